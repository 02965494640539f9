import PyProof.Rows.All
import Wide.All
import OpenK.AllK
import Wide.FinOn
import KE.KxDecode
import PySem.Challenge.RW_qh0045_01
set_option Elab.async false
set_option compiler.extract_closed false
section
open PySem PySem.W PyProof.Rows
set_option Elab.async false
namespace Mine
noncomputable def vw : Program := PySem.W.view PySem.Challenge.pw_qh0045_01 [0, 2, 5, 6, 7, 9, 10, 12, 13, 14, 15, 16, 17, 18, 25, 26, 27, 28, 29, 30, 31, 32]
local macro_rules | `(tactic| o_law) => `(tactic| refine holds_law (by decide +kernel) fun said => ?_)
set_option hygiene false in
local macro_rules | `(tactic| o_head $H) => `(tactic| (refine holds_open (q := vw) (loose := [Str.ofString "Error_ftplib", Str.ofString "bytes_types", Str.ofString "Error_binascii", Str.ofString "a2b_base64", Str.ofString "b2a_base64", Str.ofString "b64encode", Str.ofString "b64decode"]) (Xt := fun s => xlAt vw [] s && recOk (RowW.records (OpenRow.toRowW (OpenLaw.row PySem.Challenge.rw_qh0045_01))) s) (XP := XL vw []) (Yf := Hook.obs $H) (Ya := Hook.val $H) (YP := Hook.says $H) (N := 2770) ?hl (Hook.of $H) (Hook.keeps $H) (fun s e => xl_of s (Bool.and_eq_true_iff.mp e).1) XL.keeps (by rfl) (by rfl) (by rfl) (fun s e => recFacts_of (Bool.and_eq_true_iff.mp e).2) (by rfl) (by first | assumption | decide +kernel) (by decide +kernel) ⟨rfl, rfl, rfl, rfl, rfl, by decide +kernel⟩ ?hw ?hc; (case hl => intro w; kernel_rfl)))
set_option maxRecDepth 100000 in
set_option maxHeartbeats 8000000 in
open_top hd for PySem.Challenge.rw_qh0045_01
end Mine
end
section
open PySem PySem.W PyProof.Rows
set_option Elab.async false
namespace Mine
noncomputable abbrev LO : List Str := looseW vw [Str.ofString "Error_ftplib", Str.ofString "bytes_types", Str.ofString "Error_binascii", Str.ofString "a2b_base64", Str.ofString "b2a_base64", Str.ofString "b64encode", Str.ofString "b64decode"]
noncomputable abbrev topM (hdl : Option Value) (dp un : Nat) (gd : Option (List Code)) (env : Env) (outer : List Env) : Around := { handled := hdl, depth := dp, frames := some (env :: outer), guards := gd, units := un }
/-- a contract of the def at f: what a call gives back, and what it raises -/
noncomputable abbrev Sp (w : World) (mean : ExcName → Option Value) (mg mb : Str → Option Value) (hdl : Option Value) (f : Addr) (room : Nat) (news : List (Addr × Obj)) (vs : List Value) (kw : List (Str × Value))
    (Ret : Value → List (Addr × Obj) → Prop) (Exc : Value → List Value → Prop) : Prop :=
  ∀ (dp un : Nat) (gd : Option (List Code)) (env : Env) (outer : List Env) (A₀ : Around) (base h₀ : Heap) (L : Addr) (m : Str → Option Value) (s : Shared) (Q E : Value → Shared → Prop),
    env.frame = some L → env.scope.kind = .function → Below A₀ base outer h₀ → KtsDicts (outer.filterMap (·.frame)) h₀ → Fr h₀ L s.heap m → (hd.heap_1 w.params).In h₀ → News h₀ L s.heap news → Top vw LO mean mg mb h₀ →
    dp + room < recursionLimit → un + 8 * room < cLine →
    (∀ v news' h' tk', Ret v news' → Fr h₀ L h' m → News h₀ L h' news' → Q v { s with heap := h', toks := tk' }) →
    (∀ G e t cls as h' tk', Exc cls as → Fr h₀ L G m → RaisedS base G (env :: outer) e cls t as news h' → RaisedK base (env :: outer) e cls t as news h' → G.UpToSlots h' → E (.ref e) { s with heap := h', toks := tk' }) →
    wpAny (model PySem.Challenge.rw_qh0045_01.row.prog w) (topM hdl dp un gd env outer) (call (.ref f) vs kw) Q E s
end Mine
namespace Mine
open PySem.Calls
theorem dicts_push {env : Env} {outer : List Env} {h₀ g : Heap} {L : Addr} {m : Str → Option Value} (hef : env.frame = some L) (F : Fr h₀ L g m) (D : KtsDicts (outer.filterMap (·.frame)) h₀) : KtsDicts ((env :: outer).filterMap (·.frame)) g := by
  intro b hb
  obtain ⟨e, he, hf⟩ := List.mem_filterMap.mp hb
  rcases List.mem_cons.mp he with rfl | he
  · obtain ⟨oL, es, ep, hL, hLd, _⟩ := F.ns
    rw [hef] at hf
    cases hf
    exact ⟨oL, es, ep, hL, hLd⟩
  · obtain ⟨o, es, n, ho, hd⟩ := D b (List.mem_filterMap.mpr ⟨e, he, hf⟩)
    exact ⟨o, es, n, F.keep _ _ ho, hd⟩
end Mine
namespace Mine
theorem turn_lt {n i : Nat} (h : i < n) : n + 1 - (i + 1) < n + 1 - i := Nat.sub_lt_sub_left (Nat.lt_succ_of_lt h) (Nat.lt_succ_self i)
end Mine
end
section
open PySem PySem.W PyProof.Rows PySem.Calls
open PySem.Builtin PySem.Builtin._codecs
set_option Elab.async false
set_option maxRecDepth 100000
namespace Mine
theorem foldl_bytes (l : List Nat) : ∀ acc : Array UInt8, l.foldl (fun acc y => acc ++ [y.toUInt8].toArray) acc = acc ++ (l.map Nat.toUInt8).toArray := by
  induction l with
  | nil => intro acc; simp
  | cons a r ih => intro acc; rw [List.foldl_cons, ih]; simp
noncomputable def encA (x : Str) : Array UInt8 := (x.cps.toList.map Nat.toUInt8).toArray
theorem encA_size (x : Str) : (encA x).size = x.length := by simp [encA, Str.length]
theorem forIn_done {β : Type} (s1 : β) (f : Nat → β → Sem (ForInStep β)) (h1 : ∀ i, f i s1 = pure (.done s1)) : ∀ l : List Nat, (forIn l s1 f : Sem β) = pure s1 := by
  intro l
  cases l with
  | nil => rfl
  | cons a r => rw [List.forIn_cons, h1]; rfl
theorem forIn_two {β : Type} (n : Nat) (init s1 : β) (f : Nat → β → Sem (ForInStep β)) (h0 : f 0 init = pure (.yield s1)) (h1 : ∀ i, f i s1 = pure (.done s1)) : (forIn [0:n+1] init f : Sem β) = pure s1 := by
  rw [Std.Legacy.Range.forIn_eq_forIn_range']
  show forIn (List.range' 0 _ 1) init f = _
  have : (([0:n+1] : Std.Legacy.Range).size) = n + 1 := by simp [Std.Legacy.Range.size]
  rw [this, List.range'_succ, List.forIn_cons, h0]
  exact forIn_done s1 f h1 _
theorem forIn_none {β : Type} (init : β) (f : Nat → β → Sem (ForInStep β)) : (forIn [0:0] init f : Sem β) = pure init := by
  rw [Std.Legacy.Range.forIn_eq_forIn_range']
  rfl
theorem encodeNarrow_ascii (id : String) (self : Value) (x : Str) (hx : ∀ c ∈ x.cps.toList, c < 128) (hsz : x.length ≤ sizeLine) : encodeNarrow id asciiCodec none self x = pure (encA x) := by
  obtain ⟨⟨l⟩⟩ := x
  cases l with
  | nil =>
    unfold encodeNarrow
    dsimp only
    have hl : (⟨⟨[]⟩⟩ : Str).length = 0 := rfl
    rw [hl]
    refine Eq.trans (congrArg (fun z => Sem.bind z _) (forIn_none _ _)) ?_
    rfl
  | cons a r =>
    have ha : a < 128 := hx a (by simp)
    have hb : (Array.findIdx? asciiCodec.bad ({ toList := a :: r } : Array Nat)) = none := by
      rw [Array.findIdx?_eq_none_iff]
      intro c hc
      have := hx c (by simpa using hc)
      simp [asciiCodec]; lia
    have hbad : asciiCodec.bad a = false := by simp [asciiCodec]; lia
    unfold encodeNarrow
    dsimp only
    have hl : (⟨⟨a :: r⟩⟩ : Str).length = r.length + 1 := rfl
    rw [hl]
    refine Eq.trans (congrArg (fun z => Sem.bind z _) (forIn_two _ _ (r.length + 1, encA ⟨⟨a :: r⟩⟩, {}) _ ?_ ?_)) ?_
    · dsimp only
      have h0 : (({ toList := a :: r } : Array Nat)[0]?) = some a := rfl
      have he : (({ toList := a :: r } : Array Nat).extract 0) = { toList := a :: r } := by simp
      rw [h0]
      simp only [hbad, Bool.not_false, if_true, he, hb, Option.getD_none]
      have hf : Array.foldl (fun acc y => acc ++ (asciiCodec.bytesOf y).toArray) #[] ({ toList := a :: r } : Array Nat) = encA ⟨⟨a :: r⟩⟩ := by
        rw [← Array.foldl_toList]
        show List.foldl (fun acc y => acc ++ [y.toUInt8].toArray) #[] (a :: r) = _
        rw [foldl_bytes]
        simp [encA]
      rw [hf, if_neg (by simp)]
      have e : 0 + ({ toList := a :: r } : Array Nat).size = r.length + 1 := by simp
      rw [e]
    · intro i
      dsimp only
      have h0 : (({ toList := a :: r } : Array Nat)[r.length + 1]?) = none := by simp
      rw [h0, if_neg (by rw [encA_size]; lia)]
    · rfl
theorem encodeRoad_ascii (id : String) (self : Value) (x : Str) (errors : Option Str) : encodeRoad id self x (Str.ofString "ascii") errors = (do mkBytes (← encodeNarrow id asciiCodec errors self x)) := by
  unfold encodeRoad
  have e : (normalName (Str.ofString "ascii")).toString = "ascii" := by decide +kernel
  rw [e]
  first | rfl | simp only []
theorem encode_entry (x : Str) (t u : Tok) : «str.encode» ⟨[.str x t, .str (Str.ofString "ascii") u], []⟩ = (do ret (← encodeRoad "str.encode" (.str x t) x (Str.ofString "ascii") none)) := by kernel_rfl
theorem wpAny_mkBytes' {M : Model} {A : Around} {E : Value → Shared → Prop} {s : Shared} {b : Array UInt8} {Q : Value → Shared → Prop} (h : Q (.bytes b s.toks) { s with toks := s.toks + 1 }) (hb : b.size ≤ sizeLine) : wpAny M A (mkBytes b) Q E s := by
  unfold mkBytes
  rw [if_neg (Nat.not_lt.mpr hb)]
  exact fun _ _ _ => h
theorem meets_encode (x : Str) (t u : Tok) (hx : ∀ c ∈ x.cps.toList, c < 128) (hsz : x.length ≤ sizeLine) :
    Meets («str.encode» ⟨[.str x t, .str (Str.ofString "ascii") u], []⟩) (fun _ R s => ∀ t' k, R (.ok (.ret (.bytes (encA x) t'))) { s with toks := k }) := by
  refine .of_wp fun prog w A R s h => ?_
  rw [encode_entry, encodeRoad_ascii, encodeNarrow_ascii _ _ _ hx hsz]
  refine wpAny_bind (wpAny_bind (wpAny_pure ?_))
  refine wpAny_mkBytes' ?_ (by rw [encA_size]; exact hsz)
  exact wpAny_pure ⟨_, rfl, h _ _⟩
section
variable {prog : Program} {w : World} {A : Around} {E : Value → Shared → Prop} {s : Shared}
theorem call_encode {x : Str} {t u : Tok} {Q : Value → Shared → Prop} (hx : ∀ c ∈ x.cps.toList, c < 128) (hsz : x.length ≤ sizeLine) (h : ∀ t' k, Q (.bytes (encA x) t') { s with toks := k }) :
    wpAny (model prog w) A (call (.builtin "str.encode") [.str x t, .str (Str.ofString "ascii") u]) Q E s :=
  call_meets F.slot_str_encode (typeIs_str _ _ _) F.entry_str_encode (F.args_str_encode_2 _ _) (meets_encode x t u hx hsz) h
theorem method_encode {M : Model} {x : Str} {t : Tok} {pl : Sem Bool} {Q : Value × List Value → Shared → Prop} (h : Q (.builtin "str.encode", [.str x t]) s) : wpAny M A (getMethod (.str x t) "encode" pl) Q E s := by
  with_reducible exact GM.of (.str x t) (typeIs_str _ _ _) F.slot_str_encode F.type_str_encode GM.noRef h
end
end Mine
end
section
open PySem PySem.W PyProof.Rows PySem.Calls
open PySem.Builtin PySem.Builtin._codecs
set_option Elab.async false
set_option maxRecDepth 100000
namespace Mine
theorem slot_translate : Slot "bytes" "translate" "bytes.translate" :=
  .of (owner := "bytes") (n := "translate") (by rw [typeLookup_type, builtinLookup_eq_fast]; kernel_rfl) (by decide +kernel) (by decide +kernel) (by decide +kernel)
    (by first | exact .inl (by decide +kernel) | exact .inr (by decide +kernel)) (by rw [isSubtype_type]; kernel_rfl)
theorem type_translate : typeOf (.builtin "bytes.translate") = pure (.type "method_descriptor") := by show builtinType _ = _; rw [builtinType_eq_fast]; kernel_rfl
theorem entry_translate : entryFor table "bytes.translate" = some Builtin.«bytes.translate» := entryFor_of_tree (by kernel_rfl)
theorem args_translate (a b : Value) : argsOk "bytes.translate" ⟨[a, b], []⟩ := by
  unfold argsOk; rw [signature?_of (id := "bytes.translate") (n := ['e', 't', 'a', 'l', 's', 'n', 'a', 'r', 't']) (o := ['s', 'e', 't', 'y', 'b']) (by kernel_rfl) FB.owner_bytes]; kernel_rfl
theorem bp {α β : Type} (a : α) (f : α → Sem β) : (pure a >>= f) = f a := rfl
theorem fo (b : Array UInt8) : b.filter (fun c => !(#[] : Array UInt8).contains c) = b := by simp
noncomputable def trA (t b : Array UInt8) : Array UInt8 := b.map fun c => t.getD c.toNat c
theorem translate_entry (b tb : Array UInt8) (t u : Tok) (hs : tb.size = 256) :
    «bytes.translate» ⟨[.bytes b t, .bytes tb u], []⟩ = (if (trA tb b == b) = true then (do rule "bytes.translate.unchanged"; ret (.bytes b t)) else (do ret (← mkBytes (trA tb b)))) := by
  show Builtin.Bytes.translateM .bytes _ = _
  unfold Builtin.Bytes.translateM
  have hb : ∀ id, Builtin.Bytes.bytesLike id (.bytes tb u) = pure tb := fun _ => KBd.like_eq
  have hp : Builtin.Bytes.payload (.bytes b t) = pure b := rfl
  have hn : (Value.bytes tb u == Value.none) = false := rfl
  dsimp only [List.length_cons, List.length_nil, List.any_nil, List.head?, Option.map, HOrElse.hOrElse]
  simp only [hn, hb, hp, bp, hs, Nat.zero_add, Nat.add_zero, gt_iff_lt, if_false, Bool.false_eq_true, bne_self_eq_false, fo, OrElse.orElse, Option.orElse]
  rw [if_neg (by decide)]
  rfl
theorem trA_size (t b : Array UInt8) : (trA t b).size = b.size := by simp [trA]
theorem meets_translate (b tb : Array UInt8) (t u : Tok) (hs : tb.size = 256) (hb : b.size ≤ sizeLine) :
    Meets («bytes.translate» ⟨[.bytes b t, .bytes tb u], []⟩) (fun _ R s => ∀ t' k, R (.ok (.ret (.bytes (trA tb b) t'))) { s with toks := k }) := by
  refine .of_wp fun prog w A R s h => ?_
  rw [translate_entry _ _ _ _ hs]
  split
  · rename_i e
    refine wpAny_bind (wpAny_rule ?_)
    have e' : trA tb b = b := eq_of_beq e
    rw [e'] at h
    exact wpAny_pure ⟨_, rfl, h t s.toks⟩
  · refine wpAny_bind (wpAny_mkBytes' ?_ (by rw [trA_size]; exact hb))
    exact wpAny_pure ⟨_, rfl, h _ _⟩
section
variable {prog : Program} {w : World} {A : Around} {E : Value → Shared → Prop} {s : Shared}
theorem call_translate {b tb : Array UInt8} {t u : Tok} {Q : Value → Shared → Prop} (hs : tb.size = 256) (hb : b.size ≤ sizeLine) (h : ∀ t' k, Q (.bytes (trA tb b) t') { s with toks := k }) :
    wpAny (model prog w) A (call (.builtin "bytes.translate") [.bytes b t, .bytes tb u]) Q E s :=
  call_meets slot_translate (typeIs_bytes _ _ _) entry_translate (args_translate _ _) (meets_translate b tb t u hs hb) h
theorem method_translate {M : Model} {b : Array UInt8} {t : Tok} {pl : Sem Bool} {Q : Value × List Value → Shared → Prop} (h : Q (.builtin "bytes.translate", [.bytes b t]) s) : wpAny M A (getMethod (.bytes b t) "translate" pl) Q E s := by
  with_reducible exact KBd.method_of (.bytes b t) (typeIs_bytes _ _ _) slot_translate type_translate KBd.noRef h
end
/-- the table of bytes.maketrans -/
noncomputable def mkTab (frm to : Array UInt8) : Array UInt8 := (frm.toList.zip to.toList).foldl (fun t (x : UInt8 × UInt8) => t.setIfInBounds x.1.toNat x.2) ((Array.range 256).map (·.toUInt8))
theorem mkTab_size (frm to : Array UInt8) : (mkTab frm to).size = 256 := by
  unfold mkTab
  generalize (frm.toList.zip to.toList) = l
  have : ∀ (l : List (UInt8 × UInt8)) (a : Array UInt8), (l.foldl (fun t (x : UInt8 × UInt8) => t.setIfInBounds x.1.toNat x.2) a).size = a.size := by
    intro l
    induction l with
    | nil => intro a; rfl
    | cons p r ih => intro a; rw [List.foldl_cons, ih]; simp
  rw [this]; simp
theorem maketrans_entry (frm to : Array UInt8) (t u : Tok) (hs : frm.size = to.size) :
    «bytes.maketrans» ⟨[.bytes frm t, .bytes to u], []⟩ = (do ret (← mkBytes (mkTab frm to))) := by
  show Builtin.Bytes.maketransM .bytes _ = _
  unfold Builtin.Bytes.maketransM
  have hb : ∀ id (b : Array UInt8) (u : Tok), Builtin.Bytes.bytesLike id (.bytes b u) = pure b := fun _ _ _ => KBd.like_eq
  simp only [List.headD_cons, List.getD_cons_succ, List.getD_cons_zero, hb, bp, hs, bne_self_eq_false, Bool.false_eq_true, if_false]
  rfl
theorem meta_bytes : typeOf (.type "bytes") = pure (.type "type") := by first | rfl | kernel_rfl
theorem plain_maketrans : plainId "bytes.maketrans" = true := by decide +kernel
theorem entry_maketrans : entryFor table "bytes.maketrans" = some Builtin.«bytes.maketrans» := entryFor_of_tree (by kernel_rfl)
theorem check_maketrans (a b : Value) : checkBuiltinCall "bytes.maketrans" ⟨[a, b], []⟩ = pure () := by kernel_rfl
theorem call_maketrans {prog : Program} {w : World} {A : Around} {E : Value → Shared → Prop} {s : Shared} {frm to : Array UInt8} {t u : Tok} {Q : Value → Shared → Prop} (hs : frm.size = to.size) (h : ∀ t' k, Q (.bytes (mkTab frm to) t') { s with toks := k }) :
    wpAny (model prog w) A (call (.builtin "bytes.maketrans") [.bytes frm t, .bytes to u]) Q E s := by
  refine wpAny_call (codeAny_call_builtin plain_maketrans entry_maketrans ?_)
  rw [check_maketrans]
  refine wpAny_pure ?_
  rw [maketrans_entry _ _ _ _ hs]
  refine wpAny_bind (wpAny_mkBytes' ?_ (by rw [mkTab_size]; decide))
  exact wpAny_pure (h _ _)
end Mine
end
section
open PySem PySem.W PyProof.Rows PySem.Calls
open PySem.Builtin PySem.Builtin.Str
set_option Elab.async false
namespace Mine
theorem pick_range {α : Type} (l : List α) (a : Nat) : ∀ k, ((List.range k).map (fun i => a + i)).filterMap (fun j => l[j]?) = (l.drop a).take k := by
  intro k
  induction k with
  | zero => simp
  | succ k ih =>
    rw [List.range_succ, List.map_append, List.filterMap_append, ih, List.take_add_one]
    congr 1
    rw [List.getElem?_drop]
    cases h : l[a + k]? with
    | none => simp [h]
    | some v => simp [h]
theorem clamp (a n : Nat) : max 0 (min (a : Int) (n : Int)) = ((min a n : Nat) : Int) := by
  rw [Int.max_eq_right (Int.le_min.mpr ⟨Int.natCast_nonneg a, Int.natCast_nonneg n⟩)]
  rcases Nat.le_total a n with h | h
  · rw [Nat.min_eq_left h, Int.min_eq_left (Int.ofNat_le.mpr h)]
  · rw [Nat.min_eq_right h, Int.min_eq_right (Int.ofNat_le.mpr h)]
theorem spanN (p q : Nat) : ((if (q : Int) < (p : Int) then ((p : Int) - (q : Int) + 1 - 1) else 0)).toNat = p - q := by
  split
  · rw [Int.add_sub_cancel]; exact Int.toNat_sub p q
  · rename_i h; exact (Nat.sub_eq_zero_of_le (Int.ofNat_le.mp (Int.not_lt.mp h))).symm
theorem neg_no (a : Nat) : ¬ ((a : Int) < 0) := Int.not_lt.mpr (Int.natCast_nonneg a)
theorem whole_at {p q n : Nat} (hp : p ≤ n) (hq : q ≤ n) (h : p - q = n) : q = 0 := by
  cases n with
  | zero => exact Nat.le_zero.mp hq
  | succ n => exact Nat.eq_zero_of_not_pos fun q0 => absurd h (Nat.ne_of_lt (Nat.lt_of_lt_of_le (Nat.sub_lt (Nat.lt_of_lt_of_le (Nat.pos_of_ne_zero fun e => by rw [e, Nat.zero_sub] at h; cases h) (Nat.le_refl p)) q0) hp))
theorem slice_idx (a b : Nat) (n : Nat) (hab : a ≤ b) : strSliceIndices (some (a : Int)) (some (b : Int)) 1 n = (List.range (min b n - min a n)).map (fun i => min a n + i) := by
  unfold strSliceIndices sliceRange
  have ha := neg_no a
  have hb := neg_no b
  simp only [ha, hb, if_false, show (1 : Int) > 0 by decide, if_true, Int.one_mul, Int.ediv_one]
  have e1 : (max 0 (min (a : Int) (n : Int))) = ((min a n : Nat) : Int) := clamp a n
  have e2 : (max 0 (min (b : Int) (n : Int))) = ((min b n : Nat) : Int) := clamp b n
  rw [e1, e2]
  have e3 : ((if ((min a n : Nat) : Int) < ((min b n : Nat) : Int) then (((min b n : Nat) : Int) - ((min a n : Nat) : Int) + 1 - 1) else 0)).toNat = min b n - min a n := spanN _ _
  rw [e3]
  apply List.map_congr_left
  intro i _
  lia
theorem slice_idx_n (b : Nat) (n : Nat) : strSliceIndices none (some (b : Int)) 1 n = (List.range (min b n)).map (fun i => 0 + i) := by
  have h := slice_idx 0 b n (Nat.zero_le _)
  simp only [Nat.zero_min, Nat.sub_zero] at h
  rw [← h]
  unfold strSliceIndices sliceRange
  have e0 : max 0 (min ((0 : Nat) : Int) (n : Int)) = 0 := by rw [clamp, Nat.zero_min]; rfl
  simp only [neg_no 0, if_false, show (1 : Int) > 0 by decide, if_true, e0]
theorem slice_idx_s (a : Nat) (n : Nat) : strSliceIndices (some (a : Int)) none 1 n = (List.range (n - min a n)).map (fun i => min a n + i) := by
  have h := slice_idx a (max a n) n (Nat.le_max_left _ _)
  have e : min (max a n) n - min a n = n - min a n := by rw [Nat.min_eq_right (Nat.le_max_right a n)]
  rw [e] at h
  rw [← h]
  unfold strSliceIndices sliceRange
  have hb := neg_no (max a n)
  have e2 : (max 0 (min ((max a n : Nat) : Int) (n : Int))) = (n : Int) := by rw [clamp, Nat.min_eq_right (Nat.le_max_right a n)]
  simp only [hb, if_false, show (1 : Int) > 0 by decide, if_true, e2]
theorem slice_gen (x : Str) (l u : Option Int) (a k : Nat) (h : strSliceIndices l u 1 x.length = (List.range k).map (fun i => a + i)) (hk : k = x.length → a = 0) : Txt.slice x l u = ⟨((x.cps.toList.drop a).take k).toArray⟩ := by
  unfold Txt.slice
  rw [h]
  simp only [List.length_map, List.length_range]
  split
  · rename_i e
    have e' : k = x.length := by simpa using e
    have ea := hk e'
    subst ea
    have : x.cps.toList.length = x.length := by simp [Str.length]
    rw [List.drop_zero, e', ← this, List.take_length]
  · have := pick_range x.cps.toList a k
    simp only [Array.getElem?_toList] at this
    rw [this]
theorem slice_ss (x : Str) (a b : Nat) (hab : a ≤ b) : Txt.slice x (some (a : Int)) (some (b : Int)) = ⟨((x.cps.toList.drop a).take (b - a)).toArray⟩ := by
  rw [slice_gen x _ _ _ _ (slice_idx a b x.length hab) (fun h => whole_at (Nat.min_le_right _ _) (Nat.min_le_right _ _) h)]
  congr 2
  have hl : x.cps.toList.length = x.length := by simp [Str.length]
  by_cases h1 : a ≤ x.length
  · rw [Nat.min_eq_left h1]
    by_cases h2 : b ≤ x.length
    · rw [Nat.min_eq_left h2]
    · rw [Nat.min_eq_right (Nat.le_of_not_le h2)]
      rw [List.take_of_length_le (by rw [List.length_drop]; lia), List.take_of_length_le (by rw [List.length_drop]; lia)]
  · rw [Nat.min_eq_right (Nat.le_of_not_le h1)]
    rw [List.drop_of_length_le (Nat.le_of_eq hl), List.drop_of_length_le (Nat.le_trans (Nat.le_of_eq hl) (Nat.le_of_not_le h1))]
    simp
theorem slice_ns (x : Str) (b : Nat) : Txt.slice x none (some (b : Int)) = ⟨(x.cps.toList.take b).toArray⟩ := by
  rw [slice_gen x _ _ _ _ (slice_idx_n b x.length) (fun _ => rfl), List.drop_zero]
  congr 2
  have hl : x.cps.toList.length = x.length := by simp [Str.length]
  by_cases h2 : b ≤ x.length
  · rw [Nat.min_eq_left h2]
  · rw [Nat.min_eq_right (Nat.le_of_not_le h2), List.take_of_length_le (Nat.le_of_eq hl), List.take_of_length_le (Nat.le_trans (Nat.le_of_eq hl) (Nat.le_of_not_le h2))]
theorem slice_sn (x : Str) (a : Nat) : Txt.slice x (some (a : Int)) none = ⟨(x.cps.toList.drop a).toArray⟩ := by
  rw [slice_gen x _ _ _ _ (slice_idx_s a x.length) (fun h => whole_at (Nat.le_refl _) (Nat.min_le_right _ _) h)]
  congr 2
  have hl : x.cps.toList.length = x.length := by simp [Str.length]
  by_cases h1 : a ≤ x.length
  · rw [Nat.min_eq_left h1, List.take_of_length_le (by rw [List.length_drop]; lia)]
  · rw [Nat.min_eq_right (Nat.le_of_not_le h1), List.drop_of_length_le (Nat.le_of_eq hl), List.drop_of_length_le (Nat.le_trans (Nat.le_of_eq hl) (Nat.le_of_not_le h1))]
    simp
theorem item_at {r : Str} {i : Nat} (h1 : i < r.length) : Txt.item r (i : Int) = ⟨#[r.cps.toList[i]'(by simpa [Str.length] using h1)]⟩ := by
  unfold Txt.item Txt.charAt seqIndex?
  have h0 := neg_no i
  have h2 : (0 ≤ (i : Int) && decide ((i : Int) < (r.length : Int))) = true := by rw [decide_eq_true (Int.natCast_nonneg i), decide_eq_true (Int.ofNat_lt.mpr h1)]; rfl
  simp only [h0, if_false, h2, if_true, Option.bind_some, Int.toNat_natCast]
  have h3 : i < r.cps.size := h1
  simp [h3]
end Mine
end
section
open PySem PySem.W PyProof.Rows PySem.Calls
set_option Elab.async false
namespace Mine
section
variable {prog : Program} {w : World} {A : Around} {E : Value → Shared → Prop} {s : Shared} {env : Env} {h₀ : Heap} {x : Str} {body : List Stmt} {Q : Flow → Shared → Prop}
/-- a turn's end, in a word of its own -/
noncomputable def BEnd (h₀ : Heap) (L : Addr) (J : (Str → Option Value) → List (Addr × Obj) → Prop) (own : List (Addr × Obj)) (adr : List Addr) (s₁ s₂ : Shared) : Prop := InvEndN h₀ L J own adr s₁ s₂
noncomputable def BPost (h₀ : Heap) (L : Addr) (J : (Str → Option Value) → List (Addr × Obj) → Prop) (own : List (Addr × Obj)) (adr : List Addr) (s₁ : Shared) (Q : Flow → Shared → Prop) (f : Flow) (s₂ : Shared) : Prop :=
  match f with
  | .ret v => Q (.ret v) s₂
  | .brk => Q .next s₂
  | _ => BEnd h₀ L J own adr s₁ s₂
theorem bytes_loop {σ : Type} {b : Array UInt8} {tb : Tok} {m₀ : Str → Option Value} (Led : σ → List (Addr × Obj)) (ps : σ → List (Str × Value)) (stored : List Str) (P : List Int → σ → Prop) (c₀ : σ)
    (hh : A.handled = none) (F : Fr h₀ env.locals s.heap m₀) (N : News h₀ env.locals s.heap (Led c₀)) (hk : ∀ p ∈ ps c₀, m₀ p.1 = some p.2) (hp : P [] c₀)
    (turn : ∀ (c : σ) (pre post : List Int) (n : Int) t (u : Str → Option Value) h tk own, KBw.bInts b = pre ++ n :: post → 0 ≤ n → n < 256 → OwnOff own ((Led c₀).map (·.1)) → P pre c →
      Fr h₀ env.locals h (fun y => if y = x then some (.int n t) else kstB (fun z => if stored.contains z then u z else m₀ z) (ps c) y) → News h₀ env.locals h (Led c ++ own) →
      wpAny (model prog w) A (execs body env) (BPost h₀ env.locals (KstS Led ps (fun _ => True) x stored m₀ P (pre ++ [n])) own ((Led c₀).map (·.1)) { s with heap := h, toks := tk } Q) E { s with heap := h, toks := tk })
    (done : ∀ (c : σ) (u : Str → Option Value) h tk, P (KBw.bInts b) c → Fr h₀ env.locals h (fun y => if y = x then u y else kstB (fun z => if stored.contains z then u z else m₀ z) (ps c) y) → News h₀ env.locals h (Led c) → Q .next { s with heap := h, toks := tk }) :
    wpAny (model prog w) A (pyIter (.bytes b tb)) (fun it s₂ => LoopAtV prog w A h₀ env x body Q E it s₂) E s := by
  refine KStb.kst_bytes Led ps (fun _ => True) stored P c₀ rfl rfl hh F N trivial hk hp ?_ ?_
  · intro c pre post n t u h tk own e _ h0 h1 ho _ hp F' N'
    refine wpAny_mono (turn c pre post n t u h tk own e h0 h1 ho hp F' N') (fun f s₂ q => ?_) fun _ _ z => z
    cases f <;> exact q
  · intro c u h tk _ _ hp F' N'
    exact done c u h tk hp F' N'
theorem bend {σ : Type} {Led : σ → List (Addr × Obj)} {ps : σ → List (Str × Value)} {stored : List Str} {m₀ : Str → Option Value} {P : List Int → σ → Prop} {pre : List Int} (c : σ) {L : Addr} {m' : Str → Option Value} {own news' : List (Addr × Obj)} {adr : List Addr} {s₁ : Shared} {h' : Heap} {tk : Nat}
    (F : Fr h₀ L h' m') (N : News h₀ L h' news') (hk : ∀ p ∈ ps c, m' p.1 = some p.2) (hn : ∀ p ∈ Led c, p ∈ news') (ho : ∀ p ∈ own, p ∈ news') (ha : (Led c).map (·.1) = adr) (hr : ∀ z, z ≠ x → (∀ p ∈ ps c, z ≠ p.1) → stored.contains z = false → m' z = m₀ z) (hp : P pre c) :
    BEnd h₀ L (KstS Led ps (fun _ => True) x stored m₀ P pre) own adr s₁ { s₁ with heap := h', toks := tk } := kst_end c F N hn ho ha trivial hk hr hp
end
end Mine
namespace Mine
theorem off_app {news own : List (Addr × Obj)} {l : Addr} {o : Obj} (l1 : ∀ p ∈ news, p.1 < l) (ho : OwnOff own (((l, o) :: news).map (·.1))) : ∀ q ∈ news ++ own, q.1 ≠ l := fun q hq =>
  (List.mem_append.mp hq).elim (fun z => Nat.ne_of_lt (l1 q z)) fun z => ho q z l (List.Mem.head _)
end Mine
namespace Mine
theorem raisedS_sub {base G h : Heap} {l : List Env} {e t : Addr} {cls : Value} {vs : List Value} {news news' : List (Addr × Obj)} (R : RaisedS base G l e cls t vs news' h) (hs : ∀ p ∈ news, p ∈ news') : RaisedS base G l e cls t vs news h := by
  obtain ⟨⟨B, hB, hBG, hl, hfl, hnew⟩, htup⟩ := R
  exact ⟨⟨B, hB, hBG, fun q hq => hl q (hs q hq), hfl, hnew⟩, htup⟩
end Mine
end
section
open PySem PySem.W PyProof.Rows PySem.Calls
set_option Elab.async false
namespace Mine
/-- int expressions over names and literals: their value, in one step of the walk -/
inductive AE (env : Env) (m : Str → Option Value) : Expr → Int → Prop
  | int {i : Int} {k pos} : AE env m (.Constant (.int i) k pos) i
  | name {x : Str} {pos} {n : Int} {t : Tok} (hm : m x = some (.int n t)) (hx : env.kindOf x = some .local) (hd : (x == ("__debug__" : Str)) = false) : AE env m (.Name x pos) n
  | add {xl xr xp xa xb} (y1 : AE env m xl xa) (y2 : AE env m xr xb) : AE env m (.BinOp xl .Add xr xp) (xa + xb)
  | sub {xl xr xp xa xb} (y1 : AE env m xl xa) (y2 : AE env m xr xb) : AE env m (.BinOp xl .Sub xr xp) (xa - xb)
  | mul {xl xr xp xa xb} (y1 : AE env m xl xa) (y2 : AE env m xr xb) (ym : IntMulOk xa xb) : AE env m (.BinOp xl .Mult xr xp) (xa * xb)
  | fdiv {xl xr xp xa xb} (y1 : AE env m xl xa) (y2 : AE env m xr xb) (yb : xb ≠ 0) (yp : Builtin.divisionGoesByPylong xa xb = false) : AE env m (.BinOp xl .FloorDiv xr xp) (xa.fdiv xb)
  | mod {xl xr xp xa xb} (y1 : AE env m xl xa) (y2 : AE env m xr xb) (yb : xb ≠ 0) : AE env m (.BinOp xl .Mod xr xp) (xa.fmod xb)
  | shl {xl xr xp xa xb} (y1 : AE env m xl xa) (y2 : AE env m xr xb) (y0 : 0 ≤ xb) (yb : xb ≤ 1000000) (ya : xa.natAbs < 2 ^ 64) : AE env m (.BinOp xl .LShift xr xp) (xa * 2 ^ xb.toNat)
  | shr {xl xr xp xa xb} (y1 : AE env m xl xa) (y2 : AE env m xr xb) (y0 : 0 ≤ xb) : AE env m (.BinOp xl .RShift xr xp) (xa.fdiv (2 ^ xb.toNat))
  | and_ {xl xr xp xa xb} (y1 : AE env m xl xa) (y2 : AE env m xr xb) : AE env m (.BinOp xl .BitAnd xr xp) (Builtin.bitAnd xa xb)
  | or_ {xl xr xp xa xb} (y1 : AE env m xl xa) (y2 : AE env m xr xb) : AE env m (.BinOp xl .BitOr xr xp) (Builtin.bitOr xa xb)
  | pow {xl xr xp xa xb} (y1 : AE env m xl xa) (y2 : AE env m xr xb) (y0 : 0 ≤ xb) (yb : xb ≤ 1000000) (ya : xa.natAbs < 2 ^ 64) : AE env m (.BinOp xl .Pow xr xp) (xa ^ xb.toNat)
inductive TE (env : Env) (m : Str → Option Value) : Expr → Bool → Prop
  | lt {xl xr xp xa xb} (y1 : AE env m xl xa) (y2 : AE env m xr xb) (ym : behindInMarks .Lt xr = false) : TE env m (.Compare xl [.Lt] [xr] xp) (decide (xa < xb))
  | le {xl xr xp xa xb} (y1 : AE env m xl xa) (y2 : AE env m xr xb) (ym : behindInMarks .LtE xr = false) : TE env m (.Compare xl [.LtE] [xr] xp) (decide (xa ≤ xb))
  | gt {xl xr xp xa xb} (y1 : AE env m xl xa) (y2 : AE env m xr xb) (ym : behindInMarks .Gt xr = false) : TE env m (.Compare xl [.Gt] [xr] xp) (decide (xb < xa))
  | ge {xl xr xp xa xb} (y1 : AE env m xl xa) (y2 : AE env m xr xb) (ym : behindInMarks .GtE xr = false) : TE env m (.Compare xl [.GtE] [xr] xp) (decide (xb ≤ xa))
  | eq {xl xr xp xa xb} (y1 : AE env m xl xa) (y2 : AE env m xr xb) (ym : behindInMarks .Eq xr = false) : TE env m (.Compare xl [.Eq] [xr] xp) (xa == xb)
  | ne {xl xr xp xa xb} (y1 : AE env m xl xa) (y2 : AE env m xr xb) (ym : behindInMarks .NotEq xr = false) : TE env m (.Compare xl [.NotEq] [xr] xp) (xa != xb)
section
variable {prog : Program} {w : World} {A : Around} {env : Env} {m : Str → Option Value} {h₀ h : Heap} {E : Value → Shared → Prop} {g : Array GenState} {d : Drawn} {t : Nat} {o : OsState}
theorem AE.wp {e : Expr} {n : Int} {Q : Value → Shared → Prop} (hk : env.scope.kind = .function) (F : Fr h₀ env.locals h m) (H : AE env m e n) (k : ∀ t1 t2, Q (.int n t1) ⟨h, g, d, t2, o⟩) : wpAny (model prog w) A (eval e env) Q E ⟨h, g, d, t, o⟩ := by
  induction H generalizing t Q with
  | int => exact wpAny_Constant_int (k _ _)
  | name hm hx hd => exact wpAny_Name (wpAny_loadName_local hk hx F.ns hm (k _ _)) hd
  | add _ _ i1 i2 => exact wpAny_BinOp (i1 fun _ _ => i2 fun _ _ => PyProof.Rows.add_int (k _ _))
  | sub _ _ i1 i2 => exact wpAny_BinOp (i1 fun _ _ => i2 fun _ _ => PyProof.Rows.sub_int (k _ _))
  | mul _ _ hm i1 i2 => exact wpAny_BinOp (i1 fun _ _ => i2 fun _ _ => PyProof.Rows.mul_int (k _ _) hm)
  | fdiv _ _ hb hp i1 i2 => exact wpAny_BinOp (i1 fun _ _ => i2 fun _ _ => PyProof.Rows.floordiv_int hb (k _ _) (.inl hp))
  | mod _ _ hb i1 i2 => exact wpAny_BinOp (i1 fun _ _ => i2 fun _ _ => PyProof.Rows.mod_int' hb (k _ _))
  | shl _ _ h0 hb ha i1 i2 => exact wpAny_BinOp (i1 fun _ _ => i2 fun _ _ => lshift_int_small h0 hb ha (k _ _))
  | shr _ _ h0 i1 i2 => exact wpAny_BinOp (i1 fun _ _ => i2 fun _ _ => PyProof.Rows.rshift_int h0 (k _ _))
  | and_ _ _ i1 i2 => exact wpAny_BinOp (i1 fun _ _ => i2 fun _ _ => PyProof.Rows.and_int (k _ _))
  | or_ _ _ i1 i2 => exact wpAny_BinOp (i1 fun _ _ => i2 fun _ _ => PyProof.Rows.or_int (k _ _))
  | pow _ _ h0 hb ha i1 i2 => exact wpAny_BinOp (i1 fun _ _ => i2 fun _ _ => pow_int_small h0 hb ha (k _ _))
theorem TE.wp {e : Expr} {b : Bool} {whole : Sem Value} {Q : Bool → Shared → Prop} (hk : env.scope.kind = .function) (F : Fr h₀ env.locals h m) (H : TE env m e b) (k : ∀ t2, Q b ⟨h, g, d, t2, o⟩) : wpAny (model prog w) A (isTrue e env whole) Q E ⟨h, g, d, t, o⟩ := by
  cases H with
  | lt h1 h2 hm => exact wpAny_isTrue_Compare1 (h1.wp hk F fun _ _ => h2.wp hk F fun _ _ => PyProof.Rows.lt_int (wpAny_truthy_bool (k _))) hm
  | le h1 h2 hm => exact wpAny_isTrue_Compare1 (h1.wp hk F fun _ _ => h2.wp hk F fun _ _ => PyProof.Rows.le_int (wpAny_truthy_bool (k _))) hm
  | gt h1 h2 hm => exact wpAny_isTrue_Compare1 (h1.wp hk F fun _ _ => h2.wp hk F fun _ _ => PyProof.Rows.gt_int (wpAny_truthy_bool (k _))) hm
  | ge h1 h2 hm => exact wpAny_isTrue_Compare1 (h1.wp hk F fun _ _ => h2.wp hk F fun _ _ => PyProof.Rows.ge_int (wpAny_truthy_bool (k _))) hm
  | eq h1 h2 hm => exact wpAny_isTrue_Compare1 (h1.wp hk F fun _ _ => h2.wp hk F fun _ _ => PyProof.Rows.eq_int (wpAny_truthy_bool (k _))) hm
  | ne h1 h2 hm => exact wpAny_isTrue_Compare1 (h1.wp hk F fun _ _ => h2.wp hk F fun _ _ => PyProof.Rows.ne_int (wpAny_truthy_bool (k _))) hm
theorem flat_int {i : Int} {k pos} {Q : Value → Shared → Prop} (H : Q (.int i t) ⟨h, g, d, t + 1, o⟩) : wpAny (model prog w) A (eval (.Constant (.int i) k pos) env) Q E ⟨h, g, d, t, o⟩ := wpAny_Constant_int H
theorem storeM {M : Model} {cn : Str} {cs : Scope} {L a : Addr} {ccd : Value} {cl : List (Str × Addr)} {x : Str} {v : Value} {news : List (Addr × Obj)} {Q : Unit → Shared → Prop} (F : Fr h₀ L h m) (N : News h₀ L h news)
    (k : let m' : Str → Option Value := fun y => if y = x then some v else m y; ∀ h', Fr h₀ L h' m' → News h₀ L h' news → Q () ⟨h', g, d, t + 1, o⟩)
    (hk : cs.kind = .function) (hx : (envX cn cs L a ccd cl).kindOf x = some .local) : wpAny M A (storeName (envX cn cs L a ccd cl) x v) Q E ⟨h, g, d, t, o⟩ := storeX_L F N k hk hx
end
end Mine
end
section
open PySem PySem.W PyProof.Rows PySem.Calls
set_option Elab.async false
namespace Mine
set_option maxRecDepth 100000 in
set_option maxHeartbeats 4000000 in
theorem pct_text {prog : Program} {w : World} {A : Around} {E : Value → Shared → Prop} {s : Shared} {n : Int} {t u : Tok} {Q : Value → Shared → Prop} (h0 : 0 ≤ n) (h1 : n < 10 ^ 10) (h : ∀ y t' k, Q (.str y t') { s with toks := k }) :
    wpAny (model prog w) A (binaryOp .Mod (.str (Str.ofString "Invalid base64-encoded string: number of data characters (%d) cannot be 1 more than a multiple of 4") t) (.int n u)) Q E s := by
  refine' KPc.mod_int ?kpcF h0 h1 ?kpcm ?_
  case kpcF => kpc_eq
  case kpcm => k_dflt kpc_run
  exact fun t' k => h _ t' k
end Mine
end
namespace Mine
section
open PySem PySem.W PyProof.Rows
local macro_rules | `(tactic| walk_at $s:str) => `(tactic| k_extra $s)
section
open PySem PySem.W PyProof.Rows
set_option Elab.async false
set_option linter.unusedSimpArgs false
noncomputable def b64v (c : Int) : Int := if 65 ≤ c ∧ c ≤ 90 then c - 65 else if 97 ≤ c ∧ c ≤ 122 then c - 71 else if 48 ≤ c ∧ c ≤ 57 then c + 4 else if c = 43 then 62 else if c = 47 then 63 else 64
section
variable {c : Int}
theorem b64v_a (h1 : 65 ≤ c) (h2 : c ≤ 90) : b64v c = c - 65 := if_pos ⟨h1, h2⟩
theorem b64v_b (n1 : ¬ (65 ≤ c ∧ c ≤ 90)) (h1 : 97 ≤ c) (h2 : c ≤ 122) : b64v c = c - 71 := (if_neg n1).trans (if_pos ⟨h1, h2⟩)
theorem b64v_c (n1 : ¬ (65 ≤ c ∧ c ≤ 90)) (n2 : ¬ (97 ≤ c ∧ c ≤ 122)) (h1 : 48 ≤ c) (h2 : c ≤ 57) : b64v c = c + 4 := (if_neg n1).trans ((if_neg n2).trans (if_pos ⟨h1, h2⟩))
theorem b64v_d (n1 : ¬ (65 ≤ c ∧ c ≤ 90)) (n2 : ¬ (97 ≤ c ∧ c ≤ 122)) (n3 : ¬ (48 ≤ c ∧ c ≤ 57)) (h : c = 43) : b64v c = 62 := (if_neg n1).trans ((if_neg n2).trans ((if_neg n3).trans (if_pos h)))
theorem b64v_e (n1 : ¬ (65 ≤ c ∧ c ≤ 90)) (n2 : ¬ (97 ≤ c ∧ c ≤ 122)) (n3 : ¬ (48 ≤ c ∧ c ≤ 57)) (n4 : ¬ c = 43) (h : c = 47) : b64v c = 63 := (if_neg n1).trans ((if_neg n2).trans ((if_neg n3).trans ((if_neg n4).trans (if_pos h))))
theorem b64v_f (n1 : ¬ (65 ≤ c ∧ c ≤ 90)) (n2 : ¬ (97 ≤ c ∧ c ≤ 122)) (n3 : ¬ (48 ≤ c ∧ c ≤ 57)) (n4 : ¬ c = 43) (n5 : ¬ c = 47) : b64v c = 64 := (if_neg n1).trans ((if_neg n2).trans ((if_neg n3).trans ((if_neg n4).trans (if_neg n5))))
end
theorem b64v_eq {c x : Int} {t : Tok} (h : x = b64v c) : Value.int x t = Value.int (b64v c) t := by rw [h]
set_option maxRecDepth 100000 in
set_option maxHeartbeats 8000000 in
theorem b64v_spec (w : World) (mean : ExcName → Option Value) (mg mb : Str → Option Value) (news : List (Addr × Obj)) (c : Int) (tc : Tok) :
    Sp w mean mg mb none 107 1 news [.int c tc] [] (fun v n => (∃ t, v = .int (b64v c) t) ∧ n = news) (fun _ _ => False) := by
  w_on
  k_with_none
  k_with "eval BinOp" => (k_here; k_dflt (refine' AE.wp ?kk ?kF ?kH ?_; (case kF => k_asm); (case kk => rfl); (case kH => ((repeat' (first | exact AE.int | apply AE.add | apply AE.sub | apply AE.mul | apply AE.mod | apply AE.fdiv | apply AE.and_ | apply AE.or_ | apply AE.shl | apply AE.shr | apply AE.pow | exact AE.name rfl rfl (by decide) | (show IntMulOk _ _; mul_fits) | decide | exact PyProof.noPylong_of_log2 (by decide +kernel) | omega)); done)); k_whole; intro _ _; (try rw [ae6])))
  k_with "isTrue Compare" => (k_here; k_dflt (refine' TE.wp ?kk ?kF ?kH ?_; (case kF => k_asm); (case kk => rfl); (case kH => ((first | apply TE.lt | apply TE.le | apply TE.gt | apply TE.ge | apply TE.eq | apply TE.ne) <;> first | (with_unfolding_all rfl) | ((repeat' (first | exact AE.int | apply AE.add | apply AE.sub | apply AE.mul | apply AE.mod | apply AE.fdiv | apply AE.and_ | apply AE.or_ | apply AE.shl | apply AE.shr | apply AE.pow | exact AE.name rfl rfl (by decide) | (show IntMulOk _ _; mul_fits) | decide | exact PyProof.noPylong_of_log2 (by decide +kernel) | omega)); done))); k_whole; intro _))
  k_with "eval Constant int" => (k_here; (with_reducible refine flat_int ?_))
  k_with "storeName" => (k_here; k_dflt (refine' storeM ?F ?N ?_ ?a ?b; (case F => k_asm); (case N => k_asm); (case a => rfl); (case b => rfl); k_whole; intro _ _ _ _; (try k_sweep)))
  k_with "call type:type" => (k_here; (first | ((with_reducible show wpAny _ _ (call (Value.type "type") [Value.bytes _ _]) _ _ _); refine call_type_of (typeIs_bytes _ _ _) (by decide) ?_) | ((with_reducible show wpAny _ _ (call (Value.type "type") [Value.str _ _]) _ _ _); refine call_type_of (typeIs_str _ _ _) (by decide) ?_)))
  k_with "getMethod str" => (k_here; (with_reducible refine method_encode ?_))
  k_with "call builtin:str.encode" => (k_here; (refine' call_encode ?kx ?ks ?_; (case kx => assumption); (case ks => size_fits)); intro _ _)
  k_with "getMethod bytes" => (k_here; (with_reducible refine method_translate ?_))
  k_with "call builtin:bytes.translate" => (k_here; (refine' call_translate ?kx ?ks ?_; (case kx => exact mkTab_size _ _); (case ks => size_fits)); intro _ _)
  k_with "call builtin:bytes.maketrans" => (k_here; (refine' call_maketrans ?kx ?_; (case kx => first | rfl | assumption | (simp; done) | omega)); intro _ _)
  unfold Sp
  k_fill
  intro dp un gd env outer A₀ base h₀ L m s Q E hef hek B D F X N T hdp hun hret hexc
  refine wpAny_call ?_
  k_dflt (refine' code_def ?k1 ?k2 ?k3 ?k4 ?k5 ?kA ?kF ?kK ?k6 ?k7 ?k8 ?k9 ?kB ?_ ?c2 ?c3 ?c4 ?c5; (case kA => exact rfl); (case kF => exact hef); (case kK => exact hek); (case k1 => exact B); (case k2 => exact F); (case k3 => exact X); (case k4 => exact N); (case k5 => exact T); (case k6 => k_is); (case k7 => k_is); (case k8 => (show dp < recursionLimit; omega)); (case k9 => first | exact BindsTo.of_eq rfl | exact binds_K (by k_in) rfl (by k_is) rfl rfl rfl | (refine' kp_binds ?z1 ?z2; (case z1 => k_in); (case z2 => (intro S; rfl)))); (case c5 => decide); (case kB => exact locs rfl); (case c2 => exact rfl); (case c3 => exact rfl); (case c4 => exact rfl); k_whole; intro g' L' h' FG F' N' B' X' T'; (have D' := dicts_push hef FG D); (try dsimp only); (try k_fold))
  k_steps
  all_goals (refine hret _ news _ _ ⟨⟨_, b64v_eq ?_⟩, rfl⟩ (by k_asm) (by k_asm))
  all_goals ((try simp only [decide_eq_true_eq, decide_eq_false_iff_not] at *); first | exact (b64v_a (by assumption) (by assumption)).symm | exact (b64v_b (by first | exact fun h => absurd h.1 (by assumption) | exact fun h => absurd h.2 (by assumption)) (by assumption) (by assumption)).symm | exact (b64v_c (by first | exact fun h => absurd h.1 (by assumption) | exact fun h => absurd h.2 (by assumption)) (by first | exact fun h => absurd h.1 (by assumption) | exact fun h => absurd h.2 (by assumption)) (by assumption) (by assumption)).symm | exact (b64v_d (by first | exact fun h => absurd h.1 (by assumption) | exact fun h => absurd h.2 (by assumption)) (by first | exact fun h => absurd h.1 (by assumption) | exact fun h => absurd h.2 (by assumption)) (by first | exact fun h => absurd h.1 (by assumption) | exact fun h => absurd h.2 (by assumption)) (by assumption)).symm | exact (b64v_e (by first | exact fun h => absurd h.1 (by assumption) | exact fun h => absurd h.2 (by assumption)) (by first | exact fun h => absurd h.1 (by assumption) | exact fun h => absurd h.2 (by assumption)) (by first | exact fun h => absurd h.1 (by assumption) | exact fun h => absurd h.2 (by assumption)) (by assumption) (by assumption)).symm | exact (b64v_f (by first | exact fun h => absurd h.1 (by assumption) | exact fun h => absurd h.2 (by assumption)) (by first | exact fun h => absurd h.1 (by assumption) | exact fun h => absurd h.2 (by assumption)) (by first | exact fun h => absurd h.1 (by assumption) | exact fun h => absurd h.2 (by assumption)) (by assumption) (by assumption)).symm | (unfold b64v; (repeat' split) <;> omega))
set_option maxRecDepth 100000 in
set_option maxHeartbeats 8000000 in
theorem truth_spec (w : World) (mean : ExcName → Option Value) (mg mb : Str → Option Value) (news : List (Addr × Obj)) (b : Bool) :
    Sp w mean mg mb none 100 1 news [.bool b] [] (fun v n => v = .bool b ∧ n = news) (fun _ _ => False) := by
  w_on
  k_with_none
  k_with "eval BinOp" => (k_here; k_dflt (refine' AE.wp ?kk ?kF ?kH ?_; (case kF => k_asm); (case kk => rfl); (case kH => ((repeat' (first | exact AE.int | apply AE.add | apply AE.sub | apply AE.mul | apply AE.mod | apply AE.fdiv | apply AE.and_ | apply AE.or_ | apply AE.shl | apply AE.shr | apply AE.pow | exact AE.name rfl rfl (by decide) | (show IntMulOk _ _; mul_fits) | decide | exact PyProof.noPylong_of_log2 (by decide +kernel) | omega)); done)); k_whole; intro _ _; (try rw [ae6])))
  k_with "isTrue Compare" => (k_here; k_dflt (refine' TE.wp ?kk ?kF ?kH ?_; (case kF => k_asm); (case kk => rfl); (case kH => ((first | apply TE.lt | apply TE.le | apply TE.gt | apply TE.ge | apply TE.eq | apply TE.ne) <;> first | (with_unfolding_all rfl) | ((repeat' (first | exact AE.int | apply AE.add | apply AE.sub | apply AE.mul | apply AE.mod | apply AE.fdiv | apply AE.and_ | apply AE.or_ | apply AE.shl | apply AE.shr | apply AE.pow | exact AE.name rfl rfl (by decide) | (show IntMulOk _ _; mul_fits) | decide | exact PyProof.noPylong_of_log2 (by decide +kernel) | omega)); done))); k_whole; intro _))
  k_with "eval Constant int" => (k_here; (with_reducible refine flat_int ?_))
  k_with "storeName" => (k_here; k_dflt (refine' storeM ?F ?N ?_ ?a ?b; (case F => k_asm); (case N => k_asm); (case a => rfl); (case b => rfl); k_whole; intro _ _ _ _; (try k_sweep)))
  k_with "call type:type" => (k_here; (first | ((with_reducible show wpAny _ _ (call (Value.type "type") [Value.bytes _ _]) _ _ _); refine call_type_of (typeIs_bytes _ _ _) (by decide) ?_) | ((with_reducible show wpAny _ _ (call (Value.type "type") [Value.str _ _]) _ _ _); refine call_type_of (typeIs_str _ _ _) (by decide) ?_)))
  k_with "getMethod str" => (k_here; (with_reducible refine method_encode ?_))
  k_with "call builtin:str.encode" => (k_here; (refine' call_encode ?kx ?ks ?_; (case kx => assumption); (case ks => size_fits)); intro _ _)
  k_with "getMethod bytes" => (k_here; (with_reducible refine method_translate ?_))
  k_with "call builtin:bytes.translate" => (k_here; (refine' call_translate ?kx ?ks ?_; (case kx => exact mkTab_size _ _); (case ks => size_fits)); intro _ _)
  k_with "call builtin:bytes.maketrans" => (k_here; (refine' call_maketrans ?kx ?_; (case kx => first | rfl | assumption | (simp; done) | omega)); intro _ _)
  unfold Sp
  k_fill
  intro dp un gd env outer A₀ base h₀ L m s Q E hef hek B D F X N T hdp hun hret hexc
  refine wpAny_call ?_
  k_dflt (refine' code_def ?k1 ?k2 ?k3 ?k4 ?k5 ?kA ?kF ?kK ?k6 ?k7 ?k8 ?k9 ?kB ?_ ?c2 ?c3 ?c4 ?c5; (case kA => exact rfl); (case kF => exact hef); (case kK => exact hek); (case k1 => exact B); (case k2 => exact F); (case k3 => exact X); (case k4 => exact N); (case k5 => exact T); (case k6 => k_is); (case k7 => k_is); (case k8 => (show dp < recursionLimit; omega)); (case k9 => first | exact BindsTo.of_eq rfl | exact binds_K (by k_in) rfl (by k_is) rfl rfl rfl | (refine' kp_binds ?z1 ?z2; (case z1 => k_in); (case z2 => (intro S; rfl)))); (case c5 => decide); (case kB => exact locs rfl); (case c2 => exact rfl); (case c3 => exact rfl); (case c4 => exact rfl); k_whole; intro g' L' h' FG F' N' B' X' T'; (have D' := dicts_push hef FG D); (try dsimp only); (try k_fold))
  k_steps
  all_goals (refine hret _ news _ _ ⟨?_, rfl⟩ (by k_asm) (by k_asm))
  all_goals (rename b = _ => hb; rw [hb])
set_option maxRecDepth 100000 in
set_option maxHeartbeats 8000000 in
theorem buffer_spec (w : World) (mean : ExcName → Option Value) (mg mb : Str → Option Value) (news : List (Addr × Obj)) (b : Array UInt8) (tb : Tok) :
    Sp w mean mg mb none 93 1 news [.bytes b tb] [] (fun v n => v = .bytes b tb ∧ n = news) (fun _ _ => False) := by
  w_on
  k_with_none
  k_with "eval BinOp" => (k_here; k_dflt (refine' AE.wp ?kk ?kF ?kH ?_; (case kF => k_asm); (case kk => rfl); (case kH => ((repeat' (first | exact AE.int | apply AE.add | apply AE.sub | apply AE.mul | apply AE.mod | apply AE.fdiv | apply AE.and_ | apply AE.or_ | apply AE.shl | apply AE.shr | apply AE.pow | exact AE.name rfl rfl (by decide) | (show IntMulOk _ _; mul_fits) | decide | exact PyProof.noPylong_of_log2 (by decide +kernel) | omega)); done)); k_whole; intro _ _; (try rw [ae6])))
  k_with "isTrue Compare" => (k_here; k_dflt (refine' TE.wp ?kk ?kF ?kH ?_; (case kF => k_asm); (case kk => rfl); (case kH => ((first | apply TE.lt | apply TE.le | apply TE.gt | apply TE.ge | apply TE.eq | apply TE.ne) <;> first | (with_unfolding_all rfl) | ((repeat' (first | exact AE.int | apply AE.add | apply AE.sub | apply AE.mul | apply AE.mod | apply AE.fdiv | apply AE.and_ | apply AE.or_ | apply AE.shl | apply AE.shr | apply AE.pow | exact AE.name rfl rfl (by decide) | (show IntMulOk _ _; mul_fits) | decide | exact PyProof.noPylong_of_log2 (by decide +kernel) | omega)); done))); k_whole; intro _))
  k_with "eval Constant int" => (k_here; (with_reducible refine flat_int ?_))
  k_with "storeName" => (k_here; k_dflt (refine' storeM ?F ?N ?_ ?a ?b; (case F => k_asm); (case N => k_asm); (case a => rfl); (case b => rfl); k_whole; intro _ _ _ _; (try k_sweep)))
  k_with "call type:type" => (k_here; (first | ((with_reducible show wpAny _ _ (call (Value.type "type") [Value.bytes _ _]) _ _ _); refine call_type_of (typeIs_bytes _ _ _) (by decide) ?_) | ((with_reducible show wpAny _ _ (call (Value.type "type") [Value.str _ _]) _ _ _); refine call_type_of (typeIs_str _ _ _) (by decide) ?_)))
  k_with "getMethod str" => (k_here; (with_reducible refine method_encode ?_))
  k_with "call builtin:str.encode" => (k_here; (refine' call_encode ?kx ?ks ?_; (case kx => assumption); (case ks => size_fits)); intro _ _)
  k_with "getMethod bytes" => (k_here; (with_reducible refine method_translate ?_))
  k_with "call builtin:bytes.translate" => (k_here; (refine' call_translate ?kx ?ks ?_; (case kx => exact mkTab_size _ _); (case ks => size_fits)); intro _ _)
  k_with "call builtin:bytes.maketrans" => (k_here; (refine' call_maketrans ?kx ?_; (case kx => first | rfl | assumption | (simp; done) | omega)); intro _ _)
  unfold Sp
  k_fill
  intro dp un gd env outer A₀ base h₀ L m s Q E hef hek B D F X N T hdp hun hret hexc
  refine wpAny_call ?_
  k_dflt (refine' code_def ?k1 ?k2 ?k3 ?k4 ?k5 ?kA ?kF ?kK ?k6 ?k7 ?k8 ?k9 ?kB ?_ ?c2 ?c3 ?c4 ?c5; (case kA => exact rfl); (case kF => exact hef); (case kK => exact hek); (case k1 => exact B); (case k2 => exact F); (case k3 => exact X); (case k4 => exact N); (case k5 => exact T); (case k6 => k_is); (case k7 => k_is); (case k8 => (show dp < recursionLimit; omega)); (case k9 => first | exact BindsTo.of_eq rfl | exact binds_K (by k_in) rfl (by k_is) rfl rfl rfl | (refine' kp_binds ?z1 ?z2; (case z1 => k_in); (case z2 => (intro S; rfl)))); (case c5 => decide); (case kB => exact locs rfl); (case c2 => exact rfl); (case c3 => exact rfl); (case c4 => exact rfl); k_whole; intro g' L' h' FG F' N' B' X' T'; (have D' := dicts_push hef FG D); (try dsimp only); (try k_fold))
  k_steps
  all_goals (exact hret _ news _ _ ⟨rfl, rfl⟩ (by k_asm) (by k_asm))
set_option maxRecDepth 100000 in
set_option maxHeartbeats 8000000 in
theorem ascii_spec (w : World) (mean : ExcName → Option Value) (mg mb : Str → Option Value) (news : List (Addr × Obj)) (b : Array UInt8) (tb : Tok) :
    Sp w mean mg mb none 86 1 news [.bytes b tb] [] (fun v n => v = .bytes b tb ∧ n = news) (fun _ _ => False) := by
  w_on
  k_with_none
  k_with "eval BinOp" => (k_here; k_dflt (refine' AE.wp ?kk ?kF ?kH ?_; (case kF => k_asm); (case kk => rfl); (case kH => ((repeat' (first | exact AE.int | apply AE.add | apply AE.sub | apply AE.mul | apply AE.mod | apply AE.fdiv | apply AE.and_ | apply AE.or_ | apply AE.shl | apply AE.shr | apply AE.pow | exact AE.name rfl rfl (by decide) | (show IntMulOk _ _; mul_fits) | decide | exact PyProof.noPylong_of_log2 (by decide +kernel) | omega)); done)); k_whole; intro _ _; (try rw [ae6])))
  k_with "isTrue Compare" => (k_here; k_dflt (refine' TE.wp ?kk ?kF ?kH ?_; (case kF => k_asm); (case kk => rfl); (case kH => ((first | apply TE.lt | apply TE.le | apply TE.gt | apply TE.ge | apply TE.eq | apply TE.ne) <;> first | (with_unfolding_all rfl) | ((repeat' (first | exact AE.int | apply AE.add | apply AE.sub | apply AE.mul | apply AE.mod | apply AE.fdiv | apply AE.and_ | apply AE.or_ | apply AE.shl | apply AE.shr | apply AE.pow | exact AE.name rfl rfl (by decide) | (show IntMulOk _ _; mul_fits) | decide | exact PyProof.noPylong_of_log2 (by decide +kernel) | omega)); done))); k_whole; intro _))
  k_with "eval Constant int" => (k_here; (with_reducible refine flat_int ?_))
  k_with "storeName" => (k_here; k_dflt (refine' storeM ?F ?N ?_ ?a ?b; (case F => k_asm); (case N => k_asm); (case a => rfl); (case b => rfl); k_whole; intro _ _ _ _; (try k_sweep)))
  k_with "call type:type" => (k_here; (first | ((with_reducible show wpAny _ _ (call (Value.type "type") [Value.bytes _ _]) _ _ _); refine call_type_of (typeIs_bytes _ _ _) (by decide) ?_) | ((with_reducible show wpAny _ _ (call (Value.type "type") [Value.str _ _]) _ _ _); refine call_type_of (typeIs_str _ _ _) (by decide) ?_)))
  k_with "getMethod str" => (k_here; (with_reducible refine method_encode ?_))
  k_with "call builtin:str.encode" => (k_here; (refine' call_encode ?kx ?ks ?_; (case kx => assumption); (case ks => size_fits)); intro _ _)
  k_with "getMethod bytes" => (k_here; (with_reducible refine method_translate ?_))
  k_with "call builtin:bytes.translate" => (k_here; (refine' call_translate ?kx ?ks ?_; (case kx => exact mkTab_size _ _); (case ks => size_fits)); intro _ _)
  k_with "call builtin:bytes.maketrans" => (k_here; (refine' call_maketrans ?kx ?_; (case kx => first | rfl | assumption | (simp; done) | omega)); intro _ _)
  unfold Sp
  k_fill
  intro dp un gd env outer A₀ base h₀ L m s Q E hef hek B D F X N T hdp hun hret hexc
  refine wpAny_call ?_
  k_dflt (refine' code_def ?k1 ?k2 ?k3 ?k4 ?k5 ?kA ?kF ?kK ?k6 ?k7 ?k8 ?k9 ?kB ?_ ?c2 ?c3 ?c4 ?c5; (case kA => exact rfl); (case kF => exact hef); (case kK => exact hek); (case k1 => exact B); (case k2 => exact F); (case k3 => exact X); (case k4 => exact N); (case k5 => exact T); (case k6 => k_is); (case k7 => k_is); (case k8 => (show dp < recursionLimit; omega)); (case k9 => first | exact BindsTo.of_eq rfl | exact binds_K (by k_in) rfl (by k_is) rfl rfl rfl | (refine' kp_binds ?z1 ?z2; (case z1 => k_in); (case z2 => (intro S; rfl)))); (case c5 => decide); (case kB => exact locs rfl); (case c2 => exact rfl); (case c3 => exact rfl); (case c4 => exact rfl); k_whole; intro g' L' h' FG F' N' B' X' T'; (have D' := dicts_push hef FG D); (try dsimp only); (try k_fold))
  k_steps
  all_goals (exact hret _ news _ _ ⟨rfl, rfl⟩ (by k_asm) (by k_asm))
set_option maxRecDepth 100000 in
set_option maxHeartbeats 8000000 in
theorem fromstr_spec (w : World) (mean : ExcName → Option Value) (mg mb : Str → Option Value) (news : List (Addr × Obj)) (x : Str) (tx : Tok) (hx : x.length ≤ 1000) (ha : ∀ c ∈ x.cps.toList, c < 128) :
    Sp w mean mg mb none 66 1 news [.str x tx] [] (fun v n => (∃ t, v = .bytes (encA x) t) ∧ n = news) (fun _ _ => False) := by
  w_on
  k_with_none
  k_with "eval BinOp" => (k_here; k_dflt (refine' AE.wp ?kk ?kF ?kH ?_; (case kF => k_asm); (case kk => rfl); (case kH => ((repeat' (first | exact AE.int | apply AE.add | apply AE.sub | apply AE.mul | apply AE.mod | apply AE.fdiv | apply AE.and_ | apply AE.or_ | apply AE.shl | apply AE.shr | apply AE.pow | exact AE.name rfl rfl (by decide) | (show IntMulOk _ _; mul_fits) | decide | exact PyProof.noPylong_of_log2 (by decide +kernel) | omega)); done)); k_whole; intro _ _; (try rw [ae6])))
  k_with "isTrue Compare" => (k_here; k_dflt (refine' TE.wp ?kk ?kF ?kH ?_; (case kF => k_asm); (case kk => rfl); (case kH => ((first | apply TE.lt | apply TE.le | apply TE.gt | apply TE.ge | apply TE.eq | apply TE.ne) <;> first | (with_unfolding_all rfl) | ((repeat' (first | exact AE.int | apply AE.add | apply AE.sub | apply AE.mul | apply AE.mod | apply AE.fdiv | apply AE.and_ | apply AE.or_ | apply AE.shl | apply AE.shr | apply AE.pow | exact AE.name rfl rfl (by decide) | (show IntMulOk _ _; mul_fits) | decide | exact PyProof.noPylong_of_log2 (by decide +kernel) | omega)); done))); k_whole; intro _))
  k_with "eval Constant int" => (k_here; (with_reducible refine flat_int ?_))
  k_with "storeName" => (k_here; k_dflt (refine' storeM ?F ?N ?_ ?a ?b; (case F => k_asm); (case N => k_asm); (case a => rfl); (case b => rfl); k_whole; intro _ _ _ _; (try k_sweep)))
  k_with "call type:type" => (k_here; (first | ((with_reducible show wpAny _ _ (call (Value.type "type") [Value.bytes _ _]) _ _ _); refine call_type_of (typeIs_bytes _ _ _) (by decide) ?_) | ((with_reducible show wpAny _ _ (call (Value.type "type") [Value.str _ _]) _ _ _); refine call_type_of (typeIs_str _ _ _) (by decide) ?_)))
  k_with "getMethod str" => (k_here; (with_reducible refine method_encode ?_))
  k_with "call builtin:str.encode" => (k_here; (refine' call_encode ?kx ?ks ?_; (case kx => assumption); (case ks => size_fits)); intro _ _)
  k_with "getMethod bytes" => (k_here; (with_reducible refine method_translate ?_))
  k_with "call builtin:bytes.translate" => (k_here; (refine' call_translate ?kx ?ks ?_; (case kx => exact mkTab_size _ _); (case ks => size_fits)); intro _ _)
  k_with "call builtin:bytes.maketrans" => (k_here; (refine' call_maketrans ?kx ?_; (case kx => first | rfl | assumption | (simp; done) | omega)); intro _ _)
  unfold Sp
  k_fill
  intro dp un gd env outer A₀ base h₀ L m s Q E hef hek B D F X N T hdp hun hret hexc
  refine wpAny_call ?_
  k_dflt (refine' code_def ?k1 ?k2 ?k3 ?k4 ?k5 ?kA ?kF ?kK ?k6 ?k7 ?k8 ?k9 ?kB ?_ ?c2 ?c3 ?c4 ?c5; (case kA => exact rfl); (case kF => exact hef); (case kK => exact hek); (case k1 => exact B); (case k2 => exact F); (case k3 => exact X); (case k4 => exact N); (case k5 => exact T); (case k6 => k_is); (case k7 => k_is); (case k8 => (show dp < recursionLimit; omega)); (case k9 => first | exact BindsTo.of_eq rfl | exact binds_K (by k_in) rfl (by k_is) rfl rfl rfl | (refine' kp_binds ?z1 ?z2; (case z1 => k_in); (case z2 => (intro S; rfl)))); (case c5 => decide); (case kB => exact locs rfl); (case c2 => exact rfl); (case c3 => exact rfl); (case c4 => exact rfl); k_whole; intro g' L' h' FG F' N' B' X' T'; (have D' := dicts_push hef FG D); (try dsimp only); (try k_fold))
  k_steps
  all_goals (exact hret _ news _ _ ⟨⟨_, rfl⟩, rfl⟩ (by k_asm) (by k_asm))
end
section
open PySem PySem.W PyProof.Rows
set_option Elab.async false
set_option linter.unusedSimpArgs false

noncomputable def scan : List Nat → List Nat
  | [] => []
  | 34 :: 34 :: r => 34 :: scan r
  | 34 :: _ => []
  | c :: r => c :: scan r
theorem scan_ne {c : Nat} {r : List Nat} (h : c ≠ 34) : scan (c :: r) = c :: scan r := by
  rw [scan]
  · intro a e; exact absurd e h
  · intro e; exact absurd e h
theorem scan_qq {r : List Nat} : scan (34 :: 34 :: r) = 34 :: scan r := by rw [scan]
theorem scan_q {r : List Nat} (h : ∀ r', r ≠ 34 :: r') : scan (34 :: r) = [] := by
  rw [scan]
  intro a e; exact h a e
theorem len_listS (r : Str) : r.cps.toList.length = r.length := by simp [Str.length]
theorem item_drop {r : Str} {i : Int} (h0 : 0 ≤ i) (h1 : i < (r.length : Int)) : ∃ c, r.cps.toList.drop i.toNat = c :: r.cps.toList.drop (i + 1).toNat ∧ Txt.item r i = ⟨#[c]⟩ := by
  have hl : i.toNat < r.cps.toList.length := by have := len_listS r; lia
  refine ⟨r.cps.toList[i.toNat], ?_, ?_⟩
  · rw [List.drop_eq_getElem_cons hl]
    have : (i + 1).toNat = i.toNat + 1 := by lia
    rw [this]
  · obtain ⟨k, rfl⟩ := Int.eq_ofNat_of_zero_le h0
    exact item_at (by lia)
theorem str_quote : Str.ofString "\"" = ⟨#[34]⟩ := by decide +kernel
theorem beq_str (a b : Str) : (a == b) = decide (a = b) := by
  by_cases h : a = b
  · subst h; simp
  · simp [h]
theorem quote_iff {c : Nat} : ((⟨#[c]⟩ : Str) == Str.ofString "\"") = true ↔ c = 34 := by
  rw [str_quote, beq_str, decide_eq_true_eq]
  simp
/-- what holds between two turns of parse257's loop -/
noncomputable def ScanInv (r : Str) (i : Int) (d : Str) : Prop := d.cps.toList ++ scan (r.cps.toList.drop i.toNat) = scan (r.cps.toList.drop 5)
noncomputable def parseS (r : Str) : Str := ⟨(scan (r.cps.toList.drop 5)).toArray⟩
theorem len_app (a b : Str) : (a ++ b).length = a.length + b.length := Str.length_append a b
theorem cps_app (a b : Str) : (a ++ b).cps.toList = a.cps.toList ++ b.cps.toList := by
  show (a.cps ++ b.cps).toList = _
  simp
theorem sc_start {r : Str} (h : (Txt.slice r (some 3) (some 5) != Str.ofString " \"") = false) : (5 : Int) ≤ 5 ∧ (5 : Int) ≤ (r.length : Int) ∧ ((Str.ofString "").length : Int) ≤ 5 ∧ ScanInv r 5 (Str.ofString "") := by
  refine ⟨by lia, ?_, by decide +kernel, ?_⟩
  · have e : Txt.slice r (some 3) (some 5) = Str.ofString " \"" := by simpa using h
    have e2 := slice_ss r 3 5 (by lia)
    have e3 : (Txt.slice r (some 3) (some 5)).length = 2 := by rw [e]; decide +kernel
    rw [show ((3 : Int)) = ((3 : Nat) : Int) from rfl, show ((5 : Int)) = ((5 : Nat) : Int) from rfl, e2] at e3
    have e4 : ((r.cps.toList.drop 3).take (5 - 3)).length = 2 := by simpa [Str.length] using e3
    rw [List.length_take, List.length_drop, len_listS] at e4
    lia
  · show (Str.ofString "").cps.toList ++ scan (r.cps.toList.drop (5 : Int).toNat) = _
    have : (Str.ofString "").cps.toList = [] := by decide +kernel
    rw [this]
    rfl
theorem sc_next {r d : Str} {i : Int} (h : 5 ≤ i) (hd : (d.length : Int) ≤ i) (S : ScanInv r i d) (h1 : i < (r.length : Int)) (q : (Txt.item r i == Str.ofString "\"") = false) :
    5 ≤ i + 1 ∧ i + 1 ≤ (r.length : Int) ∧ ((d ++ Txt.item r i).length : Int) ≤ i + 1 ∧ ScanInv r (i + 1) (d ++ Txt.item r i) := by
  obtain ⟨c, e, ei⟩ := item_drop (by lia) h1
  have hc : c ≠ 34 := fun z => by rw [ei, quote_iff.mpr z] at q; cases q
  refine ⟨by lia, by lia, ?_, ?_⟩
  · rw [len_app, ei]
    show (((d.length + 1 : Nat)) : Int) ≤ _
    lia
  · unfold ScanInv at *
    rw [cps_app, ei]
    rw [e, scan_ne hc] at S
    rw [← S]
    simp
theorem sc_two {r d : Str} {i : Int} (h : 5 ≤ i) (hd : (d.length : Int) ≤ i) (S : ScanInv r i d) (h1 : i < (r.length : Int)) (q : (Txt.item r i == Str.ofString "\"") = true)
    (h2 : ¬ (r.length : Int) ≤ i + 1) (q2 : (Txt.item r (i + 1) != Str.ofString "\"") = false) :
    5 ≤ i + 1 + 1 ∧ i + 1 + 1 ≤ (r.length : Int) ∧ ((d ++ Txt.item r i).length : Int) ≤ i + 1 + 1 ∧ ScanInv r (i + 1 + 1) (d ++ Txt.item r i) := by
  obtain ⟨c, e, ei⟩ := item_drop (by lia) h1
  obtain ⟨c', e', ei'⟩ := item_drop (r := r) (i := i + 1) (by lia) (by lia)
  have hc : c = 34 := quote_iff.mp (by rw [← ei]; exact q)
  have hc' : c' = 34 := quote_iff.mp (by rw [← ei']; simpa using q2)
  subst hc hc'
  refine ⟨by lia, by lia, ?_, ?_⟩
  · rw [len_app, ei]
    show (((d.length + 1 : Nat)) : Int) ≤ _
    lia
  · unfold ScanInv at *
    rw [cps_app, ei]
    rw [e, e', scan_qq] at S
    rw [← S]
    simp
theorem sc_end {r d : Str} {i : Int} (h : 5 ≤ i) (S : ScanInv r i d) (h1 : ¬ i < (r.length : Int)) : d = parseS r := by
  unfold ScanInv at S
  rw [List.drop_of_length_le (by rw [len_listS]; lia)] at S
  have : d.cps.toList = scan (r.cps.toList.drop 5) := by rw [← S]; simp [scan]
  unfold parseS
  rw [← this]
theorem sc_stop {r d : Str} {i : Int} (h : 5 ≤ i) (S : ScanInv r i d) (h1 : i < (r.length : Int)) (q : (Txt.item r i == Str.ofString "\"") = true)
    (h2 : (r.length : Int) ≤ i + 1 ∨ (Txt.item r (i + 1) != Str.ofString "\"") = true) : d = parseS r := by
  obtain ⟨c, e, ei⟩ := item_drop (by lia) h1
  have hc : c = 34 := quote_iff.mp (by rw [← ei]; exact q)
  subst hc
  unfold ScanInv at S
  rw [e, scan_q] at S
  · have : d.cps.toList = scan (r.cps.toList.drop 5) := by rw [← S]; simp
    unfold parseS
    rw [← this]
  · intro r' er
    by_cases h3 : (r.length : Int) ≤ i + 1
    · rw [List.drop_of_length_le (by rw [len_listS]; lia)] at er
      cases er
    · obtain ⟨c', e', ei'⟩ := item_drop (r := r) (i := i + 1) (by lia) (by lia)
      rcases h2 with h2 | h2
      · exact h3 h2
      · rw [e'] at er
        have := (List.cons.inj er).1
        rw [ei'] at h2
        have h4 := quote_iff.mpr this
        rw [bne, h4] at h2
        cases h2
/-- what parse257 gives back of a reply that begins with the code -/
noncomputable def parse257S (r : Str) : Str := if (Txt.slice r (some 3) (some 5) != Str.ofString " \"") = true then Str.ofString "" else parseS r
theorem p257_none {r : Str} (h : (Txt.slice r (some 3) (some 5) != Str.ofString " \"") = true) : Str.ofString "" = parse257S r := by unfold parse257S; rw [if_pos h]
theorem p257_some {r d : Str} (h : (Txt.slice r (some 3) (some 5) != Str.ofString " \"") = false) (e : d = parseS r) : d = parse257S r := by unfold parse257S; rw [h, if_neg (by simp)]; exact e
theorem str_eq {a b : Str} {t : Tok} (h : a = b) : Value.str a t = Value.str b t := by rw [h]
set_option maxRecDepth 100000 in
set_option maxHeartbeats 8000000 in
theorem parse_spec (w : World) (mean : ExcName → Option Value) (mg mb : Str → Option Value) (news : List (Addr × Obj)) (r : Str) (tr : Tok) (hr : r.length ≤ 1000) :
    Sp w mean mg mb none 58 1 news [.str r tr] [] (fun v n => (∃ t, v = .str (parse257S r) t) ∧ (Txt.slice r none (some 3) != Str.ofString "257") = false ∧ n = news) (fun cls _ => cls = .ref 49 ∧ (Txt.slice r none (some 3) != Str.ofString "257") = true) := by
  w_on
  k_with_none
  k_with "eval BinOp" => (k_here; k_dflt (refine' AE.wp ?kk ?kF ?kH ?_; (case kF => k_asm); (case kk => rfl); (case kH => ((repeat' (first | exact AE.int | apply AE.add | apply AE.sub | apply AE.mul | apply AE.mod | apply AE.fdiv | apply AE.and_ | apply AE.or_ | apply AE.shl | apply AE.shr | apply AE.pow | exact AE.name rfl rfl (by decide) | (show IntMulOk _ _; mul_fits) | decide | exact PyProof.noPylong_of_log2 (by decide +kernel) | omega)); done)); k_whole; intro _ _; (try rw [ae6])))
  k_with "isTrue Compare" => (k_here; k_dflt (refine' TE.wp ?kk ?kF ?kH ?_; (case kF => k_asm); (case kk => rfl); (case kH => ((first | apply TE.lt | apply TE.le | apply TE.gt | apply TE.ge | apply TE.eq | apply TE.ne) <;> first | (with_unfolding_all rfl) | ((repeat' (first | exact AE.int | apply AE.add | apply AE.sub | apply AE.mul | apply AE.mod | apply AE.fdiv | apply AE.and_ | apply AE.or_ | apply AE.shl | apply AE.shr | apply AE.pow | exact AE.name rfl rfl (by decide) | (show IntMulOk _ _; mul_fits) | decide | exact PyProof.noPylong_of_log2 (by decide +kernel) | omega)); done))); k_whole; intro _))
  k_with "eval Constant int" => (k_here; (with_reducible refine flat_int ?_))
  k_with "call type:type" => (k_here; (first | ((with_reducible show wpAny _ _ (call (Value.type "type") [Value.bytes _ _]) _ _ _); refine call_type_of (typeIs_bytes _ _ _) (by decide) ?_) | ((with_reducible show wpAny _ _ (call (Value.type "type") [Value.str _ _]) _ _ _); refine call_type_of (typeIs_str _ _ _) (by decide) ?_)))
  k_with "getMethod str" => (k_here; (with_reducible refine method_encode ?_))
  k_with "call builtin:str.encode" => (k_here; (refine' call_encode ?kx ?ks ?_; (case kx => assumption); (case ks => size_fits)); intro _ _)
  k_with "getMethod bytes" => (k_here; (with_reducible refine method_translate ?_))
  k_with "call builtin:bytes.translate" => (k_here; (refine' call_translate ?kx ?ks ?_; (case kx => exact mkTab_size _ _); (case ks => size_fits)); intro _ _)
  k_with "call builtin:bytes.maketrans" => (k_here; (refine' call_maketrans ?kx ?_; (case kx => first | rfl | assumption | (simp; done) | omega)); intro _ _)
  k_with "exec While Compare cons nil" => k_while (fun _ i d => 5 ≤ i ∧ i ≤ (r.length : Int) ∧ (d.length : Int) ≤ i ∧ ScanInv r i d) (fun _ i d => r.length - i.toNat) "i" "dirname"
  k_with "state" => first | exact sc_start (by assumption) | exact sc_next (by assumption) (by assumption) (by assumption) (by assumption) (by assumption) | exact sc_two (by assumption) (by assumption) (by assumption) (by assumption) (by assumption) (by assumption) (by assumption)
  unfold Sp
  k_fill
  intro dp un gd env outer A₀ base h₀ L m s Q E hef hek B D F X N T hdp hun hret hexc
  refine wpAny_call ?_
  k_dflt (refine' code_def ?k1 ?k2 ?k3 ?k4 ?k5 ?kA ?kF ?kK ?k6 ?k7 ?k8 ?k9 ?kB ?_ ?c2 ?c3 ?c4 ?c5; (case kA => exact rfl); (case kF => exact hef); (case kK => exact hek); (case k1 => exact B); (case k2 => exact F); (case k3 => exact X); (case k4 => exact N); (case k5 => exact T); (case k6 => k_is); (case k7 => k_is); (case k8 => (show dp < recursionLimit; omega)); (case k9 => first | exact BindsTo.of_eq rfl | exact binds_K (by k_in) rfl (by k_is) rfl rfl rfl | (refine' kp_binds ?z1 ?z2; (case z1 => k_in); (case z2 => (intro S; rfl)))); (case c5 => decide); (case kB => exact locs rfl); (case c2 => exact rfl); (case c3 => exact rfl); (case c4 => exact rfl); k_whole; intro g' L' h' FG F' N' B' X' T'; (have D' := dicts_push hef FG D); (try dsimp only); (try k_fold))
  k_steps
  all_goals first
    | exact hexc _ _ _ _ _ _ _ ⟨rfl, by assumption⟩ FG (by assumption) (by assumption) (by assumption)
    | exact hret _ news _ _ ⟨⟨_, str_eq (p257_none (by assumption))⟩, by assumption, rfl⟩ (by assumption) (by assumption)
    | exact hret _ news _ _ ⟨⟨_, str_eq (p257_some (by assumption) (sc_end (by assumption) (by assumption) (by assumption)))⟩, by assumption, rfl⟩ (by assumption) (by assumption)
    | exact hret _ news _ _ ⟨⟨_, str_eq (p257_some (by assumption) (sc_stop (by assumption) (by assumption) (by assumption) (by assumption) (.inl (by assumption))))⟩, by assumption, rfl⟩ (by assumption) (by assumption)
    | exact hret _ news _ _ ⟨⟨_, str_eq (p257_some (by assumption) (sc_stop (by assumption) (by assumption) (by assumption) (by assumption) (.inr (by assumption))))⟩, by assumption, rfl⟩ (by assumption) (by assumption)
end
section
open PySem PySem.W PyProof.Rows PySem.Calls
set_option Elab.async false
set_option maxRecDepth 100000
theorem or1F : ∀ l v : Fin 64, Builtin.bitOr ((l.val : Int) * 2 ^ Int.toNat 2) ((v.val : Int).fdiv (2 ^ Int.toNat 4)) = (l.val : Int) * 4 + (v.val : Int) / 16 := by decide +kernel
theorem or2F : ∀ (l : Fin 16) (v : Fin 64), Builtin.bitOr ((l.val : Int) * 2 ^ Int.toNat 4) ((v.val : Int).fdiv (2 ^ Int.toNat 2)) = (l.val : Int) * 16 + (v.val : Int) / 4 := by decide +kernel
theorem or3F : ∀ (l : Fin 4) (v : Fin 64), Builtin.bitOr ((l.val : Int) * 2 ^ Int.toNat 6) (v.val : Int) = (l.val : Int) * 64 + (v.val : Int) := by decide +kernel
theorem and15F : ∀ v : Fin 64, Builtin.bitAnd (v.val : Int) 15 = (v.val : Int) % 16 := by decide +kernel
theorem and3F : ∀ v : Fin 64, Builtin.bitAnd (v.val : Int) 3 = (v.val : Int) % 4 := by decide +kernel
theorem toFin {n : Nat} {x : Int} (h0 : 0 ≤ x) (h1 : x < n) : ∃ k : Fin n, x = (k.val : Int) := ⟨⟨x.toNat, by lia⟩, by simp; lia⟩
theorem or1 {l v : Int} (h0 : 0 ≤ l) (h1 : l < 64) (h2 : 0 ≤ v) (h3 : v < 64) : Builtin.bitOr (l * 2 ^ Int.toNat 2) (v.fdiv (2 ^ Int.toNat 4)) = l * 4 + v / 16 := by
  obtain ⟨a, rfl⟩ := toFin (n := 64) h0 h1; obtain ⟨b, rfl⟩ := toFin (n := 64) h2 h3; exact or1F a b
theorem or2 {l v : Int} (h0 : 0 ≤ l) (h1 : l < 16) (h2 : 0 ≤ v) (h3 : v < 64) : Builtin.bitOr (l * 2 ^ Int.toNat 4) (v.fdiv (2 ^ Int.toNat 2)) = l * 16 + v / 4 := by
  obtain ⟨a, rfl⟩ := toFin (n := 16) h0 h1; obtain ⟨b, rfl⟩ := toFin (n := 64) h2 h3; exact or2F a b
theorem or3 {l v : Int} (h0 : 0 ≤ l) (h1 : l < 4) (h2 : 0 ≤ v) (h3 : v < 64) : Builtin.bitOr (l * 2 ^ Int.toNat 6) v = l * 64 + v := by
  obtain ⟨a, rfl⟩ := toFin (n := 4) h0 h1; obtain ⟨b, rfl⟩ := toFin (n := 64) h2 h3; exact or3F a b
theorem and15 {v : Int} (h2 : 0 ≤ v) (h3 : v < 64) : Builtin.bitAnd v 15 = v % 16 := by obtain ⟨b, rfl⟩ := toFin (n := 64) h2 h3; exact and15F b
theorem and3 {v : Int} (h2 : 0 ≤ v) (h3 : v < 64) : Builtin.bitAnd v 3 = v % 4 := by obtain ⟨b, rfl⟩ := toFin (n := 64) h2 h3; exact and3F b
theorem ints_snoc {vs : List Value} {ns : List Int} {x : Int} {t : Tok} (h : IntsAre vs ns) : IntsAre (vs ++ [.int x t]) (ns ++ [x]) := h.append (.cons x t .nil)
end
local macro_rules | `(tactic| size_fits) => `(tactic| ((try simp only [List.size_toArray, PySem.sizeLine_eq]); omega))
local macro_rules | `(tactic| k_all) => `(tactic| assumption)
section
open PySem PySem.W PyProof.Rows
set_option Elab.async false
set_option linter.unusedSimpArgs false

structure A2 where
  (q l p i : Int)
  (tq tl tp ti : Tok)
  vs : List Value
  ep : Nat
  ns : List Int
noncomputable abbrev A2.led (oa : Addr) (news : List (Addr × Obj)) (c : A2) : List (Addr × Obj) := (oa, listOf c.vs.toArray c.ep) :: news
/-- one sign of base 64 taken in -/
noncomputable def dstep (c : List Int × Int × Int) (v : Int) : List Int × Int × Int :=
  if c.2.2 = 0 then (c.1, v, 1) else if c.2.2 = 1 then (c.1 ++ [c.2.1 * 4 + v / 16], v % 16, 2) else if c.2.2 = 2 then (c.1 ++ [c.2.1 * 16 + v / 4], v % 4, 3) else (c.1 ++ [c.2.1 * 64 + v], 0, 0)
noncomputable def dec (ks : List Int) : List Int × Int × Int := (ks.map b64v).foldl dstep ([], 0, 0)
theorem dec_snoc (ks : List Int) (n : Int) : dec (ks ++ [n]) = dstep (dec ks) (b64v n) := by simp [dec]
noncomputable def Good (ks : List Int) : Prop := (∀ x ∈ ks, b64v x < 64) ∧ (ks.length : Int) % 4 = 0
theorem b64v_nonneg (n : Int) : 0 ≤ b64v n := by unfold b64v; (repeat' split) <;> lia
/-- what holds between two turns of a2b_base64's loop -/
noncomputable def DecInv (pre : List Int) (c : A2) : Prop := dec pre = (c.ns, c.l, c.q) ∧ (∀ x ∈ pre, b64v x < 64) ∧ c.q = (pre.length : Int) % 4 ∧ (∀ x ∈ c.ns, 0 ≤ x ∧ x < 256) ∧ (c.q = 0 → c.l = 0) ∧ (c.q = 2 → c.l < 16) ∧ (c.q = 3 → c.l < 4)
theorem a2_start {t1 t2 t3 t4 : Tok} {ep : Nat} : IntsAre [] [] ∧ (0 : Int) = 0 ∧ (0 : Int) ≤ 0 ∧ (0 : Int) ≤ 3 ∧ (0 : Int) ≤ 0 ∧ (0 : Int) < 64 ∧ (0 : Int) = (([] : List Int).length : Int) ∧ ([] : List Int).length ≤ ([] : List Int).length ∧ DecInv [] ⟨0, 0, 0, 0, t1, t2, t3, t4, [], ep, []⟩ := ⟨IntsAre.nil, by simp [DecInv, dec]⟩
theorem a2_len {vs : List Value} {ns pre : List Int} {b : Array UInt8} {n : Int} {post : List Int} (hI : IntsAre vs ns) (h8 : ns.length ≤ pre.length) (e : KBw.bInts b = pre ++ n :: post) (hb : b.size ≤ 1000) : vs.length ≤ 1000 := by
  have := congrArg List.length e
  rw [KBw.ints_length] at this
  have h := hI.length
  simp at this
  lia
theorem a2_lenD {vs : List Value} {ns : List Int} {b : Array UInt8} (hI : IntsAre vs ns) (h8 : ns.length ≤ (KBw.bInts b).length) (hb : b.size ≤ 1000) : vs.length ≤ 1000 := by
  rw [KBw.ints_length] at h8
  have h := hI.length
  lia
theorem in_of {b : Array UInt8} {pre post : List Int} {n : Int} (e : KBw.bInts b = pre ++ n :: post) {P : Int → Prop} (h : ∀ x ∈ KBw.bInts b, P x) : P n := h n (by rw [e]; simp)
theorem snoc_all {pre : List Int} {n : Int} {P : Int → Prop} (h : ∀ x ∈ pre, P x) (hn : P n) : ∀ x ∈ pre ++ [n], P x := fun x hx => by
  rcases List.mem_append.mp hx with h1 | h1
  · exact h x h1
  · rw [List.mem_singleton.mp h1]; exact hn
theorem a2_q0 {pre : List Int} {n q l i : Int} {tq tl tp ti tq' tl' tp' ti' : Tok} {vs : List Value} {ep : Nat} {ns : List Int} (hI : IntsAre vs ns) (h7 : i = (pre.length : Int)) (h8 : ns.length ≤ pre.length) (h9 : DecInv pre ⟨q, l, 0, i, tq, tl, tp, ti, vs, ep, ns⟩) (hv : ¬ 64 ≤ b64v n) (hq : q = 0) :
    IntsAre vs ns ∧ (0 : Int) = 0 ∧ (0 : Int) ≤ 1 ∧ (1 : Int) ≤ 3 ∧ 0 ≤ b64v n ∧ b64v n < 64 ∧ i + 1 = ((pre ++ [n]).length : Int) ∧ ns.length ≤ (pre ++ [n]).length ∧ DecInv (pre ++ [n]) ⟨1, b64v n, 0, i + 1, tq', tl', tp', ti', vs, ep, ns⟩ := by
  have h0 := b64v_nonneg n
  obtain ⟨d1, d2, d3, d4, d5, d6, d7⟩ := h9
  dsimp only at d1 d2 d3 d4 d5 d6 d7
  refine ⟨hI, rfl, by lia, by lia, h0, by lia, by simp; lia, by simp; lia, ?_, snoc_all d2 (by lia), by simp; lia, d4, by simp, by simp, by simp⟩
  rw [dec_snoc, d1]
  simp [dstep, hq]
theorem a2_q1 {pre : List Int} {n q l i : Int} {tq tl tp ti tq' tl' tp' ti' tx : Tok} {vs : List Value} {ep ep' : Nat} {ns : List Int} (hI : IntsAre vs ns) (h7 : i = (pre.length : Int)) (h8 : ns.length ≤ pre.length) (h5 : 0 ≤ l) (h6 : l < 64) (h9 : DecInv pre ⟨q, l, 0, i, tq, tl, tp, ti, vs, ep, ns⟩) (hv : ¬ 64 ≤ b64v n) (hq : q = 1) :
    IntsAre (vs ++ [.int (Builtin.bitOr (l * 2 ^ Int.toNat 2) ((b64v n).fdiv (2 ^ Int.toNat 4))) tx]) (ns ++ [Builtin.bitOr (l * 2 ^ Int.toNat 2) ((b64v n).fdiv (2 ^ Int.toNat 4))]) ∧ (0 : Int) = 0 ∧ (0 : Int) ≤ 2 ∧ (2 : Int) ≤ 3 ∧ 0 ≤ Builtin.bitAnd (b64v n) 15 ∧ Builtin.bitAnd (b64v n) 15 < 64 ∧ i + 1 = ((pre ++ [n]).length : Int) ∧ (ns ++ [Builtin.bitOr (l * 2 ^ Int.toNat 2) ((b64v n).fdiv (2 ^ Int.toNat 4))]).length ≤ (pre ++ [n]).length ∧
      DecInv (pre ++ [n]) ⟨2, Builtin.bitAnd (b64v n) 15, 0, i + 1, tq', tl', tp', ti', vs ++ [.int (Builtin.bitOr (l * 2 ^ Int.toNat 2) ((b64v n).fdiv (2 ^ Int.toNat 4))) tx], ep', ns ++ [Builtin.bitOr (l * 2 ^ Int.toNat 2) ((b64v n).fdiv (2 ^ Int.toNat 4))]⟩ := by
  have h0 := b64v_nonneg n
  obtain ⟨d1, d2, d3, d4, d5, d6, d7⟩ := h9
  dsimp only at d1 d2 d3 d4 d5 d6 d7
  have eo := or1 h5 h6 h0 (by lia : b64v n < 64)
  have ea := and15 h0 (by lia : b64v n < 64)
  refine ⟨ints_snoc hI, rfl, by lia, by lia, by lia, by lia, by simp; lia, by simp; lia, ?_, snoc_all d2 (by lia), by simp; lia, snoc_all d4 (by lia), by simp, by dsimp only; lia, by simp⟩
  rw [dec_snoc, d1, eo, ea]
  simp [dstep, hq]
theorem a2_q2 {pre : List Int} {n q l i : Int} {tq tl tp ti tq' tl' tp' ti' tx : Tok} {vs : List Value} {ep ep' : Nat} {ns : List Int} (hI : IntsAre vs ns) (h7 : i = (pre.length : Int)) (h8 : ns.length ≤ pre.length) (h5 : 0 ≤ l) (h6 : l < 64) (h9 : DecInv pre ⟨q, l, 0, i, tq, tl, tp, ti, vs, ep, ns⟩) (hv : ¬ 64 ≤ b64v n) (hq : q = 2) :
    IntsAre (vs ++ [.int (Builtin.bitOr (l * 2 ^ Int.toNat 4) ((b64v n).fdiv (2 ^ Int.toNat 2))) tx]) (ns ++ [Builtin.bitOr (l * 2 ^ Int.toNat 4) ((b64v n).fdiv (2 ^ Int.toNat 2))]) ∧ (0 : Int) = 0 ∧ (0 : Int) ≤ 3 ∧ (3 : Int) ≤ 3 ∧ 0 ≤ Builtin.bitAnd (b64v n) 3 ∧ Builtin.bitAnd (b64v n) 3 < 64 ∧ i + 1 = ((pre ++ [n]).length : Int) ∧ (ns ++ [Builtin.bitOr (l * 2 ^ Int.toNat 4) ((b64v n).fdiv (2 ^ Int.toNat 2))]).length ≤ (pre ++ [n]).length ∧
      DecInv (pre ++ [n]) ⟨3, Builtin.bitAnd (b64v n) 3, 0, i + 1, tq', tl', tp', ti', vs ++ [.int (Builtin.bitOr (l * 2 ^ Int.toNat 4) ((b64v n).fdiv (2 ^ Int.toNat 2))) tx], ep', ns ++ [Builtin.bitOr (l * 2 ^ Int.toNat 4) ((b64v n).fdiv (2 ^ Int.toNat 2))]⟩ := by
  have h0 := b64v_nonneg n
  obtain ⟨d1, d2, d3, d4, d5, d6, d7⟩ := h9
  dsimp only at d1 d2 d3 d4 d5 d6 d7
  have hl := d6 hq
  have eo := or2 h5 hl h0 (by lia : b64v n < 64)
  have ea := and3 h0 (by lia : b64v n < 64)
  refine ⟨ints_snoc hI, rfl, by lia, by lia, by lia, by lia, by simp; lia, by simp; lia, ?_, snoc_all d2 (by lia), by simp; lia, snoc_all d4 (by lia), by simp, by simp, by dsimp only; lia⟩
  rw [dec_snoc, d1, eo, ea]
  simp [dstep, hq]
theorem a2_q3 {pre : List Int} {n q l i : Int} {tq tl tp ti tq' tl' tp' ti' tx : Tok} {vs : List Value} {ep ep' : Nat} {ns : List Int} (hI : IntsAre vs ns) (h7 : i = (pre.length : Int)) (h8 : ns.length ≤ pre.length) (h5 : 0 ≤ l) (h6 : l < 64) (h9 : DecInv pre ⟨q, l, 0, i, tq, tl, tp, ti, vs, ep, ns⟩) (hv : ¬ 64 ≤ b64v n) (hq0 : 0 ≤ q) (hq3 : q ≤ 3) (hq : q ≠ 0) (hq1 : q ≠ 1) (hq2 : q ≠ 2) :
    IntsAre (vs ++ [.int (Builtin.bitOr (l * 2 ^ Int.toNat 6) (b64v n)) tx]) (ns ++ [Builtin.bitOr (l * 2 ^ Int.toNat 6) (b64v n)]) ∧ (0 : Int) = 0 ∧ (0 : Int) ≤ 0 ∧ (0 : Int) ≤ 3 ∧ (0 : Int) ≤ 0 ∧ (0 : Int) < 64 ∧ i + 1 = ((pre ++ [n]).length : Int) ∧ (ns ++ [Builtin.bitOr (l * 2 ^ Int.toNat 6) (b64v n)]).length ≤ (pre ++ [n]).length ∧
      DecInv (pre ++ [n]) ⟨0, 0, 0, i + 1, tq', tl', tp', ti', vs ++ [.int (Builtin.bitOr (l * 2 ^ Int.toNat 6) (b64v n)) tx], ep', ns ++ [Builtin.bitOr (l * 2 ^ Int.toNat 6) (b64v n)]⟩ := by
  have h0 := b64v_nonneg n
  obtain ⟨d1, d2, d3, d4, d5, d6, d7⟩ := h9
  dsimp only at d1 d2 d3 d4 d5 d6 d7
  have hl := d7 (by lia)
  have eo := or3 h5 hl h0 (by lia : b64v n < 64)
  refine ⟨ints_snoc hI, rfl, by lia, by lia, by lia, by lia, by simp; lia, by simp; lia, ?_, snoc_all d2 (by lia), by simp; lia, snoc_all d4 (by lia), by simp, by simp, by simp⟩
  rw [dec_snoc, d1, eo]
  simp [dstep, hq, hq1, hq2]
theorem dec_out {b : Array UInt8} {c : A2} (h : DecInv (KBw.bInts b) c) : byteArr c.ns = byteArr (dec (KBw.bInts b)).1 := by rw [h.1]
theorem bytes_eq {a b : Array UInt8} {t : Tok} (h : a = b) : Value.bytes a t = Value.bytes b t := by rw [h]
theorem bad_of {b : Array UInt8} {pre post : List Int} {n : Int} (e : KBw.bInts b = pre ++ n :: post) (h : b64v n ≥ 64) : ¬ Good (KBw.bInts b) := fun g => by
  have := in_of e g.1
  lia
theorem bad_len {b : Array UInt8} {c : A2} (h : DecInv (KBw.bInts b) c) (hq : c.q ≠ 0) : ¬ Good (KBw.bInts b) := fun g => hq (h.2.2.1.trans g.2)
theorem good_of {b : Array UInt8} {c : A2} (h : DecInv (KBw.bInts b) c) (hq : c.q = 0) : Good (KBw.bInts b) := ⟨h.2.1, h.2.2.1.symm.trans hq⟩
set_option maxRecDepth 100000 in
set_option maxHeartbeats 8000000 in
theorem a2b_spec (w : World) (mean : ExcName → Option Value) (mg mb : Str → Option Value) (news : List (Addr × Obj)) (b : Array UInt8) (tb : Tok) (hb : b.size ≤ 1000) (h61 : ∀ x ∈ KBw.bInts b, x ≠ 61) :
    Sp w mean mg mb none 115 3 news [.bytes b tb] [(Str.ofString "strict_mode", .bool true)] (fun v n => (∃ t, v = .bytes (byteArr (dec (KBw.bInts b)).1) t) ∧ Good (KBw.bInts b) ∧ n = news) (fun cls _ => cls = .ref 76 ∧ ¬ Good (KBw.bInts b)) := by
  w_on
  k_with_none
  k_with "eval BinOp" => (k_here; k_dflt (refine' AE.wp ?kk ?kF ?kH ?_; (case kF => k_asm); (case kk => rfl); (case kH => ((repeat' (first | exact AE.int | apply AE.add | apply AE.sub | apply AE.mul | apply AE.mod | apply AE.fdiv | apply AE.and_ | apply AE.or_ | apply AE.shl | apply AE.shr | apply AE.pow | exact AE.name rfl rfl (by decide) | (show IntMulOk _ _; mul_fits) | decide | exact PyProof.noPylong_of_log2 (by decide +kernel) | omega)); done)); k_whole; intro _ _; (try rw [ae6])))
  k_with "isTrue Compare" => (k_here; k_dflt (refine' TE.wp ?kk ?kF ?kH ?_; (case kF => k_asm); (case kk => rfl); (case kH => ((first | apply TE.lt | apply TE.le | apply TE.gt | apply TE.ge | apply TE.eq | apply TE.ne) <;> first | (with_unfolding_all rfl) | ((repeat' (first | exact AE.int | apply AE.add | apply AE.sub | apply AE.mul | apply AE.mod | apply AE.fdiv | apply AE.and_ | apply AE.or_ | apply AE.shl | apply AE.shr | apply AE.pow | exact AE.name rfl rfl (by decide) | (show IntMulOk _ _; mul_fits) | decide | exact PyProof.noPylong_of_log2 (by decide +kernel) | omega)); done))); k_whole; intro _))
  k_with "eval Constant int" => (k_here; (with_reducible refine flat_int ?_))
  k_with "storeName" => (k_here; k_dflt (refine' storeM ?F ?N ?_ ?a ?b; (case F => k_asm); (case N => k_asm); (case a => rfl); (case b => rfl); k_whole; intro _ _ _ _; (try k_sweep)))
  k_with "execs cons" => (k_here; (first | (with_reducible show wpAny _ _ _ (fun _ => LeaveK _ _ _ _ _ _) _ _) | (with_reducible show wpAny _ _ _ (BPost _ _ _ _ _ _ _) _ _) | (with_reducible show wpAny _ _ _ (TPost _ _ _ _ _ _) _ _) | (with_reducible show wpAny _ _ _ (KswPost _ _ _ _ _ _ _ _ _ _ _ _) _ _) | (with_reducible show wpAny _ _ _ (fun _ _ => LeaveK _ _ _ _ _ _ _) _ _)); k_fold; (with_reducible refine wpAny_execs_cons ?_); (try dsimp only))
  k_with "binaryOp Mod str int" => (k_here; refine' pct_text ?kpa ?kpb ?_; (case kpa => first | omega | kpc_fact); (case kpb => first | omega | kpc_fact); intro _ _ _)
  k_with "call type:type" => (k_here; (first | ((with_reducible show wpAny _ _ (call (Value.type "type") [Value.bytes _ _]) _ _ _); refine call_type_of (typeIs_bytes _ _ _) (by decide) ?_) | ((with_reducible show wpAny _ _ (call (Value.type "type") [Value.str _ _]) _ _ _); refine call_type_of (typeIs_str _ _ _) (by decide) ?_)))
  k_with "getMethod str" => (k_here; (with_reducible refine method_encode ?_))
  k_with "call builtin:str.encode" => (k_here; (refine' call_encode ?kx ?ks ?_; (case kx => assumption); (case ks => size_fits)); intro _ _)
  k_with "getMethod bytes" => (k_here; (with_reducible refine method_translate ?_))
  k_with "call builtin:bytes.translate" => (k_here; (refine' call_translate ?kx ?ks ?_; (case kx => exact mkTab_size _ _); (case ks => size_fits)); intro _ _)
  k_with "call builtin:bytes.maketrans" => (k_here; (refine' call_maketrans ?kx ?_; (case kx => first | rfl | assumption | (simp; done) | omega)); intro _ _)
  k_with "call ref" => (k_here; (with_reducible show wpAny _ _ (call (Value.ref 107) [Value.int _ _] []) _ _ _); k_dflt (refine' b64v_spec _ _ _ _ _ _ _ _ _ _ _ _ _ _ _ _ _ _ _ _ ?kef ?kek ?kB ?kD ?kF ?kX ?kN ?kT ?kd ?ku ?_ ?ke; (case kef => exact rfl); (case kek => exact rfl); (case kB => k_asm); (case kD => k_asm); (case kF => k_asm); (case kX => k_asm); (case kN => k_asm); (case kT => k_asm); (case kd => ((try dsimp only [topM, Around.deeper]); omega)); (case ku => ((try dsimp only [topM, Around.deeper]); omega));  (case ke => (intro _ _ _ _ _ _ _ hx'; exact False.elim hx')); intro v' n' h' tk' hR' F' N'; obtain ⟨⟨t1', e1'⟩, e2'⟩ := hR'; (replace e2' := Eq.symm e2'); subst e1' e2'; (try k_sweep); (try dsimp only); (try k_fold)))
  k_with "call ref" => (k_here; (with_reducible show wpAny _ _ (call (Value.ref 100) [Value.bool _] []) _ _ _); k_dflt (refine' truth_spec _ _ _ _ _ _ _ _ _ _ _ _ _ _ _ _ _ _ _ ?kef ?kek ?kB ?kD ?kF ?kX ?kN ?kT ?kd ?ku ?_ ?ke; (case kef => exact rfl); (case kek => exact rfl); (case kB => k_asm); (case kD => k_asm); (case kF => k_asm); (case kX => k_asm); (case kN => k_asm); (case kT => k_asm); (case kd => ((try dsimp only [topM, Around.deeper]); omega)); (case ku => ((try dsimp only [topM, Around.deeper]); omega));  (case ke => (intro _ _ _ _ _ _ _ hx'; exact False.elim hx')); intro v' n' h' tk' hR' F' N'; obtain ⟨e1', e2'⟩ := hR'; (replace e2' := Eq.symm e2'); subst e1' e2'; (try k_sweep); (try dsimp only); (try k_fold)))
  k_with "call ref" => (k_here; (with_reducible show wpAny _ _ (call (Value.ref 93) [Value.bytes _ _] []) _ _ _); k_dflt (refine' buffer_spec _ _ _ _ _ _ _ _ _ _ _ _ _ _ _ _ _ _ _ _ ?kef ?kek ?kB ?kD ?kF ?kX ?kN ?kT ?kd ?ku ?_ ?ke; (case kef => exact rfl); (case kek => exact rfl); (case kB => k_asm); (case kD => k_asm); (case kF => k_asm); (case kX => k_asm); (case kN => k_asm); (case kT => k_asm); (case kd => ((try dsimp only [topM, Around.deeper]); omega)); (case ku => ((try dsimp only [topM, Around.deeper]); omega));  (case ke => (intro _ _ _ _ _ _ _ hx'; exact False.elim hx')); intro v' n' h' tk' hR' F' N'; obtain ⟨e1', e2'⟩ := hR'; (replace e2' := Eq.symm e2'); subst e1' e2'; (try k_sweep); (try dsimp only); (try k_fold)))
  k_with "call ref" => (k_here; (with_reducible show wpAny _ _ (call (Value.ref 86) [Value.bytes _ _] []) _ _ _); k_dflt (refine' ascii_spec _ _ _ _ _ _ _ _ _ _ _ _ _ _ _ _ _ _ _ _ ?kef ?kek ?kB ?kD ?kF ?kX ?kN ?kT ?kd ?ku ?_ ?ke; (case kef => exact rfl); (case kek => exact rfl); (case kB => k_asm); (case kD => k_asm); (case kF => k_asm); (case kX => k_asm); (case kN => k_asm); (case kT => k_asm); (case kd => ((try dsimp only [topM, Around.deeper]); omega)); (case ku => ((try dsimp only [topM, Around.deeper]); omega));  (case ke => (intro _ _ _ _ _ _ _ hx'; exact False.elim hx')); intro v' n' h' tk' hR' F' N'; obtain ⟨e1', e2'⟩ := hR'; (replace e2' := Eq.symm e2'); subst e1' e2'; (try k_sweep); (try dsimp only); (try k_fold)))
  k_with "call builtin:len" => (k_here; (with_reducible show wpAny _ _ (call (Value.builtin "len") [Value.ref _]) _ _ _); refine' len_list (News.isList ?kN ?km) ?kz ?_; (case kN => k_asm); (case km => k_mem); (case kz => ((try simp only [List.size_toArray]); omega)))
  k_with "BPost" => (dsimp only [BPost])
  k_with "call builtin:list.append" => (k_here; (try dsimp only [List.cons_append, List.nil_append]); k_dflt (refine' append_K ?k1 ?k2 ?k3 ?_ ?z; (case k1 => k_asm); (case k2 => k_asm); (case k3 => k_upd); (case z => size_fits); k_whole); intro _ _ _; (try k_sweep))
  k_with "call type:bytes" => (k_here; (with_reducible show wpAny _ _ (call (Value.type _) [Value.ref _]) _ _ _); k_dflt (refine' bytes_K ?z9F ?z9N ?l ?i ?r ?z ?h ?_; (case z9F => k_asm); (case z9N => k_asm); (case l => is_list); (case i => assumption); (case r => assumption); (case z => size_fits); (case h => with_unfolding_all rfl); k_whole); intro _ _ _ _ _ _; (try k_sweep))
  k_with "pyIter bytes" => (refine' bytes_loop (σ := A2) (A2.led _ news) (fun c => [(Str.ofString "quad_pos", .int c.q c.tq), (Str.ofString "leftchar", .int c.l c.tl), (Str.ofString "pads", .int c.p c.tp), (Str.ofString "i", .int c.i c.ti)]) [] (fun pre c => IntsAre c.vs c.ns ∧ c.p = 0 ∧ 0 ≤ c.q ∧ c.q ≤ 3 ∧ 0 ≤ c.l ∧ c.l < 64 ∧ c.i = (pre.length : Int) ∧ c.ns.length ≤ pre.length ∧ DecInv pre c) ⟨0, 0, 0, 0, _, _, _, _, [], _, []⟩ ?hh ?z9F ?z9N ?z9hk ?z9hp ?_ ?_; (case hh => exact rfl); (case z9F => assumption); (case z9N => assumption); (case z9hk => kst_all); (case z9hp => exact a2_start); all_goals (first | (rintro ⟨q, l, p, i, tq, tl, tp, ti, vs, ep, ns⟩ pre post n t u h tk own e h0 h1 ho ⟨hI, h2, h3, h4, h5, h6, h7, h8, h9⟩ F9 N9; dsimp only [A2.led] at F9 N9 ho h2 h3 h4 h5 h6 h7 h8 hI; simp only [kstB, List.contains_nil, Bool.false_eq_true, if_false, List.cons_append] at F9 N9; have hne := off_app (by assumption) ho; k_sweep; subst h2; have hvl := a2_len hI h8 e hb; have hn61 := in_of e h61; have hv0 := b64v_nonneg n; (try dsimp only); (try k_fold)) | (rintro ⟨q, l, p, i, tq, tl, tp, ti, vs, ep, ns⟩ u h tk ⟨hI, h2, h3, h4, h5, h6, h7, h8, h9⟩ F9 N9; dsimp only [A2.led] at F9 N9 h2 h3 h4 h5 h6 h7 h8 hI; simp only [kstB, List.contains_nil, Bool.false_eq_true, if_false, List.cons_append] at F9 N9; k_sweep; subst h2; have hvl := a2_lenD hI h8 hb; have hin := h9.2.2.2.1; dsimp only at hin)))
  unfold Sp
  k_fill
  intro dp un gd env outer A₀ base h₀ L m s Q E hef hek B D F X N T hdp hun hret hexc
  refine wpAny_call ?_
  k_dflt (refine' code_def ?k1 ?k2 ?k3 ?k4 ?k5 ?kA ?kF ?kK ?k6 ?k7 ?k8 ?k9 ?kB ?_ ?c2 ?c3 ?c4 ?c5; (case kA => exact rfl); (case kF => exact hef); (case kK => exact hek); (case k1 => exact B); (case k2 => exact F); (case k3 => exact X); (case k4 => exact N); (case k5 => exact T); (case k6 => k_is); (case k7 => k_is); (case k8 => (show dp < recursionLimit; omega)); (case k9 => first | exact BindsTo.of_eq rfl | exact binds_K (by k_in) rfl (by k_is) rfl rfl rfl | (refine' kp_binds ?z1 ?z2; (case z1 => k_in); (case z2 => (intro S; rfl)))); (case c5 => decide); (case kB => exact locs rfl); (case c2 => exact rfl); (case c3 => exact rfl); (case c4 => exact rfl); k_whole; intro g' L' h' FG F' N' B' X' T'; (have D' := dicts_push hef FG D); (try dsimp only); (try k_fold))
  k_steps
  any_goals (exfalso; apply hn61; assumption)
  any_goals exact hexc _ _ _ _ _ _ _ ⟨rfl, bad_of e (by assumption)⟩ FG (raisedS_sub (by assumption) (fun p hp => List.mem_cons_of_mem _ (List.mem_append_left _ hp))) (raisedS_sub (by assumption) (fun p hp => List.mem_cons_of_mem _ (List.mem_append_left _ hp))).toK (by assumption)
  any_goals exact hexc _ _ _ _ _ _ _ ⟨rfl, bad_len h9 (by dsimp only; omega)⟩ FG (raisedS_sub (by assumption) (fun p hp => List.mem_cons_of_mem _ hp)) (raisedS_sub (by assumption) (fun p hp => List.mem_cons_of_mem _ hp)).toK (by assumption)
  · refine' bend ⟨_, _, _, _, _, _, _, _, vs, ep, ns⟩ ?z1F ?z1N ?z1hk ?z1hn ?z1ho ?z1ha ?z1hr ?z1hp
    case z1F => assumption
    case z1N => first | exact nE' | assumption
    case z1hk => kst_all
    case z1hn => dsimp only [A2.led]; exact List.forall_mem_cons.mpr ⟨List.mem_cons_self, fun p hp => List.mem_cons_of_mem _ (List.mem_append_left _ hp)⟩
    case z1ho => exact fun p hp => List.mem_cons_of_mem _ (List.mem_append_right _ hp)
    case z1ha => exact rfl
    case z1hr => (intro z h1 h2 h3; (simp only [List.forall_mem_cons, List.not_mem_nil, false_implies, implies_true, and_true, ne_eq] at h2); (simp +zetaDelta [h1, h2]; done))
    dsimp only
    exact a2_q0 hI h7 h8 h9 (by assumption) (by assumption)
  · (rename News _ _ _ _ => nE'); (simp only [List.push_toArray] at nE')
    refine bend ⟨_, _, _, _, _, _, _, _, vs ++ [_], ep + 1, ns ++ [Builtin.bitOr (l * 2 ^ Int.toNat 2) ((b64v n).fdiv (2 ^ Int.toNat 4))]⟩ (by assumption) nE' (by kst_all) (List.forall_mem_cons.mpr ⟨List.mem_cons_self, fun p hp => List.mem_cons_of_mem _ (List.mem_append_left _ hp)⟩) (fun p hp => List.mem_cons_of_mem _ (List.mem_append_right _ hp)) rfl (by (intro z h1 h2 h3; (simp only [List.forall_mem_cons, List.not_mem_nil, false_implies, implies_true, and_true, ne_eq] at h2); (simp +zetaDelta [h1, h2]; done))) (a2_q1 hI h7 h8 h5 h6 h9 (by assumption) (by assumption))
  · (rename News _ _ _ _ => nE'); (simp only [List.push_toArray] at nE')
    refine bend ⟨_, _, _, _, _, _, _, _, vs ++ [_], ep + 1, ns ++ [Builtin.bitOr (l * 2 ^ Int.toNat 4) ((b64v n).fdiv (2 ^ Int.toNat 2))]⟩ (by assumption) nE' (by kst_all) (List.forall_mem_cons.mpr ⟨List.mem_cons_self, fun p hp => List.mem_cons_of_mem _ (List.mem_append_left _ hp)⟩) (fun p hp => List.mem_cons_of_mem _ (List.mem_append_right _ hp)) rfl (by (intro z h1 h2 h3; (simp only [List.forall_mem_cons, List.not_mem_nil, false_implies, implies_true, and_true, ne_eq] at h2); (simp +zetaDelta [h1, h2]; done))) (a2_q2 hI h7 h8 h5 h6 h9 (by assumption) (by assumption))
  · (rename News _ _ _ _ => nE'); (simp only [List.push_toArray] at nE')
    refine bend ⟨_, _, _, _, _, _, _, _, vs ++ [_], ep + 1, ns ++ [Builtin.bitOr (l * 2 ^ Int.toNat 6) (b64v n)]⟩ (by assumption) nE' (by kst_all) (List.forall_mem_cons.mpr ⟨List.mem_cons_self, fun p hp => List.mem_cons_of_mem _ (List.mem_append_left _ hp)⟩) (fun p hp => List.mem_cons_of_mem _ (List.mem_append_right _ hp)) rfl (by (intro z h1 h2 h3; (simp only [List.forall_mem_cons, List.not_mem_nil, false_implies, implies_true, and_true, ne_eq] at h2); (simp +zetaDelta [h1, h2]; done))) (a2_q3 hI h7 h8 h5 h6 h9 (by assumption) h3 h4 (by assumption) (by assumption) (by assumption))
  exact hret _ news _ _ ⟨⟨_, bytes_eq (dec_out h9)⟩, good_of h9 (by assumption), rfl⟩ (by assumption) (fun p hp => (by assumption : News h₀ L _ _) p (List.mem_cons_of_mem _ hp))
end
section
open PySem PySem.W PyProof.Rows
set_option Elab.async false
set_option linter.unusedSimpArgs false

/-- what b64decode hands to a2b_base64 -/
noncomputable def decIn (x p : Str) : Array UInt8 := trA (mkTab (encA p) #[43, 47]) (encA x)
set_option maxRecDepth 100000 in
set_option maxHeartbeats 8000000 in
theorem b64decode_spec (w : World) (mean : ExcName → Option Value) (mg mb : Str → Option Value) (news : List (Addr × Obj)) (x p : Str) (tx tp : Tok) (hx : x.length ≤ 1000) (hp : p.length = 2) (ha : ∀ c ∈ x.cps.toList, c < 128) (hpa : ∀ c ∈ p.cps.toList, c < 128) (h61 : ∀ y ∈ KBw.bInts (decIn x p), y ≠ 61) :
    Sp w mean mg mb none 139 6 news [.str x tx, .str p tp, .bool true] [] (fun v n => (∃ t, v = .bytes (byteArr (dec (KBw.bInts (decIn x p))).1) t) ∧ Good (KBw.bInts (decIn x p)) ∧ n = news) (fun cls _ => cls = .ref 76 ∧ ¬ Good (KBw.bInts (decIn x p))) := by
  w_on
  k_with_none
  k_with "eval Constant int" => (k_here; (with_reducible refine flat_int ?_))
  k_with "storeName" => (k_here; k_dflt (refine' storeM ?F ?N ?_ ?a ?b; (case F => k_asm); (case N => k_asm); (case a => rfl); (case b => rfl); k_whole; intro _ _ _ _; (try k_sweep)))
  k_with "execs cons" => (k_here; (first | (with_reducible show wpAny _ _ _ (fun _ => LeaveK _ _ _ _ _ _) _ _) | (with_reducible show wpAny _ _ _ (BPost _ _ _ _ _ _ _) _ _) | (with_reducible show wpAny _ _ _ (TPost _ _ _ _ _ _) _ _) | (with_reducible show wpAny _ _ _ (KswPost _ _ _ _ _ _ _ _ _ _ _ _) _ _) | (with_reducible show wpAny _ _ _ (fun _ _ => LeaveK _ _ _ _ _ _ _) _ _)); k_fold; (with_reducible refine wpAny_execs_cons ?_); (try dsimp only))
  k_with "call type:type" => (k_here; (first | ((with_reducible show wpAny _ _ (call (Value.type "type") [Value.bytes _ _]) _ _ _); refine call_type_of (typeIs_bytes _ _ _) (by decide) ?_) | ((with_reducible show wpAny _ _ (call (Value.type "type") [Value.str _ _]) _ _ _); refine call_type_of (typeIs_str _ _ _) (by decide) ?_)))
  k_with "call builtin:len" => (k_here; (with_reducible show wpAny _ _ (call (Value.builtin "len") [Value.bytes _ _]) _ _ _); (refine' len_bytes ?k1 ?_; (case k1 => ((try simp only [encA_size, trA_size]); omega))))
  k_with "getMethod str" => (k_here; (with_reducible refine method_encode ?_))
  k_with "call builtin:str.encode" => (k_here; (refine' call_encode ?kx ?ks ?_; (case kx => assumption); (case ks => size_fits)); intro _ _)
  k_with "getMethod bytes" => (k_here; (with_reducible refine method_translate ?_))
  k_with "call builtin:bytes.translate" => (k_here; (try dsimp only [List.cons_append, List.nil_append]); (refine' call_translate ?kx ?ks ?_; (case kx => exact mkTab_size _ _); (case ks => first | ((try simp only [encA_size, trA_size, PySem.sizeLine_eq]); omega) | size_fits)); intro _ _)
  k_with "getMethod type:bytes" => (k_here; refine' method_type ?F ?X ?m (by decide +kernel) ?e ?h ?_; (case F => k_asm); (case X => k_asm); (case m => exact meta_bytes); (case e => k_dflt k_is); (case h => k_handed))
  k_with "call builtin:bytes.maketrans" => (k_here; (refine' call_maketrans ?kx ?_; (case kx => first | rfl | assumption | (simp; done) | omega)); intro _ _)
  k_with "call builtin:len" => (k_here; (with_reducible show wpAny _ _ (call (Value.builtin "len") [Value.ref _]) _ _ _); refine' len_list (News.isList ?kN ?km) ?kz ?_; (case kN => k_asm); (case km => k_mem); (case kz => ((try simp only [List.size_toArray]); omega)))
  k_with "BPost" => (dsimp only [BPost])
  k_with "call builtin:list.append" => (k_here; (try dsimp only [List.cons_append, List.nil_append]); k_dflt (refine' append_K ?k1 ?k2 ?k3 ?_ ?z; (case k1 => k_asm); (case k2 => k_asm); (case k3 => k_upd); (case z => size_fits); k_whole); intro _ _ _; (try k_sweep))
  k_with "call type:bytes" => (k_here; (with_reducible show wpAny _ _ (call (Value.type _) [Value.ref _]) _ _ _); k_dflt (refine' bytes_K ?z9F ?z9N ?l ?i ?r ?z ?h ?_; (case z9F => k_asm); (case z9N => k_asm); (case l => is_list); (case i => assumption); (case r => assumption); (case z => size_fits); (case h => with_unfolding_all rfl); k_whole); intro _ _ _ _ _ _; (try k_sweep))
  k_with "call ref" => (k_here; (with_reducible show wpAny _ _ (call (Value.ref 66) [Value.str _ _] []) _ _ _); k_dflt (refine' fromstr_spec _ _ _ _ _ _ _ ?kh1 ?kh2 _ _ _ _ _ _ _ _ _ _ _ _ _ ?kef ?kek ?kB ?kD ?kF ?kX ?kN ?kT ?kd ?ku ?_ ?ke; (case kef => exact rfl); (case kek => exact rfl); (case kB => k_asm); (case kD => k_asm); (case kF => k_asm); (case kX => k_asm); (case kN => k_asm); (case kT => k_asm); (case kd => ((try dsimp only [topM, Around.deeper]); omega)); (case ku => ((try dsimp only [topM, Around.deeper]); omega)); (case kh1 => omega); (case kh2 => assumption); (case ke => (intro _ _ _ _ _ _ _ hx'; exact False.elim hx')); intro v' n' h' tk' hR' F' N'; obtain ⟨⟨t1', e1'⟩, e2'⟩ := hR'; (replace e2' := Eq.symm e2'); subst e1' e2'; (try k_sweep); (try dsimp only); (try k_fold)))
  k_with "call ref" => (k_here; (with_reducible show wpAny _ _ (call (Value.ref 115) [Value.bytes _ _] _) _ _ _); k_dflt (refine' a2b_spec _ _ _ _ _ _ _ ?kh1 ?kh2 _ _ _ _ _ _ _ _ _ _ _ _ _ ?kef ?kek ?kB ?kD ?kF ?kX ?kN ?kT ?kd ?ku ?_ ?_; (case kef => exact rfl); (case kek => exact rfl); (case kB => k_asm); (case kD => k_asm); (case kF => k_asm); (case kX => k_asm); (case kN => k_asm); (case kT => k_asm); (case kd => ((try dsimp only [topM, Around.deeper]); omega)); (case ku => ((try dsimp only [topM, Around.deeper]); omega)); (case kh1 => ((try simp only [trA_size, encA_size]); omega)); (case kh2 => assumption); all_goals (first | (intro G' e' t' c' a' h' tk' hX' FG' RS' RK' U'; obtain ⟨e1', hG'⟩ := hX'; subst e1'; (try dsimp only); (try k_fold)) | (intro v' n' h' tk' hR' F' N'; obtain ⟨⟨t1', e1'⟩, hG', e2'⟩ := hR'; (replace e2' := Eq.symm e2'); subst e1' e2'; (try k_sweep); (try dsimp only); (try k_fold)))))
  have hps : (encA p).size = 2 := (encA_size p).trans hp
  unfold Sp
  k_fill
  intro dp un gd env outer A₀ base h₀ L m s Q E hef hek B D F X N T hdp hun hret hexc
  refine wpAny_call ?_
  k_dflt (refine' code_def ?k1 ?k2 ?k3 ?k4 ?k5 ?kA ?kF ?kK ?k6 ?k7 ?k8 ?k9 ?kB ?_ ?c2 ?c3 ?c4 ?c5; (case kA => exact rfl); (case kF => exact hef); (case kK => exact hek); (case k1 => exact B); (case k2 => exact F); (case k3 => exact X); (case k4 => exact N); (case k5 => exact T); (case k6 => k_is); (case k7 => k_is); (case k8 => (show dp < recursionLimit; omega)); (case k9 => first | exact BindsTo.of_eq rfl | exact binds_K (by k_in) rfl (by k_is) rfl rfl rfl | (refine' kp_binds ?z1 ?z2; (case z1 => k_in); (case z2 => (intro S; rfl)))); (case c5 => decide); (case kB => exact locs rfl); (case c2 => exact rfl); (case c3 => exact rfl); (case c4 => exact rfl); k_whole; intro g' L' h' FG F' N' B' X' T'; (have D' := dicts_push hef FG D); (try dsimp only); (try k_fold))
  k_steps
  all_goals (try (exfalso; omega))
  all_goals first
    | exact hret _ news _ _ ⟨⟨_, rfl⟩, by assumption, rfl⟩ (by assumption) (by assumption)
    | exact hexc _ _ _ _ _ _ _ ⟨rfl, by assumption⟩ FG (by assumption) (by assumption) (by assumption)
end
section
open PySem PySem.W PyProof.Rows PySem.Calls
set_option Elab.async false
noncomputable def LeaveT (fs : List Addr) (A₀ : Around) (base : Heap) (outer : List Env) (h₀ : Heap) (L : Addr) (m : Str → Option Value) (g : Heap) (R : Result → Shared → Prop) (v : Value) (s' : Shared) : Prop :=
  ∃ g' L' m' news', KtsTurn fs g g' ∧ Fr g' L' s'.heap m' ∧ News g' L' s'.heap news' ∧ ∀ h₀', KtsTurn (outer.filterMap (·.frame)) h₀ h₀' → Fr h₀' L s'.heap m → News h₀' L s'.heap news' → Below A₀ base outer h₀' → R (.ok (.ret v)) s'
section
variable {A₀ A : Around} {base h₀ g : Heap} {outer : List Env} {env : Env} {L : Addr} {m : Str → Option Value} {R : Result → Shared → Prop} {v : Value} {s' : Shared}
theorem fs_mem {b : Addr} (hf : env.frame = some L) (h : b ∈ (env :: outer).filterMap (·.frame)) : b = L ∨ b ∈ outer.filterMap (·.frame) := by
  obtain ⟨e, he, hb⟩ := List.mem_filterMap.mp h
  rcases List.mem_cons.mp he with rfl | he
  · exact .inl (Option.some.inj (hb.symm.trans hf))
  · exact .inr (List.mem_filterMap.mpr ⟨e, he, hb⟩)
theorem below_turn {h₀' : Heap} (B : Below A₀ base outer h₀) (T : KtsTurn (outer.filterMap (·.frame)) h₀ h₀') : Below A₀ base outer h₀' :=
  ⟨B.stack, fun b o e => T.other b o (B.stays b o e) (fun hm => by rw [(B.frames.mem hm).1] at e; cases e), B.frames.of_keeps fun b o e _ => by obtain ⟨sl, hs⟩ := T.up e; exact ⟨_, hs, rfl⟩⟩
theorem leave_turn (B : Below A₀ base outer h₀) (hf : env.frame = some L) (FG : Fr h₀ L g m) (st : h₀.StaysIn g) (hl : LeaveT ((env :: outer).filterMap (·.frame)) A₀ base outer h₀ L m g R v s') : R (.ok (.ret v)) s' := by
  obtain ⟨g', L', m', news', T', F', N', k⟩ := hl
  have nL : h₀.get? L = none := kts_self FG
  obtain ⟨oL, es, ep, hL, hLd, hLk, hLf⟩ := FG.ns
  obtain ⟨sl, hs⟩ := T'.up hL
  obtain ⟨T₁, S₁⟩ := kts_turn_at (h := s'.heap) (fs := outer.filterMap (·.frame)) (g := h₀)
    (fun b hb => by obtain ⟨_, o, ho, _⟩ := B.frames.mem hb; exact ⟨o, ho⟩)
    (fun b o e nm => F'.keep b o (T'.other b o (st b o e) (fun q => by
      rcases fs_mem hf q with z | z
      · rw [z, nL] at e; cases e
      · exact nm z)))
    (fun b o e _ => by obtain ⟨sl', hs'⟩ := T'.up (st b o e); exact ⟨sl', F'.keep _ _ hs'⟩)
  refine k _ T₁ ⟨⟨_, es, ep, F'.keep _ _ hs, hLd, hLk, hLf⟩, S₁, by rw [T₁.size]; exact FG.above⟩ (fun p hp => ⟨(N' p hp).1, fun q => ?_, ?_⟩) (below_turn B T₁)
  · have := (N' p hp).2.2; rw [q, hs] at this; cases this
  · refine T₁.none_ _ ?_
    cases q : h₀.get? p.1 with
    | none => rfl
    | some o =>
      obtain ⟨sl', hs'⟩ := T'.up (st _ _ q)
      have := (N' p hp).2.2
      rw [hs'] at this
      cases this
end
section
variable {prog : Program} {w : World} {A₀ A : Around} {s : Shared} {K : Frag} {L : Addr} {h₀ base : Heap} {m mg mb : Str → Option Value} {news : List (Addr × Obj)} {p : Program} {loose : List Str} {mean : ExcName → Option Value}
theorem code_turn {env : Env} {outer : List Env} {R : Result → Shared → Prop} {name qual : Str} {params : Arguments} {body : List Stmt} {scope : Scope} {dV kV doc pm cdv ct oc : Value} {an od : Option Addr} {osl : Array (Option Value)} {f : Addr} {args : Args} {binds : List (Str × Value)}
    (B : Below A₀ base outer h₀) (F : Fr h₀ L s.heap m) (X₀ : K.In h₀) (N : News h₀ L s.heap news) (T : Top p loose mean mg mb h₀) (D : KtsDicts (outer.filterMap (·.frame)) h₀) (hA : A.frames = some (env :: outer)) (hf : env.frame = some L) (hke : env.scope.kind = .function)
    (ho : K.lookup f = some ⟨oc, od, .func (fnOf name qual params body scope dV kV doc pm an cdv ct), osl⟩) (hcd : codeIn K cdv qual = true) (hroom : A.depth < recursionLimit)
    (hbind : BindsTo s (fnOf name qual params body scope dV kV doc pm an cdv ct) args binds) (hloc : ∀ y ∈ binds, scope.names.lookup y.1 = some .local)
    (h : ∀ g L' h₁, Fr h₀ L g m → Fr g L' h₁ (fun y => binds.reverse.lookup y) → News g L' h₁ news → Below A base (env :: outer) g → K.In g → Top p loose mean mg mb g → KtsDicts ((env :: outer).filterMap (·.frame)) g →
      wpAny (model prog w) (A.deeper (envOf qual scope L' f cdv)) (execs body (envOf qual scope L' f cdv))
        (fun fl s' => LeaveT ((env :: outer).filterMap (·.frame)) A₀ base outer h₀ L m g R (match fl with | .ret v => v | _ => .none) s')
        (fun e s' => wpAny (model prog w) (A.deeper (envOf qual scope L' f cdv)) (leaving (envOf qual scope L' f cdv) e) (fun _ s'' => R (.error e) s'') (fun e' s'' => R (.error e') s'') s')
        { s with heap := h₁, toks := s.toks + binds.length })
    (hco : scope.isCoroutine = false) (hgen : scope.isGenerator = false) (hk : scope.kind = .function)
    (hcell : ∀ x ∈ scope.names, x.2 ≠ .cell) : codeAny (model prog w) A (.call (.ref f) args) R s := by
  have X := X₀.keeps F.keep
  refine codeAny_call_def (fd := fnOf name qual params body scope dV kV doc pm an cdv ct) (body := body) (binds := binds) hroom (X _ _ ho) rfl (T.nolimit.keeps F.keep) (codeRec_of X hcd) rfl hbind hcell hloc (fun h₁ hns hk₁ => ?_) hco hgen hk
  obtain ⟨FG, BG, st, _⟩ := groundX (R := R) B F N hA hf hke
  refine wpAny_mono (h _ s.heap.objs.size h₁ FG ⟨hns, fun b o e => hk₁ b o (of_hideAll _ e), Nat.le_of_eq (hideAll_size _ _)⟩
    (fun p hp => ⟨hk₁ _ _ (N p hp).1, Nat.ne_of_lt (Heap.lt_size (N p hp).1), hideAll_none _ (List.mem_map_of_mem hp)⟩) BG (X₀.keeps st) (T.keeps st) (dicts_push hf FG D)) (fun fl s' hl => leave_turn B hf FG st hl) fun _ _ y => y
end
/-- a contract of a def that catches on its way: the frames below may be turned -/
noncomputable abbrev SpT (w : World) (mean : ExcName → Option Value) (mg mb : Str → Option Value) (hdl : Option Value) (f : Addr) (room : Nat) (news : List (Addr × Obj)) (vs : List Value) (kw : List (Str × Value))
    (Ret : Value → List (Addr × Obj) → Prop) (Exc : Value → List Value → Prop) : Prop :=
  ∀ (dp un : Nat) (gd : Option (List Code)) (env : Env) (outer : List Env) (A₀ : Around) (base h₀ : Heap) (L : Addr) (m : Str → Option Value) (s : Shared) (Q E : Value → Shared → Prop),
    env.frame = some L → env.scope.kind = .function → Below A₀ base outer h₀ → KtsDicts (outer.filterMap (·.frame)) h₀ → Fr h₀ L s.heap m → (hd.heap_1 w.params).In h₀ → News h₀ L s.heap news → Top vw LO mean mg mb h₀ →
    (hd.heap_1 w.params).In base → Top vw LO mean mg mb base →
    dp + room < recursionLimit → un + 8 * room < cLine →
    (∀ v news' h₀' h' tk', Ret v news' → KtsTurn (outer.filterMap (·.frame)) h₀ h₀' → Fr h₀' L h' m → News h₀' L h' news' → Below A₀ base outer h₀' → KtsDicts (outer.filterMap (·.frame)) h₀' → (hd.heap_1 w.params).In h₀' → Top vw LO mean mg mb h₀' → Q v { s with heap := h', toks := tk' }) →
    (∀ G e t cls as h' tk', Exc cls as → Fr h₀ L G m → RaisedS base G (env :: outer) e cls t as news h' → RaisedK base (env :: outer) e cls t as news h' → G.UpToSlots h' → E (.ref e) { s with heap := h', toks := tk' }) →
    wpAny (model PySem.Challenge.rw_qh0045_01.row.prog w) (topM hdl dp un gd env outer) (call (.ref f) vs kw) Q E s
end
section
open PySem PySem.W PyProof.Rows
set_option Elab.async false
set_option linter.unusedSimpArgs false

noncomputable def BsAre : List Value → List (Array UInt8) → Prop
  | [], [] => True
  | v :: vs, b :: bs => (∃ t, v = .bytes b t) ∧ BsAre vs bs
  | _, _ => False
noncomputable def goodB (ks : List Int) : Bool := ks.all (fun x => decide (b64v x < 64)) && decide ((ks.length : Int) % 4 = 0)
theorem goodB_iff (ks : List Int) : goodB ks = true ↔ Good ks := by simp [goodB, Good]
/-- what _law_read reads of a text -/
noncomputable def readL (x p : Str) : List (Array UInt8) := if goodB (KBw.bInts (decIn x p)) = true then [byteArr (dec (KBw.bInts (decIn x p))).1] else []
theorem readL_good {x p : Str} {t : Tok} (h : Good (KBw.bInts (decIn x p))) : BsAre [.bytes (byteArr (dec (KBw.bInts (decIn x p))).1) t] (readL x p) := by
  unfold readL; rw [if_pos ((goodB_iff _).mpr h)]; exact ⟨⟨_, rfl⟩, trivial⟩
theorem readL_bad {x p : Str} (h : ¬ Good (KBw.bInts (decIn x p))) : BsAre [] (readL x p) := by
  unfold readL; rw [if_neg (fun z => h ((goodB_iff _).mp z))]; trivial
set_option maxRecDepth 100000 in
set_option maxHeartbeats 8000000 in
theorem read_spec (w : World) (mean : ExcName → Option Value) (mg mb : Str → Option Value) (news : List (Addr × Obj)) (x p : Str) (tx tp : Tok) (hx : x.length ≤ 1000) (hp : p.length = 2) (ha : ∀ c ∈ x.cps.toList, c < 128) (hpa : ∀ c ∈ p.cps.toList, c < 128) (h61 : ∀ y ∈ KBw.bInts (decIn x p), y ≠ 61) :
    SpT w mean mg mb none 167 9 news [.str x tx, .str p tp] [] (fun v n => ∃ a ep vs, v = .ref a ∧ (∀ q ∈ news, q.1 < a) ∧ n = (a, listOf vs.toArray ep) :: news ∧ BsAre vs (readL x p)) (fun _ _ => False) := by
  w_on
  k_with_none
  k_with "eval Constant int" => (k_here; (with_reducible refine flat_int ?_))
  k_with "storeName" => (k_here; k_dflt (refine' storeM ?F ?N ?_ ?a ?b; (case F => k_asm); (case N => k_asm); (case a => rfl); (case b => rfl); k_whole; intro _ _ _ _; (try k_sweep)))
  k_with "execs cons" => (k_here; (first | (with_reducible show wpAny _ _ _ (fun _ => LeaveK _ _ _ _ _ _) _ _) | (with_reducible show wpAny _ _ _ (BPost _ _ _ _ _ _ _) _ _) | (with_reducible show wpAny _ _ _ (TPost _ _ _ _ _ _) _ _) | (with_reducible show wpAny _ _ _ (KswPost _ _ _ _ _ _ _ _ _ _ _ _) _ _) | (with_reducible show wpAny _ _ _ (fun _ _ => LeaveK _ _ _ _ _ _ _) _ _)); k_fold; (with_reducible refine wpAny_execs_cons ?_); (try dsimp only))
  k_with "call type:type" => (k_here; (first | ((with_reducible show wpAny _ _ (call (Value.type "type") [Value.bytes _ _]) _ _ _); refine call_type_of (typeIs_bytes _ _ _) (by decide) ?_) | ((with_reducible show wpAny _ _ (call (Value.type "type") [Value.str _ _]) _ _ _); refine call_type_of (typeIs_str _ _ _) (by decide) ?_)))
  k_with "call builtin:len" => (k_here; (with_reducible show wpAny _ _ (call (Value.builtin "len") [Value.bytes _ _]) _ _ _); (refine' len_bytes ?k1 ?_; (case k1 => ((try simp only [encA_size, trA_size]); omega))))
  k_with "getMethod str" => (k_here; (with_reducible refine method_encode ?_))
  k_with "call builtin:str.encode" => (k_here; (refine' call_encode ?kx ?ks ?_; (case kx => assumption); (case ks => size_fits)); intro _ _)
  k_with "getMethod bytes" => (k_here; (with_reducible refine method_translate ?_))
  k_with "call builtin:bytes.translate" => (k_here; (try dsimp only [List.cons_append, List.nil_append]); (refine' call_translate ?kx ?ks ?_; (case kx => exact mkTab_size _ _); (case ks => first | ((try simp only [encA_size, trA_size, PySem.sizeLine_eq]); omega) | size_fits)); intro _ _)
  k_with "getMethod type:bytes" => (k_here; refine' method_type ?F ?X ?m (by decide +kernel) ?e ?h ?_; (case F => k_asm); (case X => k_asm); (case m => exact meta_bytes); (case e => k_dflt k_is); (case h => k_handed))
  k_with "call builtin:bytes.maketrans" => (k_here; (refine' call_maketrans ?kx ?_; (case kx => first | rfl | assumption | (simp; done) | omega)); intro _ _)
  k_with "call builtin:len" => (k_here; (with_reducible show wpAny _ _ (call (Value.builtin "len") [Value.ref _]) _ _ _); refine' len_list (News.isList ?kN ?km) ?kz ?_; (case kN => k_asm); (case km => k_mem); (case kz => ((try simp only [List.size_toArray]); omega)))
  k_with "BPost" => (dsimp only [BPost])
  k_with "call builtin:list.append" => (k_here; (try dsimp only [List.cons_append, List.nil_append]); k_dflt (refine' append_K ?k1 ?k2 ?k3 ?_ ?z; (case k1 => k_asm); (case k2 => k_asm); (case k3 => k_upd); (case z => size_fits); k_whole); intro _ _ _; (try k_sweep))
  k_with "call type:bytes" => (k_here; (with_reducible show wpAny _ _ (call (Value.type _) [Value.ref _]) _ _ _); k_dflt (refine' bytes_K ?z9F ?z9N ?l ?i ?r ?z ?h ?_; (case z9F => k_asm); (case z9N => k_asm); (case l => is_list); (case i => assumption); (case r => assumption); (case z => size_fits); (case h => with_unfolding_all rfl); k_whole); intro _ _ _ _ _ _; (try k_sweep))
  k_with "call ref" => (k_here; (with_reducible show wpAny _ _ (call (Value.ref 139) [Value.str _ _, Value.str _ _, Value.bool true] []) _ _ _); k_dflt (refine' b64decode_spec _ _ _ _ _ _ _ _ _ ?kh1 ?kh2 ?kh3 ?kh4 ?kh5 _ _ _ _ _ _ _ _ _ _ _ _ _ ?kef ?kek ?kB ?kD ?kF ?kX ?kN ?kT ?kd ?ku ?_ ?_; (case kef => exact rfl); (case kek => exact rfl); (case kB => k_asm); (case kD => k_asm); (case kF => k_asm); (case kX => k_asm); (case kN => k_asm); (case kT => k_asm); (case kd => ((try dsimp only [topM, Around.deeper]); omega)); (case ku => ((try dsimp only [topM, Around.deeper]); omega)); (case kh1 => omega); (case kh2 => assumption); (case kh3 => assumption); (case kh4 => assumption); (case kh5 => assumption); all_goals (first | (intro G' e' t' c' a' h' tk' hX' FG' RS' RK' U'; obtain ⟨e1', hG'⟩ := hX'; subst e1'; (try dsimp only); (try k_fold)) | (intro v' n' h' tk' hR' F' N'; obtain ⟨⟨t1', e1'⟩, hG', e2'⟩ := hR'; (replace e2' := Eq.symm e2'); subst e1' e2'; (try k_sweep); (try dsimp only); (try k_fold)))))
  unfold SpT
  k_fill
  intro dp un gd env outer A₀ base h₀ L m s Q E hef hek B D F X N T XB TB hdp hun hret hexc
  refine wpAny_call ?_
  k_dflt (refine' code_turn ?k1 ?k2 ?k3 ?k4 ?k5 ?kDD ?kA ?kF ?kK ?k6 ?k7 ?k8 ?k9 ?kB ?_ ?c2 ?c3 ?c4 ?c5; (case kA => exact rfl); (case kF => exact hef); (case kK => exact hek); (case k1 => exact B); (case k2 => exact F); (case k3 => exact X); (case k4 => exact N); (case k5 => exact T); (case kDD => exact D); (case k6 => k_is); (case k7 => k_is); (case k8 => (show dp < recursionLimit; omega)); (case k9 => first | exact BindsTo.of_eq rfl | exact binds_K (by k_in) rfl (by k_is) rfl rfl rfl | (refine' kp_binds ?z1 ?z2; (case z1 => k_in); (case z2 => (intro S; rfl)))); (case c5 => decide); (case kB => exact locs rfl); (case c2 => exact rfl); (case c3 => exact rfl); (case c4 => exact rfl); k_whole; intro g' L' h' FG F' N' B' X' T' D'; (try dsimp only); (try k_fold))
  k_steps
  all_goals ((try dsimp only); (try k_unfold); (try dsimp only))
  all_goals first
    | exact ⟨_, _, _, _, KtsTurn.refl, by assumption, by assumption, fun h₀' T0 F0 N0 B0 => hret _ _ h₀' _ _ ⟨_, _, _, rfl, by assumption, rfl, readL_good (by assumption)⟩ T0 F0 N0 B0 (D.turn T0) (XB.keeps B0.stays) (TB.keeps B0.stays)⟩
    | exact ⟨_, _, _, _, (by assumption : KtsTurn _ g' _), by assumption, by assumption, fun h₀' T0 F0 N0 B0 => hret _ _ h₀' _ _ ⟨_, _, _, rfl, by assumption, rfl, readL_bad (by assumption)⟩ T0 F0 N0 B0 (D.turn T0) (XB.keeps B0.stays) (TB.keeps B0.stays)⟩
end
section
open PySem PySem.W PyProof.Rows PySem.Calls
set_option Elab.async false
section
variable {prog : Program} {w : World} {A : Around} {E : Value → Shared → Prop} {s : Shared} {env : Env} {Q : Flow → Shared → Prop}
/-- a for's loop, ahead of its iterator: a word of its own -/
noncomputable def LoopT (prog : Program) (w : World) (A : Around) (env : Env) (x : Str) (px : Pos) (body : List Stmt) (Q : Flow → Shared → Prop) (E : Value → Shared → Prop) (it : Value) (s₂ : Shared) : Prop :=
  codeAny (model prog w) A (.forLoop (.Name x px) it body [] env) (fun r s' => match r with | .ok f => Q f s' | .error e => cameBackBy (model prog w) A env E e s') s₂
theorem For_T {x : Str} {px pos : Pos} {iter : Expr} {body : List Stmt}
    (h : wpAny (model prog w) A (eval iter env) (fun xv s₁ => wpAny (model prog w) A (pyIter xv) (fun it s₂ => LoopT prog w A env x px body Q E it s₂) E s₁) E s)
    (hs : ∀ x, foldedSetIterable iter env x = pure x := by intro _; rfl) :
    wpAny (model prog w) A (exec (.For (.Name x px) iter body [] pos) env) Q E s := wpAny_For h hs
/-- a turn's end -/
noncomputable def TEnd (L : Addr) (I : Addr) (own : List (Addr × Obj)) (J : Heap → (Str → Option Value) → List (Addr × Obj) → Prop) (s s₂ : Shared) : Prop :=
  ∃ g' h' tk m₂ news₂ nx, s₂ = { s with heap := h', toks := tk } ∧ Fr g' L h' m₂ ∧ News g' L h' nx ∧ (∀ p ∈ news₂, p ∈ nx) ∧ (∀ p ∈ own, p ∈ nx) ∧ (∀ p ∈ news₂, p.1 ≠ I) ∧ J g' m₂ news₂
noncomputable def TPost (L : Addr) (I : Addr) (own : List (Addr × Obj)) (J : Heap → (Str → Option Value) → List (Addr × Obj) → Prop) (s : Shared) (Q : Flow → Shared → Prop) (f : Flow) (s₂ : Shared) : Prop :=
  match f with
  | .ret v => Q (.ret v) s₂
  | .brk => Q .next s₂
  | _ => TEnd L I own J s s₂
inductive RgJ (env : Env) (s : Shared) (J : Nat → Heap → (Str → Option Value) → List (Addr × Obj) → Prop) (I : Addr) (a c : Int) (n k : Nat) (s' : Shared) : Prop
  | mk (h' : Heap) (tk : Nat) (g : Heap) (m' : Str → Option Value) (news' : List (Addr × Obj)) (i : Nat) (e : s' = { s with heap := h', toks := tk }) (hst : IsRangeIter h' I (a + (i : Nat) * c) ((n : Int) - (i : Nat)) c) (F : Fr g env.locals h' m') (N : News g env.locals h' news') (hnI : ∀ p ∈ news', p.1 ≠ I) (hJ : J i g m' news') (hi : i ≤ n) (hk : k = n + 1 - i)
theorem range_T {x : Str} {px : Pos} {body : List Stmt} {r : Addr} {a b c : Int} {t u v : Tok} {n : Nat} {g₀ : Heap} {m : Str → Option Value} {news : List (Addr × Obj)} (J : Nat → Heap → (Str → Option Value) → List (Addr × Obj) → Prop)
    (hh : A.handled = none) (hr : IsRange s.heap r a b c t u v) (hsmall : Builtin.Range.small a b c = true) (hn : Builtin.Range.rangeSize a b c = (n : Int))
    (F : Fr g₀ env.locals s.heap m) (N : News g₀ env.locals s.heap news) (h0 : J 0 g₀ m news) (hT : ∀ i g m' news', J i g m' news' → g.objs.size = g₀.objs.size ∧ ∀ b, g₀.get? b = none → g.get? b = none)
    (step : ∀ (i : Nat) k tk' g m₁ news₁ h tk own I, i < n → k = a + i * c → J i g m₁ news₁ → (∀ p ∈ news₁, p.1 ≠ I) → (∀ p ∈ own, p.1 = I) → Fr g env.locals h (fun y => if y = x then some (.int k tk') else m₁ y) → News g env.locals h (news₁ ++ own) →
      wpAny (model prog w) A (execs body env) (TPost env.locals I own (J (i + 1)) s Q) E { s with heap := h, toks := tk })
    (done : ∀ g m' news' h tk, J n g m' news' → Fr g env.locals h m' → News g env.locals h news' → Q .next { s with heap := h, toks := tk })
    (hx : env.kindOf x = some .local) (hp : (env.scope.kind == .class || (env.scope.kind == .module && env.locals != env.globals)) = false)
    (hE : PassesOwn (model prog w) A env E) :
    wpAny (model prog w) A (pyIter (.ref r)) (fun it s₂ => LoopT prog w A env x px body Q E it s₂) E s := by
  refine wpAny_pyIter_range hr hsmall ?_
  rw [hn]
  generalize hI : s.heap.objs.size = I
  have W := Walks.range (prog := prog) (w := w) hh I a c n
  have hLI : env.locals ≠ I := fun e => absurd F.ns.lt (by rw [e, hI]; exact Nat.lt_irrefl _)
  have fresh₀ : g₀.get? I = none := by rw [← hI]; exact next_is_new F
  unfold LoopT
  refine codeAny_forLoop
    (RgJ env s J I a c n) ?_ (n + 1)
    ⟨_, _, g₀, m, news, 0, rfl, by rw [← hI]; simpa using Heap.get?_push_size _ rfl, F.push _, fun p hp => ⟨Heap.get?_push_of_some _ (N p hp).1, (N p hp).2⟩, fun p hp e => absurd (Heap.lt_size (N p hp).1) (by rw [e, hI]; exact Nat.lt_irrefl _), h0, Nat.zero_le _, rfl⟩
  rintro k s' ⟨h', tk, g, m', news', i, rfl, hst, F', N', hnI, hJ, hi, rfl⟩
  have fr : g.get? I = none := (hT _ _ _ _ hJ).2 I fresh₀
  have next : ∀ h₁ : Heap, (∀ b o, b ∉ [I] → h'.get? b = some o → h₁.get? b = some o) → Fr g env.locals h₁ m' ∧ News g env.locals h₁ news' := fun h₁ hk₁ =>
    ⟨⟨F'.ns.at' fun o e => hk₁ _ o (by simpa using hLI) e, fun b o e => hk₁ b o (by intro z; rw [List.mem_singleton.mp z, fr] at e; cases e) (F'.keep b o e), F'.above⟩, fun p hp => ⟨hk₁ _ _ (by simpa using hnI p hp) (N' p hp).1, (N' p hp).2⟩⟩
  by_cases hlt : i < n
  · refine W.item i _ _ _ hlt hst fun v h₁ tk₁ hP hst₁ hk₁ => ?_
    obtain ⟨F₁, N₁⟩ := next h₁ hk₁
    obtain ⟨tv, rfl⟩ := hP
    refine wpAny_assign_Name (wpAny_storeName_local hx F₁.ns (fun h₂ hn₂ hs₂ => ?_) hp)
    have F₂ := F₁.set hn₂ hs₂
    have hst₂ : IsRangeIter h₂ I (a + ((i + 1 : Nat) : Int) * c) ((n : Int) - ((i + 1 : Nat) : Int)) c := (hs₂.2 I hLI.symm).trans hst₁
    have N₂ : News g env.locals h₂ (news' ++ [(I, _)]) := fun p hp => by
      rcases List.mem_append.mp hp with q | q
      · exact (N₁.set hs₂) p q
      · rw [List.mem_singleton.mp q]
        exact ⟨hst₂, hLI.symm, fr⟩
    refine wpAny_mono (wpAny_passesOwn hE (step i _ tv g m' news' h₂ _ [(I, _)] I hlt rfl hJ hnI (fun p hp => by rw [List.mem_singleton.mp hp]) F₂ N₂)) (fun f s₃ h₃ => ?_) fun _ _ e => e
    cases f with
    | ret v => exact h₃
    | brk => exact h₃
    | cont =>
      obtain ⟨g', h₃', tk₃, m₂, news₂, nx, rfl, F₃, N₃, hs, ho, hni, hJ₃⟩ := h₃
      exact ⟨n + 1 - (i + 1), turn_lt hlt, h₃', tk₃, g', m₂, news₂, i + 1, rfl, (N₃ _ (ho _ (List.mem_singleton.mpr rfl))).1, F₃, fun p hp => N₃ p (hs p hp), hni, hJ₃, hlt, rfl⟩
    | next =>
      obtain ⟨g', h₃', tk₃, m₂, news₂, nx, rfl, F₃, N₃, hs, ho, hni, hJ₃⟩ := h₃
      exact ⟨n + 1 - (i + 1), turn_lt hlt, h₃', tk₃, g', m₂, news₂, i + 1, rfl, (N₃ _ (ho _ (List.mem_singleton.mpr rfl))).1, F₃, fun p hp => N₃ p (hs p hp), hni, hJ₃, hlt, rfl⟩
  · have hin : i = n := Nat.le_antisymm ‹i ≤ n› (Nat.le_of_not_lt hlt)
    subst hin
    refine W.done _ _ _ hst fun h₁ tk₁ hk₁ => wpAny_execs_nil ?_
    obtain ⟨F₁, N₁⟩ := next h₁ hk₁
    exact done g m' news' h₁ tk₁ hJ F₁ N₁
end
end
section
open PySem PySem.W PyProof.Rows PySem.Calls
set_option Elab.async false
theorem extend_led {prog : Program} {w : World} {A : Around} {E : Value → Shared → Prop} {s : Shared} {h₀ : Heap} {L : Addr} {m : Str → Option Value} {D b : Addr} {vs ws : List Value} {n n2 : Nat} {rest : List (Addr × Obj)} {Q : Value → Shared → Prop}
    (F : Fr h₀ L s.heap m) (N : News h₀ L s.heap ((b, listOf ws.toArray n2) :: (D, listOf vs.toArray n) :: rest)) (hbD : b ≠ D) (hne : ∀ q ∈ rest, q.1 ≠ D) (hz : vs.length + ws.length ≤ 10000)
    (h : ∀ h' n', Fr h₀ L h' m → News h₀ L h' ((b, listOf ws.toArray n2) :: (D, listOf (vs ++ ws).toArray n') :: rest) → Q .none { s with heap := h' }) :
    wpAny (model prog w) A (call (.builtin "list.extend") [.ref D, .ref b]) Q E s := by
  have hs : vs.toArray.size + ws.toArray.size ≤ sizeLine := by simp only [List.size_toArray, sizeLine_eq]; lia
  have hd := extend_door hs
  have hz1 : vs.toArray.toList.length ≤ sizeLine := by simp only [sizeLine_eq]; lia
  cases ws with
  | nil =>
    refine kxn_extend F N (List.Mem.head _) rfl (Upd.tail hbD (Upd.head hne)) hd hz1 (Nat.le_succ_of_le hs) fun h' F' N' => ?_
    exact h h' n F' (by simpa using N')
  | cons v r =>
    refine kl_extend (l := vs ++ (v :: r)) F N (List.Mem.head _) rfl (by simp) (Upd.tail hbD (Upd.head hne)) hd hz1 (Nat.le_succ_of_le hs) fun h' F' N' => h h' (n + 1) F' N'
theorem BsAre.len : ∀ {vs : List Value} {bs : List (Array UInt8)}, BsAre vs bs → vs.length = bs.length
  | [], [], _ => rfl
  | _ :: _, _ :: _, h => congrArg (· + 1) (BsAre.len h.2)
theorem BsAre.app : ∀ {vs : List Value} {bs : List (Array UInt8)} {ws : List Value} {cs : List (Array UInt8)}, BsAre vs bs → BsAre ws cs → BsAre (vs ++ ws) (bs ++ cs)
  | [], [], _, _, _, h => h
  | _ :: _, _ :: _, _, _, h, k => ⟨h.1, BsAre.app h.2 k⟩
theorem readL_len (x p : Str) : (readL x p).length ≤ 1 := by unfold readL; split <;> simp
end
section
open PySem PySem.W PyProof.Rows
set_option Elab.async false
set_option linter.unusedSimpArgs false

noncomputable def TextOk (x p : Str) : Prop := x.length ≤ 1000 ∧ (∀ c ∈ x.cps.toList, c < 128) ∧ ∀ y ∈ KBw.bInts (decIn x p), y ≠ 61
theorem p_pre {r : Str} {k : Int} (h257 : r.cps.toList.take 3 = [50, 53, 55]) (h0 : 0 ≤ k) : (Txt.slice (Txt.slice r none (some k)) none (some 3) != Str.ofString "257") = decide (k < 3) := by
  obtain ⟨n, rfl⟩ := Int.eq_ofNat_of_zero_le h0
  have e3 : ((3 : Int)) = ((3 : Nat) : Int) := rfl
  have e257 : Str.ofString "257" = ⟨#[50, 53, 55]⟩ := by decide +kernel
  rw [slice_ns, e3, slice_ns, e257]
  have hlen : 3 ≤ r.cps.toList.length := by
    have := congrArg List.length h257
    rw [List.length_take] at this
    simp at this
    simp
    lia
  have et : List.take 3 (List.take n r.cps.toList) = List.take (min 3 n) r.cps.toList := List.take_take
  show ((⟨(List.take 3 (List.take n r.cps.toList)).toArray⟩ : Str) != ⟨#[50, 53, 55]⟩) = _
  rw [et]
  by_cases h : n < 3
  · have h1 : ((n : Int) < 3) := by lia
    rw [show decide (((n : Nat) : Int) < ((3 : Nat) : Int)) = true from decide_eq_true h1]
    rw [bne, beq_str, Bool.not_eq_true', decide_eq_false_iff_not]
    intro e
    have e' := congrArg (fun x : Str => x.cps.toList.length) e
    simp at e'
    simp at hlen
    lia
  · have h1 : ¬ ((n : Int) < 3) := by lia
    rw [show decide (((n : Nat) : Int) < ((3 : Nat) : Int)) = false from decide_eq_false h1, Nat.min_eq_left (by lia), h257]
    rw [bne, beq_str]
    rfl
theorem truthy_t3 {M : Model} {A : Around} {E : Value → Shared → Prop} {s : Shared} {Q : Bool → Shared → Prop} {k : Int} (h : k < 3) (hq : Q false s) : wpAny M A (truthy (.bool (true != decide (k < 3)))) Q E s := by
  have e : (true != decide (k < 3)) = false := by simp [h]
  rw [e]; exact wpAny_truthy_bool hq
theorem truthy_f3 {M : Model} {A : Around} {E : Value → Shared → Prop} {s : Shared} {Q : Bool → Shared → Prop} {k : Int} (h : 3 ≤ k) (hq : Q false s) : wpAny M A (truthy (.bool (false != decide (k < 3)))) Q E s := by
  have e : (false != decide (k < 3)) = false := by simp; lia
  rw [e]; exact wpAny_truthy_bool hq
theorem p_lt {r : Str} {k : Int} (h257 : r.cps.toList.take 3 = [50, 53, 55]) (h0 : 0 ≤ k) (h : (Txt.slice (Txt.slice r none (some k)) none (some 3) != Str.ofString "257") = true) : k < 3 := by rw [p_pre h257 h0] at h; simpa using h
theorem p_ge {r : Str} {k : Int} (h257 : r.cps.toList.take 3 = [50, 53, 55]) (h0 : 0 ≤ k) (h : (Txt.slice (Txt.slice r none (some k)) none (some 3) != Str.ofString "257") = false) : 3 ≤ k := by rw [p_pre h257 h0] at h; simpa using h
theorem p_cut {r : Str} {k : Int} {b : Bool} (h257 : r.cps.toList.take 3 = [50, 53, 55]) (h0 : 0 ≤ k) (h : (Txt.slice (Txt.slice r none (some k)) none (some 3) != Str.ofString "257") = b) : decide (k < 3) = b := by rw [← h, p_pre h257 h0]
noncomputable def takeS (r : Str) (k : Int) : Str := Txt.slice r none (some k)
/-- one place of _law_chain's walk -/
noncomputable def cstep (r p : Str) (c : Option Str × List (Array UInt8)) (k : Int) : Option Str × List (Array UInt8) :=
  if k < 3 then c else if c.1 = some (parse257S (takeS r k)) then c else (some (parse257S (takeS r k)), c.2 ++ readL (parse257S (takeS r k)) p)
noncomputable def chainF (r p : Str) (ks : List Int) : Option Str × List (Array UInt8) := ks.foldl (cstep r p) (none, [])
noncomputable def SeenIs : Value → Option Str → Prop
  | .none, none => True
  | .str x _, some y => x = y
  | _, _ => False
noncomputable def rangeObj (a b c : Int) (t u v : Tok) : Obj := { cls := .type "range", dict := none, data := .fields #[.int a t, .int b u, .int c v], slots := #[] }
noncomputable def kSeq (a c : Int) (n : Nat) : List Int := (List.range n).map fun (i : Nat) => a + (i : Int) * c
structure ChainJ (fs : List Addr) (A₀ : Around) (base g₀ : Heap) (outer : List Env) (w : World) (mean : ExcName → Option Value) (mg mb : Str → Option Value) (la : Addr) (news : List (Addr × Obj)) (m₀ : Str → Option Value) (r p : Str) (a c : Int) (i : Nat) (g : Heap) (m : Str → Option Value) (nx : List (Addr × Obj)) (sv : Value) (vs : List Value) (ep : Nat) : Prop where
  turn : KtsTurn fs g₀ g
  below : Below A₀ base outer g
  dicts : KtsDicts fs g
  inK : (hd.heap_1 w.params).In g
  top : Top vw LO mean mg mb g
  led : nx = (la, listOf vs.toArray ep) :: news
  bs : BsAre vs (chainF r p (kSeq a c i)).2
  seen : SeenIs sv (chainF r p (kSeq a c i)).1
  ms : m (Str.ofString "seen") = some sv
  same : ∀ z, z ≠ Str.ofString "place" → z ≠ Str.ofString "seen" → z ≠ Str.ofString "text" → m z = m₀ z
noncomputable def chainJ (fs : List Addr) (A₀ : Around) (base g₀ : Heap) (outer : List Env) (w : World) (mean : ExcName → Option Value) (mg mb : Str → Option Value) (la : Addr) (news : List (Addr × Obj)) (m₀ : Str → Option Value) (r p : Str) (a c : Int) (i : Nat) (g : Heap) (m : Str → Option Value) (nx : List (Addr × Obj)) : Prop := ∃ sv vs ep, ChainJ fs A₀ base g₀ outer w mean mg mb la news m₀ r p a c i g m nx sv vs ep
theorem kSeq_snoc (a c : Int) (n : Nat) : kSeq a c (n + 1) = kSeq a c n ++ [a + (n : Int) * c] := by simp [kSeq, List.range_succ]
theorem chainF_snoc (r p : Str) (ks : List Int) (k : Int) : chainF r p (ks ++ [k]) = cstep r p (chainF r p ks) k := by simp [chainF]
theorem tend_in {fs : List Addr} {A₀ : Around} {base g₀ g1 h : Heap} {outer : List Env} {w : World} {mean : ExcName → Option Value} {mg mb : Str → Option Value} {la L I : Addr} {news nx own : List (Addr × Obj)} {m₀ m₂ : Str → Option Value} {r p : Str} {a c : Int} {i tk : Nat} {s : Shared} {sv : Value} {vs2 : List Value} {ep2 : Nat}
    (F : Fr g1 L h m₂) (N : News g1 L h nx) (T : KtsTurn fs g₀ g1) (B : Below A₀ base outer g1) (D : KtsDicts fs g1) (X : (hd.heap_1 w.params).In g1) (P : Top vw LO mean mg mb g1)
    (hs : ∀ q ∈ (la, listOf vs2.toArray ep2) :: news, q ∈ nx) (ho : ∀ q ∈ own, q ∈ nx) (hI : ∀ q ∈ (la, listOf vs2.toArray ep2) :: news, q.1 ≠ I) (hb : BsAre vs2 (chainF r p (kSeq a c i)).2) (hse : SeenIs sv (chainF r p (kSeq a c i)).1)
    (hms : m₂ (Str.ofString "seen") = some sv) (same : ∀ z, z ≠ Str.ofString "place" → z ≠ Str.ofString "seen" → z ≠ Str.ofString "text" → m₂ z = m₀ z) :
    TEnd L I own (chainJ fs A₀ base g₀ outer w mean mg mb la news m₀ r p a c i) s { s with heap := h, toks := tk } :=
  ⟨g1, h, tk, m₂, _, nx, rfl, F, N, hs, ho, hI, sv, vs2, ep2, T, B, D, X, P, rfl, hb, hse, hms, same⟩
theorem chain_lt {r p : Str} {a c k : Int} {i : Nat} (hk : k = a + (i : Int) * c) (h : k < 3) : chainF r p (kSeq a c (i + 1)) = chainF r p (kSeq a c i) := by
  rw [kSeq_snoc, chainF_snoc, ← hk]; unfold cstep; rw [if_pos h]
theorem chain_same {r p : Str} {a c k : Int} {i : Nat} (hk : k = a + (i : Int) * c) (h : 3 ≤ k) (e : (chainF r p (kSeq a c i)).1 = some (parse257S (Txt.slice r none (some k)))) : chainF r p (kSeq a c (i + 1)) = chainF r p (kSeq a c i) := by
  rw [kSeq_snoc, chainF_snoc, ← hk]; unfold cstep takeS; rw [if_neg (by lia), if_pos e]
theorem chain_new {r p : Str} {a c k : Int} {i : Nat} (hk : k = a + (i : Int) * c) (h : 3 ≤ k) (e : (chainF r p (kSeq a c i)).1 ≠ some (parse257S (Txt.slice r none (some k)))) : chainF r p (kSeq a c (i + 1)) = (some (parse257S (Txt.slice r none (some k))), (chainF r p (kSeq a c i)).2 ++ readL (parse257S (Txt.slice r none (some k))) p) := by
  rw [kSeq_snoc, chainF_snoc, ← hk]; unfold cstep takeS; rw [if_neg (by lia), if_neg e]
theorem seen_none {o : Option Str} (h : SeenIs .none o) : o = none := by
  cases o with
  | none => rfl
  | some y => cases h
theorem seen_str {x : Str} {t : Tok} {o : Option Str} (h : SeenIs (.str x t) o) : o = some x := by
  cases o with
  | none => cases h
  | some y => rw [show x = y from h]
theorem sub0 {A : Addr × Obj} {news own : List (Addr × Obj)} : ∀ q ∈ A :: news, q ∈ A :: (news ++ own) := fun q hq => by
  rcases List.mem_cons.mp hq with rfl | h
  · exact List.Mem.head _
  · exact List.Mem.tail _ (List.mem_append_left _ h)
theorem cstep_len (r p : Str) (c : Option Str × List (Array UInt8)) (k : Int) : (cstep r p c k).2.length ≤ c.2.length + 1 := by
  unfold cstep
  have := readL_len (parse257S (takeS r k)) p
  split
  · lia
  · split
    · lia
    · simp; lia
theorem chainF_len (r p : Str) (a c : Int) : ∀ n, (chainF r p (kSeq a c n)).2.length ≤ n
  | 0 => by simp [kSeq, chainF]
  | n + 1 => by
    rw [kSeq_snoc, chainF_snoc]
    have := cstep_len r p (chainF r p (kSeq a c n)) (a + (n : Int) * c)
    have := chainF_len r p a c n
    lia
theorem chain_loop {prog : Program} {w : World} {A A₀ : Around} {E : Value → Shared → Prop} {s : Shared} {env : Env} {Q : Flow → Shared → Prop} {px : Pos} {body : List Stmt} {ra la : Addr} {a b c : Int} {t u v : Tok} {n e0 : Nat} {base g₀ : Heap} {outer : List Env} {m mg mb : Str → Option Value} {mean : ExcName → Option Value} {news : List (Addr × Obj)} {r p : Str} {fs : List Addr}
    (hh : A.handled = none) (hrg : (ra, rangeObj a b c t u v) ∈ news) (hsmall : Builtin.Range.small a b c = true) (hn : Builtin.Range.rangeSize a b c = (n : Int)) (l1 : ∀ q ∈ news, q.1 < la)
    (F : Fr g₀ env.locals s.heap m) (N : News g₀ env.locals s.heap ((la, listOf #[] e0) :: news)) (hseen : m (Str.ofString "seen") = some .none)
    (hfs : fs = outer.filterMap (·.frame)) (B : Below A₀ base outer g₀) (D : KtsDicts fs g₀) (X : (hd.heap_1 w.params).In g₀) (T : Top vw LO mean mg mb g₀)
    (step : ∀ (i : Nat) k tk' g (u : Str → Option Value) sv vs ep h tk own I, i < n → k = a + (i : Int) * c → KtsTurn fs g₀ g → Below A₀ base outer g → KtsDicts fs g → (hd.heap_1 w.params).In g → Top vw LO mean mg mb g → BsAre vs (chainF r p (kSeq a c i)).2 → SeenIs sv (chainF r p (kSeq a c i)).1 →
      (∀ q ∈ (la, listOf vs.toArray ep) :: news, q.1 ≠ I) → (∀ q ∈ own, q.1 = I) → (∀ q ∈ news ++ own, q.1 ≠ la) →
      Fr g env.locals h (fun y => if y = Str.ofString "place" then some (.int k tk') else if y = Str.ofString "seen" then some sv else if y = Str.ofString "text" then u y else m y) → News g env.locals h ((la, listOf vs.toArray ep) :: (news ++ own)) →
      wpAny (model prog w) A (execs body env) (TPost env.locals I own (chainJ fs A₀ base g₀ outer w mean mg mb la news m r p a c (i + 1)) s Q) E { s with heap := h, toks := tk })
    (done : ∀ g (u : Str → Option Value) sv vs ep h tk, KtsTurn fs g₀ g → Below A₀ base outer g → KtsDicts fs g → (hd.heap_1 w.params).In g → Top vw LO mean mg mb g → BsAre vs (chainF r p (kSeq a c n)).2 →
      Fr g env.locals h (fun y => if y = Str.ofString "seen" then some sv else if y = Str.ofString "place" then u y else if y = Str.ofString "text" then u y else m y) → News g env.locals h ((la, listOf vs.toArray ep) :: news) → Q .next { s with heap := h, toks := tk })
    (hx : env.kindOf (Str.ofString "place") = some .local) (hp : (env.scope.kind == .class || (env.scope.kind == .module && env.locals != env.globals)) = false)
    (hE : PassesOwn (model prog w) A env E) :
    wpAny (model prog w) A (pyIter (.ref ra)) (fun it s₂ => LoopT prog w A env (Str.ofString "place") px body Q E it s₂) E s := by
  refine range_T (chainJ fs A₀ base g₀ outer w mean mg mb la news m r p a c) hh ((N _ (List.mem_cons_of_mem _ hrg)).1) hsmall hn F N ⟨.none, [], e0, KtsTurn.refl, B, D, X, T, rfl, trivial, trivial, hseen, fun _ _ _ _ => rfl⟩ ?_ ?_ ?_ hx hp hE
  · rintro i g m' nx ⟨sv, vs, ep, J⟩
    exact ⟨J.turn.size, J.turn.none_⟩
  · rintro i k tk' g m₁ nx h tk own I hi hk ⟨sv, vs, ep, J⟩ hnI hoI F₁ N₁
    have hnx := J.led
    subst hnx
    refine step i k tk' g m₁ sv vs ep h tk own I hi hk J.turn J.below J.dicts J.inK J.top J.bs J.seen hnI hoI (fun q hq e => ?_) ?_ N₁
    · rcases List.mem_append.mp hq with z | z
      · exact absurd (l1 q z) (by rw [e]; exact Nat.lt_irrefl _)
      · exact hnI _ (List.Mem.head _) ((e.symm.trans (hoI q z)))
    · have em : (fun y => if y = Str.ofString "place" then some (Value.int k tk') else if y = Str.ofString "seen" then some sv else if y = Str.ofString "text" then m₁ y else m y) = fun y => if y = Str.ofString "place" then some (Value.int k tk') else m₁ y := by
        funext y
        by_cases h1 : y = Str.ofString "place"
        · rw [if_pos h1, if_pos h1]
        · rw [if_neg h1, if_neg h1]
          by_cases h2 : y = Str.ofString "seen"
          · rw [if_pos h2, h2, J.ms]
          · rw [if_neg h2]
            by_cases h3 : y = Str.ofString "text"
            · rw [if_pos h3]
            · rw [if_neg h3, J.same y h1 h2 h3]
      rw [em]; exact F₁
  · rintro g m' nx h tk ⟨sv, vs, ep, J⟩ F₁ N₁
    have hnx := J.led
    subst hnx
    refine done g m' sv vs ep h tk J.turn J.below J.dicts J.inK J.top J.bs ?_ N₁
    have em : (fun y => if y = Str.ofString "seen" then some sv else if y = Str.ofString "place" then m' y else if y = Str.ofString "text" then m' y else m y) = m' := by
      funext y
      by_cases h2 : y = Str.ofString "seen"
      · rw [if_pos h2, h2, J.ms]
      · rw [if_neg h2]
        by_cases h1 : y = Str.ofString "place"
        · rw [if_pos h1]
        · rw [if_neg h1]
          by_cases h3 : y = Str.ofString "text"
          · rw [if_pos h3]
          · rw [if_neg h3, J.same y h1 h2 h3]
    rw [em]; exact F₁

set_option maxRecDepth 100000 in
set_option maxHeartbeats 8000000 in
theorem chain_spec (w : World) (mean : ExcName → Option Value) (mg mb : Str → Option Value) (news : List (Addr × Obj)) (r p : Str) (tr tp : Tok) (ra : Addr) (a0 b0 c0 : Int) (t0 u0 v0 : Tok) (n0 : Nat) (hn0 : n0 ≤ 2000) (hr : r.length ≤ 1000) (hp : p.length = 2) (hpa : ∀ c ∈ p.cps.toList, c < 128) (h257 : r.cps.toList.take 3 = [50, 53, 55]) (hrg : (ra, rangeObj a0 b0 c0 t0 u0 v0) ∈ news) (hsm : Builtin.Range.small a0 b0 c0 = true) (hsz : Builtin.Range.rangeSize a0 b0 c0 = (n0 : Int)) (hk : ∀ i : Nat, i < n0 → 0 ≤ a0 + (i : Int) * c0 ∧ a0 + (i : Int) * c0 ≤ (r.length : Int)) (hT : ∀ k : Int, 0 ≤ k → TextOk (parse257S (takeS r k)) p) :
    SpT w mean mg mb none 174 12 news [.str r tr, .ref ra, .str p tp] [] (fun v n => ∃ la ep vs, v = .ref la ∧ (∀ q ∈ news, q.1 < la) ∧ n = (la, listOf vs.toArray ep) :: news ∧ BsAre vs (chainF r p (kSeq a0 c0 n0)).2) (fun _ _ => False) := by
  w_on
  k_with_none
  k_with "eval Constant int" => (k_here; (with_reducible refine flat_int ?_))
  k_with "execs cons" => (k_here; (first | (with_reducible show wpAny _ _ _ (fun _ => LeaveK _ _ _ _ _ _) _ _) | (with_reducible show wpAny _ _ _ (BPost _ _ _ _ _ _ _) _ _) | (with_reducible show wpAny _ _ _ (TPost _ _ _ _ _ _) _ _) | (with_reducible show wpAny _ _ _ (KswPost _ _ _ _ _ _ _ _ _ _ _ _) _ _) | (with_reducible show wpAny _ _ _ (fun _ _ => LeaveK _ _ _ _ _ _ _) _ _)); k_fold; (with_reducible refine wpAny_execs_cons ?_); (try dsimp only))
  k_with "call type:type" => (k_here; (first | ((with_reducible show wpAny _ _ (call (Value.type "type") [Value.bytes _ _]) _ _ _); refine call_type_of (typeIs_bytes _ _ _) (by decide) ?_) | ((with_reducible show wpAny _ _ (call (Value.type "type") [Value.str _ _]) _ _ _); refine call_type_of (typeIs_str _ _ _) (by decide) ?_)))
  k_with "call builtin:len" => (k_here; (with_reducible show wpAny _ _ (call (Value.builtin "len") [Value.bytes _ _]) _ _ _); (refine' len_bytes ?k1 ?_; (case k1 => ((try simp only [encA_size, trA_size]); omega))))
  k_with "getMethod str" => (k_here; (with_reducible refine method_encode ?_))
  k_with "call builtin:str.encode" => (k_here; (refine' call_encode ?kx ?ks ?_; (case kx => assumption); (case ks => size_fits)); intro _ _)
  k_with "getMethod bytes" => (k_here; (with_reducible refine method_translate ?_))
  k_with "call builtin:bytes.translate" => (k_here; (try dsimp only [List.cons_append, List.nil_append]); (refine' call_translate ?kx ?ks ?_; (case kx => exact mkTab_size _ _); (case ks => first | ((try simp only [encA_size, trA_size, PySem.sizeLine_eq]); omega) | size_fits)); intro _ _)
  k_with "getMethod type:bytes" => (k_here; refine' method_type ?F ?X ?m (by decide +kernel) ?e ?h ?_; (case F => k_asm); (case X => k_asm); (case m => exact meta_bytes); (case e => k_dflt k_is); (case h => k_handed))
  k_with "call builtin:bytes.maketrans" => (k_here; (refine' call_maketrans ?kx ?_; (case kx => first | rfl | assumption | (simp; done) | omega)); intro _ _)
  k_with "call builtin:len" => (k_here; (with_reducible show wpAny _ _ (call (Value.builtin "len") [Value.ref _]) _ _ _); refine' len_list (News.isList ?kN ?km) ?kz ?_; (case kN => k_asm); (case km => k_mem); (case kz => ((try simp only [List.size_toArray]); omega)))
  k_with "BPost" => (dsimp only [BPost])
  k_with "call builtin:list.append" => (k_here; (try dsimp only [List.cons_append, List.nil_append]); k_dflt (refine' append_K ?k1 ?k2 ?k3 ?_ ?z; (case k1 => k_asm); (case k2 => k_asm); (case k3 => k_upd); (case z => size_fits); k_whole); intro _ _ _; (try k_sweep))
  k_with "call type:bytes" => (k_here; (with_reducible show wpAny _ _ (call (Value.type _) [Value.ref _]) _ _ _); k_dflt (refine' bytes_K ?z9F ?z9N ?l ?i ?r ?z ?h ?_; (case z9F => k_asm); (case z9N => k_asm); (case l => is_list); (case i => assumption); (case r => assumption); (case z => size_fits); (case h => with_unfolding_all rfl); k_whole); intro _ _ _ _ _ _; (try k_sweep))
  k_with "call ref" => (k_here; (with_reducible show wpAny _ _ (call (Value.ref 58) [Value.str _ _] []) _ _ _); k_dflt (refine' parse_spec _ _ _ _ _ _ _ ?kh1 _ _ _ _ _ _ _ _ _ _ _ _ _ ?kef ?kek ?kB ?kD ?kF ?kX ?kN ?kT ?kd ?ku ?_ ?_; (case kef => exact rfl); (case kek => exact rfl); (case kB => k_asm); (case kD => k_asm); (case kF => k_asm); (case kX => k_asm); (case kN => k_asm); (case kT => k_asm); (case kd => ((try dsimp only [topM, Around.deeper]); omega)); (case ku => ((try dsimp only [topM, Around.deeper]); omega)); (case kh1 => first | omega | (simp only [slice_ns_len]; omega) | exact Nat.le_trans (PyProof.Txt.length_slice_le _ _ _) (by omega)); all_goals (first | (intro G' e' t' c' a' h' tk' hX' FG' RS' RK' U'; obtain ⟨e1', hP'⟩ := hX'; subst e1'; (first | (have q3' := p_lt (by assumption) (by assumption) hP') | (have q3' := p_ge (by assumption) (by assumption) hP')); (try dsimp only); (try k_fold)) | (intro v' n' h' tk' hR' F' N'; obtain ⟨⟨t1', e1'⟩, hP', e2'⟩ := hR'; (replace e2' := Eq.symm e2'); subst e1' e2'; (first | (have q3' := p_lt (by assumption) (by assumption) hP') | (have q3' := p_ge (by assumption) (by assumption) hP')); (try k_sweep); (try dsimp only); (try k_fold)))))
  k_with "call ref" => (k_here; (with_reducible show wpAny _ _ (call (Value.ref 167) [Value.str _ _, Value.str _ _] []) _ _ _); k_dflt (refine' read_spec _ _ _ _ _ _ _ _ _ ?kh1 ?kh2 ?kh3 ?kh4 ?kh5 _ _ _ _ _ _ _ _ _ _ _ _ _ ?kef ?kek ?kB ?kD ?kF ?kX ?kN ?kT ?kXB ?kTB ?kd ?ku ?_ ?ke; (case kef => exact rfl); (case kek => exact rfl); (case kB => k_asm); (case kD => k_asm); (case kF => k_asm); (case kX => k_asm); (case kN => k_asm); (case kT => k_asm); (case kXB => k_asm); (case kTB => k_asm); (case kd => ((try dsimp only [topM, Around.deeper]); omega)); (case ku => ((try dsimp only [topM, Around.deeper]); omega)); (case kh1 => (have q9 := ‹TextOk _ _›.1; omega)); (case kh2 => assumption); (case kh3 => exact ‹TextOk _ _›.2.1); (case kh4 => assumption); (case kh5 => exact ‹TextOk _ _›.2.2); (case ke => (intro _ _ _ _ _ _ _ hx'; exact False.elim hx')); intro v' n' g1' h' tk' hR' T1' F' N' B1' D1' X1' P1'; obtain ⟨la', ep', vs', e1', hl', e2', hB'⟩ := hR'; subst e1' e2'; (try k_sweep); (try dsimp only); (try k_fold)))
  k_with "truthy bool" => (k_here; first | ((with_reducible show wpAny _ _ (truthy (Value.bool (true != decide (_ < 3)))) _ _ _); refine truthy_t3 (by assumption) ?_) | ((with_reducible show wpAny _ _ (truthy (Value.bool (false != decide (_ < 3)))) _ _ _); refine truthy_f3 (by assumption) ?_))
  k_with "TPost" => (dsimp only [TPost])
  k_with "exec For Name Name cons nil" => (k_here; (with_unfolding_all refine For_T ?_))
  unfold SpT
  k_fill
  intro dp un gd env outer A₀ base h₀ L m s Q E hef hek B D F X N T XB TB hdp hun hret hexc
  refine wpAny_call ?_
  k_dflt (refine' code_turn ?k1 ?k2 ?k3 ?k4 ?k5 ?kDD ?kA ?kF ?kK ?k6 ?k7 ?k8 ?k9 ?kB ?_ ?c2 ?c3 ?c4 ?c5; (case kA => exact rfl); (case kF => exact hef); (case kK => exact hek); (case k1 => exact B); (case k2 => exact F); (case k3 => exact X); (case k4 => exact N); (case k5 => exact T); (case kDD => exact D); (case k6 => k_is); (case k7 => k_is); (case k8 => (show dp < recursionLimit; omega)); (case k9 => first | exact BindsTo.of_eq rfl | exact binds_K (by k_in) rfl (by k_is) rfl rfl rfl | (refine' kp_binds ?z1 ?z2; (case z1 => k_in); (case z2 => (intro S; rfl)))); (case c5 => decide); (case kB => exact locs rfl); (case c2 => exact rfl); (case c3 => exact rfl); (case c4 => exact rfl); k_whole; intro g' L' h' FG F' N' B' X' T' D'; (try dsimp only); (try k_fold))
  k_steps
  (rename Fr g' L' _ _ => Fc); (rename News g' L' _ _ => Nc); (rename ∀ q ∈ news, _ => l1)
  refine' chain_loop (r := r) (p := p) ?z1 hrg hsm hsz l1 Fc Nc ?z2 rfl B' D' X' T' ?_ ?_ ?z3 ?z4 ?z5
  case z1 => exact rfl
  case z2 => exact rfl
  case z3 => exact rfl
  case z4 => exact rfl
  case z5 => passes_own
  · intro i k tk' g u sv vs ep h tk own I hi hke T1 B1 D1 X1 P1 hbs hse hnI hoI hne F9 N9
    have hk1 := hk i hi
    rw [← hke] at hk1
    have hTk : TextOk (parse257S (Txt.slice r none (some k))) p := hT k hk1.1
    obtain ⟨hk2, hk3⟩ := hk1
    clear Fc Nc
    cases sv with
    | none =>
      (try dsimp only); (try k_fold)
      k_steps
      · skip
        (rename BsAre _ (readL _ _) => hB9); (with_reducible rename (∀ q : Addr × Obj, q ∈ _ :: _ → q.1 < _) => hl9)
        refine extend_led (by assumption) (by assumption) (Nat.ne_of_gt (hl9 _ (List.Mem.head _))) hne ?_ ?_
        · have q1 := hB9.len; have q2 := readL_len (parse257S (Txt.slice r none (some k))) p; have q3 := hbs.len; have q4 := chainF_len r p a0 c0 i; omega
        · intro hx nx Fx Nx
          (try k_fold)
          k_steps
          have hcn := chain_new (r := r) (p := p) hke (by assumption) (by rw [seen_none hse]; simp)
          refine tend_in Fx Nx (T1.trans (by assumption)) (by assumption) (by assumption) (by assumption) (by assumption) (fun q hq => List.Mem.tail _ (sub0 q hq)) (fun q hq => List.Mem.tail _ (List.Mem.tail _ (List.mem_append_right _ hq))) (fun q hq => ?_) (by rw [hcn]; exact hbs.app hB9) (by rw [hcn]; exact rfl) rfl ?_
          · rcases List.mem_cons.mp hq with rfl | hq
            · exact fun e => hnI (_, listOf vs.toArray ep) (List.Mem.head _) e
            · exact hnI q (List.Mem.tail _ hq)
          · intro z h1 h2 h3; simp only [if_neg h1, if_neg h2, if_neg h3]
      · skip
        have hcn := chain_lt (r := r) (p := p) hke (by assumption)
        refine tend_in (by assumption) (by assumption) (by first | assumption | exact T1.trans (by assumption)) (by assumption) (by assumption) (by assumption) (by assumption) sub0 (fun q hq => List.Mem.tail _ (List.mem_append_right _ hq)) (fun q hq => ?_) (by rw [hcn]; exact hbs) (by rw [hcn]; exact hse) rfl ?_
        · rcases List.mem_cons.mp hq with rfl | hq
          · exact hnI _ (List.Mem.head _)
          · exact hnI q (List.Mem.tail _ hq)
        · intro z h1 h2 h3; simp only [if_neg h1, if_neg h2, if_neg h3]
    | str x tx =>
      (try dsimp only); (try k_fold)
      k_steps
      · skip
        (rename BsAre _ (readL _ _) => hB9); (with_reducible rename (∀ q : Addr × Obj, q ∈ _ :: _ → q.1 < _) => hl9)
        refine extend_led (by assumption) (by assumption) (Nat.ne_of_gt (hl9 _ (List.Mem.head _))) hne ?_ ?_
        · have q1 := hB9.len; have q2 := readL_len (parse257S (Txt.slice r none (some k))) p; have q3 := hbs.len; have q4 := chainF_len r p a0 c0 i; omega
        · intro hx nx Fx Nx
          (try k_fold)
          k_steps
          have hcn := chain_new (r := r) (p := p) hke (by assumption) (by rw [seen_str hse]; intro e9; simp_all)
          refine tend_in Fx Nx (T1.trans (by assumption)) (by assumption) (by assumption) (by assumption) (by assumption) (fun q hq => List.Mem.tail _ (sub0 q hq)) (fun q hq => List.Mem.tail _ (List.Mem.tail _ (List.mem_append_right _ hq))) (fun q hq => ?_) (by rw [hcn]; exact hbs.app hB9) (by rw [hcn]; exact rfl) rfl ?_
          · rcases List.mem_cons.mp hq with rfl | hq
            · exact fun e => hnI (_, listOf vs.toArray ep) (List.Mem.head _) e
            · exact hnI q (List.Mem.tail _ hq)
          · intro z h1 h2 h3; simp only [if_neg h1, if_neg h2, if_neg h3]
      · skip
        have hcn := chain_same (r := r) (p := p) hke (by assumption) (by rw [seen_str hse]; simp_all)
        refine tend_in (by assumption) (by assumption) (by first | assumption | exact T1.trans (by assumption)) (by assumption) (by assumption) (by assumption) (by assumption) sub0 (fun q hq => List.Mem.tail _ (List.mem_append_right _ hq)) (fun q hq => ?_) (by rw [hcn]; exact hbs) (by rw [hcn]; exact hse) rfl ?_
        · rcases List.mem_cons.mp hq with rfl | hq
          · exact hnI _ (List.Mem.head _)
          · exact hnI q (List.Mem.tail _ hq)
        · intro z h1 h2 h3; simp only [if_neg h1, if_neg h2, if_neg h3]
      · skip
        have hcn := chain_lt (r := r) (p := p) hke (by assumption)
        refine tend_in (by assumption) (by assumption) (by first | assumption | exact T1.trans (by assumption)) (by assumption) (by assumption) (by assumption) (by assumption) sub0 (fun q hq => List.Mem.tail _ (List.mem_append_right _ hq)) (fun q hq => ?_) (by rw [hcn]; exact hbs) (by rw [hcn]; exact hse) rfl ?_
        · rcases List.mem_cons.mp hq with rfl | hq
          · exact hnI _ (List.Mem.head _)
          · exact hnI q (List.Mem.tail _ hq)
        · intro z h1 h2 h3; simp only [if_neg h1, if_neg h2, if_neg h3]
    | _ => cases hse
  · intro g u sv vs ep h tk T1 B1 D1 X1 P1 hbs F9 N9
    (try dsimp only); (try k_fold)
    k_steps
    all_goals ((try dsimp only); (try k_unfold); (try dsimp only))
    exact ⟨_, _, _, _, T1, by assumption, by assumption, fun h₀' T0 F0 N0 B0 => hret _ _ h₀' _ _ ⟨_, _, _, rfl, l1, rfl, hbs⟩ T0 F0 N0 B0 (D.turn T0) (XB.keeps B0.stays) (TB.keeps B0.stays)⟩
end
section
open PySem PySem.W PyProof.Rows PySem.Calls
set_option Elab.async false
noncomputable abbrev Ext (h h' : Heap) : Prop := ∀ b o, h.get? b = some o → h'.get? b = some o
theorem Ext.rfl' {h : Heap} : Ext h h := fun _ _ e => e
theorem Ext.trans {h h' h'' : Heap} (x : Ext h h') (y : Ext h' h'') : Ext h h'' := fun b o e => y b o (x b o e)
/-- what an iterator's end asks of the exception at hand -/
noncomputable def EndOk (A : Around) (h : Heap) : Prop := A.handled = none ∨ ∃ e o vs, A.handled = some (.ref e) ∧ h.get? e = some o ∧ o.data = .fields vs ∧ vs[2]? = some .none
theorem EndOk.ext {A : Around} {h h' : Heap} (x : EndOk A h) (k : Ext h h') : EndOk A h' := by
  rcases x with x | ⟨e, o, vs, h1, h2, h3⟩
  · exact .inl x
  · exact .inr ⟨e, o, vs, h1, k _ _ h2, h3⟩
theorem EndOk.in1 {A : Around} {h : Heap} (x : EndOk A h) : EndOk A.in1 h := x
theorem entry_unchain : entryFor table "proto.unchain" = some Builtin.«proto.unchain» := entryFor_of_tree (by kernel_rfl)
section
variable {prog : Program} {w : World} {A : Around} {E : Value → Shared → Prop} {s : Shared}
theorem raiseNew_any {α : Type} {a : Addr} {oa : Obj} {va : Array Value} {Q : α → Shared → Prop} (hok : EndOk A s.heap) (ho : s.heap.get? a = some oa) (hd : oa.data = .fields va) (hz : 2 < va.size) (hne : A.handled ≠ some (.ref a))
    (hE : ∀ h', Heap.SameBut a s.heap h' → (∀ o, s.heap.get? a = some o → ∃ o', h'.get? a = some o' ∧ o'.cls = o.cls) → E (.ref a) { s with heap := h' }) : wpAny (model prog w) A (raiseNew (.ref a) : Sem α) Q E s := by
  simp only [raiseNew]
  refine wpAny_bind (wpAny_handled ?_)
  rcases hok with hn | ⟨e, o, vs, h1, h2, h3, h4⟩
  · rw [hn]
    exact wpAny_bind (wpAny_pure (wpAny_throw (hE _ (Heap.SameBut.refl ..) fun o e => ⟨o, e, rfl⟩)))
  · rw [h1]
    have hb : ((Value.ref e != Value.ref a) = true) := by
      rw [bne_iff_ne]
      intro q
      exact hne (h1.trans (congrArg some q))
    show wpAny _ A (if (Value.ref e != Value.ref a) = true then _ else _) _ _ s
    rw [if_pos hb]
    refine wpAny_bind (wpAny_holding (wpAny_runValue (codeAny_builtin entry_unchain ?_)))
    show wpAny _ _ (field (.ref e) 2 >>= _) _ _ s
    refine wpAny_bind (wpAny_field h2 h3 h4 ?_)
    show wpAny _ _ (ret .none) _ _ s
    refine wpAny_pure ?_
    refine wpAny_bind (wpAny_setField ho hd hz ?_)
    refine wpAny_throw (hE _ (Heap.SameBut.update ..) fun o e => ⟨_, Heap.get?_update_self _ e ?_, Obj.cls_mapFields ..⟩)
    rw [ho] at e; cases e
    exact Obj.isFreed_of_fields (Obj.data_mapFields hd _)
end
section
variable {prog : Program} {w : World} {A : Around} {E : Value → Shared → Prop} {s : Shared}
/-- StopIteration is made and raised, whatever is handled -/
theorem stop_any {α : Type} {Q : α → Shared → Prop} (hok : EndOk A s.heap) (hE : ∀ h' e, Ext s.heap h' → (∃ o, h'.get? e = some o ∧ o.cls = .type "StopIteration") → E (.ref e) { s with heap := h' }) :
    wpAny (model prog w) A (newExc (.type "StopIteration") [] >>= fun e => (raiseNew e : Sem α)) Q E s := by
  refine wpAny_bind ?_
  simp only [newExc, newTuple]
  refine wpAny_bind (wpAny_newObj_type ?_ (by size_fits))
  refine wpAny_bind (m := firstArgMember _ _) (wpAny_of_eq (a := Value.none) (by first | rfl | (simp only [firstArgMember]; rfl)) ?_)
  refine wpAny_newObj_type ?_ (by size_fits)
  have k1 : Ext s.heap ((s.heap.push { cls := .type "tuple", dict := none, data := .seq ([] : List Value).toArray }).push
      { cls := .type "StopIteration", dict := none, data := .fields (#[.ref s.heap.objs.size, .none, .none, .none, .bool false, .none] ++ ownMembersOf (.type "StopIteration") []) }) := fun b o e => Heap.get?_push_of_some _ (Heap.get?_push_of_some _ e)
  have hlt : ∀ (x : Obj) b o, s.heap.get? b = some o → b ≠ (s.heap.push x).objs.size := fun x b o e q => by
    have := Heap.lt_size e
    rw [q, Heap.size_push] at this
    exact absurd this (Nat.not_lt.mpr (Nat.le_succ _))
  refine raiseNew_any (EndOk.ext hok k1) (Heap.get?_push_size _ rfl) rfl (by rw [Array.size_append]; exact Nat.lt_of_lt_of_le (by decide : 2 < 6) (Nat.le_add_right _ _)) ?_ fun h' hs ho => ?_
  · intro q
    rcases hok with hn | ⟨e, o, vs, h1, h2, _⟩
    · rw [hn] at q; cases q
    · rw [h1] at q
      cases q
      exact absurd rfl (hlt _ _ _ h2)
  · refine hE h' _ (fun b o e => hs.extBut b o ?_ (k1 b o e)) ?_
    · exact hlt _ _ _ e
    · obtain ⟨o', h1, h2⟩ := ho _ (Heap.get?_push_size _ rfl)
      exact ⟨o', h1, h2⟩
theorem stop_caught {Q : Option Value → Shared → Prop} {e : Addr} (ht : ∃ o, s.heap.get? e = some o ∧ o.cls = .type "StopIteration") (hQ : Q none s) :
    wpAny (model prog w) A (do if ← isInstance (.ref e) (.type "StopIteration") then pure none else throw (.ref e)) Q E s := by
  refine wpAny_bind (wpAny_isInstance (T := "StopIteration") (b := true) ht isSubtype_stop ?_)
  exact wpAny_pure hQ
theorem next_list_end {it l : Addr} {i : Nat} {items : Array Value} {Q : Option Value → Shared → Prop} (hok : EndOk A s.heap) (hne : ∀ e, A.handled = some (.ref e) → e ≠ it)
    (hit : s.heap.IsListIter it l i) (hl : s.heap.IsList l items) (hx : items[i]? = none)
    (hQ : ∀ h', Heap.ExtBut it s.heap h' → Q none { s with heap := h' }) : wpAny (model prog w) A (pyNext (.ref it)) Q E s := by
  obtain ⟨o, ho, hc, hd⟩ := id hit
  obtain ⟨ol, hol, _, nl, hdl⟩ := hl
  unfold pyNext
  refine wpAny_bind (wpAny_attempt (wpAny_callSpecial?_slot (name := Str.ofString "__next__") hit.typeIs slot_listiter_next
    (wpAny_call_entry slot_listiter_next hit.typeIs entry_listiter_next ?_ (args_listiter_next _))))
  show wpAny _ _ (field (.ref it) 0 >>= _) _ _ s
  refine wpAny_bind (wpAny_field ho hd (x := .ref l) rfl ?_)
  show wpAny _ _ (if (Value.ref l == Value.none) = true then _ else _) _ _ s
  rw [if_neg (show ¬ ((Value.ref l == Value.none) = true) from Bool.false_ne_true)]
  show wpAny _ _ (field (.ref it) 1 >>= _) _ _ s
  refine wpAny_bind (wpAny_field ho hd (x := .int i 0) rfl ?_)
  show wpAny _ _ (seqItems? (.ref l) >>= _) _ _ s
  refine wpAny_bind (wpAny_seqItems hol hdl ?_)
  simp only [Int.toNat_natCast, hx]
  refine wpAny_bind (wpAny_rule (wpAny_bind (wpAny_setField ho hd (by simp) ?_)))
  have hs := Heap.SameBut.update (h := s.heap) (a := it) (f := Obj.mapFields (·.setIfInBounds 0 Value.none))
  have hok' : EndOk A (s.heap.update it (Obj.mapFields (·.setIfInBounds 0 Value.none))) := by
    rcases hok with x | ⟨e, o, vs, h1, h2, h3⟩
    · exact .inl x
    · exact .inr ⟨e, o, vs, h1, hs.extBut _ _ (hne e h1) h2, h3⟩
  refine stop_any hok' fun h' e k ht => ?_
  exact stop_caught ht (hQ _ fun b o hb x => k _ _ (hs.extBut b o hb x))
theorem next_range_end {it : Addr} {x left step : Int} {Q : Option Value → Shared → Prop} (hok : EndOk A s.heap) (hit : IsRangeIter s.heap it x left step) (hleft : left ≤ 0)
    (hQ : ∀ h', Heap.ExtBut it s.heap h' → Q none { s with heap := h' }) : wpAny (model prog w) A (pyNext (.ref it)) Q E s := by
  have hT : s.TypeIs (.ref it) "range_iterator" := ⟨_, hit, rfl⟩
  unfold pyNext
  refine wpAny_bind (wpAny_attempt (wpAny_callSpecial?_slot (name := Str.ofString "__next__") hT F.slot_range_iterator_next
    (wpAny_call_entry F.slot_range_iterator_next hT F.entry_range_iterator_next ?_ (F.args_range_iterator_next_1 _))))
  show wpAny _ _ (field (.ref it) 0 >>= _) _ _ s
  refine wpAny_bind (wpAny_field hit rfl (x := rawInt x) rfl ?_)
  show wpAny _ _ (field (.ref it) 1 >>= _) _ _ s
  refine wpAny_bind (wpAny_field hit rfl (x := rawInt left) rfl ?_)
  show wpAny _ _ (field (.ref it) 2 >>= _) _ _ s
  refine wpAny_bind (wpAny_field hit rfl (x := rawInt step) rfl ?_)
  show wpAny _ _ (if left ≤ 0 then _ else _) _ _ s
  rw [if_pos hleft]
  refine wpAny_bind (wpAny_rule ?_)
  refine wpAny_bind ?_
  refine stop_any hok fun h' e k ht => ?_
  exact stop_caught ht (hQ _ fun b o _ x => k _ _ x)
theorem next_tuple_end' {it t : Addr} {i : Nat} {items : Array Value} {Q : Option Value → Shared → Prop} (hok : EndOk A s.heap) (hne : ∀ e, A.handled = some (.ref e) → e ≠ it)
    (hit : IsTupIter s.heap it t i) (ht : IsTup s.heap t items) (hx : items[i]? = none)
    (hQ : ∀ h', Heap.ExtBut it s.heap h' → Q none { s with heap := h' }) : wpAny (model prog w) A (pyNext (.ref it)) Q E s := by
  obtain ⟨o, ho, hc, hd⟩ := id hit
  obtain ⟨ol, hol, _, nl, hdl⟩ := ht
  unfold pyNext
  refine wpAny_bind (wpAny_attempt (wpAny_callSpecial?_slot (name := Str.ofString "__next__") hit.typeIs slot_tupleiter_next
    (wpAny_call_entry slot_tupleiter_next hit.typeIs entry_tupleiter_next ?_ (args_tupleiter_next _))))
  show wpAny _ _ (field (.ref it) 0 >>= _) _ _ s
  refine wpAny_bind (wpAny_field ho hd (x := .ref t) rfl ?_)
  show wpAny _ _ (if (Value.ref t == Value.none) = true then _ else _) _ _ s
  rw [if_neg (show ¬ ((Value.ref t == Value.none) = true) from Bool.false_ne_true)]
  show wpAny _ _ (field (.ref it) 1 >>= _) _ _ s
  refine wpAny_bind (wpAny_field ho hd (x := .int i 0) rfl ?_)
  show wpAny _ _ (seqItems? (.ref t) >>= _) _ _ s
  refine wpAny_bind (wpAny_seqItems hol hdl ?_)
  simp only [Int.toNat_natCast, hx]
  refine wpAny_bind (wpAny_rule (wpAny_bind (wpAny_setField ho hd (by simp) ?_)))
  have hs := Heap.SameBut.update (h := s.heap) (a := it) (f := Obj.mapFields (·.setIfInBounds 0 Value.none))
  have hok' : EndOk A (s.heap.update it (Obj.mapFields (·.setIfInBounds 0 Value.none))) := by
    rcases hok with x | ⟨e, o, vs, h1, h2, h3⟩
    · exact .inl x
    · exact .inr ⟨e, o, vs, h1, hs.extBut _ _ (hne e h1) h2, h3⟩
  refine stop_any hok' fun h' e k ht => ?_
  exact stop_caught ht (hQ _ fun b o hb x => k _ _ (hs.extBut b o hb x))
theorem handled_lt {h : Heap} (hok : EndOk A h) : ∀ e, A.handled = some (.ref e) → e < h.objs.size := fun e q => by
  rcases hok with hn | ⟨e', o, vs, h1, h2, _⟩
  · rw [hn] at q; cases q
  · rw [h1] at q
    cases q
    exact Heap.lt_size h2
/-- a tuple unpacked, whatever is handled -/
theorem unpack_any {env : Env} {elts : List Expr} {x1} {pos : Pos} {t : Addr} {items : Array Value} {Q : Unit → Shared → Prop} (hok : EndOk A s.heap) (ht : IsTup s.heap t items)
    (hn : (assignEach elts env).length = items.size) (hstar : (assignEach elts env).findIdx? (·.1) = none)
    (h : ∀ h', Ext s.heap h' → wpAny (model prog w) A (assignInOrder ((assignEach elts env).map (·.2)) items.toList) Q E { s with heap := h' }) :
    wpAny (model prog w) A (assign (.Tuple elts x1 pos) env (.ref t)) Q E s := by
  rw [assign_Tuple]
  refine wpAny_bind (wpAny_standAt ?_)
  unfold unpack
  rw [hn, hstar]
  refine wpAny_bind (wpAny_holding ?_)
  have hlt : t ≠ s.heap.objs.size := by obtain ⟨o, ho, _⟩ := ht; exact Nat.ne_of_lt (Heap.lt_size ho)
  unfold unpackItems
  refine wpAny_bind ?_
  unfold notIterableAtAll
  refine wpAny_bind (wpAny_specialOf ht.typeIs slot_tuple_iter.lookup ?_)
  refine wpAny_pure ?_
  simp only [Bool.false_eq_true, if_false]
  refine wpAny_bind (wpAny_holding (iter_tuple ht ?_))
  refine wpAny_bind (wpAny_holding (draw_tuple hlt items.size 0 _ _ ⟨_, Heap.get?_push_size _ rfl, rfl, rfl⟩ (ht.push _) (by lia) fun h₁ hit₁ hs₁ => ?_))
  have hall : List.take items.size (List.drop 0 items.toList) = items.toList := by
    rw [List.drop_zero]; exact List.take_of_length_le (by simp)
  rw [hall, if_neg (by simp)]
  have k1 : Ext s.heap h₁ := fun b o e => hs₁.extBut b o (Nat.ne_of_lt (Heap.lt_size e)) (Heap.get?_push_of_some _ e)
  have ht₁ : IsTup h₁ t items := (ht.push _).extBut hs₁.extBut hlt
  refine wpAny_bind (wpAny_holding (next_tuple_end' (hok.ext k1) (fun e q => Nat.ne_of_lt (handled_lt hok e q)) hit₁ ht₁ (by simp) fun h₂ he₂ => ?_))
  simp only [Option.isSome_none, Bool.false_eq_true, if_false]
  refine wpAny_pure (h h₂ fun b o e => he₂ b o (Nat.ne_of_lt (Heap.lt_size e)) (k1 _ _ e))
end
/-- an iterator at address I of n items; K: what stands all along -/
structure It (prog : Program) (w : World) (A : Around) (I : Addr) (K : Heap) (n : Nat) (P : Nat → Value → Prop) (O : Nat → Obj → Prop) : Prop where
  item : ∀ i (s : Shared) (Q : Option Value → Shared → Prop) (E : Value → Shared → Prop) o, i < n → Ext K s.heap → s.heap.get? I = some o → O i o →
    (∀ v h' tk o', P i v → Heap.SameBut I s.heap h' → h'.get? I = some o' → O (i + 1) o' → Q (some v) { s with heap := h', toks := tk }) → wpAny (model prog w) A (pyNext (.ref I)) Q E s
  done : ∀ (s : Shared) (Q : Option Value → Shared → Prop) (E : Value → Shared → Prop) o, Ext K s.heap → s.heap.get? I = some o → O n o → (∀ h', Heap.ExtBut I s.heap h' → Q none { s with heap := h' }) → wpAny (model prog w) A (pyNext (.ref I)) Q E s
  self : ∀ i (s : Shared) (Q : Value → Shared → Prop) (E : Value → Shared → Prop) o, s.heap.get? I = some o → O i o → Q (.ref I) s → wpAny (model prog w) A (pyIter (.ref I)) Q E s
  own : ∀ i (s : Shared) (Q : Unit → Shared → Prop) (E : Value → Shared → Prop) o elts x1 pos T, s.heap.get? I = some o → O i o → Q () s → wpAny (model prog w) A (letOwnedTupleGo (.Tuple elts x1 pos) (.ref I) (.ref T)) Q E s
theorem It.list {prog : Program} {w : World} {A : Around} {I ax : Addr} {K : Heap} {items : Array Value} (hl : K.IsList ax items) (hI : K.get? I = none) (hok : EndOk A K) :
    It prog w A I K items.size (fun i v => items[i]? = some v) (fun i o => o.cls = .type "list_iterator" ∧ o.data = .fields #[.ref ax, .int i 0]) where
  item := fun i s Q E o hi k e ⟨h1, h2⟩ hQ => by
    refine wpAny_pyNext_list_item (i := i) ⟨o, e, h1, h2⟩ (hl.at fun o e => k _ _ e) (x := items[i]) (by simp [hi]) fun h' hit' hs' => ?_
    obtain ⟨o', e', h1', h2'⟩ := hit'
    exact hQ _ h' s.toks o' (by simp [hi]) hs' e' ⟨h1', h2'⟩
  done := fun s Q E o k e ⟨h1, h2⟩ hQ => next_list_end (hok.ext k) (fun e' q => by
    rintro rfl
    rcases hok with hn | ⟨e2, o2, vs, g1, g2, _⟩
    · rw [hn] at q; cases q
    · rw [g1] at q; cases q; rw [hI] at g2; cases g2) ⟨o, e, h1, h2⟩ (hl.at fun o e => k _ _ e) (by simp) hQ
  self := fun i s Q E o e ⟨h1, h2⟩ hQ => wpAny_pyIter_listiter (i := i) ⟨o, e, h1, h2⟩ hQ
  own := fun i s Q E o elts x1 pos T e ⟨h1, h2⟩ hQ => wpAny_letOwnedTupleGo_listiter (i := i) ⟨o, e, h1, h2⟩ hQ
theorem It.range {prog : Program} {w : World} {A : Around} {I : Addr} {K : Heap} (a c : Int) (n : Nat) (hok : EndOk A K) :
    It prog w A I K n (fun i v => ∃ t, v = .int (a + i * c) t) (fun i o => o = { cls := .type "range_iterator", dict := none, data := .fields #[rawInt (a + (i : Nat) * c), rawInt ((n : Int) - (i : Nat)), rawInt c], slots := #[] }) where
  item := fun i s Q E o hi k e h1 hQ => by
    subst h1
    refine wpAny_pyNext_range_item e (by lia) fun h' hit' hs' => ?_
    refine hQ _ h' _ _ ⟨_, rfl⟩ hs' hit' ?_
    have e1 : a + ((i + 1 : Nat) : Int) * c = a + (i : Int) * c + c := by push_cast; rw [Int.add_mul, Int.one_mul, Int.add_assoc]
    have e2 : (n : Int) - ((i + 1 : Nat) : Int) = (n : Int) - (i : Int) - 1 := by push_cast; lia
    rw [e1, e2]
  done := fun s Q E o k e h1 hQ => by
    subst h1
    exact next_range_end (hok.ext k) e (by lia) hQ
  self := fun i s Q E o e h1 hQ => by
    subst h1
    exact wpAny_pyIter_rangeiter e hQ
  own := fun i s Q E o elts x1 pos T e h1 hQ => by
    subst h1
    unfold letOwnedTupleGo
    refine wpAny_bind (wpAny_load e ?_)
    show wpAny _ A (if (["enumerate", "zip", "dict_itemiterator", "dict_reverseitemiterator", "odict_iterator", "itertools.zip_longest", "itertools.pairwise"].contains "range_iterator" && _) = true then _ else _) Q E s
    rw [if_neg (by
      intro h
      rw [show (["enumerate", "zip", "dict_itemiterator", "dict_reverseitemiterator", "odict_iterator", "itertools.zip_longest", "itertools.pairwise"].contains "range_iterator") = false from by decide, Bool.false_and] at h
      cases h)]
    exact wpAny_pure hQ
theorem veil {α : Type} {M : Model} {A : Around} {code : Sem α} {Q : α → Shared → Prop} {E : Value → Shared → Prop} {s : Shared} (h : ∀ (Q' : α → Shared → Prop) (E' : Value → Shared → Prop), (∀ f s, Q f s → Q' f s) → (∀ v s, E v s → E' v s) → wpAny M A code Q' E' s) : wpAny M A code Q E s := h Q E (fun _ _ x => x) fun _ _ x => x
theorem veilQ {α : Type} {M : Model} {A : Around} {code : Sem α} {Q : α → Shared → Prop} {E : Value → Shared → Prop} {s : Shared} (h : ∀ (Q' : α → Shared → Prop), (∀ f s, Q f s → Q' f s) → wpAny M A code Q' E s) : wpAny M A code Q E s := h Q fun _ _ x => x
end
section
open PySem PySem.W PyProof.Rows PySem.Calls
set_option Elab.async false
section
variable {prog : Program} {w : World} {A : Around} {E : Value → Shared → Prop} {R : Result → Shared → Prop} {s : Shared}
/-- the tests of a clause -/
noncomputable abbrev testsOf (ifs : List Expr) (env : Env) : Sem Bool := forIn ifs true fun c r => if r = true then do let ok ← isTrue c env (eval c env); pure (ForInStep.yield ok) else pure (ForInStep.yield r)
theorem comp_turns {elt target iter : Expr} {ifs : List Expr} {scope : Scope} {pos : Pos} {it acc : Value} {env : Env} (I : Nat → Shared → Prop)
    (turn : ∀ n s, I n s → ∀ N : Value → Shared → Prop, wpAny (model prog w) A (pyNext it) (fun r s₁ => match r with
      | none => R (.ok .next) s₁
      | some v => wpAny (model prog w) A (letOwnedTupleGo target it v) (fun _ s₁' => wpAny (model prog w) A (assign target env v) (fun _ s₂ =>
          wpAny (model prog w) A (testsOf ifs env) (fun ok s₃ =>
            if ok = true then wpAny (model prog w) A (eval elt env) (fun x s₄ =>
              wpAny (model prog w) A (call (.builtin "list.append") [acc, x]) (fun _ s₅ => ∃ m, m < n ∧ I m s₅) N s₄) N s₃
            else ∃ m, m < n ∧ I m s₃) N s₂) N s₁') N s₁) N s)
    (n : Nat) (h : I n s) :
    codeAny (model prog w) A (.compLoop (.ListComp elt [⟨target, iter, ifs, 0⟩] scope pos) 0 it acc env) R s := by
  refine codeAny_loop rfl I (fun n s hI => ?_) n h
  show wpAny _ A ((compTurn (.ListComp elt [⟨target, iter, ifs, 0⟩] scope pos) 0 it acc env).onRaise (fun x => do noteFrame x env; theTreesLotGoes x)) _ _ s
  refine wpAny_noted ?_
  rw [compTurn_list]
  refine wpAny_bind (wpAny_standAt (wpAny_bind (wpAny_mono (turn n s hI _) (fun r s₁ h₁ => ?_) fun _ _ h' => h')))
  cases r with
  | none => exact wpAny_pure h₁
  | some v =>
    refine wpAny_bind (wpAny_mono h₁ (fun _ s₁' h₁' => ?_) fun _ _ h' => h')
    refine wpAny_bind (wpAny_mono h₁' (fun _ s₂ h₂ => wpAny_bind (wpAny_mono h₂ (fun ok s₃ h₃ => ?_) fun _ _ h' => h')) fun _ _ h' => h')
    cases ok with
    | false => exact wpAny_pure ⟨rfl, h₃⟩
    | true =>
      exact wpAny_bind (wpAny_bind (wpAny_mono h₃ (fun x s₄ h₄ => wpAny_bind (wpAny_mono h₄ (fun _ s₅ h₅ => wpAny_pure (wpAny_pure ⟨rfl, h₅⟩)) fun _ _ h' => h')) fun _ _ h' => h'))
theorem take_snoc_map {α β : Type} (l : List α) (q : α → Bool) (f : α → β) {i : Nat} {v : α} (h : l[i]? = some v) : ((l.take (i + 1)).filter q).map f = ((l.take i).filter q).map f ++ (if q v then [f v] else []) := by
  rw [take_succ_filter q l i v h, List.map_append]
  cases q v <;> simp
inductive CbJ {α β : Type} (s₂ : Shared) (I D C : Addr) (O : Nat → Obj → Prop) (xs : List α) (q : α → Bool) (f : α → β) (G : β → Value → Prop) (n k : Nat) (s' : Shared) : Prop
  | mk (h' : Heap) (tk i : Nat) (ys : Array Value) (m' : Str → Option Value) (o : Obj) (e : s' = { s₂ with heap := h', toks := tk }) (hI : h'.get? I = some o) (hO : O i o) (hl : h'.PlainList D ys) (hn : h'.Ns C m') (hF : Paired G (((xs.take i).filter q).map f) ys.toList) (hi : i ≤ n) (hk : k = n + 1 - i) (hs : ∀ b o, b ≠ I → s₂.heap.get? b = some o → h'.get? b = some o)
theorem comp_block {α β : Type} {elt target iter : Expr} {ifs : List Expr} {scope : Scope} {cl : List (Str × Addr)} {pos : Pos} {env : Env} {s₂ : Shared} {I : Addr} {K : Heap} {n : Nat} {P : Nat → Value → Prop} {O : Nat → Obj → Prop} {o₀ : Obj} {RR : Value → Addr → Result → Shared → Prop}
    (W : It prog w A I K n P O) (hK : Ext K s₂.heap) (hi : s₂.heap.get? I = some o₀) (ho : O 0 o₀) (hKI : K.get? I = none) (hsz : n ≤ sizeLine)
    (xs : List α) (hn : xs.length = n) (Rel : α → Value → Prop) (hP : ∀ i v, i < n → P i v → ∃ x, xs[i]? = some x ∧ Rel x v) (q : α → Bool) (f : α → β) (G : β → Value → Prop) (Bd : α → (Str → Option Value) → Prop)
    (href : ∀ x v, Rel x v → ∀ (s : Shared) (Q : Unit → Shared → Prop) (E : Value → Shared → Prop) i o, s.heap.get? I = some o → O i o → Q () s → wpAny (model prog w) A (letOwnedTupleGo target (.ref I) v) Q E s)
    (hbind : ∀ C x v (s : Shared) m (Q : Unit → Shared → Prop) (E : Value → Shared → Prop), Rel x v → Ext K s.heap → s.heap.Ns C m →
      (∀ h' tk m', h'.Ns C m' → Bd x m' → (∀ b o, b ≠ C → s.heap.get? b = some o → h'.get? b = some o) → Q () { s with heap := h', toks := tk }) → wpAny (model prog w) A (assign target (compEnvC scope cl C env) v) Q E s)
    (htest : ∀ C x (s : Shared) m (Q : Bool → Shared → Prop) (E : Value → Shared → Prop), x ∈ xs → Ext K s.heap → s.heap.Ns C m → Bd x m → (∀ h' tk, Ext s.heap h' → Q (q x) { s with heap := h', toks := tk }) → wpAny (model prog w) A (testsOf ifs (compEnvC scope cl C env)) Q E s)
    (helt : ∀ C x (s : Shared) m (Q : Value → Shared → Prop) (E : Value → Shared → Prop), x ∈ xs → q x = true → Ext K s.heap → s.heap.Ns C m → Bd x m → (∀ v h' tk, Ext s.heap h' → G (f x) v → Q v { s with heap := h', toks := tk }) → wpAny (model prog w) A (eval elt (compEnvC scope cl C env)) Q E s)
    (hcell : ∀ y ∈ scope.names, y.2 ≠ .cell) (hkind : scope.kind = .function)
    (hRR : ∀ D C h' tk m' ys, s₂.heap.get? D = none → s₂.heap.get? C = none → D ≠ C → h'.Ns C m' → h'.PlainList D ys → Paired G ((xs.filter q).map f) ys.toList → (∀ b o, b ≠ I → s₂.heap.get? b = some o → h'.get? b = some o) → RR (.ref D) C (.ok .next) { s₂ with heap := h', toks := tk }) :
    wpAny (model prog w) A (newList []) (fun acc s₃ => wpAny (model prog w) A (newFunctionEnv scope env.globals cl [] env.qual none .none (some env)) (fun cenv s₄ =>
      codeAny (model prog w) A (.compStart (.ListComp elt [⟨target, iter, ifs, 0⟩] scope pos) 0 (.ref I) acc { cenv with scope := relabel scope env }) (RR acc cenv.locals) s₄) E s₃) E s₂ := by
  refine wpAny_newObj_type (wpAny_newFunctionEnv hcell (by intro y hy; simp at hy) (fun h₁ hns₁ hsb₁ => ?_) hkind)
  dsimp only at hns₁ hsb₁ ⊢
  generalize hH2 : s₂.heap.push { cls := .type "list", dict := none, data := .seq ([] : List Value).toArray } = H2 at hns₁ hsb₁ ⊢
  have hC : H2.objs.size = s₂.heap.objs.size + 1 := by rw [← hH2, Heap.size_push]
  generalize hD : s₂.heap.objs.size = D at *
  generalize hCC : H2.objs.size = C at *
  have hDC : D ≠ C := by rw [hC]; exact Nat.ne_of_lt (Nat.lt_succ_self _)
  have below : ∀ b o, s₂.heap.get? b = some o → b ≠ C ∧ b ≠ D := fun b o e => by
    have := Heap.lt_size e
    rw [hD] at this
    exact ⟨by rw [hC]; exact Nat.ne_of_lt (Nat.lt_succ_of_lt this), Nat.ne_of_lt this⟩
  have fresh : ∀ a, D ≤ a → s₂.heap.get? a = none := fun a ha => by
    cases e : s₂.heap.get? a with
    | none => rfl
    | some o' => exact absurd (hD ▸ Heap.lt_size e) (Nat.not_lt.mpr ha)
  have hDn := fresh D (Nat.le_refl _)
  have hCn := fresh C (by rw [hC]; exact Nat.le_succ _)
  have hIC := (below I _ hi).1
  have hID := (below I _ hi).2
  have old : ∀ b o, s₂.heap.get? b = some o → h₁.get? b = some o := fun b o e => hsb₁.extBut b o (below b o e).1 (Heap.get?_push_of_some _ (hH2 ▸ Heap.get?_push_of_some _ e))
  have hacc0 : H2.get? D = some { cls := .type "list", dict := none, data := .seq ([] : List Value).toArray } := by
    rw [← hH2, ← hD]; exact Heap.get?_push_size _ rfl
  have hacc : h₁.PlainList D #[] := ⟨_, hsb₁.extBut _ _ hDC (Heap.get?_push_of_some _ hacc0)⟩
  have loop : ∀ s₃ : Shared, s₃ = { s₂ with heap := h₁, toks := s₂.toks + ([] : List (Str × Value)).length } →
      codeAny (model prog w) A (.compLoop (.ListComp elt [⟨target, iter, ifs, 0⟩] scope pos) 0 (.ref I) (.ref D) (compEnvC scope cl C env)) (RR (.ref D) C) s₃ := by
    rintro s₃ rfl
    refine comp_turns (CbJ s₂ I D C O xs q f G n) ?_ (n + 1)
      ⟨h₁, _, 0, #[], _, o₀, rfl, old _ _ hi, ho, hacc, hns₁, by simpa using Paired.nil, Nat.zero_le _, rfl, fun b o _ e => old b o e⟩
    rintro k s' ⟨h', tk, i, ys, m', o, rfl, hI, hO, hacc', hn', hF, hi', rfl, hk⟩ N
    have KI : ∀ b o, K.get? b = some o → b ≠ I := fun b o e q => by rw [q, hKI] at e; cases e
    have hKh : Ext K h' := fun b o e => hk b o (KI b o e) (hK b o e)
    by_cases hlt : i < n
    · refine W.item i _ _ _ o hlt hKh hI hO fun v h₂ tk₂ o₂ hPv hs₂ hI₂ hO₂ => ?_
      obtain ⟨x, hx, hRel⟩ := hP i v hlt hPv
      have hmem : x ∈ xs := List.mem_of_getElem? hx
      refine href x v hRel _ _ _ (i + 1) o₂ hI₂ hO₂ ?_
      have hK₂ : Ext K h₂ := fun b o e => hs₂.extBut b o (KI b o e) (hKh b o e)
      refine hbind C x v _ m' _ _ hRel hK₂ (hn'.sameBut hs₂ hIC.symm) fun h₃ tk₃ m₃ hn₃ hB₃ hs₃ => ?_
      have KC : ∀ b o, K.get? b = some o → b ≠ C := fun b o e => (below b o (hK b o e)).1
      have hK₃ : Ext K h₃ := fun b o e => hs₃ b o (KC b o e) (hK₂ b o e)
      refine htest C x _ m₃ _ _ hmem hK₃ hn₃ hB₃ fun h₄ tk₄ k₄ => ?_
      have up₄ : ∀ b o, b ≠ I → b ≠ C → h'.get? b = some o → h₄.get? b = some o := fun b o h1 h2 e => k₄ b o (hs₃ b o h2 (hs₂.extBut b o h1 e))
      have hI₄ : h₄.get? I = some o₂ := k₄ _ _ (hs₃ _ _ hIC hI₂)
      have hacc₄ : h₄.PlainList D ys := hacc'.at fun o e => up₄ D o hID.symm hDC e
      have hn₄ := hn₃.keeps k₄
      cases hq : q x with
      | false =>
        simp only [Bool.false_eq_true, if_false]
        refine ⟨n + 1 - (i + 1), turn_lt hlt, h₄, tk₄, i + 1, ys, _, o₂, rfl, hI₄, hO₂, hacc₄, hn₄, ?_, hlt, rfl, fun b o h1 e => up₄ b o h1 (below b o e).1 (hk b o h1 e)⟩
        rw [take_snoc_map xs q f hx, hq]; simpa using hF
      | true =>
        simp only [if_true]
        refine helt C x _ m₃ _ _ hmem hq (fun b o e => k₄ b o (hK₃ b o e)) hn₄ hB₃ fun y h₅ tk₅ k₅ hG => ?_
        have hys : ys.size ≤ sizeLine := by
          have e1 := hF.length
          have e2 : ((xs.take i).filter q).length ≤ (xs.take i).length := List.length_filter_le _ _
          have e3 : (xs.take i).length ≤ n := by rw [List.length_take]; lia
          rw [List.length_map] at e1
          have e4 : ys.toList.length = ys.size := by simp
          lia
        refine wpAny_list_append_plain (hsz := hys) (hacc₄.at fun o e => k₅ _ o e) fun h₆ hl₆ hs₆ => ?_
        refine ⟨n + 1 - (i + 1), turn_lt hlt, h₆, tk₅, i + 1, ys.push y, _, o₂, rfl, hs₆.extBut _ _ hID (k₅ _ _ hI₄), hO₂, hl₆, (hn₄.keeps k₅).sameBut hs₆ hDC.symm, ?_, hlt, rfl, fun b o h1 e => hs₆.extBut b o (below b o e).2 (k₅ b o (up₄ b o h1 (below b o e).1 (hk b o h1 e)))⟩
        rw [take_snoc_map xs q f hx, hq]
        simpa using Paired.snoc hF hG
    · have hin : i = n := Nat.le_antisymm ‹i ≤ n› (Nat.le_of_not_lt hlt)
      subst hin
      refine W.done _ _ _ o hKh hI hO fun h₂ he₂ => ?_
      rw [List.take_of_length_le (by lia)] at hF
      exact hRR D C h₂ tk m' ys hDn hCn hDC (hn'.at' fun o e => he₂ _ o hIC.symm e) (hacc'.at fun o e => he₂ _ o hID.symm e) hF fun b o h1 e => he₂ b o h1 (hk b o h1 e)
  refine codeAny_compStart_list (loop _ rfl) (W.self 0 _ _ _ o₀ (old _ _ hi) ho (loop _ rfl))
end
end
section
open PySem PySem.W PyProof.Rows PySem.Calls PySem.SeqAt
set_option Elab.async false
set_option linter.unusedVariables false
noncomputable abbrev VP := Heap → Value → Prop
/-- from a heap that bears K on, e gives a value of P and makes new things alone -/
noncomputable def EV (prog : Program) (w : World) (A : Around) (env : Env) (K : Heap) (e : Expr) (P : VP) : Prop := ∀ (s : Shared) (Q : Value → Shared → Prop) (E : Value → Shared → Prop), Ext K s.heap →
  (∀ v h' tk, Ext s.heap h' → P h' v → Q v { s with heap := h', toks := tk }) → wpAny (model prog w) A (eval e env) Q E s
noncomputable def TS (prog : Program) (w : World) (A : Around) (env : Env) (K : Heap) (e : Expr) (b : Bool) : Prop := ∀ (s : Shared) (Q : Bool → Shared → Prop) (E : Value → Shared → Prop), Ext K s.heap →
  (∀ h' tk, Ext s.heap h' → Q b { s with heap := h', toks := tk }) → wpAny (model prog w) A (isTrue e env (eval e env)) Q E s
noncomputable def IsB (b : Array UInt8) : VP := fun _ v => ∃ t, v = .bytes b t
noncomputable def IsI (i : Int) : VP := fun _ v => ∃ t, v = .int i t
noncomputable def IsV (u : Value) : VP := fun _ v => v = u
noncomputable def bytesR (b : Array UInt8) (v : Value) : Prop := ∃ t, v = .bytes b t
/-- a list of bytes -/
noncomputable def BL (bs : List (Array UInt8)) : VP := fun h v => ∃ a items, v = .ref a ∧ h.IsList a items ∧ Paired bytesR bs items.toList
noncomputable def Mono (P : VP) : Prop := ∀ h h' v, Ext h h' → P h v → P h' v
theorem mono_B (b : Array UInt8) : Mono (IsB b) := fun _ _ _ _ h => h
theorem mono_I (i : Int) : Mono (IsI i) := fun _ _ _ _ h => h
theorem mono_V (u : Value) : Mono (IsV u) := fun _ _ _ _ h => h
theorem mono_BL (bs : List (Array UInt8)) : Mono (BL bs) := fun _ _ _ k ⟨a, its, e, hl, hp⟩ => ⟨a, its, e, hl.at fun o e => k _ _ e, hp⟩
/-- a name of the builtins -/
noncomputable def GB (K : Heap) (env : Env) (x : Str) (v : Value) : Prop := ∃ mg mb, K.Ns env.globals mg ∧ mg x = none ∧ K.Ns env.builtins mb ∧ mb x = some v
section
variable {prog : Program} {w : World} {A : Around} {env : Env} {K K' : Heap} {e e₁ e₂ l r : Expr} {P P₁ P₂ : VP} {x : Str} {pos p : Pos} {v : Value} {m : Str → Option Value}
theorem EV.up (h : EV prog w A env K e P) (k : Ext K K') : EV prog w A env K' e P := fun s Q E k' hq => h s Q E (k.trans k') hq
theorem TS.up {b : Bool} (h : TS prog w A env K e b) (k : Ext K K') : TS prog w A env K' e b := fun s Q E k' hq => h s Q E (k.trans k') hq
theorem EV.mono (h : EV prog w A env K e P) (k : ∀ h v, P h v → P₁ h v) : EV prog w A env K e P₁ := fun s Q E k' hq => h s Q E k' fun v h' tk x y => hq v h' tk x (k _ _ y)
theorem EV_local (hk : env.scope.kind = .function) (hx : env.kindOf x = some .local) (hn : K.Ns env.locals m) (hv : m x = some v) (hP : P K v) (hm : Mono P) (hd : (x == ("__debug__" : Str)) = false := by decide) : EV prog w A env K (.Name x pos) P :=
  fun s Q E k hq => wpAny_Name (wpAny_loadName_local hk hx (hn.keeps k) hv (hq v s.heap s.toks Ext.rfl' (hm _ _ _ k hP))) hd
theorem EV_cell {c : Addr} (hk : env.scope.kind = .function) (hx : env.kindOf x = some .cell) (hc : env.cells.lookup x = some c) (hv : K.IsCell c (some v)) (hP : P K v) (hm : Mono P) (hd : (x == ("__debug__" : Str)) = false := by decide) : EV prog w A env K (.Name x pos) P :=
  fun s Q E k hq => wpAny_Name (wpAny_loadName_cell hk hx hc (hv.keeps k) (hq v s.heap s.toks Ext.rfl' (hm _ _ _ k hP))) hd
theorem EV_gb (hk : env.scope.kind = .function) (hx : env.kindOf x = some .globalImplicit) (hg : GB K env x v) (hd : (x == ("__debug__" : Str)) = false := by decide) : EV prog w A env K (.Name x pos) (IsV v) :=
  fun s Q E k hq => by
    obtain ⟨mg, mb, h1, h2, h3, h4⟩ := hg
    exact Name_function_global hk hx (loadGlobal_builtin (h1.keeps k) h2 (h3.keeps k) h4 (hq v s.heap s.toks Ext.rfl' rfl)) hd
theorem EV_int {i : Int} {k} : EV prog w A env K (.Constant (.int i) k pos) (IsI i) := fun s Q E _ hq => wpAny_Constant_int (hq _ s.heap _ Ext.rfl' ⟨_, rfl⟩)
theorem EV_bytes {b : List UInt8} {k} : EV prog w A env K (.Constant (.bytes b) k pos) (IsB b.toArray) := fun s Q E _ hq => Constant_bytes (hq _ s.heap _ Ext.rfl' ⟨_, rfl⟩)
theorem EV_nil : EV prog w A env K (.List [] pos) (BL []) := fun s Q E _ hq => by
  rw [arm_eval_List]
  refine wpAny_bind (wpAny_standAt (wpAny_bind (spliced_nil ?_)))
  refine wpAny_newObj_type (hq _ _ _ (fun b o e => Heap.get?_push_of_some _ e) ⟨_, #[], rfl, ⟨_, Heap.get?_push_size _ rfl, rfl, _, rfl⟩, by simpa using Paired.nil⟩)
/-- a comparison of two values -/
noncomputable def CMP (prog : Program) (w : World) (A : Around) (op : CmpOp) (P₁ P₂ : VP) (b : Bool) : Prop := ∀ (s : Shared) (Q : Value → Shared → Prop) (E : Value → Shared → Prop) v₁ v₂, P₁ s.heap v₁ → P₂ s.heap v₂ → Q (.bool b) s → wpAny (model prog w) A (compareOp op v₁ v₂) Q E s
theorem EV_cmp {op : CmpOp} {b : Bool} (h1 : EV prog w A env K l P₁) (m1 : Mono P₁) (h2 : EV prog w A env K r P₂) (hc : CMP prog w A op P₁ P₂ b) (hm : behindInMarks op r = false := by with_unfolding_all rfl) : EV prog w A env K (.Compare l [op] [r] pos) (IsV (.bool b)) :=
  fun s Q E k hq => wpAny_Compare1 (h1 s _ E k fun v₁ h' tk k₁ p₁ => h2 _ _ E (k.trans k₁) fun v₂ h'' tk' k₂ p₂ => hc _ _ E v₁ v₂ (m1 _ _ _ k₂ p₁) p₂ (hq _ h'' tk' (k₁.trans k₂) rfl)) hm
theorem TS_cmp {op : CmpOp} {b : Bool} (h1 : EV prog w A env K l P₁) (m1 : Mono P₁) (h2 : EV prog w A env K r P₂) (hc : CMP prog w A op P₁ P₂ b) (hm : behindInMarks op r = false := by with_unfolding_all rfl) : TS prog w A env K (.Compare l [op] [r] pos) b :=
  fun s Q E k hq => wpAny_isTrue_Compare1 (h1 s _ E k fun v₁ h' tk k₁ p₁ => h2 _ _ E (k.trans k₁) fun v₂ h'' tk' k₂ p₂ => hc _ _ E v₁ v₂ (m1 _ _ _ k₂ p₁) p₂ (wpAny_truthy_bool (hq h'' tk' (k₁.trans k₂)))) hm
theorem TS_and {a b : Bool} (h1 : TS prog w A env K e₁ a) (h2 : a = true → TS prog w A env K e₂ b) : TS prog w A env K (.BoolOp .And [e₁, e₂] pos) (a && b) := fun s Q E k hq => by
  refine isTrue_and (h1 s _ E k fun h' tk k₁ => ?_)
  cases a with
  | false => simpa using hq h' tk k₁
  | true =>
    refine isTrue_and (h2 rfl _ _ E (k.trans k₁) fun h'' tk' k₂ => ?_)
    cases b with
    | false => simpa using hq h'' tk' (k₁.trans k₂)
    | true => simpa using isTrue_and_nil (hq h'' tk' (k₁.trans k₂))
theorem CMP_eq_B (a b : Array UInt8) : CMP prog w A .Eq (IsB a) (IsB b) (decide (a = b)) := by
  rintro s Q E v₁ v₂ ⟨t, rfl⟩ ⟨u, rfl⟩ hq
  refine eq_bytes ?_
  have : (a.toList == b.toList) = decide (a = b) := by rw [Bool.eq_iff_iff, beq_iff_eq, decide_eq_true_eq, Array.toList_inj]
  rw [this]; exact hq
theorem CMP_ne_B (a b : Array UInt8) : CMP prog w A .NotEq (IsB a) (IsB b) (decide (a ≠ b)) := by
  rintro s Q E v₁ v₂ ⟨t, rfl⟩ ⟨u, rfl⟩ hq
  refine ne_bytes ?_
  have : (a.toList != b.toList) = decide (a ≠ b) := by
    rw [Bool.eq_iff_iff, bne_iff_ne, decide_eq_true_eq, Ne, Array.toList_inj]
  rw [this]; exact hq
theorem CMP_eq_I (a b : Int) : CMP prog w A .Eq (IsI a) (IsI b) (decide (a = b)) := by
  rintro s Q E v₁ v₂ ⟨t, rfl⟩ ⟨u, rfl⟩ hq
  refine eq_int ?_
  have : (a == b) = decide (a = b) := by rw [Bool.eq_iff_iff, beq_iff_eq, decide_eq_true_eq]
  rw [this]; exact hq
theorem eqAt_bytes {s : Shared} (a : Array UInt8) (t : Tok) (b : Array UInt8) (u : Tok) : EqAt A s (.bytes a t) (.bytes b u) (decide (a = b)) := fun prog w E Q hq => by
  unfold eqBool
  refine wpAny_holding ?_
  refine wpAny_ite_split (fun hab => ?_) (fun _ => ?_)
  · have e : a = b := by have := eq_of_beq hab; injection this
    exact wpAny_bind (wpAny_rule (wpAny_pure (by simpa [e] using hq)))
  · refine wpAny_bind ?_
    show wpAny _ A (compareOp .Eq (.bytes a t) (.bytes b u)) _ _ _
    exact CMP_eq_B a b _ _ _ _ _ ⟨_, rfl⟩ ⟨_, rfl⟩ (wpAny_truthy_bool hq)
theorem any_paired {bs : List (Array UInt8)} {vs : List Value} (h : Paired bytesR bs vs) (b : Array UInt8) (e : Value → Bool) (he : ∀ c t, e (.bytes c t) = decide (c = b)) : vs.any e = decide (b ∈ bs) := by
  induction h with
  | nil => simp
  | cons hx _ ih =>
    obtain ⟨t, rfl⟩ := hx
    rw [List.any_cons, ih, he, Bool.eq_iff_iff]
    simp only [Bool.or_eq_true, decide_eq_true_eq, List.mem_cons]
    exact ⟨fun h => h.imp Eq.symm id, fun h => h.imp Eq.symm id⟩
noncomputable def eqB (b : Array UInt8) : Value → Bool
  | .bytes c _ => decide (c = b)
  | _ => false
theorem items_eqB {s : Shared} {bs : List (Array UInt8)} {items : Array Value} (h : Paired bytesR bs items.toList) (b : Array UInt8) (t : Tok) : ∀ y, y ∈ items → EqAt A.in1 s y (.bytes b t) (eqB b y) := fun y hy => by
  have : ∃ c u, y = .bytes c u := by
    have hy' : y ∈ items.toList := by simpa using hy
    revert hy'
    generalize items.toList = l at h
    intro hy'
    induction h with
    | nil => cases hy'
    | cons hx _ ih =>
      obtain ⟨u, rfl⟩ := hx
      rcases List.mem_cons.mp hy' with rfl | q
      · exact ⟨_, _, rfl⟩
      · exact ih q
  obtain ⟨c, u, rfl⟩ := this
  exact eqAt_bytes c u b t
theorem CMP_in (b : Array UInt8) (bs : List (Array UInt8)) : CMP prog w A .In (IsB b) (BL bs) (decide (b ∈ bs)) := by
  rintro s Q E v₁ v₂ ⟨t, rfl⟩ ⟨a, items, rfl, hl, hp⟩ hq
  refine in_listAt (eqB b) hl (items_eqB hp b t) ?_
  rw [← Array.any_toList, any_paired hp b _ fun _ _ => rfl]; exact hq
theorem CMP_notIn (b : Array UInt8) (bs : List (Array UInt8)) : CMP prog w A .NotIn (IsB b) (BL bs) (decide (b ∉ bs)) := by
  rintro s Q E v₁ v₂ ⟨t, rfl⟩ ⟨a, items, rfl, hl, hp⟩ hq
  refine notIn_listAt (eqB b) hl (items_eqB hp b t) ?_
  rw [← Array.any_toList, any_paired hp b _ fun _ _ => rfl]
  have : (!decide (b ∈ bs)) = decide (b ∉ bs) := by simp
  rw [this]; exact hq
theorem paired_get {α : Type} {G : α → Value → Prop} : ∀ {bs : List α} {vs : List Value}, Paired G bs vs → ∀ j (h1 : j < bs.length) (h2 : j < vs.length), G bs[j] vs[j]
  | _, _, .cons h _, 0, _, _ => h
  | _, _, .cons _ t, j + 1, h1, h2 => paired_get t j (Nat.lt_of_succ_lt_succ h1) (Nat.lt_of_succ_lt_succ h2)
theorem getD_at {α : Type} {l : List α} {j : Nat} (h : j < l.length) (d : α) : l.getD j d = l[j] := by simp [List.getD_eq_getElem?_getD, h]
theorem all_range_eq {α : Type} [DecidableEq α] (bs cs : List α) (hn : bs.length = cs.length) (d : α) : ((List.range bs.length).all fun j => decide (bs.getD j d = cs.getD j d)) = decide (bs = cs) := by
  rw [Bool.eq_iff_iff, List.all_eq_true, decide_eq_true_eq]
  constructor
  · intro h
    apply List.ext_getElem hn
    intro i h1 h2
    have := h i (List.mem_range.mpr h1)
    rwa [decide_eq_true_eq, getD_at h1, getD_at h2] at this
  · rintro rfl i _
    simp
theorem eqAt_BL {s : Shared} {bs cs : List (Array UInt8)} {v₁ v₂ : Value} (hne : v₁ ≠ v₂ ∨ bs = cs) (hu : A.units < cLine) (h1 : BL bs s.heap v₁) (h2 : BL cs s.heap v₂) : RcAt A s v₁ v₂ (decide (bs = cs)) := by
  obtain ⟨a, items, rfl, hl, hp⟩ := h1
  obtain ⟨c, items2, rfl, hl2, hp2⟩ := h2
  have e1 : bs.length = items.size := by have := hp.length; simpa using this
  have e2 : cs.length = items2.size := by have := hp2.length; simpa using this
  by_cases hs : items.size = items2.size
  · have z := RcAt.lists (A := A) (s := s) (e := fun j => decide (bs.getD j #[] = cs.getD j #[])) hl hl2 hs hu fun j h1 h2 => by
      obtain ⟨t, ht⟩ := paired_get hp j (by lia) (by simpa using h1)
      obtain ⟨u, hu'⟩ := paired_get hp2 j (by lia) (by simpa using h2)
      have ht' : items[j] = .bytes (bs[j]'(by lia)) t := by rw [← ht]; simp
      have hu'' : items2[j] = .bytes (cs[j]'(by lia)) u := by rw [← hu']; simp
      rw [ht', hu'', getD_at (by lia), getD_at (by lia)]
      exact eqAt_bytes _ _ _ _
    rw [← e1, all_range_eq bs cs (by lia)] at z
    exact z
  · have : decide (bs = cs) = false := decide_eq_false fun q => hs (by rw [← e1, ← e2, q])
    rw [this]
    exact RcAt.lists_lengths hl hl2 (by simpa using hs) hu
theorem CMP_eq_BL (bs cs : List (Array UInt8)) (hu : A.units < cLine) : CMP prog w A .Eq (BL bs) (BL cs) (decide (bs = cs)) := by
  intro s Q E v₁ v₂ h1 h2 hq
  by_cases h : v₁ = v₂
  · subst h
    obtain ⟨a, its, e, hl, hp⟩ := h1
    obtain ⟨a', its', e', hl', hp'⟩ := h2
    have : bs = cs := by
      rw [e] at e'
      cases e'
      obtain ⟨o, e1, _, n, d1⟩ := hl
      obtain ⟨o', e2, _, n', d2⟩ := hl'
      rw [e1] at e2; cases e2
      rw [d1] at d2; cases d2
      revert hp'
      generalize its.toList = vs at hp
      clear hq
      intro hp'
      induction hp generalizing cs with
      | nil => cases hp'; rfl
      | cons hx _ ih =>
        cases hp' with
        | cons hy t =>
          obtain ⟨_, hx⟩ := hx
          obtain ⟨_, hy⟩ := hy
          rw [hx] at hy
          cases hy
          rw [ih _ t]
    exact eqAt_BL (A := A) (.inr this) hu ⟨a, its, e, hl, hp⟩ ⟨a', its', e', hl', hp'⟩ prog w E Q hq
  · exact eqAt_BL (A := A) (.inl h) hu h1 h2 prog w E Q hq
/-- the first n of the bytes -/
noncomputable def takeB (n : Nat) (b : Array UInt8) : Array UInt8 := (b.toList.take n).toArray
theorem picked_take (b : Array UInt8) (n : Nat) : KBy.picked b none (some (n : Int)) = takeB n b := by
  rw [KBc.picked_eq]
  unfold takeB
  simp only [Option.elim_none, Option.elim_some, clipAt_nat, List.drop_zero, Nat.sub_zero]
  congr 1
  rw [← Array.length_toList, List.take_eq_take_iff]
  simp
theorem takeB_size (n : Nat) (b : Array UInt8) : (takeB n b).size ≤ b.size := by simp [takeB]; lia
section
variable {E : Value → Shared → Prop}
theorem tail_slice_B {s : Shared} {value slice : Expr} {b : Array UInt8} {t : Tok} {l u : Value} {lo hi : Option Int} {Q : Value → Shared → Prop} (hl : IsPart l lo) (hu : IsPart u hi) (hz : b.size ≤ 16777216)
    (h : ∀ t' k, Q (.bytes (KBy.picked b lo hi) t') { s with heap := s.heap.push { cls := .type "slice", data := .fields #[l, u, .none] }, toks := k })
    (hs : subscripted slice false (.bytes b t) (.ref s.heap.objs.size) = operate [.ref s.heap.objs.size, .bytes b t] (getItem (.bytes b t) (.ref s.heap.objs.size)))
    (ht : ∀ r, letTemporaryGo value (.bytes b t) r = pure ()) :
    wpAny (model prog w) A (subscriptTail value slice (.bytes b t) (.ref s.heap.objs.size)) Q E { s with heap := s.heap.push { cls := .type "slice", data := .fields #[l, u, .none] } } :=
  tail_of_ItemOn ⟨"bytes", _, FB.slot_bytes_getitem.lookup, typeIs_bytes _ _ _, getItem_meets (typeIs_bytes _ _ _) (by decide) FB.slot_bytes_getitem FB.entry_bytes_getitem (FB.args_bytes_getitem_2 _ _) (KBc.meets_slice2 b t _ hl hu)
    ⟨Heap.IsSliceOf.new _ _ _ _, Nat.le_trans (KBc.size_picked_le b lo hi) (by rw [sizeLine_eq]; exact hz), fun t' k => h _ _⟩⟩ hs ht
end
/-- e₁[:e₂] of bytes -/
theorem EV_take {value up : Expr} {sp : Pos} {b : Array UInt8} {n : Nat} (h1 : EV prog w A env K value (IsB b)) (h2 : EV prog w A env K up (IsI (n : Int))) (hz : b.size ≤ 16777216)
    (hs : ∀ t a, subscripted (.Slice none (some up) none sp) false (.bytes b t) (.ref a) = operate [.ref a, .bytes b t] (getItem (.bytes b t) (.ref a)) := by intro _ _; with_unfolding_all rfl)
    (ht : ∀ t r, letTemporaryGo value (.bytes b t) r = pure () := by intro _ _; with_unfolding_all rfl) : EV prog w A env K (.Subscript value (.Slice none (some up) none sp) pos) (IsB (takeB n b)) := fun s Q E k hq => by
  refine Subscript_ (h1 s _ E k fun v₁ h' tk k₁ p₁ => ?_)
  obtain ⟨t, rfl⟩ := p₁
  refine wpAny_Slice (evalPart_none_step (evalPart_some_step (h2 _ _ E (k.trans k₁) fun v₂ h'' tk' k₂ p₂ => evalPart_none_step ?_)))
  obtain ⟨u, rfl⟩ := p₂
  refine tail_slice_B (s := { s with heap := h'', toks := tk' }) .none (.int _ _) hz (fun t' k => ?_) (hs t _) (ht t)
  rw [picked_take]
  exact hq _ _ _ ((k₁.trans k₂).trans fun b o e => Heap.get?_push_of_some _ e) ⟨_, rfl⟩
theorem EV_len_B {f : Expr} {b : Array UInt8} (hf : EV prog w A env K (.Name "len" p) (IsV (.builtin "len"))) (h : EV prog w A env K e (IsB b)) (hz : b.size ≤ 16777216)
    (hs : starEach [e] env = [(false, eval e env)] := by rfl) : EV prog w A env K (.Call (.Name "len" p) [e] [] pos) (IsI (b.size : Int)) := fun s Q E k hq => by
  refine Call_Name1 (hf s _ E k fun v₁ h' tk k₁ p₁ => ?_) hs
  cases p₁
  refine callWith_builtin1 (h _ _ E (k.trans k₁) fun v₂ h'' tk' k₂ p₂ => ?_)
  obtain ⟨t, rfl⟩ := p₂
  exact len_bytes (by lia) (hq _ _ _ (k₁.trans k₂) ⟨_, rfl⟩)
/-- an int added -/
theorem EV_add {a b : Int} (h1 : EV prog w A env K l (IsI a)) (h2 : EV prog w A env K r (IsI b)) : EV prog w A env K (.BinOp l .Add r pos) (IsI (a + b)) := fun s Q E k hq =>
  wpAny_BinOp (h1 s _ E k fun v₁ h' tk k₁ p₁ => h2 _ _ E (k.trans k₁) fun v₂ h'' tk' k₂ p₂ => by
    obtain ⟨t, rfl⟩ := p₁
    obtain ⟨u, rfl⟩ := p₂
    exact add_int (hq _ _ _ (k₁.trans k₂) ⟨_, rfl⟩))
end
end
section
open PySem PySem.W PyProof.Rows PySem.Calls PySem.SeqAt
set_option Elab.async false
set_option linter.unusedVariables false
/-- a list whose items answer to zs -/
noncomputable def LS {β : Type} (G : β → Value → Prop) (zs : List β) : VP := fun h v => ∃ a ys, v = .ref a ∧ h.IsList a ys ∧ Paired G zs ys.toList
theorem mono_LS {β : Type} (G : β → Value → Prop) (zs : List β) : Mono (LS G zs) := fun _ _ _ k ⟨a, its, e, hl, hp⟩ => ⟨a, its, e, hl.at fun o e => k _ _ e, hp⟩
theorem LS_BL (bs : List (Array UInt8)) : LS bytesR bs = BL bs := rfl
theorem Paired.drop {α β : Type} {F : α → β → Prop} : ∀ (n : Nat) {l : List α} {k : List β}, Paired F l k → Paired F (l.drop n) (k.drop n)
  | 0, _, _, h => h
  | n + 1, _, _, .nil => .nil
  | n + 1, _, _, .cons _ t => Paired.drop n t
theorem Paired.append {α β : Type} {F : α → β → Prop} : ∀ {l l' : List α} {k k' : List β}, Paired F l k → Paired F l' k' → Paired F (l ++ l') (k ++ k')
  | _, _, _, _, .nil, h => h
  | _, _, _, _, .cons a t, h => .cons a (Paired.append t h)
theorem Paired.reverse {α β : Type} {F : α → β → Prop} : ∀ {l : List α} {k : List β}, Paired F l k → Paired F l.reverse k.reverse
  | _, _, .nil => .nil
  | _, _, .cons a t => by rw [List.reverse_cons, List.reverse_cons]; exact Paired.snoc (Paired.reverse t) a
theorem Paired.imp {α β : Type} {F F' : α → β → Prop} (h : ∀ a b, F a b → F' a b) : ∀ {l : List α} {k : List β}, Paired F l k → Paired F' l k
  | _, _, .nil => .nil
  | _, _, .cons a t => .cons (h _ _ a) (Paired.imp h t)
section
variable {prog : Program} {w : World} {A : Around} {env : Env} {K K' : Heap} {e e₁ e₂ l r value : Expr} {P P₁ P₂ : VP} {x : Str} {pos p sp : Pos} {v : Value} {m : Str → Option Value} {bs : List (Array UInt8)}
theorem EV_len_L {α : Type} {G : α → Value → Prop} {zs : List α} (hf : EV prog w A env K (.Name "len" p) (IsV (.builtin "len"))) (h : EV prog w A env K e (LS G zs)) (hz : zs.length ≤ 1000000)
    (hs : starEach [e] env = [(false, eval e env)] := by rfl) : EV prog w A env K (.Call (.Name "len" p) [e] [] pos) (IsI (zs.length : Int)) := fun s Q E k hq => by
  refine Call_Name1 (hf s _ E k fun v₁ h' tk k₁ p₁ => ?_) hs
  cases p₁
  refine callWith_builtin1 (h _ _ E (k.trans k₁) fun v₂ h'' tk' k₂ p₂ => ?_)
  obtain ⟨a, ys, rfl, hl, hp⟩ := p₂
  have e1 := hp.length
  have e2 : zs.length = ys.size := by simpa using e1
  refine len_list hl (by lia) ?_
  exact hq _ _ _ (k₁.trans k₂) ⟨_, by rw [e2]⟩
theorem EV_item {α : Type} {G : α → Value → Prop} {zs : List α} {slice : Expr} {n : Nat} (h1 : EV prog w A env K value (LS G zs)) (h2 : EV prog w A env K slice (IsI (n : Int))) (hn : n < zs.length) (hz : zs.length ≤ 1000000)
    (hs : ∀ t a, subscripted slice false (.ref a) (.int (n : Int) t) = operate [.ref a, .int (n : Int) t] (getItem (.ref a) (.int (n : Int) t)) := by intro _ _; with_unfolding_all rfl)
    (ht : ∀ a r, letTemporaryGo value (.ref a) r = pure () := by intro _ _; with_unfolding_all rfl) : EV prog w A env K (.Subscript value slice pos) (fun _ v => G zs[n] v) := fun s Q E k hq => by
  refine Subscript_ (h1 s _ E k fun v₁ h' tk k₁ p₁ => ?_)
  refine h2 _ _ E (k.trans k₁) fun v₂ h'' tk' k₂ p₂ => ?_
  obtain ⟨a, ys, rfl, hl, hp⟩ := p₁
  obtain ⟨t, rfl⟩ := p₂
  have e2 : zs.length = ys.size := by have := hp.length; simpa using this
  have hy : n < ys.size := by lia
  refine item_list (s := { s with heap := h'', toks := tk' }) (hl.at fun o e => k₂ _ _ e) (by lia) (by lia) (x := ys[n]) (by simp [hy]) ?_ (hs t a) (ht a)
  refine hq _ _ _ (k₁.trans k₂) ?_
  have := paired_get hp n hn (by simpa using hy)
  simpa using this
theorem tail_slice_L {s : Shared} {E : Value → Shared → Prop} {value slice : Expr} {a : Addr} {items : Array Value} {l u st : Value} {lo hi sti : Option Int} {Q : Value → Shared → Prop} (hlist : s.heap.IsList a items) (hl : IsPart l lo) (hu : IsPart u hi) (hst : IsPart st sti) (h0 : sti ≠ some 0) (hz : items.size ≤ sizeLine)
    (h : ∀ h' D, Ext s.heap h' → s.heap.get? D = none → h'.PlainList D (slicePick items lo hi sti) → Q (.ref D) { s with heap := h' }) {ops : List Value}
    (hs : subscripted slice false (.ref a) (.ref s.heap.objs.size) = operate ops (getItem (.ref a) (.ref s.heap.objs.size)))
    (ht : ∀ r, letTemporaryGo value (.ref a) r = pure ()) :
    wpAny (model prog w) A (subscriptTail value slice (.ref a) (.ref s.heap.objs.size)) Q E { s with heap := s.heap.push { cls := .type "slice", data := .fields #[l, u, st] } } := by
  refine subscriptTail_ops (Heap.IsList.typeIs (s := { s with heap := s.heap.push { cls := .type "slice", data := .fields #[l, u, st] } }) (hlist.push _)) list_getitem_lookup
    (wpAny_getItem_list_slice (hlist.push _) (Heap.IsSliceOf.new ..) hl hu hst h0 ?_ hz) hs ht
  refine h _ _ (fun b o e => Heap.get?_push_of_some _ (Heap.get?_push_of_some _ e)) ?_ ⟨_, Heap.get?_push_size _ rfl⟩
  cases q : s.heap.get? (s.heap.push { cls := .type "slice", data := .fields #[l, u, st] }).objs.size with
  | none => rfl
  | some o =>
    have := Heap.lt_size q
    rw [Heap.size_push] at this
    exact absurd this (Nat.not_lt.mpr (Nat.le_succ _))
theorem EV_from {α : Type} {G : α → Value → Prop} {zs : List α} {lo : Expr} {n : Nat} (h1 : EV prog w A env K value (LS G zs)) (h2 : EV prog w A env K lo (IsI (n : Int))) (hn : n ≤ zs.length) (hz : zs.length ≤ 1000000)
    (hs : ∀ a b, subscripted (.Slice (some lo) none none sp) false (.ref a) (.ref b) = operate [.ref b, .ref a] (getItem (.ref a) (.ref b)) := by intro _ _; with_unfolding_all rfl)
    (ht : ∀ a r, letTemporaryGo value (.ref a) r = pure () := by intro _ _; with_unfolding_all rfl) : EV prog w A env K (.Subscript value (.Slice (some lo) none none sp) pos) (LS G (zs.drop n)) := fun s Q E k hq => by
  refine Subscript_ (h1 s _ E k fun v₁ h' tk k₁ p₁ => ?_)
  refine wpAny_Slice (evalPart_some_step (h2 _ _ E (k.trans k₁) fun v₂ h'' tk' k₂ p₂ => evalPart_none_step (evalPart_none_step ?_)))
  obtain ⟨a, ys, rfl, hl, hp⟩ := p₁
  obtain ⟨t, rfl⟩ := p₂
  have e2 : zs.length = ys.size := by have := hp.length; simpa using this
  refine tail_slice_L (s := { s with heap := h'', toks := tk' }) (hl.at fun o e => k₂ _ _ e) (.int _ _) .none .none (by simp) (by rw [sizeLine_eq]; lia) (fun h3 D k3 _ hD => ?_) (hs a _) (ht a)
  refine hq _ _ _ ((k₁.trans k₂).trans k3) ⟨D, _, rfl, hD.isList, ?_⟩
  rw [slicePick_from _ _ (by lia)]
  exact Paired.drop n hp
theorem filterMap_in {α β : Type} {f g : α → Option β} : ∀ {l : List α}, (∀ x ∈ l, f x = g x) → l.filterMap f = l.filterMap g
  | [], _ => rfl
  | a :: l, h => by
    rw [List.filterMap_cons, List.filterMap_cons, h a (List.mem_cons_self), filterMap_in fun x hx => h x (List.mem_cons_of_mem _ hx)]
theorem rev_idx {n k : Nat} (h : k < n) : ((n : Int) - 1 + -1 * (k : Int)).toNat = n - 1 - k := by
  rw [Int.neg_mul, Int.one_mul, ← Int.sub_eq_add_neg]
  exact (congrArg Int.toNat (congrArg (· - (k : Int)) (Int.ofNat_sub (show 1 ≤ n from Nat.lt_of_le_of_lt (Nat.zero_le k) h)).symm)).trans (Int.toNat_sub _ _)
theorem rev_aux {α : Type} (l : List α) : (List.range l.length).filterMap (fun (k : Nat) => l[((l.length : Int) - 1 + -1 * (k : Int)).toNat]?) = l.reverse := by
  have h := pick_range l.reverse 0 l.length
  rw [List.drop_zero, List.take_of_length_le (by simp), List.filterMap_map] at h
  rw [← h]
  refine filterMap_in fun k hk => ?_
  have hk' := List.mem_range.mp hk
  rw [Function.comp_apply, Nat.zero_add, List.getElem?_reverse hk']
  congr 1
  exact rev_idx hk'
theorem pick_rev (items : Array Value) : slicePick items none none (some (-1)) = items.toList.reverse.toArray := by
  unfold slicePick
  congr 1
  have e : sliceBounds none none (some (-1)) items.size = ((items.size : Int) - 1, -1, -1) := by simp [sliceBounds]
  rw [e]
  unfold sliceRange
  simp only [show ¬ ((-1 : Int) > 0) by decide, if_false, Int.neg_neg, Int.ediv_one]
  have hn : ((if (items.size : Int) - 1 > -1 then ((items.size : Int) - 1 - -1 - -1 - 1) else 0)).toNat = items.size := by
    split <;> lia
  rw [hn, List.filterMap_map]
  have := rev_aux items.toList
  simpa [Function.comp_def] using this
theorem EV_rev {α : Type} {G : α → Value → Prop} {zs : List α} {op : Expr} (h1 : EV prog w A env K value (LS G zs)) (h2 : EV prog w A env K op (IsI (-1))) (hz : zs.length ≤ 1000000)
    (hs : ∀ a b, subscripted (.Slice none none (some op) sp) false (.ref a) (.ref b) = operate [.ref a, .ref b] (getItem (.ref a) (.ref b)) := by intro _ _; with_unfolding_all rfl)
    (ht : ∀ a r, letTemporaryGo value (.ref a) r = pure () := by intro _ _; with_unfolding_all rfl) : EV prog w A env K (.Subscript value (.Slice none none (some op) sp) pos) (LS G zs.reverse) := fun s Q E k hq => by
  refine Subscript_ (h1 s _ E k fun v₁ h' tk k₁ p₁ => ?_)
  refine wpAny_Slice (evalPart_none_step (evalPart_none_step (evalPart_some_step (h2 _ _ E (k.trans k₁) fun v₂ h'' tk' k₂ p₂ => ?_))))
  obtain ⟨a, ys, rfl, hl, hp⟩ := p₁
  obtain ⟨t, rfl⟩ := p₂
  have e2 : zs.length = ys.size := by have := hp.length; simpa using this
  refine tail_slice_L (s := { s with heap := h'', toks := tk' }) (hl.at fun o e => k₂ _ _ e) .none .none (.int _ _) (by simp) (by rw [sizeLine_eq]; lia) (fun h3 D k3 _ hD => ?_) (hs a _) (ht a)
  refine hq _ _ _ ((k₁.trans k₂).trans k3) ⟨D, _, rfl, hD.isList, ?_⟩
  rw [pick_rev]
  exact Paired.reverse hp
/-- a range -/
noncomputable def IsRg (a b c : Int) : VP := fun h v => ∃ r t u z, v = .ref r ∧ IsRange h r a b c t u z
theorem EV_range1 {b : Int} (hf : EV prog w A env K (.Name "range" p) (IsV (.type "range"))) (h : EV prog w A env K e (IsI b)) (hs : starEach [e] env = [(false, eval e env)] := by rfl) :
    EV prog w A env K (.Call (.Name "range" p) [e] [] pos) (IsRg 0 b 1) := fun s Q E k hq => by
  refine Call_Name1 (hf s _ E k fun v₁ h' tk k₁ p₁ => ?_) hs
  cases p₁
  refine callWith_type1 (h _ _ E (k.trans k₁) fun v₂ h'' tk' k₂ p₂ => ?_)
  obtain ⟨t, rfl⟩ := p₂
  exact call_range_1 (hq _ _ _ ((k₁.trans k₂).trans fun b o e => Heap.get?_push_of_some _ e) ⟨_, _, _, _, rfl, Heap.get?_push_size _ rfl⟩)
theorem EV_range3 {a b c : Int} {e₃ : Expr} (hf : EV prog w A env K (.Name "range" p) (IsV (.type "range"))) (h1 : EV prog w A env K e₁ (IsI a)) (h2 : EV prog w A env K e₂ (IsI b)) (h3 : EV prog w A env K e₃ (IsI c)) (hc : c ≠ 0) (hb : -1000000 ≤ b - a ∧ b - a ≤ 1000000) (hcb : -1000 ≤ c ∧ c ≤ 1000)
    (hs : starEach [e₁, e₂, e₃] env = [(false, eval e₁ env), (false, eval e₂ env), (false, eval e₃ env)] := by rfl) :
    EV prog w A env K (.Call (.Name "range" p) [e₁, e₂, e₃] [] pos) (IsRg a b c) := fun s Q E k hq => by
  refine Call_Name (trees := [(false, eval e₁ env), (false, eval e₂ env), (false, eval e₃ env)]) (by rw [hs]; rfl) (hf s _ E k fun v₁ h' tk k₁ p₁ => ?_)
  cases p₁
  refine PyProof.Rows.callWith_type rfl (evalArgs_plain (spliced_cons ?_))
  refine h1 _ _ E (k.trans k₁) fun v₂ h'' tk' k₂ p₂ => spliced_cons ?_
  refine h2 _ _ E ((k.trans k₁).trans k₂) fun v₃ h3' tk3 k₃ p₃ => spliced_cons ?_
  refine h3 _ _ E (((k.trans k₁).trans k₂).trans k₃) fun v₄ h4' tk4 k₄ p₄ => spliced_nil ?_
  obtain ⟨t, rfl⟩ := p₂
  obtain ⟨u, rfl⟩ := p₃
  obtain ⟨z, rfl⟩ := p₄
  refine call_range_3 hc (hq _ _ _ ((((k₁.trans k₂).trans k₃).trans k₄).trans fun b o e => Heap.get?_push_of_some _ e) ⟨_, _, _, _, rfl, Heap.get?_push_size _ rfl⟩) (.inl (PyProof.noPylong_small (by lia)))
end
end
section
open PySem PySem.W PyProof.Rows PySem.Calls PySem.SeqAt
set_option Elab.async false
set_option linter.unusedVariables false
/-- what a comprehension's turn does, over any heap that bears K on -/
structure CompOk {α β : Type} (prog : Program) (w : World) (A : Around) (env : Env) (scope : Scope) (cl : List (Str × Addr)) (target : Expr) (ifs : List Expr) (elt : Expr) (K : Heap) (xs : List α) (Rel : α → Value → Prop) (q : α → Bool) (f : α → β) (G : β → Value → Prop) (Bd : α → (Str → Option Value) → Prop) : Prop where
  tgt : (∃ y p, target = .Name y p) ∨ ((∃ elts k p, target = .Tuple elts k p) ∧ ∀ x v, Rel x v → ∃ T, v = .ref T)
  bind : ∀ C x v (s : Shared) m (Q : Unit → Shared → Prop) (E : Value → Shared → Prop), Rel x v → Ext K s.heap → s.heap.Ns C m →
      (∀ h' tk m', h'.Ns C m' → Bd x m' → (∀ b o, b ≠ C → s.heap.get? b = some o → h'.get? b = some o) → Q () { s with heap := h', toks := tk }) → wpAny (model prog w) A (assign target (compEnvC scope cl C env) v) Q E s
  test : ∀ C x K' m, x ∈ xs → Ext K K' → K'.Ns C m → Bd x m → ∀ (s : Shared) (Q : Bool → Shared → Prop) (E : Value → Shared → Prop), Ext K' s.heap → (∀ h' tk, Ext s.heap h' → Q (q x) { s with heap := h', toks := tk }) → wpAny (model prog w) A (testsOf ifs (compEnvC scope cl C env)) Q E s
  elt : ∀ C x K' m, x ∈ xs → q x = true → Ext K K' → K'.Ns C m → Bd x m → EV prog w A (compEnvC scope cl C env) K' elt (fun _ v => G (f x) v)
/-- freshness told: the value stands however the elder things are hidden -/
noncomputable def EVF (prog : Program) (w : World) (A : Around) (env : Env) (K : Heap) (e : Expr) (P : VP) : Prop := ∀ (s : Shared) (Q : Value → Shared → Prop) (E : Value → Shared → Prop), Ext K s.heap →
  (∀ v h' tk, Ext s.heap h' → (∀ S : List Addr, (∀ b ∈ S, ∃ o, s.heap.get? b = some o) → P (hideAll h' S) v) → Q v { s with heap := h', toks := tk }) → wpAny (model prog w) A (eval e env) Q E s
section
variable {prog : Program} {w : World} {A : Around} {env : Env} {K K' : Heap} {e : Expr} {P : VP}
theorem EVF.ev (h : EVF prog w A env K e P) : EV prog w A env K e P := fun s Q E k hq => h s Q E k fun v h' tk x y => hq v h' tk x (y [] (fun _ hb => nomatch hb))
theorem EV.evf (h : EV prog w A env K e P) (hf : ∀ h h' v, P h v → P h' v) : EVF prog w A env K e P := fun s Q E k hq => h s Q E k fun v h' tk x y => hq v h' tk x fun S _ => hf _ _ _ y
theorem EVF.up (h : EVF prog w A env K e P) (k : Ext K K') : EVF prog w A env K' e P := fun s Q E k' hq => h s Q E (k.trans k') hq
theorem fresh_hide {h h' : Heap} {D : Addr} {its : Array Value} {S : List Addr} (hS : ∀ b ∈ S, ∃ o, h.get? b = some o) (hD : h.get? D = none) (hl : h'.PlainList D its) : (hideAll h' S).IsList D its := by
  obtain ⟨n, e⟩ := hl
  exact ⟨_, hideAll_get S e (fun q => by obtain ⟨o, ho⟩ := hS D q; rw [hD] at ho; cases ho), rfl, n, rfl⟩
section
variable {α β : Type} {elt target iter : Expr} {ifs : List Expr} {scope : Scope} {cl : List (Str × Addr)} {pos : Pos} {xs : List α} {q : α → Bool} {f : α → β} {G : β → Value → Prop}
/-- the whole block, from the iterable on -/
theorem comp_src {s₁ : Shared} {E : Value → Shared → Prop} {Rel : α → Value → Prop} {Bd : α → (Str → Option Value) → Prop} {RR : Value → Addr → Result → Shared → Prop} {n : Nat} {PI : Nat → Value → Prop} {O : Nat → Obj → Prop} {o₀ : Obj}
    (W : It prog w A s₁.heap.objs.size s₁.heap n PI O) (ho : O 0 o₀) (hsz : n ≤ sizeLine) (hn : xs.length = n) (hP : ∀ i v, i < n → PI i v → ∃ x, xs[i]? = some x ∧ Rel x v) (hf : o₀.isFreed = false)
    (ok : CompOk prog w A env scope cl target ifs elt s₁.heap xs Rel q f G Bd) (hcell : ∀ y ∈ scope.names, y.2 ≠ .cell) (hkind : scope.kind = .function)
    (hRR : ∀ D C h' tk m' ys, s₁.heap.get? D = none → s₁.heap.get? C = none → D ≠ C → h'.Ns C m' → h'.PlainList D ys → Paired G ((xs.filter q).map f) ys.toList → Ext s₁.heap h' → RR (.ref D) C (.ok .next) { s₁ with heap := h', toks := tk }) :
    wpAny (model prog w) A (newList []) (fun acc s₃ => wpAny (model prog w) A (newFunctionEnv scope env.globals cl [] env.qual none .none (some env)) (fun cenv s₄ =>
      codeAny (model prog w) A (.compStart (.ListComp elt [⟨target, iter, ifs, 0⟩] scope pos) 0 (.ref s₁.heap.objs.size) acc { cenv with scope := relabel scope env }) (RR acc cenv.locals) s₄) E s₃) E { s₁ with heap := s₁.heap.push o₀ } := by
  have k0 : Ext s₁.heap (s₁.heap.push o₀) := fun b o e => Heap.get?_push_of_some _ e
  have hI : s₁.heap.get? s₁.heap.objs.size = none := by
    cases e : s₁.heap.get? s₁.heap.objs.size with
    | none => rfl
    | some o' => exact absurd (Heap.lt_size e) (Nat.lt_irrefl _)
  refine comp_block (s₂ := { s₁ with heap := s₁.heap.push o₀ }) W k0 (Heap.get?_push_size _ hf) ho hI hsz xs hn Rel hP q f G Bd ?_ ok.bind ?_ ?_ hcell hkind ?_
  · intro x v hR s Q E i o he hO hq
    rcases ok.tgt with ⟨y, p, rfl⟩ | ⟨⟨elts, k, p, rfl⟩, hT⟩
    · exact wpAny_pure hq
    · obtain ⟨T, rfl⟩ := hT x v hR
      exact W.own i s Q E o elts k p T he hO hq
  · intro C x s m Q E hx k hn hB hq
    exact ok.test C x s.heap m hx k hn hB s Q E Ext.rfl' hq
  · intro C x s m Q E hx hqx k hn hB hq
    exact ok.elt C x s.heap m hx hqx k hn hB s Q E Ext.rfl' hq
  · intro D C h' tk m' ys hD hC hDC hn hl hp hk
    have none_of : ∀ b, (s₁.heap.push o₀).get? b = none → s₁.heap.get? b = none := fun b hb => by
      cases e : s₁.heap.get? b with
      | none => rfl
      | some o => rw [k0 b o e] at hb; cases hb
    exact hRR D C h' tk m' ys (none_of D hD) (none_of C hC) hDC hn hl hp fun b o e => hk b o (fun q => by rw [q, hI] at e; cases e) (k0 b o e)
/-- what a comprehension runs over: a list or a range -/
noncomputable def Src (A : Around) (xs : List α) (Rel : Heap → α → Value → Prop) : VP := fun h v =>
  (∃ ax items, v = .ref ax ∧ h.IsList ax items ∧ items.size ≤ sizeLine ∧ EndOk A h ∧ Paired (Rel h) xs items.toList) ∨
  (∃ r a b c t u z n, v = .ref r ∧ IsRange h r a b c t u z ∧ Builtin.Range.small a b c = true ∧ Builtin.Range.rangeSize a b c = ((n : Nat) : Int) ∧ n ≤ sizeLine ∧ EndOk A h ∧ xs.length = n ∧ ∀ (i : Nat) x, xs[i]? = some x → ∀ t, Rel h x (.int (a + (i : Int) * c) t))
theorem src_go {s₁ : Shared} {v : Value} {E : Value → Shared → Prop} {Rel : Heap → α → Value → Prop} {Bd : α → (Str → Option Value) → Prop} {RR : Value → Addr → Result → Shared → Prop} (hs : Src A xs Rel s₁.heap v)
    (ok : CompOk prog w A env scope cl target ifs elt s₁.heap xs (Rel s₁.heap) q f G Bd) (hcell : ∀ y ∈ scope.names, y.2 ≠ .cell) (hkind : scope.kind = .function)
    (hRR : ∀ D C h' tk m' ys, s₁.heap.get? D = none → s₁.heap.get? C = none → D ≠ C → h'.Ns C m' → h'.PlainList D ys → Paired G ((xs.filter q).map f) ys.toList → Ext s₁.heap h' → RR (.ref D) C (.ok .next) { s₁ with heap := h', toks := tk }) :
    wpAny (model prog w) A (pyIter v) (fun it s₂ => wpAny (model prog w) A (newList []) (fun acc s₃ => wpAny (model prog w) A (newFunctionEnv scope env.globals cl [] env.qual none .none (some env)) (fun cenv s₄ =>
      codeAny (model prog w) A (.compStart (.ListComp elt [⟨target, iter, ifs, 0⟩] scope pos) 0 it acc { cenv with scope := relabel scope env }) (RR acc cenv.locals) s₄) E s₃) E s₂) E s₁ := by
  have hI : s₁.heap.get? s₁.heap.objs.size = none := by
    cases e : s₁.heap.get? s₁.heap.objs.size with
    | none => rfl
    | some o' => exact absurd (Heap.lt_size e) (Nat.lt_irrefl _)
  rcases hs with ⟨ax, items, rfl, hl, hsz, hok, hp⟩ | ⟨r, a, b, c, t, u, z, n, rfl, hr, hsm, hn, hsz, hok, hlen, hR⟩
  · refine wpAny_pyIter_list hl ?_
    refine comp_src (Rel := Rel s₁.heap) (It.list hl hI hok) ⟨rfl, rfl⟩ hsz (by have := hp.length; simpa using this) ?_ rfl ok hcell hkind hRR
    intro i v hi hv
    have e1 := hp.length
    have h2 : i < items.size := (Array.getElem?_eq_some_iff.mp hv).1
    have h1 : i < xs.length := by simp at e1; lia
    refine ⟨xs[i], by simp [h1], ?_⟩
    have := paired_get hp i h1 (by simpa using h2)
    obtain ⟨_, hv'⟩ := Array.getElem?_eq_some_iff.mp hv
    rw [← hv']
    simpa using this
  · refine wpAny_pyIter_range hr hsm ?_
    rw [hn]
    refine comp_src (Rel := Rel s₁.heap) (o₀ := { cls := .type "range_iterator", data := .fields #[rawInt a, rawInt n, rawInt c] }) (It.range a c n hok) (by simp) hsz hlen ?_ rfl ok hcell hkind hRR
    rintro i v hi ⟨t, rfl⟩
    have h1 : i < xs.length := by lia
    exact ⟨xs[i], by simp [h1], hR i _ (by simp [h1]) t⟩
theorem EVF_comp {Rel : Heap → α → Value → Prop} {Bd : α → (Str → Option Value) → Prop} (hsrc : EV prog w A env K iter (Src A xs Rel)) (hclos : closureFor scope env = pure cl)
    (ok : ∀ K', Ext K K' → CompOk prog w A env scope cl target ifs elt K' xs (Rel K') q f G Bd)
    (hcell : ∀ y ∈ scope.names, y.2 ≠ .cell := by decide) (hkind : scope.kind = .function := by rfl) (hnames : ∀ y ∈ scope.names, y.2 = .local → scope.names.lookup y.1 = some .local := by decide)
    (hs : ∀ x, foldedSetIterable iter env x = pure x := by intro _; rfl) : EVF prog w A env K (.ListComp elt [⟨target, iter, ifs, 0⟩] scope pos) (LS G ((xs.filter q).map f)) := fun s Q E k hq => by
  rw [eval_ListComp]
  refine wpAny_comprehension_free (use := none) rfl hs hclos hkind hnames (hsrc s _ E k fun v h₁ tk₁ k₁ hS => ?_)
  refine src_go (s₁ := { s with heap := h₁, toks := tk₁ }) (RR := fun acc C => compPost (model prog w) A E none Q acc C) hS (ok h₁ (k.trans k₁)) hcell hkind ?_
  intro D C h' tk m' ys hD hC hDC hn hl hp hk
  refine ⟨m', hn, fun h'' hs'' => hq (.ref D) h'' tk (fun b o e => hs''.extBut b o (by rintro rfl; rw [k₁ _ _ e] at hC; cases hC) (hk b o (k₁ b o e))) fun S hS => ?_⟩
  exact ⟨D, ys, rfl, fresh_hide (h := h₁) (fun b hb => by obtain ⟨o, ho⟩ := hS b hb; exact ⟨o, k₁ _ _ ho⟩) hD (hl.extBut hs''.extBut hDC), hp⟩
theorem exec_swap {s : Shared} {m : Str → Option Value} {y : Str} {py spos : Pos} {Q : Flow → Shared → Prop} {E : Value → Shared → Prop} {Rel : Heap → α → Value → Prop} {Bd : α → (Str → Option Value) → Prop} (hk : Ext K s.heap) (hn : s.heap.Ns env.locals m)
    (hsrc : EV prog w A env K iter (Src A xs Rel)) (hclos : closureFor scope env = pure cl) (ok : ∀ K', Ext K K' → CompOk prog w A env scope cl target ifs elt K' xs (Rel K') q f G Bd)
    (hq : ∀ D h' tk, h'.Ns env.locals (fun z => if z = y then some (.ref D) else m z) → (∀ b o, b ≠ env.locals → s.heap.get? b = some o → h'.get? b = some o) → (∀ S : List Addr, (∀ b ∈ S, ∃ o, s.heap.get? b = some o) → LS G ((xs.filter q).map f) (hideAll h' S) (.ref D)) → Q .next { s with heap := h', toks := tk })
    (hsw : swapsWith (.ListComp elt [⟨target, iter, ifs, 0⟩] scope pos) (some (.Name y py)) spos.line env = pure true := by with_unfolding_all rfl)
    (hcell : ∀ y ∈ scope.names, y.2 ≠ .cell := by decide) (hkind : scope.kind = .function := by rfl) (hnames : ∀ y ∈ scope.names, y.2 = .local → scope.names.lookup y.1 = some .local := by decide)
    (hy : env.kindOf y = some .local := by rfl) (hp : (env.scope.kind == .class || (env.scope.kind == .module && env.locals != env.globals)) = false := by rfl)
    (hs : ∀ x, foldedSetIterable iter env x = pure x := by intro _; rfl) : wpAny (model prog w) A (exec (.Assign [.Name y py] (.ListComp elt [⟨target, iter, ifs, 0⟩] scope pos) spos) env) Q E s := by
  rw [exec_Assign_Name_used _ _ _ _ hsw]
  refine wpAny_bind (wpAny_standAt (wpAny_bind ?_))
  show wpAny _ A (do let _ ← comprehension (.ListComp elt [⟨target, iter, ifs, 0⟩] scope pos) scope env _ (newList []) false (eval iter env) (some (assign (.Name y py) env))) _ _ s
  refine wpAny_bind (wpAny_mono (wpAny_comprehension_free (use := some (assign (.Name y py) env)) (Q := fun _ s' => Q .next s') rfl hs hclos hkind hnames (hsrc s _ E hk fun v h₁ tk₁ k₁ hS => ?_)) (fun _ s' hq => wpAny_pure (wpAny_pure hq)) fun _ _ e => e)
  refine src_go (s₁ := { s with heap := h₁, toks := tk₁ }) (RR := fun acc C => compPost (model prog w) A E (some (assign (.Name y py) env)) (fun _ s' => Q .next s') acc C) hS (ok h₁ (hk.trans k₁)) hcell hkind ?_
  intro D C h' tk m' ys hD hC hDC hnC hl hpr hk'
  have hn₁ : h'.Ns env.locals m := hn.keeps (k₁.trans hk')
  have hLs : ∃ o, s.heap.get? env.locals = some o := let ⟨o, _, _, ho, _⟩ := hn; ⟨o, ho⟩
  have hCL : C ≠ env.locals := by rintro rfl; obtain ⟨o, ho⟩ := hLs; rw [k₁ _ _ ho] at hC; cases hC
  have hDL : D ≠ env.locals := by rintro rfl; obtain ⟨o, ho⟩ := hLs; rw [k₁ _ _ ho] at hD; cases hD
  show wpAny _ A (assign (.Name y py) env (.ref D)) _ _ _
  refine wpAny_assign_Name (wpAny_storeName_local hy hn₁ (fun h₂ hn₂ hs₂ => ?_) hp)
  refine ⟨m', hnC.sameBut hs₂ hCL, fun h₃ hs₃ => ?_⟩
  refine hq D h₃ _ (hn₂.sameBut hs₃ hCL.symm) (fun b o hb e => hs₃.extBut b o (by rintro rfl; rw [k₁ _ _ e] at hC; cases hC) (hs₂.extBut b o hb (hk' b o (k₁ b o e)))) fun S hS => ?_
  exact ⟨D, ys, rfl, fresh_hide (h := h₁) (fun b hb => by obtain ⟨o, ho⟩ := hS b hb; exact ⟨o, k₁ _ _ ho⟩) hD ((hl.extBut hs₂.extBut hDL).extBut hs₃.extBut hDC), hpr⟩
end
end
end
section
open PySem PySem.W PyProof.Rows PySem.Calls PySem.SeqAt
set_option Elab.async false
set_option linter.unusedVariables false
/-- what stands (g), what is pinned, which lists are the frame's own -/
structure Zn where
  g : Heap
  pins : List (Addr × Obj)
  os : List Addr
noncomputable def Zn.S (z : Zn) (env : Env) : List Addr := env.locals :: (env.cells.map (·.2) ++ (z.os ++ z.pins.map (·.1)))
noncomputable def Zn.hid (z : Zn) (env : Env) (h : Heap) : Heap := hideAll h (z.S env)
inductive Fact where
  | loc (P : VP)
  | cel (P : VP)
  | own (a : Addr) (R : Heap → List Value → Prop)
noncomputable def Fact.holds (z : Zn) (env : Env) (m : Str → Option Value) (h : Heap) (x : Str) : Fact → Prop
  | .loc P => Mono P ∧ env.kindOf x = some .local ∧ ∃ v, m x = some v ∧ P (z.hid env h) v
  | .cel P => Mono P ∧ env.kindOf x = some .cell ∧ ∃ c v, env.cells.lookup x = some c ∧ h.IsCell c (some v) ∧ P (z.hid env h) v
  | .own a R => (∀ h h' l, Ext h h' → R h l → R h' l) ∧ env.kindOf x = some .local ∧ m x = some (.ref a) ∧ a ∈ z.os ∧ ∃ its, h.PlainList a its ∧ R (z.hid env h) its.toList
structure SA (z : Zn) (env : Env) (h : Heap) (m : Str → Option Value) : Prop where
  base : Ext z.g (z.hid env h)
  ns : h.Ns env.locals m
  cells : ∀ p ∈ env.cells, ∃ v, h.IsCell p.2 v
  nodup : (env.cells.map (·.2)).Nodup
  osd : ∀ a ∈ z.os, ∃ its, h.PlainList a its
  pind : ∀ p ∈ z.pins, h.get? p.1 = some p.2 ∧ p.1 ≠ env.locals ∧ (p.1 ∉ env.cells.map (·.2)) ∧ p.1 ∉ z.os
noncomputable abbrev Ctx' := List (Str × Fact)
noncomputable def STA (z : Zn) (env : Env) (Γ : Ctx') (h : Heap) : Prop := ∃ m, SA z env h m ∧ ∀ x f, Γ.lookup x = some f → f.holds z env m h x
theorem ext_hide {h h' : Heap} {S : List Addr} (k : ∀ b o, b ∉ S → h.get? b = some o → h'.get? b = some o) : Ext (hideAll h S) (hideAll h' S) := fun b o e => by
  by_cases hb : b ∈ S
  · rw [hideAll_none S hb] at e; cases e
  · exact hideAll_get S (k b o hb (of_hideAll S e)) hb
theorem hide_ext {h : Heap} {S : List Addr} : Ext (hideAll h S) h := fun b o e => of_hideAll S e
section
variable {z : Zn} {env : Env} {Γ : Ctx'} {h h' : Heap} {m : Str → Option Value}
theorem SA.dom (H : SA z env h m) : ∀ b ∈ z.S env, ∃ o, h.get? b = some o := fun b hb => by
  rcases List.mem_cons.mp hb with rfl | hb
  · exact let ⟨o, _, _, e, _⟩ := H.ns; ⟨o, e⟩
  · rcases List.mem_append.mp hb with hb | hb
    · obtain ⟨p, hp, rfl⟩ := List.mem_map.mp hb
      exact let ⟨_, o, e, _⟩ := H.cells p hp; ⟨o, e⟩
    · rcases List.mem_append.mp hb with hb | hb
      · exact let ⟨_, n, e⟩ := H.osd b hb; ⟨_, e⟩
      · obtain ⟨p, hp, rfl⟩ := List.mem_map.mp hb
        exact ⟨_, (H.pind p hp).1⟩
theorem mem_L : env.locals ∈ z.S env := List.mem_cons_self
theorem mem_c {c : Addr} (h : c ∈ env.cells.map (·.2)) : c ∈ z.S env := List.mem_cons_of_mem _ (List.mem_append_left _ h)
theorem mem_o {a : Addr} (h : a ∈ z.os) : a ∈ z.S env := List.mem_cons_of_mem _ (List.mem_append_right _ (List.mem_append_left _ h))
theorem mem_p {p : Addr × Obj} (h : p ∈ z.pins) : p.1 ∈ z.S env := List.mem_cons_of_mem _ (List.mem_append_right _ (List.mem_append_right _ (List.mem_map_of_mem h)))
/-- kinds part addresses -/
theorem ns_cell_ne {c L : Addr} {v : Option Value} (h1 : h.Ns L m) (h2 : h.IsCell c v) : c ≠ L := by
  rintro rfl
  obtain ⟨o, es, ep, e, d, _⟩ := h1
  obtain ⟨o', e', d'⟩ := h2
  rw [e] at e'; cases e'
  rw [d] at d'; cases d'
theorem ns_list_ne {a L : Addr} {its : Array Value} (h1 : h.Ns L m) (h2 : h.PlainList a its) : a ≠ L := by
  rintro rfl
  obtain ⟨o, es, ep, e, d, _⟩ := h1
  obtain ⟨n, e'⟩ := h2
  rw [e] at e'; cases e'
  cases d
theorem cell_list_ne {a c : Addr} {its : Array Value} {v : Option Value} (h1 : h.IsCell c v) (h2 : h.PlainList a its) : a ≠ c := by
  rintro rfl
  obtain ⟨o, e, d⟩ := h1
  obtain ⟨n, e'⟩ := h2
  rw [e] at e'; cases e'
  cases d
/-- new things made, nothing else -/
theorem STA.ext (H : STA z env Γ h) (k : Ext h h') : STA z env Γ h' := by
  obtain ⟨m, A, F⟩ := H
  have kh : Ext (z.hid env h) (z.hid env h') := ext_hide fun b o _ e => k b o e
  refine ⟨m, ⟨A.base.trans kh, A.ns.keeps k, fun p hp => let ⟨v, c⟩ := A.cells p hp; ⟨v, c.keeps k⟩, A.nodup, fun a ha => let ⟨its, l⟩ := A.osd a ha; ⟨its, l.at fun o e => k _ _ e⟩, fun p hp => ⟨k _ _ (A.pind p hp).1, (A.pind p hp).2⟩⟩, fun x f hx => ?_⟩
  have := F x f hx
  cases f with
  | loc P => obtain ⟨mo, hk, v, hv, hP⟩ := this; exact ⟨mo, hk, v, hv, mo _ _ _ kh hP⟩
  | cel P => obtain ⟨mo, hk, c, v, hc, hcv, hP⟩ := this; exact ⟨mo, hk, c, v, hc, hcv.keeps k, mo _ _ _ kh hP⟩
  | own a R => obtain ⟨mo, hk, hm, ha, its, hl, hR⟩ := this; exact ⟨mo, hk, hm, ha, its, hl.at fun o e => k _ _ e, mo _ _ _ kh hR⟩
/-- a local stored -/
theorem STA.loc {x : Str} {v : Value} {P : VP} (A : SA z env h m) (F : ∀ x f, Γ.lookup x = some f → f.holds z env m h x) (hn : h'.Ns env.locals (fun y => if y = x then some v else m y)) (hs : ∀ b o, b ≠ env.locals → h.get? b = some o → h'.get? b = some o)
    (hx : env.kindOf x = some .local) (hm : Mono P) (hP : P (z.hid env h') v) : STA z env ((x, .loc P) :: Γ) h' := by
  have kh : Ext (z.hid env h) (z.hid env h') := ext_hide fun b o hb e => hs b o (fun q => hb (q ▸ mem_L)) e
  have cne : ∀ c v, h.IsCell c v → c ≠ env.locals := fun c v hc => ns_cell_ne A.ns hc
  have lne : ∀ a its, h.PlainList a its → a ≠ env.locals := fun a its hl => ns_list_ne A.ns hl
  refine ⟨_, ⟨A.base.trans kh, hn, fun p hp => let ⟨v, c⟩ := A.cells p hp; ⟨v, let ⟨o, e, d⟩ := c; ⟨o, hs _ _ (cne _ _ c) e, d⟩⟩, A.nodup, fun a ha => let ⟨its, l⟩ := A.osd a ha; ⟨its, l.at fun o e => hs _ _ (lne _ _ l) e⟩, fun p hp => ⟨hs _ _ (A.pind p hp).2.1 (A.pind p hp).1, (A.pind p hp).2⟩⟩, fun y f hy => ?_⟩
  by_cases q : y = x
  · subst q
    rw [List.lookup_cons_self] at hy
    cases hy
    exact ⟨hm, hx, v, by simp, hP⟩
  · rw [List.lookup_cons, beq_false_of_ne q] at hy
    have := F y f hy
    cases f with
    | loc P => obtain ⟨mo, hk, v, hv, hP⟩ := this; exact ⟨mo, hk, v, (if_neg q).trans hv, mo _ _ _ kh hP⟩
    | cel P => obtain ⟨mo, hk, c, v, hc, hcv, hP⟩ := this; exact ⟨mo, hk, c, v, hc, (let ⟨o, e, d⟩ := hcv; ⟨o, hs _ _ (cne _ _ hcv) e, d⟩), mo _ _ _ kh hP⟩
    | own a R => obtain ⟨mo, hk, hm, ha, its, hl, hR⟩ := this; exact ⟨mo, hk, (if_neg q).trans hm, ha, its, hl.at fun o e => hs _ _ (lne _ _ hl) e, mo _ _ _ kh hR⟩
theorem lookup_mem_map {c : Addr} {x : Str} : ∀ {l : List (Str × Addr)}, l.lookup x = some c → c ∈ l.map (·.2)
  | [], h => nomatch h
  | (y, b) :: r, h => by
    rw [List.lookup_cons] at h
    cases hq : x == y with
    | true => rw [hq] at h; cases h; exact List.mem_cons_self
    | false => rw [hq] at h; exact List.mem_cons_of_mem _ (lookup_mem_map h)
theorem lookup_inj {c : Addr} {x y : Str} : ∀ {l : List (Str × Addr)}, (l.map (·.2)).Nodup → l.lookup x = some c → l.lookup y = some c → x = y
  | [], _, h, _ => nomatch h
  | (n, b) :: r, hd, h1, h2 => by
    rw [List.map_cons, List.nodup_cons] at hd
    rw [List.lookup_cons] at h1 h2
    cases hq : x == n with
    | true =>
      rw [hq] at h1; cases h1
      cases hr : y == n with
      | true => exact (eq_of_beq hq).trans (eq_of_beq hr).symm
      | false => rw [hr] at h2; exact absurd (lookup_mem_map h2) hd.1
    | false =>
      rw [hq] at h1
      cases hr : y == n with
      | true => rw [hr] at h2; cases h2; exact absurd (lookup_mem_map h1) hd.1
      | false => rw [hr] at h2; exact lookup_inj hd.2 h1 h2
/-- a cell stored -/
theorem STA.cel {x : Str} {v : Value} {P : VP} {c : Addr} (A : SA z env h m) (F : ∀ x f, Γ.lookup x = some f → f.holds z env m h x) (hc : env.cells.lookup x = some c) (hv : h'.IsCell c (some v)) (hs : Heap.SameBut c h h')
    (hx : env.kindOf x = some .cell) (hm : Mono P) (hP : P (z.hid env h') v) : STA z env ((x, .cel P) :: Γ) h' := by
  have cm := lookup_mem_map hc
  have kh : Ext (z.hid env h) (z.hid env h') := ext_hide fun b o hb e => hs.extBut b o (fun q => hb (q ▸ mem_c cm)) e
  obtain ⟨pc, hpc, ec⟩ := List.mem_map.mp cm
  obtain ⟨v0, hc0⟩ := A.cells pc hpc
  rw [ec] at hc0
  have hcL : env.locals ≠ c := (ns_cell_ne A.ns hc0).symm
  have lne : ∀ a its, h.PlainList a its → a ≠ c := fun a its hl => cell_list_ne hc0 hl
  have cell' : ∀ d v, h.IsCell d v → ∃ v', h'.IsCell d v' := fun d v hd => by
    by_cases q : d = c
    · subst q; exact ⟨_, hv⟩
    · obtain ⟨o, e, dd⟩ := hd; exact ⟨v, o, hs.extBut _ _ q e, dd⟩
  refine ⟨m, ⟨A.base.trans kh, A.ns.sameBut hs hcL, fun p hp => let ⟨v, c⟩ := A.cells p hp; cell' _ _ c, A.nodup, fun a ha => let ⟨its, l⟩ := A.osd a ha; ⟨its, l.extBut hs.extBut (lne _ _ l)⟩, fun p hp => ⟨hs.extBut _ _ (fun q => (A.pind p hp).2.2.1 (q ▸ cm)) (A.pind p hp).1, (A.pind p hp).2⟩⟩, fun y f hy => ?_⟩
  by_cases q : y = x
  · subst q
    rw [List.lookup_cons_self] at hy
    cases hy
    exact ⟨hm, hx, c, v, hc, hv, hP⟩
  · rw [List.lookup_cons, beq_false_of_ne q] at hy
    have := F y f hy
    cases f with
    | loc P => obtain ⟨mo, hk, v, hv, hP⟩ := this; exact ⟨mo, hk, v, hv, mo _ _ _ kh hP⟩
    | cel P =>
      obtain ⟨mo, hk, d, v, hd, hdv, hP⟩ := this
      have hne : d ≠ c := fun e => q (lookup_inj A.nodup (e ▸ hd) hc)
      exact ⟨mo, hk, d, v, hd, (let ⟨o, e, dd⟩ := hdv; ⟨o, hs.extBut _ _ hne e, dd⟩), mo _ _ _ kh hP⟩
    | own a R => obtain ⟨mo, hk, hm, ha, its, hl, hR⟩ := this; exact ⟨mo, hk, hm, ha, its, hl.extBut hs.extBut (lne _ _ hl), mo _ _ _ kh hR⟩
theorem lookup_in {α : Type} {x : Str} {f : α} : ∀ {l : List (Str × α)}, l.lookup x = some f → (x, f) ∈ l
  | [], h => nomatch h
  | (y, b) :: r, h => by
    rw [List.lookup_cons] at h
    cases hq : x == y with
    | true => rw [hq] at h; cases h; rw [eq_of_beq hq]; exact List.mem_cons_self
    | false => rw [hq] at h; exact List.mem_cons_of_mem _ (lookup_in h)
noncomputable def Fact.notOwn : Fact → Bool
  | .own _ _ => false
  | _ => true
/-- an own list grown -/
theorem STA.app {x : Str} {a : Addr} {R R' : Heap → List Value → Prop} {its : Array Value} (A : SA z env h m) (F : ∀ x f, Γ.lookup x = some f → f.holds z env m h x) (hf : Γ.lookup x = some (.own a R)) (hoth : ∀ p ∈ Γ, p.1 ≠ x → p.2.notOwn = true)
    (hl' : h'.PlainList a its) (hs : Heap.SameBut a h h') (hm : ∀ h h' l, Ext h h' → R' h l → R' h' l) (hR : R' (z.hid env h') its.toList) : STA z env ((x, .own a R') :: Γ) h' := by
  obtain ⟨_, hk, hma, ha, its0, hl0, _⟩ := F x _ hf
  have kh : Ext (z.hid env h) (z.hid env h') := ext_hide fun b o hb e => hs.extBut b o (fun q => hb (q ▸ mem_o ha)) e
  have hL : env.locals ≠ a := (ns_list_ne A.ns hl0).symm
  have cne : ∀ c v, h.IsCell c v → c ≠ a := fun c v hc => (cell_list_ne hc hl0).symm
  refine ⟨m, ⟨A.base.trans kh, A.ns.sameBut hs hL, fun p hp => let ⟨v, c⟩ := A.cells p hp; ⟨v, let ⟨o, e, d⟩ := c; ⟨o, hs.extBut _ _ (cne _ _ c) e, d⟩⟩, A.nodup, fun b hb => ?_, fun p hp => ⟨hs.extBut _ _ (fun q => (A.pind p hp).2.2.2 (q ▸ ha)) (A.pind p hp).1, (A.pind p hp).2⟩⟩, fun y f hy => ?_⟩
  · by_cases q : b = a
    · subst q; exact ⟨_, hl'⟩
    · obtain ⟨its, l⟩ := A.osd b hb; exact ⟨its, l.extBut hs.extBut q⟩
  · by_cases q : y = x
    · subst q
      rw [List.lookup_cons_self] at hy
      cases hy
      exact ⟨hm, hk, hma, ha, its, hl', hR⟩
    · rw [List.lookup_cons, beq_false_of_ne q] at hy
      have := F y f hy
      cases f with
      | loc P => obtain ⟨mo, hk, v, hv, hP⟩ := this; exact ⟨mo, hk, v, hv, mo _ _ _ kh hP⟩
      | cel P => obtain ⟨mo, hk, d, v, hd, hdv, hP⟩ := this; exact ⟨mo, hk, d, v, hd, (let ⟨o, e, dd⟩ := hdv; ⟨o, hs.extBut _ _ (cne _ _ hdv) e, dd⟩), mo _ _ _ kh hP⟩
      | own b R =>
        have hmem := lookup_in hy
        exact absurd (hoth _ hmem q) Bool.false_ne_true
/-- a context taken for another -/
theorem STA.weak {Γ' : Ctx'} (H : STA z env Γ h) (hw : ∀ p ∈ Γ', Γ.lookup p.1 = some p.2) : STA z env Γ' h := by
  obtain ⟨m, A, F⟩ := H
  refine ⟨m, A, fun x f hx => F x f ?_⟩
  clear F A
  induction Γ' with
  | nil => cases hx
  | cons p r ih =>
    rw [List.lookup_cons] at hx
    cases hq : x == p.1 with
    | true => rw [hq] at hx; cases hx; rw [eq_of_beq hq]; exact hw _ List.mem_cons_self
    | false => rw [hq] at hx; exact ih (fun p hp => hw p (List.mem_cons_of_mem _ hp)) hx
end
end
section
open PySem PySem.W PyProof.Rows PySem.Calls PySem.SeqAt
set_option Elab.async false
set_option linter.unusedVariables false
/-- as EV, the value told where S is hidden -/
noncomputable def EVH (prog : Program) (w : World) (A : Around) (env : Env) (S : List Addr) (K : Heap) (e : Expr) (P : VP) : Prop := ∀ (s : Shared) (Q : Value → Shared → Prop) (E : Value → Shared → Prop), Ext K s.heap →
  (∀ v h' tk, Ext s.heap h' → P (hideAll h' S) v → Q v { s with heap := h', toks := tk }) → wpAny (model prog w) A (eval e env) Q E s
section
variable {prog : Program} {w : World} {A : Around} {env : Env} {K K' : Heap} {e : Expr} {P P' : VP} {S : List Addr} {z : Zn} {Γ : Ctx'} {h h' : Heap} {m : Str → Option Value} {x : Str} {pos p px : Pos}
theorem EVF.evh (H : EVF prog w A env K e P) (hS : ∀ b ∈ S, ∃ o, K.get? b = some o) : EVH prog w A env S K e P := fun s Q E k hq => H s Q E k fun v h' tk x y => hq v h' tk x (y S fun b hb => let ⟨o, e⟩ := hS b hb; ⟨o, k _ _ e⟩)
theorem EV.evh (H : EV prog w A env K e P) (hf : ∀ h h' v, P h v → P h' v) : EVH prog w A env S K e P := fun s Q E k hq => H s Q E k fun v h' tk x y => hq v h' tk x (hf _ _ _ y)
theorem EVH.ev (H : EVH prog w A env S K e P) (hm : Mono P) : EV prog w A env K e P := fun s Q E k hq => H s Q E k fun v h' tk x y => hq v h' tk x (hm _ _ _ hide_ext y)
theorem EVH.imp (H : EVH prog w A env S K e P) (k : ∀ h v, P h v → P' h v) : EVH prog w A env S K e P' := fun s Q E k' hq => H s Q E k' fun v h' tk x y => hq v h' tk x (k _ _ y)
theorem STA.dom (H : STA z env Γ h) : ∀ b ∈ z.S env, ∃ o, h.get? b = some o := let ⟨_, A, _⟩ := H; A.dom
theorem STA.base (H : STA z env Γ h) : Ext z.g h := let ⟨_, A, _⟩ := H; A.base.trans hide_ext
theorem STA.evh_loc (H : STA z env Γ h) (hf : Γ.lookup x = some (.loc P)) (hk : env.scope.kind = .function := by rfl) (hd : (x == ("__debug__" : Str)) = false := by decide) : EVH prog w A env (z.S env) h (.Name x pos) P := by
  obtain ⟨m, A', F⟩ := H
  obtain ⟨mo, hx, v, hv, hP⟩ := F x _ hf
  exact fun s Q E k hq => wpAny_Name (wpAny_loadName_local hk hx (A'.ns.keeps k) hv (hq v s.heap s.toks Ext.rfl' (mo _ _ _ (ext_hide fun b o _ e => k b o e) hP))) hd
theorem STA.evh_cel (H : STA z env Γ h) (hf : Γ.lookup x = some (.cel P)) (hk : env.scope.kind = .function := by rfl) (hd : (x == ("__debug__" : Str)) = false := by decide) : EVH prog w A env (z.S env) h (.Name x pos) P := by
  obtain ⟨m, A', F⟩ := H
  obtain ⟨mo, hx, c, v, hc, hv, hP⟩ := F x _ hf
  exact fun s Q E k hq => wpAny_Name (wpAny_loadName_cell hk hx hc (hv.keeps k) (hq v s.heap s.toks Ext.rfl' (mo _ _ _ (ext_hide fun b o _ e => k b o e) hP))) hd
theorem STA.monoOf (H : STA z env Γ h) (hf : Γ.lookup x = some (.loc P)) : Mono P := let ⟨_, _, F⟩ := H; (F x _ hf).1
theorem STA.monoOfC (H : STA z env Γ h) (hf : Γ.lookup x = some (.cel P)) : Mono P := let ⟨_, _, F⟩ := H; (F x _ hf).1
theorem STA.ev_loc (H : STA z env Γ h) (hf : Γ.lookup x = some (.loc P)) (hk : env.scope.kind = .function := by rfl) (hd : (x == ("__debug__" : Str)) = false := by decide) : EV prog w A env h (.Name x pos) P := (H.evh_loc hf hk hd).ev (H.monoOf hf)
theorem STA.ev_cel (H : STA z env Γ h) (hf : Γ.lookup x = some (.cel P)) (hk : env.scope.kind = .function := by rfl) (hd : (x == ("__debug__" : Str)) = false := by decide) : EV prog w A env h (.Name x pos) P := (H.evh_cel hf hk hd).ev (H.monoOfC hf)
theorem STA.ev_own {α : Type} {G : α → Value → Prop} {zs : List α} {a : Addr} {R : Heap → List Value → Prop} (H : STA z env Γ h) (hf : Γ.lookup x = some (.own a R)) (hR : ∀ h l, R h l → Paired G zs l) (hk : env.scope.kind = .function := by rfl) (hd : (x == ("__debug__" : Str)) = false := by decide) : EV prog w A env h (.Name x pos) (LS G zs) := by
  obtain ⟨m, A', F⟩ := H
  obtain ⟨mo, hx, hv, ha, its, hl, hRR⟩ := F x _ hf
  exact fun s Q E k hq => wpAny_Name (wpAny_loadName_local hk hx (A'.ns.keeps k) hv (hq _ s.heap s.toks Ext.rfl' ⟨a, its, rfl, (hl.at fun o e => k _ _ e).isList, hR _ _ hRR⟩)) hd
/-- what a cell holds, for a block inside -/
theorem STA.cellAt (H : STA z env Γ h) (hf : Γ.lookup x = some (.cel P)) : ∃ c v, env.cells.lookup x = some c ∧ h.IsCell c (some v) ∧ P h v := by
  obtain ⟨m, A', F⟩ := H
  obtain ⟨mo, hx, c, v, hc, hv, hP⟩ := F x _ hf
  exact ⟨c, v, hc, hv, mo _ _ _ hide_ext hP⟩
/-- the statements -/
theorem st_assign_loc {hs0 : Heap} {gs0 : Array GenState} {ds0 : Drawn} {ts0 : Nat} {os0 : OsState} {rest : List Stmt} {Q : Flow → Shared → Prop} {E : Value → Shared → Prop} (H : STA z env Γ hs0) (he : EVH prog w A env (z.S env) hs0 e P) (hm : Mono P)
    (hq : ∀ h' tk, STA z env ((x, .loc P) :: Γ) h' → wpAny (model prog w) A (execs rest env) Q E (⟨h', gs0, ds0, tk, os0⟩ : Shared))
    (hx : env.kindOf x = some .local := by rfl) (hs : swapsWith e (some (.Name x px)) pos.line env = pure false := by rfl) (hp : (env.scope.kind == .class || (env.scope.kind == .module && env.locals != env.globals)) = false := by rfl) :
    wpAny (model prog w) A (execs (.Assign [.Name x px] e pos :: rest) env) Q E (⟨hs0, gs0, ds0, ts0, os0⟩ : Shared) := by
  refine wpAny_execs_cons (wpAny_Assign_Name (he (⟨hs0, gs0, ds0, ts0, os0⟩ : Shared) _ E Ext.rfl' fun v h₁ tk k hP => ?_) hs)
  obtain ⟨m, A', F⟩ := H.ext k
  refine wpAny_storeName_local hx A'.ns (fun h₂ hn₂ hs₂ => ?_) hp
  refine hq h₂ _ (STA.loc A' F hn₂ (fun b o hb e => hs₂.extBut b o hb e) hx hm (hm _ _ _ (ext_hide fun b o hb e => hs₂.extBut b o (fun q => hb (q ▸ mem_L)) e) hP))
theorem st_assign_cel {hs0 : Heap} {gs0 : Array GenState} {ds0 : Drawn} {ts0 : Nat} {os0 : OsState} {rest : List Stmt} {Q : Flow → Shared → Prop} {E : Value → Shared → Prop} (H : STA z env Γ hs0) (he : EVH prog w A env (z.S env) hs0 e P) (hm : Mono P)
    (hq : ∀ h' tk, STA z env ((x, .cel P) :: Γ) h' → wpAny (model prog w) A (execs rest env) Q E (⟨h', gs0, ds0, tk, os0⟩ : Shared)) {c : Addr} (hc : env.cells.lookup x = some c)
    (hx : env.kindOf x = some .cell := by rfl) (hs : swapsWith e (some (.Name x px)) pos.line env = pure false := by rfl) (hk : env.scope.kind = .function := by rfl) :
    wpAny (model prog w) A (execs (.Assign [.Name x px] e pos :: rest) env) Q E (⟨hs0, gs0, ds0, ts0, os0⟩ : Shared) := by
  refine wpAny_execs_cons (wpAny_Assign_Name (he (⟨hs0, gs0, ds0, ts0, os0⟩ : Shared) _ E Ext.rfl' fun v h₁ tk k hP => ?_) hs)
  obtain ⟨m, A', F⟩ := H.ext k
  have cm := lookup_mem_map hc
  obtain ⟨pc, hpc, ec⟩ := List.mem_map.mp cm
  obtain ⟨v0, hc0⟩ := A'.cells pc hpc
  rw [ec] at hc0
  refine wpAny_storeName_cell hk hx hc hc0 fun h₂ hv₂ hs₂ => ?_
  refine hq h₂ _ (STA.cel A' F hc hv₂ hs₂ hx hm (hm _ _ _ (ext_hide fun b o hb e => hs₂.extBut b o (fun q => hb (q ▸ mem_c cm)) e) hP))
theorem st_if {hs0 : Heap} {gs0 : Array GenState} {ds0 : Drawn} {ts0 : Nat} {os0 : OsState} {test : Expr} {body orelse rest : List Stmt} {b : Bool} {Q : Flow → Shared → Prop} {E : Value → Shared → Prop} (H : STA z env Γ hs0) (ht : TS prog w A env hs0 test b)
    (hy : b = true → ∀ h' tk, STA z env Γ h' → wpAny (model prog w) A (execs body env) (fun f s' => match f with | .next => wpAny (model prog w) A (execs rest env) Q E s' | f => Q f s') E (⟨h', gs0, ds0, tk, os0⟩ : Shared))
    (hn : b = false → ∀ h' tk, STA z env Γ h' → wpAny (model prog w) A (execs orelse env) (fun f s' => match f with | .next => wpAny (model prog w) A (execs rest env) Q E s' | f => Q f s') E (⟨h', gs0, ds0, tk, os0⟩ : Shared)) :
    wpAny (model prog w) A (execs (.If test body orelse pos :: rest) env) Q E (⟨hs0, gs0, ds0, ts0, os0⟩ : Shared) := by
  refine wpAny_execs_cons (wpAny_If (ht (⟨hs0, gs0, ds0, ts0, os0⟩ : Shared) _ E Ext.rfl' fun h₁ tk k => ?_))
  cases b with
  | true => exact hy rfl h₁ tk (H.ext k)
  | false => exact hn rfl h₁ tk (H.ext k)
theorem st_return {hs0 : Heap} {gs0 : Array GenState} {ds0 : Drawn} {ts0 : Nat} {os0 : OsState} {rest : List Stmt} {Q : Flow → Shared → Prop} {E : Value → Shared → Prop} (H : STA z env Γ hs0) (he : EV prog w A env hs0 e P)
    (hq : ∀ v h' tk, STA z env Γ h' → P h' v → Q (.ret v) (⟨h', gs0, ds0, tk, os0⟩ : Shared)) : wpAny (model prog w) A (execs (.Return (some e) pos :: rest) env) Q E (⟨hs0, gs0, ds0, ts0, os0⟩ : Shared) :=
  wpAny_execs_cons (wpAny_Return_some (he (⟨hs0, gs0, ds0, ts0, os0⟩ : Shared) _ E Ext.rfl' fun v h₁ tk k hP => hq v h₁ tk (H.ext k) hP))
/-- a list of one's own, empty -/
theorem st_new {hs0 : Heap} {gs0 : Array GenState} {ds0 : Drawn} {ts0 : Nat} {os0 : OsState} {rest : List Stmt} {Q : Flow → Shared → Prop} {E : Value → Shared → Prop} {lp : Pos} (H : STA z env Γ hs0)
    (hq : ∀ a h' tk, (∀ b ∈ z.os, b ≠ a) → STA { z with os := a :: z.os } env ((x, .own a fun _ l => l = []) :: Γ) h' → wpAny (model prog w) A (execs rest env) Q E (⟨h', gs0, ds0, tk, os0⟩ : Shared))
    (hx : env.kindOf x = some .local := by rfl) (hs : swapsWith (.List [] lp) (some (.Name x px)) pos.line env = pure false := by rfl) (hp : (env.scope.kind == .class || (env.scope.kind == .module && env.locals != env.globals)) = false := by rfl) :
    wpAny (model prog w) A (execs (.Assign [.Name x px] (.List [] lp) pos :: rest) env) Q E (⟨hs0, gs0, ds0, ts0, os0⟩ : Shared) := by
  refine wpAny_execs_cons (wpAny_Assign_Name ?_ hs)
  rw [arm_eval_List]
  refine wpAny_bind (wpAny_standAt (wpAny_bind (spliced_nil ?_)))
  refine wpAny_newObj_type ?_
  have k : Ext hs0 (hs0.push { cls := .type "list", dict := none, data := .seq ([] : List Value).toArray }) := fun b o e => Heap.get?_push_of_some _ e
  have hD0 : (hs0.push { cls := .type "list", dict := none, data := .seq ([] : List Value).toArray }).get? hs0.objs.size = some { cls := .type "list", dict := none, data := .seq ([] : List Value).toArray } := Heap.get?_push_size _ rfl
  have hlt : ∀ b o, hs0.get? b = some o → b ≠ hs0.objs.size := fun b o e => Nat.ne_of_lt (Heap.lt_size e)
  have Hd := H.dom
  generalize hs0.objs.size = D at hD0 hlt ⊢
  generalize hh1 : hs0.push { cls := .type "list", dict := none, data := .seq ([] : List Value).toArray } = h₁ at k hD0 ⊢
  obtain ⟨m, A', F⟩ := H
  have hDS : D ∉ z.S env := fun hb => by obtain ⟨o, ho⟩ := Hd D hb; exact hlt _ _ ho rfl
  have A1 := A'.ns.keeps k
  refine wpAny_storeName_local hx A1 (fun h₂ hn₂ hs₂ => ?_) hp
  have hDL : D ≠ env.locals := fun q => hDS (q ▸ mem_L)
  have up : ∀ b o, b ≠ env.locals → hs0.get? b = some o → h₂.get? b = some o := fun b o hb e => hs₂.extBut b o hb (k b o e)
  have kh : Ext (z.hid env hs0) (({ z with os := D :: z.os } : Zn).hid env h₂) := fun b o e => by
    have e' := of_hideAll _ e
    have hb : b ∉ z.S env := fun q => by have := hideAll_none (z.S env) (h := hs0) q; rw [show hideAll hs0 (z.S env) = z.hid env hs0 from rfl, e] at this; cases this
    refine hideAll_get _ (up b o (fun q => hb (q ▸ mem_L)) e') fun q => ?_
    rcases List.mem_cons.mp q with q | q
    · exact hb (q ▸ mem_L)
    · rcases List.mem_append.mp q with q | q
      · exact hb (mem_c q)
      · rcases List.mem_append.mp q with q | q
        · rcases List.mem_cons.mp q with q | q
          · exact hlt _ _ e' q
          · exact hb (mem_o q)
        · exact hb (List.mem_cons_of_mem _ (List.mem_append_right _ (List.mem_append_right _ q)))
  have hD : h₂.PlainList D #[] := ⟨_, hs₂.extBut _ _ hDL hD0⟩
  have cne : ∀ c v, hs0.IsCell c v → c ≠ env.locals := fun c v hc => ns_cell_ne A'.ns hc
  have lne : ∀ a its, hs0.PlainList a its → a ≠ env.locals := fun a its hl => ns_list_ne A'.ns hl
  refine hq D h₂ _ (fun b hb q => hDS (q ▸ mem_o hb)) ⟨_, ⟨A'.base.trans kh, hn₂, fun p hp => let ⟨v, c⟩ := A'.cells p hp; ⟨v, let ⟨o, e, d⟩ := c; ⟨o, up _ _ (cne _ _ c) e, d⟩⟩, A'.nodup, fun a ha => ?_, fun p hp => ⟨up _ _ (A'.pind p hp).2.1 (A'.pind p hp).1, (A'.pind p hp).2.1, (A'.pind p hp).2.2.1, fun q => ?_⟩⟩, fun y f hy => ?_⟩
  · rcases List.mem_cons.mp ha with rfl | ha
    · exact ⟨_, hD⟩
    · exact let ⟨its, l⟩ := A'.osd a ha; ⟨its, l.at fun o e => up _ _ (lne _ _ l) e⟩
  · rcases List.mem_cons.mp q with q | q
    · exact hDS (q ▸ mem_p hp)
    · exact (A'.pind p hp).2.2.2 q
  · by_cases q : y = x
    · subst q
      rw [List.lookup_cons_self] at hy
      cases hy
      exact ⟨fun _ _ _ _ h => h, hx, by simp, List.mem_cons_self, #[], hD, rfl⟩
    · rw [List.lookup_cons, beq_false_of_ne q] at hy
      have := F y f hy
      cases f with
      | loc P => obtain ⟨mo, hk, v, hv, hP⟩ := this; exact ⟨mo, hk, v, (if_neg q).trans hv, mo _ _ _ kh hP⟩
      | cel P => obtain ⟨mo, hk, c, v, hc, hcv, hP⟩ := this; exact ⟨mo, hk, c, v, hc, (let ⟨o, e, d⟩ := hcv; ⟨o, up _ _ (cne _ _ hcv) e, d⟩), mo _ _ _ kh hP⟩
      | own a R => obtain ⟨mo, hk, hm, ha, its, hl, hR⟩ := this; exact ⟨mo, hk, (if_neg q).trans hm, List.mem_cons_of_mem _ ha, its, hl.at fun o e => up _ _ (lne _ _ hl) e, mo _ _ _ kh hR⟩
end
end
section
open PySem PySem.W PyProof.Rows PySem.Calls PySem.SeqAt
set_option Elab.async false
set_option linter.unusedVariables false
section
variable {prog : Program} {w : World} {A : Around} {env : Env} {K K' : Heap} {e : Expr} {P P' : VP} {S : List Addr} {z : Zn} {Γ : Ctx'} {h h' : Heap} {m : Str → Option Value} {x : Str} {pos p px : Pos}
theorem st_assign_swap {α β : Type} {elt target iter : Expr} {ifs : List Expr} {scope : Scope} {cl : List (Str × Addr)} {xs : List α} {q : α → Bool} {f : α → β} {G : β → Value → Prop} {hs0 : Heap} {gs0 : Array GenState} {ds0 : Drawn} {ts0 : Nat} {os0 : OsState} {rest : List Stmt} {py spos : Pos} {Q : Flow → Shared → Prop} {E : Value → Shared → Prop} {Rel : Heap → α → Value → Prop} {Bd : α → (Str → Option Value) → Prop}
    (H : STA z env Γ hs0) (hsrc : EV prog w A env hs0 iter (Src A xs Rel)) (hclos : closureFor scope env = pure cl) (ok : ∀ K', Ext hs0 K' → CompOk prog w A env scope cl target ifs elt K' xs (Rel K') q f G Bd)
    (hq : ∀ h' tk, STA z env ((x, .loc (LS G ((xs.filter q).map f))) :: Γ) h' → wpAny (model prog w) A (execs rest env) Q E (⟨h', gs0, ds0, tk, os0⟩ : Shared))
    (hsw : swapsWith (.ListComp elt [⟨target, iter, ifs, 0⟩] scope pos) (some (.Name x py)) spos.line env = pure true := by with_unfolding_all rfl)
    (hcell : ∀ y ∈ scope.names, y.2 ≠ .cell := by decide) (hkind : scope.kind = .function := by rfl) (hnames : ∀ y ∈ scope.names, y.2 = .local → scope.names.lookup y.1 = some .local := by decide)
    (hy : env.kindOf x = some .local := by rfl) (hp : (env.scope.kind == .class || (env.scope.kind == .module && env.locals != env.globals)) = false := by rfl)
    (hs : ∀ x, foldedSetIterable iter env x = pure x := by intro _; rfl) : wpAny (model prog w) A (execs (.Assign [.Name x py] (.ListComp elt [⟨target, iter, ifs, 0⟩] scope pos) spos :: rest) env) Q E (⟨hs0, gs0, ds0, ts0, os0⟩ : Shared) := by
  have Hd := H.dom
  obtain ⟨m, A', F⟩ := H
  refine wpAny_execs_cons (exec_swap Ext.rfl' A'.ns hsrc hclos ok (fun D h₂ tk hn hk hP => ?_) hsw hcell hkind hnames hy hp hs)
  exact hq h₂ tk (STA.loc A' F hn hk hy (mono_LS _ _) (hP _ Hd))
/-- x.append(e) -/
theorem st_append {hs0 : Heap} {gs0 : Array GenState} {ds0 : Drawn} {ts0 : Nat} {os0 : OsState} {rest : List Stmt} {Q : Flow → Shared → Prop} {E : Value → Shared → Prop} {a : Addr} {R R' : Heap → List Value → Prop} {apos np cp : Pos} (H : STA z env Γ hs0) (hf : Γ.lookup x = some (.own a R)) (hoth : ∀ p ∈ Γ, p.1 ≠ x → p.2.notOwn = true)
    (he : EVH prog w A env (z.S env) hs0 e P) (hmP : Mono P) (hm : ∀ h h' l, Ext h h' → R' h l → R' h' l) (hR : ∀ h l v, R h l → P h v → R' h (l ++ [v]) ∧ l.length ≤ 1000000)
    (hq : ∀ h' tk, STA z env ((x, .own a R') :: Γ) h' → wpAny (model prog w) A (execs rest env) Q E (⟨h', gs0, ds0, tk, os0⟩ : Shared))
    (hk : env.scope.kind = .function := by rfl) (hd : (x == ("__debug__" : Str)) = false := by decide)
    (hi : interactive env = false := by rfl) (hs : swapsWith (.Call (.Attribute (.Name x np) "append" apos) [e] [] cp) none pos.line env = pure false := by rfl)
    (hbase : attributeBase (.Name x np) "append" env (eval (.Name x np) env) = eval (.Name x np) env := by with_unfolding_all rfl)
    (hfew : ((backTo cp (starEach [e] env)).all (fun x => !x.1) && (backToKw cp (keywordEach [] env)).all (fun x => x.1.isSome)
      && decide (([e] : List Expr).length + ([] : List Keyword).length + (if ([] : List Keyword).isEmpty then 0 else 1) < 30)) = true := by with_unfolding_all rfl)
    (hline : (apos.endLine == cp.line) = true := by rfl)
    (htrees : backTo cp (starEach [e] env) = [(false, eval e env)] := by with_unfolding_all rfl) :
    wpAny (model prog w) A (execs (.Expr (.Call (.Attribute (.Name x np) "append" apos) [e] [] cp) pos :: rest) env) Q E (⟨hs0, gs0, ds0, ts0, os0⟩ : Shared) := by
  refine wpAny_execs_cons (wpAny_Expr ?_ hi hs)
  refine wpAny_Call_append hbase hfew hline htrees ?_
  have H0 := H
  obtain ⟨m, A', F⟩ := H
  obtain ⟨mo, hx, hv, ha, its, hl, hRR⟩ := F x _ hf
  refine wpAny_Name (wpAny_loadName_local hk hx A'.ns hv ?_) hd
  refine ⟨a, its, rfl, let ⟨n, e⟩ := hl; ⟨_, n, e, rfl, rfl, rfl⟩, ?_⟩
  refine he (⟨hs0, gs0, ds0, ts0, os0⟩ : Shared) _ E Ext.rfl' fun v h₁ tk k hP => ?_
  obtain ⟨m₁, A₁, F₁⟩ := H0.ext k
  obtain ⟨mo₁, hx₁, hv₁, ha₁, its₁, hl₁, hRR₁⟩ := F₁ x _ hf
  have hii : its = its₁ := by
    obtain ⟨n, e⟩ := hl
    obtain ⟨n₁, e₁⟩ := hl₁
    rw [k _ _ e] at e₁
    cases e₁; rfl
  subst hii
  obtain ⟨hR', hlen⟩ := hR _ _ _ hRR₁ hP
  refine wpAny_list_append_plain (hsz := by rw [sizeLine_eq]; simp at hlen; lia) hl₁ fun h₂ hl₂ hs₂ => ?_
  refine hq h₂ _ (STA.app A₁ F₁ hf hoth hl₂ hs₂ hm (hm _ _ _ (ext_hide fun b o hb e => hs₂.extBut b o (fun q => hb (q ▸ mem_o ha)) e) ?_))
  rw [Array.toList_push]
  exact hR'
/-- an own list put away: it turns no more -/
theorem STA.freeze {a : Addr} {R : Heap → List Value → Prop} (H : STA z env Γ h) (hf : Γ.lookup x = some (.own a R)) (hos : z.os = [a]) (hm : ∀ h h' l, Ext h h' → R h l → R h' l) (hoth : ∀ p ∈ Γ, p.1 ≠ x → p.2.notOwn = true) :
    STA { z with os := [] } env ((x, .loc fun h v => ∃ its, v = .ref a ∧ h.IsList a its ∧ R h its.toList) :: Γ) h := by
  obtain ⟨m, A', F⟩ := H
  have hsub : ∀ b, b ∈ ({ z with os := [] } : Zn).S env → b ∈ z.S env := fun b hb => by
    rcases List.mem_cons.mp hb with q | q
    · exact q ▸ mem_L
    · rcases List.mem_append.mp q with q | q
      · exact mem_c q
      · exact List.mem_cons_of_mem _ (List.mem_append_right _ (List.mem_append_right _ q))
  have kh : Ext (z.hid env h) (({ z with os := [] } : Zn).hid env h) := fun b o e => by
    have hb : b ∉ z.S env := fun q => by rw [show (z.hid env h).get? b = none from hideAll_none _ q] at e; cases e
    exact hideAll_get _ (of_hideAll _ e) fun q => hb (hsub b q)
  refine ⟨m, ⟨A'.base.trans kh, A'.ns, A'.cells, A'.nodup, (fun b hb => nomatch hb), fun p hp => ⟨(A'.pind p hp).1, (A'.pind p hp).2.1, (A'.pind p hp).2.2.1, (fun q => nomatch q)⟩⟩, fun y f hy => ?_⟩
  by_cases q : y = x
  · subst q
    rw [List.lookup_cons_self] at hy
    cases hy
    obtain ⟨mo, hk, hv, ha, its, hl, hR⟩ := F y _ hf
    refine ⟨fun h h' v k ⟨its, e, l, r⟩ => ⟨its, e, l.at fun o e => k _ _ e, hm _ _ _ k r⟩, hk, _, hv, its, rfl, ?_, hm _ _ _ kh hR⟩
    obtain ⟨n, e⟩ := hl
    refine ⟨_, hideAll_get _ e fun q => ?_, rfl, n, rfl⟩
    rcases List.mem_cons.mp q with q | q
    · exact ns_list_ne A'.ns ⟨n, e⟩ q
    · rcases List.mem_append.mp q with q | q
      · obtain ⟨p, hp, rfl⟩ := List.mem_map.mp q
        obtain ⟨v, hc⟩ := A'.cells p hp
        exact cell_list_ne hc ⟨n, e⟩ rfl
      · rcases List.mem_append.mp q with q | q
        · cases q
        · obtain ⟨p, hp, rfl⟩ := List.mem_map.mp q
          exact (A'.pind p hp).2.2.2 ha
  · rw [List.lookup_cons, beq_false_of_ne q] at hy
    have := F y f hy
    cases f with
    | loc P => obtain ⟨mo, hk, v, hv, hP⟩ := this; exact ⟨mo, hk, v, hv, mo _ _ _ kh hP⟩
    | cel P => obtain ⟨mo, hk, c, v, hc, hcv, hP⟩ := this; exact ⟨mo, hk, c, v, hc, hcv, mo _ _ _ kh hP⟩
    | own b R => exact absurd (hoth _ (lookup_in hy) q) Bool.false_ne_true
/-- an iterator made and pinned -/
theorem STA.pin {I : Addr} {o : Obj} (H : STA z env Γ h) (hI : h.get? I = none) (hk : Ext h h') (hi : h'.get? I = some o) : STA { g := z.hid env h, pins := (I, o) :: z.pins, os := z.os } env Γ h' := by
  have Hd := H.dom
  obtain ⟨m, A', F⟩ := H
  have hIS : I ∉ z.S env := fun q => by obtain ⟨o, ho⟩ := Hd I q; rw [hI] at ho; cases ho
  have kh : Ext (z.hid env h) (({ g := z.hid env h, pins := (I, o) :: z.pins, os := z.os } : Zn).hid env h') := fun b ob e => by
    have hb : b ∉ z.S env := fun q => by rw [show (z.hid env h).get? b = none from hideAll_none _ q] at e; cases e
    have e' := of_hideAll _ e
    refine hideAll_get _ (hk _ _ e') fun q => ?_
    rcases List.mem_cons.mp q with q | q
    · exact hb (q ▸ mem_L)
    · rcases List.mem_append.mp q with q | q
      · exact hb (mem_c q)
      · rcases List.mem_append.mp q with q | q
        · exact hb (mem_o q)
        · rcases List.mem_cons.mp q with q | q
          · have q' : b = I := q
            rw [q', hI] at e'; cases e'
          · exact hb (List.mem_cons_of_mem _ (List.mem_append_right _ (List.mem_append_right _ q)))
  refine ⟨m, ⟨kh, A'.ns.keeps hk, fun p hp => let ⟨v, c⟩ := A'.cells p hp; ⟨v, c.keeps hk⟩, A'.nodup, fun a ha => let ⟨its, l⟩ := A'.osd a ha; ⟨its, l.at fun o e => hk _ _ e⟩, fun p hp => ?_⟩, fun y f hy => ?_⟩
  · rcases List.mem_cons.mp hp with rfl | hp
    · exact ⟨hi, fun q => hIS (show I ∈ z.S env from (show I = env.locals from q) ▸ mem_L), fun q => hIS (mem_c q), fun q => hIS (mem_o q)⟩
    · exact ⟨hk _ _ (A'.pind p hp).1, (A'.pind p hp).2⟩
  · have := F y f hy
    cases f with
    | loc P => obtain ⟨mo, hk', v, hv, hP⟩ := this; exact ⟨mo, hk', v, hv, mo _ _ _ kh hP⟩
    | cel P => obtain ⟨mo, hk', c, v, hc, hcv, hP⟩ := this; exact ⟨mo, hk', c, v, hc, hcv.keeps hk, mo _ _ _ kh hP⟩
    | own a R => obtain ⟨mo, hk', hm, ha, its, hl, hR⟩ := this; exact ⟨mo, hk', hm, ha, its, hl.at fun o e => hk _ _ e, mo _ _ _ kh hR⟩
/-- the pinned iterator moved -/
theorem STA.step {I : Addr} {o o' : Obj} {g : Heap} {pins : List (Addr × Obj)} {os : List Addr} (H : STA ⟨g, (I, o) :: pins, os⟩ env Γ h) (hpn : ∀ p ∈ pins, p.1 ≠ I) (hk : ∀ b ob, b ≠ I → h.get? b = some ob → h'.get? b = some ob) (hi : h'.get? I = some o') : STA ⟨g, (I, o') :: pins, os⟩ env Γ h' := by
  obtain ⟨m, A', F⟩ := H
  obtain ⟨p1, p2, p3, p4⟩ := A'.pind (I, o) List.mem_cons_self
  have kh : Ext ((⟨g, (I, o) :: pins, os⟩ : Zn).hid env h) ((⟨g, (I, o') :: pins, os⟩ : Zn).hid env h') := ext_hide fun b ob hb e => hk b ob (fun q => hb (q ▸ mem_p (z := ⟨g, (I, o) :: pins, os⟩) (p := (I, o)) List.mem_cons_self)) e
  have cne : ∀ p ∈ env.cells, p.2 ≠ I := fun p hp q => p3 (List.mem_map.mpr ⟨p, hp, q⟩)
  have one : ∀ a ∈ os, a ≠ I := fun a ha q => p4 (show I ∈ os from q ▸ ha)
  have cell' : ∀ c v, c ≠ I → h.IsCell c v → h'.IsCell c v := fun c v hn ⟨ob, e, d⟩ => ⟨ob, hk _ _ hn e, d⟩
  refine ⟨m, ⟨A'.base.trans kh, A'.ns.at' fun ob e => hk _ ob (Ne.symm p2) e, fun p hp => let ⟨v, c⟩ := A'.cells p hp; ⟨v, cell' _ _ (cne p hp) c⟩, A'.nodup, fun a ha => let ⟨its, l⟩ := A'.osd a ha; ⟨its, l.at fun ob e => hk _ _ (one a ha) e⟩, fun p hp => ?_⟩, fun y f hy => ?_⟩
  · rcases List.mem_cons.mp hp with rfl | hp
    · exact ⟨hi, p2, p3, p4⟩
    · exact ⟨hk _ _ (hpn p hp) (A'.pind p (List.mem_cons_of_mem _ hp)).1, (A'.pind p (List.mem_cons_of_mem _ hp)).2⟩
  · have := F y f hy
    cases f with
    | loc P => obtain ⟨mo, hk', v, hv, hP⟩ := this; exact ⟨mo, hk', v, hv, mo _ _ _ kh hP⟩
    | cel P =>
      obtain ⟨mo, hk', c, v, hc, hcv, hP⟩ := this
      obtain ⟨pc, hpc, ec⟩ := List.mem_map.mp (lookup_mem_map hc)
      exact ⟨mo, hk', c, v, hc, cell' _ _ (ec ▸ cne pc hpc) hcv, mo _ _ _ kh hP⟩
    | own a R => obtain ⟨mo, hk', hm, ha, its, hl, hR⟩ := this; exact ⟨mo, hk', hm, ha, its, hl.at fun ob e => hk _ _ (one a ha) e, mo _ _ _ kh hR⟩
/-- the iterator let go -/
theorem STA.unpin {I : Addr} {o : Obj} {g g₀ : Heap} {pins : List (Addr × Obj)} {os : List Addr} (H : STA ⟨g, (I, o) :: pins, os⟩ env Γ h) (hpn : ∀ p ∈ pins, p.1 ≠ I) (hk : ∀ b ob, b ≠ I → h.get? b = some ob → h'.get? b = some ob) (hg : Ext g₀ g) : STA ⟨g₀, pins, os⟩ env Γ h' := by
  obtain ⟨m, A', F⟩ := H
  obtain ⟨p1, p2, p3, p4⟩ := A'.pind (I, o) List.mem_cons_self
  have kh : Ext ((⟨g, (I, o) :: pins, os⟩ : Zn).hid env h) ((⟨g₀, pins, os⟩ : Zn).hid env h') := fun b ob e => by
    have hb : b ∉ (⟨g, (I, o) :: pins, os⟩ : Zn).S env := fun q => by rw [show ((⟨g, (I, o) :: pins, os⟩ : Zn).hid env h).get? b = none from hideAll_none _ q] at e; cases e
    refine hideAll_get _ (hk _ _ (fun q => hb (q ▸ mem_p (z := ⟨g, (I, o) :: pins, os⟩) (p := (I, o)) List.mem_cons_self)) (of_hideAll _ e)) fun q => hb ?_
    rcases List.mem_cons.mp q with q | q
    · exact q ▸ mem_L
    · rcases List.mem_append.mp q with q | q
      · exact mem_c q
      · rcases List.mem_append.mp q with q | q
        · exact mem_o q
        · exact List.mem_cons_of_mem _ (List.mem_append_right _ (List.mem_append_right _ (List.mem_cons_of_mem _ q)))
  have cne : ∀ p ∈ env.cells, p.2 ≠ I := fun p hp q => p3 (List.mem_map.mpr ⟨p, hp, q⟩)
  have one : ∀ a ∈ os, a ≠ I := fun a ha q => p4 (show I ∈ os from q ▸ ha)
  have cell' : ∀ c v, c ≠ I → h.IsCell c v → h'.IsCell c v := fun c v hn ⟨ob, e, d⟩ => ⟨ob, hk _ _ hn e, d⟩
  refine ⟨m, ⟨(hg.trans A'.base).trans kh, A'.ns.at' fun ob e => hk _ ob (Ne.symm p2) e, fun p hp => let ⟨v, c⟩ := A'.cells p hp; ⟨v, cell' _ _ (cne p hp) c⟩, A'.nodup, fun a ha => let ⟨its, l⟩ := A'.osd a ha; ⟨its, l.at fun ob e => hk _ _ (one a ha) e⟩, fun p hp => ⟨hk _ _ (hpn p hp) (A'.pind p (List.mem_cons_of_mem _ hp)).1, (A'.pind p (List.mem_cons_of_mem _ hp)).2⟩⟩, fun y f hy => ?_⟩
  have := F y f hy
  cases f with
  | loc P => obtain ⟨mo, hk', v, hv, hP⟩ := this; exact ⟨mo, hk', v, hv, mo _ _ _ kh hP⟩
  | cel P =>
    obtain ⟨mo, hk', c, v, hc, hcv, hP⟩ := this
    obtain ⟨pc, hpc, ec⟩ := List.mem_map.mp (lookup_mem_map hc)
    exact ⟨mo, hk', c, v, hc, cell' _ _ (ec ▸ cne pc hpc) hcv, mo _ _ _ kh hP⟩
  | own a R => obtain ⟨mo, hk', hm, ha, its, hl, hR⟩ := this; exact ⟨mo, hk', hm, ha, its, hl.at fun ob e => hk _ _ (one a ha) e, mo _ _ _ kh hR⟩
end
end
section
open PySem PySem.W PyProof.Rows PySem.Calls PySem.SeqAt
set_option Elab.async false
set_option linter.unusedVariables false
section
variable {prog : Program} {w : World} {A : Around} {env : Env} {K K' : Heap} {e : Expr} {P P' : VP} {z : Zn} {Γ : Ctx'} {h h' : Heap} {m : Str → Option Value} {x : Str} {pos p px : Pos}
/-- a for's turns, by a context for each -/
inductive FcJ (env : Env) (s : Shared) (K : Heap) (I : Addr) (pins : List (Addr × Obj)) (os : List Addr) (O : Nat → Obj → Prop) (Γi : Nat → Ctx') (n k : Nat) (s' : Shared) : Prop
  | mk (h' : Heap) (tk i : Nat) (o : Obj) (e : s' = { s with heap := h', toks := tk }) (hO : O i o) (H : STA ⟨K, (I, o) :: pins, os⟩ env (Γi i) h') (hi : i ≤ n) (hk : k = n + 1 - i)
theorem for_core {α : Type} {target : Expr} {body orelse : List Stmt} {s : Shared} {R : Result → Shared → Prop} {I : Addr} {n : Nat} {PI : Nat → Value → Prop} {O : Nat → Obj → Prop} {o₀ : Obj} {g₀ K : Heap}
    (W : It prog w A I K n PI O) (ho : O 0 o₀) (hg : Ext g₀ K) {Γi : Nat → Ctx'} {pins : List (Addr × Obj)} {os : List Addr} (H : STA ⟨K, (I, o₀) :: pins, os⟩ env (Γi 0) s.heap) (hpn : ∀ p ∈ pins, p.1 ≠ I)
    (xs : List α) (hn : xs.length = n) (Rel : Heap → α → Value → Prop) (hmono : ∀ h h' y v, Ext h h' → Rel h y v → Rel h' y v) (hP : ∀ i v, i < n → PI i v → ∃ y, xs[i]? = some y ∧ Rel K y v) (Tg : α → Ctx')
    (htgt : (∃ y p, target = .Name y p) ∨ ((∃ elts k p, target = .Tuple elts k p) ∧ ∀ h y v, Rel h y v → ∃ T, v = .ref T))
    (hbind : ∀ y v (z' : Zn) (Γ : Ctx') (s : Shared) (Q : Unit → Shared → Prop) (E : Value → Shared → Prop), STA z' env Γ s.heap → Ext K z'.g → Rel z'.g y v → (∀ h' tk, STA z' env (Tg y ++ Γ) h' → Q () { s with heap := h', toks := tk }) → wpAny (model prog w) A (assign target env v) Q E s)
    (hbody : ∀ i y (z' : Zn) h' tk (E : Value → Shared → Prop), xs[i]? = some y → z'.os = os → Ext K z'.g → STA z' env (Tg y ++ Γi i) h' →
      wpAny (model prog w) A (execs body env) (fun f s' => match f with | .ret v => R (.ok (.ret v)) s' | .brk => R (.ok .next) s' | _ => ∃ h₂ tk₂, s' = { s with heap := h₂, toks := tk₂ } ∧ STA z' env (Γi (i + 1)) h₂) E { s with heap := h', toks := tk })
    (done : ∀ h' tk (E : Value → Shared → Prop), STA ⟨g₀, pins, os⟩ env (Γi n) h' → wpAny (model prog w) A (execs orelse env) (fun f s' => R (.ok f) s') E { s with heap := h', toks := tk }) :
    codeAny (model prog w) A (.forLoop target (.ref I) body orelse env) R s := by
  refine codeAny_forLoop_any (FcJ env s K I pins os O Γi n) ?_ (n + 1) ⟨s.heap, s.toks, 0, o₀, rfl, ho, H, Nat.zero_le _, rfl⟩
  rintro k s' ⟨h', tk, i, o, rfl, hO, H', hi, rfl⟩
  have hIo : h'.get? I = some o := by obtain ⟨m, A', _⟩ := H'; exact (A'.pind (I, o) List.mem_cons_self).1
  have hK : Ext K h' := H'.base
  by_cases hlt : i < n
  · refine W.item i _ _ _ o hlt hK hIo hO fun v h₂ tk₂ o₂ hPv hs₂ hI₂ hO₂ => ?_
    have H₂ : STA ⟨K, (I, o₂) :: pins, os⟩ env (Γi i) h₂ := H'.step hpn (fun b ob hb e => hs₂.extBut b ob hb e) hI₂
    obtain ⟨y, hy, hRel⟩ := hP i v hlt hPv
    have fin : wpAny (model prog w) A (assign target env v) (fun _ s₂ => wpAny (model prog w) A (execs body env) (fun f s₃ => match f with
            | .next | .cont => ∃ m, m < n + 1 - i ∧ FcJ env s K I pins os O Γi n m s₃
            | .brk => R (.ok .next) s₃
            | .ret v => R (.ok (.ret v)) s₃) (notedBy (model prog w) A env fun e s' => R (.error e) s') s₂) (notedBy (model prog w) A env fun e s' => R (.error e) s') { s with heap := h₂, toks := tk₂ } := by
      refine hbind y v _ _ _ _ _ H₂ Ext.rfl' hRel fun h₃ tk₃ H₃ => ?_
      refine wpAny_mono (hbody i y _ h₃ tk₃ (notedBy (model prog w) A env fun e s' => R (.error e) s') hy rfl Ext.rfl' H₃) (fun f s₄ h₄ => ?_) fun _ _ e => e
      cases f with
      | ret v => exact h₄
      | brk => exact h₄
      | cont => obtain ⟨h₅, tk₅, rfl, H₅⟩ := h₄; exact ⟨n + 1 - (i + 1), turn_lt hlt, h₅, tk₅, i + 1, o₂, rfl, hO₂, H₅, hlt, rfl⟩
      | next => obtain ⟨h₅, tk₅, rfl, H₅⟩ := h₄; exact ⟨n + 1 - (i + 1), turn_lt hlt, h₅, tk₅, i + 1, o₂, rfl, hO₂, H₅, hlt, rfl⟩
    rcases htgt with ⟨y', p, rfl⟩ | ⟨⟨elts, k, p, rfl⟩, hT⟩
    · exact wpAny_pure fin
    · obtain ⟨T, rfl⟩ := hT _ _ _ hRel
      exact W.own (i + 1) _ _ _ o₂ elts k p T hI₂ hO₂ fin
  · have hin : i = n := Nat.le_antisymm ‹i ≤ n› (Nat.le_of_not_lt hlt)
    subst hin
    refine W.done _ _ _ o hK hIo hO fun h₂ he₂ => ?_
    exact done h₂ _ _ (H'.unpin hpn he₂ hg)
/-- a for over what is put away, or over a range -/
theorem st_for {α : Type} {target iter : Expr} {body orelse rest : List Stmt} {s : Shared} {Q : Flow → Shared → Prop} {E : Value → Shared → Prop} {Γi : Nat → Ctx'} (H : STA z env Γ s.heap) (hw : ∀ p ∈ Γi 0, Γ.lookup p.1 = some p.2)
    (xs : List α) (Rel : Heap → α → Value → Prop) (hmono : ∀ h h' y v, Ext h h' → Rel h y v → Rel h' y v) (hok : EndOk A z.g)
    (hsrc : (EVH prog w A env (z.S env) s.heap iter fun h v => ∃ ax items, v = .ref ax ∧ h.IsList ax items ∧ Paired (Rel h) xs items.toList) ∨
      (∃ a b c, EV prog w A env s.heap iter (IsRg a b c) ∧ Builtin.Range.small a b c = true ∧ Builtin.Range.rangeSize a b c = (xs.length : Int) ∧ ∀ (i : Nat) y, xs[i]? = some y → ∀ h t, Rel h y (.int (a + (i : Int) * c) t)))
    (Tg : α → Ctx') (htgt : (∃ y p, target = .Name y p) ∨ ((∃ elts k p, target = .Tuple elts k p) ∧ ∀ h y v, Rel h y v → ∃ T, v = .ref T))
    (hbind : ∀ y v (z' : Zn) (Γ : Ctx') (s : Shared) (Q : Unit → Shared → Prop) (E : Value → Shared → Prop), STA z' env Γ s.heap → Ext z.g z'.g → Rel z'.g y v → (∀ h' tk, STA z' env (Tg y ++ Γ) h' → Q () { s with heap := h', toks := tk }) → wpAny (model prog w) A (assign target env v) Q E s)
    (hbody : ∀ i y (z' : Zn) h' tk (E' : Value → Shared → Prop), xs[i]? = some y → z'.os = z.os → Ext z.g z'.g → STA z' env (Tg y ++ Γi i) h' →
      wpAny (model prog w) A (execs body env) (fun f s' => match f with | .ret v => Q (.ret v) s' | .brk => wpAny (model prog w) A (execs rest env) Q E s' | _ => ∃ h₂ tk₂, s' = { s with heap := h₂, toks := tk₂ } ∧ STA z' env (Γi (i + 1)) h₂) E' { s with heap := h', toks := tk })
    (done : ∀ h' tk (E' : Value → Shared → Prop), STA z env (Γi xs.length) h' → wpAny (model prog w) A (execs orelse env) (fun f s' => match f with | .next => wpAny (model prog w) A (execs rest env) Q E s' | f => Q f s') E' { s with heap := h', toks := tk })
    (hs : ∀ x, foldedSetIterable iter env x = pure x := by intro _; rfl) :
    wpAny (model prog w) A (execs (.For target iter body orelse pos :: rest) env) Q E s := by
  refine wpAny_execs_cons (wpAny_For ?_ hs)
  have H0 := H.weak hw
  have core : ∀ {n : Nat} {PI : Nat → Value → Prop} {O : Nat → Obj → Prop} {o₀ : Obj} (h₁ : Heap) tk₁, Ext s.heap h₁ → o₀.isFreed = false → It prog w A h₁.objs.size (z.hid env h₁) n PI O → O 0 o₀ → xs.length = n → (∀ i v, i < n → PI i v → ∃ y, xs[i]? = some y ∧ Rel (z.hid env h₁) y v) →
      codeAny (model prog w) A (.forLoop target (.ref h₁.objs.size) body orelse env) (fun r s' => match r with | .ok f => (match f with | .next => wpAny (model prog w) A (execs rest env) Q E s' | f => Q f s') | .error e => cameBackBy (model prog w) A env E e s') { s with heap := h₁.push o₀, toks := tk₁ } := by
    intro n PI O o₀ h₁ tk₁ k₁ hf W hO hn hP
    have HI := H0.ext k₁
    have hI : h₁.get? h₁.objs.size = none := by
      cases e : h₁.get? h₁.objs.size with
      | none => rfl
      | some o' => exact absurd (Heap.lt_size e) (Nat.lt_irrefl _)
    have Hp := HI.pin hI (fun b o e => Heap.get?_push_of_some o₀ e) (Heap.get?_push_size _ hf)
    have hpn : ∀ p ∈ z.pins, p.1 ≠ h₁.objs.size := fun p hp q => by
      obtain ⟨m, A', _⟩ := HI
      have := (A'.pind p hp).1
      rw [q, hI] at this
      cases this
    have hgK : Ext z.g (z.hid env h₁) := by obtain ⟨m, A', _⟩ := HI; exact A'.base
    refine for_core (s := { s with heap := h₁.push o₀, toks := tk₁ }) (g₀ := z.g) W hO hgK Hp hpn xs hn Rel hmono hP Tg htgt (fun y v z' Γ s' Q' E' HH kz hR hq => hbind y v z' Γ s' Q' E' HH (hgK.trans kz) hR hq) ?_ ?_
    · intro i y z' h' tk E' hy hz' kz HH
      refine wpAny_mono (hbody i y z' h' tk E' hy hz' (hgK.trans kz) HH) (fun f s' hf => ?_) fun _ _ e => e
      cases f <;> exact hf
    · intro h' tk E' HH
      rw [← hn] at HH
      exact done h' tk E' HH
  rcases hsrc with he | ⟨a, b, c, he, hsm, hn, hR⟩
  · refine he s _ E Ext.rfl' fun v h₁ tk₁ k₁ hS => ?_
    obtain ⟨ax, items, rfl, hl, hp⟩ := hS
    refine wpAny_pyIter_list (hl.at fun o e => hide_ext _ _ e) ?_
    have hgK : Ext z.g (z.hid env h₁) := by obtain ⟨m, A', _⟩ := H0.ext k₁; exact A'.base
    have hI : (z.hid env h₁).get? h₁.objs.size = none := by
      cases e : (z.hid env h₁).get? h₁.objs.size with
      | none => rfl
      | some o' => exact absurd (Heap.lt_size (hide_ext _ _ e)) (Nat.lt_irrefl _)
    refine core h₁ tk₁ k₁ rfl (It.list hl hI (hok.ext hgK)) ⟨rfl, rfl⟩ (by have := hp.length; simpa using this) ?_
    intro i v hi hv
    have e1 := hp.length
    have h1 : i < xs.length := by simp at e1; lia
    refine ⟨xs[i], by simp [h1], ?_⟩
    have h3 : Rel (z.hid env h₁) xs[i] items.toList[i] := paired_get hp i h1 (by simpa using hi)
    obtain ⟨_, hv'⟩ := Array.getElem?_eq_some_iff.mp hv
    rw [← hv']
    rwa [Array.getElem_toList] at h3
  · refine he s _ E Ext.rfl' fun v h₁ tk₁ k₁ hS => ?_
    obtain ⟨r, t, u, zz, rfl, hr⟩ := hS
    refine wpAny_pyIter_range hr hsm ?_
    rw [hn]
    have hgK : Ext z.g (z.hid env h₁) := by obtain ⟨m, A', _⟩ := H0.ext k₁; exact A'.base
    refine core (o₀ := { cls := .type "range_iterator", data := .fields #[rawInt a, rawInt xs.length, rawInt c] }) h₁ tk₁ k₁ rfl (It.range a c xs.length (hok.ext hgK)) (by simp) rfl ?_
    rintro i v hi ⟨t, rfl⟩
    exact ⟨xs[i], by simp [hi], hR i _ (by simp [hi]) _ t⟩
end
end
section
open PySem PySem.W PyProof.Rows PySem.Calls PySem.SeqAt
set_option Elab.async false
set_option linter.unusedVariables false
section
variable {prog : Program} {w : World} {A : Around} {env : Env} {K : Heap} {z : Zn} {Γ : Ctx'} {x : Str} {px tp pa pb : Pos}
theorem bind_loc {α : Type} {Rel : Heap → α → Value → Prop} (hmono : ∀ h h' y v, Ext h h' → Rel h y v → Rel h' y v) (g : Heap) (hx : env.kindOf x = some .local) (hp : (env.scope.kind == .class || (env.scope.kind == .module && env.locals != env.globals)) = false) :
    ∀ (y : α) v (z' : Zn) (Γ : Ctx') (s : Shared) (Q : Unit → Shared → Prop) (E : Value → Shared → Prop), STA z' env Γ s.heap → Ext g z'.g → Rel z'.g y v → (∀ h' tk, STA z' env ([(x, Fact.loc fun h v => Rel h y v)] ++ Γ) h' → Q () { s with heap := h', toks := tk }) → wpAny (model prog w) A (assign (.Name x px) env v) Q E s := by
  intro y v z' Γ s Q E H _ hR hq
  obtain ⟨m, A', F⟩ := H
  refine wpAny_assign_Name (wpAny_storeName_local hx A'.ns (fun h₂ hn₂ hs₂ => ?_) hp)
  refine hq h₂ _ (STA.loc A' F hn₂ (fun b o hb e => hs₂.extBut b o hb e) hx (fun h h' v k r => hmono _ _ _ _ k r) ?_)
  exact hmono _ _ _ _ (A'.base.trans (ext_hide fun b o hb e => hs₂.extBut b o (fun q => hb (q ▸ mem_L)) e)) hR
theorem bind_cel {α : Type} {Rel : Heap → α → Value → Prop} (hmono : ∀ h h' y v, Ext h h' → Rel h y v → Rel h' y v) (g : Heap) {c : Addr} (hc : env.cells.lookup x = some c) (hx : env.kindOf x = some .cell) (hk : env.scope.kind = .function) :
    ∀ (y : α) v (z' : Zn) (Γ : Ctx') (s : Shared) (Q : Unit → Shared → Prop) (E : Value → Shared → Prop), STA z' env Γ s.heap → Ext g z'.g → Rel z'.g y v → (∀ h' tk, STA z' env ([(x, Fact.cel fun h v => Rel h y v)] ++ Γ) h' → Q () { s with heap := h', toks := tk }) → wpAny (model prog w) A (assign (.Name x px) env v) Q E s := by
  intro y v z' Γ s Q E H _ hR hq
  obtain ⟨m, A', F⟩ := H
  have cm := lookup_mem_map hc
  obtain ⟨pc, hpc, ec⟩ := List.mem_map.mp cm
  obtain ⟨v0, hc0⟩ := A'.cells pc hpc
  rw [ec] at hc0
  refine wpAny_assign_Name (wpAny_storeName_cell hk hx hc hc0 fun h₂ hv₂ hs₂ => ?_)
  refine hq h₂ s.toks (STA.cel A' F hc hv₂ hs₂ hx (fun h h' v k r => hmono _ _ _ _ k r) ?_)
  exact hmono _ _ _ _ (A'.base.trans (ext_hide fun b o hb e => hs₂.extBut b o (fun q => hb (q ▸ mem_c cm)) e)) hR
/-- a pair on the heap -/
noncomputable def PairR {α : Type} (PA PB : α → Value → Prop) (h : Heap) (y : α) (v : Value) : Prop := ∃ T va vb, v = .ref T ∧ IsTup h T #[va, vb] ∧ PA y va ∧ PB y vb
theorem PairR.mono {α : Type} {PA PB : α → Value → Prop} : ∀ h h' (y : α) v, Ext h h' → PairR PA PB h y v → PairR PA PB h' y v := fun h h' y v k ⟨T, va, vb, e, ⟨o, ho, r⟩, h1, h2⟩ => ⟨T, va, vb, e, ⟨o, k _ _ ho, r⟩, h1, h2⟩
/-- two names, the second a cell, out of a pair -/
theorem bind_pair {α : Type} {PA PB : α → Value → Prop} {a b : Str} {k} {c : Addr} (g : Heap) (hok : EndOk A g) (ha : env.kindOf a = some .local) (hp : (env.scope.kind == .class || (env.scope.kind == .module && env.locals != env.globals)) = false) (hc : env.cells.lookup b = some c) (hb : env.kindOf b = some .cell) (hk : env.scope.kind = .function)
    (h1 : (assignEach [.Name a pa, .Name b pb] env) = [(false, assign (.Name a pa) env), (false, assign (.Name b pb) env)] := by rfl) :
    ∀ (y : α) v (z' : Zn) (Γ : Ctx') (s : Shared) (Q : Unit → Shared → Prop) (E : Value → Shared → Prop), STA z' env Γ s.heap → Ext g z'.g → PairR PA PB z'.g y v → (∀ h' tk, STA z' env ([(b, Fact.cel fun _ v => PB y v), (a, Fact.loc fun _ v => PA y v)] ++ Γ) h' → Q () { s with heap := h', toks := tk }) → wpAny (model prog w) A (assign (.Tuple [.Name a pa, .Name b pb] k tp) env v) Q E s := by
  intro y v z' Γ s Q E H kg hR hq
  obtain ⟨T, va, vb, rfl, ⟨o, ho, r⟩, hA, hB⟩ := hR
  refine unpack_any (hok.ext (kg.trans H.base)) (items := #[va, vb]) ⟨o, H.base _ _ ho, r⟩ (by rw [h1]; rfl) (by rw [h1]; rfl) fun h₁ k₁ => ?_
  rw [h1]
  show wpAny _ A (assignInOrder [assign (.Name a pa) env, assign (.Name b pb) env] [va, vb]) _ _ _
  have H1 := H.ext k₁
  unfold assignInOrder
  refine wpAny_bind (wpAny_holding (bind_loc (Rel := fun _ y v => PA y v) (fun _ _ _ _ _ r => r) z'.g ha hp y va z' Γ _ _ _ H1 Ext.rfl' hA fun h₂ tk₂ H2 => ?_))
  unfold assignInOrder
  refine wpAny_bind (wpAny_holding (bind_cel (Rel := fun _ y v => PB y v) (fun _ _ _ _ _ r => r) z'.g hc hb hk y vb z' _ _ _ _ H2 Ext.rfl' hB fun h₃ tk₃ H3 => ?_))
  unfold assignInOrder
  exact wpAny_pure (hq _ _ H3)
end
end
section
open PySem PySem.W PyProof.Rows PySem.Calls PySem.SeqAt
set_option Elab.async false
set_option linter.unusedVariables false
section
variable {α β : Type} {prog : Program} {w : World} {A : Around} {env : Env} {scope : Scope} {cl : List (Str × Addr)} {K : Heap} {elt c : Expr} {xs : List α} {q : α → Bool} {f : α → β} {G : β → Value → Prop} {x a b : Str} {px tp pa pb : Pos}
/-- the tests of a block -/
noncomputable def TSL (prog : Program) (w : World) (A : Around) (env : Env) (K : Heap) (ifs : List Expr) (b : Bool) : Prop := ∀ (s : Shared) (Q : Bool → Shared → Prop) (E : Value → Shared → Prop), Ext K s.heap → (∀ h' tk, Ext s.heap h' → Q b { s with heap := h', toks := tk }) → wpAny (model prog w) A (testsOf ifs env) Q E s
theorem TSL_nil : TSL prog w A env K [] true := fun s Q E k hq => wpAny_tests_nil (hq s.heap s.toks Ext.rfl')
theorem TSL_one {d : Bool} (h : TS prog w A env K c d) : TSL prog w A env K [c] d := fun s Q E k hq => wpAny_tests_one (h s Q E k hq)
theorem CompOk.name {ifs : List Expr} {Rel : α → Value → Prop} (hx : scope.names.lookup x = some .local) (hk : scope.kind = .function)
    (test : ∀ C y v K' m, y ∈ xs → Ext K K' → K'.Ns C m → m x = some v → Rel y v → TSL prog w A (compEnvC scope cl C env) K' ifs (q y))
    (el : ∀ C y v K' m, y ∈ xs → q y = true → Ext K K' → K'.Ns C m → m x = some v → Rel y v → EV prog w A (compEnvC scope cl C env) K' elt (fun _ v => G (f y) v)) :
    CompOk prog w A env scope cl (.Name x px) ifs elt K xs Rel q f G (fun y m => ∃ v, m x = some v ∧ Rel y v) where
  tgt := .inl ⟨_, _, rfl⟩
  bind := fun C y v s m Q E hR k hn hq => wpAny_assign_Name (wpAny_storeName_local (lookup_relabel_local hx) hn (fun h' hn' hs => hq h' _ _ hn' ⟨v, by simp, hR⟩ fun b o hb e => hs.extBut b o hb e) (by simp [compEnvC, relabel, hk]))
  test := fun C y K' m hy k hn ⟨v, hv, hR⟩ s Q E k' hq => test C y v K' m hy k hn hv hR s Q E k' hq
  elt := fun C y K' m hy hqy k hn ⟨v, hv, hR⟩ => el C y v K' m hy hqy k hn hv hR
theorem CompOk.pair {ifs : List Expr} {k} {PA PB : α → Value → Prop} (hok : EndOk A K) (ha : scope.names.lookup a = some .local) (hb : scope.names.lookup b = some .local) (hab : a ≠ b) (hk : scope.kind = .function)
    (test : ∀ C y va vb K' m, y ∈ xs → Ext K K' → K'.Ns C m → m a = some va → m b = some vb → PA y va → PB y vb → TSL prog w A (compEnvC scope cl C env) K' ifs (q y))
    (el : ∀ C y va vb K' m, y ∈ xs → q y = true → Ext K K' → K'.Ns C m → m a = some va → m b = some vb → PA y va → PB y vb → EV prog w A (compEnvC scope cl C env) K' elt (fun _ v => G (f y) v)) :
    CompOk prog w A env scope cl (.Tuple [.Name a pa, .Name b pb] k tp) ifs elt K xs (PairR PA PB K) q f G (fun y m => ∃ va vb, m a = some va ∧ m b = some vb ∧ PA y va ∧ PB y vb) where
  tgt := .inr ⟨⟨_, _, _, rfl⟩, fun y v ⟨T, va, vb, e, _⟩ => ⟨T, e⟩⟩
  bind := fun C y v s m Q E hR kk hn hq => by
    obtain ⟨T, va, vb, rfl, ⟨o, ho, r⟩, hA, hB⟩ := hR
    refine unpack_any (hok.ext kk) (items := #[va, vb]) ⟨o, kk _ _ ho, r⟩ rfl rfl fun h₁ k₁ => ?_
    show wpAny _ A (assignInOrder [assign (.Name a pa) (compEnvC scope cl C env), assign (.Name b pb) (compEnvC scope cl C env)] [va, vb]) _ _ _
    unfold assignInOrder
    refine wpAny_bind (wpAny_holding (wpAny_assign_Name (wpAny_storeName_local (lookup_relabel_local ha) (hn.keeps k₁) (fun h₂ hn₂ hs₂ => ?_) (by simp [compEnvC, relabel, hk]))))
    unfold assignInOrder
    refine wpAny_bind (wpAny_holding (wpAny_assign_Name (wpAny_storeName_local (lookup_relabel_local hb) hn₂ (fun h₃ hn₃ hs₃ => ?_) (by simp [compEnvC, relabel, hk]))))
    unfold assignInOrder
    exact wpAny_pure (hq h₃ _ _ hn₃ ⟨va, vb, by simp [hab], by simp, hA, hB⟩ fun d o hd e => hs₃.extBut d o hd (hs₂.extBut d o hd (k₁ _ _ e)))
  test := fun C y K' m hy k hn ⟨va, vb, h1, h2, hA, hB⟩ s Q E k' hq => test C y va vb K' m hy k hn h1 h2 hA hB s Q E k' hq
  elt := fun C y K' m hy hqy k hn ⟨va, vb, h1, h2, hA, hB⟩ => el C y va vb K' m hy hqy k hn h1 h2 hA hB
/-- sources -/
theorem Src.of_list {α : Type} {A : Around} {xs : List α} {Rel : Heap → α → Value → Prop} {h : Heap} {v : Value} (hok : EndOk A h) (hz : xs.length ≤ 1000000) (H : ∃ ax items, v = .ref ax ∧ h.IsList ax items ∧ Paired (Rel h) xs items.toList) : Src A xs Rel h v := by
  obtain ⟨ax, items, e, hl, hp⟩ := H
  refine .inl ⟨ax, items, e, hl, ?_, hok, hp⟩
  have := hp.length
  rw [sizeLine_eq]
  simp at this
  lia
theorem EV.src {β : Type} {e : Expr} {G : β → Value → Prop} {zs : List β} (h : EV prog w A env K e (LS G zs)) (hok : EndOk A K) (hz : zs.length ≤ 1000000) : EV prog w A env K e (Src A zs fun _ => G) :=
  fun s Q E k hq => h s Q E k fun v h' tk k' hp => hq v h' tk k' (Src.of_list (hok.ext (k.trans k')) hz hp)
theorem EV.src_range {e : Expr} {xs : List α} {Rel : Heap → α → Value → Prop} {a b c : Int} (h : EV prog w A env K e (IsRg a b c)) (hok : EndOk A K) (hsm : Builtin.Range.small a b c = true) (hn : Builtin.Range.rangeSize a b c = (xs.length : Int)) (hz : xs.length ≤ 1000000)
    (hR : ∀ (i : Nat) y, xs[i]? = some y → ∀ h t, Rel h y (.int (a + (i : Int) * c) t)) : EV prog w A env K e (Src A xs Rel) := fun s Q E k hq => h s Q E k fun v h' tk k' hp => by
  obtain ⟨r, t, u, z, rfl, hr⟩ := hp
  exact hq _ h' tk k' (.inr ⟨r, a, b, c, t, u, z, xs.length, rfl, hr, hsm, hn, by rw [sizeLine_eq]; lia, hok.ext (k.trans k'), rfl, fun i x hx t => hR i x hx _ t⟩)
end
end
section
open PySem PySem.W PyProof.Rows PySem.Calls PySem.SeqAt
set_option Elab.async false
set_option linter.unusedVariables false
/-- the state at a def's first line -/
noncomputable def zin (env : Env) (h : Heap) : Zn := ⟨hideAll h (env.locals :: (env.cells.map (·.2) ++ (([] : List Addr) ++ ([] : List (Addr × Obj)).map (·.1)))), [], []⟩
section
variable {env : Env} {g h₁ h' : Heap} {m cm : Str → Option Value} {news cells : List (Addr × Obj)} {Γ : Ctx'} {z : Zn} {x : Str}
theorem cells_of {cs : List (Str × Addr)} {cells : List (Addr × Obj)} (Y : CellsAre cm cs cells) : ∀ p ∈ cs, ∃ o v, (p.2, o) ∈ cells ∧ o.data = .cell v := by
  induction Y with
  | nil => intro p hp; cases hp
  | cons hd _ ih =>
    intro p hp
    rcases List.mem_cons.mp hp with rfl | hp
    · exact ⟨_, _, List.mem_cons_self, hd⟩
    · obtain ⟨o, v, h1, h2⟩ := ih p hp
      exact ⟨o, v, List.mem_cons_of_mem _ h1, h2⟩
theorem STA.enter (F : Fr g env.locals h₁ m) (N : News g env.locals h₁ (cells ++ news)) (Y : CellsAre cm env.cells cells) (hnd : (env.cells.map (·.2)).Nodup)
    (hΓ : ∀ x f, Γ.lookup x = some f → ∃ P v, f = .loc P ∧ Mono P ∧ env.kindOf x = some .local ∧ m x = some v ∧ P (zin env h₁).g v) : STA (zin env h₁) env Γ h₁ := by
  refine ⟨m, ⟨Ext.rfl', F.ns, fun p hp => ?_, hnd, (fun a ha => nomatch ha), (fun p hp => nomatch hp)⟩, fun x f hx => ?_⟩
  · obtain ⟨o, v, h1, h2⟩ := cells_of Y p hp
    exact ⟨v, o, (N _ (List.mem_append_left _ h1)).1, h2⟩
  · obtain ⟨P, v, rfl, hm, hk, hv, hP⟩ := hΓ x f hx
    exact ⟨hm, hk, v, hv, hP⟩
theorem g_in (F : Fr g env.locals h₁ m) (N : News g env.locals h₁ (cells ++ news)) (Y : CellsAre cm env.cells cells) : Ext g (zin env h₁).g := fun b o e => by
  refine hideAll_get _ (F.keep b o e) fun q => ?_
  rcases List.mem_cons.mp q with q | q
  · exact absurd (Nat.lt_of_lt_of_le (Heap.lt_size e) F.above) (by rw [q]; exact Nat.lt_irrefl _)
  · rcases List.mem_append.mp q with q | q
    · obtain ⟨p, hp, rfl⟩ := List.mem_map.mp q
      obtain ⟨o', v, h1, h2⟩ := cells_of Y p hp
      have := (N _ (List.mem_append_left _ h1)).2.2
      rw [this] at e; cases e
    · cases q
theorem news_in (N : News g env.locals h₁ (cells ++ news)) (hdis : ∀ p ∈ news, p.1 ∉ env.cells.map (·.2)) : ∀ p ∈ news, (zin env h₁).g.get? p.1 = some p.2 := fun p hp => by
  refine hideAll_get _ (N p (List.mem_append_right _ hp)).1 fun q => ?_
  rcases List.mem_cons.mp q with q | q
  · exact (N p (List.mem_append_right _ hp)).2.1 q
  · rcases List.mem_append.mp q with q | q
    · exact hdis p hp q
    · cases q
theorem STA.leave (H : STA z env Γ h') (hz : z.g = (zin env h₁).g) (F : Fr g env.locals h₁ m) (N : News g env.locals h₁ (cells ++ news)) (Y : CellsAre cm env.cells cells) (hdis : ∀ p ∈ news, p.1 ∉ env.cells.map (·.2)) :
    ∃ m', Fr g env.locals h' m' ∧ News g env.locals h' news := by
  have hb := H.base
  rw [hz] at hb
  obtain ⟨m', A', _⟩ := H
  exact ⟨m', ⟨A'.ns, fun b o e => hb b o (g_in F N Y b o e), F.above⟩, fun p hp => ⟨hb _ _ (news_in N hdis p hp), (N p (List.mem_append_right _ hp)).2⟩⟩
theorem STA.leave_own {a : Addr} {R : Heap → List Value → Prop} (H : STA z env Γ h') (hf : Γ.lookup x = some (.own a R)) (hz : z.g = (zin env h₁).g) (F : Fr g env.locals h₁ m) (N : News g env.locals h₁ (cells ++ news)) (Y : CellsAre cm env.cells cells) (hdis : ∀ p ∈ news, p.1 ∉ env.cells.map (·.2)) :
    ∃ m' its n, Fr g env.locals h' m' ∧ News g env.locals h' ((a, listOf its n) :: news) ∧ (∀ p ∈ news, p.1 ≠ a) ∧ R h' its.toList := by
  obtain ⟨m', F', N'⟩ := H.leave hz F N Y hdis
  have H0 := H
  obtain ⟨m2, A', FF⟩ := H
  obtain ⟨mo, hk, hv, ha, its, ⟨n, hl⟩, hR⟩ := FF x _ hf
  have hzn : z.g.get? a = none := by
    cases q : z.g.get? a with
    | none => rfl
    | some o =>
      have := A'.base _ _ q
      rw [show (z.hid env h').get? a = none from hideAll_none _ (mem_o ha)] at this
      cases this
  refine ⟨m', its, n, F', fun p hp => ?_, fun p hp q => ?_, mo _ _ _ hide_ext hR⟩
  · rcases List.mem_cons.mp hp with rfl | hp
    · refine ⟨hl, ns_list_ne A'.ns ⟨n, hl⟩, ?_⟩
      cases q : g.get? a with
      | none => rfl
      | some o =>
        have := g_in F N Y _ _ q
        rw [← hz, hzn] at this
        cases this
    · exact N' p hp
  · have := news_in N hdis p hp
    rw [q, ← hz, hzn] at this
    cases this
end
/-- a contract whose end may speak of the heap -/
noncomputable abbrev SpG (w : World) (mean : ExcName → Option Value) (mg mb : Str → Option Value) (hdl : Option Value) (f : Addr) (room : Nat) (news : List (Addr × Obj)) (vs : List Value) (kw : List (Str × Value)) (Pre : Heap → Prop)
    (Ret : Heap → Value → List (Addr × Obj) → Prop) : Prop :=
  ∀ (dp un : Nat) (gd : Option (List Code)) (env : Env) (outer : List Env) (A₀ : Around) (base h₀ : Heap) (L : Addr) (m : Str → Option Value) (s : Shared) (Q E : Value → Shared → Prop),
    env.frame = some L → env.scope.kind = .function → Below A₀ base outer h₀ → KtsDicts (outer.filterMap (·.frame)) h₀ → Fr h₀ L s.heap m → (hd.heap_1 w.params).In h₀ → News h₀ L s.heap news → Top vw LO mean mg mb h₀ → Pre h₀ →
    dp + room < recursionLimit → un + 8 * room < cLine →
    (∀ v news' h' tk', Ret h' v news' → Fr h₀ L h' m → News h₀ L h' news' → Q v { s with heap := h', toks := tk' }) →
    wpAny (model PySem.Challenge.rw_qh0045_01.row.prog w) (topM hdl dp un gd env outer) (call (.ref f) vs kw) Q E s
end
section
open PySem PySem.W PyProof.Rows PySem.Calls PySem.SeqAt
set_option Elab.async false
set_option linter.unusedVariables false
section
variable {prog : Program} {w : World} {A : Around} {E : Value → Shared → Prop} {R : Result → Shared → Prop} {s : Shared}
theorem compTurn_two0 (elt t0 i0 t1 i1 : Expr) (f0 f1 : List Expr) (scope : Scope) (pos : Pos) (it acc : Value) (env : Env) :
    compTurn (.ListComp elt [⟨t0, i0, f0, 0⟩, ⟨t1, i1, f1, 0⟩] scope pos) 0 it acc env = (do
      standAt i0.pos
      match ← pyNext it with
      | none => pure (.done .next)
      | some v =>
        letOwnedTupleGo t0 it v
        assign t0 env v
        let mut ok := true
        for c in f0 do
          if ok then ok ← isTrue c env (eval c env)
        if ok then
          let x ← eval i1 env
          standAt i1.pos
          let x ← foldedSetIterable i1 env x
          let _ ← runOwn (.compStart (.ListComp elt [⟨t0, i0, f0, 0⟩, ⟨t1, i1, f1, 0⟩] scope pos) 1 (← holding [x] (pyIter x)) acc env) env
        again (.compLoop (.ListComp elt [⟨t0, i0, f0, 0⟩, ⟨t1, i1, f1, 0⟩] scope pos) 0 it acc env)) := by rfl
theorem compTurn_two1 (elt t0 i0 t1 i1 : Expr) (f0 f1 : List Expr) (scope : Scope) (pos : Pos) (it acc : Value) (env : Env) :
    compTurn (.ListComp elt [⟨t0, i0, f0, 0⟩, ⟨t1, i1, f1, 0⟩] scope pos) 1 it acc env = (do
      standAt i1.pos
      match ← pyNext it with
      | none => pure (.done .next)
      | some v =>
        letOwnedTupleGo t1 it v
        assign t1 env v
        let mut ok := true
        for c in f1 do
          if ok then ok ← isTrue c env (eval c env)
        if ok then
          (do let _ ← call (.builtin "list.append") [acc, ← eval elt env])
        again (.compLoop (.ListComp elt [⟨t0, i0, f0, 0⟩, ⟨t1, i1, f1, 0⟩] scope pos) 1 it acc env)) := by rfl
theorem two_turns1 {elt t0 i0 t1 i1 : Expr} {f0 f1 : List Expr} {scope : Scope} {pos : Pos} {it acc : Value} {env : Env} (I : Nat → Shared → Prop)
    (turn : ∀ n s, I n s → ∀ N : Value → Shared → Prop, wpAny (model prog w) A (pyNext it) (fun r s₁ => match r with
      | none => R (.ok .next) s₁
      | some v => wpAny (model prog w) A (letOwnedTupleGo t1 it v) (fun _ s₁' => wpAny (model prog w) A (assign t1 env v) (fun _ s₂ =>
          wpAny (model prog w) A (testsOf f1 env) (fun ok s₃ =>
            if ok = true then wpAny (model prog w) A (eval elt env) (fun x s₄ =>
              wpAny (model prog w) A (call (.builtin "list.append") [acc, x]) (fun _ s₅ => ∃ m, m < n ∧ I m s₅) N s₄) N s₃
            else ∃ m, m < n ∧ I m s₃) N s₂) N s₁') N s₁) N s)
    (n : Nat) (h : I n s) :
    codeAny (model prog w) A (.compLoop (.ListComp elt [⟨t0, i0, f0, 0⟩, ⟨t1, i1, f1, 0⟩] scope pos) 1 it acc env) R s := by
  refine codeAny_loop rfl I (fun n s hI => ?_) n h
  show wpAny _ A ((compTurn (.ListComp elt [⟨t0, i0, f0, 0⟩, ⟨t1, i1, f1, 0⟩] scope pos) 1 it acc env).onRaise (fun x => do noteFrame x env; theTreesLotGoes x)) _ _ s
  refine wpAny_noted ?_
  rw [compTurn_two1]
  refine wpAny_bind (wpAny_standAt (wpAny_bind (wpAny_mono (turn n s hI _) (fun r s₁ h₁ => ?_) fun _ _ h' => h')))
  cases r with
  | none => exact wpAny_pure h₁
  | some v =>
    refine wpAny_bind (wpAny_mono h₁ (fun _ s₁' h₁' => ?_) fun _ _ h' => h')
    refine wpAny_bind (wpAny_mono h₁' (fun _ s₂ h₂ => wpAny_bind (wpAny_mono h₂ (fun ok s₃ h₃ => ?_) fun _ _ h' => h')) fun _ _ h' => h')
    cases ok with
    | false => exact wpAny_pure ⟨rfl, h₃⟩
    | true =>
      exact wpAny_bind (wpAny_bind (wpAny_mono h₃ (fun x s₄ h₄ => wpAny_bind (wpAny_mono h₄ (fun _ s₅ h₅ => wpAny_pure (wpAny_pure ⟨rfl, h₅⟩)) fun _ _ h' => h')) fun _ _ h' => h'))
theorem two_start1 {elt t0 i0 t1 i1 : Expr} {f0 f1 : List Expr} {scope : Scope} {pos : Pos} {it acc : Value} {env : Env}
    (h0 : codeAny (model prog w) A (.compLoop (.ListComp elt [⟨t0, i0, f0, 0⟩, ⟨t1, i1, f1, 0⟩] scope pos) 1 it acc env) R s)
    (h : ∀ N, wpAny (model prog w) A (pyIter it) (fun it' s' => codeAny (model prog w) A (.compLoop (.ListComp elt [⟨t0, i0, f0, 0⟩, ⟨t1, i1, f1, 0⟩] scope pos) 1 it' acc env) R s') N s) :
    codeAny (model prog w) A (.compStart (.ListComp elt [⟨t0, i0, f0, 0⟩, ⟨t1, i1, f1, 0⟩] scope pos) 1 it acc env) R s := by
  refine codeAny_of_tree ?_
  show wpAny _ _ ((compStart (.ListComp elt [⟨t0, i0, f0, 0⟩, ⟨t1, i1, f1, 0⟩] scope pos) 1 it acc env).onRaise (fun x => do noteFrame x env; standAt theWindowsPlace)) _ _ s
  refine wpAny_notedAt ?_
  unfold compStart
  show wpAny _ _ (ask >>= _) _ _ s
  refine wpAny_bind (wpAny_askSetting (wpAny_ite ?_))
  split
  · first
      | exact wpAny_bind (wpAny_pure (wpAny_pure (And.intro rfl h0)))
      | exact wpAny_pure (And.intro rfl h0)
  · refine wpAny_bind (wpAny_rule ?_)
    show wpAny _ _ (standAt i1.pos >>= _) _ _ s
    exact wpAny_bind (wpAny_standAt (wpAny_bind (wpAny_mono (h _) (fun it' s' h' => wpAny_pure (And.intro rfl h')) fun _ _ x => x)))
theorem two_turns0 {elt t0 i0 t1 i1 : Expr} {f0 f1 : List Expr} {scope : Scope} {pos : Pos} {it acc : Value} {env : Env} (I : Nat → Shared → Prop) (hs : ∀ x, foldedSetIterable i1 env x = pure x)
    (turn : ∀ n s, I n s → ∀ N : Value → Shared → Prop, wpAny (model prog w) A (pyNext it) (fun r s₁ => match r with
      | none => R (.ok .next) s₁
      | some v => wpAny (model prog w) A (letOwnedTupleGo t0 it v) (fun _ s₁' => wpAny (model prog w) A (assign t0 env v) (fun _ s₂ =>
          wpAny (model prog w) A (testsOf f0 env) (fun ok s₃ =>
            if ok = true then wpAny (model prog w) A (eval i1 env) (fun x s₄ => wpAny (model prog w) A (pyIter x) (fun it' s₅ =>
              codeAny (model prog w) A (.compStart (.ListComp elt [⟨t0, i0, f0, 0⟩, ⟨t1, i1, f1, 0⟩] scope pos) 1 it' acc env) (fun r s₆ => match r with | .ok _ => ∃ m, m < n ∧ I m s₆ | .error e => False) s₅) N s₄) N s₃
            else ∃ m, m < n ∧ I m s₃) N s₂) N s₁') N s₁) N s)
    (n : Nat) (h : I n s) :
    codeAny (model prog w) A (.compLoop (.ListComp elt [⟨t0, i0, f0, 0⟩, ⟨t1, i1, f1, 0⟩] scope pos) 0 it acc env) R s := by
  refine codeAny_loop rfl I (fun n s hI => ?_) n h
  show wpAny _ A ((compTurn (.ListComp elt [⟨t0, i0, f0, 0⟩, ⟨t1, i1, f1, 0⟩] scope pos) 0 it acc env).onRaise (fun x => do noteFrame x env; theTreesLotGoes x)) _ _ s
  refine wpAny_noted ?_
  rw [compTurn_two0]
  refine wpAny_bind (wpAny_standAt (wpAny_bind (wpAny_mono (turn n s hI _) (fun r s₁ h₁ => ?_) fun _ _ h' => h')))
  cases r with
  | none => exact wpAny_pure h₁
  | some v =>
    refine wpAny_bind (wpAny_mono h₁ (fun _ s₁' h₁' => ?_) fun _ _ h' => h')
    refine wpAny_bind (wpAny_mono h₁' (fun _ s₂ h₂ => wpAny_bind (wpAny_mono h₂ (fun ok s₃ h₃ => ?_) fun _ _ h' => h')) fun _ _ h' => h')
    cases ok with
    | false => exact wpAny_pure ⟨rfl, h₃⟩
    | true =>
      refine wpAny_bind (wpAny_mono h₃ (fun x s₄ h₄ => ?_) fun _ _ h' => h')
      refine wpAny_bind (wpAny_standAt (wpAny_bind (wpAny_of_eq (hs x) ?_)))
      refine wpAny_bind (wpAny_holding (wpAny_mono h₄ (fun it' s₅ h₅ => ?_) fun _ _ h' => h'))
      refine wpAny_bind (wpAny_runOwn (codeAny_mono h₅ fun r s₆ h₆ => ?_))
      cases r with
      | ok f => exact wpAny_pure ⟨rfl, h₆⟩
      | error e => exact h₆.elim
end
end
section
open PySem PySem.W PyProof.Rows PySem.Calls PySem.SeqAt
set_option Elab.async false
set_option linter.unusedVariables false
section
variable {prog : Program} {w : World} {A : Around} {R : Result → Shared → Prop} {s : Shared} {α β γ : Type}
inductive InJ {β γ : Type} (s : Shared) (J C D : Addr) (O : Nat → Obj → Prop) (a0 : Array Value) (G : β → Value → Prop) (f : γ → β) (ys : List γ) (B : (Str → Option Value) → Prop) (n k : Nat) (s' : Shared) : Prop
  | mk (h' : Heap) (tk i : Nat) (m' : Str → Option Value) (a1 : Array Value) (zs : List Value) (o : Obj) (e : s' = { s with heap := h', toks := tk }) (hJ : h'.get? J = some o) (hO : O i o) (hl : h'.PlainList D a1) (ha : a1.toList = a0.toList ++ zs) (hp : Paired G ((ys.take i).map f) zs) (hn : h'.Ns C m') (hB : B m') (hi : i ≤ n) (hk : k = n + 1 - i)
    (hs : ∀ b o, b ≠ J → b ≠ C → b ≠ D → s.heap.get? b = some o → h'.get? b = some o)
theorem inner_loop {elt t0 i0 i1 : Expr} {f0 : List Expr} {scope : Scope} {cl : List (Str × Addr)} {pos p1 : Pos} {env : Env} {y0 : Str} {J C D : Addr} {K : Heap} {n : Nat} {PI : Nat → Value → Prop} {O : Nat → Obj → Prop} {o₀ : Obj}
    (W : It prog w A J K n PI O) (hK : Ext K s.heap) (hJ : s.heap.get? J = some o₀) (hO : O 0 o₀) (hKJ : K.get? J = none) (ys : List γ) (hn : ys.length = n) (Rel : γ → Value → Prop) (hP : ∀ i v, i < n → PI i v → ∃ y, ys[i]? = some y ∧ Rel y v)
    (hDC : D ≠ C) (hJC : J ≠ C) (hJD : J ≠ D) (hKC : ∀ b o, K.get? b = some o → b ≠ C ∧ b ≠ D) {a0 : Array Value} {m0 : Str → Option Value} (acc : s.heap.PlainList D a0) (hns : s.heap.Ns C m0) (B : (Str → Option Value) → Prop) (hB0 : B m0) (hBs : ∀ m v, B m → B (fun z => if z = y0 then some v else m z))
    (hx : scope.names.lookup y0 = some .local) (hk : scope.kind = .function) {G : β → Value → Prop} {f : γ → β} (hz : a0.size + n ≤ sizeLine)
    (el : ∀ y v K' m, y ∈ ys → Ext K K' → K'.Ns C m → B m → m y0 = some v → Rel y v → EV prog w A (compEnvC scope cl C env) K' elt (fun _ v => G (f y) v))
    (hR : ∀ h' tk m' (a1 : Array Value) zs, h'.Ns C m' → B m' → h'.PlainList D a1 → a1.toList = a0.toList ++ zs → Paired G (ys.map f) zs → (∀ b o, b ≠ J → b ≠ C → b ≠ D → s.heap.get? b = some o → h'.get? b = some o) → R (.ok .next) { s with heap := h', toks := tk }) :
    codeAny (model prog w) A (.compLoop (.ListComp elt [⟨t0, i0, f0, 0⟩, ⟨.Name y0 p1, i1, [], 0⟩] scope pos) 1 (.ref J) (.ref D) (compEnvC scope cl C env)) R s := by
  refine two_turns1 (InJ s J C D O a0 G f ys B n) ?_ (n + 1) ⟨s.heap, s.toks, 0, m0, a0, [], o₀, rfl, hJ, hO, acc, by simp, by simpa using Paired.nil, hns, hB0, Nat.zero_le _, rfl, fun _ _ _ _ _ e => e⟩
  rintro k s' ⟨h', tk, i, m', a1, zs, o, rfl, hJo, hO', hacc, ha1, hp, hn', hB', hi, rfl, hk'⟩ N
  have KJ : ∀ b o, K.get? b = some o → b ≠ J := fun b o e q => by rw [q, hKJ] at e; cases e
  have hKh : Ext K h' := fun b o e => hk' b o (KJ b o e) (hKC b o e).1 (hKC b o e).2 (hK b o e)
  by_cases hlt : i < n
  · refine W.item i _ _ _ o hlt hKh hJo hO' fun v h₂ tk₂ o₂ hPv hs₂ hJ₂ hO₂ => ?_
    obtain ⟨y, hy, hRel⟩ := hP i v hlt hPv
    refine wpAny_pure ?_
    refine wpAny_assign_Name (wpAny_storeName_local (lookup_relabel_local hx) (hn'.sameBut hs₂ hJC.symm) (fun h₃ hn₃ hs₃ => ?_) (by simp [compEnvC, relabel, hk]))
    refine wpAny_tests_nil ?_
    simp only [if_true]
    have hK₃ : Ext K h₃ := fun b o e => hs₃.extBut b o (hKC b o e).1 (hs₂.extBut b o (KJ b o e) (hKh b o e))
    refine el y v h₃ _ (List.mem_of_getElem? hy) hK₃ hn₃ (hBs _ _ hB') (by simp) hRel _ _ _ Ext.rfl' fun u h₄ tk₄ k₄ hG => ?_
    have up₄ : ∀ b o, b ≠ J → b ≠ C → h'.get? b = some o → h₄.get? b = some o := fun b o h1 h2 e => k₄ b o (hs₃.extBut b o h2 (hs₂.extBut b o h1 e))
    have hacc₄ : h₄.PlainList D a1 := hacc.at fun o e => up₄ D o hJD.symm hDC e
    have hsz : a1.size ≤ sizeLine := by
      have e1 := hp.length
      have e2 := congrArg List.length ha1
      simp [List.length_append] at e1 e2
      lia
    refine wpAny_list_append_plain (hsz := hsz) hacc₄ fun h₅ hl₅ hs₅ => ?_
    refine ⟨n + 1 - (i + 1), turn_lt hlt, h₅, tk₄, i + 1, _, a1.push u, zs ++ [u], o₂, rfl, hs₅.extBut _ _ hJD (k₄ _ _ (hs₃.extBut _ _ hJC hJ₂)), hO₂, hl₅, by rw [Array.toList_push, ha1, List.append_assoc], ?_, (hn₃.keeps k₄).sameBut hs₅ hDC.symm, hBs _ _ hB', hlt, rfl, fun b o h1 h2 h3 e => hs₅.extBut b o h3 (up₄ b o h1 h2 (hk' b o h1 h2 h3 e))⟩
    rw [List.take_add_one, hy, List.map_append]
    exact Paired.snoc hp hG
  · have hin : i = n := Nat.le_antisymm ‹i ≤ n› (Nat.le_of_not_lt hlt)
    subst hin
    refine W.done _ _ _ o hKh hJo hO' fun h₂ he₂ => ?_
    rw [List.take_of_length_le (by lia)] at hp
    exact hR h₂ tk m' a1 zs (hn'.at' fun o e => he₂ _ o hJC.symm e) hB' (hacc.at fun o e => he₂ _ o hJD.symm e) ha1 hp fun b o h1 h2 h3 e => he₂ b o h1 (hk' b o h1 h2 h3 e)
end
section
variable {prog : Program} {w : World} {A : Around} {s : Shared} {α β γ : Type}
/-- two clauses, the second over a range by a name -/
inductive C2J {α β γ : Type} (s : Shared) (h₁ : Heap) (I C D ax : Addr) (xs : List α) (q : α → Bool) (ys : α → List γ) (f : α → γ → β) (G : β → Value → Prop) (n k : Nat) (s' : Shared) : Prop
  | mk (h' : Heap) (tk i : Nat) (m' : Str → Option Value) (a1 : Array Value) (o : Obj) (e : s' = { s with heap := h', toks := tk }) (hI : h'.get? I = some o) (hO : o.cls = .type "list_iterator" ∧ o.data = .fields #[.ref ax, .int i 0]) (hl : h'.PlainList D a1) (hp : Paired G (((xs.take i).filter q).flatMap fun x => (ys x).map (f x)) a1.toList) (hn : h'.Ns C m') (hi : i ≤ n) (hk : k = n + 1 - i) (hx : Ext h₁ h')
theorem EVF_comp2 {elt elt0 t0 i0 i1 : Expr} {f0 : List Expr} {scope : Scope} {cl : List (Str × Addr)} {pos p1 : Pos} {env : Env} {y0 : Str} {K : Heap} {xs : List α} {Rel : Heap → α → Value → Prop} {q : α → Bool} {ys : α → List γ} {f : α → γ → β} {G : β → Value → Prop} {Rel1 : α → γ → Value → Prop} {Bd : α → (Str → Option Value) → Prop}
    (hok : EndOk A K)
    (hsrc : EV prog w A env K i0 (fun h v => ∃ ax items, v = .ref ax ∧ h.IsList ax items ∧ Paired (Rel h) xs items.toList)) (hclos : closureFor scope env = pure cl)
    (ok : ∀ K', Ext K K' → CompOk prog w A env scope cl t0 f0 elt0 K' xs (Rel K') q (fun _ => ()) (fun _ _ => True) Bd)
    (hin : ∀ C x K' m, x ∈ xs → q x = true → Ext K K' → K'.Ns C m → Bd x m → ∃ a b c, EV prog w A (compEnvC scope cl C env) K' i1 (IsRg a b c) ∧ Builtin.Range.small a b c = true ∧ Builtin.Range.rangeSize a b c = ((ys x).length : Int) ∧ ∀ (i : Nat) y, (ys x)[i]? = some y → ∀ t, Rel1 x y (.int (a + (i : Int) * c) t))
    (hBs : ∀ x m v, Bd x m → Bd x (fun z => if z = y0 then some v else m z)) (hx : scope.names.lookup y0 = some .local)
    (el : ∀ C x y v K' m, x ∈ xs → y ∈ ys x → Ext K K' → K'.Ns C m → Bd x m → m y0 = some v → Rel1 x y v → EV prog w A (compEnvC scope cl C env) K' elt (fun _ v => G (f x y) v))
    (hz : ((xs.filter q).flatMap fun x => (ys x).map (f x)).length ≤ 1000000)
    (hcell : ∀ y ∈ scope.names, y.2 ≠ .cell := by decide) (hkind : scope.kind = .function := by rfl) (hnames : ∀ y ∈ scope.names, y.2 = .local → scope.names.lookup y.1 = some .local := by decide)
    (hs : ∀ x, foldedSetIterable i0 env x = pure x := by intro _; rfl) (hs1 : ∀ C x, foldedSetIterable i1 (compEnvC scope cl C env) x = pure x := by intro _ _; rfl) :
    EVF prog w A env K (.ListComp elt [⟨t0, i0, f0, 0⟩, ⟨.Name y0 p1, i1, [], 0⟩] scope pos) (LS G ((xs.filter q).flatMap fun x => (ys x).map (f x))) := fun s Q E k hq => by
  rw [eval_ListComp]
  refine wpAny_comprehension_free (use := none) rfl hs hclos hkind hnames (hsrc s _ E k fun v h₁ tk₁ k₁ hS => ?_)
  obtain ⟨ax, items, rfl, hl, hpr⟩ := hS
  refine wpAny_pyIter_list hl ?_
  refine wpAny_newObj_type (wpAny_newFunctionEnv hcell (by intro y hy; simp at hy) (fun h₂ hns₂ hsb₂ => ?_) hkind)
  dsimp only at hns₂ hsb₂ ⊢
  generalize hII : h₁.objs.size = I at *
  generalize hH1 : h₁.push { cls := .type "list_iterator", data := .fields #[.ref ax, .int 0 0] } = H1 at hns₂ hsb₂ ⊢
  have hDs : H1.objs.size = I + 1 := by rw [← hH1, Heap.size_push, hII]
  generalize hH2 : H1.push { cls := .type "list", dict := none, data := .seq ([] : List Value).toArray } = H2 at hns₂ hsb₂ ⊢
  have hCs : H2.objs.size = I + 2 := by rw [← hH2, Heap.size_push, hDs]
  generalize hDD : H1.objs.size = D at *
  generalize hCC : H2.objs.size = C at *
  have hDI : D ≠ I := by rw [hDs]; exact Nat.succ_ne_self _
  have hDC : D ≠ C := by rw [hDs, hCs]; exact Nat.ne_of_lt (Nat.lt_succ_self _)
  have hIC : I ≠ C := by rw [hCs]; exact Nat.ne_of_lt (Nat.lt_succ_of_lt (Nat.lt_succ_self _))
  have below : ∀ b o, h₁.get? b = some o → b ≠ I ∧ b ≠ D ∧ b ≠ C := fun b o e => by
    have hb := Heap.lt_size e
    rw [hII] at hb
    exact ⟨Nat.ne_of_lt hb, by rw [hDs]; exact Nat.ne_of_lt (Nat.lt_succ_of_lt hb), by rw [hCs]; exact Nat.ne_of_lt (Nat.lt_succ_of_lt (Nat.lt_succ_of_lt hb))⟩
  have fresh : ∀ a, I ≤ a → h₁.get? a = none := fun a ha => by
    cases e : h₁.get? a with
    | none => rfl
    | some o' => exact absurd (hII ▸ Heap.lt_size e) (Nat.not_lt.mpr ha)
  have hI0 := fresh I (Nat.le_refl _)
  have hD0 := fresh D (by rw [hDs]; exact Nat.le_succ _)
  have hC0 := fresh C (by rw [hCs]; exact Nat.le_succ_of_le (Nat.le_succ _))
  have old : Ext h₁ h₂ := fun b o e => hsb₂.extBut b o (below b o e).2.2 (Heap.get?_push_of_some _ (hH2 ▸ Heap.get?_push_of_some _ (hH1 ▸ Heap.get?_push_of_some _ e)))
  have hit1 : H1.get? I = some { cls := .type "list_iterator", data := .fields #[.ref ax, .int 0 0] } := by rw [← hH1, ← hII]; exact Heap.get?_push_size _ rfl
  have hit : h₂.get? I = some { cls := .type "list_iterator", data := .fields #[.ref ax, .int 0 0] } := hsb₂.extBut _ _ hIC (Heap.get?_push_of_some _ (hH2 ▸ Heap.get?_push_of_some _ hit1))
  have hacc0 : H2.get? D = some { cls := .type "list", dict := none, data := .seq ([] : List Value).toArray } := by
    rw [← hH2, ← hDD]; exact Heap.get?_push_size _ rfl
  have hacc : h₂.PlainList D #[] := ⟨_, hsb₂.extBut _ _ hDC (Heap.get?_push_of_some _ hacc0)⟩
  have hokK := hok.ext (k.trans k₁)
  have OK := ok h₁ (k.trans k₁)
  have W := It.list (prog := prog) (w := w) (I := I) hl hI0 hokK
  have hlen : xs.length = items.size := by have := hpr.length; simpa using this
  have loop : ∀ s₃ : Shared, s₃ = { s with heap := h₂, toks := tk₁ + ([] : List (Str × Value)).length } →
      codeAny (model prog w) A (.compLoop (.ListComp elt [⟨t0, i0, f0, 0⟩, ⟨.Name y0 p1, i1, [], 0⟩] scope pos) 0 (.ref I) (.ref D) (compEnvC scope cl C env)) (compPost (model prog w) A E none Q (.ref D) C) s₃ := by
    rintro s₃ rfl
    refine two_turns0 (C2J s h₁ I C D ax xs q ys f G items.size) (hs1 C) ?_ (items.size + 1)
      (⟨h₂, _, 0, _, #[], _, rfl, hit, ⟨rfl, rfl⟩, hacc, by simpa using Paired.nil, hns₂, Nat.zero_le _, rfl, old⟩)
    rintro k' s' ⟨h', tk, i, m', a1, o, rfl, hIo, hO', ha, hp, hn', hi, rfl, hk'⟩ N
    by_cases hlt : i < items.size
    · refine W.item i _ _ _ o hlt hk' hIo hO' fun v h₃ tk₃ o₃ hPv hs₃ hI₃ hO₃ => ?_
      have hix : i < xs.length := by lia
      have hRel : Rel h₁ xs[i] v := by
        have h3 : Rel h₁ xs[i] items.toList[i] := paired_get hpr i hix (by simpa using hlt)
        obtain ⟨_, hv'⟩ := Array.getElem?_eq_some_iff.mp hPv
        rw [← hv']
        rwa [Array.getElem_toList] at h3
      have hmem : xs[i] ∈ xs := List.getElem_mem hix
      have hK₃ : Ext h₁ h₃ := fun b o e => hs₃.extBut b o (below b o e).1 (hk' b o e)
      have go : wpAny (model prog w) A (assign t0 (compEnvC scope cl C env) v) (fun _ s₂ => wpAny (model prog w) A (testsOf f0 (compEnvC scope cl C env)) (fun ok s₃ =>
            if ok = true then wpAny (model prog w) A (eval i1 (compEnvC scope cl C env)) (fun x s₄ => wpAny (model prog w) A (pyIter x) (fun it' s₅ =>
              codeAny (model prog w) A (.compStart (.ListComp elt [⟨t0, i0, f0, 0⟩, ⟨.Name y0 p1, i1, [], 0⟩] scope pos) 1 it' (.ref D) (compEnvC scope cl C env)) (fun r s₆ => match r with | .ok _ => ∃ m, m < items.size + 1 - i ∧ C2J s h₁ I C D ax xs q ys f G items.size m s₆ | .error e => False) s₅) N s₄) N s₃
            else ∃ m, m < items.size + 1 - i ∧ C2J s h₁ I C D ax xs q ys f G items.size m s₃) N s₂) N { s with heap := h₃, toks := tk₃ } := by
        refine OK.bind C xs[i] v { s with heap := h₃, toks := tk₃ } m' _ _ hRel hK₃ (hn'.sameBut hs₃ hIC.symm) fun h₄ tk₄ m₄ hn₄ hB₄ hs₄ => ?_
        have hK₄ : Ext h₁ h₄ := fun b o e => hs₄ b o (below b o e).2.2 (hK₃ b o e)
        refine OK.test C xs[i] h₄ m₄ hmem hK₄ hn₄ hB₄ _ _ _ Ext.rfl' fun h₅ tk₅ k₅ => ?_
        have up₅ : ∀ b o, b ≠ I → b ≠ C → h'.get? b = some o → h₅.get? b = some o := fun b o h1 h2 e => k₅ b o (hs₄ b o h2 (hs₃.extBut b o h1 e))
        have hI₅ : h₅.get? I = some o₃ := k₅ _ _ (hs₄ _ _ hIC hI₃)
        have ha₅ : h₅.PlainList D a1 := ha.at fun o e => up₅ D o hDI hDC e
        have hn₅ := hn₄.keeps k₅
        have hK₅ : Ext h₁ h₅ := hK₄.trans k₅
        have hxi : xs[i]? = some xs[i] := by simp [hix]
        cases hqx : q xs[i] with
        | false =>
          simp only [Bool.false_eq_true, if_false]
          refine ⟨items.size + 1 - (i + 1), turn_lt hlt, h₅, tk₅, i + 1, m₄, a1, o₃, rfl, hI₅, hO₃, ha₅, ?_, hn₅, hlt, rfl, hK₅⟩
          rw [take_succ_filter q xs i _ hxi, hqx]; simpa using hp
        | true =>
          simp only [if_true]
          obtain ⟨ra, rb, rc, hev, hsm, hsz, hR1⟩ := hin C xs[i] h₅ m₄ hmem hqx ((k.trans k₁).trans hK₅) hn₅ hB₄
          refine hev _ _ _ Ext.rfl' fun u h₆ tk₆ k₆ hrg => ?_
          obtain ⟨r, t1, t2, t3, rfl, hr⟩ := hrg
          refine wpAny_pyIter_range hr hsm ?_
          rw [hsz]
          have hJ0 : h₆.get? h₆.objs.size = none := by
            cases e : h₆.get? h₆.objs.size with
            | none => rfl
            | some o' => exact absurd (Heap.lt_size e) (Nat.lt_irrefl _)
          have hIl : h₆.get? I = some o₃ := k₆ _ _ hI₅
          obtain ⟨_, hDl⟩ := ha₅
          have hDl' := k₆ _ _ hDl
          obtain ⟨oC, esC, epC, hCl, hCr⟩ := hn₅.keeps k₆
          have kp : Ext h₆ (h₆.push { cls := .type "range_iterator", data := .fields #[rawInt ra, rawInt ((ys xs[i]).length : Int), rawInt rc] }) := fun b o e => Heap.get?_push_of_some _ e
          have inner : codeAny (model prog w) A (.compLoop (.ListComp elt [⟨t0, i0, f0, 0⟩, ⟨.Name y0 p1, i1, [], 0⟩] scope pos) 1 (.ref h₆.objs.size) (.ref D) (compEnvC scope cl C env)) (fun r s₆ => match r with | .ok _ => ∃ m, m < items.size + 1 - i ∧ C2J s h₁ I C D ax xs q ys f G items.size m s₆ | .error e => False)
              { s with heap := h₆.push { cls := .type "range_iterator", data := .fields #[rawInt ra, rawInt ((ys xs[i]).length : Int), rawInt rc] }, toks := tk₆ } := by
            refine inner_loop (s := { s with heap := h₆.push _, toks := tk₆ }) (J := h₆.objs.size) (K := h₁) (ys := ys xs[i]) (o₀ := { cls := .type "range_iterator", data := .fields #[rawInt ra, rawInt ((ys xs[i]).length : Int), rawInt rc] }) (It.range ra rc (ys xs[i]).length hokK) ((hK₅.trans k₆).trans kp) (Heap.get?_push_size _ rfl) (by simp) ?_ rfl (Rel1 xs[i]) ?_ hDC ?_ ?_ (fun b o e => ⟨(below b o e).2.2, (below b o e).2.1⟩) ⟨_, kp _ _ hDl'⟩ (⟨oC, esC, epC, kp _ _ hCl, hCr⟩ : Heap.Ns _ C m₄) (Bd xs[i]) hB₄ (fun m v hb => hBs _ _ _ hb) hx hkind ?_ (G := G) (f := f xs[i]) ?_ ?_
            · cases e : h₁.get? h₆.objs.size with
              | none => rfl
              | some o' => have := (hK₅.trans k₆) _ _ e; rw [hJ0] at this; cases this
            · rintro j v hj ⟨t, rfl⟩
              exact ⟨(ys xs[i])[j], by simp [hj], hR1 j _ (by simp [hj]) t⟩
            · exact fun q => Nat.lt_irrefl _ (q ▸ Heap.lt_size hCl)
            · exact fun q => Nat.lt_irrefl _ (q ▸ Heap.lt_size hDl')
            · have e1 := hp.length
              have e2 : (((xs.take (i + 1)).filter q).flatMap fun x => (ys x).map (f x)).length ≤ ((xs.filter q).flatMap fun x => (ys x).map (f x)).length := by
                conv => rhs; rw [← List.take_append_drop (i + 1) xs, List.filter_append, List.flatMap_append, List.length_append]
                exact Nat.le_add_right _ _
              rw [take_succ_filter q xs i _ hxi, hqx, List.flatMap_append, List.length_append] at e2
              simp at e1 e2
              rw [sizeLine_eq]
              simp at hz
              lia
            · intro y v K' m hy kK hn hB hv hRl
              exact el C xs[i] y v K' m hmem hy ((k.trans k₁).trans kK) hn hB hv hRl
            · intro h₇ tk₇ m₇ a₂ zs hn₇ hB₇ hl₇ ha₂ hpz hk₇
              have kI : ∀ b o, b ≠ C → b ≠ D → h₆.get? b = some o → h₇.get? b = some o := fun b o h1 h2 e => hk₇ b o (Nat.ne_of_lt (Heap.lt_size e)) h1 h2 (kp _ _ e)
              refine ⟨items.size + 1 - (i + 1), turn_lt hlt, h₇, tk₇, i + 1, m₇, a₂, o₃, rfl, kI _ _ hIC hDI.symm hIl, hO₃, hl₇, ?_, hn₇, hlt, rfl, fun b o e => kI b o (below b o e).2.2 (below b o e).2.1 (k₆ _ _ (hK₅ b o e))⟩
              rw [take_succ_filter q xs i _ hxi, hqx, List.flatMap_append, ha₂]
              refine Paired.append hp ?_
              simpa using hpz
          exact two_start1 inner fun N' => wpAny_pyIter_rangeiter (Heap.get?_push_size _ rfl) inner
      rcases OK.tgt with ⟨y, p, rfl⟩ | ⟨⟨elts, kk, p, rfl⟩, hT⟩
      · exact wpAny_pure go
      · obtain ⟨T, rfl⟩ := hT _ _ hRel
        exact W.own (i + 1) _ _ _ o₃ elts kk p T hI₃ hO₃ go
    · have hin' : i = items.size := by lia
      subst hin'
      refine W.done _ _ _ o hk' hIo hO' fun h₃ he₃ => ?_
      rw [List.take_of_length_le (by lia)] at hp
      refine ⟨m', hn'.at' fun o e => he₃ _ o hIC.symm e, fun h'' hs'' => hq (.ref D) h'' tk (fun b o e => hs''.extBut b o (below b o (k₁ _ _ e)).2.2 (he₃ b o (below b o (k₁ _ _ e)).1 (hk' _ _ (k₁ b o e)))) fun S hS => ?_⟩
      exact ⟨D, a1, rfl, fresh_hide (h := h₁) (fun b hb => by obtain ⟨o, ho⟩ := hS b hb; exact ⟨o, k₁ _ _ ho⟩) hD0 ((ha.at fun o e => he₃ _ o hDI e).extBut hs''.extBut hDC), hp⟩
  exact codeAny_compStart_list (loop _ rfl) (wpAny_pyIter_listiter (i := 0) ⟨_, hit, rfl, rfl⟩ (loop _ rfl))
end
end
section
open PySem PySem.W PyProof.Rows PySem.Calls PySem.SeqAt
set_option Elab.async false
set_option linter.unusedVariables false
section
variable {prog : Program} {w : World} {A : Around} {env : Env} {K K' : Heap} {e e₁ e₂ test : Expr} {P P' P₁ : VP} {S : List Addr} {z : Zn} {Γ : Ctx'} {h h' : Heap} {m : Str → Option Value} {x : Str} {pos p px : Pos}
theorem EVH_ite {b : Bool} (ht : TS prog w A env K test b) (h1 : b = true → EVH prog w A env S K e₁ P) (h2 : b = false → EVH prog w A env S K e₂ P) : EVH prog w A env S K (.IfExp test e₁ e₂ pos) P := fun s Q E k hq => by
  refine IfExp_ (ht s _ E k fun h₁ tk k₁ => ?_)
  cases b with
  | true => exact h1 rfl _ Q E (k.trans k₁) fun v h' tk' k₂ hp => hq v h' tk' (k₁.trans k₂) hp
  | false => exact h2 rfl _ Q E (k.trans k₁) fun v h' tk' k₂ hp => hq v h' tk' (k₁.trans k₂) hp
theorem body_start {body : List Stmt} {Q : Flow → Shared → Prop} {E : Value → Shared → Prop} {s : Shared} (Γ : Ctx') (H : STA (zin env s.heap) env Γ s.heap) (k : STA (zin env s.heap) env Γ s.heap → wpAny (model prog w) A (execs body env) Q E s) : wpAny (model prog w) A (execs body env) Q E s := k H
theorem body_startC {body : List Stmt} {Q : Flow → Shared → Prop} {E : Value → Shared → Prop} {s : Shared} {g : Heap} {m cm : Str → Option Value} {cells news : List (Addr × Obj)} (Γ : Ctx') (F : Fr g env.locals s.heap m) (N : News g env.locals s.heap (cells ++ news)) (Y : CellsAre cm env.cells cells)
    (hnd : (env.cells.map (·.2)).Nodup) (hdis : ∀ p ∈ news, p.1 ∉ env.cells.map (·.2))
    (hΓ : (∀ p ∈ news, (zin env s.heap).g.get? p.1 = some p.2) → Ext g (zin env s.heap).g → ∀ x f, Γ.lookup x = some f → ∃ P v, f = .loc P ∧ Mono P ∧ env.kindOf x = some .local ∧ m x = some v ∧ P (zin env s.heap).g v)
    (k : ∀ (A' : Around) (E' : Value → Shared → Prop) (z : Zn), A'.handled = A.handled → A'.units = A.units → z.os = [] → z.pins = [] → STA z env Γ s.heap → Ext g z.g → (∀ p ∈ news, z.g.get? p.1 = some p.2) →
      (∀ z' Γ' h', STA z' env Γ' h' → z'.g = z.g → ∃ m', Fr g env.locals h' m' ∧ News g env.locals h' news) →
      (∀ z' Γ' h' x a R, STA z' env Γ' h' → z'.g = z.g → Γ'.lookup x = some (.own a R) → ∃ m' its n, Fr g env.locals h' m' ∧ News g env.locals h' ((a, listOf its n) :: news) ∧ (∀ p ∈ news, p.1 ≠ a) ∧ R h' its.toList) → wpAny (model prog w) A' (execs body env) Q E' s) :
    wpAny (model prog w) A (execs body env) Q E s :=
  k A E (zin env s.heap) rfl rfl rfl rfl (STA.enter F N Y hnd (hΓ (news_in N hdis) (g_in F N Y))) (g_in F N Y) (news_in N hdis) (fun z' Γ' h' H hz => H.leave hz F N Y hdis) fun z' Γ' h' x a R H hz hf => H.leave_own hf hz F N Y hdis
/-- x = [e] -/
theorem st_new1 {hs0 : Heap} {gs0 : Array GenState} {ds0 : Drawn} {ts0 : Nat} {os0 : OsState} {rest : List Stmt} {Q : Flow → Shared → Prop} {E : Value → Shared → Prop} {lp : Pos} (H : STA z env Γ hs0) (he : EVH prog w A env (z.S env) hs0 e P) (hmP : Mono P)
    (hq : ∀ a h' tk, (∀ b ∈ z.os, b ≠ a) → STA { z with os := a :: z.os } env ((x, .own a fun h l => ∃ v, l = [v] ∧ P h v) :: Γ) h' → wpAny (model prog w) A (execs rest env) Q E (⟨h', gs0, ds0, tk, os0⟩ : Shared))
    (hx : env.kindOf x = some .local := by rfl) (hs : swapsWith (.List [e] lp) (some (.Name x px)) pos.line env = pure false := by rfl) (hp : (env.scope.kind == .class || (env.scope.kind == .module && env.locals != env.globals)) = false := by rfl)
    (htr : backTo lp (starEach [e] env) = [(false, eval e env)] := by with_unfolding_all rfl) :
    wpAny (model prog w) A (execs (.Assign [.Name x px] (.List [e] lp) pos :: rest) env) Q E (⟨hs0, gs0, ds0, ts0, os0⟩ : Shared) := by
  refine wpAny_execs_cons (wpAny_Assign_Name ?_ hs)
  rw [arm_eval_List, htr]
  refine wpAny_bind (wpAny_standAt (wpAny_bind (spliced_cons (he (⟨hs0, gs0, ds0, ts0, os0⟩ : Shared) _ E Ext.rfl' fun v h₁ tk₁ k₁ hP => spliced_nil ?_))))
  refine wpAny_newObj_type ?_
  have H1 := H.ext k₁
  have k : Ext h₁ (h₁.push { cls := .type "list", dict := none, data := .seq ([v] : List Value).toArray }) := fun b o e => Heap.get?_push_of_some _ e
  have hD0 : (h₁.push { cls := .type "list", dict := none, data := .seq ([v] : List Value).toArray }).get? h₁.objs.size = some { cls := .type "list", dict := none, data := .seq ([v] : List Value).toArray } := Heap.get?_push_size _ rfl
  have hlt : ∀ b o, h₁.get? b = some o → b ≠ h₁.objs.size := fun b o e => Nat.ne_of_lt (Heap.lt_size e)
  have Hd := H1.dom
  dsimp only
  generalize h₁.objs.size = D at hD0 hlt ⊢
  generalize hh1 : h₁.push { cls := .type "list", dict := none, data := .seq ([v] : List Value).toArray } = h₂ at k hD0 ⊢
  obtain ⟨m, A', F⟩ := H1
  have hDS : D ∉ z.S env := fun hb => by obtain ⟨o, ho⟩ := Hd D hb; exact hlt _ _ ho rfl
  have A1 := A'.ns.keeps k
  refine wpAny_storeName_local hx A1 (fun h₃ hn₃ hs₃ => ?_) hp
  have hDL : D ≠ env.locals := fun q => hDS (q ▸ mem_L)
  have up : ∀ b o, b ≠ env.locals → h₁.get? b = some o → h₃.get? b = some o := fun b o hb e => hs₃.extBut b o hb (k b o e)
  have kh : Ext (z.hid env h₁) (({ z with os := D :: z.os } : Zn).hid env h₃) := fun b o e => by
    have e' := of_hideAll _ e
    have hb : b ∉ z.S env := fun q => by rw [show (z.hid env h₁).get? b = none from hideAll_none _ q] at e; cases e
    refine hideAll_get _ (up b o (fun q => hb (q ▸ mem_L)) e') fun q => ?_
    rcases List.mem_cons.mp q with q | q
    · exact hb (q ▸ mem_L)
    · rcases List.mem_append.mp q with q | q
      · exact hb (mem_c q)
      · rcases List.mem_append.mp q with q | q
        · rcases List.mem_cons.mp q with q | q
          · exact hlt _ _ e' q
          · exact hb (mem_o q)
        · exact hb (List.mem_cons_of_mem _ (List.mem_append_right _ (List.mem_append_right _ q)))
  have hD : h₃.PlainList D [v].toArray := ⟨_, hs₃.extBut _ _ hDL hD0⟩
  have cne : ∀ c v, h₁.IsCell c v → c ≠ env.locals := fun c v hc => ns_cell_ne A'.ns hc
  have lne : ∀ a its, h₁.PlainList a its → a ≠ env.locals := fun a its hl => ns_list_ne A'.ns hl
  refine hq D h₃ _ (fun b hb q => hDS (q ▸ mem_o hb)) ⟨_, ⟨A'.base.trans kh, hn₃, fun p hp => let ⟨v, c⟩ := A'.cells p hp; ⟨v, let ⟨o, e, d⟩ := c; ⟨o, up _ _ (cne _ _ c) e, d⟩⟩, A'.nodup, fun a ha => ?_, fun p hp => ⟨up _ _ (A'.pind p hp).2.1 (A'.pind p hp).1, (A'.pind p hp).2.1, (A'.pind p hp).2.2.1, fun q => ?_⟩⟩, fun y f hy => ?_⟩
  · rcases List.mem_cons.mp ha with rfl | ha
    · exact ⟨_, hD⟩
    · exact let ⟨its, l⟩ := A'.osd a ha; ⟨its, l.at fun o e => up _ _ (lne _ _ l) e⟩
  · rcases List.mem_cons.mp q with q | q
    · exact hDS (q ▸ mem_p hp)
    · exact (A'.pind p hp).2.2.2 q
  · by_cases q : y = x
    · subst q
      rw [List.lookup_cons_self] at hy
      cases hy
      exact ⟨fun _ _ _ k ⟨v, e, h⟩ => ⟨v, e, hmP _ _ _ k h⟩, hx, by simp, List.mem_cons_self, _, hD, v, rfl, hmP _ _ _ kh hP⟩
    · rw [List.lookup_cons, beq_false_of_ne q] at hy
      have := F y f hy
      cases f with
      | loc P => obtain ⟨mo, hk, v, hv, hP⟩ := this; exact ⟨mo, hk, v, (if_neg q).trans hv, mo _ _ _ kh hP⟩
      | cel P => obtain ⟨mo, hk, c, v, hc, hcv, hP⟩ := this; exact ⟨mo, hk, c, v, hc, (let ⟨o, e, d⟩ := hcv; ⟨o, up _ _ (cne _ _ hcv) e, d⟩), mo _ _ _ kh hP⟩
      | own a R => obtain ⟨mo, hk, hm, ha, its, hl, hR⟩ := this; exact ⟨mo, hk, (if_neg q).trans hm, List.mem_cons_of_mem _ ha, its, hl.at fun o e => up _ _ (lne _ _ hl) e, mo _ _ _ kh hR⟩
theorem GB.up {v : Value} (h : GB K env x v) (k : Ext K K') : GB K' env x v := let ⟨mg, mb, h1, h2, h3, h4⟩ := h; ⟨mg, mb, h1.keeps k, h2, h3.keeps k, h4⟩
theorem EV_none {k} : EV prog w A env K (.Constant .none k pos) (IsV .none) := fun s Q E _ hq => Constant_none (hq _ s.heap s.toks Ext.rfl' rfl)
theorem EV_neg {i : Int} (h : EV prog w A env K e (IsI i)) : EV prog w A env K (.UnaryOp .USub e pos) (IsI (-i)) := fun s Q E k hq => UnaryOp_ (h s _ E k fun v h' tk k₁ ⟨t, hv⟩ => by
  subst hv
  exact neg_int (hq _ _ _ k₁ ⟨_, rfl⟩))
theorem EVF_nil : EVF prog w A env K (.List [] pos) (BL []) := fun s Q E _ hq => by
  rw [arm_eval_List]
  refine wpAny_bind (wpAny_standAt (wpAny_bind (spliced_nil ?_)))
  refine wpAny_newObj_type (hq _ _ _ (fun b o e => Heap.get?_push_of_some _ e) fun S hS => ⟨_, #[], rfl, fresh_hide hS ?_ ⟨_, Heap.get?_push_size _ rfl⟩, by simpa using Paired.nil⟩)
  cases e : s.heap.get? s.heap.objs.size with
  | none => rfl
  | some o' => exact absurd (Heap.lt_size e) (Nat.lt_irrefl _)
theorem STA.imp_own {a : Addr} {R R' : Heap → List Value → Prop} (H : STA z env Γ h) (hf : Γ.lookup x = some (.own a R)) (k : ∀ h l, R h l → R' h l) (hm : ∀ h h' l, Ext h h' → R' h l → R' h' l) : STA z env ((x, .own a R') :: Γ) h := by
  obtain ⟨m, A', F⟩ := H
  refine ⟨m, A', fun y f hy => ?_⟩
  by_cases q : y = x
  · subst q
    rw [List.lookup_cons_self] at hy
    cases hy
    obtain ⟨mo, hk, hv, ha, its, hl, hR⟩ := F y _ hf
    exact ⟨hm, hk, hv, ha, its, hl, k _ _ hR⟩
  · rw [List.lookup_cons, beq_false_of_ne q] at hy
    exact F y f hy
theorem STA.ev_ownR {a : Addr} {R : Heap → List Value → Prop} (H : STA z env Γ h) (hf : Γ.lookup x = some (.own a R)) (hk : env.scope.kind = .function := by rfl) (hd : (x == ("__debug__" : Str)) = false := by decide) :
    EV prog w A env h (.Name x pos) (fun h' v => ∃ its, v = .ref a ∧ h'.IsList a its ∧ R h' its.toList) := by
  obtain ⟨m, A', F⟩ := H
  obtain ⟨mo, hx, hv, ha, its, hl, hR⟩ := F x _ hf
  exact fun s Q E k hq => wpAny_Name (wpAny_loadName_local hk hx (A'.ns.keeps k) hv (hq _ s.heap s.toks Ext.rfl' ⟨its, rfl, (hl.at fun o e => k _ _ e).isList, mo _ _ _ (hide_ext.trans k) hR⟩)) hd
end
/-- the rows: a number and bytes each -/
noncomputable abbrev Row := Int × Array UInt8
noncomputable def wayR (y : Row) (v : Value) : Prop := ∃ t, v = .int y.1 t
noncomputable def namR (y : Row) (v : Value) : Prop := bytesR y.2 v
noncomputable def RowsV (rows : List Row) : VP := fun h v => ∃ ax items, v = .ref ax ∧ h.IsList ax items ∧ Paired (PairR wayR namR h) rows items.toList
theorem mono_Rows (rows : List Row) : Mono (RowsV rows) := fun _ _ _ k ⟨a, its, e, hl, hp⟩ => ⟨a, its, e, hl.at fun o e => k _ _ e, Mine.Paired.imp (fun a b => PairR.mono _ _ _ _ k) hp⟩
/-- the rows in a ledger -/
noncomputable def RowsIn (news : List (Addr × Obj)) (ra : Addr) (rows : List Row) : Prop := ∃ items n, (ra, listOf items n) ∈ news ∧ Paired (fun y v => ∃ T va vb n', v = .ref T ∧ (T, ({ cls := .type "tuple", data := .seq #[va, vb] n' } : Obj)) ∈ news ∧ wayR y va ∧ namR y vb) rows items.toList
theorem RowsIn.at {news : List (Addr × Obj)} {ra : Addr} {rows : List Row} {G : Heap} (H : RowsIn news ra rows) (k : ∀ p ∈ news, G.get? p.1 = some p.2) : RowsV rows G (.ref ra) := by
  obtain ⟨items, n, h1, h2⟩ := H
  exact ⟨ra, items, rfl, ⟨_, k _ h1, rfl, n, rfl⟩, Mine.Paired.imp (fun y v ⟨T, va, vb, n', e, hm, ha, hb⟩ => ⟨T, va, vb, e, ⟨_, k _ hm, rfl, n', rfl⟩, ha, hb⟩) h2⟩
/-- the beginnings of a name, by threes -/
noncomputable def partsF (n : Array UInt8) : List (Array UInt8) := (List.range (n.size / 3 + 1)).map fun i => takeB (3 * i) n
theorem rg_small : ∀ n : Fin 10, Builtin.Range.small 0 ((n.val : Int) + 1) 3 = true ∧ Builtin.Range.rangeSize 0 ((n.val : Int) + 1) 3 = ((n.val / 3 + 1 : Nat) : Int) := by decide
theorem rg3 {n : Nat} (h : n ≤ 9) : Builtin.Range.small 0 ((n : Int) + 1) 3 = true ∧ Builtin.Range.rangeSize 0 ((n : Int) + 1) 3 = ((n / 3 + 1 : Nat) : Int) := rg_small ⟨n, by lia⟩
end
section
open PySem PySem.W PyProof.Rows PySem.Calls PySem.SeqAt
set_option Elab.async false
set_option linter.unusedVariables false
section
variable {prog : Program} {w : World} {A : Around} {env : Env} {K K' : Heap} {e e₁ e₂ test : Expr} {P P' P₁ : VP} {S : List Addr} {z : Zn} {Γ : Ctx'} {h h' : Heap} {m : Str → Option Value} {x : Str} {pos p px : Pos}
theorem neAt_BL {s : Shared} {bs cs : List (Array UInt8)} {v₁ v₂ : Value} (hu : A.units < cLine) (h1 : BL bs s.heap v₁) (h2 : BL cs s.heap v₂) : RcNeAt A s v₁ v₂ (!decide (bs = cs)) := by
  obtain ⟨a, items, rfl, hl, hp⟩ := h1
  obtain ⟨c, items2, rfl, hl2, hp2⟩ := h2
  have e1 : bs.length = items.size := by have := hp.length; simpa using this
  have e2 : cs.length = items2.size := by have := hp2.length; simpa using this
  by_cases hs : items.size = items2.size
  · have z := RcNeAt.lists (A := A) (s := s) (e := fun j => decide (bs.getD j #[] = cs.getD j #[])) hl hl2 hs hu fun j h1 h2 => by
      obtain ⟨t, ht⟩ := paired_get hp j (by lia) (by simpa using h1)
      obtain ⟨u, hu'⟩ := paired_get hp2 j (by lia) (by simpa using h2)
      have ht' : items[j] = .bytes (bs[j]'(by lia)) t := by rw [← ht]; simp
      have hu'' : items2[j] = .bytes (cs[j]'(by lia)) u := by rw [← hu']; simp
      rw [ht', hu'', getD_at (by lia), getD_at (by lia)]
      exact eqAt_bytes _ _ _ _
    rw [← e1, all_range_eq bs cs (by lia)] at z
    exact z
  · have : decide (bs = cs) = false := decide_eq_false fun q => hs (by rw [← e1, ← e2, q])
    rw [this]
    exact RcNeAt.lists_lengths hl hl2 (by simpa using hs) hu
theorem CMP_ne_BL (bs cs : List (Array UInt8)) (hu : A.units < cLine) : CMP prog w A .NotEq (BL bs) (BL cs) (!decide (bs = cs)) := fun s Q E v₁ v₂ h1 h2 hq => neAt_BL (A := A) hu h1 h2 prog w E Q hq
theorem STA.imp_loc (H : STA z env Γ h) (hf : Γ.lookup x = some (.loc P)) (k : ∀ h v, P h v → P' h v) (hm : Mono P') : STA z env ((x, .loc P') :: Γ) h := by
  obtain ⟨m, A', F⟩ := H
  refine ⟨m, A', fun y f hy => ?_⟩
  by_cases q : y = x
  · subst q
    rw [List.lookup_cons_self] at hy
    cases hy
    obtain ⟨mo, hk, v, hv, hP⟩ := F y _ hf
    exact ⟨hm, hk, v, hv, k _ _ hP⟩
  · rw [List.lookup_cons, beq_false_of_ne q] at hy
    exact F y f hy
theorem filter_tt {α : Type} (l : List α) : (l.filter fun _ => true) = l := List.filter_eq_self.mpr fun _ _ => rfl
end
theorem rg_down : ∀ n : Fin 10, Builtin.Range.small (n.val : Int) 0 (-3) = true ∧ Builtin.Range.rangeSize (n.val : Int) 0 (-3) = (((n.val + 2) / 3 : Nat) : Int) := by decide
theorem rgd {n : Nat} (h : n ≤ 9) : Builtin.Range.small (n : Int) 0 (-3) = true ∧ Builtin.Range.rangeSize (n : Int) 0 (-3) = (((n + 2) / 3 : Nat) : Int) := rg_down ⟨n, by lia⟩
theorem rg_up3 : ∀ n : Fin 10, Builtin.Range.small 3 ((n.val : Int) + 1) 3 = true ∧ Builtin.Range.rangeSize 3 ((n.val : Int) + 1) 3 = ((n.val / 3 : Nat) : Int) := by decide
theorem rgu {n : Nat} (h : n ≤ 9) : Builtin.Range.small 3 ((n : Int) + 1) 3 = true ∧ Builtin.Range.rangeSize 3 ((n : Int) + 1) 3 = ((n / 3 : Nat) : Int) := rg_up3 ⟨n, by lia⟩
theorem rg_to : ∀ n : Fin 20, Builtin.Range.small 0 (n.val : Int) 1 = true ∧ Builtin.Range.rangeSize 0 (n.val : Int) 1 = (n.val : Int) := by decide
theorem rgt {n : Nat} (h : n ≤ 19) : Builtin.Range.small 0 (n : Int) 1 = true ∧ Builtin.Range.rangeSize 0 (n : Int) 1 = (n : Int) := rg_to ⟨n, by lia⟩
theorem range_get {n i : Nat} {y : Nat} (h : (List.range n)[i]? = some y) : y = i := by
  obtain ⟨h1, h2⟩ := List.getElem?_eq_some_iff.mp h
  simpa using h2.symm
end
section
open PySem PySem.W PyProof.Rows PySem.Calls
set_option Elab.async false
set_option maxRecDepth 100000
theorem or8 {l n : Int} (h0 : 0 ≤ l) (h2 : 0 ≤ n) (h3 : n < 256) : Builtin.bitOr (l * 2 ^ Int.toNat 8) n = l * 256 + n := by
  obtain ⟨a, rfl⟩ := Int.eq_ofNat_of_zero_le h0
  obtain ⟨b, rfl⟩ := Int.eq_ofNat_of_zero_le h2
  have hb : b < 2 ^ 8 := by omega
  have e := Nat.two_pow_add_eq_or_of_lt hb a
  have e2 := nat_or_add_and (2 ^ 8 * a) b
  have e1 : ((a : Int) * 2 ^ Int.toNat 8) = ((2 ^ 8 * a : Nat) : Int) := by
    have : (2 : Int) ^ Int.toNat 8 = 256 := by decide
    rw [this]; omega
  rw [e1, bitOr_and, bitAnd_pp (by omega) (by omega), Int.toNat_natCast, Int.toNat_natCast]
  omega
noncomputable def B64L : List UInt8 := [65, 66, 67, 68, 69, 70, 71, 72, 73, 74, 75, 76, 77, 78, 79, 80, 81, 82, 83, 84, 85, 86, 87, 88, 89, 90, 97, 98, 99, 100, 101, 102, 103, 104, 105, 106, 107, 108, 109, 110, 111, 112, 113, 114, 115, 116, 117, 118, 119, 120, 121, 122, 48, 49, 50, 51, 52, 53, 54, 55, 56, 57, 43, 47]
/-- the sign of a number below 64 -/
noncomputable def e64 (v : Int) : Int := (((B64L.getD v.toNat 0).toNat : Nat) : Int)
theorem e64_in (v : Int) : 0 ≤ e64 v ∧ e64 v < 256 := by
  unfold e64
  have := (B64L.getD v.toNat 0).toNat_lt
  omega
/-- one octet of base 64 written -/
noncomputable def estep (c : List Int × Int × Int) (n : Int) : List Int × Int × Int :=
  if c.2.2 = 0 then (c.1 ++ [e64 (n / 4)], n, 2) else if c.2.2 = 2 then (c.1 ++ [e64 (c.2.1 % 4 * 16 + n / 16)], n, 4) else (c.1 ++ [e64 (c.2.1 % 16 * 4 + n / 64), e64 (n % 64)], n, 0)
noncomputable def enc (ks : List Int) : List Int × Int × Int := ks.foldl estep ([], 0, 0)
theorem enc_snoc (ks : List Int) (n : Int) : enc (ks ++ [n]) = estep (enc ks) n := by simp [enc]
structure E2 where
  (lb lc : Int)
  (tb tc : Tok)
  vs : List Value
  ep : Nat
  ns : List Int
noncomputable abbrev E2.led (oa : Addr) (news : List (Addr × Obj)) (c : E2) : List (Addr × Obj) := (oa, listOf c.vs.toArray c.ep) :: news
/-- what holds between two turns of b2a_base64's loop -/
noncomputable def EncInv (pre : List Int) (c : E2) : Prop := ∃ l, enc pre = (c.ns, l, c.lb) ∧ 0 ≤ l ∧ c.lc % 256 = l % 256 ∧ (∀ x ∈ c.ns, 0 ≤ x ∧ x < 256)
noncomputable abbrev lc' (lc n : Int) : Int := Builtin.bitAnd (Builtin.bitOr (lc * 2 ^ Int.toNat 8) n) 65535
theorem lc'_eq {lc n : Int} (h0 : 0 ≤ lc) (h1 : 0 ≤ n) (h2 : n < 256) : lc' lc n = (lc * 256 + n) % 65536 := by
  unfold lc'; rw [bitAnd_m16, or8 h0 h1 h2]
theorem shr (x : Int) (k : Nat) : x.fdiv (2 ^ k) = x / 2 ^ k := Int.fdiv_eq_ediv_of_nonneg _ (by have : (0 : Int) < 2 ^ k := Int.pow_pos (by decide); omega)
theorem P2 : (2 : Int) ^ Int.toNat (0 + 8 - 6) = 4 := by decide
theorem P4 : (2 : Int) ^ Int.toNat (2 + 8 - 6) = 16 := by decide
theorem P6 : (2 : Int) ^ Int.toNat (4 + 8 - 6) = 64 := by decide
theorem P0 : (2 : Int) ^ Int.toNat (4 + 8 - 6 - 6) = 1 := by decide
theorem fd (x : Int) {d : Int} (hd : 0 < d) : x.fdiv d = x / d := Int.fdiv_eq_ediv_of_nonneg _ (by omega)
theorem snoc_al {pre : List Int} {n : Int} {P : Int → Prop} (h : ∀ x ∈ pre, P x) (hn : P n) : ∀ x ∈ pre ++ [n], P x := fun x hx => by
  rcases List.mem_append.mp hx with h1 | h1
  · exact h x h1
  · rw [List.mem_singleton.mp h1]; exact hn
/-- octets put together, cut and cast: small facts, each once -/
theorem dv (y : Int) {d m : Int} (hd : 0 < d) (hm : 0 < m) : y % (d * m) / d = y / d % m := by
  have hq0 := Int.emod_nonneg (y / d) (Int.ne_of_gt hm)
  have hr0 := Int.emod_nonneg y (Int.ne_of_gt hd)
  have hr1 := Int.emod_lt_of_pos y hd
  have hq1 := Int.emod_lt_of_pos (y / d) hm
  have e : y = (y % d + (y / d % m) * d) + (y / d / m) * (d * m) := by
    conv => lhs; rw [← Int.emod_add_mul_ediv y d, ← Int.emod_add_mul_ediv (y / d) m]
    rw [Int.mul_add, ← Int.add_assoc, ← Int.mul_assoc, Int.mul_comm d, Int.mul_comm (y / d / m)]
  have hlt : y % d + (y / d % m) * d < d * m := by
    have h1 : (y / d % m + 1) * d ≤ m * d := Int.mul_le_mul_of_nonneg_right hq1 (Int.le_of_lt hd)
    rw [Int.add_mul, Int.one_mul, Int.mul_comm m] at h1
    exact Int.lt_of_lt_of_le (by rw [Int.add_comm]; exact Int.add_lt_add_left hr1 _) h1
  have hge : 0 ≤ y % d + (y / d % m) * d := Int.add_nonneg hr0 (Int.mul_nonneg hq0 (Int.le_of_lt hd))
  conv => lhs; rw [e, Int.add_mul_emod_self_right, Int.emod_eq_of_lt hge hlt, Int.add_mul_ediv_right _ _ (Int.ne_of_gt hd), Int.ediv_eq_zero_of_lt hr0 hr1, Int.zero_add]
theorem dv4 (y : Int) : y % 65536 / 4 % 64 = y / 4 % 64 := by
  rw [show (65536 : Int) = 4 * 16384 from rfl, dv y (by decide) (by decide)]; exact Int.emod_emod_of_dvd _ (by decide)
theorem dv16 (y : Int) : y % 65536 / 16 % 64 = y / 16 % 64 := by
  rw [show (65536 : Int) = 16 * 4096 from rfl, dv y (by decide) (by decide)]; exact Int.emod_emod_of_dvd _ (by decide)
theorem dv64 (y : Int) : y % 65536 / 64 % 64 = y / 64 % 64 := by
  rw [show (65536 : Int) = 64 * 1024 from rfl, dv y (by decide) (by decide)]; exact Int.emod_emod_of_dvd _ (by decide)
theorem dv1 (y : Int) : y % 65536 / 1 % 64 = y % 64 := by rw [Int.ediv_one]; exact Int.emod_emod_of_dvd _ (by decide)
theorem dq (a n e : Int) {d : Int} (hd : d ≠ 0) : (a * (e * d) + n) / d = a * e + n / d := by
  rw [Int.add_comm, ← Int.mul_assoc, Int.add_mul_ediv_right _ _ hd, Int.add_comm]
theorem dq4 (a n : Int) : (a * 256 + n) / 4 = a * 64 + n / 4 := dq a n 64 (d := 4) (by decide)
theorem dq16 (a n : Int) : (a * 256 + n) / 16 = a * 16 + n / 16 := dq a n 16 (d := 16) (by decide)
theorem dq64 (a n : Int) : (a * 256 + n) / 64 = a * 4 + n / 64 := dq a n 4 (d := 64) (by decide)
theorem dm (a n e d : Int) : (a * (e * d) + n) % d = n % d := by
  rw [Int.add_comm, ← Int.mul_assoc, Int.add_mul_emod_self_right]
theorem dm64 (a n : Int) : (a * 256 + n) % 64 = n % 64 := dm a n 4 64
theorem dm256 (a n : Int) : (a * 256 + n) % 65536 % 256 = n % 256 := by rw [Int.emod_emod_of_dvd _ (by decide)]; exact dm a n 1 256
theorem fi4 {a q : Int} (h0 : 0 ≤ q) (h1 : q < 64) : (a * 64 + q) % 64 = q := by rw [show a * 64 + q = q + a * 64 from Int.add_comm _ _, Int.add_mul_emod_self_right]; exact Int.emod_eq_of_lt h0 h1
theorem fi {a q : Int} (e d : Int) (he : 0 < e) (hd : 0 < d) (h0 : 0 ≤ q) (h1 : q < d) : (a * d + q) % (d * e) = a % e * d + q := by
  have hr0 := Int.emod_nonneg a (Int.ne_of_gt he)
  have hr1 := Int.emod_lt_of_pos a he
  have e1 : a * d + q = (a % e * d + q) + (a / e) * (d * e) := by
    conv => lhs; rw [← Int.emod_add_mul_ediv a e]
    rw [Int.add_mul, Int.add_assoc, Int.add_comm _ q, ← Int.add_assoc, Int.mul_comm e, Int.mul_assoc (a / e), Int.mul_comm e]
  have hlt : a % e * d + q < d * e := by
    have h2 : (a % e + 1) * d ≤ e * d := Int.mul_le_mul_of_nonneg_right hr1 (Int.le_of_lt hd)
    rw [Int.add_mul, Int.one_mul, Int.mul_comm e] at h2
    exact Int.lt_of_lt_of_le (Int.add_lt_add_left h1 _) h2
  rw [e1, Int.add_mul_emod_self_right]
  exact Int.emod_eq_of_lt (Int.add_nonneg (Int.mul_nonneg hr0 (Int.le_of_lt hd)) h0) hlt
theorem fi16 {a l q : Int} (hl : a % 4 = l % 4) (h0 : 0 ≤ q) (h1 : q < 16) : (a * 16 + q) % 64 = l % 4 * 16 + q := by
  rw [show (64 : Int) = 16 * 4 from rfl, fi 4 16 (by decide) (by decide) h0 h1, hl]
theorem fi64 {a l q : Int} (hl : a % 16 = l % 16) (h0 : 0 ≤ q) (h1 : q < 4) : (a * 4 + q) % 64 = l % 16 * 4 + q := by
  rw [show (64 : Int) = 4 * 16 from rfl, fi 16 4 (by decide) (by decide) h0 h1, hl]
theorem dlt {n k m : Int} (h0 : 0 ≤ n) (h1 : n < 256) (hk : 0 < k) (hm : m * k = 256) : 0 ≤ n / k ∧ n / k < m := ⟨Int.ediv_nonneg h0 (Int.le_of_lt hk), Int.ediv_lt_of_lt_mul hk (by rw [hm]; exact h1)⟩
theorem lend {pre ns : List Int} {n v : Int} (h : ns.length ≤ 2 * pre.length) : (ns ++ [v]).length ≤ 2 * (pre ++ [n]).length := by simp; omega
theorem lend2 {pre ns : List Int} {n v u : Int} (h : ns.length ≤ 2 * pre.length) : (ns ++ [v] ++ [u]).length ≤ 2 * (pre ++ [n]).length := by simp; omega
theorem m_of {a l : Int} (k : Int) (hk : k ∣ 256) (h : a % 256 = l % 256) : a % k = l % k := by rw [← Int.emod_emod_of_dvd a hk, h, Int.emod_emod_of_dvd l hk]
section
variable {pre : List Int} {n lc : Int} {tb tc tb' tc' tx ty : Tok} {vs : List Value} {ep ep' : Nat} {ns : List Int}
theorem b2_q0 (hI : IntsAre vs ns) (h2 : ns.length ≤ 2 * pre.length) (h3 : 0 ≤ lc) (h4 : lc < 65536) (h5 : EncInv pre ⟨0, lc, tb, tc, vs, ep, ns⟩) (h0 : 0 ≤ n) (h1 : n < 256) :
    IntsAre (vs ++ [.int (e64 (Builtin.bitAnd ((lc' lc n).fdiv (2 ^ Int.toNat (0 + 8 - 6))) 63)) tx]) (ns ++ [e64 (n / 4)]) ∧ (ns ++ [e64 (n / 4)]).length ≤ 2 * (pre ++ [n]).length ∧ 0 ≤ lc' lc n ∧ lc' lc n < 65536 ∧ ((2 : Int) = 0 ∨ (2 : Int) = 2 ∨ (2 : Int) = 4) ∧
      EncInv (pre ++ [n]) ⟨2, lc' lc n, tb', tc', vs ++ [.int (e64 (Builtin.bitAnd ((lc' lc n).fdiv (2 ^ Int.toNat (0 + 8 - 6))) 63)) tx], ep', ns ++ [e64 (n / 4)]⟩ := by
  have hl := lc'_eq h3 h0 h1
  have e : Builtin.bitAnd ((lc' lc n).fdiv (2 ^ Int.toNat (0 + 8 - 6))) 63 = n / 4 := by rw [P2, fd _ (by decide), bitAnd_m6, hl, dv4, dq4]; exact fi4 (dlt (k := 4) (m := 64) h0 h1 (by decide) (by decide)).1 (dlt (k := 4) (m := 64) h0 h1 (by decide) (by decide)).2
  rw [e, hl]
  obtain ⟨l, g1, g2, g3, g4⟩ := h5
  dsimp only at g1 g3 g4
  refine ⟨ints_snoc hI, lend h2, Int.emod_nonneg _ (by decide), Int.emod_lt_of_pos _ (by decide), by decide, n, ?_, h0, dm256 _ _, snoc_al g4 (e64_in _)⟩
  rw [enc_snoc, g1]; simp [estep]
theorem b2_q2 (hI : IntsAre vs ns) (h2 : ns.length ≤ 2 * pre.length) (h3 : 0 ≤ lc) (h4 : lc < 65536) (h5 : EncInv pre ⟨2, lc, tb, tc, vs, ep, ns⟩) (h0 : 0 ≤ n) (h1 : n < 256) :
    ∃ v, v = e64 (Builtin.bitAnd ((lc' lc n).fdiv (2 ^ Int.toNat (2 + 8 - 6))) 63) ∧ IntsAre (vs ++ [.int v tx]) (ns ++ [v]) ∧ (ns ++ [v]).length ≤ 2 * (pre ++ [n]).length ∧ 0 ≤ lc' lc n ∧ lc' lc n < 65536 ∧ ((4 : Int) = 0 ∨ (4 : Int) = 2 ∨ (4 : Int) = 4) ∧
      EncInv (pre ++ [n]) ⟨4, lc' lc n, tb', tc', vs ++ [.int v tx], ep', ns ++ [v]⟩ := by
  have hl := lc'_eq h3 h0 h1
  obtain ⟨l, g1, g2, g3, g4⟩ := h5
  dsimp only at g1 g3 g4
  have e : Builtin.bitAnd ((lc' lc n).fdiv (2 ^ Int.toNat (2 + 8 - 6))) 63 = l % 4 * 16 + n / 16 := by rw [P4, fd _ (by decide), bitAnd_m6, hl, dv16, dq16]; exact fi16 (m_of 4 (by decide) g3) (dlt (k := 16) (m := 16) h0 h1 (by decide) (by decide)).1 (dlt (k := 16) (m := 16) h0 h1 (by decide) (by decide)).2
  refine ⟨_, rfl, ?_⟩
  rw [e, hl]
  refine ⟨ints_snoc hI, lend h2, Int.emod_nonneg _ (by decide), Int.emod_lt_of_pos _ (by decide), by decide, n, ?_, h0, dm256 _ _, snoc_al g4 (e64_in _)⟩
  rw [enc_snoc, g1]; simp [estep]
theorem b2_q4 (hI : IntsAre vs ns) (h2 : ns.length ≤ 2 * pre.length) (h3 : 0 ≤ lc) (h4 : lc < 65536) (h5 : EncInv pre ⟨4, lc, tb, tc, vs, ep, ns⟩) (h0 : 0 ≤ n) (h1 : n < 256) :
    ∃ v u, v = e64 (Builtin.bitAnd ((lc' lc n).fdiv (2 ^ Int.toNat (4 + 8 - 6))) 63) ∧ u = e64 (Builtin.bitAnd ((lc' lc n).fdiv (2 ^ Int.toNat (4 + 8 - 6 - 6))) 63) ∧ IntsAre (vs ++ [.int v tx] ++ [.int u ty]) (ns ++ [v] ++ [u]) ∧ (ns ++ [v] ++ [u]).length ≤ 2 * (pre ++ [n]).length ∧ 0 ≤ lc' lc n ∧ lc' lc n < 65536 ∧ ((0 : Int) = 0 ∨ (0 : Int) = 2 ∨ (0 : Int) = 4) ∧
      EncInv (pre ++ [n]) ⟨0, lc' lc n, tb', tc', vs ++ [.int v tx] ++ [.int u ty], ep', ns ++ [v] ++ [u]⟩ := by
  have hl := lc'_eq h3 h0 h1
  obtain ⟨l, g1, g2, g3, g4⟩ := h5
  dsimp only at g1 g3 g4
  have e : Builtin.bitAnd ((lc' lc n).fdiv (2 ^ Int.toNat (4 + 8 - 6))) 63 = l % 16 * 4 + n / 64 := by rw [P6, fd _ (by decide), bitAnd_m6, hl, dv64, dq64]; exact fi64 (m_of 16 (by decide) g3) (dlt (k := 64) (m := 4) h0 h1 (by decide) (by decide)).1 (dlt (k := 64) (m := 4) h0 h1 (by decide) (by decide)).2
  have e' : Builtin.bitAnd ((lc' lc n).fdiv (2 ^ Int.toNat (4 + 8 - 6 - 6))) 63 = n % 64 := by rw [P0, fd _ (by decide), bitAnd_m6, hl, dv1, dm64]
  refine ⟨_, _, rfl, rfl, ?_⟩
  rw [e, e', hl]
  refine ⟨ints_snoc (ints_snoc hI), lend2 h2, Int.emod_nonneg _ (by decide), Int.emod_lt_of_pos _ (by decide), by decide, n, ?_, h0, dm256 _ _, snoc_al (snoc_al g4 (e64_in _)) (e64_in _)⟩
  rw [enc_snoc, g1]; simp [estep]
end
end
section
open PySem PySem.W PyProof.Rows
set_option Elab.async false
set_option linter.unusedSimpArgs false

theorem b64_item {prog : Program} {w : World} {A : Around} {E : Value → Shared → Prop} {s : Shared} {value slice : Expr} {t ui : Tok} {i : Int} {Q : Value → Shared → Prop} (h0 : 0 ≤ i) (h1 : i < 64) (h : Q (.int (e64 i) s.toks) { s with toks := s.toks + 1 })
    (hs : subscripted slice false (.bytes B64L.toArray t) (.int i ui) = operate [.bytes B64L.toArray t, .int i ui] (getItem (.bytes B64L.toArray t) (.int i ui)) := by with_unfolding_all rfl)
    (ht : ∀ r, letTemporaryGo value (.bytes B64L.toArray t) r = pure () := by intro _; with_unfolding_all rfl) :
    wpAny (model prog w) A (subscriptTail value slice (.bytes B64L.toArray t) (.int i ui)) Q E s := KBy.item_N (x := B64L) (by decide) h0 (by simpa [B64L] using h1) h hs ht

set_option maxRecDepth 100000 in
set_option maxHeartbeats 8000000 in
theorem b2a_spec (w : World) (mean : ExcName → Option Value) (mg mb : Str → Option Value) (news : List (Addr × Obj)) (b : Array UInt8) (tb : Tok) (hb : b.size ≤ 600) (hq : (enc (KBw.bInts b)).2.2 = 0) :
    Sp w mean mg mb none 123 3 news [.bytes b tb] [(Str.ofString "newline", .bool false)] (fun v n => (∃ t, v = .bytes (byteArr (enc (KBw.bInts b)).1) t) ∧ n = news) (fun _ _ => False) := by
  w_on
  k_with_none
  k_with "eval BinOp" => (k_here; k_dflt (refine' AE.wp ?kk ?kF ?kH ?_; (case kF => k_asm); (case kk => rfl); (case kH => ((repeat' (first | exact AE.int | apply AE.add | apply AE.sub | apply AE.mul | apply AE.mod | apply AE.fdiv | apply AE.and_ | apply AE.or_ | apply AE.shl | apply AE.shr | apply AE.pow | exact AE.name rfl rfl (by decide) | (show IntMulOk _ _; mul_fits) | decide | exact PyProof.noPylong_of_log2 (by decide +kernel) | omega)); done)); k_whole; intro _ _; (try rw [ae6])))
  k_with "isTrue Compare" => (k_here; k_dflt (refine' TE.wp ?kk ?kF ?kH ?_; (case kF => k_asm); (case kk => rfl); (case kH => ((first | apply TE.lt | apply TE.le | apply TE.gt | apply TE.ge | apply TE.eq | apply TE.ne) <;> first | (with_unfolding_all rfl) | ((repeat' (first | exact AE.int | apply AE.add | apply AE.sub | apply AE.mul | apply AE.mod | apply AE.fdiv | apply AE.and_ | apply AE.or_ | apply AE.shl | apply AE.shr | apply AE.pow | exact AE.name rfl rfl (by decide) | (show IntMulOk _ _; mul_fits) | decide | exact PyProof.noPylong_of_log2 (by decide +kernel) | omega)); done))); k_whole; intro _))
  k_with "eval Constant int" => (k_here; (with_reducible refine flat_int ?_))
  k_with "storeName" => (k_here; k_dflt (refine' storeM ?F ?N ?_ ?a ?b; (case F => k_asm); (case N => k_asm); (case a => rfl); (case b => rfl); k_whole; intro _ _ _ _; (try k_sweep)))
  k_with "execs cons" => (k_here; (first | (with_reducible show wpAny _ _ _ (fun _ => LeaveK _ _ _ _ _ _) _ _) | (with_reducible show wpAny _ _ _ (BPost _ _ _ _ _ _ _) _ _) | (with_reducible show wpAny _ _ _ (TPost _ _ _ _ _ _) _ _) | (with_reducible show wpAny _ _ _ (KswPost _ _ _ _ _ _ _ _ _ _ _ _) _ _) | (with_reducible show wpAny _ _ _ (fun _ _ => LeaveK _ _ _ _ _ _ _) _ _)); k_fold; (with_reducible refine wpAny_execs_cons ?_); (try dsimp only))
  k_with "call type:type" => (k_here; (first | ((with_reducible show wpAny _ _ (call (Value.type "type") [Value.bytes _ _]) _ _ _); refine call_type_of (typeIs_bytes _ _ _) (by decide) ?_) | ((with_reducible show wpAny _ _ (call (Value.type "type") [Value.str _ _]) _ _ _); refine call_type_of (typeIs_str _ _ _) (by decide) ?_)))
  k_with "call builtin:len" => (k_here; (with_reducible show wpAny _ _ (call (Value.builtin "len") [Value.bytes _ _]) _ _ _); (refine' len_bytes ?k1 ?_; (case k1 => ((try simp only [encA_size, trA_size]); omega))))
  k_with "getMethod str" => (k_here; (with_reducible refine method_encode ?_))
  k_with "call builtin:str.encode" => (k_here; (refine' call_encode ?kx ?ks ?_; (case kx => assumption); (case ks => size_fits)); intro _ _)
  k_with "getMethod bytes" => (k_here; (with_reducible refine method_translate ?_))
  k_with "call builtin:bytes.translate" => (k_here; (try dsimp only [List.cons_append, List.nil_append]); (refine' call_translate ?kx ?ks ?_; (case kx => exact mkTab_size _ _); (case ks => first | ((try simp only [encA_size, trA_size, PySem.sizeLine_eq]); omega) | size_fits)); intro _ _)
  k_with "getMethod type:bytes" => (k_here; refine' method_type ?F ?X ?m (by decide +kernel) ?e ?h ?_; (case F => k_asm); (case X => k_asm); (case m => exact meta_bytes); (case e => k_dflt k_is); (case h => k_handed))
  k_with "call builtin:bytes.maketrans" => (k_here; (refine' call_maketrans ?kx ?_; (case kx => first | rfl | assumption | (simp; done) | omega)); intro _ _)
  k_with "call builtin:len" => (k_here; (with_reducible show wpAny _ _ (call (Value.builtin "len") [Value.ref _]) _ _ _); refine' len_list (News.isList ?kN ?km) ?kz ?_; (case kN => k_asm); (case km => k_mem); (case kz => ((try simp only [List.size_toArray]); omega)))
  k_with "BPost" => (dsimp only [BPost])
  k_with "call builtin:list.append" => (k_here; (try dsimp only [List.cons_append, List.nil_append]); k_dflt (refine' append_K ?k1 ?k2 ?k3 ?_ ?z; (case k1 => k_asm); (case k2 => k_asm); (case k3 => k_upd); (case z => size_fits); k_whole); intro _ _ _; (try k_sweep))
  k_with "call type:bytes" => (k_here; (with_reducible show wpAny _ _ (call (Value.type _) [Value.ref _]) _ _ _); k_dflt (refine' bytes_K ?z9F ?z9N ?l ?i ?r ?z ?h ?_; (case z9F => k_asm); (case z9N => k_asm); (case l => is_list); (case i => assumption); (case r => assumption); (case z => size_fits); (case h => with_unfolding_all rfl); k_whole); intro _ _ _ _ _ _; (try k_sweep))
  k_with "call ref" => (k_here; (with_reducible show wpAny _ _ (call (Value.ref 100) [Value.bool _] []) _ _ _); k_dflt (refine' truth_spec _ _ _ _ _ _ _ _ _ _ _ _ _ _ _ _ _ _ _ ?kef ?kek ?kB ?kD ?kF ?kX ?kN ?kT ?kd ?ku ?_ ?ke; (case kef => exact rfl); (case kek => exact rfl); (case kB => k_asm); (case kD => k_asm); (case kF => k_asm); (case kX => k_asm); (case kN => k_asm); (case kT => k_asm); (case kd => ((try dsimp only [topM, Around.deeper]); omega)); (case ku => ((try dsimp only [topM, Around.deeper]); omega));  (case ke => (intro _ _ _ _ _ _ _ hx'; exact False.elim hx')); intro v' n' h' tk' hR' F' N'; obtain ⟨e1', e2'⟩ := hR'; (replace e2' := Eq.symm e2'); subst e1' e2';  (try k_sweep); (try dsimp only); (try k_fold)))
  k_with "call ref" => (k_here; (with_reducible show wpAny _ _ (call (Value.ref 93) [Value.bytes _ _] []) _ _ _); k_dflt (refine' buffer_spec _ _ _ _ _ _ _ _ _ _ _ _ _ _ _ _ _ _ _ _ ?kef ?kek ?kB ?kD ?kF ?kX ?kN ?kT ?kd ?ku ?_ ?ke; (case kef => exact rfl); (case kek => exact rfl); (case kB => k_asm); (case kD => k_asm); (case kF => k_asm); (case kX => k_asm); (case kN => k_asm); (case kT => k_asm); (case kd => ((try dsimp only [topM, Around.deeper]); omega)); (case ku => ((try dsimp only [topM, Around.deeper]); omega));  (case ke => (intro _ _ _ _ _ _ _ hx'; exact False.elim hx')); intro v' n' h' tk' hR' F' N'; obtain ⟨e1', e2'⟩ := hR'; (replace e2' := Eq.symm e2'); subst e1' e2';  (try k_sweep); (try dsimp only); (try k_fold)))
  k_with "subscriptTail Name" => (k_here; (with_reducible show wpAny _ _ (subscriptTail (Expr.Name _ _) _ (Value.bytes _ _) (Value.int (Builtin.bitAnd _ 63) _)) _ _ _); (with_unfolding_all refine' b64_item ?k1 ?k2 ?_ ?k3 ?k4; (case k1 => (rw [bitAnd_m6]; omega)); (case k2 => (rw [bitAnd_m6]; omega)); (case k3 => with_unfolding_all rfl); (case k4 => (intro _; with_unfolding_all rfl))))
  k_with "pyIter bytes" => fail "by hand"
  unfold Sp
  k_fill
  intro dp un gd env outer A₀ base h₀ L m s Q E hef hek B D F X N T hdp hun hret hexc
  refine wpAny_call ?_
  k_dflt (refine' code_def ?k1 ?k2 ?k3 ?k4 ?k5 ?kA ?kF ?kK ?k6 ?k7 ?k8 ?k9 ?kB ?_ ?c2 ?c3 ?c4 ?c5; (case kA => exact rfl); (case kF => exact hef); (case kK => exact hek); (case k1 => exact B); (case k2 => exact F); (case k3 => exact X); (case k4 => exact N); (case k5 => exact T); (case k6 => k_is); (case k7 => k_is); (case k8 => (show dp < recursionLimit; omega)); (case k9 => first | exact BindsTo.of_eq rfl | exact binds_K (by k_in) rfl (by k_is) rfl rfl rfl | (refine' kp_binds ?z1 ?z2; (case z1 => k_in); (case z2 => (intro S; rfl)))); (case c5 => decide); (case kB => exact locs rfl); (case c2 => exact rfl); (case c3 => exact rfl); (case c4 => exact rfl); k_whole; intro g' L' h' FG F' N' B' X' T'; (have D' := dicts_push hef FG D); (try dsimp only); (try k_fold))
  k_steps
  (rename Fr g' L' _ _ => Fc); (rename News g' L' _ _ => Nc)
  refine' bytes_loop (σ := E2) (E2.led _ news) (fun c => [(Str.ofString "leftbits", .int c.lb c.tb), (Str.ofString "leftchar", .int c.lc c.tc)]) [] (fun pre c => IntsAre c.vs c.ns ∧ c.ns.length ≤ 2 * pre.length ∧ 0 ≤ c.lc ∧ c.lc < 65536 ∧ (c.lb = 0 ∨ c.lb = 2 ∨ c.lb = 4) ∧ EncInv pre c) ⟨0, 0, _, _, [], _, []⟩ ?z1 Fc Nc ?z2 ?z3 ?_ ?_
  case z1 => exact rfl
  case z2 => kst_all
  case z3 => exact ⟨IntsAre.nil, by simp, by dsimp only; decide, by dsimp only; decide, .inl rfl, 0, rfl, by decide, by dsimp only, by simp⟩
  · rintro ⟨lb, lc, tb1, tc1, vs, ep, ns⟩ pre post n t u h tk own e h0 h1 ho ⟨hI, h2, h3, h4, h5, h6⟩ F9 N9
    dsimp only [E2.led] at F9 N9 ho h2 h3 h4 h5 hI
    simp only [kstB, List.contains_nil, Bool.false_eq_true, if_false, List.cons_append] at F9 N9
    have hne := off_app (by assumption) ho
    clear Fc Nc
    have hvl : vs.length ≤ 1200 := by
      have q := congrArg List.length e
      rw [KBw.ints_length] at q
      have := hI.length
      simp at q
      omega
    rcases h5 with rfl | rfl | rfl
    · (try dsimp only); (try k_fold)
      k_steps
      (rename News _ _ _ _ => nE'); (simp only [List.push_toArray] at nE')
      refine bend ⟨_, _, _, _, vs ++ [_], ep + 1, ns ++ [e64 (n / 4)]⟩ (by assumption) nE' (by kst_all) (List.forall_mem_cons.mpr ⟨List.mem_cons_self, fun p hp => List.mem_cons_of_mem _ (List.mem_append_left _ hp)⟩) (fun p hp => List.mem_cons_of_mem _ (List.mem_append_right _ hp)) rfl (by (intro z h1 h2 h3; (simp only [List.forall_mem_cons, List.not_mem_nil, false_implies, implies_true, and_true, ne_eq] at h2); (simp +zetaDelta [h1, h2]; done))) (b2_q0 hI h2 h3 h4 h6 h0 h1)
    · (try dsimp only); (try k_fold)
      k_steps
      (rename News _ _ _ _ => nE'); (simp only [List.push_toArray] at nE')
      obtain ⟨v, hv, q⟩ := b2_q2 hI h2 h3 h4 h6 h0 h1
      rw [← hv] at nE'
      refine bend ⟨_, _, _, _, vs ++ [_], ep + 1, ns ++ [v]⟩ (by assumption) nE' (by kst_all) (List.forall_mem_cons.mpr ⟨List.mem_cons_self, fun p hp => List.mem_cons_of_mem _ (List.mem_append_left _ hp)⟩) (fun p hp => List.mem_cons_of_mem _ (List.mem_append_right _ hp)) rfl (by (intro z h1 h2 h3; (simp only [List.forall_mem_cons, List.not_mem_nil, false_implies, implies_true, and_true, ne_eq] at h2); (simp +zetaDelta [h1, h2]; done))) q
    · (try dsimp only); (try k_fold)
      k_steps
      (rename News _ _ _ _ => nE'); (simp only [List.push_toArray] at nE')
      obtain ⟨v, u, hv, hu, q⟩ := b2_q4 hI h2 h3 h4 h6 h0 h1
      rw [← hv, ← hu] at nE'
      refine bend ⟨_, _, _, _, vs ++ [_] ++ [_], ep + 1 + 1, ns ++ [v] ++ [u]⟩ (by assumption) nE' (by kst_all) (List.forall_mem_cons.mpr ⟨List.mem_cons_self, fun p hp => List.mem_cons_of_mem _ (List.mem_append_left _ hp)⟩) (fun p hp => List.mem_cons_of_mem _ (List.mem_append_right _ hp)) rfl (by (intro z h1 h2 h3; (simp only [List.forall_mem_cons, List.not_mem_nil, false_implies, implies_true, and_true, ne_eq] at h2); (simp +zetaDelta [h1, h2]; done))) q
  · rintro ⟨lb, lc, tb1, tc1, vs, ep, ns⟩ u h tk ⟨hI, h2, h3, h4, h5, ⟨l, g1, g2, g3, hin⟩⟩ F9 N9
    dsimp only [E2.led] at F9 N9 h2 h3 h4 h5 hI g1 g3 hin
    simp only [kstB, List.contains_nil, Bool.false_eq_true, if_false, List.cons_append] at F9 N9
    clear Fc Nc
    have hlb : lb = 0 := by rw [g1] at hq; exact hq
    subst hlb
    have hvl : vs.length ≤ 1200 := by
      have := hI.length
      rw [KBw.ints_length] at h2
      omega
    (try dsimp only); (try k_fold)
    k_steps
    exact hret _ news _ _ ⟨⟨_, by rw [g1]; rfl⟩, rfl⟩ (by assumption) (fun p hp => (by assumption : News h₀ L _ _) p (List.mem_cons_of_mem _ hp))
end
section
open PySem PySem.W PyProof.Rows
set_option Elab.async false
set_option linter.unusedSimpArgs false

/-- what b64encode gives -/
noncomputable def encOut (b p : Array UInt8) : Array UInt8 := trA (mkTab #[43, 47] p) (byteArr (enc (KBw.bInts b)).1)
theorem enc_len (ks : List Int) : (enc ks).1.length ≤ 2 * ks.length := by
  have key : ∀ (ks : List Int) (c : List Int × Int × Int), (ks.foldl estep c).1.length ≤ c.1.length + 2 * ks.length := by
    intro ks
    induction ks with
    | nil => intro c; simp
    | cons k ks ih =>
      intro c
      rw [List.foldl_cons]
      have h := ih (estep c k)
      have h2 : (estep c k).1.length ≤ c.1.length + 2 := by unfold estep; split <;> (try split) <;> simp
      rw [List.length_cons]
      lia
  have := key ks ([], 0, 0)
  simpa [enc] using this
theorem enc_size (b : Array UInt8) : (byteArr (enc (KBw.bInts b)).1).size ≤ 2 * b.size := by
  have := enc_len (KBw.bInts b)
  rw [KBw.ints_length] at this
  simpa [byteArr] using this
set_option maxRecDepth 100000 in
set_option maxHeartbeats 8000000 in
theorem b64encode_spec (w : World) (mean : ExcName → Option Value) (mg mb : Str → Option Value) (news : List (Addr × Obj)) (b p : Array UInt8) (tb tp : Tok) (hb : b.size ≤ 600) (hq : (enc (KBw.bInts b)).2.2 = 0) (hp : p.size = 2) :
    Sp w mean mg mb none 131 6 news [.bytes b tb, .bytes p tp] [] (fun v n => (∃ t, v = .bytes (encOut b p) t) ∧ n = news) (fun _ _ => False) := by
  w_on
  k_with_none
  k_with "eval Constant int" => (k_here; (with_reducible refine flat_int ?_))
  k_with "storeName" => (k_here; k_dflt (refine' storeM ?F ?N ?_ ?a ?b; (case F => k_asm); (case N => k_asm); (case a => rfl); (case b => rfl); k_whole; intro _ _ _ _; (try k_sweep)))
  k_with "execs cons" => (k_here; (first | (with_reducible show wpAny _ _ _ (fun _ => LeaveK _ _ _ _ _ _) _ _) | (with_reducible show wpAny _ _ _ (BPost _ _ _ _ _ _ _) _ _) | (with_reducible show wpAny _ _ _ (TPost _ _ _ _ _ _) _ _) | (with_reducible show wpAny _ _ _ (KswPost _ _ _ _ _ _ _ _ _ _ _ _) _ _) | (with_reducible show wpAny _ _ _ (fun _ _ => LeaveK _ _ _ _ _ _ _) _ _)); k_fold; (with_reducible refine wpAny_execs_cons ?_); (try dsimp only))
  k_with "call type:type" => (k_here; (first | ((with_reducible show wpAny _ _ (call (Value.type "type") [Value.bytes _ _]) _ _ _); refine call_type_of (typeIs_bytes _ _ _) (by decide) ?_) | ((with_reducible show wpAny _ _ (call (Value.type "type") [Value.str _ _]) _ _ _); refine call_type_of (typeIs_str _ _ _) (by decide) ?_)))
  k_with "call builtin:len" => (k_here; (with_reducible show wpAny _ _ (call (Value.builtin "len") [Value.bytes _ _]) _ _ _); (refine' len_bytes ?k1 ?_; (case k1 => ((try simp only [encA_size, trA_size]); omega))))
  k_with "getMethod str" => (k_here; (with_reducible refine method_encode ?_))
  k_with "call builtin:str.encode" => (k_here; (refine' call_encode ?kx ?ks ?_; (case kx => assumption); (case ks => size_fits)); intro _ _)
  k_with "getMethod bytes" => (k_here; (with_reducible refine method_translate ?_))
  k_with "call builtin:bytes.translate" => (k_here; (try dsimp only [List.cons_append, List.nil_append]); (refine' call_translate ?kx ?ks ?_; (case kx => exact mkTab_size _ _); (case ks => first | ((try simp only [encA_size, trA_size, PySem.sizeLine_eq]); omega) | size_fits)); intro _ _)
  k_with "getMethod type:bytes" => (k_here; refine' method_type ?F ?X ?m (by decide +kernel) ?e ?h ?_; (case F => k_asm); (case X => k_asm); (case m => exact meta_bytes); (case e => k_dflt k_is); (case h => k_handed))
  k_with "call builtin:bytes.maketrans" => (k_here; (refine' call_maketrans ?kx ?_; (case kx => first | rfl | assumption | (simp; done) | omega)); intro _ _)
  k_with "call builtin:len" => (k_here; (with_reducible show wpAny _ _ (call (Value.builtin "len") [Value.ref _]) _ _ _); refine' len_list (News.isList ?kN ?km) ?kz ?_; (case kN => k_asm); (case km => k_mem); (case kz => ((try simp only [List.size_toArray]); omega)))
  k_with "BPost" => (dsimp only [BPost])
  k_with "call builtin:list.append" => (k_here; (try dsimp only [List.cons_append, List.nil_append]); k_dflt (refine' append_K ?k1 ?k2 ?k3 ?_ ?z; (case k1 => k_asm); (case k2 => k_asm); (case k3 => k_upd); (case z => size_fits); k_whole); intro _ _ _; (try k_sweep))
  k_with "call type:bytes" => (k_here; (with_reducible show wpAny _ _ (call (Value.type _) [Value.ref _]) _ _ _); k_dflt (refine' bytes_K ?z9F ?z9N ?l ?i ?r ?z ?h ?_; (case z9F => k_asm); (case z9N => k_asm); (case l => is_list); (case i => assumption); (case r => assumption); (case z => size_fits); (case h => with_unfolding_all rfl); k_whole); intro _ _ _ _ _ _; (try k_sweep))
  k_with "call ref" => (k_here; (with_reducible show wpAny _ _ (call (Value.ref 123) [Value.bytes _ _] _) _ _ _); k_dflt (refine' b2a_spec _ _ _ _ _ _ _ ?kh1 ?kh2 _ _ _ _ _ _ _ _ _ _ _ _ _ ?kef ?kek ?kB ?kD ?kF ?kX ?kN ?kT ?kd ?ku ?_ ?ke; (case kef => exact rfl); (case kek => exact rfl); (case kB => k_asm); (case kD => k_asm); (case kF => k_asm); (case kX => k_asm); (case kN => k_asm); (case kT => k_asm); (case kd => ((try dsimp only [topM, Around.deeper]); omega)); (case ku => ((try dsimp only [topM, Around.deeper]); omega)); (case kh1 => assumption); (case kh2 => assumption); (case ke => (intro _ _ _ _ _ _ _ hx'; exact False.elim hx')); intro v' n' h' tk' hR' F' N'; obtain ⟨⟨t1', e1'⟩, e2'⟩ := hR'; (replace e2' := Eq.symm e2'); subst e1' e2';  (try k_sweep); (try dsimp only); (try k_fold)))
  have hes := enc_size b
  have hp9 : (#[43, 47] : Array UInt8).size = p.size := hp.symm
  unfold Sp
  k_fill
  intro dp un gd env outer A₀ base h₀ L m s Q E hef hek B D F X N T hdp hun hret hexc
  refine wpAny_call ?_
  k_dflt (refine' code_def ?k1 ?k2 ?k3 ?k4 ?k5 ?kA ?kF ?kK ?k6 ?k7 ?k8 ?k9 ?kB ?_ ?c2 ?c3 ?c4 ?c5; (case kA => exact rfl); (case kF => exact hef); (case kK => exact hek); (case k1 => exact B); (case k2 => exact F); (case k3 => exact X); (case k4 => exact N); (case k5 => exact T); (case k6 => k_is); (case k7 => k_is); (case k8 => (show dp < recursionLimit; omega)); (case k9 => first | exact BindsTo.of_eq rfl | exact binds_K (by k_in) rfl (by k_is) rfl rfl rfl | (refine' kp_binds ?z1 ?z2; (case z1 => k_in); (case z2 => (intro S; rfl)))); (case c5 => decide); (case kB => exact locs rfl); (case c2 => exact rfl); (case c3 => exact rfl); (case c4 => exact rfl); k_whole; intro g' L' h' FG F' N' B' X' T'; (have D' := dicts_push hef FG D); (try dsimp only); (try k_fold))
  k_steps
  all_goals (try (exfalso; omega))
  all_goals first
    | exact hret _ news _ _ ⟨⟨_, rfl⟩, rfl⟩ (by assumption) (by assumption)
end
section
open PySem PySem.W PyProof.Rows
set_option Elab.async false
set_option linter.unusedSimpArgs false

theorem six_ways {r : Int} (h0 : 0 ≤ r) (h1 : r < 6) (hx : r ≠ 0) : r = 1 ∨ r = 2 ∨ r = 3 ∨ r = 4 ∨ r = 5 := by
  obtain ⟨k, rfl⟩ := Int.eq_ofNat_of_zero_le h0
  match k, h1 with
  | 0, _ => exact absurd rfl hx
  | 1, _ => exact .inl rfl
  | 2, _ => exact .inr (.inl rfl)
  | 3, _ => exact .inr (.inr (.inl rfl))
  | 4, _ => exact .inr (.inr (.inr (.inl rfl)))
  | 5, _ => exact .inr (.inr (.inr (.inr rfl)))
  | k + 6, h => exact absurd (Int.ofNat_lt.mp h) (Nat.not_lt_of_le (Nat.le_add_left 6 k))
theorem three_in {N : Int} (h0 : 0 ≤ N) (h1 : N < 16777216) : ∀ n ∈ [N.fdiv 65536, (N.fdiv 256).fmod 256, N.fmod 256], 0 ≤ n ∧ n < 256 := by
  intro n hn
  rw [Int.fdiv_eq_ediv_of_nonneg _ (by decide), Int.fdiv_eq_ediv_of_nonneg _ (by decide), Int.fmod_eq_emod_of_nonneg _ (by decide), Int.fmod_eq_emod_of_nonneg _ (by decide)] at hn
  simp only [List.mem_cons, List.not_mem_nil, or_false] at hn
  rcases hn with rfl | rfl | rfl <;> lia
/-- the number of three octets -/
noncomputable def numF (x mk : Int) : Int := if x.fmod 6 = 1 then ((mk * 64 + 0) * 64 + mk) * 64 + mk else if x.fmod 6 = 2 then ((5 * 64 + mk) * 64 + mk) * 64 + 7 else if x.fmod 6 = 3 then ((mk * 64 + mk) * 64 + mk) * 64 + mk else (x.fdiv 12).fmod 16777216
theorem numF_in {x mk : Int} (h0 : 0 ≤ mk) (h1 : mk < 64) : 0 ≤ numF x mk ∧ numF x mk < 16777216 := by
  unfold numF
  have a := Int.fmod_nonneg_of_pos (x.fdiv 12) (by decide : (0 : Int) < 16777216)
  have b := Int.fmod_lt_of_pos (x.fdiv 12) (by decide : (0 : Int) < 16777216)
  split
  · lia
  · split
    · lia
    · split <;> lia
noncomputable def three (N : Int) : Array UInt8 := byteArr [N.fdiv 65536, (N.fdiv 256).fmod 256, N.fmod 256]
set_option maxRecDepth 100000 in
set_option maxHeartbeats 8000000 in
theorem three_spec (w : World) (mean : ExcName → Option Value) (mg mb : Str → Option Value) (news : List (Addr × Obj)) (x mk : Int) (tx tm : Tok) (hx : Int.fmod x 6 ≠ 0) (hm0 : 0 ≤ mk) (hm1 : mk < 64) :
    Sp w mean mg mb none 146 1 news [.int x tx, .int mk tm] [] (fun v n => (∃ t, v = .bytes (three (numF x mk)) t) ∧ n = news) (fun _ _ => False) := by
  w_on
  k_with_none
  k_with "eval BinOp" => (k_here; k_dflt (refine' AE.wp ?kk ?kF ?kH ?_; (case kF => k_asm); (case kk => rfl); (case kH => ((repeat' (first | exact AE.int | apply AE.add | apply AE.sub | apply AE.mul | apply AE.mod | apply AE.fdiv | apply AE.and_ | apply AE.or_ | apply AE.shl | apply AE.shr | apply AE.pow | exact AE.name rfl rfl (by decide) | (show IntMulOk _ _; mul_fits) | decide | exact PyProof.noPylong_of_log2 (by decide +kernel) | omega)); done)); k_whole; intro _ _; (try rw [ae6])))
  k_with "isTrue Compare" => (k_here; k_dflt (refine' TE.wp ?kk ?kF ?kH ?_; (case kF => k_asm); (case kk => rfl); (case kH => ((first | apply TE.lt | apply TE.le | apply TE.gt | apply TE.ge | apply TE.eq | apply TE.ne) <;> first | (with_unfolding_all rfl) | ((repeat' (first | exact AE.int | apply AE.add | apply AE.sub | apply AE.mul | apply AE.mod | apply AE.fdiv | apply AE.and_ | apply AE.or_ | apply AE.shl | apply AE.shr | apply AE.pow | exact AE.name rfl rfl (by decide) | (show IntMulOk _ _; mul_fits) | decide | exact PyProof.noPylong_of_log2 (by decide +kernel) | omega)); done))); k_whole; intro _))
  k_with "eval Constant int" => (k_here; (with_reducible refine flat_int ?_))
  k_with "storeName" => (k_here; k_dflt (refine' storeM ?F ?N ?_ ?a ?b; (case F => k_asm); (case N => k_asm); (case a => rfl); (case b => rfl); k_whole; intro _ _ _ _; (try k_sweep)))
  k_with "execs cons" => (k_here; (first | (with_reducible show wpAny _ _ _ (fun _ => LeaveK _ _ _ _ _ _) _ _) | (with_reducible show wpAny _ _ _ (BPost _ _ _ _ _ _ _) _ _) | (with_reducible show wpAny _ _ _ (TPost _ _ _ _ _ _) _ _) | (with_reducible show wpAny _ _ _ (KswPost _ _ _ _ _ _ _ _ _ _ _ _) _ _) | (with_reducible show wpAny _ _ _ (fun _ _ => LeaveK _ _ _ _ _ _ _) _ _)); k_fold; (with_reducible refine wpAny_execs_cons ?_); (try dsimp only))
  k_with "call type:type" => (k_here; (first | ((with_reducible show wpAny _ _ (call (Value.type "type") [Value.bytes _ _]) _ _ _); refine call_type_of (typeIs_bytes _ _ _) (by decide) ?_) | ((with_reducible show wpAny _ _ (call (Value.type "type") [Value.str _ _]) _ _ _); refine call_type_of (typeIs_str _ _ _) (by decide) ?_)))
  k_with "call builtin:len" => (k_here; (with_reducible show wpAny _ _ (call (Value.builtin "len") [Value.bytes _ _]) _ _ _); (refine' len_bytes ?k1 ?_; (case k1 => ((try simp only [encA_size, trA_size]); omega))))
  k_with "getMethod str" => (k_here; (with_reducible refine method_encode ?_))
  k_with "call builtin:str.encode" => (k_here; (refine' call_encode ?kx ?ks ?_; (case kx => assumption); (case ks => size_fits)); intro _ _)
  k_with "getMethod bytes" => (k_here; (with_reducible refine method_translate ?_))
  k_with "call builtin:bytes.translate" => (k_here; (try dsimp only [List.cons_append, List.nil_append]); (refine' call_translate ?kx ?ks ?_; (case kx => exact mkTab_size _ _); (case ks => first | ((try simp only [encA_size, trA_size, PySem.sizeLine_eq]); omega) | size_fits)); intro _ _)
  k_with "getMethod type:bytes" => (k_here; refine' method_type ?F ?X ?m (by decide +kernel) ?e ?h ?_; (case F => k_asm); (case X => k_asm); (case m => exact meta_bytes); (case e => k_dflt k_is); (case h => k_handed))
  k_with "call builtin:bytes.maketrans" => (k_here; (refine' call_maketrans ?kx ?_; (case kx => first | rfl | assumption | (simp; done) | omega)); intro _ _)
  k_with "call builtin:len" => (k_here; (with_reducible show wpAny _ _ (call (Value.builtin "len") [Value.ref _]) _ _ _); refine' len_list (News.isList ?kN ?km) ?kz ?_; (case kN => k_asm); (case km => k_mem); (case kz => ((try simp only [List.size_toArray]); omega)))
  k_with "BPost" => (dsimp only [BPost])
  k_with "call builtin:list.append" => (k_here; (try dsimp only [List.cons_append, List.nil_append]); k_dflt (refine' append_K ?k1 ?k2 ?k3 ?_ ?z; (case k1 => k_asm); (case k2 => k_asm); (case k3 => k_upd); (case z => size_fits); k_whole); intro _ _ _; (try k_sweep))
  k_with "call type:bytes" => (k_here; (with_reducible show wpAny _ _ (call (Value.type _) [Value.ref _]) _ _ _); k_dflt (refine' bytes_K ?z9F ?z9N ?l ?i ?r ?z ?h ?_; (case z9F => k_asm); (case z9N => k_asm); (case l => is_list); (case i => assumption); (case r => assumption); (case z => size_fits); (case h => with_unfolding_all rfl); k_whole); intro _ _ _ _ _ _; (try k_sweep))
  k_with "binaryOp FloorDiv int int" => (k_here; refine floordiv_int (by decide) ?_)
  k_with "binaryOp Mod int int" => (k_here; (first | (refine mod_int (by decide) ?_) | (refine mod_int' (by decide) ?_)))
  k_with "binaryOp Mod int int" => (k_here; (with_reducible show wpAny _ _ (binaryOp _ (Value.int _ _) (Value.int 6 _)) _ _ _); refine mod_int (by decide) ?_; (with_reducible rename Int.fmod _ 6 = _ => q6); rw [q6])
  k_with "call type:bytes" => (k_here; (with_reducible show wpAny _ _ (call (Value.type _) [Value.ref _]) _ _ _); k_dflt (refine' bytes_K ?z9F ?z9N ?l ?i ?r ?z ?h ?_; (case z9F => k_asm); (case z9N => k_asm); (case l => is_list); (case i => exact IntsAre.cons _ _ (IntsAre.cons _ _ (IntsAre.cons _ _ IntsAre.nil))); (case r => exact three_in (by rw [← e6]; exact (numF_in hm0 hm1).1) (by rw [← e6]; exact (numF_in hm0 hm1).2)); (case z => size_fits); (case h => with_unfolding_all rfl); k_whole); intro _ _ _ _ _ _; (try k_sweep))
  unfold Sp
  k_fill
  intro dp un gd env outer A₀ base h₀ L m s Q E hef hek B D F X N T hdp hun hret hexc
  refine wpAny_call ?_
  k_dflt (refine' code_def ?k1 ?k2 ?k3 ?k4 ?k5 ?kA ?kF ?kK ?k6 ?k7 ?k8 ?k9 ?kB ?_ ?c2 ?c3 ?c4 ?c5; (case kA => exact rfl); (case kF => exact hef); (case kK => exact hek); (case k1 => exact B); (case k2 => exact F); (case k3 => exact X); (case k4 => exact N); (case k5 => exact T); (case k6 => k_is); (case k7 => k_is); (case k8 => (show dp < recursionLimit; omega)); (case k9 => first | exact BindsTo.of_eq rfl | exact binds_K (by k_in) rfl (by k_is) rfl rfl rfl | (refine' kp_binds ?z1 ?z2; (case z1 => k_in); (case z2 => (intro S; rfl)))); (case c5 => decide); (case kB => exact locs rfl); (case c2 => exact rfl); (case c3 => exact rfl); (case c4 => exact rfl); k_whole; intro g' L' h' FG F' N' B' X' T'; (have D' := dicts_push hef FG D); (try dsimp only); (try k_fold))
  iterate 4 try (any_goals (first | (k_unfold; (try dsimp only)) | (k_end; wrow_close) | walk1 | (dsimp only; walk1)))
  have ae6 := six_ways (Int.fmod_nonneg_of_pos x (by decide : (0 : Int) < 6)) (Int.fmod_lt_of_pos x (by decide : (0 : Int) < 6)) hx
  have hN0 := Int.fmod_nonneg_of_pos (x.fdiv 12) (by decide : (0 : Int) < 64 ^ Int.toNat 4)
  have hN1 : (x.fdiv 12).fmod (64 ^ Int.toNat 4) < 16777216 := Int.fmod_lt_of_pos (x.fdiv 12) (by decide : (0 : Int) < 64 ^ Int.toNat 4)
  have hN2 : (x.fdiv 12).fmod (64 ^ Int.toNat 4) = (x.fdiv 12).fmod 16777216 := by rw [show (64 : Int) ^ Int.toNat 4 = 16777216 from by decide]
  rcases ae6 with ae6 | ae6 | ae6 | ae6 | ae6
  · have e6 : numF x mk = ((mk * 64 + 0) * 64 + mk) * 64 + mk := by unfold numF; rw [ae6]; rfl
    k_steps
    exact hret _ news _ _ ⟨⟨_, by first | (rw [e6]; done) | (rw [e6]; rfl)⟩, rfl⟩ (by assumption) (fun p hp => (by assumption : News h₀ L _ _) p (by repeat (first | exact hp | refine List.mem_cons_of_mem _ ?_)))
  · have e6 : numF x mk = ((5 * 64 + mk) * 64 + mk) * 64 + 7 := by unfold numF; rw [ae6]; rfl
    k_steps
    exact hret _ news _ _ ⟨⟨_, by first | (rw [e6]; done) | (rw [e6]; rfl)⟩, rfl⟩ (by assumption) (fun p hp => (by assumption : News h₀ L _ _) p (by repeat (first | exact hp | refine List.mem_cons_of_mem _ ?_)))
  · have e6 : numF x mk = ((mk * 64 + mk) * 64 + mk) * 64 + mk := by unfold numF; rw [ae6]; rfl
    k_steps
    exact hret _ news _ _ ⟨⟨_, by first | (rw [e6]; done) | (rw [e6]; rfl)⟩, rfl⟩ (by assumption) (fun p hp => (by assumption : News h₀ L _ _) p (by repeat (first | exact hp | refine List.mem_cons_of_mem _ ?_)))
  · have e6 : numF x mk = (x.fdiv 12).fmod (64 ^ Int.toNat 4) := by unfold numF; rw [ae6, hN2]; rfl
    k_steps
    exact hret _ news _ _ ⟨⟨_, by first | (rw [e6]; done) | (rw [e6]; rfl)⟩, rfl⟩ (by assumption) (fun p hp => (by assumption : News h₀ L _ _) p (by repeat (first | exact hp | refine List.mem_cons_of_mem _ ?_)))
  · have e6 : numF x mk = (x.fdiv 12).fmod (64 ^ Int.toNat 4) := by unfold numF; rw [ae6, hN2]; rfl
    k_steps
    exact hret _ news _ _ ⟨⟨_, by first | (rw [e6]; done) | (rw [e6]; rfl)⟩, rfl⟩ (by assumption) (fun p hp => (by assumption : News h₀ L _ _) p (by repeat (first | exact hp | refine List.mem_cons_of_mem _ ?_)))
end
section
open PySem PySem.W PyProof.Rows PySem.Calls PySem.SeqAt
set_option Elab.async false
set_option linter.unusedVariables false
section
variable {prog : Program} {w : World} {A : Around} {E : Value → Shared → Prop} {s : Shared} {env : Env} {Q : Flow → Shared → Prop}
/-- a for's loop, ahead of its iterator, any target -/
noncomputable def LoopG (prog : Program) (w : World) (A : Around) (env : Env) (target : Expr) (body : List Stmt) (Q : Flow → Shared → Prop) (E : Value → Shared → Prop) (it : Value) (s₂ : Shared) : Prop :=
  codeAny (model prog w) A (.forLoop target it body [] env) (fun r s' => match r with | .ok f => Q f s' | .error e => cameBackBy (model prog w) A env E e s') s₂
theorem For_G {target : Expr} {pos : Pos} {iter : Expr} {body : List Stmt}
    (h : wpAny (model prog w) A (eval iter env) (fun xv s₁ => wpAny (model prog w) A (pyIter xv) (fun it s₂ => LoopG prog w A env target body Q E it s₂) E s₁) E s)
    (hs : ∀ x, foldedSetIterable iter env x = pure x := by intro _; rfl) :
    wpAny (model prog w) A (exec (.For target iter body [] pos) env) Q E s := wpAny_For h hs
/-- the heap of one thing -/
noncomputable def onlyH (h : Heap) (a : Addr) : Heap := hideAll h ((List.range h.objs.size).filter (· ≠ a))
theorem onlyH_get {h : Heap} {a b : Addr} {o : Obj} (e : (onlyH h a).get? b = some o) : b = a ∧ h.get? a = some o := by
  have e' := of_hideAll _ e
  have hb : b ∉ (List.range h.objs.size).filter (· ≠ a) := fun q => by rw [show (onlyH h a).get? b = none from hideAll_none _ q] at e; cases e
  have hba : b = a := by
    by_cases q : b = a
    · exact q
    · exact absurd (List.mem_filter.mpr ⟨List.mem_range.mpr (Heap.lt_size e'), by simpa using q⟩) hb
  exact ⟨hba, hba ▸ e'⟩
theorem onlyH_self {h : Heap} {a : Addr} {o : Obj} (e : h.get? a = some o) : (onlyH h a).get? a = some o := hideAll_get _ e (by simp)
inductive ItJ (env : Env) (s : Shared) (J : Nat → Heap → (Str → Option Value) → List (Addr × Obj) → Prop) (I : Addr) (O : Nat → Obj → Prop) (n k : Nat) (s' : Shared) : Prop
  | mk (h' : Heap) (tk : Nat) (g : Heap) (m' : Str → Option Value) (news' : List (Addr × Obj)) (i : Nat) (o : Obj) (e : s' = { s with heap := h', toks := tk }) (hO : O i o) (hI : h'.get? I = some o) (F : Fr g env.locals h' m') (N : News g env.locals h' news') (hnI : ∀ p ∈ news', p.1 ≠ I) (hJ : J i g m' news') (hi : i ≤ n) (hk : k = n + 1 - i)
theorem it_T {target : Expr} {body : List Stmt} {I : Addr} {K g₀ : Heap} {n : Nat} {PI : Nat → Value → Prop} {O : Nat → Obj → Prop} {o₀ : Obj} {m : Str → Option Value} {news : List (Addr × Obj)} (J : Nat → Heap → (Str → Option Value) → List (Addr × Obj) → Prop)
    (W : It prog w A I K n PI O) (ho : O 0 o₀) (hI0 : s.heap.get? I = some o₀) (hLI : env.locals ≠ I) (fresh₀ : g₀.get? I = none)
    (F : Fr g₀ env.locals s.heap m) (N : News g₀ env.locals s.heap news) (hnI₀ : ∀ p ∈ news, p.1 ≠ I) (h0 : J 0 g₀ m news) (hT : ∀ i g m' news', J i g m' news' → g.objs.size = g₀.objs.size ∧ ∀ b, g₀.get? b = none → g.get? b = none)
    (hK : ∀ i g m' news', J i g m' news' → ∀ b o, K.get? b = some o → (b, o) ∈ news')
    (htgt : (∃ y p, target = .Name y p) ∨ ((∃ elts k p, target = .Tuple elts k p) ∧ ∀ i v, i < n → PI i v → ∃ T, v = .ref T))
    (step : ∀ (i : Nat) v g m₁ news₁ h tk own, i < n → PI i v → J i g m₁ news₁ → (∀ p ∈ news₁, p.1 ≠ I) → (∀ p ∈ own, p.1 = I) → Fr g env.locals h m₁ → News g env.locals h (news₁ ++ own) →
      wpAny (model prog w) A (assign target env v) (fun _ s₂ => wpAny (model prog w) A (execs body env) (TPost env.locals I own (J (i + 1)) s Q) E s₂) E { s with heap := h, toks := tk })
    (done : ∀ g m' news' h tk, J n g m' news' → Fr g env.locals h m' → News g env.locals h news' → Q .next { s with heap := h, toks := tk })
    (hE : PassesOwn (model prog w) A env E) :
    LoopG prog w A env target body Q E (.ref I) s := by
  unfold LoopG
  refine codeAny_forLoop_any
    (ItJ env s J I O n) ?_ (n + 1)
    ⟨s.heap, s.toks, g₀, m, news, 0, o₀, rfl, ho, hI0, F, N, hnI₀, h0, Nat.zero_le _, rfl⟩
  rintro k s' ⟨h', tk, g, m', news', i, o, rfl, hO, hIo, F', N', hnI, hJ, hi, rfl⟩
  have fr : g.get? I = none := (hT _ _ _ _ hJ).2 I fresh₀
  have next : ∀ h₁ : Heap, (∀ b o, b ≠ I → h'.get? b = some o → h₁.get? b = some o) → Fr g env.locals h₁ m' ∧ News g env.locals h₁ news' := fun h₁ hk₁ =>
    ⟨⟨F'.ns.at' fun o e => hk₁ _ o hLI e, fun b o e => hk₁ b o (by intro z; rw [z, fr] at e; cases e) (F'.keep b o e), F'.above⟩, fun p hp => ⟨hk₁ _ _ (hnI p hp) (N' p hp).1, (N' p hp).2⟩⟩
  have kK : Ext K h' := fun b o e => (N' _ (hK _ _ _ _ hJ b o e)).1
  by_cases hlt : i < n
  · refine W.item i _ _ _ o hlt kK hIo hO fun v h₁ tk₁ o₁ hP hs₁ hI₁ hO₁ => ?_
    obtain ⟨F₁, N₁⟩ := next h₁ fun b o hb e => hs₁.extBut b o hb e
    have N₂ : News g env.locals h₁ (news' ++ [(I, o₁)]) := fun p hp => by
      rcases List.mem_append.mp hp with q | q
      · exact N₁ p q
      · rw [List.mem_singleton.mp q]
        exact ⟨hI₁, hLI.symm, fr⟩
    have fin : wpAny (model prog w) A (assign target env v) (fun _ s₂ => wpAny (model prog w) A (execs body env) (fun f s₃ => match f with
            | .next | .cont => ∃ m, m < n + 1 - i ∧ ItJ env s J I O n m s₃
            | .brk => Q .next s₃
            | .ret v => Q (.ret v) s₃) (notedBy (model prog w) A env fun e s' => cameBackBy (model prog w) A env E e s') s₂) (notedBy (model prog w) A env fun e s' => cameBackBy (model prog w) A env E e s') { s with heap := h₁, toks := tk₁ } := by
      refine wpAny_mono (wpAny_passesOwn hE (step i v g m' news' h₁ _ [(I, o₁)] hlt hP hJ hnI (fun p hp => by rw [List.mem_singleton.mp hp]) F₁ N₂)) (fun _ s₂ h₂ => ?_) fun _ _ e => e
      refine wpAny_mono (wpAny_passesOwn hE h₂) (fun f s₃ h₃ => ?_) fun _ _ e => e
      cases f with
      | ret v => exact h₃
      | brk => exact h₃
      | cont =>
        obtain ⟨g', h₃', tk₃, m₂, news₂, nx, rfl, F₃, N₃, hs, ho, hni, hJ₃⟩ := h₃
        exact ⟨n + 1 - (i + 1), turn_lt hlt, h₃', tk₃, g', m₂, news₂, i + 1, o₁, rfl, hO₁, (N₃ _ (ho _ (List.mem_singleton.mpr rfl))).1, F₃, fun p hp => N₃ p (hs p hp), hni, hJ₃, hlt, rfl⟩
      | next =>
        obtain ⟨g', h₃', tk₃, m₂, news₂, nx, rfl, F₃, N₃, hs, ho, hni, hJ₃⟩ := h₃
        exact ⟨n + 1 - (i + 1), turn_lt hlt, h₃', tk₃, g', m₂, news₂, i + 1, o₁, rfl, hO₁, (N₃ _ (ho _ (List.mem_singleton.mpr rfl))).1, F₃, fun p hp => N₃ p (hs p hp), hni, hJ₃, hlt, rfl⟩
    rcases htgt with ⟨y', p, rfl⟩ | ⟨⟨elts, k, p, rfl⟩, hTT⟩
    · exact wpAny_pure fin
    · obtain ⟨T, rfl⟩ := hTT i v hlt hP
      exact W.own (i + 1) _ _ _ o₁ elts k p T hI₁ hO₁ fin
  · have hin : i = n := Nat.le_antisymm ‹i ≤ n› (Nat.le_of_not_lt hlt)
    subst hin
    refine W.done _ _ _ o kK hIo hO fun h₁ hk₁ => wpAny_execs_nil ?_
    obtain ⟨F₁, N₁⟩ := next h₁ hk₁
    exact done g m' news' h₁ _ hJ F₁ N₁
theorem It.tuple {I ax : Addr} {K : Heap} {items : Array Value} (hl : IsTup K ax items) (hI : K.get? I = none) (hok : EndOk A K) :
    It prog w A I K items.size (fun i v => items[i]? = some v) (fun i o => o.cls = .type "tuple_iterator" ∧ o.data = .fields #[.ref ax, .int i 0]) where
  item := fun i s Q E o hi k e ⟨h1, h2⟩ hQ => by
    have hl' : IsTup s.heap ax items := let ⟨o, e, r⟩ := hl; ⟨o, k _ _ e, r⟩
    refine next_tuple_item (i := i) ⟨o, e, h1, h2⟩ hl' (x := items[i]) (by simp [hi]) fun h' hit' hs' => ?_
    obtain ⟨o', e', h1', h2'⟩ := hit'
    exact hQ _ h' s.toks o' (by simp [hi]) hs' e' ⟨h1', h2'⟩
  done := fun s Q E o k e ⟨h1, h2⟩ hQ => by
    have hl' : IsTup s.heap ax items := let ⟨o, e, r⟩ := hl; ⟨o, k _ _ e, r⟩
    exact next_tuple_end' (hok.ext k) (fun e' q => by
      rintro rfl
      rcases hok with hn | ⟨e2, o2, vs, g1, g2, _⟩
      · rw [hn] at q; cases q
      · rw [g1] at q; cases q; rw [hI] at g2; cases g2) ⟨o, e, h1, h2⟩ hl' (by simp) hQ
  self := fun i s Q E o e ⟨h1, h2⟩ hQ => wpAny_pyIter_tupleiter (i := i) ⟨o, e, h1, h2⟩ hQ
  own := fun i s Q E o elts x1 pos T e ⟨h1, h2⟩ hQ => letGo_tupleiter (i := i) ⟨o, e, h1, h2⟩ hQ
noncomputable def tupObj (items : Array Value) (n : Nat) : Obj := { cls := .type "tuple", dict := none, data := .seq items n, slots := #[] }
/-- over a tuple of the ledger -/
theorem tup_T {target : Expr} {body : List Stmt} {la : Addr} {items : Array Value} {nl : Nat} {g₀ : Heap} {m : Str → Option Value} {news : List (Addr × Obj)} (J : Nat → Heap → (Str → Option Value) → List (Addr × Obj) → Prop)
    (hh : A.handled = none) (F : Fr g₀ env.locals s.heap m) (N : News g₀ env.locals s.heap news) (h0 : J 0 g₀ m news) (hT : ∀ i g m' news', J i g m' news' → g.objs.size = g₀.objs.size ∧ ∀ b, g₀.get? b = none → g.get? b = none)
    (hla : ∀ i g m' news', J i g m' news' → (la, tupObj items nl) ∈ news')
    (htgt : (∃ y p, target = .Name y p) ∨ ((∃ elts k p, target = .Tuple elts k p) ∧ ∀ (i : Nat) (v : Value), items[i]? = some v → ∃ T, v = Value.ref T))
    (step : ∀ (i : Nat) v g m₁ news₁ h tk own I, items[i]? = some v → J i g m₁ news₁ → (∀ p ∈ news₁, p.1 ≠ I) → (∀ p ∈ own, p.1 = I) → Fr g env.locals h m₁ → News g env.locals h (news₁ ++ own) →
      wpAny (model prog w) A (assign target env v) (fun _ s₂ => wpAny (model prog w) A (execs body env) (TPost env.locals I own (J (i + 1)) s Q) E s₂) E { s with heap := h, toks := tk })
    (done : ∀ g m' news' h tk, J items.size g m' news' → Fr g env.locals h m' → News g env.locals h news' → Q .next { s with heap := h, toks := tk })
    (hE : PassesOwn (model prog w) A env E) :
    wpAny (model prog w) A (pyIter (.ref la)) (fun it s₂ => LoopG prog w A env target body Q E it s₂) E s := by
  have hl : s.heap.get? la = some (tupObj items nl) := (N _ (hla _ _ _ _ h0)).1
  refine wpAny_pyIter_tuple ⟨_, hl, rfl, nl, rfl⟩ ?_
  have hKl : IsTup (onlyH s.heap la) la items := ⟨_, onlyH_self hl, rfl, nl, rfl⟩
  have hKI : (onlyH s.heap la).get? s.heap.objs.size = none := by
    cases e : (onlyH s.heap la).get? s.heap.objs.size with
    | none => rfl
    | some o' => exact absurd (Heap.lt_size (of_hideAll _ e)) (Nat.lt_irrefl _)
  refine it_T J (It.tuple (prog := prog) (w := w) (A := A) hKl hKI (.inl hh)) (o₀ := { cls := .type "tuple_iterator", data := .fields #[.ref la, .int (0 : Nat) 0] }) ⟨rfl, rfl⟩ (Heap.get?_push_size _ rfl) (fun e => absurd F.ns.lt (by rw [e]; exact Nat.lt_irrefl _)) (next_is_new F) (F.push _)
    (fun p hp => ⟨Heap.get?_push_of_some _ (N p hp).1, (N p hp).2⟩) (fun p hp e => absurd (Heap.lt_size (N p hp).1) (by rw [e]; exact Nat.lt_irrefl _)) h0 hT ?_ ?_ ?_ done hE
  · intro i g m' news' hJ b o e
    obtain ⟨rfl, e'⟩ := onlyH_get e
    rw [hl] at e'
    cases e'
    exact hla _ _ _ _ hJ
  · rcases htgt with h | ⟨h1, h2⟩
    · exact .inl h
    · exact .inr ⟨h1, fun i v _ hv => h2 i v hv⟩
  · exact fun i v g m₁ news₁ h tk own _ hP hJ hnI ho F₁ N₁ => step i v g m₁ news₁ h tk own _ hP hJ hnI ho F₁ N₁
/-- over a list of the ledger -/
theorem list_T {target : Expr} {body : List Stmt} {la : Addr} {items : Array Value} {nl : Nat} {g₀ : Heap} {m : Str → Option Value} {news : List (Addr × Obj)} (J : Nat → Heap → (Str → Option Value) → List (Addr × Obj) → Prop)
    (hh : A.handled = none) (F : Fr g₀ env.locals s.heap m) (N : News g₀ env.locals s.heap news) (h0 : J 0 g₀ m news) (hT : ∀ i g m' news', J i g m' news' → g.objs.size = g₀.objs.size ∧ ∀ b, g₀.get? b = none → g.get? b = none)
    (hla : ∀ i g m' news', J i g m' news' → (la, listOf items nl) ∈ news')
    (htgt : (∃ y p, target = .Name y p) ∨ ((∃ elts k p, target = .Tuple elts k p) ∧ ∀ (i : Nat) (v : Value), items[i]? = some v → ∃ T, v = Value.ref T))
    (step : ∀ (i : Nat) v g m₁ news₁ h tk own I, items[i]? = some v → J i g m₁ news₁ → (∀ p ∈ news₁, p.1 ≠ I) → (∀ p ∈ own, p.1 = I) → Fr g env.locals h m₁ → News g env.locals h (news₁ ++ own) →
      wpAny (model prog w) A (assign target env v) (fun _ s₂ => wpAny (model prog w) A (execs body env) (TPost env.locals I own (J (i + 1)) s Q) E s₂) E { s with heap := h, toks := tk })
    (done : ∀ g m' news' h tk, J items.size g m' news' → Fr g env.locals h m' → News g env.locals h news' → Q .next { s with heap := h, toks := tk })
    (hE : PassesOwn (model prog w) A env E) :
    wpAny (model prog w) A (pyIter (.ref la)) (fun it s₂ => LoopG prog w A env target body Q E it s₂) E s := by
  have hl : s.heap.get? la = some (listOf items nl) := (N _ (hla _ _ _ _ h0)).1
  refine wpAny_pyIter_list (Heap.PlainList.isList ⟨nl, hl⟩) ?_
  have hI : s.heap.get? s.heap.objs.size = none := by
    cases e : s.heap.get? s.heap.objs.size with
    | none => rfl
    | some o' => exact absurd (Heap.lt_size e) (Nat.lt_irrefl _)
  have hKl : (onlyH s.heap la).IsList la items := Heap.PlainList.isList ⟨nl, onlyH_self hl⟩
  have hKI : (onlyH s.heap la).get? s.heap.objs.size = none := by
    cases e : (onlyH s.heap la).get? s.heap.objs.size with
    | none => rfl
    | some o' => exact absurd (Heap.lt_size (of_hideAll _ e)) (Nat.lt_irrefl _)
  refine it_T J (It.list (prog := prog) (w := w) (A := A) hKl hKI (.inl hh)) (o₀ := { cls := .type "list_iterator", data := .fields #[.ref la, .int (0 : Nat) 0] }) ⟨rfl, rfl⟩ (Heap.get?_push_size _ rfl) (fun e => absurd F.ns.lt (by rw [e]; exact Nat.lt_irrefl _)) (next_is_new F) (F.push _)
    (fun p hp => ⟨Heap.get?_push_of_some _ (N p hp).1, (N p hp).2⟩) (fun p hp e => absurd (Heap.lt_size (N p hp).1) (by rw [e]; exact Nat.lt_irrefl _)) h0 hT ?_ ?_ ?_ done hE
  · intro i g m' news' hJ b o e
    obtain ⟨rfl, e'⟩ := onlyH_get e
    rw [hl] at e'
    cases e'
    exact hla _ _ _ _ hJ
  · rcases htgt with h | ⟨h1, h2⟩
    · exact .inl h
    · exact .inr ⟨h1, fun i v _ hv => h2 i v hv⟩
  · exact fun i v g m₁ news₁ h tk own _ hP hJ hnI ho F₁ N₁ => step i v g m₁ news₁ h tk own _ hP hJ hnI ho F₁ N₁
end
end
section
open PySem PySem.W PyProof.Rows
set_option Elab.async false
set_option linter.unusedSimpArgs false

/-- the name of two numbers -/
noncomputable def nameF (x y mk : Int) : Array UInt8 := if x.fmod 6 = 0 then #[] else if y.fmod 6 = 0 then #[] ++ three (numF x mk) else #[] ++ three (numF x mk) ++ three (numF y mk)
theorem refn2 {m m0 : Str → Option Value} {a b : Str} {v : Value} (h1 : m a = some v) (h2 : ∀ z, z ≠ a → z ≠ b → m z = m0 z) : m = fun z => if z = a then some v else if z = b then m b else m0 z := by
  funext z
  by_cases q : z = a
  · rw [if_pos q, q, h1]
  · rw [if_neg q]
    by_cases r : z = b
    · rw [if_pos r, r]
    · rw [if_neg r, h2 z q r]
theorem refn1 {m m0 : Str → Option Value} {a b : Str} {v : Value} (h1 : m a = some v) (h2 : ∀ z, z ≠ a → z ≠ b → m z = m0 z) : ∃ u : Str → Option Value, m = fun z => if z = a then some v else if z = b then u z else m0 z := ⟨m, by
  funext z
  by_cases q : z = a
  · rw [if_pos q, q, h1]
  · rw [if_neg q]
    by_cases r : z = b
    · rw [if_pos r]
    · rw [if_neg r, h2 z q r]⟩
/-- the name so far -/
noncomputable def nameAt (x y mk : Int) : Nat → Array UInt8
  | 0 => #[]
  | 1 => #[] ++ three (numF x mk)
  | _ => #[] ++ three (numF x mk) ++ three (numF y mk)
structure NameJ (g₀ : Heap) (nx₀ : List (Addr × Obj)) (m₀ : Str → Option Value) (x y mk : Int) (i : Nat) (g : Heap) (m : Str → Option Value) (nx : List (Addr × Obj)) : Prop where
  g : g = g₀
  nx : nx = nx₀
  name : ∃ t, m (Str.ofString "name") = some (.bytes (nameAt x y mk i) t)
  same : ∀ z, z ≠ Str.ofString "name" → z ≠ Str.ofString "x" → m z = m₀ z
  hx : 1 ≤ i → x.fmod 6 ≠ 0
  hy : 2 ≤ i → y.fmod 6 ≠ 0
theorem name_loop {prog : Program} {w : World} {A : Around} {E : Value → Shared → Prop} {s : Shared} {env : Env} {Q : Flow → Shared → Prop} {px : Pos} {body : List Stmt} {la : Addr} {x y mk : Int} {tx ty t0 : Tok} {nn : Nat} {g₀ : Heap} {m : Str → Option Value} {news : List (Addr × Obj)}
    (hh : A.handled = none) (F : Fr g₀ env.locals s.heap m) (N : News g₀ env.locals s.heap ((la, listOf #[.int x tx, .int y ty] nn) :: news)) (hn : m (Str.ofString "name") = some (.bytes #[] t0))
    (step : ∀ (i : Nat) z tz tn (u : Str → Option Value) h tk own I, (i = 0 ∧ z = x) ∨ (i = 1 ∧ z = y ∧ x.fmod 6 ≠ 0) → (∀ q ∈ (la, listOf #[.int x tx, .int y ty] nn) :: news, q.1 ≠ I) → (∀ q ∈ own, q.1 = I) →
      Fr g₀ env.locals h (fun v => if v = Str.ofString "name" then some (.bytes (nameAt x y mk i) tn) else if v = Str.ofString "x" then u v else m v) → News g₀ env.locals h ((la, listOf #[.int x tx, .int y ty] nn) :: (news ++ own)) →
      wpAny (model prog w) A (assign (.Name (Str.ofString "x") px) env (.int z tz)) (fun _ s₂ => wpAny (model prog w) A (execs body env) (TPost env.locals I own (NameJ g₀ ((la, listOf #[.int x tx, .int y ty] nn) :: news) m x y mk (i + 1)) s Q) E s₂) E { s with heap := h, toks := tk })
    (done : ∀ tn (u : Str → Option Value) h tk, x.fmod 6 ≠ 0 → y.fmod 6 ≠ 0 → Fr g₀ env.locals h (fun v => if v = Str.ofString "name" then some (.bytes (nameAt x y mk 2) tn) else if v = Str.ofString "x" then u v else m v) → News g₀ env.locals h ((la, listOf #[.int x tx, .int y ty] nn) :: news) → Q .next { s with heap := h, toks := tk })
    (hE : PassesOwn (model prog w) A env E) :
    wpAny (model prog w) A (pyIter (.ref la)) (fun it s₂ => LoopG prog w A env (.Name (Str.ofString "x") px) body Q E it s₂) E s := by
  refine list_T (la := la) (items := #[.int x tx, .int y ty]) (nl := nn) (NameJ g₀ ((la, listOf #[.int x tx, .int y ty] nn) :: news) m x y mk) hh F N ⟨rfl, rfl, ⟨_, hn⟩, fun _ _ _ => rfl, fun h => absurd h (by decide), fun h => absurd h (by decide)⟩ ?_ ?_ (.inl ⟨_, _, rfl⟩) ?_ ?_ hE
  · rintro i g m' nx ⟨rfl, _⟩; exact ⟨rfl, fun _ h => h⟩
  · rintro i g m' nx ⟨_, rfl, _⟩; exact List.mem_cons_self
  · rintro i v g m₁ nx h tk own I hv ⟨e1, e2, ⟨tn, hn⟩, hsame, hx, hy⟩ hnI hoI F9 N9
    subst e1 e2
    obtain ⟨u, hu⟩ := refn1 hn hsame
    subst hu
    have hi : i = 0 ∨ i = 1 := by
      have := (Array.getElem?_eq_some_iff.mp hv).1
      simp at this; lia
    rcases hi with rfl | rfl
    · have e : v = .int x tx := by simpa using hv.symm
      subst e
      exact step 0 x tx tn u h tk own I (.inl ⟨rfl, rfl⟩) hnI hoI F9 N9
    · have e : v = .int y ty := by simpa using hv.symm
      subst e
      exact step 1 y ty tn u h tk own I (.inr ⟨rfl, rfl, hx (by decide)⟩) hnI hoI F9 N9
  · rintro g m' nx h tk ⟨e1, e2, ⟨tn, hn⟩, hsame, hx, hy⟩ F9 N9
    subst e1 e2
    obtain ⟨u, hu⟩ := refn1 hn hsame
    subst hu
    exact done tn u h tk (hx (by simp)) (hy (by simp)) F9 N9
theorem name_end {L I : Addr} {own nx nx₀ : List (Addr × Obj)} {g₀ h : Heap} {m₀ m₂ : Str → Option Value} {x y mk : Int} {i tk : Nat} {s : Shared} (F : Fr g₀ L h m₂) (N : News g₀ L h nx) (hs : ∀ q ∈ nx₀, q ∈ nx) (ho : ∀ q ∈ own, q ∈ nx) (hI : ∀ q ∈ nx₀, q.1 ≠ I)
    (hn : ∃ t, m₂ (Str.ofString "name") = some (.bytes (nameAt x y mk i) t)) (same : ∀ z, z ≠ Str.ofString "name" → z ≠ Str.ofString "x" → m₂ z = m₀ z) (hx : 1 ≤ i → x.fmod 6 ≠ 0) (hy : 2 ≤ i → y.fmod 6 ≠ 0) :
    TEnd L I own (NameJ g₀ nx₀ m₀ x y mk i) s { s with heap := h, toks := tk } :=
  ⟨g₀, h, tk, m₂, nx₀, nx, rfl, F, N, hs, ho, hI, rfl, rfl, hn, same, hx, hy⟩
theorem three_size (N : Int) : (three N).size = 3 := by simp [three, byteArr]
set_option maxRecDepth 100000 in
set_option maxHeartbeats 8000000 in
theorem name_spec (w : World) (mean : ExcName → Option Value) (mg mb : Str → Option Value) (news : List (Addr × Obj)) (x y mk : Int) (tx ty tm : Tok) (la : Addr) (nn : Nat) (hm0 : 0 ≤ mk) (hm1 : mk < 64) :
    Sp w mean mg mb none 153 3 ((la, listOf #[.int x tx, .int y ty] nn) :: news) [.ref la, .int mk tm] [] (fun v n => (∃ t, v = .bytes (nameF x y mk) t) ∧ n = (la, listOf #[.int x tx, .int y ty] nn) :: news) (fun _ _ => False) := by
  w_on
  k_with_none
  k_with "eval BinOp" => (k_here; k_dflt (refine' AE.wp ?kk ?kF ?kH ?_; (case kF => k_asm); (case kk => rfl); (case kH => ((repeat' (first | exact AE.int | apply AE.add | apply AE.sub | apply AE.mul | apply AE.mod | apply AE.fdiv | apply AE.and_ | apply AE.or_ | apply AE.shl | apply AE.shr | apply AE.pow | exact AE.name rfl rfl (by decide) | (show IntMulOk _ _; mul_fits) | decide | exact PyProof.noPylong_of_log2 (by decide +kernel) | omega)); done)); k_whole; intro _ _; (try rw [ae6])))
  k_with "isTrue Compare" => (k_here; k_dflt (refine' TE.wp ?kk ?kF ?kH ?_; (case kF => k_asm); (case kk => rfl); (case kH => ((first | apply TE.lt | apply TE.le | apply TE.gt | apply TE.ge | apply TE.eq | apply TE.ne) <;> first | (with_unfolding_all rfl) | ((repeat' (first | exact AE.int | apply AE.add | apply AE.sub | apply AE.mul | apply AE.mod | apply AE.fdiv | apply AE.and_ | apply AE.or_ | apply AE.shl | apply AE.shr | apply AE.pow | exact AE.name rfl rfl (by decide) | (show IntMulOk _ _; mul_fits) | decide | exact PyProof.noPylong_of_log2 (by decide +kernel) | omega)); done))); k_whole; intro _))
  k_with "eval Constant int" => (k_here; (with_reducible refine flat_int ?_))
  k_with "execs cons" => (k_here; (first | (with_reducible show wpAny _ _ _ (fun _ => LeaveK _ _ _ _ _ _) _ _) | (with_reducible show wpAny _ _ _ (BPost _ _ _ _ _ _ _) _ _) | (with_reducible show wpAny _ _ _ (TPost _ _ _ _ _ _) _ _) | (with_reducible show wpAny _ _ _ (KswPost _ _ _ _ _ _ _ _ _ _ _ _) _ _) | (with_reducible show wpAny _ _ _ (fun _ _ => LeaveK _ _ _ _ _ _ _) _ _)); k_fold; (with_reducible refine wpAny_execs_cons ?_); (try dsimp only))
  k_with "call type:type" => (k_here; (first | ((with_reducible show wpAny _ _ (call (Value.type "type") [Value.bytes _ _]) _ _ _); refine call_type_of (typeIs_bytes _ _ _) (by decide) ?_) | ((with_reducible show wpAny _ _ (call (Value.type "type") [Value.str _ _]) _ _ _); refine call_type_of (typeIs_str _ _ _) (by decide) ?_)))
  k_with "call builtin:len" => (k_here; (with_reducible show wpAny _ _ (call (Value.builtin "len") [Value.bytes _ _]) _ _ _); (refine' len_bytes ?k1 ?_; (case k1 => ((try simp only [encA_size, trA_size]); omega))))
  k_with "getMethod str" => (k_here; (with_reducible refine method_encode ?_))
  k_with "call builtin:str.encode" => (k_here; (refine' call_encode ?kx ?ks ?_; (case kx => assumption); (case ks => size_fits)); intro _ _)
  k_with "getMethod bytes" => (k_here; (with_reducible refine method_translate ?_))
  k_with "call builtin:bytes.translate" => (k_here; (try dsimp only [List.cons_append, List.nil_append]); (refine' call_translate ?kx ?ks ?_; (case kx => exact mkTab_size _ _); (case ks => first | ((try simp only [encA_size, trA_size, PySem.sizeLine_eq]); omega) | size_fits)); intro _ _)
  k_with "getMethod type:bytes" => (k_here; refine' method_type ?F ?X ?m (by decide +kernel) ?e ?h ?_; (case F => k_asm); (case X => k_asm); (case m => exact meta_bytes); (case e => k_dflt k_is); (case h => k_handed))
  k_with "call builtin:bytes.maketrans" => (k_here; (refine' call_maketrans ?kx ?_; (case kx => first | rfl | assumption | (simp; done) | omega)); intro _ _)
  k_with "call builtin:len" => (k_here; (with_reducible show wpAny _ _ (call (Value.builtin "len") [Value.ref _]) _ _ _); refine' len_list (News.isList ?kN ?km) ?kz ?_; (case kN => k_asm); (case km => k_mem); (case kz => ((try simp only [List.size_toArray]); omega)))
  k_with "BPost" => (dsimp only [BPost])
  k_with "call builtin:list.append" => (k_here; (try dsimp only [List.cons_append, List.nil_append]); k_dflt (refine' append_K ?k1 ?k2 ?k3 ?_ ?z; (case k1 => k_asm); (case k2 => k_asm); (case k3 => k_upd); (case z => size_fits); k_whole); intro _ _ _; (try k_sweep))
  k_with "call type:bytes" => (k_here; (with_reducible show wpAny _ _ (call (Value.type _) [Value.ref _]) _ _ _); k_dflt (refine' bytes_K ?z9F ?z9N ?l ?i ?r ?z ?h ?_; (case z9F => k_asm); (case z9N => k_asm); (case l => is_list); (case i => assumption); (case r => assumption); (case z => size_fits); (case h => with_unfolding_all rfl); k_whole); intro _ _ _ _ _ _; (try k_sweep))
  k_with "binaryOp Mod int int" => (k_here; (first | (refine mod_int (by decide) ?_) | (refine mod_int' (by decide) ?_)))
  k_with "binaryOp Add bytes bytes" => (k_here; (with_reducible refine' KBy.add_bytes ?kz ?_); (case kz => (simp only [three_size]; (try rw [List.size_toArray, List.length_nil]); omega)); intro _ _)
  k_with "TPost" => (dsimp only [TPost])
  k_with "call ref" => (k_here; (with_reducible show wpAny _ _ (call (Value.ref 146) [Value.int _ _, Value.int _ _] []) _ _ _); k_dflt (refine' three_spec _ _ _ _ _ _ _ _ _ ?kh1 ?kh2 ?kh3 _ _ _ _ _ _ _ _ _ _ _ _ _ ?kef ?kek ?kB ?kD ?kF ?kX ?kN ?kT ?kd ?ku ?_ ?ke; (case kef => exact rfl); (case kek => exact rfl); (case kB => k_asm); (case kD => k_asm); (case kF => k_asm); (case kX => k_asm); (case kN => k_asm); (case kT => k_asm); (case kd => ((try dsimp only [topM, Around.deeper]); omega)); (case ku => ((try dsimp only [topM, Around.deeper]); omega)); (case kh1 => assumption); (case kh2 => assumption); (case kh3 => assumption); (case ke => (intro _ _ _ _ _ _ _ hx'; exact False.elim hx')); intro v' n' h' tk' hR' F' N'; obtain ⟨⟨t1', e1'⟩, e2'⟩ := hR'; (replace e2' := Eq.symm e2'); subst e1' e2';  (try k_sweep); (try dsimp only); (try k_fold)))
  k_with "exec For Name Name cons nil" => (k_here; (with_unfolding_all refine For_G ?_))
  unfold Sp
  k_fill
  intro dp un gd env outer A₀ base h₀ L m s Q E hef hek B D F X N T hdp hun hret hexc
  refine wpAny_call ?_
  k_dflt (refine' code_def ?k1 ?k2 ?k3 ?k4 ?k5 ?kA ?kF ?kK ?k6 ?k7 ?k8 ?k9 ?kB ?_ ?c2 ?c3 ?c4 ?c5; (case kA => exact rfl); (case kF => exact hef); (case kK => exact hek); (case k1 => exact B); (case k2 => exact F); (case k3 => exact X); (case k4 => exact N); (case k5 => exact T); (case k6 => k_is); (case k7 => k_is); (case k8 => (show dp < recursionLimit; omega)); (case k9 => first | exact BindsTo.of_eq rfl | exact binds_K (by k_in) rfl (by k_is) rfl rfl rfl | (refine' kp_binds ?z1 ?z2; (case z1 => k_in); (case z2 => (intro S; rfl)))); (case c5 => decide); (case kB => exact locs rfl); (case c2 => exact rfl); (case c3 => exact rfl); (case c4 => exact rfl); k_whole; intro g' L' h' FG F' N' B' X' T'; (have D' := dicts_push hef FG D); (try dsimp only); (try k_fold))
  k_steps
  (rename Fr g' L' _ _ => Fc); (rename News g' L' _ _ => Nc)
  refine' name_loop (mk := mk) ?z1 Fc Nc ?z2 ?_ ?_ ?z6
  case z1 => exact rfl
  case z2 => exact rfl
  case z6 => passes_own
  · intro i z tz tn u h tk own I hi hnI hoI F9 N9
    clear Fc Nc
    have n0 : nameAt x y mk 0 = #[] := rfl
    have n1 : nameAt x y mk 1 = #[] ++ three (numF x mk) := rfl
    have n2 : nameAt x y mk 2 = #[] ++ three (numF x mk) ++ three (numF y mk) := rfl
    rcases hi with ⟨e1, e2⟩ | ⟨e1, e2, hx⟩
    · subst e1
      rw [n0] at F9
      rw [show 0 + 1 = 1 from rfl]
      have e2' := e2.symm
      subst e2'
      k_steps
      · exact hret _ _ _ _ ⟨⟨_, congrArg (fun b => Value.bytes b tn) (by unfold nameF; rw [if_pos (by assumption)])⟩, rfl⟩ (by assumption) (fun p hp => (by assumption : News h₀ L _ _) p (List.mem_append_left own hp))
      · refine name_end (by assumption) (by assumption) (fun q hq => List.mem_append_left own hq) (fun q hq => List.mem_append_right (_ :: news) hq) hnI ?_ ?_ (fun _ => by assumption) (fun h => absurd h (by decide))
        · exact ⟨_, (if_pos rfl).trans (congrArg (fun b => some (Value.bytes b _)) (by rw [n1]))⟩
        · intro z h1 h2; simp only [if_neg h1, if_neg h2]
    · subst e1
      have e2' := e2.symm
      subst e2'
      rw [show 1 + 1 = 2 from rfl]
      have s1 : (nameAt x y mk 1).size = 3 := by rw [n1]; simp [three, byteArr]
      generalize hb : nameAt x y mk 1 = b1 at *
      k_steps
      · exact hret _ _ _ _ ⟨⟨_, congrArg (fun b => Value.bytes b tn) (by unfold nameF; rw [if_neg hx, if_pos (by assumption)]; exact n1)⟩, rfl⟩ (by assumption) (fun p hp => (by assumption : News h₀ L _ _) p (List.mem_append_left own hp))
      · refine name_end (by assumption) (by assumption) (fun q hq => List.mem_append_left own hq) (fun q hq => List.mem_append_right (_ :: news) hq) hnI ?_ ?_ (fun _ => hx) (fun _ => by assumption)
        · exact ⟨_, (if_pos rfl).trans (congrArg (fun b => some (Value.bytes b _)) (by rw [n2, n1]))⟩
        · intro z h1 h2; simp only [if_neg h1, if_neg h2]
  · intro tn u h tk hx hy F9 N9
    clear Fc Nc
    have n2 : nameAt x y mk 2 = #[] ++ three (numF x mk) ++ three (numF y mk) := rfl
    generalize hb : nameAt x y mk 2 = b2 at *
    k_steps
    exact hret _ _ _ _ ⟨⟨_, congrArg (fun b => Value.bytes b tn) (by unfold nameF; rw [if_neg hx, if_neg hy]; exact n2)⟩, rfl⟩ (by assumption) (by assumption)
end
section
open PySem PySem.W PyProof.Rows
set_option Elab.async false
set_option linter.unusedSimpArgs false

theorem refnT {m m0 : Str → Option Value} {L5 : List Str} {a : Str} {v : Value} (h1 : m a = some v) (h2 : ∀ z, z ≠ a → z ∉ L5 → m z = m0 z) : ∃ u : Str → Option Value, m = fun z => if z = a then some v else if z ∈ L5 then u z else m0 z := ⟨m, by
  funext z
  by_cases q : z = a
  · rw [if_pos q, q, h1]
  · rw [if_neg q]
    by_cases r : z ∈ L5
    · rw [if_pos r]
    · rw [if_neg r, h2 z q r]⟩
noncomputable def sgs (p : Str) : Str := Str.ofString "ABCDEFGHIJKLMNOPQRSTUVWXYZabcdefghijklmnopqrstuvwxyz0123456789" ++ p
/-- the octets' number at a place -/
noncomputable def numAt (b : Array UInt8) (i : Nat) : Int := (((b.toList.getD (3 * i) 0).toNat : Int) * 256 + ((b.toList.getD (3 * i + 1) 0).toNat : Int)) * 256 + ((b.toList.getD (3 * i + 2) 0).toNat : Int)
/-- the sign of a six-bit number -/
noncomputable def sgn (p : Str) (v : Int) : Str := Txt.item (sgs p) v
/-- a text, with the first j signs of a number -/
noncomputable def wpart (p : Str) (N : Int) (W : Str) (j : Nat) : Str := ([(262144 : Int), 4096, 64, 1].take j).foldl (fun t u => t ++ sgn p ((N.fdiv u).fmod 64)) W
/-- what is written of the first i threes -/
noncomputable def wrt (b : Array UInt8) (p : Str) : Nat → Str
  | 0 => Str.ofString ""
  | i + 1 => wpart p (numAt b i) (wrt b p i) 4
theorem str_len (a b : Str) : (a ++ b).length = a.length + b.length := Array.size_append
theorem wpart_succ (p : Str) (N : Int) (W : Str) (j : Nat) (uv : Int) (h : [(262144 : Int), 4096, 64, 1][j]? = some uv) : wpart p N W (j + 1) = wpart p N W j ++ sgn p ((N.fdiv uv).fmod 64) := by
  unfold wpart
  rw [List.take_add_one, h, List.foldl_append]
  rfl
theorem wpart_len (p : Str) (N : Int) (W : Str) : ∀ j, j ≤ 4 → (wpart p N W j).length = W.length + j
  | 0, _ => rfl
  | j + 1, h => by
    have hj : j < 4 := by lia
    have e : [(262144 : Int), 4096, 64, 1][j]? = some ([(262144 : Int), 4096, 64, 1][j]'(by simpa using hj)) := List.getElem?_eq_getElem _
    rw [wpart_succ p N W j _ e, str_len, wpart_len p N W j (by lia)]
    rfl
theorem wrt_len (b : Array UInt8) (p : Str) : ∀ i, (wrt b p i).length = 4 * i
  | 0 => by show (Str.ofString "").length = 0; decide
  | i + 1 => by
    show (wpart p (numAt b i) (wrt b p i) 4).length = _
    rw [wpart_len _ _ _ _ (by decide), wrt_len b p i]
    lia
theorem refn3 {m m0 : Str → Option Value} {a b c d : Str} {v : Value} (h1 : m a = some v) (h2 : ∀ z, z ≠ a → z ≠ b → z ≠ c → z ≠ d → m z = m0 z) : ∃ u : Str → Option Value, m = fun z => if z = a then some v else if z = b then u z else if z = c then u z else if z = d then u z else m0 z := ⟨m, by
  funext z
  by_cases q : z = a
  · rw [if_pos q, q, h1]
  · rw [if_neg q]
    by_cases r : z = b
    · rw [if_pos r]
    · rw [if_neg r]
      by_cases r2 : z = c
      · rw [if_pos r2]
      · rw [if_neg r2]
        by_cases r3 : z = d
        · rw [if_pos r3]
        · rw [if_neg r3, h2 z q r r2 r3]⟩
structure WrJ (g₀ : Heap) (nx₀ : List (Addr × Obj)) (m₀ : Str → Option Value) (b : Array UInt8) (p : Str) (i : Nat) (g : Heap) (m : Str → Option Value) (nx : List (Addr × Obj)) : Prop where
  g : g = g₀
  nx : nx = nx₀
  text : ∃ t, m (Str.ofString "text") = some (.str (wrt b p i) t)
  same : ∀ z, z ≠ Str.ofString "text" → z ≠ Str.ofString "place" → z ≠ Str.ofString "number" → z ≠ Str.ofString "unit" → m z = m₀ z
theorem wr_loop {prog : Program} {w : World} {A : Around} {E : Value → Shared → Prop} {s : Shared} {env : Env} {Q : Flow → Shared → Prop} {px : Pos} {body : List Stmt} {ra : Addr} {b : Array UInt8} {p : Str} {t u v t0 : Tok} {n : Nat} {g₀ : Heap} {m : Str → Option Value} {news : List (Addr × Obj)} {bb : Int}
    (hh : A.handled = none) (hr : IsRange s.heap ra 0 bb 3 t u v) (hn : Builtin.Range.small 0 bb 3 = true ∧ Builtin.Range.rangeSize 0 bb 3 = (n : Int)) (F : Fr g₀ env.locals s.heap m) (N : News g₀ env.locals s.heap news) (hm : m (Str.ofString "text") = some (.str (Str.ofString "") t0))
    (step : ∀ (i : Nat) z tz tn (u : Str → Option Value) h tk own I, i < n → z = 3 * (i : Int) → (∀ q ∈ news, q.1 ≠ I) → (∀ q ∈ own, q.1 = I) →
      Fr g₀ env.locals h (fun v => if v = Str.ofString "place" then some (.int z tz) else if v = Str.ofString "text" then some (.str (wrt b p i) tn) else if v = Str.ofString "place" then u v else if v = Str.ofString "number" then u v else if v = Str.ofString "unit" then u v else m v) → News g₀ env.locals h (news ++ own) →
      wpAny (model prog w) A (execs body env) (TPost env.locals I own (WrJ g₀ news m b p (i + 1)) s Q) E { s with heap := h, toks := tk })
    (done : ∀ tn (u : Str → Option Value) h tk, Fr g₀ env.locals h (fun v => if v = Str.ofString "text" then some (.str (wrt b p n) tn) else if v = Str.ofString "place" then u v else if v = Str.ofString "number" then u v else if v = Str.ofString "unit" then u v else m v) → News g₀ env.locals h news → Q .next { s with heap := h, toks := tk })
    (hx : env.kindOf (Str.ofString "place") = some .local) (hp : (env.scope.kind == .class || (env.scope.kind == .module && env.locals != env.globals)) = false)
    (hE : PassesOwn (model prog w) A env E) :
    wpAny (model prog w) A (pyIter (.ref ra)) (fun it s₂ => LoopT prog w A env (Str.ofString "place") px body Q E it s₂) E s := by
  refine range_T (WrJ g₀ news m b p) hh hr hn.1 hn.2 F N ⟨rfl, rfl, ⟨_, hm⟩, fun _ _ _ _ _ => rfl⟩ ?_ ?_ ?_ hx hp hE
  · rintro i g m' nx ⟨rfl, _⟩; exact ⟨rfl, fun _ h => h⟩
  · rintro i k tk' g m₁ nx h tk own I hi hk ⟨e1, e2, ⟨tn, hn⟩, hsame⟩ hnI hoI F9 N9
    subst e1 e2
    obtain ⟨u, hu⟩ := refn3 hn hsame
    subst hu
    exact step i k tk' tn u h tk own I hi (by lia) hnI hoI F9 N9
  · rintro g m' nx h tk ⟨e1, e2, ⟨tn, hn⟩, hsame⟩ F9 N9
    subst e1 e2
    obtain ⟨u, hu⟩ := refn3 hn hsame
    subst hu
    exact done tn u h tk F9 N9
structure UnJ (g₀ : Heap) (nx₀ : List (Addr × Obj)) (m₀ : Str → Option Value) (p : Str) (N : Int) (W : Str) (i : Nat) (g : Heap) (m : Str → Option Value) (nx : List (Addr × Obj)) : Prop where
  g : g = g₀
  nx : nx = nx₀
  text : ∃ t, m (Str.ofString "text") = some (.str (wpart p N W i) t)
  same : ∀ z, z ≠ Str.ofString "text" → z ≠ Str.ofString "unit" → m z = m₀ z
theorem refn2' {m m0 : Str → Option Value} {a b : Str} {v : Value} (h1 : m a = some v) (h2 : ∀ z, z ≠ a → z ≠ b → m z = m0 z) : ∃ u : Str → Option Value, m = fun z => if z = a then some v else if z = b then u z else m0 z := ⟨m, by
  funext z
  by_cases q : z = a
  · rw [if_pos q, q, h1]
  · rw [if_neg q]
    by_cases r : z = b
    · rw [if_pos r]
    · rw [if_neg r, h2 z q r]⟩
theorem un_loop {prog : Program} {w : World} {A : Around} {E : Value → Shared → Prop} {s : Shared} {env : Env} {Q : Flow → Shared → Prop} {px : Pos} {body : List Stmt} {D : Addr} {t1 t2 t3 t4 t0 : Tok} {nl : Nat} {g₀ : Heap} {m : Str → Option Value} {news : List (Addr × Obj)} {p W : Str} {N : Int}
    (hh : A.handled = none) (F : Fr g₀ env.locals s.heap m) (Nn : News g₀ env.locals s.heap ((D, tupObj #[.int 262144 t1, .int 4096 t2, .int 64 t3, .int 1 t4] nl) :: news)) (hm : m (Str.ofString "text") = some (.str W t0))
    (step : ∀ (i : Nat) uv tz tn (u : Str → Option Value) h tk own I, i < 4 → [(262144 : Int), 4096, 64, 1][i]? = some uv → 0 < uv → uv ≤ 262144 → (∀ q ∈ (D, tupObj #[.int 262144 t1, .int 4096 t2, .int 64 t3, .int 1 t4] nl) :: news, q.1 ≠ I) → (∀ q ∈ own, q.1 = I) →
      Fr g₀ env.locals h (fun v => if v = Str.ofString "text" then some (.str (wpart p N W i) tn) else if v = Str.ofString "unit" then u v else m v) → News g₀ env.locals h ((D, tupObj #[.int 262144 t1, .int 4096 t2, .int 64 t3, .int 1 t4] nl) :: (news ++ own)) →
      wpAny (model prog w) A (assign (.Name (Str.ofString "unit") px) env (.int uv tz)) (fun _ s₂ => wpAny (model prog w) A (execs body env) (TPost env.locals I own (UnJ g₀ ((D, tupObj #[.int 262144 t1, .int 4096 t2, .int 64 t3, .int 1 t4] nl) :: news) m p N W (i + 1)) s Q) E s₂) E { s with heap := h, toks := tk })
    (done : ∀ tn (u : Str → Option Value) h tk, Fr g₀ env.locals h (fun v => if v = Str.ofString "text" then some (.str (wpart p N W 4) tn) else if v = Str.ofString "unit" then u v else m v) → News g₀ env.locals h ((D, tupObj #[.int 262144 t1, .int 4096 t2, .int 64 t3, .int 1 t4] nl) :: news) → Q .next { s with heap := h, toks := tk })
    (hE : PassesOwn (model prog w) A env E) :
    wpAny (model prog w) A (pyIter (.ref D)) (fun it s₂ => LoopG prog w A env (.Name (Str.ofString "unit") px) body Q E it s₂) E s := by
  refine tup_T (la := D) (items := #[.int 262144 t1, .int 4096 t2, .int 64 t3, .int 1 t4]) (nl := nl) (UnJ g₀ ((D, tupObj #[.int 262144 t1, .int 4096 t2, .int 64 t3, .int 1 t4] nl) :: news) m p N W) hh F Nn ⟨rfl, rfl, ⟨_, hm⟩, fun _ _ _ => rfl⟩ ?_ ?_ (.inl ⟨_, _, rfl⟩) ?_ ?_ hE
  · rintro i g m' nx ⟨rfl, _⟩; exact ⟨rfl, fun _ h => h⟩
  · rintro i g m' nx ⟨_, rfl, _⟩; exact List.mem_cons_self
  · rintro i v g m₁ nx h tk own I hv ⟨e1, e2, ⟨tn, hn⟩, hsame⟩ hnI hoI F9 N9
    subst e1 e2
    obtain ⟨u, hu⟩ := refn2' hn hsame
    subst hu
    have hi : i = 0 ∨ i = 1 ∨ i = 2 ∨ i = 3 := by
      have := (Array.getElem?_eq_some_iff.mp hv).1
      simp at this; lia
    rcases hi with rfl | rfl | rfl | rfl
    · have e : v = .int 262144 t1 := by simpa using hv.symm
      subst e
      exact step 0 _ _ tn u h tk own I (by decide) rfl (by decide) (by decide) hnI hoI F9 N9
    · have e : v = .int 4096 t2 := by simpa using hv.symm
      subst e
      exact step 1 _ _ tn u h tk own I (by decide) rfl (by decide) (by decide) hnI hoI F9 N9
    · have e : v = .int 64 t3 := by simpa using hv.symm
      subst e
      exact step 2 _ _ tn u h tk own I (by decide) rfl (by decide) (by decide) hnI hoI F9 N9
    · have e : v = .int 1 t4 := by simpa using hv.symm
      subst e
      exact step 3 _ _ tn u h tk own I (by decide) rfl (by decide) (by decide) hnI hoI F9 N9
  · rintro g m' nx h tk ⟨e1, e2, ⟨tn, hn⟩, hsame⟩ F9 N9
    subst e1 e2
    obtain ⟨u, hu⟩ := refn2' hn hsame
    subst hu
    exact done tn u h tk F9 N9
theorem un_end {L I : Addr} {own nx nx₀ : List (Addr × Obj)} {g₀ h : Heap} {m₀ m₂ : Str → Option Value} {p W : Str} {N : Int} {i tk : Nat} {s : Shared} (F : Fr g₀ L h m₂) (Nn : News g₀ L h nx) (hs : ∀ q ∈ nx₀, q ∈ nx) (ho : ∀ q ∈ own, q ∈ nx) (hI : ∀ q ∈ nx₀, q.1 ≠ I)
    (hn : ∃ t, m₂ (Str.ofString "text") = some (.str (wpart p N W i) t)) (same : ∀ z, z ≠ Str.ofString "text" → z ≠ Str.ofString "unit" → m₂ z = m₀ z) :
    TEnd L I own (UnJ g₀ nx₀ m₀ p N W i) s { s with heap := h, toks := tk } :=
  ⟨g₀, h, tk, m₂, nx₀, nx, rfl, F, Nn, hs, ho, hI, rfl, rfl, hn, same⟩
theorem wr_end {L I : Addr} {own nx nx₀ : List (Addr × Obj)} {g₀ h : Heap} {m₀ m₂ : Str → Option Value} {b : Array UInt8} {p : Str} {i tk : Nat} {s : Shared} (F : Fr g₀ L h m₂) (N : News g₀ L h nx) (hs : ∀ q ∈ nx₀, q ∈ nx) (ho : ∀ q ∈ own, q ∈ nx) (hI : ∀ q ∈ nx₀, q.1 ≠ I)
    (hn : ∃ t, m₂ (Str.ofString "text") = some (.str (wrt b p i) t)) (same : ∀ z, z ≠ Str.ofString "text" → z ≠ Str.ofString "place" → z ≠ Str.ofString "number" → z ≠ Str.ofString "unit" → m₂ z = m₀ z) :
    TEnd L I own (WrJ g₀ nx₀ m₀ b p i) s { s with heap := h, toks := tk } :=
  ⟨g₀, h, tk, m₂, nx₀, nx, rfl, F, N, hs, ho, hI, rfl, rfl, hn, same⟩
theorem b_item {prog : Program} {w : World} {A : Around} {E : Value → Shared → Prop} {s : Shared} {value slice : Expr} {b : Array UInt8} {t ui : Tok} {i : Int} {Q : Value → Shared → Prop} (hz : b.size ≤ 1000) (h0 : 0 ≤ i) (h1 : i < (b.size : Int)) (h : Q (.int ((b.toList.getD i.toNat 0).toNat : Int) s.toks) { s with toks := s.toks + 1 })
    (hs : subscripted slice false (.bytes b t) (.int i ui) = operate [.bytes b t, .int i ui] (getItem (.bytes b t) (.int i ui)) := by with_unfolding_all rfl)
    (ht : ∀ r, letTemporaryGo value (.bytes b t) r = pure () := by intro _; with_unfolding_all rfl) :
    wpAny (model prog w) A (subscriptTail value slice (.bytes b t) (.int i ui)) Q E s := by
  obtain ⟨l⟩ := b
  have e : (({ toList := l } : Array UInt8).size : Int) = (l.length : Int) := rfl
  have e' : ({ toList := l } : Array UInt8).size = l.length := rfl
  exact KBy.item_N (x := l) (by lia) h0 (by lia) h hs ht
theorem fm64 (x : Int) : -(((64 : Nat)) : Int) ≤ x.fmod 64 ∧ x.fmod 64 < ((64 : Nat) : Int) := ⟨by have := Int.fmod_nonneg_of_pos x (by decide : (0 : Int) < 64); lia, by have := Int.fmod_lt_of_pos x (by decide : (0 : Int) < 64); lia⟩
theorem sgs_len {p : Str} (hp : p.length = 2) : (sgs p).length = 64 := by
  have : (Str.ofString "ABCDEFGHIJKLMNOPQRSTUVWXYZabcdefghijklmnopqrstuvwxyz0123456789").length = 62 := by decide
  have h2 : (sgs p).length = (Str.ofString "ABCDEFGHIJKLMNOPQRSTUVWXYZabcdefghijklmnopqrstuvwxyz0123456789").length + p.length := by
    unfold sgs; exact Array.size_append
  lia
set_option maxRecDepth 100000 in
set_option maxHeartbeats 8000000 in
theorem written_spec (w : World) (mean : ExcName → Option Value) (mg mb : Str → Option Value) (news : List (Addr × Obj)) (b : Array UInt8) (p : Str) (tb tp : Tok) (hb : b.size = 0 ∨ b.size = 3 ∨ b.size = 6) (hp : p.length = 2) :
    Sp w mean mg mb none 160 2 news [.bytes b tb, .str p tp] [] (fun v n => (∃ t, v = .str (wrt b p (b.size / 3)) t) ∧ n = news) (fun _ _ => False) := by
  w_on
  k_with_none
  k_with "eval Constant int" => (k_here; (with_reducible refine flat_int ?_))
  k_with "execs cons" => (k_here; (first | (with_reducible show wpAny _ _ _ (fun _ => LeaveK _ _ _ _ _ _) _ _) | (with_reducible show wpAny _ _ _ (BPost _ _ _ _ _ _ _) _ _) | (with_reducible show wpAny _ _ _ (TPost _ _ _ _ _ _) _ _) | (with_reducible show wpAny _ _ _ (KswPost _ _ _ _ _ _ _ _ _ _ _ _) _ _) | (with_reducible show wpAny _ _ _ (fun _ _ => LeaveK _ _ _ _ _ _ _) _ _)); k_fold; (with_reducible refine wpAny_execs_cons ?_); (try dsimp only))
  k_with "call type:type" => (k_here; (first | ((with_reducible show wpAny _ _ (call (Value.type "type") [Value.bytes _ _]) _ _ _); refine call_type_of (typeIs_bytes _ _ _) (by decide) ?_) | ((with_reducible show wpAny _ _ (call (Value.type "type") [Value.str _ _]) _ _ _); refine call_type_of (typeIs_str _ _ _) (by decide) ?_)))
  k_with "call builtin:len" => (k_here; (with_reducible show wpAny _ _ (call (Value.builtin "len") [Value.bytes _ _]) _ _ _); (refine' len_bytes ?k1 ?_; (case k1 => ((try simp only [encA_size, trA_size]); omega))))
  k_with "getMethod str" => (k_here; (with_reducible refine method_encode ?_))
  k_with "call builtin:str.encode" => (k_here; (refine' call_encode ?kx ?ks ?_; (case kx => assumption); (case ks => size_fits)); intro _ _)
  k_with "getMethod bytes" => (k_here; (with_reducible refine method_translate ?_))
  k_with "call builtin:bytes.translate" => (k_here; (try dsimp only [List.cons_append, List.nil_append]); (refine' call_translate ?kx ?ks ?_; (case kx => exact mkTab_size _ _); (case ks => first | ((try simp only [encA_size, trA_size, PySem.sizeLine_eq]); omega) | size_fits)); intro _ _)
  k_with "getMethod type:bytes" => (k_here; refine' method_type ?F ?X ?m (by decide +kernel) ?e ?h ?_; (case F => k_asm); (case X => k_asm); (case m => exact meta_bytes); (case e => k_dflt k_is); (case h => k_handed))
  k_with "call builtin:bytes.maketrans" => (k_here; (refine' call_maketrans ?kx ?_; (case kx => first | rfl | assumption | (simp; done) | omega)); intro _ _)
  k_with "call builtin:len" => (k_here; (with_reducible show wpAny _ _ (call (Value.builtin "len") [Value.ref _]) _ _ _); refine' len_list (News.isList ?kN ?km) ?kz ?_; (case kN => k_asm); (case km => k_mem); (case kz => ((try simp only [List.size_toArray]); omega)))
  k_with "BPost" => (dsimp only [BPost])
  k_with "call builtin:list.append" => (k_here; (try dsimp only [List.cons_append, List.nil_append]); k_dflt (refine' append_K ?k1 ?k2 ?k3 ?_ ?z; (case k1 => k_asm); (case k2 => k_asm); (case k3 => k_upd); (case z => size_fits); k_whole); intro _ _ _; (try k_sweep))
  k_with "call type:bytes" => (k_here; (with_reducible show wpAny _ _ (call (Value.type _) [Value.ref _]) _ _ _); k_dflt (refine' bytes_K ?z9F ?z9N ?l ?i ?r ?z ?h ?_; (case z9F => k_asm); (case z9N => k_asm); (case l => is_list); (case i => assumption); (case r => assumption); (case z => size_fits); (case h => with_unfolding_all rfl); k_whole); intro _ _ _ _ _ _; (try k_sweep))
  k_with "binaryOp FloorDiv int int" => (k_here; first | (refine floordiv_int (by decide) ?_) | (refine floordiv_int (by omega) ?_ (Or.inl (PyProof.noPylong_small (by omega)))))
  k_with "binaryOp Mod int int" => (k_here; (first | (refine mod_int (by decide) ?_) | (refine mod_int' (by decide) ?_)))
  k_with "subscriptTail" => (k_here; (with_reducible show wpAny _ _ (subscriptTail _ _ (Value.bytes _ _) (Value.int _ _)) _ _ _); (with_unfolding_all refine' b_item ?k1 ?k2 ?k3 ?_ ?k4 ?k5; (case k1 => first | assumption | omega); (case k2 => first | assumption | omega); (case k3 => first | assumption | omega); (case k4 => with_unfolding_all rfl); (case k5 => (intro _; with_unfolding_all rfl))))
  k_with "subscriptTail" => (k_here; (with_reducible show wpAny _ _ (subscriptTail _ _ (Value.str _ _) (Value.int (Int.fmod _ _) _)) _ _ _); (with_unfolding_all refine' KXi.item (n := 64) ?k1 ?k2 ?k3 ?k6 ?_ ?k4 ?k5; (case k1 => assumption); (case k2 => exact (fm64 _).1); (case k3 => exact (fm64 _).2); (case k6 => decide); (case k4 => with_unfolding_all rfl); (case k5 => (intro _; with_unfolding_all rfl))); intro _)
  k_with "TPost" => (dsimp only [TPost])
  k_with "exec For Name Tuple cons nil" => (k_here; (with_unfolding_all refine For_G ?_))
  k_with "exec For Name Call cons nil" => (k_here; (with_unfolding_all refine For_T ?_))
  unfold Sp
  k_fill
  intro dp un gd env outer A₀ base h₀ L m s Q E hef hek B D F X N T hdp hun hret hexc
  refine wpAny_call ?_
  k_dflt (refine' code_def ?k1 ?k2 ?k3 ?k4 ?k5 ?kA ?kF ?kK ?k6 ?k7 ?k8 ?k9 ?kB ?_ ?c2 ?c3 ?c4 ?c5; (case kA => exact rfl); (case kF => exact hef); (case kK => exact hek); (case k1 => exact B); (case k2 => exact F); (case k3 => exact X); (case k4 => exact N); (case k5 => exact T); (case k6 => k_is); (case k7 => k_is); (case k8 => (show dp < recursionLimit; omega)); (case k9 => first | exact BindsTo.of_eq rfl | exact binds_K (by k_in) rfl (by k_is) rfl rfl rfl | (refine' kp_binds ?z1 ?z2; (case z1 => k_in); (case z2 => (intro S; rfl)))); (case c5 => decide); (case kB => exact locs rfl); (case c2 => exact rfl); (case c3 => exact rfl); (case c4 => exact rfl); k_whole; intro g' L' h' FG F' N' B' X' T'; (have D' := dicts_push hef FG D); (try dsimp only); (try k_fold))
  k_steps
  (rename Fr g' L' _ _ => Fc); (rename News g' L' _ _ => Nc)
  have hnn : Builtin.Range.small 0 (b.size : Int) 3 = true ∧ Builtin.Range.rangeSize 0 (b.size : Int) 3 = ((b.size / 3 : Nat) : Int) := by
    rcases hb with e | e | e <;> rw [e] <;> decide
  refine' wr_loop (b := b) (p := p) ?z1 (by assumption) hnn Fc Nc ?z2 ?_ ?_ ?z3 ?z4 ?z6
  case z1 => exact rfl
  case z2 => exact rfl
  case z3 => exact rfl
  case z4 => exact rfl
  case z6 => passes_own
  · intro i z tz tn u h tk own I hi hz hnI hoI F9 N9
    clear Fc Nc
    have h3i : 3 + 3 * i ≤ b.size := by rw [Nat.add_comm, ← Nat.mul_succ]; exact Nat.le_trans (Nat.mul_le_mul_left 3 hi) (Nat.mul_div_le _ 3)
    have hz0 : 0 ≤ z := by rw [hz]; exact Int.natCast_nonneg (3 * i)
    have hz1 : 0 ≤ z + 1 := Int.add_nonneg hz0 (by decide)
    have hz2 : 0 ≤ z + 2 := Int.add_nonneg hz0 (by decide)
    have hs2 : z + 2 < (b.size : Int) := by rw [hz]; exact Int.ofNat_lt.mpr (show 3 * i + 2 < b.size from Nat.lt_of_lt_of_le (by rw [Nat.add_comm 3]; exact Nat.add_lt_add_left (by decide) _) h3i)
    have hs1 : z + 1 < (b.size : Int) := Int.lt_trans (Int.add_lt_add_left (by decide) z) hs2
    have hs0 : z < (b.size : Int) := Int.lt_trans (Int.lt_succ z) hs1
    have hbz : b.size ≤ 1000 := by rcases hb with e | e | e <;> rw [e] <;> decide
    have hsl := sgs_len hp
    have hb9 : b.size ≤ 9 := by rcases hb with e | e | e <;> rw [e] <;> decide
    have hsg' : Str.ofString "ABCDEFGHIJKLMNOPQRSTUVWXYZabcdefghijklmnopqrstuvwxyz0123456789" ++ p = sgs p := rfl
    rw [hsg'] at F9
    have hWs : wrt b p (i + 1) = wpart p (numAt b i) (wrt b p i) 4 := rfl
    have hWl : (wrt b p i).length = 4 * i := wrt_len b p i
    have hi3 : i < 3 := Nat.lt_of_lt_of_le hi (Nat.div_le_div_right (c := 3) hb9)
    have e1 : z.toNat = 3 * i := by rw [hz]; rfl
    have e2 : (z + 1).toNat = 3 * i + 1 := by rw [hz]; rfl
    have e3 : (z + 2).toNat = 3 * i + 2 := by rw [hz]; rfl
    have hN : (((b.toList.getD z.toNat 0).toNat : Int) * 256 + ((b.toList.getD (z + 1).toNat 0).toNat : Int)) * 256 + ((b.toList.getD (z + 2).toNat 0).toNat : Int) = numAt b i := by rw [e1, e2, e3]; rfl
    have hu8 : ∀ x : UInt8, x.toNat < 256 := fun x => x.toNat_lt
    have hb1 := hu8 (b.toList.getD z.toNat 0)
    have hb2 := hu8 (b.toList.getD (z + 1).toNat 0)
    have hb3 := hu8 (b.toList.getD (z + 2).toNat 0)
    have hsgn : ∀ v, sgn p v = Txt.item (sgs p) v := fun _ => rfl
    generalize hsgq : sgs p = sg at hsl F9 hsgn
    k_steps
    refine' un_loop (p := p) (N := (((b.toList.getD z.toNat 0).toNat : Int) * 256 + ((b.toList.getD (z + 1).toNat 0).toNat : Int)) * 256 + ((b.toList.getD (z + 2).toNat 0).toNat : Int)) ?y1 ?y4 ?y5 ?y2 ?_ ?_ ?y3
    case y4 => assumption
    case y5 => assumption
    case y1 => exact rfl
    case y2 => exact rfl
    case y3 => passes_own
    · intro j uv tz2 tn2 u2 h2 tk2 own2 I2 hj huv hpos hub hnI2 hoI2 F8 N8
      dsimp only at F8 N8 hnI2 ⊢
      have hwl := wpart_len p ((((b.toList.getD z.toNat 0).toNat : Int) * 256 + ((b.toList.getD (z + 1).toNat 0).toNat : Int)) * 256 + ((b.toList.getD (z + 2).toNat 0).toNat : Int)) (wrt b p i) j (by omega)
      clear F9 N9 hN e1 e2 e3 hWs hnn
      have hsuc := wpart_succ p ((((b.toList.getD z.toNat 0).toNat : Int) * 256 + ((b.toList.getD (z + 1).toNat 0).toNat : Int)) * 256 + ((b.toList.getD (z + 2).toNat 0).toNat : Int)) (wrt b p i) j uv huv
      k_steps
      refine un_end (by assumption) (by assumption) ?_ ?_ hnI2 ?_ ?_
      · intro q hq
        rcases List.mem_cons.mp hq with rfl | hq
        · exact List.mem_cons_self
        · exact List.mem_cons_of_mem _ (List.mem_append_left own2 hq)
      · exact fun q hq => List.mem_cons_of_mem _ (List.mem_append_right _ hq)
      · exact ⟨_, (if_pos rfl).trans (congrArg (fun x => some (Value.str x _)) (by rw [hsuc, hsgn]))⟩
      · intro z h1 h2; simp only [if_neg h1, if_neg h2]
    · intro tn2 u2 h2 tk2 F8 N8
      dsimp only at F8 N8 ⊢
      clear F9 N9 hnn
      k_steps
      refine wr_end (by assumption) (by assumption) (fun q hq => List.mem_cons_of_mem _ (List.mem_append_left own hq)) (fun q hq => List.mem_cons_of_mem _ (List.mem_append_right news hq)) hnI ?_ ?_
      · exact ⟨_, (if_pos rfl).trans (congrArg (fun x => some (Value.str x _)) (by rw [hWs, hN]))⟩
      · intro z h1 h2 h3 h4; simp only [if_neg h1, if_neg h2, if_neg h3, if_neg h4]; subst hsgq; rfl
  · intro tn u h tk F9 N9
    clear Fc Nc
    k_steps
    exact hret _ _ _ _ ⟨⟨_, rfl⟩, rfl⟩ (by assumption) (by assumption)
end
end
end Mine
section
open PySem PySem.W PyProof.Rows PySem.Calls PySem.SeqAt
set_option Elab.async false
namespace Mine
/-- the rows stand wherever a heap and its ledger stand -/
noncomputable def RowsAt (news : List (Addr × Obj)) (h : Heap) (ra : Addr) (rows : List Row) : Prop := ∀ G : Heap, Ext h G → (∀ p ∈ news, G.get? p.1 = some p.2) → RowsV rows G (.ref ra)
end Mine
end
section
open PySem PySem.W PyProof.Rows PySem.Calls PySem.SeqAt
set_option Elab.async false
set_option linter.unusedSimpArgs false
set_option linter.unusedVariables false
namespace Mine

noncomputable def comingF (rows : List Row) : List (Array UInt8) := (rows.filter fun y => decide (y.1 = 0)).flatMap fun y => partsF y.2
noncomputable def leftRow (rows : List Row) (y : Row) : List (Array UInt8) := if y.1 = 1 then (partsF y.2).reverse.filter fun p => decide (p ∈ comingF rows) else partsF y.2
noncomputable def leftF (rows : List Row) : List (List (Array UInt8)) := [] :: rows.map (leftRow rows)
/-- lists of bytes, each -/
noncomputable def LLs (bss : List (List (Array UInt8))) (h : Heap) (l : List Value) : Prop := Paired (fun bs v => BL bs h v) bss l
theorem mono_LLs (bss : List (List (Array UInt8))) : ∀ h h' l, Ext h h' → LLs bss h l → LLs bss h' l := fun _ _ _ k h => Mine.Paired.imp (fun a b => mono_BL _ _ _ _ k) h
/-- a list of lists of bytes -/
noncomputable def LLV (bss : List (List (Array UInt8))) : VP := fun h v => ∃ a items, v = .ref a ∧ h.IsList a items ∧ LLs bss h items.toList
theorem partsF_len {n : Array UInt8} (h : n.size ≤ 9) : (partsF n).length ≤ 4 := by simp [partsF]; lia
theorem flat_len {α β : Type} (l : List α) (f : α → List β) (c : Nat) (h : ∀ x ∈ l, (f x).length ≤ c) : (l.flatMap f).length ≤ l.length * c := by
  induction l with
  | nil => simp
  | cons a l ih =>
    rw [List.flatMap_cons, List.length_append, List.length_cons, Nat.add_mul, Nat.one_mul]
    have h1 := h a List.mem_cons_self
    have h2 := ih fun x hx => h x (List.mem_cons_of_mem _ hx)
    lia
set_option maxRecDepth 100000 in
set_option maxHeartbeats 8000000 in
theorem left_spec (w : World) (mean : ExcName → Option Value) (mg mb : Str → Option Value) (news : List (Addr × Obj)) (ra : Addr) (hh : Option Value) (rows : List Row) (hz : rows.length ≤ 8) (hn : ∀ y ∈ rows, y.2.size ≤ 9) :
    SpG w mean mg mb hh 184 3 news [.ref ra] [] (fun h => RowsAt news h ra rows ∧ (hh = none ∨ ∃ e o vs, hh = some (.ref e) ∧ ((e, o) ∈ news ∨ h.get? e = some o) ∧ o.data = .fields vs ∧ vs[2]? = some .none)) (fun h v n => n = news ∧ LLV (leftF rows) h v) := by
  w_on
  k_with_none
  unfold SpG
  k_fill
  intro dp un gd env outer A₀ base h₀ L m s Q E hef hek B D F X N T ⟨hR, hpre⟩ hdp hun hret
  refine wpAny_call ?_
  k_dflt (refine' code_defC ?k1 ?k2 ?k3 ?k4 ?k5 ?kA ?kF ?kK ?k6 ?k7 ?k8 ?k9 ?kB ?kD ?_ ?c2 ?c3 ?c4; (case kA => exact rfl); (case kF => exact hef); (case kK => exact hek); (case k1 => exact B); (case k2 => exact F); (case k3 => exact X); (case k4 => exact N); (case k5 => exact T); (case k6 => k_is); (case k7 => k_is); (case k8 => (show dp < recursionLimit; lia)); (case k9 => first | exact BindsTo.of_eq rfl | exact binds_K (by k_in) rfl (by k_is) rfl rfl rfl | (refine' kp_binds ?z1 ?z2; (case z1 => k_in); (case z2 => (intro S; rfl)))); (case kB => exact rfl); (case kD => decide +kernel); (case c2 => exact rfl); (case c3 => exact rfl); (case c4 => exact rfl); k_whole; intro g' L' h' tk' cells' FG F' N' Y' B' X' T' l1; (have D' := dicts_push hef FG D); (try dsimp only); (try k_fold))
  refine body_startC (cells := cells') [(Str.ofString "rows", .loc (RowsV rows))] F' N' Y' ?nd ?dis ?hG fun A' E' z hA0 hA1 hz0 hp0 H0 kg kn hleave _ => ?_
  case nd => (show ([L' + 2, L' + 1] : List Addr).Nodup; simp)
  case dis =>
    intro p hp (q : p.1 ∈ [L' + 2, L' + 1])
    have := l1 p hp
    simp at q
    rcases q with q | q <;> (rw [q] at this; exact absurd this (by simp))
  case hG =>
    intro kn kg x f hx
    have e := lookup_in hx
    simp at e
    obtain ⟨rfl, rfl⟩ := e
    exact ⟨_, .ref ra, rfl, mono_Rows rows, rfl, rfl, hR _ (fun b o e => kg _ _ (FG.keep _ _ e)) kn⟩
  have hend : EndOk A' z.g := by
    rcases hpre with h | ⟨e, o, vs, h1, h2, h3, h4⟩
    · exact .inl (hA0.trans h)
    · refine .inr ⟨e, o, vs, hA0.trans h1, ?_, h3, h4⟩
      rcases h2 with h2 | h2
      · exact kn _ h2
      · exact kg _ _ (FG.keep _ _ h2)
  have glen : ∀ env : Env, env.globals = mainGlobals → env.builtins = builtinsNs → GB z.g env (Str.ofString "len") (.builtin "len") := fun env e1 e2 => ⟨_, _, by rw [e1]; exact T'.g.keeps kg, mg_none_of X' T'.g (by k_is), by rw [e2]; exact T'.b.keeps kg, (T'.builtins _ (by decide)).trans (by boot_by_name)⟩
  have grange : ∀ env : Env, env.globals = mainGlobals → env.builtins = builtinsNs → GB z.g env (Str.ofString "range") (.type "range") := fun env e1 e2 => ⟨_, _, by rw [e1]; exact T'.g.keeps kg, mg_none_of X' T'.g (by k_is), by rw [e2]; exact T'.b.keeps kg, (T'.builtins _ (by decide)).trans (by boot_by_name)⟩
  clear B' X' T' D' B D X T FG F' N' Y' hpre
  have hcom : LS bytesR ((rows.filter fun y => decide (y.1 = 0)).flatMap fun y => (List.range (y.2.size / 3 + 1)).map fun i => takeB (3 * i) y.2) = BL (comingF rows) := rfl
  have hcl : (comingF rows).length ≤ 1000 := by
    have := flat_len (rows.filter fun y => decide (y.1 = 0)) (fun y => partsF y.2) 4 fun y hy => partsF_len (hn y (List.mem_filter.mp hy).1)
    have h2 := List.length_filter_le (fun y : Row => decide (y.1 = 0)) rows
    unfold comingF
    lia
  refine st_assign_cel (P := BL (comingF rows)) H0 (EVF.evh (EVF_comp2 (elt0 := .Constant .none 0 default) (cl := []) (Rel := PairR wayR namR) (q := fun y => decide (y.1 = 0)) (ys := fun y => List.range (y.2.size / 3 + 1)) (f := fun y i => takeB (3 * i) y.2) (G := bytesR) (Rel1 := fun _ i v => ∃ t, v = .int ((3 * i : Nat) : Int) t)
    (hend.ext H0.base) (H0.ev_loc rfl) rfl (fun K' k => CompOk.pair ((hend.ext H0.base).ext k) rfl rfl (by decide) rfl ?t1 ?t2) ?hin ?hBs rfl ?el (Nat.le_trans hcl (by decide))) H0.dom) (mono_BL _) (fun h1 tk1 H1 => ?_) rfl
  case t1 => exact fun C y va vb K' m hy k hns ha hb hA hB => TSL_one (TS_cmp (EV_local (P := IsI y.1) rfl rfl hns ha hA (mono_I _)) (mono_I _) EV_int (CMP_eq_I _ _))
  case t2 => exact fun C y va vb K' m hy hq k hns ha hb hA hB => EV_none.mono fun _ _ _ => trivial
  case hBs =>
    rintro y m v ⟨va, vb, ha, hb, hA, hB⟩
    exact ⟨va, vb, (if_neg (by decide)).trans ha, (if_neg (by decide)).trans hb, hA, hB⟩
  case hin =>
    rintro C y K' m hy hq k hns ⟨va, vb, ha, hb, hA, hB⟩
    have h9 := hn y hy
    refine ⟨0, (y.2.size : Int) + 1, 3, EV_range3 (EV_gb rfl rfl ((grange _ rfl rfl).up (H0.base.trans k))) EV_int (EV_add (EV_len_B (f := default) (EV_gb rfl rfl ((glen _ rfl rfl).up (H0.base.trans k))) (EV_local (P := IsB y.2) rfl rfl hns hb hB (mono_B _)) (by lia)) EV_int) EV_int (by decide) (by lia) (by decide), (rg3 h9).1, ?_, ?_⟩
    · rw [(rg3 h9).2, List.length_range]
    · intro i u hu t
      rw [range_get hu]
      exact ⟨t, by push_cast; congr 1; lia⟩
  case el =>
    rintro C y i v K' m hy hi k hns ⟨va, vb, ha, hb, hA, hB⟩ hv hr
    have h9 := hn y hy
    exact EV_take (EV_local (P := IsB y.2) rfl rfl hns hb hB (mono_B _)) (EV_local (P := IsI ((3 * i : Nat) : Int)) rfl rfl hns hv hr (mono_I _)) (by lia)
  refine st_new1 (P := BL []) H1 (EVF.evh EVF_nil H1.dom) (mono_BL _) fun a h2 tk2 _ H2 => ?_
  have H3 := H2.imp_own (x := Str.ofString "left") (a := a) (R := fun h l => ∃ v, l = [v] ∧ BL [] h v) (R' := LLs ([] :: (rows.take 0).map (leftRow rows))) rfl (fun h l ⟨v, e, hb⟩ => by rw [e]; exact (Paired.cons (F := fun bs v => BL bs h v) hb .nil : Paired _ [[]] [v])) (mono_LLs _)
  refine st_for (Γi := fun i => [(Str.ofString "left", .own a (LLs ([] :: (rows.take i).map (leftRow rows)))), (Str.ofString "coming", .cel (BL (comingF rows))), (Str.ofString "rows", .loc (RowsV rows))]) H3 ?hw rows (PairR wayR namR) PairR.mono hend (.inl (H3.evh_loc rfl))
    (fun y => [(Str.ofString "name", .cel fun _ v => namR y v), (Str.ofString "way", .loc fun _ v => wayR y v)]) (.inr ⟨⟨_, _, _, rfl⟩, fun h y v ⟨T, va, vb, e, _⟩ => ⟨T, e⟩⟩) (bind_pair (c := L' + 1) z.g hend rfl rfl rfl rfl rfl) ?body ?done
  case hw =>
    intro p hp
    simp only [List.mem_cons, List.not_mem_nil, or_false] at hp
    rcases hp with rfl | rfl | rfl <;> rfl
  case body =>
    intro i y z1 h3 tk3 E3 hy hos kg1 H4
    have hmem : y ∈ rows := List.mem_of_getElem? hy
    have h9 := hn y hmem
    refine st_assign_swap (xs := List.range (y.2.size / 3 + 1)) (Rel := fun _ i v => ∃ t, v = .int ((3 * i : Nat) : Int) t) (q := fun _ => true) (f := fun i => takeB (3 * i) y.2) (G := bytesR) (cl := [(Str.ofString "name", L' + 1)]) H4
      (EV.src_range (EV_range3 (EV_gb rfl rfl ((grange _ rfl rfl).up (kg1.trans H4.base))) EV_int (EV_add (EV_len_B (f := default) (EV_gb rfl rfl ((glen _ rfl rfl).up (kg1.trans H4.base))) (H4.ev_cel rfl) (by lia)) EV_int) EV_int (by decide) (by lia) (by decide)) ((hend.ext kg1).ext H4.base) (rg3 h9).1 (by rw [(rg3 h9).2, List.length_range]) (by simp; lia) ?rr)
      rfl (fun K' k => CompOk.name rfl rfl (fun C i v K' m hi k hns hv hr => TSL_nil) ?el2) fun h4 tk4 H5 => ?_
    case rr =>
      intro i u hu _ t
      rw [range_get hu]
      exact ⟨t, by push_cast; congr 1; lia⟩
    case el2 =>
      intro C i v K2 m hi _ k2 hns hv hr
      obtain ⟨c, vn, hc, hcv, hP⟩ := H4.cellAt (x := Str.ofString "name") rfl
      exact EV_take (EV_cell (P := IsB y.2) rfl rfl hc (hcv.keeps (k.trans k2)) hP (mono_B _)) (EV_local (P := IsI ((3 * i : Nat) : Int)) rfl rfl hns hv hr (mono_I _)) (by lia)
    have hpe : LS bytesR (((List.range (y.2.size / 3 + 1)).filter fun _ => true).map fun i => takeB (3 * i) y.2) = BL (partsF y.2) := by
      rw [List.filter_eq_self.mpr (fun _ _ => rfl)]; rfl
    rw [hpe] at H5
    have hpl := partsF_len h9
    have hle : ((rows.take i).map (leftRow rows)).length ≤ 8 := by rw [List.length_map, List.length_take]; lia
    refine st_append (x := Str.ofString "left") (a := a) (R := LLs ([] :: (rows.take i).map (leftRow rows))) (R' := LLs ([] :: (rows.take (i + 1)).map (leftRow rows))) (P := BL (leftRow rows y)) H5 rfl ?oth (EVH_ite (b := decide (y.1 = 1)) (TS_cmp (P₁ := IsI y.1) (H5.ev_loc (x := Str.ofString "way") rfl) (mono_I _) EV_int (CMP_eq_I _ _)) ?b1 ?b2) (mono_BL _) (mono_LLs _) ?hRR fun h5 tk5 H6 => ?_
    case oth =>
      intro p hp hne
      simp only [List.mem_cons, List.not_mem_nil, or_false, List.cons_append, List.nil_append] at hp
      rcases hp with rfl | rfl | rfl | rfl | rfl | rfl <;> first | rfl | exact absurd rfl hne
    case b1 =>
      intro hb
      have e : BL (leftRow rows y) = LS bytesR (((partsF y.2).reverse.filter fun p => decide (p ∈ comingF rows)).map fun p => p) := by
        rw [List.map_id', LS_BL]; unfold leftRow; rw [if_pos (by simpa using hb)]
      rw [e]
      refine EVF.evh (EVF_comp (cl := [(Str.ofString "coming", L' + 2)]) (Rel := fun _ => bytesR) (EV.src (EV_rev (H5.ev_loc (x := Str.ofString "parts") rfl) (EV_neg EV_int) (by lia)) ((hend.ext kg1).ext H5.base) (by rw [List.length_reverse]; lia)) rfl fun K' k => CompOk.name rfl rfl ?tt ?ee) H5.dom
      case tt =>
        intro C p v K2 m hp k2 hns hv hr
        obtain ⟨c, vn, hc, hcv, hP⟩ := H5.cellAt (x := Str.ofString "coming") rfl
        exact TSL_one (TS_cmp (P₁ := IsB p) (EV_local rfl rfl hns hv hr (mono_B _)) (mono_B _) (EV_cell (P := BL (comingF rows)) rfl rfl hc (hcv.keeps (k.trans k2)) (mono_BL _ _ _ _ (k.trans k2) hP) (mono_BL _)) (CMP_in _ _))
      case ee =>
        intro C p v K2 m hp _ k2 hns hv hr
        exact EV_local (P := IsB p) rfl rfl hns hv hr (mono_B _)
    case b2 =>
      intro hb
      have e : leftRow rows y = partsF y.2 := by unfold leftRow; rw [if_neg (by simpa using hb)]
      rw [e]
      exact H5.evh_loc rfl
    case hRR =>
      intro h l v hl hv
      refine ⟨?_, ?_⟩
      · have : [] :: (rows.take (i + 1)).map (leftRow rows) = ([] :: (rows.take i).map (leftRow rows)) ++ [leftRow rows y] := by
          rw [List.take_add_one, hy]; simp
        rw [this]
        exact Paired.snoc hl hv
      · have := hl.length
        simp at this hle
        lia
    exact wpAny_execs_nil ⟨h5, tk5, rfl, H6.weak (by
      intro p hp
      simp only [List.mem_cons, List.not_mem_nil, or_false, List.cons_append, List.nil_append] at hp
      rcases hp with rfl | rfl | rfl <;> rfl)⟩
  case done =>
    intro h3 tk3 E3 H4
    refine wpAny_execs_nil (st_return H4 (H4.ev_ownR (x := Str.ofString "left") rfl) fun v h4 tk4 H5 ⟨its, e, hl, hR⟩ => ?_)
    subst e
    obtain ⟨m', F', N'⟩ := hleave _ _ _ H5 rfl
    refine leaveK_ (s' := { s with heap := h4, toks := tk4 }) F' N' fun F0 N0 => hret _ news _ _ ⟨rfl, a, its, rfl, hl, ?_⟩ F0 N0
    rw [List.take_length] at hR
    exact hR
end Mine
end
section
open PySem PySem.W PyProof.Rows PySem.Calls PySem.SeqAt
set_option Elab.async false
set_option linter.unusedSimpArgs false
set_option linter.unusedVariables false
namespace Mine
noncomputable def goingF (rows : List Row) : List (Array UInt8) := (rows.filter fun y => decide (y.1 = 1)).map fun y => y.2
noncomputable def firstsF (rows : List Row) : List (Array UInt8) := ((goingF rows).filter fun b => decide (b ≠ #[])).map (takeB 3)
noncomputable def clashF (rows : List Row) : List (Array UInt8) := (rows.filter fun y => decide (y.1 = 0) && decide (takeB 3 y.2 ∈ firstsF rows)).map fun y => y.2
noncomputable def longerF (gs : List (Array UInt8)) (n : Array UInt8) : List (Array UInt8) := gs.filter fun o => decide (o ≠ n) && decide (takeB n.size o = n)
noncomputable def keptStep (gs : List (Array UInt8)) (ks : List (Array UInt8)) (n : Array UInt8) : List (Array UInt8) := if (decide (longerF gs n = []) && decide (n ∉ ks)) = true then ks ++ [n] else ks
noncomputable def keptF (gs : List (Array UInt8)) : List (Array UInt8) := gs.foldl (keptStep gs) []
noncomputable def laterF (ks : List (Array UInt8)) (place k : Nat) (part : Array UInt8) : List (Array UInt8) := (ks.drop (place + 1)).filter fun o => decide (takeB k o = part)
noncomputable def ordStep (ks : List (Array UInt8)) (place : Nat) (n : Array UInt8) (acc : List (Array UInt8)) (i : Nat) : List (Array UInt8) :=
  if laterF ks place (n.size - 3 * i) (takeB (n.size - 3 * i) n) = [] then acc ++ [takeB (n.size - 3 * i) n] else acc
noncomputable def ordRow (ks : List (Array UInt8)) (acc : List (Array UInt8)) (place : Nat) : List (Array UInt8) := (List.range (((ks.getD place #[]).size + 2) / 3)).foldl (ordStep ks place (ks.getD place #[])) acc
noncomputable def order1 (ks : List (Array UInt8)) : List (Array UInt8) := (List.range ks.length).foldl (ordRow ks) []
noncomputable def comeStep (y : Row) (acc : List (Array UInt8)) (i : Nat) : List (Array UInt8) := if (decide (y.1 = 0) && decide (takeB (3 + 3 * i) y.2 ∉ acc)) = true then acc ++ [takeB (3 + 3 * i) y.2] else acc
noncomputable def comeRow (acc : List (Array UInt8)) (y : Row) : List (Array UInt8) := (List.range (y.2.size / 3)).foldl (comeStep y) acc
noncomputable def orderF (rows : List Row) : List (Array UInt8) := rows.foldl comeRow (order1 (keptF (goingF rows)) ++ [#[]])
noncomputable def dueF (rows : List Row) : Option (List (Array UInt8)) := if clashF rows = [] then some (orderF rows) else none
noncomputable def DueRet (news : List (Addr × Obj)) (rows : List Row) (h : Heap) (v : Value) (n : List (Addr × Obj)) : Prop :=
  (dueF rows = none ∧ v = .none ∧ n = news) ∨ ∃ bs a vs ep, dueF rows = some bs ∧ v = .ref a ∧ (∀ q ∈ news, q.1 ≠ a) ∧ n = (a, listOf vs ep) :: news ∧ Paired bytesR bs vs.toList
theorem foldl_len {α β : Type} (f : List β → α → List β) (c : Nat) : ∀ (l : List α) (a : List β), (∀ a x, x ∈ l → (f a x).length ≤ a.length + c) → (l.foldl f a).length ≤ a.length + l.length * c
  | [], a, _ => by simp
  | x :: l, a, h => by
    rw [List.foldl_cons, List.length_cons, Nat.add_mul, Nat.one_mul]
    have h1 := h a x List.mem_cons_self
    have h2 := foldl_len f c l (f a x) fun a y hy => h a y (List.mem_cons_of_mem _ hy)
    lia
theorem foldl_take {α β : Type} (f : β → α → β) (a : β) {l : List α} {i : Nat} {x : α} (h : l[i]? = some x) : (l.take (i + 1)).foldl f a = f ((l.take i).foldl f a) x := by
  rw [List.take_add_one, h, List.foldl_append]; rfl
theorem goingF_len {rows : List Row} (hz : rows.length ≤ 8) : (goingF rows).length ≤ 8 := by
  unfold goingF; rw [List.length_map]; exact Nat.le_trans (List.length_filter_le _ _) hz
theorem goingF_size {rows : List Row} (hn : ∀ y ∈ rows, y.2.size ≤ 9) : ∀ b ∈ goingF rows, b.size ≤ 9 := fun b hb => by
  obtain ⟨y, hy, rfl⟩ := List.mem_map.mp hb
  exact hn y (List.mem_filter.mp hy).1
theorem keptStep_len (gs ks : List (Array UInt8)) (n : Array UInt8) : (keptStep gs ks n).length ≤ ks.length + 1 := by unfold keptStep; split <;> simp
theorem keptF_take_len (gs : List (Array UInt8)) (i : Nat) : ((gs.take i).foldl (keptStep gs) []).length ≤ gs.length := by
  have := foldl_len (keptStep gs) 1 (gs.take i) [] fun a x _ => keptStep_len gs a x
  rw [List.length_take] at this
  simp at this
  lia
theorem keptF_size (gs : List (Array UInt8)) (c : Nat) (hg : ∀ b ∈ gs, b.size ≤ c) : ∀ b ∈ keptF gs, b.size ≤ c := by
  have key : ∀ (l ks : List (Array UInt8)), (∀ b ∈ l, b.size ≤ c) → (∀ b ∈ ks, b.size ≤ c) → ∀ b ∈ l.foldl (keptStep gs) ks, b.size ≤ c := by
    intro l
    induction l with
    | nil => intro ks _ h; exact h
    | cons n l ih =>
      intro ks h1 h2
      rw [List.foldl_cons]
      refine ih _ (fun b hb => h1 b (List.mem_cons_of_mem _ hb)) fun b hb => ?_
      unfold keptStep at hb
      split at hb
      · rcases List.mem_append.mp hb with q | q
        · exact h2 b q
        · rw [List.mem_singleton.mp q]; exact h1 n List.mem_cons_self
      · exact h2 b hb
  exact key gs [] hg (by simp)
theorem ordStep_len (ks : List (Array UInt8)) (p : Nat) (n : Array UInt8) (acc : List (Array UInt8)) (i : Nat) : (ordStep ks p n acc i).length ≤ acc.length + 1 := by unfold ordStep; split <;> simp
theorem ordRow_len (ks : List (Array UInt8)) (hk : ∀ b ∈ ks, b.size ≤ 9) (acc : List (Array UInt8)) (p : Nat) : (ordRow ks acc p).length ≤ acc.length + 4 := by
  have := foldl_len (ordStep ks p (ks.getD p #[])) 1 (List.range (((ks.getD p #[]).size + 2) / 3)) acc fun a x _ => ordStep_len _ _ _ _ _
  have h9 : (ks.getD p #[]).size ≤ 9 := by
    by_cases h : p < ks.length
    · rw [getD_at h]; exact hk _ (List.getElem_mem h)
    · rw [List.getD_eq_getElem?_getD, List.getElem?_eq_none (by lia)]; simp
  unfold ordRow
  rw [List.length_range] at this
  lia
theorem comeStep_len (y : Row) (acc : List (Array UInt8)) (i : Nat) : (comeStep y acc i).length ≤ acc.length + 1 := by unfold comeStep; split <;> simp
theorem comeRow_len (y : Row) (hy : y.2.size ≤ 9) (acc : List (Array UInt8)) : (comeRow acc y).length ≤ acc.length + 3 := by
  have := foldl_len (comeStep y) 1 (List.range (y.2.size / 3)) acc fun a x _ => comeStep_len _ _ _
  unfold comeRow
  rw [List.length_range] at this
  lia
theorem keptStep_pos {gs ks : List (Array UInt8)} {n : Array UInt8} (h : (decide (longerF gs n = []) && decide (n ∉ ks)) = true) : keptStep gs ks n = ks ++ [n] := if_pos h
theorem keptStep_neg {gs ks : List (Array UInt8)} {n : Array UInt8} (h : (decide (longerF gs n = []) && decide (n ∉ ks)) = false) : keptStep gs ks n = ks := if_neg (by rw [h]; exact Bool.false_ne_true)
theorem ordStep_pos {ks acc : List (Array UInt8)} {p i : Nat} {n : Array UInt8} (h : laterF ks p (n.size - 3 * i) (takeB (n.size - 3 * i) n) = []) : ordStep ks p n acc i = acc ++ [takeB (n.size - 3 * i) n] := if_pos h
theorem ordStep_neg {ks acc : List (Array UInt8)} {p i : Nat} {n : Array UInt8} (h : laterF ks p (n.size - 3 * i) (takeB (n.size - 3 * i) n) ≠ []) : ordStep ks p n acc i = acc := if_neg h
theorem comeStep_pos {y : Row} {acc : List (Array UInt8)} {i : Nat} (h : (decide (y.1 = 0) && decide (takeB (3 + 3 * i) y.2 ∉ acc)) = true) : comeStep y acc i = acc ++ [takeB (3 + 3 * i) y.2] := if_pos h
theorem comeStep_neg {y : Row} {acc : List (Array UInt8)} {i : Nat} (h : (decide (y.1 = 0) && decide (takeB (3 + 3 * i) y.2 ∉ acc)) = false) : comeStep y acc i = acc := if_neg (by rw [h]; exact Bool.false_ne_true)
noncomputable abbrev ord1 (ks : List (Array UInt8)) (i : Nat) : List (Array UInt8) := ((List.range ks.length).take i).foldl (ordRow ks) []
noncomputable abbrev ord2 (ks : List (Array UInt8)) (p : Nat) (n : Array UInt8) (acc : List (Array UInt8)) (j : Nat) : List (Array UInt8) := ((List.range ((n.size + 2) / 3)).take j).foldl (ordStep ks p n) acc
noncomputable abbrev com1 (rows : List Row) (acc : List (Array UInt8)) (i : Nat) : List (Array UInt8) := (rows.take i).foldl comeRow acc
noncomputable abbrev com2 (y : Row) (acc : List (Array UInt8)) (j : Nat) : List (Array UInt8) := ((List.range (y.2.size / 3)).take j).foldl (comeStep y) acc
theorem ord1_len {ks : List (Array UInt8)} (hk : ∀ b ∈ ks, b.size ≤ 9) (hl : ks.length ≤ 8) (i : Nat) : (ord1 ks i).length ≤ 32 := by
  have := foldl_len (ordRow ks) 4 ((List.range ks.length).take i) [] fun a x _ => ordRow_len ks hk a x
  rw [List.length_take, List.length_range, List.length_nil] at this
  unfold ord1
  lia
theorem ord2_len {ks : List (Array UInt8)} {p : Nat} {n : Array UInt8} (hn : n.size ≤ 9) (acc : List (Array UInt8)) (j : Nat) : (ord2 ks p n acc j).length ≤ acc.length + 4 := by
  have := foldl_len (ordStep ks p n) 1 ((List.range ((n.size + 2) / 3)).take j) acc fun a x _ => ordStep_len _ _ _ _ _
  rw [List.length_take, List.length_range] at this
  unfold ord2
  lia
theorem com1_len {rows : List Row} (hn : ∀ y ∈ rows, y.2.size ≤ 9) (hz : rows.length ≤ 8) (acc : List (Array UInt8)) (i : Nat) : (com1 rows acc i).length ≤ acc.length + 24 := by
  have := foldl_len comeRow 3 (rows.take i) acc fun a x hx => comeRow_len x (hn x (List.mem_of_mem_take hx)) a
  rw [List.length_take] at this
  unfold com1
  lia
theorem com2_len {y : Row} (hn : y.2.size ≤ 9) (acc : List (Array UInt8)) (j : Nat) : (com2 y acc j).length ≤ acc.length + 3 := by
  have := foldl_len (comeStep y) 1 ((List.range (y.2.size / 3)).take j) acc fun a x _ => comeStep_len _ _ _
  rw [List.length_take, List.length_range] at this
  unfold com2
  lia
theorem keptF_len (gs : List (Array UInt8)) : (keptF gs).length ≤ gs.length := by
  have := keptF_take_len gs gs.length
  rwa [List.take_length] at this
theorem ev_keptAt {prog : Program} {w : World} {A : Around} {env : Env} {z : Zn} {Γ : Ctx'} {h : Heap} {ks : List (Array UInt8)} {pl : Nat} {pos p1 p2 : Pos} (hk : env.scope.kind = .function) (H : STA z env Γ h) (e1 : Γ.lookup (Str.ofString "kept") = some (.loc (BL ks))) (e2 : Γ.lookup (Str.ofString "place") = some (.loc (IsI (pl : Int)))) (hpl : pl < ks.length) (hl : ks.length ≤ 1000) :
    EV prog w A env h (.Subscript (.Name (Str.ofString "kept") p1) (.Name (Str.ofString "place") p2) pos) (IsB ks[pl]) := EV_item (zs := ks) (G := bytesR) (H.ev_loc (x := Str.ofString "kept") e1 hk) (H.ev_loc (x := Str.ofString "place") e2 hk) hpl (by lia)
set_option maxRecDepth 100000 in
set_option maxHeartbeats 8000000 in
theorem due_spec (w : World) (mean : ExcName → Option Value) (mg mb : Str → Option Value) (news : List (Addr × Obj)) (ra : Addr) (rows : List Row) (hz : rows.length ≤ 8) (hn : ∀ y ∈ rows, y.2.size ≤ 9) :
    SpG w mean mg mb none 179 3 news [.ref ra] [] (fun h => RowsAt news h ra rows) (DueRet news rows) := by
  w_on
  k_with_none
  unfold SpG
  k_fill
  intro dp un gd env outer A₀ base h₀ L m s Q E hef hek B D F X N T hR hdp hun hret
  refine wpAny_call ?_
  k_dflt (refine' code_defC ?k1 ?k2 ?k3 ?k4 ?k5 ?kA ?kF ?kK ?k6 ?k7 ?k8 ?k9 ?kB ?kD ?_ ?c2 ?c3 ?c4; (case kA => exact rfl); (case kF => exact hef); (case kK => exact hek); (case k1 => exact B); (case k2 => exact F); (case k3 => exact X); (case k4 => exact N); (case k5 => exact T); (case k6 => k_is); (case k7 => k_is); (case k8 => (show dp < recursionLimit; lia)); (case k9 => first | exact BindsTo.of_eq rfl | exact binds_K (by k_in) rfl (by k_is) rfl rfl rfl | (refine' kp_binds ?z1 ?z2; (case z1 => k_in); (case z2 => (intro S; rfl)))); (case kB => exact rfl); (case kD => decide +kernel); (case c2 => exact rfl); (case c3 => exact rfl); (case c4 => exact rfl); k_whole; intro g' L' h' tk' cells' FG F' N' Y' B' X' T' l1; (have D' := dicts_push hef FG D); (try dsimp only); (try k_fold))
  refine body_startC (cells := cells') [(Str.ofString "rows", .loc (RowsV rows))] F' N' Y' ?nd ?dis ?hG fun A' E' z hA0 hA1 hz0 hp0 H0 kg kn hleave hown => ?_
  case nd => (show ([L' + 4, L' + 3, L' + 2, L' + 1] : List Addr).Nodup; simp)
  case dis =>
    intro p hp (q : p.1 ∈ [L' + 4, L' + 3, L' + 2, L' + 1])
    have := l1 p hp
    simp at q
    rcases q with q | q | q | q <;> (rw [q] at this; exact absurd this (by simp))
  case hG =>
    intro kn kg x f hx
    have e := lookup_in hx
    simp at e
    obtain ⟨rfl, rfl⟩ := e
    exact ⟨_, .ref ra, rfl, mono_Rows rows, rfl, rfl, hR _ (fun b o e => kg _ _ (FG.keep _ _ e)) kn⟩
  have hend : EndOk A' z.g := .inl hA0
  have hu : A'.units < cLine := by rw [hA1]; show un + 3 < cLine; lia
  have glen : ∀ env : Env, env.globals = mainGlobals → env.builtins = builtinsNs → GB z.g env (Str.ofString "len") (.builtin "len") := fun env e1 e2 => ⟨_, _, by rw [e1]; exact T'.g.keeps kg, mg_none_of X' T'.g (by k_is), by rw [e2]; exact T'.b.keeps kg, (T'.builtins _ (by decide)).trans (by boot_by_name)⟩
  have grange : ∀ env : Env, env.globals = mainGlobals → env.builtins = builtinsNs → GB z.g env (Str.ofString "range") (.type "range") := fun env e1 e2 => ⟨_, _, by rw [e1]; exact T'.g.keeps kg, mg_none_of X' T'.g (by k_is), by rw [e2]; exact T'.b.keeps kg, (T'.builtins _ (by decide)).trans (by boot_by_name)⟩
  clear B' X' T' D' B D X T FG F' N' Y' hR
  refine veilQ fun Q5 hQ5 => ?_
  have hgl := goingF_len hz
  have hgs := goingF_size hn
  -- going
  refine st_assign_swap (cl := []) (xs := rows) (Rel := PairR wayR namR) (q := fun y => decide (y.1 = 1)) (f := fun y => y.2) (G := bytesR) H0 (fun s' Q' E'' k hq => (H0.ev_loc (x := Str.ofString "rows") rfl) s' Q' E'' k fun v h1 tk1 k1 hp => hq v h1 tk1 k1 (Src.of_list (hend.ext (H0.base.trans (k.trans k1))) (by lia) hp)) rfl (fun K' k => CompOk.pair ((hend.ext H0.base).ext k) rfl rfl (by decide) rfl ?t1 ?e1) fun h1 tk1 H1 => ?_
  case t1 => exact fun C y va vb K' m hy k hns ha hb hA hB => TSL_one (TS_cmp (EV_local (P := IsI y.1) rfl rfl hns ha hA (mono_I _)) (mono_I _) EV_int (CMP_eq_I _ _))
  case e1 => exact fun C y va vb K' m hy hq k hns ha hb hA hB => EV_local (P := IsB y.2) rfl rfl hns hb hB (mono_B _)
  have H1 : STA z _ [(Str.ofString "going", .loc (BL (goingF rows))), (Str.ofString "rows", .loc (RowsV rows))] h1 := H1
  -- firsts
  refine st_assign_cel (P := BL (firstsF rows)) H1 (EVF.evh (EVF_comp (cl := []) (Rel := fun _ => bytesR) (q := fun b => decide (b ≠ #[])) (f := takeB 3) (EV.src (H1.ev_loc (x := Str.ofString "going") rfl) (hend.ext H1.base) (by lia)) rfl fun K' k => CompOk.name rfl rfl ?t2 ?e2) H1.dom) (mono_BL _) (fun h2 tk2 H2 => ?_) rfl
  case t2 => exact fun C b v K' m hb k hns hv hr => TSL_one (TS_cmp (P₁ := IsB b) (EV_local rfl rfl hns hv hr (mono_B _)) (mono_B _) EV_bytes (CMP_ne_B _ _))
  case e2 => exact fun C b v K' m hb _ k hns hv hr => EV_take (n := 3) (EV_local (P := IsB b) rfl rfl hns hv hr (mono_B _)) EV_int (by have := hgs b hb; lia)
  -- the clash
  refine st_if (b := !decide (clashF rows = [])) H2 (TS_cmp (P₁ := BL (clashF rows)) (EVF.ev (EVF_comp (cl := [(Str.ofString "firsts", L' + 2)]) (xs := rows) (Rel := PairR wayR namR) (q := fun y => decide (y.1 = 0) && decide (takeB 3 y.2 ∈ firstsF rows)) (f := fun y => y.2) (G := bytesR) (fun s' Q' E'' k hq => (H2.ev_loc (x := Str.ofString "rows") rfl) s' Q' E'' k fun v h1 tk1 k1 hp => hq v h1 tk1 k1 (Src.of_list (hend.ext (H2.base.trans (k.trans k1))) (by lia) hp)) rfl fun K' k => CompOk.pair ((hend.ext H2.base).ext k) rfl rfl (by decide) rfl ?t3 ?e3)) (mono_BL _) EV_nil (CMP_ne_BL _ _ hu)) (fun hb h3 tk3 H3 => ?_) (fun hb h3 tk3 H3 => ?_)
  case t3 =>
    intro C y va vb K' m hy k2 hns ha hb hA hB
    refine TSL_one (TS_and (TS_cmp (EV_local (P := IsI y.1) rfl rfl hns ha hA (mono_I _)) (mono_I _) EV_int (CMP_eq_I _ _)) fun _ => ?_)
    obtain ⟨c, vn, hc, hcv, hP⟩ := H2.cellAt (x := Str.ofString "firsts") rfl
    exact TS_cmp (P₁ := IsB (takeB 3 y.2)) (EV_take (n := 3) (EV_local (P := IsB y.2) rfl rfl hns hb hB (mono_B _)) EV_int (by have := hn y hy; lia)) (mono_B _) (EV_cell (P := BL (firstsF rows)) rfl rfl hc (hcv.keeps (k.trans k2)) (mono_BL _ _ _ _ (k.trans k2) hP) (mono_BL _)) (CMP_in _ _)
  case e3 => exact fun C y va vb K' m hy hq k hns ha hb hA hB => EV_local (P := IsB y.2) rfl rfl hns hb hB (mono_B _)
  · refine st_return H3 EV_none fun v h4 tk4 H4 e => ?_
    subst e
    obtain ⟨m', F', N'⟩ := hleave _ _ _ H4 rfl
    refine hQ5 _ _ ?_
    exact leaveK_ (s' := { s with heap := h4, toks := tk4 }) F' N' fun F0 N0 => hret _ news _ _ (.inl ⟨by unfold dueF; rw [if_neg (by simpa using hb)], rfl, rfl⟩) F0 N0
  refine wpAny_execs_nil ?_
  have hcl : clashF rows = [] := by simpa using hb
  -- kept
  refine st_new H3 fun a h4 tk4 _ H4 => ?_
  have H4 := H4.imp_own (x := Str.ofString "kept") (a := a) (R := fun _ l => l = []) (R' := fun _ l => Paired bytesR (((goingF rows).take 0).foldl (keptStep (goingF rows)) []) l) rfl (fun h l e => by rw [e]; exact .nil) fun _ _ _ _ h => h
  refine st_for (Γi := fun i => [(Str.ofString "kept", .own a fun _ l => Paired bytesR (((goingF rows).take i).foldl (keptStep (goingF rows)) []) l), (Str.ofString "going", .loc (BL (goingF rows))), (Str.ofString "rows", .loc (RowsV rows))]) H4 ?hw (goingF rows) (fun _ => bytesR) (fun _ _ _ _ _ h => h) hend (.inl (H4.evh_loc (x := Str.ofString "going") rfl))
    (fun b => [(Str.ofString "name", .cel fun _ v => bytesR b v)]) (.inl ⟨_, _, rfl⟩) (bind_cel (c := L' + 1) (Rel := fun _ => bytesR) (fun _ _ _ _ _ h => h) z.g rfl rfl rfl) ?body ?done
  case hw =>
    intro p hp
    simp only [List.mem_cons, List.not_mem_nil, or_false] at hp
    rcases hp with rfl | rfl | rfl <;> rfl
  case body =>
    intro i b z1 h5 tk5 E3 hb5 hos kg1 H5
    refine veilQ fun Q6 hQ6 => ?_
    have hmem : b ∈ goingF rows := List.mem_of_getElem? hb5
    have h9 := hgs b hmem
    have hll : (longerF (goingF rows) b).length ≤ 8 := Nat.le_trans (List.length_filter_le _ _) hgl
    have hkl := keptF_take_len (goingF rows) i
    refine st_assign_swap (cl := [(Str.ofString "name", L' + 1)]) (xs := goingF rows) (Rel := fun _ => bytesR) (q := fun o => decide (o ≠ b) && decide (takeB b.size o = b)) (f := fun o => o) (G := bytesR) H5 (EV.src (H5.ev_loc (x := Str.ofString "going") rfl) ((hend.ext kg1).ext H5.base) (by lia)) rfl (fun K' k => CompOk.name rfl rfl ?t6 ?e6) fun h6 tk6 H6 => ?_
    case t6 =>
      intro C o v K2 m ho k2 hns hv hr
      obtain ⟨c, vn, hc, hcv, hP⟩ := H5.cellAt (x := Str.ofString "name") rfl
      have EN : ∀ pos, EV PySem.Challenge.rw_qh0045_01.row.prog w A' _ K2 (.Name (Str.ofString "name") pos) (IsB b) := fun pos => EV_cell (P := IsB b) rfl rfl hc (hcv.keeps (k.trans k2)) hP (mono_B _)
      exact TSL_one (TS_and (TS_cmp (P₁ := IsB o) (EV_local rfl rfl hns hv hr (mono_B _)) (mono_B _) (EN _) (CMP_ne_B _ _)) fun _ => TS_cmp (EV_take (b := o) (EV_local rfl rfl hns hv hr (mono_B _)) (EV_len_B (f := default) (EV_gb rfl rfl ((glen _ rfl rfl).up (kg1.trans (H5.base.trans (k.trans k2))))) (EN _) (by lia)) (by have := hgs o ho; lia)) (mono_B _) (EN _) (CMP_eq_B _ _))
    case e6 => exact fun C o v K' m ho _ k hns hv hr => EV_local (P := IsB o) rfl rfl hns hv hr (mono_B _)
    have hle : LS bytesR (((goingF rows).filter fun o => decide (o ≠ b) && decide (takeB b.size o = b)).map fun o => o) = BL (longerF (goingF rows) b) := by rw [List.map_id']; rfl
    rw [hle] at H6
    have hstep := foldl_take (keptStep (goingF rows)) [] hb5
    refine st_if (b := decide (longerF (goingF rows) b = []) && decide (b ∉ ((goingF rows).take i).foldl (keptStep (goingF rows)) [])) H6 (TS_and (TS_cmp (H6.ev_loc (x := Str.ofString "longer") rfl) (mono_BL _) EV_nil (CMP_eq_BL _ _ hu)) fun _ => TS_cmp (P₁ := IsB b) (H6.ev_cel (x := Str.ofString "name") rfl) (mono_B _) (H6.ev_own (x := Str.ofString "kept") rfl fun _ _ h => h) (CMP_notIn _ _)) (fun hc h7 tk7 H7 => ?_) (fun hc h7 tk7 H7 => ?_)
    · refine st_append (x := Str.ofString "kept") (a := a) (R := fun _ l => Paired bytesR (((goingF rows).take i).foldl (keptStep (goingF rows)) []) l) (R' := fun _ l => Paired bytesR (((goingF rows).take (i + 1)).foldl (keptStep (goingF rows)) []) l) (P := IsB b) H7 rfl ?oth (EV.evh (H7.ev_cel (x := Str.ofString "name") rfl) fun _ _ _ h => h) (mono_B _) (fun _ _ _ _ h => h) ?hRR fun h8 tk8 H8 => ?_
      case oth =>
        intro p hp hne
        simp only [List.mem_cons, List.not_mem_nil, or_false, List.cons_append, List.nil_append] at hp
        rcases hp with rfl | rfl | rfl | rfl | rfl <;> first | rfl | exact absurd rfl hne
      case hRR =>
        intro h l v hl hv
        refine ⟨?_, by have := hl.length; lia⟩
        show Paired bytesR (((goingF rows).take (i + 1)).foldl (keptStep (goingF rows)) []) _
        rw [hstep, keptStep_pos hc]
        exact Paired.snoc hl hv
      exact wpAny_execs_nil (wpAny_execs_nil (hQ6 _ _ ⟨h8, tk8, rfl, H8.weak (by
        intro p hp
        simp only [List.mem_cons, List.not_mem_nil, or_false] at hp
        rcases hp with rfl | rfl | rfl <;> rfl)⟩))
    · refine wpAny_execs_nil (wpAny_execs_nil (hQ6 _ _ ⟨h7, tk7, rfl, H7.weak ?_⟩))
      have heq := hstep.trans (keptStep_neg hc)
      intro p hp
      simp only [List.mem_cons, List.not_mem_nil, or_false] at hp
      rw [heq] at hp
      rcases hp with rfl | rfl | rfl <;> rfl
  case done =>
    intro h5 tk5 E5 H5
    refine wpAny_execs_nil ?_
    rw [List.take_length] at H5
    have H5 := (STA.freeze (x := Str.ofString "kept") (a := a) (R := fun _ l => Paired bytesR (keptF (goingF rows)) l) H5 rfl (by simp [hz0]) (fun _ _ _ _ h => h) (by
      intro p hp hne
      simp only [List.mem_cons, List.not_mem_nil, or_false] at hp
      rcases hp with rfl | rfl | rfl <;> first | rfl | exact absurd rfl hne)).imp_loc (x := Str.ofString "kept") (P' := BL (keptF (goingF rows))) rfl (fun h v ⟨its, e, hl, hr⟩ => ⟨a, its, e, hl, hr⟩) (mono_BL _)
    have hkl : (keptF (goingF rows)).length ≤ 8 := Nat.le_trans (keptF_len _) hgl
    have hks := keptF_size (goingF rows) 9 hgs
    generalize hK : keptF (goingF rows) = ks at H5 hkl hks
    refine st_new H5 fun a2 h6 tk6 _ H6 => ?_
    have H6 := H6.imp_own (x := Str.ofString "order") (a := a2) (R := fun _ l => l = []) (R' := fun _ l => Paired bytesR (ord1 ks 0) l) rfl (fun h l e => by rw [e]; exact .nil) fun _ _ _ _ h => h
    refine st_for (Γi := fun i => [(Str.ofString "order", .own a2 fun _ l => Paired bytesR (ord1 ks i) l), (Str.ofString "kept", .loc (BL ks)), (Str.ofString "rows", .loc (RowsV rows))]) H6 ?hw2 (List.range ks.length) (fun _ (i : Nat) v => ∃ t, v = .int (i : Int) t) (fun _ _ _ _ _ h => h) hend
      (.inr ⟨0, (ks.length : Int), 1, EV_range1 (EV_gb rfl rfl ((grange _ rfl rfl).up H6.base)) (EV_len_L (EV_gb rfl rfl ((glen _ rfl rfl).up H6.base)) (H6.ev_loc (x := Str.ofString "kept") rfl) (by lia)), (rgt (by lia)).1, by rw [(rgt (by lia)).2, List.length_range], fun i y hy h t => by rw [range_get hy]; exact ⟨t, by simp⟩⟩)
      (fun i => [(Str.ofString "place", .loc (IsI (i : Int)))]) (.inl ⟨_, _, rfl⟩) (bind_loc (Rel := fun _ (i : Nat) v => ∃ t, v = .int (i : Int) t) (fun _ _ _ _ _ h => h) z.g rfl rfl) ?body2 ?done2
    case hw2 =>
      intro p hp
      simp only [List.mem_cons, List.not_mem_nil, or_false] at hp
      rcases hp with rfl | rfl | rfl <;> rfl
    case body2 =>
      intro i pl z1 h7 tk7 E7 hi hos kg1 H7
      refine veilQ fun Q6 hQ6 => ?_
      have hpi := range_get hi
      subst hpi
      have hpl : pl < ks.length := by have := List.mem_of_getElem? hi; exact List.mem_range.mp this
      have hgd : ks.getD pl #[] = ks[pl] := getD_at hpl _
      have hn9 : ks[pl].size ≤ 9 := hks _ (List.getElem_mem hpl)
      refine st_for (Γi := fun j => [(Str.ofString "order", .own a2 fun _ l => Paired bytesR (ord2 ks pl ks[pl] (ord1 ks pl) j) l), (Str.ofString "place", .loc (IsI (pl : Int))), (Str.ofString "kept", .loc (BL ks)), (Str.ofString "rows", .loc (RowsV rows))]) H7 ?hw3 (List.range ((ks[pl].size + 2) / 3)) (fun _ (j : Nat) v => ∃ t, v = .int ((ks[pl].size - 3 * j : Nat) : Int) t) (fun _ _ _ _ _ h => h) (hend.ext kg1)
        (.inr ⟨(ks[pl].size : Int), 0, -3, EV_range3 (EV_gb rfl rfl ((grange _ rfl rfl).up (kg1.trans H7.base))) (EV_len_B (f := default) (EV_gb rfl rfl ((glen _ rfl rfl).up (kg1.trans H7.base))) (ev_keptAt rfl H7 rfl rfl hpl (by lia)) (by lia)) EV_int (EV_neg EV_int) (by decide) (by lia) (by decide), (rgd hn9).1, by rw [(rgd hn9).2, List.length_range], fun j y hy h t => ?rr3⟩)
        (fun j => [(Str.ofString "size", .cel (IsI ((ks[pl].size - 3 * j : Nat) : Int)))]) (.inl ⟨_, _, rfl⟩) (bind_cel (c := L' + 3) (Rel := fun _ (j : Nat) v => ∃ t, v = .int ((ks[pl].size - 3 * j : Nat) : Int) t) (fun _ _ _ _ _ h => h) z1.g rfl rfl rfl) ?body3 ?done3
      case hw3 =>
        intro p hp
        simp only [List.mem_cons, List.not_mem_nil, or_false] at hp
        rcases hp with rfl | rfl | rfl | rfl <;> rfl
      case rr3 =>
        have hj := range_get hy
        subst hj
        have := List.mem_range.mp (List.mem_of_getElem? hy)
        exact ⟨t, by congr 1; lia⟩
      case body3 =>
        intro j y z2 h8 tk8 E8 hj hos2 kg2 H8
        refine veilQ fun Q6 hQ6 => ?_
        have hjy := range_get hj
        subst hjy
        refine st_assign_cel (P := IsB (takeB (ks[pl].size - 3 * y) ks[pl])) H8 (EV.evh (EV_take (ev_keptAt rfl H8 rfl rfl hpl (by lia)) (H8.ev_cel (x := Str.ofString "size") rfl) (by lia)) fun _ _ _ h => h) (mono_B _) (fun h9 tk9 H9 => ?_) rfl
        have hll : (laterF ks pl (ks[pl].size - 3 * y) (takeB (ks[pl].size - 3 * y) ks[pl])).length ≤ 8 := by
          refine Nat.le_trans (List.length_filter_le _ _) ?_
          rw [List.length_drop]; lia
        have hadd : ((pl : Int) + 1) = ((pl + 1 : Nat) : Int) := by push_cast; rfl
        refine st_if (b := decide (laterF ks pl (ks[pl].size - 3 * y) (takeB (ks[pl].size - 3 * y) ks[pl]) = [])) H9 (TS_cmp (P₁ := BL (laterF ks pl (ks[pl].size - 3 * y) (takeB (ks[pl].size - 3 * y) ks[pl]))) ?cc (mono_BL _) EV_nil (CMP_eq_BL _ _ hu)) (fun hc h10 tk10 H10 => ?_) (fun hc h10 tk10 H10 => ?_)
        case cc =>
          have e : BL (laterF ks pl (ks[pl].size - 3 * y) (takeB (ks[pl].size - 3 * y) ks[pl])) = LS bytesR (((ks.drop (pl + 1)).filter fun o => decide (takeB (ks[pl].size - 3 * y) o = takeB (ks[pl].size - 3 * y) ks[pl])).map fun o => o) := by rw [List.map_id']; rfl
          rw [e]
          refine EVF.ev (EVF_comp (cl := [(Str.ofString "size", L' + 3), (Str.ofString "part", L' + 4)]) (Rel := fun _ => bytesR) (EV.src (EV_from (n := pl + 1) (H9.ev_loc (x := Str.ofString "kept") rfl) (hadd ▸ EV_add (H9.ev_loc (x := Str.ofString "place") rfl) EV_int) (by lia) (by lia)) ((hend.ext (kg1.trans kg2)).ext H9.base) (by rw [List.length_drop]; lia)) rfl fun K' k => CompOk.name rfl rfl ?tt ?ee)
          case tt =>
            intro C o v K2 m ho k2 hns hv hr
            obtain ⟨c, vn, hc, hcv, hP⟩ := H9.cellAt (x := Str.ofString "size") rfl
            obtain ⟨c', vn', hc', hcv', hP'⟩ := H9.cellAt (x := Str.ofString "part") rfl
            have ho9 : o.size ≤ 9 := hks o (List.mem_of_mem_drop ho)
            exact TSL_one (TS_cmp (EV_take (b := o) (n := ks[pl].size - 3 * y) (EV_local rfl rfl hns hv hr (mono_B _)) (EV_cell (P := IsI ((ks[pl].size - 3 * y : Nat) : Int)) rfl rfl hc (hcv.keeps (k.trans k2)) hP (mono_I _)) (by lia)) (mono_B _) (EV_cell (P := IsB (takeB (ks[pl].size - 3 * y) ks[pl])) rfl rfl hc' (hcv'.keeps (k.trans k2)) hP' (mono_B _)) (CMP_eq_B _ _))
          case ee => exact fun C o v K' m ho _ k hns hv hr => EV_local (P := IsB o) rfl rfl hns hv hr (mono_B _)
        · have hstep := foldl_take (ordStep ks pl ks[pl]) (ord1 ks pl) hj
          refine st_append (x := Str.ofString "order") (a := a2) (R := fun _ l => Paired bytesR (ord2 ks pl ks[pl] (ord1 ks pl) y) l) (R' := fun _ l => Paired bytesR (ord2 ks pl ks[pl] (ord1 ks pl) (y + 1)) l) (P := IsB (takeB (ks[pl].size - 3 * y) ks[pl])) H10 rfl ?oth (EV.evh (H10.ev_cel (x := Str.ofString "part") rfl) fun _ _ _ h => h) (mono_B _) (fun _ _ _ _ h => h) ?hRR fun h11 tk11 H11 => ?_
          case oth =>
            intro p hp hne
            simp only [List.mem_cons, List.not_mem_nil, or_false, List.cons_append, List.nil_append] at hp
            rcases hp with rfl | rfl | rfl | rfl | rfl | rfl <;> first | rfl | exact absurd rfl hne
          case hRR =>
            intro h l v hl hv
            refine ⟨?_, by have := hl.length; have := ord2_len (ks := ks) (p := pl) hn9 (ord1 ks pl) y; have := ord1_len hks hkl pl; lia⟩
            show Paired bytesR (ord2 ks pl ks[pl] (ord1 ks pl) (y + 1)) _
            unfold ord2
            rw [hstep, ordStep_pos (by simpa using hc)]
            exact Paired.snoc hl hv
          exact wpAny_execs_nil (wpAny_execs_nil (hQ6 _ _ ⟨h11, tk11, rfl, H11.weak (by
            intro p hp
            simp only [List.mem_cons, List.not_mem_nil, or_false] at hp
            rcases hp with rfl | rfl | rfl | rfl <;> rfl)⟩))
        · refine wpAny_execs_nil (wpAny_execs_nil (hQ6 _ _ ⟨h10, tk10, rfl, H10.weak ?_⟩))
          have heq : ord2 ks pl ks[pl] (ord1 ks pl) (y + 1) = ord2 ks pl ks[pl] (ord1 ks pl) y := (foldl_take (ordStep ks pl ks[pl]) (ord1 ks pl) hj).trans (ordStep_neg (by simpa using hc))
          intro p hp
          simp only [List.mem_cons, List.not_mem_nil, or_false] at hp
          rw [heq] at hp
          rcases hp with rfl | rfl | rfl | rfl <;> rfl
      case done3 =>
        intro h8 tk8 E8 H8
        refine wpAny_execs_nil (wpAny_execs_nil (hQ6 _ _ ⟨h8, tk8, rfl, H8.weak ?_⟩))
        have heq : ord1 ks (pl + 1) = ord2 ks pl ks[pl] (ord1 ks pl) (List.range ((ks[pl].size + 2) / 3)).length := by
          have := foldl_take (ordRow ks) [] hi
          unfold ord2
          rw [List.take_length]
          refine this.trans ?_
          unfold ordRow
          rw [hgd]
          rfl
        intro p hp
        simp only [List.mem_cons, List.not_mem_nil, or_false] at hp
        rw [heq] at hp
        rcases hp with rfl | rfl | rfl <;> rfl
    case done2 =>
      intro h7 tk7 E7 H7
      refine wpAny_execs_nil ?_
      have ho1 : ord1 ks (List.range ks.length).length = order1 ks := by unfold ord1; rw [List.take_length]; rfl
      rw [ho1] at H7
      have hol : (order1 ks).length ≤ 32 := by rw [← ho1]; exact ord1_len hks hkl _
      refine st_append (x := Str.ofString "order") (a := a2) (R := fun _ l => Paired bytesR (order1 ks) l) (R' := fun _ l => Paired bytesR (com1 rows (order1 ks ++ [#[]]) 0) l) (P := IsB #[]) H7 rfl ?oth4 (EV.evh EV_bytes fun _ _ _ h => h) (mono_B _) (fun _ _ _ _ h => h) (fun h l v hl hv => ⟨Paired.snoc hl hv, by have := hl.length; lia⟩) fun h8 tk8 H8 => ?_
      case oth4 =>
        intro p hp hne
        simp only [List.mem_cons, List.not_mem_nil, or_false, List.cons_append, List.nil_append] at hp
        rcases hp with rfl | rfl | rfl <;> first | rfl | exact absurd rfl hne
      have hz2 : (order1 ks ++ [#[]]).length ≤ 33 := by rw [List.length_append]; simp; lia
      generalize hO2 : order1 ks ++ [#[]] = acc at H8 hz2
      refine st_for (Γi := fun i => [(Str.ofString "order", .own a2 fun _ l => Paired bytesR (com1 rows acc i) l), (Str.ofString "rows", .loc (RowsV rows))]) H8 ?hw5 rows (PairR wayR namR) PairR.mono hend (.inl (H8.evh_loc (x := Str.ofString "rows") rfl))
        (fun y => [(Str.ofString "name", .cel fun _ v => namR y v), (Str.ofString "way", .loc fun _ v => wayR y v)]) (.inr ⟨⟨_, _, _, rfl⟩, fun h y v ⟨T, va, vb, e, _⟩ => ⟨T, e⟩⟩) (bind_pair (c := L' + 1) z.g hend rfl rfl rfl rfl rfl) ?body5 ?done5
      case hw5 =>
        intro p hp
        simp only [List.mem_cons, List.not_mem_nil, or_false] at hp
        rcases hp with rfl | rfl <;> rfl
      case body5 =>
        intro i y z1 h9 tk9 E9 hi hos kg1 H9
        refine veilQ fun Q6 hQ6 => ?_
        have hmem : y ∈ rows := List.mem_of_getElem? hi
        have h9' := hn y hmem
        refine st_for (Γi := fun j => [(Str.ofString "order", .own a2 fun _ l => Paired bytesR (com2 y (com1 rows acc i) j) l), (Str.ofString "name", .cel (IsB y.2)), (Str.ofString "way", .loc (IsI y.1)), (Str.ofString "rows", .loc (RowsV rows))]) H9 ?hw6 (List.range (y.2.size / 3)) (fun _ (j : Nat) v => ∃ t, v = .int ((3 + 3 * j : Nat) : Int) t) (fun _ _ _ _ _ h => h) (hend.ext kg1)
          (.inr ⟨3, (y.2.size : Int) + 1, 3, EV_range3 (EV_gb rfl rfl ((grange _ rfl rfl).up (kg1.trans H9.base))) EV_int (EV_add (EV_len_B (f := default) (EV_gb rfl rfl ((glen _ rfl rfl).up (kg1.trans H9.base))) (H9.ev_cel (x := Str.ofString "name") rfl) (by lia)) EV_int) EV_int (by decide) (by lia) (by decide), (rgu h9').1, by rw [(rgu h9').2, List.length_range], fun j u hu h t => by rw [range_get hu]; exact ⟨t, by push_cast; congr 1; lia⟩⟩)
          (fun j => [(Str.ofString "size", .cel (IsI ((3 + 3 * j : Nat) : Int)))]) (.inl ⟨_, _, rfl⟩) (bind_cel (c := L' + 3) (Rel := fun _ (j : Nat) v => ∃ t, v = .int ((3 + 3 * j : Nat) : Int) t) (fun _ _ _ _ _ h => h) z1.g rfl rfl rfl) ?body6 ?done6
        case hw6 =>
          intro p hp
          simp only [List.mem_cons, List.not_mem_nil, or_false] at hp
          rcases hp with rfl | rfl | rfl | rfl <;> rfl
        case body6 =>
          intro j u z2 h10 tk10 E10 hj hos2 kg2 H10
          refine veilQ fun Q6 hQ6 => ?_
          have hju := range_get hj
          subst hju
          have hstep := foldl_take (comeStep y) (com1 rows acc i) hj
          refine st_if (b := decide (y.1 = 0) && decide (takeB (3 + 3 * u) y.2 ∉ com2 y (com1 rows acc i) u)) H10 (TS_and (TS_cmp (P₁ := IsI y.1) (H10.ev_loc (x := Str.ofString "way") rfl) (mono_I _) EV_int (CMP_eq_I _ _)) fun _ => TS_cmp (EV_take (b := y.2) (n := 3 + 3 * u) (H10.ev_cel (x := Str.ofString "name") rfl) (H10.ev_cel (x := Str.ofString "size") rfl) (by lia)) (mono_B _) (H10.ev_own (x := Str.ofString "order") rfl fun _ _ h => h) (CMP_notIn _ _)) (fun hc h11 tk11 H11 => ?_) (fun hc h11 tk11 H11 => ?_)
          · refine st_append (x := Str.ofString "order") (a := a2) (R := fun _ l => Paired bytesR (com2 y (com1 rows acc i) u) l) (R' := fun _ l => Paired bytesR (com2 y (com1 rows acc i) (u + 1)) l) (P := IsB (takeB (3 + 3 * u) y.2)) H11 rfl ?oth7 (EV.evh (EV_take (b := y.2) (n := 3 + 3 * u) (H11.ev_cel (x := Str.ofString "name") rfl) (H11.ev_cel (x := Str.ofString "size") rfl) (by lia)) fun _ _ _ h => h) (mono_B _) (fun _ _ _ _ h => h) ?hR7 fun h12 tk12 H12 => ?_
            case oth7 =>
              intro p hp hne
              simp only [List.mem_cons, List.not_mem_nil, or_false, List.cons_append, List.nil_append] at hp
              rcases hp with rfl | rfl | rfl | rfl | rfl <;> first | rfl | exact absurd rfl hne
            case hR7 =>
              intro h l v hl hv
              refine ⟨?_, by have := hl.length; have := com2_len h9' (com1 rows acc i) u; have := com1_len hn hz acc i; lia⟩
              show Paired bytesR (com2 y (com1 rows acc i) (u + 1)) _
              unfold com2
              rw [hstep, comeStep_pos hc]
              exact Paired.snoc hl hv
            exact wpAny_execs_nil (wpAny_execs_nil (hQ6 _ _ ⟨h12, tk12, rfl, H12.weak (by
              intro p hp
              simp only [List.mem_cons, List.not_mem_nil, or_false] at hp
              rcases hp with rfl | rfl | rfl | rfl <;> rfl)⟩))
          · refine wpAny_execs_nil (wpAny_execs_nil (hQ6 _ _ ⟨h11, tk11, rfl, H11.weak ?_⟩))
            have heq : com2 y (com1 rows acc i) (u + 1) = com2 y (com1 rows acc i) u := hstep.trans (comeStep_neg hc)
            intro p hp
            simp only [List.mem_cons, List.not_mem_nil, or_false] at hp
            rw [heq] at hp
            rcases hp with rfl | rfl | rfl | rfl <;> rfl
        case done6 =>
          intro h10 tk10 E10 H10
          refine wpAny_execs_nil (wpAny_execs_nil (hQ6 _ _ ⟨h10, tk10, rfl, H10.weak ?_⟩))
          have heq : com1 rows acc (i + 1) = com2 y (com1 rows acc i) (List.range (y.2.size / 3)).length := by
            unfold com2
            rw [List.take_length]
            exact foldl_take comeRow acc hi
          intro p hp
          simp only [List.mem_cons, List.not_mem_nil, or_false] at hp
          rw [heq] at hp
          rcases hp with rfl | rfl <;> rfl
      case done5 =>
        intro h9 tk9 E9 H9
        refine wpAny_execs_nil (st_return H9 (H9.ev_ownR (x := Str.ofString "order") rfl) fun v h10 tk10 H10 ⟨its, e, hl, hR⟩ => ?_)
        subst e
        obtain ⟨m', its', n', F', N', hne, hR'⟩ := hown _ _ _ (Str.ofString "order") a2 _ H10 rfl rfl
        refine hQ5 _ _ ?_
        refine leaveK_ (s' := { s with heap := h10, toks := tk10 }) F' N' fun F0 N0 => hret _ ((a2, listOf its' n') :: news) _ _ (.inr ⟨orderF rows, a2, its', n', ?_, rfl, hne, rfl, ?_⟩) F0 N0
        · unfold dueF; rw [if_pos hcl]
        · have hcom : com1 rows acc rows.length = orderF rows := by
            unfold com1 orderF
            rw [List.take_length, ← hO2, hK]
          rw [hcom] at hR'
          exact hR'

end Mine
end
section
open PySem PySem.W PyProof.Rows PySem.Calls PySem.SeqAt
set_option Elab.async false
set_option linter.unusedVariables false
namespace Mine
section
variable {prog : Program} {w : World} {A : Around} {env : Env} {K K' : Heap} {e e₁ e₂ test : Expr} {P P' P₁ : VP} {S : List Addr} {z : Zn} {Γ Γ' : Ctx'} {h h' : Heap} {m : Str → Option Value} {x : Str} {pos p px : Pos}
theorem EV.imp' (H : EV prog w A env K e P) (k : ∀ h v, Ext K h → P h v → P₁ h v) : EV prog w A env K e P₁ := fun s Q E k' hq => H s Q E k' fun v h' tk x y => hq v h' tk x (k _ _ (k'.trans x) y)
theorem EVH.imp' (H : EVH prog w A env S K e P) (k : ∀ h v, P (hideAll h S) v → P₁ (hideAll h S) v) : EVH prog w A env S K e P₁ := fun s Q E k' hq => H s Q E k' fun v h' tk x y => hq v h' tk x (k _ _ y)
/-- truth of a list -/
theorem TS_list {α : Type} {G : α → Value → Prop} {zs : List α} (H : EV prog w A env K e (LS G zs)) (hz : zs.length ≤ 1000000) (he : ∀ whole : Sem Value, isTrue e env whole = (do let v ← whole; standAt e.pos; holding [v] (truthy v)) := by intro _; rfl) : TS prog w A env K e (!zs.isEmpty) := fun s Q E k hq => by
  refine wpAny_isTrue_value (H s _ E k fun v h' tk k' hp => ?_) (he _)
  obtain ⟨a, its, rfl, hl, hpr⟩ := hp
  have hs : zs.length = its.size := by have := hpr.length; simpa using this
  refine wpAny_truthy_list hl (by lia) ?_
  have : (!its.isEmpty) = !zs.isEmpty := by
    cases zs with
    | nil =>
      have : its.size = 0 := by simpa using hs.symm
      have e : its = #[] := Array.eq_empty_of_size_eq_zero this
      rw [e]; rfl
    | cons a r =>
      have h1 : its.size ≠ 0 := by simp at hs; lia
      have : its.isEmpty = false := by
        unfold Array.isEmpty
        exact decide_eq_false h1
      rw [this]; rfl
  rw [this]
  exact hq h' _ k'
theorem TS_not {b : Bool} (H : TS prog w A env K e b) : TS prog w A env K (.UnaryOp .Not e pos) (!b) := fun s Q E k hq => wpAny_isTrue_Not (H s _ E k fun h' tk k' => hq h' tk k')
theorem CMP_is_none : CMP prog w A .Is (IsV .none) (IsV .none) true := by
  rintro s Q E v₁ v₂ rfl rfl hq
  exact wpAny_is_self rfl hq
theorem CMP_isB_none (b : Array UInt8) : CMP prog w A .Is (IsB b) (IsV .none) false := by
  rintro s Q E v₁ v₂ ⟨t, rfl⟩ rfl hq
  exact is_bytes_none hq
theorem TS_true {k} : TS prog w A env K (.Constant (.bool true) k pos) true := fun s Q E _ hq => wpAny_isTrue_value (wpAny_Constant_bool (wpAny_truthy_bool (hq s.heap s.toks Ext.rfl')))
/-- the same pins, in another order -/
theorem STA.cong {g : Heap} {pins pins' : List (Addr × Obj)} {os : List Addr} (H : STA ⟨g, pins, os⟩ env Γ h) (h1 : ∀ p ∈ pins, p ∈ pins') (h2 : ∀ p ∈ pins', p ∈ pins) : STA ⟨g, pins', os⟩ env Γ h := by
  obtain ⟨m, A', F⟩ := H
  have hS : ∀ b, b ∈ (⟨g, pins', os⟩ : Zn).S env → b ∈ (⟨g, pins, os⟩ : Zn).S env := fun b hb => by
    rcases List.mem_cons.mp hb with q | q
    · exact q ▸ mem_L
    · rcases List.mem_append.mp q with q | q
      · exact mem_c q
      · rcases List.mem_append.mp q with q | q
        · exact mem_o (z := ⟨g, pins, os⟩) q
        · obtain ⟨p, hp, rfl⟩ := List.mem_map.mp q
          exact mem_p (z := ⟨g, pins, os⟩) (h2 p hp)
  have kh : Ext ((⟨g, pins, os⟩ : Zn).hid env h) ((⟨g, pins', os⟩ : Zn).hid env h) := fun b o e =>
    hideAll_get _ (of_hideAll _ e) fun q => by
      have := hideAll_none (h := h) _ (hS b q)
      rw [show hideAll h ((⟨g, pins, os⟩ : Zn).S env) = (⟨g, pins, os⟩ : Zn).hid env h from rfl, e] at this
      cases this
  refine ⟨m, ⟨A'.base.trans kh, A'.ns, A'.cells, A'.nodup, A'.osd, fun p hp => A'.pind p (h2 p hp)⟩, fun y f hy => ?_⟩
  have := F y f hy
  cases f with
  | loc P => obtain ⟨mo, hk, v, hv, hP⟩ := this; exact ⟨mo, hk, v, hv, mo _ _ _ kh hP⟩
  | cel P => obtain ⟨mo, hk, c, v, hc, hcv, hP⟩ := this; exact ⟨mo, hk, c, v, hc, hcv, mo _ _ _ kh hP⟩
  | own a R => obtain ⟨mo, hk, hm, ha, its, hl, hR⟩ := this; exact ⟨mo, hk, hm, ha, its, hl, mo _ _ _ kh hR⟩
theorem STA.pinAt (H : STA z env Γ h) : ∀ p ∈ z.pins, h.get? p.1 = some p.2 := fun p hp => let ⟨_, A', _⟩ := H; (A'.pind p hp).1
/-- a pin anywhere, changed -/
theorem STA.chg {I : Addr} {o o' : Obj} {g : Heap} {pre post : List (Addr × Obj)} {os : List Addr} (H : STA ⟨g, pre ++ (I, o) :: post, os⟩ env Γ h) (hpn : ∀ p ∈ pre ++ post, p.1 ≠ I) (hk : ∀ b ob, b ≠ I → h.get? b = some ob → h'.get? b = some ob) (hi : h'.get? I = some o') : STA ⟨g, pre ++ (I, o') :: post, os⟩ env Γ h' := by
  have H1 : STA ⟨g, (I, o) :: (pre ++ post), os⟩ env Γ h := H.cong (fun p hp => by simp at hp ⊢; rcases hp with h | h | h <;> simp [h]) (fun p hp => by simp at hp ⊢; rcases hp with h | h | h <;> simp [h])
  exact (H1.step hpn hk hi).cong (fun p hp => by simp at hp ⊢; rcases hp with h | h | h <;> simp [h]) (fun p hp => by simp at hp ⊢; rcases hp with h | h | h <;> simp [h])
/-- a fact taken for another, by what stands -/
theorem STA.imp_at (H : STA z env Γ h) (hf : Γ.lookup x = some (.loc P)) (k : ∀ h v, Ext z.g h → P h v → P' h v) (hm : Mono P') : STA z env ((x, .loc P') :: Γ) h := by
  obtain ⟨m, A', F⟩ := H
  refine ⟨m, A', fun y f hy => ?_⟩
  by_cases q : y = x
  · subst q
    rw [List.lookup_cons_self] at hy
    cases hy
    obtain ⟨mo, hk, v, hv, hP⟩ := F y _ hf
    exact ⟨hm, hk, v, hv, k _ _ A'.base hP⟩
  · rw [List.lookup_cons, beq_false_of_ne q] at hy
    exact F y f hy
end
section
variable {prog : Program} {w : World} {A : Around} {env : Env} {K K' : Heap} {e : Expr} {P P' : VP} {z : Zn} {Γ : Ctx'} {h h' : Heap} {m : Str → Option Value} {x : Str} {pos p px : Pos}
/-- for_core, the pins by the turn -/
inductive FpJ (env : Env) (s : Shared) (K : Heap) (I : Addr) (pins : Nat → List (Addr × Obj)) (os : List Addr) (O : Nat → Obj → Prop) (Γi : Nat → Ctx') (n k : Nat) (s' : Shared) : Prop
  | mk (h' : Heap) (tk i : Nat) (o : Obj) (e : s' = { s with heap := h', toks := tk }) (hO : O i o) (H : STA ⟨K, (I, o) :: pins i, os⟩ env (Γi i) h') (hi : i ≤ n) (hk : k = n + 1 - i)
theorem for_coreP {α : Type} {target : Expr} {body orelse : List Stmt} {s : Shared} {R : Result → Shared → Prop} {I : Addr} {n : Nat} {PI : Nat → Value → Prop} {O : Nat → Obj → Prop} {o₀ : Obj} {g₀ K : Heap}
    (W : It prog w A I K n PI O) (ho : O 0 o₀) (hg : Ext g₀ K) {Γi : Nat → Ctx'} {pins : Nat → List (Addr × Obj)} {os : List Addr} (H : STA ⟨K, (I, o₀) :: pins 0, os⟩ env (Γi 0) s.heap) (hpn : ∀ i, ∀ p ∈ pins i, p.1 ≠ I)
    (xs : List α) (hn : xs.length = n) (Rel : α → Value → Prop) (hP : ∀ i v, i < n → PI i v → ∃ y, xs[i]? = some y ∧ Rel y v) (hx : env.kindOf x = some .local) (hp' : (env.scope.kind == .class || (env.scope.kind == .module && env.locals != env.globals)) = false) (htg : target = .Name x px)
    (BR : Nat → Ctx' → Prop)
    (hbody : ∀ i y o h' tk (E : Value → Shared → Prop), xs[i]? = some y → STA ⟨K, (I, o) :: pins i, os⟩ env ((x, Fact.loc fun _ v => Rel y v) :: Γi i) h' →
      wpAny (model prog w) A (execs body env) (fun f s' => match f with | .ret v => R (.ok (.ret v)) s' | .brk => ∃ h₂ tk₂ Γb, s' = { s with heap := h₂, toks := tk₂ } ∧ BR i Γb ∧ STA ⟨K, (I, o) :: pins i, os⟩ env Γb h₂ | _ => ∃ h₂ tk₂, s' = { s with heap := h₂, toks := tk₂ } ∧ STA ⟨K, (I, o) :: pins (i + 1), os⟩ env (Γi (i + 1)) h₂) E { s with heap := h', toks := tk })
    (brk : ∀ i h' tk Γb, i < n → BR i Γb → STA ⟨g₀, pins i, os⟩ env Γb h' → R (.ok .next) { s with heap := h', toks := tk })
    (done : ∀ h' tk (E : Value → Shared → Prop), STA ⟨g₀, pins n, os⟩ env (Γi n) h' → wpAny (model prog w) A (execs orelse env) (fun f s' => R (.ok f) s') E { s with heap := h', toks := tk }) :
    codeAny (model prog w) A (.forLoop target (.ref I) body orelse env) R s := by
  subst htg
  refine codeAny_forLoop_any (FpJ env s K I pins os O Γi n) ?_ (n + 1) ⟨s.heap, s.toks, 0, o₀, rfl, ho, H, Nat.zero_le _, rfl⟩
  rintro k s' ⟨h', tk, i, o, rfl, hO, H', hi, rfl⟩
  have hIo : h'.get? I = some o := by obtain ⟨m, A', _⟩ := H'; exact (A'.pind (I, o) List.mem_cons_self).1
  have hK : Ext K h' := H'.base
  by_cases hlt : i < n
  · refine W.item i _ _ _ o hlt hK hIo hO fun v h₂ tk₂ o₂ hPv hs₂ hI₂ hO₂ => ?_
    have H₂ : STA ⟨K, (I, o₂) :: pins i, os⟩ env (Γi i) h₂ := H'.step (hpn i) (fun b ob hb e => hs₂.extBut b ob hb e) hI₂
    obtain ⟨y, hy, hRel⟩ := hP i v hlt hPv
    refine wpAny_pure ?_
    refine bind_loc (α := α) (Rel := fun _ y v => Rel y v) (fun _ _ _ _ _ r => r) K hx hp' y v _ _ _ _ _ H₂ Ext.rfl' hRel fun h₃ tk₃ H₃ => ?_
    refine wpAny_mono (hbody i y o₂ h₃ tk₃ (notedBy (model prog w) A env fun e s' => R (.error e) s') hy H₃) (fun f s₄ h₄ => ?_) fun _ _ e => e
    cases f with
    | ret v => exact h₄
    | brk =>
      obtain ⟨h₅, tk₅, Γb, rfl, hb, H₅⟩ := h₄
      exact brk i h₅ tk₅ Γb hlt hb (H₅.unpin (hpn i) (fun _ _ _ e => e) hg)
    | cont => obtain ⟨h₅, tk₅, rfl, H₅⟩ := h₄; exact ⟨n + 1 - (i + 1), turn_lt hlt, h₅, tk₅, i + 1, o₂, rfl, hO₂, H₅, hlt, rfl⟩
    | next => obtain ⟨h₅, tk₅, rfl, H₅⟩ := h₄; exact ⟨n + 1 - (i + 1), turn_lt hlt, h₅, tk₅, i + 1, o₂, rfl, hO₂, H₅, hlt, rfl⟩
  · have hin : i = n := Nat.le_antisymm ‹i ≤ n› (Nat.le_of_not_lt hlt)
    subst hin
    refine W.done _ _ _ o hK hIo hO fun h₂ he₂ => ?_
    exact done h₂ _ _ (H'.unpin (hpn i) he₂ hg)
/-- a for over a list put away, the pins by the turn -/
theorem st_forP {α : Type} {iter : Expr} {body orelse rest : List Stmt} {s : Shared} {Q : Flow → Shared → Prop} {E : Value → Shared → Prop} {Γi : Nat → Ctx'} {pins : Nat → List (Addr × Obj)} {g : Heap} {os : List Addr} (H : STA ⟨g, pins 0, os⟩ env Γ s.heap) (hw : ∀ p ∈ Γi 0, Γ.lookup p.1 = some p.2)
    (hpa : ∀ i, (pins i).map (·.1) = (pins 0).map (·.1))
    (xs : List α) (Rel : α → Value → Prop) (hok : EndOk A g)
    (hsrc : EVH prog w A env ((⟨g, pins 0, os⟩ : Zn).S env) s.heap iter (LS Rel xs))
    (hx : env.kindOf x = some .local) (hp' : (env.scope.kind == .class || (env.scope.kind == .module && env.locals != env.globals)) = false)
    (BR : Nat → Ctx' → Prop)
    (hbody : ∀ i y I o K h' tk (E : Value → Shared → Prop), xs[i]? = some y → Ext g K → (∀ i, ∀ p ∈ pins i, p.1 ≠ I) → STA ⟨K, (I, o) :: pins i, os⟩ env ((x, Fact.loc fun _ v => Rel y v) :: Γi i) h' →
      wpAny (model prog w) A (execs body env) (fun f s' => match f with | .ret v => Q (.ret v) s' | .brk => ∃ h₂ tk₂ Γb, s' = { s with heap := h₂, toks := tk₂ } ∧ BR i Γb ∧ STA ⟨K, (I, o) :: pins i, os⟩ env Γb h₂ | _ => ∃ h₂ tk₂, s' = { s with heap := h₂, toks := tk₂ } ∧ STA ⟨K, (I, o) :: pins (i + 1), os⟩ env (Γi (i + 1)) h₂) E { s with heap := h', toks := tk })
    (brk : ∀ i h' tk Γb, i < xs.length → BR i Γb → STA ⟨g, pins i, os⟩ env Γb h' → wpAny (model prog w) A (execs rest env) Q E { s with heap := h', toks := tk })
    (done : ∀ h' tk (E' : Value → Shared → Prop), STA ⟨g, pins xs.length, os⟩ env (Γi xs.length) h' → wpAny (model prog w) A (execs orelse env) (fun f s' => match f with | .next => wpAny (model prog w) A (execs rest env) Q E s' | f => Q f s') E' { s with heap := h', toks := tk })
    (hs : ∀ x, foldedSetIterable iter env x = pure x := by intro _; rfl) :
    wpAny (model prog w) A (execs (.For (.Name x px) iter body orelse pos :: rest) env) Q E s := by
  refine wpAny_execs_cons (wpAny_For ?_ hs)
  have H0 := H.weak hw
  refine hsrc s _ E Ext.rfl' fun v h₁ tk₁ k₁ hS => ?_
  obtain ⟨ax, items, rfl, hl, hp⟩ := hS
  have HI := H0.ext k₁
  refine wpAny_pyIter_list (hl.at fun o e => hide_ext _ _ e) ?_
  have hgK : Ext g ((⟨g, pins 0, os⟩ : Zn).hid env h₁) := by obtain ⟨m, A', _⟩ := HI; exact A'.base
  have hIn : h₁.get? h₁.objs.size = none := by
    cases e : h₁.get? h₁.objs.size with
    | none => rfl
    | some o' => exact absurd (Heap.lt_size e) (Nat.lt_irrefl _)
  have hI : ((⟨g, pins 0, os⟩ : Zn).hid env h₁).get? h₁.objs.size = none := by
    cases e : ((⟨g, pins 0, os⟩ : Zn).hid env h₁).get? h₁.objs.size with
    | none => rfl
    | some o' => rw [hide_ext _ _ e] at hIn; cases hIn
  have hpn0 : ∀ p ∈ pins 0, p.1 ≠ h₁.objs.size := fun p hp q => by
    have := HI.pinAt p hp
    rw [q, hIn] at this
    cases this
  have hpn : ∀ i, ∀ p ∈ pins i, p.1 ≠ h₁.objs.size := fun i p hp q => by
    have : p.1 ∈ (pins i).map (·.1) := List.mem_map_of_mem hp
    rw [hpa i] at this
    obtain ⟨p', hp', e⟩ := List.mem_map.mp this
    exact hpn0 p' hp' (e.trans q)
  have Hp := HI.pin hIn (fun b o e => Heap.get?_push_of_some { cls := .type "list_iterator", data := .fields #[.ref ax, .int (0 : Nat) 0] } e) (Heap.get?_push_size _ rfl)
  have e1 : xs.length = items.size := by have := hp.length; simpa using this
  refine for_coreP (x := x) (px := px) (s := { s with heap := h₁.push { cls := .type "list_iterator", data := .fields #[.ref ax, .int (0 : Nat) 0] }, toks := tk₁ }) (g₀ := g) (pins := pins) (R := fun r s' => match r with | .ok f => (match f with | .next => wpAny (model prog w) A (execs rest env) Q E s' | f => Q f s') | .error e => cameBackBy (model prog w) A env E e s')
    (It.list hl hI (hok.ext hgK)) ⟨rfl, rfl⟩ hgK Hp hpn xs e1 Rel ?_ hx hp' rfl BR ?_ ?_ ?_
  · intro i v hi hv
    have h1 : i < xs.length := by lia
    refine ⟨xs[i], by simp [h1], ?_⟩
    have h3 : Rel xs[i] items.toList[i] := paired_get hp i h1 (by simpa using hi)
    obtain ⟨_, hv'⟩ := Array.getElem?_eq_some_iff.mp hv
    rw [← hv']
    rwa [Array.getElem_toList] at h3
  · intro i y o h' tk E' hy HH
    refine wpAny_mono (hbody i y _ o _ h' tk E' hy hgK hpn HH) (fun f s' hf => ?_) fun _ _ e => e
    cases f <;> exact hf
  · intro i h' tk Γb hi hb HH
    exact brk i h' tk Γb (by lia) hb HH
  · intro h' tk E' HH
    rw [← e1] at HH
    exact done h' tk E' HH
/-- while True -/
theorem st_while {body rest : List Stmt} {s : Shared} {Q : Flow → Shared → Prop} {E : Value → Shared → Prop} {k} {cp : Pos} (J : Nat → Heap → Prop) (n : Nat) (H : J n s.heap) (hE : PassesOwn (model prog w) A env E)
    (hbody : ∀ n h' tk, J n h' → wpAny (model prog w) A (execs body env) (fun f s' => match f with | .ret v => Q (.ret v) s' | .brk => wpAny (model prog w) A (execs rest env) Q E s' | _ => ∃ m h₂ tk₂, m < n ∧ s' = { s with heap := h₂, toks := tk₂ } ∧ J m h₂) E { s with heap := h', toks := tk }) :
    wpAny (model prog w) A (execs (.While (.Constant (.bool true) k cp) body [] pos :: rest) env) Q E s := by
  refine wpAny_execs_cons (wpAny_While ?_)
  refine codeAny_whileLoop (fun n s' => ∃ h' tk, s' = { s with heap := h', toks := tk } ∧ J n h') ?_ n ⟨s.heap, s.toks, rfl, H⟩
  rintro n s' ⟨h', tk, rfl, hJ⟩
  refine wpAny_isTrue_value (wpAny_Constant_bool (wpAny_truthy_bool ?_))
  simp only [if_true]
  refine wpAny_mono (wpAny_passesOwn hE (hbody n h' tk hJ)) (fun f s₃ h₃ => ?_) fun _ _ e => e
  cases f with
  | ret v => exact h₃
  | brk => exact h₃
  | next => obtain ⟨m, h₂, tk₂, hm, e, hJ'⟩ := h₃; exact ⟨m, hm, h₂, tk₂, e, hJ'⟩
  | cont => obtain ⟨m, h₂, tk₂, hm, e, hJ'⟩ := h₃; exact ⟨m, hm, h₂, tk₂, e, hJ'⟩
/-- del e₁[0] of a pin -/
theorem st_del {s : Shared} {rest : List Stmt} {Q : Flow → Shared → Prop} {E : Value → Shared → Prop} {I : Addr} {its : Array Value} {nI : Nat} {g : Heap} {pre post : List (Addr × Obj)} {os : List Addr} {e₁ e₂ : Expr} {dp : Pos}
    (H : STA ⟨g, pre ++ (I, listOf its nI) :: post, os⟩ env Γ s.heap) (hpn : ∀ p ∈ pre ++ post, p.1 ≠ I) (h1 : EV prog w A env s.heap e₁ (IsV (.ref I))) (h2 : EV prog w A env s.heap e₂ (IsI 0)) (hne : 0 < its.size) (hz : its.size ≤ 100000)
    (hq : ∀ h' tk n', STA ⟨g, pre ++ (I, listOf (its.eraseIdxIfInBounds 0) n') :: post, os⟩ env Γ h' → wpAny (model prog w) A (execs rest env) Q E { s with heap := h', toks := tk }) :
    wpAny (model prog w) A (execs (.Delete [.Subscript e₁ e₂ dp] pos :: rest) env) Q E s := by
  refine wpAny_execs_cons (wpAny_Delete (wpAny_deleteEach_cons (wpAny_delete_Subscript ?_)))
  refine h1 s _ E Ext.rfl' fun v h₁ tk₁ k₁ hv => ?_
  subst hv
  refine h2 _ _ E k₁ fun v h₂ tk₂ k₂ hv => ?_
  obtain ⟨t, rfl⟩ := hv
  have H2 := H.ext (k₁.trans k₂)
  have hI : h₂.get? I = some (listOf its nI) := H2.pinAt _ (List.mem_append_right _ List.mem_cons_self)
  refine wpAny_delItem_plain (k := 0) ⟨nI, hI⟩ (by rfl) ?_ (fun h₃ hl hs => ?_) (by rw [sizeLine_eq]; lia)
  · unfold seqIndex?
    have h1 : ¬ ((0 : Int) < 0) := by decide
    simp [h1, hne]
  · obtain ⟨n', hn'⟩ := hl
    exact wpAny_deleteEach_nil (hq h₃ tk₂ n' (H2.chg hpn (fun b ob hb e => hs.extBut b ob hb e) hn'))
end
end Mine
end
section
open PySem PySem.W PyProof.Rows PySem.Calls PySem.SeqAt
set_option Elab.async false
set_option linter.unusedVariables false
namespace Mine
noncomputable abbrev Ch := Addr × List (Array UInt8)
noncomputable def delO (o : Obj) : Obj := Obj.mapSeq (fun xs => xs.eraseIdxIfInBounds 0) o
theorem delO_list (its : Array Value) (n : Nat) : ∃ n', delO (listOf its n) = listOf (its.eraseIdxIfInBounds 0) n' := ⟨_, rfl⟩
noncomputable def delAt (I : Addr) (ps : List (Addr × Obj)) : List (Addr × Obj) := ps.map fun p => if p.1 = I then (p.1, delO p.2) else p
noncomputable def dropAt (I : Addr) (cs : List Ch) : List Ch := cs.map fun c => if c.1 = I then (c.1, c.2.drop 1) else c
inductive PinsR : List Ch → List (Addr × Obj) → Prop
  | nil : PinsR [] []
  | cons {a : Addr} {bs : List (Array UInt8)} {its : Array Value} {n : Nat} {cs : List Ch} {ps : List (Addr × Obj)} : Paired bytesR bs its.toList → PinsR cs ps → PinsR ((a, bs) :: cs) ((a, listOf its n) :: ps)
theorem PinsR.get {cs : List Ch} {ps : List (Addr × Obj)} (H : PinsR cs ps) : ∀ c ∈ cs, ∃ its n, (c.1, listOf its n) ∈ ps ∧ Paired bytesR c.2 its.toList := by
  induction H with
  | nil => intro c hc; cases hc
  | cons hp _ ih =>
    intro c hc
    rcases List.mem_cons.mp hc with rfl | hc
    · exact ⟨_, _, List.mem_cons_self, hp⟩
    · obtain ⟨its, n, h1, h2⟩ := ih c hc
      exact ⟨its, n, List.mem_cons_of_mem _ h1, h2⟩
theorem PinsR.fst {cs : List Ch} {ps : List (Addr × Obj)} (H : PinsR cs ps) : ps.map (·.1) = cs.map (·.1) := by
  induction H with
  | nil => rfl
  | cons _ _ ih => rw [List.map_cons, List.map_cons, ih]
theorem erase0 (its : Array Value) : (its.eraseIdxIfInBounds 0).toList = its.toList.drop 1 := by
  rw [Array.toList_eraseIdxIfInBounds]
  cases its.toList <;> rfl
theorem PinsR.drop (I : Addr) {cs : List Ch} {ps : List (Addr × Obj)} (H : PinsR cs ps) : PinsR (dropAt I cs) (delAt I ps) := by
  induction H with
  | nil => exact .nil
  | @cons a bs its n cs ps hp _ ih =>
    unfold dropAt delAt
    rw [List.map_cons, List.map_cons]
    by_cases q : a = I
    · subst q
      obtain ⟨n', e⟩ := delO_list its n
      rw [if_pos rfl, if_pos rfl]
      dsimp only
      rw [e]
      exact .cons (by rw [erase0]; exact Paired.drop 1 hp) ih
    · rw [if_neg q, if_neg q]
      exact .cons hp ih
theorem delAt_fst (I : Addr) (ps : List (Addr × Obj)) : (delAt I ps).map (·.1) = ps.map (·.1) := by
  unfold delAt
  rw [List.map_map]
  refine List.map_congr_left fun p _ => ?_
  show (if p.1 = I then (p.1, delO p.2) else p).1 = p.1
  split <;> rfl
/-- plain: the merge -/
noncomputable def hd0 (l : List (Array UInt8)) : Array UInt8 := l.headD #[]
noncomputable def liveL (ls : List (List (Array UInt8))) : List (List (Array UInt8)) := ls.filter fun l => !l.isEmpty
noncomputable def okC (lv : List (List (Array UInt8))) (b : Array UInt8) : Bool := lv.all fun l => decide (b ∉ l.drop 1)
noncomputable def candL (lv : List (List (Array UInt8))) : Option (Array UInt8) := (lv.find? fun l => okC lv (hd0 l)).map hd0
noncomputable def stepL (b : Array UInt8) (l : List (Array UInt8)) : List (Array UInt8) := if hd0 l = b then l.drop 1 else l
noncomputable def totL (ls : List (List (Array UInt8))) : Nat := (ls.map List.length).sum
noncomputable def mergeF : Nat → List (List (Array UInt8)) → List (Array UInt8) → List (Array UInt8) × Bool × List (List (Array UInt8))
  | 0, ls, acc => (acc, true, ls)
  | n + 1, ls, acc => if liveL ls = [] then (acc, true, ls) else match candL (liveL ls) with
    | none => (acc, false, ls)
    | some b => mergeF n (ls.map (stepL b)) (acc ++ [b])
noncomputable def liveC (cs : List Ch) : List Ch := cs.filter fun c => !c.2.isEmpty
noncomputable def stepC (b : Array UInt8) (c : Ch) : Ch := (c.1, stepL b c.2)
theorem liveC_map (cs : List Ch) : (liveC cs).map (·.2) = liveL (cs.map (·.2)) := by
  unfold liveC liveL
  rw [List.filter_map]
  rfl
theorem stepC_map (b : Array UInt8) (cs : List Ch) : (cs.map (stepC b)).map (·.2) = (cs.map (·.2)).map (stepL b) := by
  rw [List.map_map, List.map_map]; rfl
theorem stepC_fst (b : Array UInt8) (cs : List Ch) : (cs.map (stepC b)).map (·.1) = cs.map (·.1) := by
  rw [List.map_map]; rfl
noncomputable def stepTo (b : Array UInt8) (cs : List Ch) (l : List Ch) : List Ch := l.foldl (fun cs y => if hd0 y.2 = b then dropAt y.1 cs else cs) cs
noncomputable def pinTo (b : Array UInt8) (ps : List (Addr × Obj)) (l : List Ch) : List (Addr × Obj) := l.foldl (fun ps y => if hd0 y.2 = b then delAt y.1 ps else ps) ps
theorem pinTo_fst (b : Array UInt8) : ∀ (l : List Ch) (ps : List (Addr × Obj)), (pinTo b ps l).map (·.1) = ps.map (·.1)
  | [], _ => rfl
  | y :: l, ps => by
    show (pinTo b (if hd0 y.2 = b then delAt y.1 ps else ps) l).map (·.1) = _
    rw [pinTo_fst b l]
    split
    · exact delAt_fst _ _
    · rfl
theorem PinsR.to (b : Array UInt8) : ∀ (l : List Ch) {cs : List Ch} {ps : List (Addr × Obj)}, PinsR cs ps → PinsR (stepTo b cs l) (pinTo b ps l)
  | [], _, _, H => H
  | y :: l, cs, ps, H => by
    show PinsR (stepTo b (if hd0 y.2 = b then dropAt y.1 cs else cs) l) (pinTo b (if hd0 y.2 = b then delAt y.1 ps else ps) l)
    refine PinsR.to b l ?_
    split
    · exact H.drop _
    · exact H
theorem stepTo_mem (b : Array UInt8) (c : Ch) : ∀ (l cs : List Ch), c ∈ cs → (∀ y ∈ l, y.1 ≠ c.1) → c ∈ stepTo b cs l
  | [], _, h, _ => h
  | y :: l, cs, h, hl => by
    show c ∈ stepTo b (if hd0 y.2 = b then dropAt y.1 cs else cs) l
    refine stepTo_mem b c l _ ?_ fun y' hy' => hl y' (List.mem_cons_of_mem _ hy')
    split
    · exact List.mem_map.mpr ⟨c, h, if_neg (Ne.symm (hl y List.mem_cons_self))⟩
    · exact h
noncomputable def one (b : Array UInt8) (y c : Ch) : Ch := if hd0 y.2 = b then (if c.1 = y.1 then (c.1, c.2.drop 1) else c) else c
theorem stepTo_one (b : Array UInt8) : ∀ (l cs : List Ch), stepTo b cs l = cs.map fun c => l.foldl (fun c y => one b y c) c
  | [], cs => by show cs = cs.map fun c => c; rw [List.map_id']
  | y :: l, cs => by
    show stepTo b (if hd0 y.2 = b then dropAt y.1 cs else cs) l = _
    have : (if hd0 y.2 = b then dropAt y.1 cs else cs) = cs.map (one b y) := by
      by_cases q : hd0 y.2 = b
      · rw [if_pos q]
        unfold dropAt
        refine List.map_congr_left fun c _ => ?_
        unfold one; rw [if_pos q]
      · rw [if_neg q]
        have : cs.map (one b y) = cs.map fun c => c := List.map_congr_left fun c _ => by unfold one; rw [if_neg q]
        rw [this, List.map_id']
    rw [this, stepTo_one b l, List.map_map]
    rfl
theorem one_off (b : Array UInt8) : ∀ (l : List Ch) (c : Ch), (∀ y ∈ l, y.1 ≠ c.1) → l.foldl (fun c y => one b y c) c = c
  | [], _, _ => rfl
  | y :: l, c, h => by
    rw [List.foldl_cons]
    have : one b y c = c := by
      unfold one
      rw [if_neg (Ne.symm (h y List.mem_cons_self))]
      split <;> rfl
    rw [this]
    exact one_off b l c fun y' hy' => h y' (List.mem_cons_of_mem _ hy')
theorem one_on (b : Array UInt8) : ∀ (l : List Ch) (c : Ch), (l.map (·.1)).Nodup → c ∈ l → l.foldl (fun c y => one b y c) c = stepC b c
  | [], _, _, h => nomatch h
  | y :: l, c, hd, h => by
    rw [List.map_cons, List.nodup_cons] at hd
    rw [List.foldl_cons]
    rcases List.mem_cons.mp h with rfl | h
    · have e : one b c c = stepC b c := by
        unfold one stepC stepL
        rw [if_pos rfl]
        split <;> rfl
      rw [e]
      exact one_off b l _ fun y' hy' q => hd.1 (List.mem_map.mpr ⟨y', hy', q⟩)
    · have hne : c.1 ≠ y.1 := fun q => hd.1 (q ▸ List.mem_map_of_mem h)
      have e : one b y c = c := by
        unfold one
        rw [if_neg hne]
        split <;> rfl
      rw [e]
      exact one_on b l c hd.2 h
theorem nodup_in {cs : List Ch} (hd : (cs.map (·.1)).Nodup) {c d : Ch} (hc : c ∈ cs) (hdd : d ∈ cs) (e : c.1 = d.1) : c = d := by
  induction cs with
  | nil => cases hc
  | cons x r ih =>
    rw [List.map_cons, List.nodup_cons] at hd
    rcases List.mem_cons.mp hc with h1 | h1
    · rcases List.mem_cons.mp hdd with h2 | h2
      · rw [h1, h2]
      · exact absurd (List.mem_map_of_mem (f := fun x : Ch => x.1) h2) (by rw [← e, h1]; exact hd.1)
    · rcases List.mem_cons.mp hdd with h2 | h2
      · exact absurd (List.mem_map_of_mem (f := fun x : Ch => x.1) h1) (by rw [e, h2]; exact hd.1)
      · exact ih hd.2 h1 h2
theorem stepTo_live (b : Array UInt8) {cs : List Ch} (hd : (cs.map (·.1)).Nodup) : stepTo b cs (liveC cs) = cs.map (stepC b) := by
  rw [stepTo_one]
  refine List.map_congr_left fun c hc => ?_
  have hdl : ((liveC cs).map (·.1)).Nodup := hd.sublist ((List.filter_sublist (l := cs)).map _)
  by_cases q : c ∈ liveC cs
  · exact one_on b _ c hdl q
  · rw [one_off b (liveC cs) c fun y hy e => q (nodup_in hd (List.mem_filter.mp hy).1 hc e ▸ hy)]
    have h0 : c.2 = [] := by
      cases h2 : c.2 with
      | nil => rfl
      | cons a r => exact absurd (List.mem_filter.mpr ⟨hc, by rw [h2]; rfl⟩) q
    unfold stepC stepL
    rw [h0]
    have : c = (c.1, []) := by rw [← h0]
    rw [List.drop_nil, ite_self, ← this]
theorem live_step (b : Array UInt8) (cs : List Ch) : liveC ((liveC cs).map (stepC b)) = liveC (cs.map (stepC b)) := by
  unfold liveC
  rw [List.filter_map, List.filter_map, List.filter_filter]
  congr 1
  refine List.filter_congr fun c _ => ?_
  show ((!(stepC b c).2.isEmpty) && !c.2.isEmpty) = !(stepC b c).2.isEmpty
  cases h : c.2 with
  | nil =>
    have : (stepC b c).2 = [] := by unfold stepC stepL; rw [h]; simp
    rw [this]; rfl
  | cons a r => simp
theorem totL_step {b : Array UInt8} : ∀ (ls : List (List (Array UInt8))), totL (ls.map (stepL b)) ≤ totL ls
  | [] => Nat.le_refl _
  | l :: ls => by
    have h := totL_step (b := b) ls
    unfold totL at h ⊢
    rw [List.map_cons, List.map_cons, List.map_cons, List.sum_cons, List.sum_cons]
    have : (stepL b l).length ≤ l.length := by unfold stepL; split <;> simp
    lia
theorem totL_lt {b : Array UInt8} : ∀ (ls : List (List (Array UInt8))), (∃ l ∈ ls, l ≠ [] ∧ hd0 l = b) → totL (ls.map (stepL b)) < totL ls
  | [], h => by obtain ⟨l, hl, _⟩ := h; cases hl
  | l :: ls, h => by
    obtain ⟨l', hl', h1, h2⟩ := h
    have hle := totL_step (b := b) ls
    unfold totL at hle ⊢
    rw [List.map_cons, List.map_cons, List.map_cons, List.sum_cons, List.sum_cons]
    have : (stepL b l).length ≤ l.length := by unfold stepL; split <;> simp
    rcases List.mem_cons.mp hl' with rfl | hl'
    · have : (stepL b l').length < l'.length := by
        unfold stepL; rw [if_pos h2]
        cases l' with
        | nil => exact absurd rfl h1
        | cons a r => simp
      lia
    · have := totL_lt (b := b) ls ⟨l', hl', h1, h2⟩
      unfold totL at this
      lia
/-- more turns change nothing -/
theorem mergeF_more : ∀ (n k : Nat) (ls : List (List (Array UInt8))) (acc : List (Array UInt8)), totL ls ≤ n → totL ls ≤ k → mergeF (n + 1) ls acc = mergeF (k + 1) ls acc
  | n, k, ls, acc, hn, hk => by
    show (if liveL ls = [] then (acc, true, ls) else match candL (liveL ls) with | none => (acc, false, ls) | some b => mergeF n (ls.map (stepL b)) (acc ++ [b])) = (if liveL ls = [] then (acc, true, ls) else match candL (liveL ls) with | none => (acc, false, ls) | some b => mergeF k (ls.map (stepL b)) (acc ++ [b]))
    by_cases h0 : liveL ls = []
    · rw [if_pos h0, if_pos h0]
    · rw [if_neg h0, if_neg h0]
      cases hc : candL (liveL ls) with
      | none => rfl
      | some b =>
        have hlt : totL (ls.map (stepL b)) < totL ls := by
          refine totL_lt ls ?_
          unfold candL at hc
          cases hf : (liveL ls).find? fun l => okC (liveL ls) (hd0 l) with
          | none => rw [hf] at hc; cases hc
          | some l =>
            rw [hf] at hc
            have hm := List.mem_of_find?_eq_some hf
            obtain ⟨h1, h2⟩ := List.mem_filter.mp hm
            exact ⟨l, h1, fun q => by rw [q] at h2; exact absurd h2 (by decide), by simpa using hc⟩
        dsimp only
        cases n with
        | zero => lia
        | succ n =>
          cases k with
          | zero => lia
          | succ k => exact mergeF_more n k _ _ (by lia) (by lia)
section
variable {prog : Program} {w : World} {A : Around} {env : Env} {K K' : Heap} {e : Expr} {P P' : VP} {z : Zn} {Γ : Ctx'} {h h' : Heap} {m : Str → Option Value} {x : Str} {pos p px : Pos}
theorem STA.delp {I J : Addr} {o oJ : Obj} {g : Heap} {pins : List (Addr × Obj)} {os : List Addr} (H : STA ⟨g, (J, oJ) :: pins, os⟩ env Γ h) (hJ : J ≠ I) (hI : (I, o) ∈ pins) (hk : ∀ b ob, b ≠ I → h.get? b = some ob → h'.get? b = some ob) (hi : h'.get? I = some (delO o)) :
    STA ⟨g, (J, oJ) :: delAt I pins, os⟩ env Γ h' := by
  have huniq : ∀ q ∈ pins, q.1 = I → q.2 = o := fun q hq e => by
    have h1 := H.pinAt q (List.mem_cons_of_mem _ hq)
    have h2 := H.pinAt (I, o) (List.mem_cons_of_mem _ hI)
    rw [e] at h1
    rw [show h.get? I = some o from h2] at h1
    exact (Option.some.inj h1).symm
  have H1 : STA ⟨g, (I, o) :: ((J, oJ) :: pins).filter (fun p => decide (p.1 ≠ I)), os⟩ env Γ h := H.cong (fun p hp => by
      by_cases q : p.1 = I
      · rcases List.mem_cons.mp hp with rfl | hp
        · exact absurd q hJ
        · have := huniq p hp q
          rw [show p = (I, o) from Prod.ext q this]
          exact List.mem_cons_self
      · exact List.mem_cons_of_mem _ (List.mem_filter.mpr ⟨hp, by simpa using q⟩)) (fun p hp => by
      rcases List.mem_cons.mp hp with rfl | hp
      · exact List.mem_cons_of_mem _ hI
      · exact (List.mem_filter.mp hp).1)
  refine (H1.step (fun p hp => by simpa using (List.mem_filter.mp hp).2) hk hi).cong (fun p hp => ?_) (fun p hp => ?_)
  · rcases List.mem_cons.mp hp with rfl | hp
    · exact List.mem_cons_of_mem _ (List.mem_map.mpr ⟨_, hI, if_pos rfl⟩)
    · obtain ⟨h1, h2⟩ := List.mem_filter.mp hp
      rcases List.mem_cons.mp h1 with rfl | h1
      · exact List.mem_cons_self
      · exact List.mem_cons_of_mem _ (List.mem_map.mpr ⟨p, h1, if_neg (by simpa using h2)⟩)
  · rcases List.mem_cons.mp hp with rfl | hp
    · exact List.mem_cons_of_mem _ (List.mem_filter.mpr ⟨List.mem_cons_self, by simpa using hJ⟩)
    · obtain ⟨q, hq, rfl⟩ := List.mem_map.mp hp
      by_cases e : q.1 = I
      · rw [if_pos e, huniq q hq e, e]
        exact List.mem_cons_self
      · rw [if_neg e]
        exact List.mem_cons_of_mem _ (List.mem_filter.mpr ⟨List.mem_cons_of_mem _ hq, by simpa using e⟩)
/-- del e₁[0] of a pin -/
theorem st_delP {s : Shared} {rest : List Stmt} {Q : Flow → Shared → Prop} {E : Value → Shared → Prop} {I J : Addr} {oJ : Obj} {its : Array Value} {nI : Nat} {g : Heap} {pins : List (Addr × Obj)} {os : List Addr} {e₁ e₂ : Expr} {dp : Pos}
    (H : STA ⟨g, (J, oJ) :: pins, os⟩ env Γ s.heap) (hJ : J ≠ I) (hI : (I, listOf its nI) ∈ pins) (h1 : EV prog w A env s.heap e₁ (IsV (.ref I))) (h2 : EV prog w A env s.heap e₂ (IsI 0)) (hne : 0 < its.size) (hz : its.size ≤ 100000)
    (hq : ∀ h' tk, STA ⟨g, (J, oJ) :: delAt I pins, os⟩ env Γ h' → wpAny (model prog w) A (execs rest env) Q E { s with heap := h', toks := tk }) :
    wpAny (model prog w) A (execs (.Delete [.Subscript e₁ e₂ dp] pos :: rest) env) Q E s := by
  refine wpAny_execs_cons (wpAny_Delete (wpAny_deleteEach_cons (wpAny_delete_Subscript ?_)))
  refine h1 s _ E Ext.rfl' fun v h₁ tk₁ k₁ hv => ?_
  subst hv
  refine h2 _ _ E k₁ fun v h₂ tk₂ k₂ hv => ?_
  obtain ⟨t, rfl⟩ := hv
  have H2 := H.ext (k₁.trans k₂)
  have hIs : h₂.get? I = some (listOf its nI) := H2.pinAt _ (List.mem_cons_of_mem _ hI)
  refine P.delItem_list (n := nI) (k := 0) hIs (by rfl) ?_ ?_ (by rw [sizeLine_eq]; lia)
  · unfold seqIndex?
    have h1 : ¬ ((0 : Int) < 0) := by decide
    simp [h1, hne]
  · refine wpAny_deleteEach_nil (hq _ tk₂ (H2.delp hJ hI (fun b ob hb e => (Heap.SameBut.update (h := h₂) (a := I) _).extBut b ob hb e) ?_))
    exact Heap.get?_update_self _ hIs (Obj.isFreed_of_seq rfl)
end
end Mine
end
section
open PySem PySem.W PyProof.Rows PySem.Calls PySem.SeqAt
set_option Elab.async false
set_option linter.unusedVariables false
namespace Mine
/-- its object, its traceback's entry, its arguments -/
inductive ExnX (fl : Value) (cls : Value) (as : List Value) (e : Addr) (h0 h : Heap) : Prop
  | mk (oe : Obj) (vs : Array Value) (T : Addr) (oT : Obj) (ts : Array Value) (t : Addr) (ot : Obj) (n : Nat) (r1 : h.get? e = some oe) (r2 : oe.cls = cls) (r3 : oe.data = .fields vs) (r4 : vs[0]? = some (.ref t)) (r5 : vs[1]? = some (.ref T)) (r6 : vs[2]? = some .none) (r7 : T ≠ e) (r8 : h.get? T = some oT) (r9 : oT.data = .fields ts) (ra : ts[3]? = some fl)
    (rb : h.get? t = some ot) (rc : ot.cls = .type "tuple") (rd : ot.data = .seq as.toArray n) (re : h0.get? e = none) (rf : h0.get? T = none) (rg : h0.get? t = none)
/-- an exception on its way, its context none -/
structure Exn (fl : Value) (cls : Value) (as : List Value) (e : Addr) (h0 h : Heap) : Prop where
  ex : ExnX fl cls as e h0 h
/-- a heap kept, but for the slots of frames -/
structure Upto (fs : List Addr) (h0 h : Heap) : Prop where
  off : ∀ b o, h0.get? b = some o → b ∉ fs → h.get? b = some o
  sl : ∀ b o, h0.get? b = some o → ∃ sl, h.get? b = some { o with slots := sl }
theorem Upto.trans {fs : List Addr} {h0 h1 h2 : Heap} (x : Upto fs h0 h1) (y : Upto fs h1 h2) : Upto fs h0 h2 := ⟨fun b o e n => y.off b o (x.off b o e n) n, fun b o e => let ⟨_, e1⟩ := x.sl b o e; let ⟨sl, e2⟩ := y.sl b _ e1; ⟨sl, e2⟩⟩
theorem Upto.of_ext {fs : List Addr} {h0 h1 : Heap} (x : Ext h0 h1) : Upto fs h0 h1 := ⟨fun b o e _ => x b o e, fun b o e => ⟨o.slots, x b o e⟩⟩
theorem Upto.mono {fs fs' : List Addr} {h0 h1 : Heap} (x : Upto fs h0 h1) (k : ∀ b ∈ fs, b ∈ fs') : Upto fs' h0 h1 := ⟨fun b o e n => x.off b o e fun q => n (k b q), x.sl⟩
section
variable {M : Model} {A : Around} {E : Value → Shared → Prop} {s : Shared} {base : Heap} {env : Env} {outer : List Env} {L e : Addr} {oe : Obj} {vs : Array Value} {head cls : Value} {hadNext : Bool} {Q : Unit → Shared → Prop} {as : List Value} {h0 : Heap}
theorem mk_entry (hfr : A.frames = some (env :: outer)) (hl : s.heap.FunFrames base (env :: outer)) (hf : env.frame = some L) (he : s.heap.get? e = some oe) (hd : oe.data = .fields vs) (hsz : 1 < vs.size)
    (hQ : ∀ h' T oT ts, h'.get? e = some (oe.mapFields (·.setIfInBounds 1 (.ref T))) → h'.get? T = some oT → oT.data = .fields ts → ts[3]? = some (rawInt L) → s.heap.get? T = none →
      (∀ b o, b ≠ e → s.heap.get? b = some o → (b ∉ (env :: outer).filterMap (·.frame) → h'.get? b = some o) ∧ ∃ sl, h'.get? b = some { o with slots := sl }) → Q () { s with heap := h' }) :
    wpAny M A (do let a ← frameOf env; let pl ← entryPlaceOf L hadNext; let b ← EntryCells.newEntry head a .none (rawInt L) .none pl; setField (.ref e) 1 b) Q E s := by
  have hne : e ∉ (env :: outer).filterMap (·.frame) := fun hm => by
    obtain ⟨_, o, ho, hnf⟩ := hl.mem hm
    rw [he] at ho
    cases ho
    exact hnf _ hd
  refine wpAny_bind (wpAny_frameOf_fun hfr hl hf fun h₁ hs₁ => wpAny_bind (wpAny_entryPlaceOf fun pl hpl => ?_))
  unfold EntryCells.newEntry newFields
  refine wpAny_bind (wpAny_newObj_type ?_ (hpl.sizeOk5 _ _ _ _ _))
  have he₁ : h₁.get? e = some oe := by rw [hs₁.2.1 e hne]; exact he
  have hT : h₁.get? h₁.objs.size = none := by
    cases q : h₁.get? h₁.objs.size with
    | none => rfl
    | some o => exact absurd (Heap.lt_size q) (Nat.lt_irrefl _)
  have hTe : e ≠ h₁.objs.size := Nat.ne_of_lt (Heap.lt_size he₁)
  have hp3 : (([head, Value.ref L, Value.none, rawInt L, Value.none] ++ (if pl.isEmpty then List.replicate 6 Value.none else pl)).toArray)[3]? = some (rawInt L) := by simp
  generalize ([head, Value.ref L, Value.none, rawInt L, Value.none] ++ (if pl.isEmpty then List.replicate 6 Value.none else pl)).toArray = ts at hp3
  have hfT := Heap.get?_push_size h₁ (o := { cls := .type "traceback", dict := none, data := .fields ts }) rfl
  have hpu : ∀ b o, h₁.get? b = some o → (h₁.push { cls := .type "traceback", dict := none, data := .fields ts }).get? b = some o := fun b o e => Heap.get?_push_of_some _ e
  generalize h₁.push { cls := .type "traceback", dict := none, data := .fields ts } = h₂ at hfT hpu
  generalize h₁.objs.size = T at *
  refine wpAny_setField (hpu _ _ he₁) hd hsz (hQ _ T _ ts (Heap.get?_update_self _ (hpu _ _ he₁) (Obj.isFreed_of_fields (Obj.data_mapFields hd _))) ((Heap.get?_update_other _ _ hTe).trans hfT) rfl hp3 ?_ fun b o hb ho => ⟨fun hn => ?_, ?_⟩)
  · cases q : s.heap.get? T with
    | none => rfl
    | some o =>
      obtain ⟨sl, hs⟩ := hs₁.2.2 _ _ q
      rw [hT] at hs; cases hs
  · rw [Heap.get?_update_other _ _ (Ne.symm hb)]
    exact hpu _ _ ((hs₁.2.1 b hn).trans ho)
  · obtain ⟨sl, hs⟩ := hs₁.2.2 _ _ ho
    exact ⟨sl, by rw [Heap.get?_update_other _ _ (Ne.symm hb)]; exact hpu _ _ hs⟩
theorem set_flight {fl : Value} (X : Exn fl cls as e h0 s.heap) (hQ : ∀ h', Exn .none cls as e h0 h' → (∀ b o, h0.get? b = some o → s.heap.get? b = h'.get? b) → (∀ b, (∀ o vs, s.heap.get? b = some o → o.data ≠ .fields vs) → h'.get? b = s.heap.get? b) → Q () { s with heap := h' }) : wpAny M A (setFlight (.ref e) none) Q E s := by
  obtain ⟨oe, vs, T, oT, ts, t, ot, n, he, hc, hd, h0', h1, h2, hTe, hT, hdT, h3, ht, htc, htd, ne, nT, nt⟩ := X.ex
  unfold setFlight
  refine wpAny_bind (wpAny_field he hd h1 ?_)
  rw [if_pos (show (Value.ref T != Value.none) = true from by simp)]
  have h3s : 3 < ts.size := (Array.getElem?_eq_some_iff.mp h3).1
  have htT : T ≠ t := fun q => by rw [q, ht] at hT; cases hT; rw [htd] at hdT; cases hdT
  refine wpAny_setField hT hdT h3s (hQ _ ⟨oe, vs, T, _, _, t, ot, n, (Heap.get?_update_other _ _ hTe).trans he, hc, hd, h0', h1, h2, hTe, Heap.get?_update_self _ hT (Obj.isFreed_of_fields (Obj.data_mapFields hdT _)), Obj.data_mapFields hdT _, by simp [h3s], (Heap.get?_update_other _ _ htT).trans ht, htc, htd, ne, nT, nt⟩ (fun b o hb => ?_) fun b hb => ?_)
  · refine (Heap.get?_update_other _ _ fun q => ?_).symm
    rw [← q, nT] at hb; cases hb
  · exact Heap.get?_update_other _ _ fun q => hb _ ts (q ▸ hT) hdT
/-- a made exception leaves its def -/
theorem leave_first {h : Heap} (hfr : A.frames = some (env :: outer)) (hf : env.frame = some L) (hl : h.FunFrames base (env :: outer)) (hx : Heap.MadeExcOf h s.heap e cls as)
    (hQ : ∀ h', Exn .none cls as e h h' → Upto ((env :: outer).filterMap (·.frame)) h h' → Q () { s with heap := h' }) : wpAny M A (leaving env (.ref e)) Q E s := by
  obtain ⟨t, he, htn, ht⟩ := hx.there
  unfold leaving noteFrame
  simp only [hf]
  refine wpAny_bind (wpAny_bind (wpAny_field he rfl (x := .none) rfl ?_))
  rw [if_neg (by decide)]
  refine mk_entry hfr (hl.of_keeps fun b o hb _ => ⟨o, hx.keeps b o hb, rfl⟩) hf he rfl (by show 1 < 6; decide) fun h' T oT ts heT hT hdT h3 nT hk => ?_
  have hup : Upto ((env :: outer).filterMap (·.frame)) h h' := ⟨fun b o hb hn => (hk b o (fun q => by rw [q, hx.new] at hb; cases hb) (hx.keeps b o hb)).1 hn, fun b o hb => (hk b o (fun q => by rw [q, hx.new] at hb; cases hb) (hx.keeps b o hb)).2⟩
  have hte : t ≠ e := fun q => by rw [q, he] at ht; cases ht
  obtain ⟨sl, ht'⟩ := (hk t _ hte ht).2
  have hTe : T ≠ e := fun q => by rw [q, he] at nT; cases nT
  have nT0 : h.get? T = none := by
    cases q : h.get? T with
    | none => rfl
    | some o => rw [hx.keeps _ _ q] at nT; cases nT
  have X : Exn (rawInt L) cls as e h h' := ⟨_, _, T, oT, ts, t, _, _, heT, rfl, rfl, by rfl, by rfl, by rfl, hTe, hT, hdT, h3, ht', rfl, rfl, hx.new, nT0, htn⟩
  exact set_flight (s := { s with heap := h' }) X fun h2 X2 k1 _ => hQ h2 X2 ⟨fun b o hb hn => (k1 b o hb).symm.trans (hup.off b o hb hn), fun b o hb => let ⟨sl, q⟩ := hup.sl b o hb; ⟨sl, (k1 b o hb).symm.trans q⟩⟩
/-- it comes to another frame -/
theorem note_next (hfr : A.frames = some (env :: outer)) (hf : env.frame = some L) (hl : s.heap.FunFrames base (env :: outer)) (X : Exn .none cls as e h0 s.heap) (hb0 : ∀ b o, h0.get? b = some o → ∃ o', s.heap.get? b = some o')
    (hQ : ∀ h', Exn (rawInt L) cls as e h0 h' → (∀ b o, h0.get? b = some o → ∀ o', s.heap.get? b = some o' → (b ∉ (env :: outer).filterMap (·.frame) → h'.get? b = some o') ∧ ∃ sl, h'.get? b = some { o' with slots := sl }) → h'.FunFrames base (env :: outer) → Q () { s with heap := h' }) : wpAny M A (noteFrame (.ref e) env) Q E s := by
  obtain ⟨oe, vs, T, oT, ts, t, ot, n, he, hc, hd, h0', h1, h2, hTe, hT, hdT, h3, ht, htc, htd, ne, nT, nt⟩ := X.ex
  unfold noteFrame
  simp only [hf]
  refine wpAny_bind (wpAny_field he hd h1 ?_)
  rw [if_pos (show (Value.ref T != Value.none) = true from by simp)]
  refine wpAny_bind (wpAny_field hT hdT h3 ?_)
  rw [if_neg (show ¬ ((Value.none == rawInt L) = true) from by simp [rawInt])]
  refine wpAny_bind (wpAny_setField hT hdT (Array.getElem?_eq_some_iff.mp h3).1 ?_)
  have htT : T ≠ t := fun q => by rw [q, ht] at hT; cases hT; rw [htd] at hdT; cases hdT
  have other : ∀ b, b ≠ T → (s.heap.update T (Obj.mapFields (·.setIfInBounds 3 Value.none))).get? b = s.heap.get? b := fun b hb => Heap.get?_update_other _ _ (Ne.symm hb)
  have hTu : (s.heap.update T (Obj.mapFields (·.setIfInBounds 3 Value.none))).get? T = _ := Heap.get?_update_self _ hT (Obj.isFreed_of_fields (Obj.data_mapFields hdT _))
  generalize s.heap.update T (Obj.mapFields (·.setIfInBounds 3 Value.none)) = hh at other hTu ⊢
  have hne : ∀ b o, s.heap.get? b = some o → (∀ vs, o.data ≠ .fields vs) → b ≠ T := fun b o hb hnf q => by rw [q, hT] at hb; cases hb; exact hnf _ hdT
  refine mk_entry (s := { s with heap := hh }) hfr (hl.of_keeps fun b o hb hnf => ⟨o, (other b (hne b o hb hnf)).trans hb, rfl⟩) hf ((other e (Ne.symm hTe)).trans he) hd (Array.getElem?_eq_some_iff.mp h1).1 fun h' T' oT' ts' heT hT' hdT' h3' nT' hk => ?_
  have hTe' : T' ≠ e := fun q => by rw [q, other e (Ne.symm hTe), he] at nT'; cases nT'
  have hte : t ≠ e := fun q => by rw [q, he] at ht; cases ht; rw [htd] at hd; cases hd
  obtain ⟨sl, ht'⟩ := (hk t ot hte ((other t (Ne.symm htT)).trans ht)).2
  have h0T : h0.get? T' = none := by
    cases q : h0.get? T' with
    | none => rfl
    | some o =>
      obtain ⟨o', hs⟩ := hb0 T' o q
      have hTT : T' ≠ T := fun r => by rw [r, nT] at q; cases q
      rw [other T' hTT, hs] at nT'; cases nT'
  have hsz1 := (Array.getElem?_eq_some_iff.mp h1).1
  refine hQ h' ⟨_, _, T', oT', ts', t, _, n, heT, by rw [Obj.cls_mapFields]; exact hc, Obj.data_mapFields hd _, by rw [Array.getElem?_setIfInBounds_ne (by decide)]; exact h0', by simp [hsz1], by rw [Array.getElem?_setIfInBounds_ne (by decide)]; exact h2, hTe', hT', hdT', h3', ht', htc, htd, ne, h0T, nt⟩ (fun b o hb o' ho' => ?_) (hl.of_keeps fun b o hb hnf => ?_)
  · have hbe : b ≠ e := fun q => by rw [q, ne] at hb; cases hb
    have hbT : b ≠ T := fun q => by rw [q, nT] at hb; cases hb
    exact hk b o' hbe ((other b hbT).trans ho')
  · have hbe : b ≠ e := fun q => by rw [q, he] at hb; cases hb; exact hnf _ hd
    obtain ⟨sl, q⟩ := (hk b o hbe ((other b (hne b o hb hnf)).trans hb)).2
    exact ⟨_, q, rfl⟩
end
end Mine
end
section
open PySem PySem.W PyProof.Rows PySem.Calls PySem.SeqAt
set_option Elab.async false
set_option linter.unusedSimpArgs false
set_option linter.unusedVariables false
namespace Mine
/-- the ledger of chains -/
noncomputable abbrev SpC (w : World) (mean : ExcName → Option Value) (mg mb : Str → Option Value) (hdl : Option Value) (f : Addr) (room : Nat) (news : List (Addr × Obj)) (vs : List Value) (kw : List (Str × Value))
    (Ret : Value → List (Addr × Obj) → Prop) (Exc : Value → List Value → List (Addr × Obj) → Prop) : Prop :=
  ∀ (dp un : Nat) (gd : Option (List Code)) (env : Env) (outer : List Env) (A₀ : Around) (base h₀ : Heap) (L : Addr) (m : Str → Option Value) (s : Shared) (Q E : Value → Shared → Prop),
    env.frame = some L → env.scope.kind = .function → Below A₀ base outer h₀ → KtsDicts (outer.filterMap (·.frame)) h₀ → Fr h₀ L s.heap m → (hd.heap_1 w.params).In h₀ → News h₀ L s.heap news → Top vw LO mean mg mb h₀ →
    dp + room < recursionLimit → un + 8 * room < cLine →
    (∀ v news' h' tk', Ret v news' → Fr h₀ L h' m → News h₀ L h' news' → Q v { s with heap := h', toks := tk' }) →
    (∀ G K6 e cls as n' h' tk', Exc cls as n' → Fr h₀ L G m → Ext G K6 → (∀ q ∈ n', K6.get? q.1 = some q.2 ∧ q.1 ≠ L ∧ h₀.get? q.1 = none) → Exn .none cls as e K6 h' → Upto ((env :: outer).filterMap (·.frame)) K6 h' → E (.ref e) { s with heap := h', toks := tk' }) →
    wpAny (model PySem.Challenge.rw_qh0045_01.row.prog w) (topM hdl dp un gd env outer) (call (.ref f) vs kw) Q E s
noncomputable def refR (c : Ch) (v : Value) : Prop := v = .ref c.1
noncomputable def led (ps : List (Addr × Obj)) (ra : Addr) (items : Array Value) (nr : Nat) (news : List (Addr × Obj)) : List (Addr × Obj) := ps ++ (ra, listOf items nr) :: news
theorem body_startP {env : Env} {s : Shared} {g : Heap} {m : Str → Option Value} {x : Str} {v : Value} {ps news : List (Addr × Obj)} (F : Fr g env.locals s.heap m) (N : News g env.locals s.heap (ps ++ news)) (hcl : env.cells = []) (hdis : ∀ p ∈ news, p.1 ∉ ps.map (·.1))
    (hx : env.kindOf x = some .local) (hv : m x = some v) :
    ∃ g0, STA ⟨g0, ps, []⟩ env [(x, .loc (IsV v))] s.heap ∧ (∀ p ∈ news, g0.get? p.1 = some p.2) ∧ Ext g g0 ∧
      (∀ ps' os Γ' h', STA ⟨g0, ps', os⟩ env Γ' h' → ps'.map (·.1) = ps.map (·.1) → ∃ m', Fr g env.locals h' m' ∧ News g env.locals h' (ps' ++ news)) ∧
      (∀ ps' os Γ' h' y a R, STA ⟨g0, ps', os⟩ env Γ' h' → ps'.map (·.1) = ps.map (·.1) → Γ'.lookup y = some (.own a R) → ∃ m' its n, Fr g env.locals h' m' ∧ News g env.locals h' ((a, listOf its n) :: (ps' ++ news)) ∧ (∀ p ∈ ps' ++ news, p.1 ≠ a) ∧ R h' its.toList) := by
  have hS : (⟨s.heap, ps, []⟩ : Zn).S env = env.locals :: ps.map (·.1) := by unfold Zn.S; rw [hcl]; rfl
  have hnone : ∀ p ∈ ps ++ news, g.get? p.1 = none := fun p hp => (N p hp).2.2
  have hL : g.get? env.locals = none := by
    cases q : g.get? env.locals with
    | none => rfl
    | some o => exact absurd (Nat.lt_of_lt_of_le (Heap.lt_size q) F.above) (Nat.lt_irrefl _)
  have hin : ∀ b o, s.heap.get? b = some o → b ≠ env.locals → b ∉ ps.map (·.1) → (hideAll s.heap ((⟨s.heap, ps, []⟩ : Zn).S env)).get? b = some o := fun b o e h1 h2 => hideAll_get _ e (by
    rw [hS]
    intro q
    rcases List.mem_cons.mp q with q | q
    · exact h1 q
    · exact h2 q)
  have hgin : Ext g (hideAll s.heap ((⟨s.heap, ps, []⟩ : Zn).S env)) := fun b o e => hin b o (F.keep b o e) (fun q => by rw [q, hL] at e; cases e) (fun q => by
    obtain ⟨p, hp, rfl⟩ := List.mem_map.mp q
    rw [hnone p (List.mem_append_left _ hp)] at e
    cases e)
  have hnin : ∀ p ∈ news, (hideAll s.heap ((⟨s.heap, ps, []⟩ : Zn).S env)).get? p.1 = some p.2 := fun p hp => hin p.1 p.2 (N p (List.mem_append_right _ hp)).1 (N p (List.mem_append_right _ hp)).2.1 (hdis p hp)
  have hleave : ∀ ps' os Γ' h', STA ⟨hideAll s.heap ((⟨s.heap, ps, []⟩ : Zn).S env), ps', os⟩ env Γ' h' → ps'.map (·.1) = ps.map (·.1) → ∃ m', Fr g env.locals h' m' ∧ News g env.locals h' (ps' ++ news) := by
    intro ps' os Γ' h' H hps
    have hb := H.base
    have hpa := H.pinAt
    obtain ⟨m', A', _⟩ := H
    refine ⟨m', ⟨A'.ns, fun b o e => hb b o (hgin b o e), F.above⟩, fun p hp => ?_⟩
    rcases List.mem_append.mp hp with hp | hp
    · refine ⟨hpa p hp, (A'.pind p hp).2.1, ?_⟩
      have : p.1 ∈ ps.map (·.1) := hps ▸ List.mem_map_of_mem hp
      obtain ⟨q, hq, e⟩ := List.mem_map.mp this
      have h9 := hnone q (List.mem_append_left _ hq)
      rw [show q.1 = p.1 from e] at h9
      exact h9
    · exact ⟨hb _ _ (hnin p hp), (N p (List.mem_append_right _ hp)).2⟩
  refine ⟨hideAll s.heap ((⟨s.heap, ps, []⟩ : Zn).S env), ⟨m, ⟨Ext.rfl', F.ns, fun p hp => ?_, ?_, (fun a ha => nomatch ha), fun p hp => ?_⟩, fun y f hy => ?_⟩, hnin, hgin, hleave, ?_⟩
  · rw [hcl] at hp; cases hp
  · rw [hcl]; exact List.nodup_nil
  · refine ⟨(N p (List.mem_append_left _ hp)).1, (N p (List.mem_append_left _ hp)).2.1, ?_, fun q => nomatch q⟩
    rw [hcl]; exact fun q => nomatch q
  · have := lookup_in hy
    simp at this
    obtain ⟨rfl, rfl⟩ := this
    exact ⟨mono_V v, hx, v, hv, rfl⟩
  · intro ps' os Γ' h' y a R H hps hf
    obtain ⟨m', F', N'⟩ := hleave ps' os Γ' h' H hps
    have hpa := H.pinAt
    obtain ⟨m2, A', FF⟩ := H
    obtain ⟨mo, hk, hv', ha, its, ⟨n, hl⟩, hR⟩ := FF y _ hf
    have hzn : (hideAll s.heap ((⟨s.heap, ps, []⟩ : Zn).S env)).get? a = none := by
      cases q : (hideAll s.heap ((⟨s.heap, ps, []⟩ : Zn).S env)).get? a with
      | none => rfl
      | some o =>
        have := A'.base _ _ q
        rw [show ((⟨hideAll s.heap ((⟨s.heap, ps, []⟩ : Zn).S env), ps', os⟩ : Zn).hid env h').get? a = none from hideAll_none _ (mem_o (z := ⟨_, ps', os⟩) ha)] at this
        cases this
    refine ⟨m', its, n, F', fun p hp => ?_, fun p hp q => ?_, mo _ _ _ hide_ext hR⟩
    · rcases List.mem_cons.mp hp with rfl | hp
      · refine ⟨hl, ns_list_ne A'.ns ⟨n, hl⟩, ?_⟩
        cases q : g.get? a with
        | none => rfl
        | some o =>
          have := hgin _ _ q
          rw [hzn] at this
          cases this
      · exact N' p hp
    · rcases List.mem_append.mp hp with hp | hp
      · exact (A'.pind p hp).2.2.2 (q ▸ ha)
      · have := hnin p hp
        rw [q, hzn] at this
        cases this
theorem body_goP {prog : Program} {w : World} {A : Around} {E : Value → Shared → Prop} {Q : Flow → Shared → Prop} {body : List Stmt} {env : Env} {s : Shared} {g : Heap} {m : Str → Option Value} {x : Str} {v : Value} {ps news : List (Addr × Obj)} (F : Fr g env.locals s.heap m) (N : News g env.locals s.heap (ps ++ news)) (hcl : env.cells = []) (hdis : ∀ p ∈ news, p.1 ∉ ps.map (·.1))
    (hx : env.kindOf x = some .local) (hv : m x = some v)
    (k : ∀ g0, STA ⟨g0, ps, []⟩ env [(x, .loc (IsV v))] s.heap → (∀ p ∈ news, g0.get? p.1 = some p.2) → Ext g g0 →
      (∀ ps' os Γ' h', STA ⟨g0, ps', os⟩ env Γ' h' → ps'.map (·.1) = ps.map (·.1) → ∃ m', Fr g env.locals h' m' ∧ News g env.locals h' (ps' ++ news)) →
      (∀ ps' os Γ' h' y a R, STA ⟨g0, ps', os⟩ env Γ' h' → ps'.map (·.1) = ps.map (·.1) → Γ'.lookup y = some (.own a R) → ∃ m' its n, Fr g env.locals h' m' ∧ News g env.locals h' ((a, listOf its n) :: (ps' ++ news)) ∧ (∀ p ∈ ps' ++ news, p.1 ≠ a) ∧ R h' its.toList) → wpAny (model prog w) A (execs body env) Q E s) :
    wpAny (model prog w) A (execs body env) Q E s := by
  obtain ⟨g0, a, b, c, d, e⟩ := body_startP F N hcl hdis hx hv
  exact k g0 a b c d e
noncomputable def CTX (sq : List Ch) (a : Addr) (acc : List (Array UInt8)) : Ctx' := [(Str.ofString "sequences", .loc (LS refR sq)), (Str.ofString "result", .own a fun _ l => Paired bytesR acc l)]
noncomputable def CN (lv : List Ch) (i : Nat) : VP := fun _ v => v = .none ∧ ∀ j, j < i → ∀ y, lv[j]? = some y → okC (lv.map (·.2)) (hd0 y.2) = false
noncomputable def CB (lv : List Ch) (b : Array UInt8) : VP := fun _ v => (∃ t, v = .bytes b t) ∧ candL (lv.map (·.2)) = some b
noncomputable def CT (lv : List Ch) (b : Array UInt8) (j : Nat) : VP := fun _ v => (∃ t, v = .bytes b t) ∧ ∀ k, k < j → ∀ y, lv[k]? = some y → b ∉ y.2.drop 1
noncomputable def CX (lv : List Ch) (b : Array UInt8) : VP := fun _ v => v = .none ∧ okC (lv.map (·.2)) b = false
noncomputable def G1 (lv : List Ch) (a : Addr) (acc : List (Array UInt8)) : Nat → Ctx'
  | 0 => CTX lv a acc
  | i + 1 => (Str.ofString "candidate", .loc (CN lv (i + 1))) :: CTX lv a acc
noncomputable def G2 (lv : List Ch) (a : Addr) (acc : List (Array UInt8)) (b : Array UInt8) (j : Nat) : Ctx' := (Str.ofString "candidate", .loc (CT lv b j)) :: CTX lv a acc
theorem STA.pureOf {z : Zn} {env : Env} {Γ : Ctx'} {h : Heap} {x : Str} {P : VP} (H : STA z env Γ h) (hf : Γ.lookup x = some (.loc P)) : ∃ v, P (z.hid env h) v := by
  obtain ⟨m, A', F⟩ := H
  obtain ⟨_, _, v, _, hP⟩ := F x _ hf
  exact ⟨v, hP⟩
theorem chainAt {c : Ch} {its : Array Value} {nI : Nat} {h h2 : Heap} {v : Value} (hI : h.get? c.1 = some (listOf its nI)) (hb : Paired bytesR c.2 its.toList) (k : Ext h h2) (hv : refR c v) : LS bytesR c.2 h2 v := ⟨c.1, its, hv, Heap.PlainList.isList ⟨nI, k _ _ hI⟩, hb⟩
theorem mem_tot : ∀ {ls : List (List (Array UInt8))} {l : List (Array UInt8)}, l ∈ ls → l.length ≤ totL ls
  | x :: r, l, h => by
    unfold totL
    rw [List.map_cons, List.sum_cons]
    rcases List.mem_cons.mp h with rfl | h
    · lia
    · have := mem_tot h
      unfold totL at this
      lia
theorem find_first {lv : List Ch} {i : Nat} {y : Ch} (hy : lv[i]? = some y) (hp : ∀ j, j < i → ∀ y, lv[j]? = some y → okC (lv.map (·.2)) (hd0 y.2) = false) (ok : okC (lv.map (·.2)) (hd0 y.2) = true) : candL (lv.map (·.2)) = some (hd0 y.2) := by
  unfold candL
  have key : ∀ (q : List (Array UInt8) → Bool) (l : List Ch) (i : Nat) (y : Ch), l[i]? = some y → (∀ j, j < i → ∀ y, l[j]? = some y → q y.2 = false) → q y.2 = true → (l.map (·.2)).find? q = some y.2 := by
    intro q l
    induction l with
    | nil => intro i y h; simp at h
    | cons x r ih =>
      intro i y h hp ok
      rw [List.map_cons, List.find?_cons]
      cases i with
      | zero =>
        have : x = y := by simpa using h
        subst this
        rw [ok]
      | succ i =>
        rw [hp 0 (by lia) x rfl]
        exact ih i y (by simpa using h) (fun j hj y hy => hp (j + 1) (by lia) y (by simpa using hy)) ok
  rw [key (fun l => okC (lv.map (·.2)) (hd0 l)) lv i y hy hp ok]
  rfl
theorem find_none {lv : List Ch} (hp : ∀ j, j < lv.length → ∀ y, lv[j]? = some y → okC (lv.map (·.2)) (hd0 y.2) = false) : candL (lv.map (·.2)) = none := by
  unfold candL
  have : (lv.map (·.2)).find? (fun l => okC (lv.map (·.2)) (hd0 l)) = none := by
    rw [List.find?_eq_none]
    intro l hl
    obtain ⟨y, hy, rfl⟩ := List.mem_map.mp hl
    obtain ⟨j, hj, e⟩ := List.mem_iff_getElem.mp hy
    rw [hp j hj y (by rw [← e]; exact List.getElem?_eq_getElem hj)]
    exact Bool.false_ne_true
  rw [this]; rfl
theorem okC_all {lv : List Ch} {b : Array UInt8} (hp : ∀ k, k < lv.length → ∀ y, lv[k]? = some y → b ∉ y.2.drop 1) : okC (lv.map (·.2)) b = true := by
  unfold okC
  rw [List.all_eq_true]
  intro l hl
  obtain ⟨y, hy, rfl⟩ := List.mem_map.mp hl
  obtain ⟨j, hj, e⟩ := List.mem_iff_getElem.mp hy
  exact decide_eq_true (hp j hj y (by rw [← e]; exact List.getElem?_eq_getElem hj))
theorem okC_no {lv : List Ch} {b : Array UInt8} {j : Nat} {y : Ch} (hy : lv[j]? = some y) (h : b ∈ y.2.drop 1) : okC (lv.map (·.2)) b = false := by
  unfold okC
  rw [List.all_eq_false]
  exact ⟨y.2, List.mem_map_of_mem (List.mem_of_getElem? hy), by simpa using h⟩
theorem ctx_cand {lv : List Ch} {a : Addr} {acc : List (Array UInt8)} {f : Fact} {Γ : Ctx'} : ∀ p ∈ (Str.ofString "candidate", f) :: CTX lv a acc, ((Str.ofString "candidate", f) :: (CTX lv a acc ++ Γ)).lookup p.1 = some p.2 := by
  intro p hp
  unfold CTX at hp
  simp only [List.mem_cons, List.not_mem_nil, or_false] at hp
  rcases hp with rfl | rfl | rfl <;> rfl
theorem hd0_get {l : List (Array UInt8)} (h : 0 < l.length) : l[0] = hd0 l := by
  cases l with
  | nil => exact absurd h (by simp)
  | cons a r => rfl
theorem imp_B {lv : List Ch} {b : Array UInt8} : ∀ (h : Heap) v, IsB b h v → CT lv b 0 h v := fun _ _ ⟨t, e⟩ => ⟨⟨t, e⟩, fun _ hk => absurd hk (Nat.not_lt_zero _)⟩
theorem mono_CT (lv : List Ch) (b : Array UInt8) (j : Nat) : Mono (CT lv b j) := fun _ _ _ _ h => h
theorem mono_CX (lv : List Ch) (b : Array UInt8) : Mono (CX lv b) := fun _ _ _ _ h => h
theorem mono_CN (lv : List Ch) (i : Nat) : Mono (CN lv i) := fun _ _ _ _ h => h
theorem mono_CB (lv : List Ch) (b : Array UInt8) : Mono (CB lv b) := fun _ _ _ _ h => h
theorem pinTo_succ {b : Array UInt8} {ps : List (Addr × Obj)} {lv : List Ch} {i : Nat} {y : Ch} (hy : lv[i]? = some y) : pinTo b ps (lv.take (i + 1)) = if hd0 y.2 = b then delAt y.1 (pinTo b ps (lv.take i)) else pinTo b ps (lv.take i) := by
  unfold pinTo
  rw [List.take_add_one, hy, List.foldl_append]
  rfl
theorem take_off {lv : List Ch} (hd : (lv.map (·.1)).Nodup) {i : Nat} {y : Ch} (hy : lv[i]? = some y) : ∀ y' ∈ lv.take i, y'.1 ≠ y.1 := by
  intro y' hy' e
  obtain ⟨hi, hg⟩ := List.getElem?_eq_some_iff.mp hy
  obtain ⟨j, hj, e2⟩ := List.mem_iff_getElem.mp hy'
  have hj1 : j < i := by simp at hj; lia
  have hj2 : j < lv.length := by lia
  have e3 : lv[j] = y' := by rw [← e2, List.getElem_take]
  have h1 : (lv.map (·.1))[j]'(by simpa using hj2) = y'.1 := by simp [e3]
  have h2 : (lv.map (·.1))[i]'(by simpa using hi) = y.1 := by simp [hg]
  have := (List.getElem_inj (h₀ := by simpa using hj2) (h₁ := by simpa using hi) hd).mp (h1.trans (e.trans h2.symm))
  lia
theorem cand_live {lv : List Ch} {b : Array UInt8} (h : candL (lv.map (·.2)) = some b) : ∃ y ∈ lv, hd0 y.2 = b := by
  unfold candL at h
  cases hf : (lv.map (·.2)).find? fun l => okC (lv.map (·.2)) (hd0 l) with
  | none => rw [hf] at h; cases h
  | some l =>
    rw [hf] at h
    obtain ⟨y, hy, rfl⟩ := List.mem_map.mp (List.mem_of_find?_eq_some hf)
    exact ⟨y, hy, by simpa using h⟩
theorem mergeF_turn {n : Nat} {ls : List (List (Array UInt8))} {acc : List (Array UInt8)} {b : Array UInt8} (h0 : liveL ls ≠ []) (hc : candL (liveL ls) = some b) : mergeF (n + 1) ls acc = mergeF n (ls.map (stepL b)) (acc ++ [b]) := by
  show (if liveL ls = [] then (acc, true, ls) else match candL (liveL ls) with | none => (acc, false, ls) | some b => mergeF n (ls.map (stepL b)) (acc ++ [b])) = _
  rw [if_neg h0, hc]
theorem mergeF_stop {n : Nat} {ls : List (List (Array UInt8))} {acc : List (Array UInt8)} (h0 : liveL ls ≠ []) (hc : candL (liveL ls) = none) : mergeF (n + 1) ls acc = (acc, false, ls) := by
  show (if liveL ls = [] then (acc, true, ls) else match candL (liveL ls) with | none => (acc, false, ls) | some b => mergeF n (ls.map (stepL b)) (acc ++ [b])) = _
  rw [if_neg h0, hc]
theorem refR_step {b : Array UInt8} : ∀ {l : List Ch} {vs : List Value}, Paired refR l vs → Paired refR (l.map (stepC b)) vs
  | _, _, .nil => .nil
  | _, _, .cons h t => .cons h (refR_step t)
set_option maxRecDepth 100000 in
set_option maxHeartbeats 8000000 in
theorem c3_spec (w : World) (mean : ExcName → Option Value) (mg mb : Str → Option Value) (news ps : List (Addr × Obj)) (cs : List Ch) (ra : Addr) (items : Array Value) (nr : Nat) (hps : PinsR cs ps) (hnd : (cs.map (·.1)).Nodup) (hit : Paired refR cs items.toList)
    (hdis : ∀ p ∈ (ra, listOf items nr) :: news, p.1 ∉ ps.map (·.1)) (hz : cs.length ≤ 100) (hzt : totL (cs.map (·.2)) ≤ 1000) :
    SpC w mean mg mb none 26 2 (led ps ra items nr news) [.ref ra] []
      (fun v n => ∃ a its n0 ps' cs', v = .ref a ∧ n = (a, listOf its n0) :: led ps' ra items nr news ∧ PinsR cs' ps' ∧ cs'.map (·.1) = cs.map (·.1) ∧ Paired bytesR (mergeF (totL (cs.map (·.2)) + 1) (cs.map (·.2)) []).1 its.toList ∧ (mergeF (totL (cs.map (·.2)) + 1) (cs.map (·.2)) []).2 = (true, cs'.map (·.2)) ∧ ∀ p ∈ led ps' ra items nr news, p.1 ≠ a)
      (fun cls as n => ∃ t ps' cs', cls = .type "RuntimeError" ∧ as = [.str (Str.ofString "Inconsistent hierarchy") t] ∧ n = led ps' ra items nr news ∧ PinsR cs' ps' ∧ cs'.map (·.1) = cs.map (·.1) ∧ (mergeF (totL (cs.map (·.2)) + 1) (cs.map (·.2)) []).2 = (false, cs'.map (·.2))) := by
  w_on
  k_with_none
  k_with_none
  unfold SpC
  k_fill
  intro dp un gd env outer A₀ base h₀ L m s Q E hef hek B D F X N T hdp hun hret hexc
  refine wpAny_call ?_
  k_dflt (refine' code_def ?k1 ?k2 ?k3 ?k4 ?k5 ?kA ?kF ?kK ?k6 ?k7 ?k8 ?k9 ?kB ?_ ?c2 ?c3 ?c4 ?c5; (case kA => exact rfl); (case kF => exact hef); (case kK => exact hek); (case k1 => exact B); (case k2 => exact F); (case k3 => exact X); (case k4 => exact N); (case k5 => exact T); (case k6 => k_is); (case k7 => k_is); (case k8 => (show dp < recursionLimit; lia)); (case k9 => first | exact BindsTo.of_eq rfl | exact binds_K (by k_in) rfl (by k_is) rfl rfl rfl | (refine' kp_binds ?z1 ?z2; (case z1 => k_in); (case z2 => (intro S; rfl)))); (case c5 => decide); (case kB => exact locs rfl); (case c2 => exact rfl); (case c3 => exact rfl); (case c4 => exact rfl); k_whole; intro g' L' h' FG F' N' B' X' T'; (have D' := dicts_push hef FG D); (try dsimp only); (try k_fold))
  refine body_goP (x := Str.ofString "sequences") (v := .ref ra) (ps := ps) (news := (ra, listOf items nr) :: news) F' N' rfl hdis rfl rfl fun g0 H0 hn0 hg0 hleave hleaveO => ?_
  have hfps : ps.map (·.1) = cs.map (·.1) := hps.fst
  refine veilQ fun Q5 hQ5 => ?_
  refine st_new H0 fun a h1 tk1 hos H1 => ?_
  have H2 := H1.imp_at (x := Str.ofString "sequences") (P' := LS refR cs) rfl (fun h v k e => ⟨ra, items, e, Heap.PlainList.isList ⟨nr, k _ _ (hn0 _ List.mem_cons_self)⟩, hit⟩) (mono_LS _ _)
  have H3 := H2.imp_own (x := Str.ofString "result") (a := a) (R' := fun _ l => Paired bytesR [] l) rfl (fun h l e => by rw [e]; exact .nil) (fun _ _ _ _ h => h)
  have H4 := H3.weak (Γ' := CTX cs a []) (by
    intro p hp
    simp only [CTX, List.mem_cons, List.not_mem_nil, or_false] at hp
    rcases hp with rfl | rfl <;> rfl)
  clear H0 H1 H2 H3
  refine st_while (fun n h => ∃ cs' ps' sq acc, STA ⟨g0, ps', [a]⟩ _ (CTX sq a acc) h ∧ PinsR cs' ps' ∧ cs'.map (·.1) = cs.map (·.1) ∧ liveC sq = liveC cs' ∧ (∀ c ∈ sq, c ∈ cs') ∧ sq.length ≤ 100 ∧ acc.length + n ≤ 1000 ∧ n = totL (cs'.map (·.2)) ∧ mergeF (n + 1) (cs'.map (·.2)) acc = mergeF (totL (cs.map (·.2)) + 1) (cs.map (·.2)) []) (totL (cs.map (·.2)))
    ⟨cs, ps, cs, [], H4, hps, rfl, rfl, fun c h => h, hz, by simpa using hzt, rfl, rfl⟩ (by passes_own) ?_
  clear H4
  rintro n h2 tk2 ⟨cs', ps', sq, acc, H, hpr, hfst, hlv, hmem, hsq, hacc, hn, hmf⟩
  refine veilQ fun Q6 hQ6 => ?_
  refine st_assign_swap (xs := sq) (Rel := fun _ => refR) (q := fun c => !c.2.isEmpty) (f := fun c => c) (G := refR) (cl := []) H (EV.src (H.ev_loc rfl) (.inl rfl) (by lia)) rfl (fun K' k => CompOk.name rfl rfl ?tt ?ee) fun h3 tk3 H3 => ?_
  case tt =>
    intro C c v K2 m hc k2 hns hv hr
    obtain ⟨its, nI, hI, hb⟩ := hpr.get c (hmem c hc)
    have hle := mem_tot (List.mem_map_of_mem (f := fun x : Ch => x.2) (hmem c hc))
    exact TSL_one (TS_list (G := bytesR) (zs := c.2) (EV.imp' (EV_local (P := IsV (.ref c.1)) rfl rfl hns hv hr (mono_V _)) fun h v kh e => chainAt (H.pinAt _ hI) hb (k.trans (k2.trans kh)) e) (by lia))
  case ee =>
    intro C c v K2 m hc _ k2 hns hv hr
    exact EV_local (P := IsV (.ref c.1)) rfl rfl hns hv hr (mono_V _)
  have elv : (sq.filter fun c => !c.2.isEmpty).map (fun c => c) = liveC cs' := by rw [List.map_id', ← hlv]; rfl
  rw [elv] at H3
  have H4 := H3.weak (Γ' := CTX (liveC cs') a acc) (by
    intro p hp
    simp only [CTX, List.mem_cons, List.not_mem_nil, or_false] at hp
    rcases hp with rfl | rfl <;> rfl)
  clear H3 H
  have hlvlen : (liveC cs').length ≤ 100 := by rw [← hlv]; exact Nat.le_trans (List.length_filter_le _ _) hsq
  refine st_if (b := !(!(liveC cs').isEmpty)) H4 (TS_not (TS_list (G := refR) (zs := liveC cs') (H4.ev_loc rfl) (by lia))) ?yes ?no
  case yes =>
    intro hb h4 tk4 H5
    have hb' : liveC cs' = [] := by simpa using hb
    refine st_return H5 (H5.ev_ownR (x := Str.ofString "result") rfl) fun v h5 tk5 H6 hv => ?_
    obtain ⟨its, e, hl, hR⟩ := hv
    obtain ⟨m', its', n', F1, N1, hne, hR'⟩ := hleaveO ps' [a] _ h5 (Str.ofString "result") a _ H6 (by rw [hpr.fst, hfst, hfps]) rfl
    have hmz : mergeF (n + 1) (cs'.map (·.2)) acc = (acc, true, cs'.map (·.2)) := by
      show (if liveL (cs'.map (·.2)) = [] then (acc, true, cs'.map (·.2)) else _) = _
      rw [if_pos (by rw [← liveC_map, hb']; rfl)]
    rw [hmf] at hmz
    refine hQ6 _ _ ?_
    dsimp only
    refine hQ5 _ _ ?_
    exact leaveK_ (s' := { s with heap := h5, toks := tk5 }) F1 N1 fun F0 N0 => hret _ _ _ _ ⟨a, its', n', ps', cs', e, rfl, hpr, hfst, by rw [hmz]; exact hR', by rw [hmz], hne⟩ F0 N0
  case no =>
    intro hb h4 tk4 H5
    have hb' : liveC cs' ≠ [] := by simpa using hb
    generalize hlvg : liveC cs' = lv at H5 hb' hlvlen
    have hin : ∀ y ∈ lv, y ∈ cs' ∧ y.2 ≠ [] := fun y hy => by
      rw [← hlvg] at hy
      obtain ⟨h1, h2⟩ := List.mem_filter.mp hy
      exact ⟨h1, fun q => by rw [q] at h2; exact absurd h2 (by decide)⟩
    have hbig : ∀ y ∈ lv, y.2.length ≤ 1000 := fun y hy => by
      have := mem_tot (List.mem_map_of_mem (f := fun x : Ch => x.2) (hin y hy).1)
      lia
    have hgetlv : ∀ {i : Nat} {y : Ch}, lv[i]? = some y → y ∈ lv := fun h => List.mem_of_getElem? h
    refine wpAny_execs_nil ?_
    dsimp only
    refine st_forP (Γ := CTX lv a acc) (Γi := G1 lv a acc) (pins := fun _ => ps') (x := Str.ofString "s1") H5 ?w1 (fun _ => rfl) lv refR (.inl rfl) (H5.evh_loc rfl) rfl rfl (fun _ Γb => ∃ b, ∀ p ∈ (Str.ofString "candidate", Fact.loc (CB lv b)) :: CTX lv a acc, Γb.lookup p.1 = some p.2) ?b1 ?k1 ?d1
    case w1 =>
      intro p hp
      simp only [G1, CTX, List.mem_cons, List.not_mem_nil, or_false] at hp
      rcases hp with rfl | rfl <;> rfl
    case b1 =>
      intro i y I o K h5 tk5 E5 hy kK hpn H5
      refine veilQ fun Q6 hQ6 => ?_
      obtain ⟨hyc, hyn⟩ := hin y (hgetlv hy)
      have hyl := hbig y (hgetlv hy)
      obtain ⟨its, nI, hI, hbt⟩ := hpr.get y hyc
      have hpos : 0 < y.2.length := by cases hq : y.2 with | nil => exact absurd hq hyn | cons a r => simp
      have hprev : ∀ j, j < i → ∀ y, lv[j]? = some y → okC (lv.map (·.2)) (hd0 y.2) = false := by
        cases i with
        | zero => intro j hj; exact absurd hj (Nat.not_lt_zero _)
        | succ i =>
          obtain ⟨v, hv⟩ := H5.pureOf (x := Str.ofString "candidate") (P := CN lv (i + 1)) rfl
          exact hv.2
      have hctx : ∀ p ∈ CTX lv a acc, ((Str.ofString "s1", Fact.loc fun _ v => refR y v) :: G1 lv a acc i).lookup p.1 = some p.2 := by
        intro p hp
        simp only [CTX, List.mem_cons, List.not_mem_nil, or_false] at hp
        cases i <;> rcases hp with rfl | rfl <;> rfl
      refine st_assign_loc (x := Str.ofString "candidate") (P := IsB (hd0 y.2)) H5 (EV.evh (EV.mono (EV_item (n := 0) (G := bytesR) (zs := y.2) (EV.imp' (H5.ev_loc (x := Str.ofString "s1") rfl) fun h v kh e => chainAt (H5.pinAt _ (List.mem_cons_of_mem _ hI)) hbt kh e) EV_int hpos (by lia)) (fun h v e => ?hd)) (fun _ _ _ h => h)) (mono_B _) fun h6 tk6 H6 => ?_
      case hd => rw [← hd0_get hpos]; exact e
      have H7 := H6.imp_loc (x := Str.ofString "candidate") (P' := CT lv (hd0 y.2) 0) rfl imp_B (mono_CT _ _ _)
      refine st_forP (Γi := G2 lv a acc (hd0 y.2)) (pins := fun _ => (I, o) :: ps') (x := Str.ofString "s2") H7 ?w2 (fun _ => rfl) lv refR (.inl rfl) ?s2 rfl rfl (fun _ Γb => ∀ p ∈ (Str.ofString "candidate", Fact.loc (CX lv (hd0 y.2))) :: CTX lv a acc, Γb.lookup p.1 = some p.2) ?b2 ?k2 ?d2
      case w2 =>
        intro p hp
        rcases List.mem_cons.mp hp with rfl | hp
        · rfl
        · have := hctx p hp
          simp only [CTX, List.mem_cons, List.not_mem_nil, or_false] at hp
          rcases hp with rfl | rfl <;> exact this
      case s2 => exact H7.evh_loc (x := Str.ofString "sequences") (hctx _ List.mem_cons_self)
      case b2 =>
        intro j y2 I2 o2 K2 h7 tk7 E7 hy2 kK2 hpn2 H7
        refine veilQ fun Q6 hQ6 => ?_
        obtain ⟨hyc2, hyn2⟩ := hin y2 (hgetlv hy2)
        have hyl2 := hbig y2 (hgetlv hy2)
        obtain ⟨its2, nI2, hI2, hbt2⟩ := hpr.get y2 hyc2
        have hpos2 : 0 < y2.2.length := by cases hq : y2.2 with | nil => exact absurd hq hyn2 | cons a r => simp
        refine st_if (b := decide (hd0 y.2 ∈ y2.2.drop 1)) H7 (TS_cmp (P₁ := IsB (hd0 y.2)) (EV.mono (H7.ev_loc (x := Str.ofString "candidate") rfl) fun h v e => e.1) (mono_B _) (EV_from (n := 1) (G := bytesR) (zs := y2.2) (EV.imp' (H7.ev_loc (x := Str.ofString "s2") rfl) fun h v kh e => chainAt (H7.pinAt _ (List.mem_cons_of_mem _ (List.mem_cons_of_mem _ hI2))) hbt2 kh e) EV_int hpos2 (by lia)) (CMP_in _ _)) ?y3 ?n3
        case y3 =>
          intro hc h8 tk8 H8
          have hno := okC_no hy2 (by simpa using hc)
          refine st_assign_loc (x := Str.ofString "candidate") (P := CX lv (hd0 y.2)) H8 (EV.evh (EV.mono EV_none fun h v e => ⟨e, hno⟩) fun _ _ _ h => h) (mono_CX _ _) fun h9 tk9 H9 => ?_
          refine wpAny_execs_cons (wpAny_Break ?_)
          exact (hQ6 _ _ ⟨h9, tk9, _, rfl, fun p hp => by
            simp only [CTX, List.mem_cons, List.not_mem_nil, or_false] at hp
            rcases hp with rfl | rfl | rfl <;> rfl, H9⟩)
        case n3 =>
          intro hc h8 tk8 H8
          have hno : hd0 y.2 ∉ y2.2.drop 1 := by simpa using hc
          have H9 := H8.imp_loc (x := Str.ofString "candidate") (P' := CT lv (hd0 y.2) (j + 1)) rfl (fun h v e => ⟨e.1, fun k hk y' hy' => by
            by_cases q : k = j
            · subst q
              rw [hy2] at hy'
              cases hy'
              exact hno
            · exact e.2 k (by lia) y' hy'⟩) (mono_CT _ _ _)
          exact wpAny_execs_nil (wpAny_execs_nil (hQ6 _ _ ⟨h8, tk8, rfl, H9.weak (by
            intro p hp
            simp only [G2, CTX, List.mem_cons, List.not_mem_nil, or_false] at hp
            rcases hp with rfl | rfl | rfl <;> rfl)⟩))
      case k2 =>
        intro j h8 tk8 Γb hj hb H8
        have H9 := H8.weak hb
        obtain ⟨v, hv⟩ := H9.pureOf (x := Str.ofString "candidate") (P := CX lv (hd0 y.2)) rfl
        have H10 := H9.imp_loc (x := Str.ofString "candidate") (P' := CN lv (i + 1)) rfl (fun h v e => ⟨e.1, fun k hk y' hy' => by
          by_cases q : k = i
          · subst q
            rw [hy] at hy'
            cases hy'
            exact hv.2
          · exact hprev k (by lia) y' hy'⟩) (mono_CN _ _)
        exact wpAny_execs_nil (hQ6 _ _ ⟨h8, tk8, rfl, H10.weak (by
          intro p hp
          simp only [G1, CTX, List.mem_cons, List.not_mem_nil, or_false] at hp
          rcases hp with rfl | rfl | rfl <;> rfl)⟩)
      case d2 =>
        intro h8 tk8 E8 H8
        obtain ⟨v, hv⟩ := H8.pureOf (x := Str.ofString "candidate") (P := CT lv (hd0 y.2) lv.length) rfl
        have hok := okC_all hv.2
        have hcd := find_first hy hprev hok
        have H9 := H8.imp_loc (x := Str.ofString "candidate") (P' := CB lv (hd0 y.2)) rfl (fun h v e => ⟨e.1, hcd⟩) (mono_CB _ _)
        refine wpAny_execs_cons (wpAny_Break ?_)
        exact (hQ6 _ _ ⟨h8, tk8, _, rfl, ⟨hd0 y.2, fun p hp => by
          simp only [CTX, List.mem_cons, List.not_mem_nil, or_false] at hp
          rcases hp with rfl | rfl | rfl <;> rfl⟩, H9⟩)
    case k1 =>
      rintro i h5 tk5 Γb hi ⟨b, hΓ⟩ H5
      have H6 := H5.weak hΓ
      obtain ⟨v0, hv0⟩ := H6.pureOf (x := Str.ofString "candidate") (P := CB lv b) rfl
      have hcd := hv0.2
      refine st_if (b := false) H6 (TS_cmp (P₁ := IsB b) (EV.mono (H6.ev_loc (x := Str.ofString "candidate") rfl) fun h v e => e.1) (mono_B _) EV_none (CMP_isB_none b)) (fun hf => absurd hf (by decide)) fun _ h6 tk6 H7 => ?_
      refine wpAny_execs_nil ?_
      refine st_append (x := Str.ofString "result") (a := a) (R := fun _ l => Paired bytesR acc l) (R' := fun _ l => Paired bytesR (acc ++ [b]) l) (P := IsB b) H7 rfl ?oth (EV.evh (EV.mono (H7.ev_loc (x := Str.ofString "candidate") rfl) fun h v e => e.1) fun _ _ _ h => h) (mono_B _) (fun _ _ _ _ h => h) ?hRR fun h7 tk7 H8 => ?_
      case oth =>
        intro p hp hne
        simp only [CTX, List.mem_cons, List.not_mem_nil, or_false] at hp
        rcases hp with rfl | rfl | rfl <;> first | rfl | exact absurd rfl hne
      case hRR =>
        intro h l v hl hv
        refine ⟨Paired.snoc hl hv, ?_⟩
        have := hl.length
        lia
      have hndl : (lv.map (·.1)).Nodup := by
        rw [← hlvg]
        exact (hfst ▸ hnd : (cs'.map (·.1)).Nodup).sublist ((List.filter_sublist (l := cs')).map _)
      refine st_forP (Γi := fun _ => (Str.ofString "candidate", Fact.loc (CB lv b)) :: CTX lv a (acc ++ [b])) (pins := fun i => pinTo b ps' (lv.take i)) (x := Str.ofString "seq") H8 ?w3 (fun i => (pinTo_fst b _ _).trans (pinTo_fst b _ _).symm) lv refR (.inl rfl) (H8.evh_loc (x := Str.ofString "sequences") rfl) rfl rfl (fun _ _ => False) ?b3 (fun _ _ _ _ _ hf => hf.elim) ?d3
      case w3 =>
        intro p hp
        simp only [CTX, List.mem_cons, List.not_mem_nil, or_false] at hp
        rcases hp with rfl | rfl | rfl <;> rfl
      case b3 =>
        intro i y I o K h8 tk8 E8 hy kK hpn H9
        refine veilQ fun Q6 hQ6 => ?_
        obtain ⟨hyc, hyn⟩ := hin y (hgetlv hy)
        have hyl := hbig y (hgetlv hy)
        obtain ⟨its, nI, hI, hbt⟩ := (hpr.to b (lv.take i)).get y (stepTo_mem b y _ _ hyc (take_off hndl hy))
        have hpos : 0 < y.2.length := by cases hq : y.2 with | nil => exact absurd hq hyn | cons a r => simp
        have hsz : y.2.length = its.size := by have := hbt.length; simpa using this
        refine st_if (b := decide (hd0 y.2 = b)) H9 (TS_cmp (P₁ := IsB (hd0 y.2)) (EV.mono (EV_item (n := 0) (G := bytesR) (zs := y.2) (EV.imp' (H9.ev_loc (x := Str.ofString "seq") rfl) fun h v kh e => chainAt (H9.pinAt _ (List.mem_cons_of_mem _ hI)) hbt kh e) EV_int hpos (by lia)) fun h v e => ?hd4) (mono_B _) (EV.mono (H9.ev_loc (x := Str.ofString "candidate") rfl) fun h v e => e.1) (CMP_eq_B _ b)) ?y4 ?n4
        case hd4 => rw [← hd0_get hpos]; exact e
        case y4 =>
          intro hc h9 tk9 H10
          have hc' : hd0 y.2 = b := by simpa using hc
          refine st_delP H10 (Ne.symm (hpn i _ hI)) hI (EV.mono (H10.ev_loc (x := Str.ofString "seq") rfl) fun h v e => e) EV_int (by lia) (by lia) fun h10 tk10 H11 => ?_
          have e2 := pinTo_succ (b := b) (ps := ps') hy
          rw [if_pos hc'] at e2
          rw [← e2] at H11
          exact wpAny_execs_nil (wpAny_execs_nil (hQ6 _ _ ⟨h10, tk10, rfl, H11.weak (by
            intro p hp
            simp only [CTX, List.mem_cons, List.not_mem_nil, or_false] at hp
            rcases hp with rfl | rfl | rfl <;> rfl)⟩))
        case n4 =>
          intro hc h9 tk9 H10
          have hc' : hd0 y.2 ≠ b := by simpa using hc
          have e2 := pinTo_succ (b := b) (ps := ps') hy
          rw [if_neg hc'] at e2
          rw [← e2] at H10
          exact wpAny_execs_nil (wpAny_execs_nil (hQ6 _ _ ⟨h9, tk9, rfl, H10.weak (by
            intro p hp
            simp only [CTX, List.mem_cons, List.not_mem_nil, or_false] at hp
            rcases hp with rfl | rfl | rfl <;> rfl)⟩))
      case d3 =>
        intro h8 tk8 E8 H9
        have H10 := H9
        rw [show lv.take lv.length = lv from List.take_length] at H10
        have H11 := H10.imp_loc (x := Str.ofString "sequences") (P' := LS refR (lv.map (stepC b))) rfl (fun h v ⟨q, its, e, hl, hp⟩ => ⟨q, its, e, hl, refR_step hp⟩) (mono_LS _ _)
        have hpr2 : PinsR (cs'.map (stepC b)) (pinTo b ps' lv) := by
          have := hpr.to b lv
          rwa [← hlvg, stepTo_live b (hfst ▸ hnd : (cs'.map (·.1)).Nodup), hlvg] at this
        have hll : liveL (cs'.map (·.2)) = lv.map (·.2) := by rw [← liveC_map, hlvg]
        have hlt : totL ((cs'.map (stepC b)).map (·.2)) < n := by
          rw [stepC_map, hn]
          obtain ⟨y, hy, e⟩ := cand_live hcd
          exact totL_lt _ ⟨y.2, List.mem_map_of_mem (hin y hy).1, (hin y hy).2, e⟩
        have hmt : mergeF (totL ((cs'.map (stepC b)).map (·.2)) + 1) ((cs'.map (stepC b)).map (·.2)) (acc ++ [b]) = mergeF (totL (cs.map (·.2)) + 1) (cs.map (·.2)) [] := by
          have e1 := mergeF_turn (n := n) (ls := cs'.map (·.2)) (acc := acc) (b := b) (by rw [hll]; simpa using hb') (by rw [hll]; exact hcd)
          rw [hmf, ← stepC_map] at e1
          rw [e1]
          obtain ⟨k, hk⟩ : ∃ k, n = k + 1 := ⟨n - 1, by lia⟩
          rw [hk] at hlt ⊢
          exact mergeF_more _ _ _ _ (Nat.le_refl _) (by lia)
        refine wpAny_execs_nil (wpAny_execs_nil (hQ6 _ _ ⟨totL ((cs'.map (stepC b)).map (·.2)), h8, tk8, hlt, rfl, cs'.map (stepC b), pinTo b ps' lv, lv.map (stepC b), acc ++ [b], H11.weak (fun p hp => ?_), hpr2, (stepC_fst b cs').trans hfst, ?_, ?_, by rw [List.length_map]; exact hlvlen, by rw [List.length_append, List.length_cons, List.length_nil]; lia, rfl, hmt⟩))
        · simp only [CTX, List.mem_cons, List.not_mem_nil, or_false] at hp
          rcases hp with rfl | rfl <;> rfl
        · rw [← hlvg]; exact live_step b cs'
        · intro c hc
          obtain ⟨c', hc', rfl⟩ := List.mem_map.mp hc
          exact List.mem_map_of_mem (hin c' hc').1
    case d1 =>
      intro h5 tk5 E5 H5
      have hG : G1 lv a acc lv.length = (Str.ofString "candidate", .loc (CN lv lv.length)) :: CTX lv a acc := by
        cases lv with
        | nil => exact absurd rfl hb'
        | cons x r => rfl
      rw [hG] at H5
      obtain ⟨v0, hv0⟩ := H5.pureOf (x := Str.ofString "candidate") (P := CN lv lv.length) rfl
      have hcd := find_none hv0.2
      have hll : liveL (cs'.map (·.2)) = lv.map (·.2) := by rw [← liveC_map, hlvg]
      have hmz := mergeF_stop (n := n) (acc := acc) (by rw [hll]; simpa using hb') (by rw [hll]; exact hcd)
      rw [hmf] at hmz
      refine wpAny_execs_nil ?_
      refine st_if (b := true) H5 (TS_cmp (P₁ := IsV .none) (EV.mono (H5.ev_loc (x := Str.ofString "candidate") rfl) fun h v e => e.1) (mono_V _) EV_none CMP_is_none) (fun _ h6 tk6 H6 => ?_) (fun hf => absurd hf (by decide))
      obtain ⟨m', F1, N1⟩ := hleave ps' [a] _ h6 H6 (by rw [hpr.fst, hfst, hfps])
      clear H6 H5 F' N'
      repeat' (fail_if_success (with_reducible show wpAny _ _ (leaving _ _) _ _ _)); first | (k_unfold; (try dsimp only)) | walk1 | (dsimp only; walk1)
      rename Heap.MadeExc _ _ _ _ _ => hx
      dsimp only at hx ⊢
      refine leave_first (h := h6) (base := base) (Around.frames_deeper B'.stack) rfl ?fr hx.of fun h7 X7 U7 => ?_
      case fr => exact (Below.push B' F1).frames
      have hLf : ∀ b o, g'.get? b = some o → b ≠ L' := fun b o hb q => by
        have := Heap.lt_size hb
        rw [q] at this
        exact absurd (Nat.lt_of_lt_of_le this F1.above) (Nat.lt_irrefl _)
      have hfs : ∀ b, b ∈ (env :: outer).filterMap (·.frame) → ∃ o, g'.get? b = some o := fun b hb => let ⟨_, o, ho, _⟩ := B'.frames.mem hb; ⟨o, ho⟩
      have hmem : ∀ e3 : Env, e3.frame = some L' → ∀ b, b ≠ L' → b ∉ (env :: outer).filterMap (·.frame) → b ∉ (e3 :: env :: outer).filterMap (·.frame) := fun e3 h3 b h1 h2 q => by
        obtain ⟨e', he', hf'⟩ := List.mem_filterMap.mp q
        rcases List.mem_cons.mp he' with rfl | he'
        · exact h1 (Option.some.inj (h3.symm.trans hf')).symm
        · exact h2 (List.mem_filterMap.mpr ⟨e', he', hf'⟩)
      obtain ⟨oe, vs7, T7, oT, ts7, t7, ot, n7, r1, r2, r3, r4, r5, r6, r7, r8, r9, r10, r11, r12, r13, r14, r15, r16⟩ := X7.ex
      have hin : ∀ b o, h6.get? b = some o → b ≠ L' → (hideAll h6 [L']).get? b = some o := fun b o e h1 => hideAll_get _ e (by simpa using h1)
      have hno : ∀ b, h6.get? b = none → (hideAll h6 [L']).get? b = none := fun b hb => by
        cases q : (hideAll h6 [L']).get? b with
        | none => rfl
        | some o => rw [of_hideAll _ q] at hb; cases hb
      have hofL : ∀ b o, (hideAll h6 [L']).get? b = some o → b ≠ L' := fun b o e q => by
        rw [hideAll_none [L'] (by simpa using q)] at e; cases e
      refine hexc g' (hideAll h6 [L']) _ _ _ _ _ _ ⟨_, ps', cs', rfl, rfl, rfl, hpr, hfst, by rw [hmz]⟩ FG (fun b o hb => hin b o (F1.keep b o hb) (hLf b o hb)) (fun q hq => ?_) ⟨oe, vs7, T7, oT, ts7, t7, ot, n7, r1, r2, r3, r4, r5, r6, r7, r8, r9, r10, r11, r12, r13, hno _ r14, hno _ r15, hno _ r16⟩
        ⟨fun b o hb hn => U7.off b o (of_hideAll _ hb) (hmem _ rfl b (hofL b o hb) hn), fun b o hb => U7.sl b o (of_hideAll _ hb)⟩
      have hN := N1 q hq
      have hnf : q.1 ∉ (env :: outer).filterMap (·.frame) := fun hm => by
        obtain ⟨o, ho⟩ := hfs _ hm
        rw [hN.2.2] at ho; cases ho
      refine ⟨hin _ _ hN.1 hN.2.1, fun e => hnf (by rw [e]; exact List.mem_filterMap.mpr ⟨env, List.mem_cons_self, hef⟩), ?_⟩
      cases e : h₀.get? q.1 with
      | none => rfl
      | some o => have := FG.keep _ _ e; rw [hN.2.2] at this; cases this
end Mine
end
section
open PySem PySem.W PyProof.Rows PySem.Calls PySem.SeqAt
set_option Elab.async false
set_option linter.unusedVariables false
namespace Mine
section
variable {prog : Program} {w : World} {A : Around} {env : Env} {K K' : Heap} {e e₁ e₂ test : Expr} {P P' P₁ : VP} {S : List Addr} {z : Zn} {Γ Γ' : Ctx'} {g h h' : Heap} {m : Str → Option Value} {x : Str} {pos p px : Pos}
/-- all that stands above g but L -/
noncomputable def fullL (g h : Heap) (L : Addr) : List (Addr × Obj) := (List.range h.objs.size).filterMap fun a => if a ≠ L ∧ g.get? a = none then (h.get? a).map fun o => (a, o) else none
theorem mem_fullL {L : Addr} {q : Addr × Obj} : q ∈ fullL g h L ↔ q.1 ≠ L ∧ g.get? q.1 = none ∧ h.get? q.1 = some q.2 := by
  unfold fullL
  rw [List.mem_filterMap]
  constructor
  · rintro ⟨a, ha, e⟩
    split at e
    · rename_i hc
      cases ho : h.get? a with
      | none => rw [ho] at e; cases e
      | some o =>
        rw [ho] at e
        cases e
        exact ⟨hc.1, hc.2, ho⟩
    · cases e
  · rintro ⟨h1, h2, h3⟩
    exact ⟨q.1, List.mem_range.mpr (Heap.lt_size h3), by rw [if_pos ⟨h1, h2⟩, h3]; rfl⟩
theorem news_fullL {L : Addr} : News g L h (fullL g h L) := fun q hq => by
  obtain ⟨h1, h2, h3⟩ := mem_fullL.mp hq
  exact ⟨h3, h1, h2⟩
/-- all but the locals' table kept, and that kept by its names -/
theorem STA.extL (H : STA z env Γ h) (k : ∀ m, SA z env h m → h'.Ns env.locals m ∧ ∀ b o, b ≠ env.locals → h.get? b = some o → h'.get? b = some o) : STA z env Γ h' := by
  obtain ⟨m, A', F⟩ := H
  obtain ⟨hn, hs⟩ := k m A'
  have kh : Ext (z.hid env h) (z.hid env h') := ext_hide fun b o hb e => hs b o (fun q => hb (q ▸ mem_L)) e
  have cne : ∀ c v, h.IsCell c v → c ≠ env.locals := fun c v hc => ns_cell_ne A'.ns hc
  have lne : ∀ a its, h.PlainList a its → a ≠ env.locals := fun a its hl => ns_list_ne A'.ns hl
  refine ⟨m, ⟨A'.base.trans kh, hn, fun p hp => let ⟨v, c⟩ := A'.cells p hp; ⟨v, let ⟨o, e, d⟩ := c; ⟨o, hs _ _ (cne _ _ c) e, d⟩⟩, A'.nodup, fun a ha => let ⟨its, l⟩ := A'.osd a ha; ⟨its, l.at fun o e => hs _ _ (lne _ _ l) e⟩, fun p hp => ⟨hs _ _ (A'.pind p hp).2.1 (A'.pind p hp).1, (A'.pind p hp).2⟩⟩, fun y f hy => ?_⟩
  have := F y f hy
  cases f with
  | loc P => obtain ⟨mo, hk, v, hv, hP⟩ := this; exact ⟨mo, hk, v, hv, mo _ _ _ kh hP⟩
  | cel P => obtain ⟨mo, hk, c, v, hc, hcv, hP⟩ := this; exact ⟨mo, hk, c, v, hc, (let ⟨o, e, d⟩ := hcv; ⟨o, hs _ _ (cne _ _ hcv) e, d⟩), mo _ _ _ kh hP⟩
  | own a R => obtain ⟨mo, hk, hm, ha, its, hl, hR⟩ := this; exact ⟨mo, hk, hm, ha, its, hl.at fun o e => hs _ _ (lne _ _ hl) e, mo _ _ _ kh hR⟩
/-- a value by way of the state: calls too -/
noncomputable def SEV (prog : Program) (w : World) (A : Around) (env : Env) (z : Zn) (Γ : Ctx') (env' : Env) (e : Expr) (P : VP) : Prop := ∀ (s : Shared) (Q : Value → Shared → Prop) (E : Value → Shared → Prop), STA z env Γ s.heap →
  (∀ v h' tk, STA z env Γ h' → P (z.hid env h') v → Q v { s with heap := h', toks := tk }) → wpAny (model prog w) A (eval e env') Q E s
noncomputable def STS (prog : Program) (w : World) (A : Around) (env : Env) (z : Zn) (Γ : Ctx') (env' : Env) (e : Expr) (b : Bool) : Prop := ∀ (s : Shared) (Q : Bool → Shared → Prop) (E : Value → Shared → Prop), STA z env Γ s.heap →
  (∀ h' tk, STA z env Γ h' → Q b { s with heap := h', toks := tk }) → wpAny (model prog w) A (isTrue e env' (eval e env')) Q E s
/-- what a caller's state asks, that calls go from it -/
structure CallAt (A₀ : Around) (w : World) (mean : ExcName → Option Value) (mg mb : Str → Option Value) (base g : Heap) (outer : List Env) (env : Env) (z : Zn) : Prop where
  frame : env.frame = some env.locals
  kind : env.scope.kind = .function
  below : Below A₀ base outer g
  dicts : KtsDicts (outer.filterMap (·.frame)) g
  inK : (hd.heap_1 w.params).In g
  top : Top vw LO mean mg mb g
  above : g.objs.size ≤ env.locals
  up : Ext g z.g
theorem CallAt.fr {A₀ : Around} {mean : ExcName → Option Value} {mg mb : Str → Option Value} {base : Heap} {outer : List Env} (C : CallAt A₀ w mean mg mb base g outer env z) (H : SA z env h m) : Fr g env.locals h m :=
  ⟨H.ns, fun b o e => hide_ext _ _ (H.base _ _ (C.up b o e)), C.above⟩
/-- back from a call: the state stands -/
theorem STA.back {A₀ : Around} {mean : ExcName → Option Value} {mg mb : Str → Option Value} {base : Heap} {outer : List Env} (C : CallAt A₀ w mean mg mb base g outer env z) (H : STA z env Γ h)
    (k : ∀ m, SA z env h m → Fr g env.locals h' m ∧ ∀ q ∈ fullL g h env.locals, h'.get? q.1 = some q.2) : STA z env Γ h' := H.extL fun m A' => by
  obtain ⟨F, N⟩ := k m A'
  refine ⟨F.ns, fun b o hb e => ?_⟩
  cases q : g.get? b with
  | none => exact N (b, o) (mem_fullL.mpr ⟨hb, q, e⟩)
  | some o' =>
    have h1 := (C.fr A').keep b o' q
    rw [e] at h1
    cases h1
    exact F.keep b o q
/-- a call by a contract -/
theorem STA.callSp {A₀ : Around} {mean : ExcName → Option Value} {mg mb : Str → Option Value} {base : Heap} {outer : List Env} {hdl : Option Value} {f : Addr} {room dp un : Nat} {gd : Option (List Code)} {news : List (Addr × Obj)} {vs : List Value} {kw : List (Str × Value)} {Ret : Value → List (Addr × Obj) → Prop}
    {s : Shared} {Q E : Value → Shared → Prop} (C : CallAt A₀ w mean mg mb base g outer env z) (H : STA z env Γ s.heap) (hsp : Sp w mean mg mb hdl f room news vs kw Ret (fun _ _ => False))
    (hnews : ∀ q, q ∈ news ↔ q ∈ fullL g s.heap env.locals) (hret : ∀ v n, Ret v n → ∀ q ∈ news, q ∈ n) (hd1 : dp + room < recursionLimit) (hu1 : un + 8 * room < cLine)
    (hq : ∀ v n h' tk, Ret v n → STA z env Γ h' → News g env.locals h' n → (∀ b o, b ≠ env.locals → s.heap.get? b = some o → h'.get? b = some o) → Q v { s with heap := h', toks := tk }) :
    wpAny (model PySem.Challenge.rw_qh0045_01.row.prog w) (topM hdl dp un gd env outer) (call (.ref f) vs kw) Q E s := by
  have H0 := H
  obtain ⟨m, A', _⟩ := H0
  refine hsp dp un gd env outer A₀ base g env.locals m s Q E C.frame C.kind C.below C.dicts (C.fr A') C.inK (fun q hq => news_fullL q ((hnews q).mp hq)) C.top hd1 hu1 (fun v n h' tk hr F N => ?_) (fun _ _ _ _ _ _ _ hf => hf.elim)
  have hk : ∀ b o, b ≠ env.locals → s.heap.get? b = some o → h'.get? b = some o := fun b o hb e => by
    cases q : g.get? b with
    | none => exact (N (b, o) (hret v n hr _ ((hnews _).mpr (mem_fullL.mpr ⟨hb, q, e⟩)))).1
    | some o' =>
      have h1 := (C.fr A').keep b o' q
      rw [e] at h1
      cases h1
      exact F.keep b o q
  refine hq v n h' tk hr (H.extL fun m' A2 => ⟨?_, hk⟩) N hk
  have : m' = m := by
    funext y
    exact Heap.Ns.agree A2.ns A'.ns y
  rw [this]; exact F.ns
end
end Mine
end
section
open PySem PySem.W PyProof.Rows PySem.Calls PySem.SeqAt
set_option Elab.async false
set_option linter.unusedVariables false
namespace Mine
section
variable {prog : Program} {w : World} {A : Around} {env env' : Env} {K K' : Heap} {e e₁ e₂ test : Expr} {P P' P₁ P₂ : VP} {S : List Addr} {z : Zn} {Γ Γ' : Ctx'} {g h h' : Heap} {m : Str → Option Value} {x : Str} {pos p px : Pos}
/-- a def by its global name -/
noncomputable def FN (K : Heap) (env : Env) (x : Str) (f : Addr) : Prop := (∃ mg, K.Ns env.globals mg ∧ mg x = some (.ref f)) ∧ ∃ o fd, K.get? f = some o ∧ o.data = .func fd
theorem FN.up {f : Addr} (H : FN K env x f) (k : Ext K K') : FN K' env x f := let ⟨⟨mg, h1, h2⟩, o, fd, h3, h4⟩ := H; ⟨⟨mg, h1.keeps k, h2⟩, o, fd, k _ _ h3, h4⟩
theorem call1_def {f : Addr} {s : Shared} {Q : Value → Shared → Prop} {E : Value → Shared → Prop} (hF : FN s.heap env x f) (hk : env.scope.kind = .function) (hx : env.kindOf x = some .globalImplicit)
    (h1 : wpAny (model prog w) A (eval e₁ env) (fun v s' => Ext s.heap s'.heap ∧ wpAny (model prog w) A (call (.ref f) [v]) Q E s') E s)
    (hs : starEach [e₁] env = [(false, eval e₁ env)] := by rfl) (hd : (x == ("__debug__" : Str)) = false := by decide) :
    wpAny (model prog w) A (eval (.Call (.Name x px) [e₁] [] pos) env) Q E s := by
  obtain ⟨⟨mg, hn, hm⟩, o, fd, ho, hdt⟩ := hF
  refine Call_Name1 (Name_function_global hk hx (loadGlobal_global hn hm ?_) hd) hs
  refine callWith_function (o := o) (fd := fd) (evalArgs_plain (spliced_cons (wpAny_mono h1 (fun v s' h => spliced_nil ?_) fun _ _ x => x)))
  exact ⟨⟨h.1 _ _ ho, hdt⟩, h.2⟩
theorem call2_def {f : Addr} {s : Shared} {Q : Value → Shared → Prop} {E : Value → Shared → Prop} (hF : FN s.heap env x f) (hk : env.scope.kind = .function) (hx : env.kindOf x = some .globalImplicit)
    (h1 : wpAny (model prog w) A (eval e₁ env) (fun v s' => wpAny (model prog w) A (eval e₂ env) (fun v₂ s'' => Ext s.heap s''.heap ∧ wpAny (model prog w) A (call (.ref f) [v, v₂]) Q E s'') E s') E s)
    (hs : starEach [e₁, e₂] env = [(false, eval e₁ env), (false, eval e₂ env)] := by rfl) (hd : (x == ("__debug__" : Str)) = false := by decide) :
    wpAny (model prog w) A (eval (.Call (.Name x px) [e₁, e₂] [] pos) env) Q E s := by
  obtain ⟨⟨mg, hn, hm⟩, o, fd, ho, hdt⟩ := hF
  refine Call_Name (trees := [(false, eval e₁ env), (false, eval e₂ env)]) (by rw [hs]; rfl) (Name_function_global hk hx (loadGlobal_global hn hm ?_) hd)
  refine callWith_function (o := o) (fd := fd) (evalArgs_plain (spliced_cons (wpAny_mono h1 (fun v s' h => spliced_cons (wpAny_mono h (fun v₂ s'' h2 => spliced_nil ?_) fun _ _ x => x)) fun _ _ x => x)))
  exact ⟨⟨h2.1 _ _ ho, hdt⟩, h2.2⟩
/-- the same for a contract that turns frames: none stand below -/
theorem STA.callSpT {A₀ : Around} {mean : ExcName → Option Value} {mg mb : Str → Option Value} {base : Heap} {hdl : Option Value} {f : Addr} {room dp un : Nat} {gd : Option (List Code)} {news : List (Addr × Obj)} {vs : List Value} {kw : List (Str × Value)} {Ret : Value → List (Addr × Obj) → Prop}
    {s : Shared} {Q E : Value → Shared → Prop} (C : CallAt A₀ w mean mg mb base g [] env z) (H : STA z env Γ s.heap) (hsp : SpT w mean mg mb hdl f room news vs kw Ret (fun _ _ => False)) (hXb : (hd.heap_1 w.params).In base) (hTb : Top vw LO mean mg mb base)
    (hnews : ∀ q, q ∈ news ↔ q ∈ fullL g s.heap env.locals) (hret : ∀ v n, Ret v n → ∀ q ∈ news, q ∈ n) (hd1 : dp + room < recursionLimit) (hu1 : un + 8 * room < cLine)
    (hq : ∀ v n h' tk, Ret v n → STA z env Γ h' → News g env.locals h' n → (∀ b o, b ≠ env.locals → s.heap.get? b = some o → h'.get? b = some o) → Q v { s with heap := h', toks := tk }) :
    wpAny (model PySem.Challenge.rw_qh0045_01.row.prog w) (topM hdl dp un gd env []) (call (.ref f) vs kw) Q E s := by
  have H0 := H
  obtain ⟨m, A', _⟩ := H0
  refine hsp dp un gd env [] A₀ base g env.locals m s Q E C.frame C.kind C.below C.dicts (C.fr A') C.inK (fun q hq => news_fullL q ((hnews q).mp hq)) C.top hXb hTb hd1 hu1 (fun v n g' h' tk hr T F' N' _ _ _ _ => ?_) (fun _ _ _ _ _ _ _ hf => hf.elim)
  have F : Fr g env.locals h' m := ⟨F'.ns, fun b o e => F'.keep b o (T.other b o e (fun q => nomatch q)), by rw [← T.size]; exact F'.above⟩
  have N : News g env.locals h' n := fun q hq => ⟨(N' q hq).1, (N' q hq).2.1, by
    cases e : g.get? q.1 with
    | none => rfl
    | some o =>
      have := (N' q hq).2.2
      rw [T.other _ _ e (fun q => nomatch q)] at this
      cases this⟩
  have hk : ∀ b o, b ≠ env.locals → s.heap.get? b = some o → h'.get? b = some o := fun b o hb e => by
    cases q : g.get? b with
    | none => exact (N (b, o) (hret v n hr _ ((hnews _).mpr (mem_fullL.mpr ⟨hb, q, e⟩)))).1
    | some o' =>
      have h1 := (C.fr A').keep b o' q
      rw [e] at h1
      cases h1
      exact F.keep b o q
  refine hq v n h' tk hr (H.extL fun m' A2 => ⟨?_, hk⟩) N hk
  have : m' = m := by
    funext y
    exact Heap.Ns.agree A2.ns A'.ns y
  rw [this]; exact F.ns
theorem STA.callSpG {A₀ : Around} {mean : ExcName → Option Value} {mg mb : Str → Option Value} {base : Heap} {outer : List Env} {hdl : Option Value} {f : Addr} {room dp un : Nat} {gd : Option (List Code)} {news : List (Addr × Obj)} {vs : List Value} {kw : List (Str × Value)} {Pre : Heap → Prop} {Ret : Heap → Value → List (Addr × Obj) → Prop}
    {s : Shared} {Q E : Value → Shared → Prop} (C : CallAt A₀ w mean mg mb base g outer env z) (H : STA z env Γ s.heap) (hsp : SpG w mean mg mb hdl f room news vs kw Pre Ret) (hpre : Pre g)
    (hnews : ∀ q, q ∈ news ↔ q ∈ fullL g s.heap env.locals) (hret : ∀ h v n, Ret h v n → ∀ q ∈ news, q ∈ n) (hd1 : dp + room < recursionLimit) (hu1 : un + 8 * room < cLine)
    (hq : ∀ v n h' tk, Ret h' v n → STA z env Γ h' → News g env.locals h' n → (∀ b o, b ≠ env.locals → s.heap.get? b = some o → h'.get? b = some o) → Q v { s with heap := h', toks := tk }) :
    wpAny (model PySem.Challenge.rw_qh0045_01.row.prog w) (topM hdl dp un gd env outer) (call (.ref f) vs kw) Q E s := by
  have H0 := H
  obtain ⟨m, A', _⟩ := H0
  refine hsp dp un gd env outer A₀ base g env.locals m s Q E C.frame C.kind C.below C.dicts (C.fr A') C.inK (fun q hq => news_fullL q ((hnews q).mp hq)) C.top hpre hd1 hu1 (fun v n h' tk hr F N => ?_)
  have hk : ∀ b o, b ≠ env.locals → s.heap.get? b = some o → h'.get? b = some o := fun b o hb e => by
    cases q : g.get? b with
    | none => exact (N (b, o) (hret h' v n hr _ ((hnews _).mpr (mem_fullL.mpr ⟨hb, q, e⟩)))).1
    | some o' =>
      have h1 := (C.fr A').keep b o' q
      rw [e] at h1
      cases h1
      exact F.keep b o q
  refine hq v n h' tk hr (H.extL fun m' A2 => ⟨?_, hk⟩) N hk
  have : m' = m := by
    funext y
    exact Heap.Ns.agree A2.ns A'.ns y
  rw [this]; exact F.ns
/-- a value of the state put into a local -/
theorem st_assign_sev {hs0 : Heap} {gs0 : Array GenState} {ds0 : Drawn} {ts0 : Nat} {os0 : OsState} {rest : List Stmt} {Q : Flow → Shared → Prop} {E : Value → Shared → Prop} (H : STA z env Γ hs0) (he : SEV prog w A env z Γ env e P) (hm : Mono P)
    (hq : ∀ h' tk, STA z env ((x, .loc P) :: Γ) h' → wpAny (model prog w) A (execs rest env) Q E (⟨h', gs0, ds0, tk, os0⟩ : Shared))
    (hx : env.kindOf x = some .local := by rfl) (hs : swapsWith e (some (.Name x px)) pos.line env = pure false := by rfl) (hp : (env.scope.kind == .class || (env.scope.kind == .module && env.locals != env.globals)) = false := by rfl) :
    wpAny (model prog w) A (execs (.Assign [.Name x px] e pos :: rest) env) Q E (⟨hs0, gs0, ds0, ts0, os0⟩ : Shared) := by
  refine wpAny_execs_cons (wpAny_Assign_Name (he (⟨hs0, gs0, ds0, ts0, os0⟩ : Shared) _ E H fun v h₁ tk H1 hP => ?_) hs)
  obtain ⟨m, A', F⟩ := H1
  refine wpAny_storeName_local hx A'.ns (fun h₂ hn₂ hs₂ => ?_) hp
  refine hq h₂ _ (STA.loc A' F hn₂ (fun b o hb e => hs₂.extBut b o hb e) hx hm (hm _ _ _ (ext_hide fun b o hb e => hs₂.extBut b o (fun q => hb (q ▸ mem_L)) e) hP))
theorem st_if_sts {hs0 : Heap} {gs0 : Array GenState} {ds0 : Drawn} {ts0 : Nat} {os0 : OsState} {test : Expr} {body orelse rest : List Stmt} {b : Bool} {Q : Flow → Shared → Prop} {E : Value → Shared → Prop} (H : STA z env Γ hs0) (ht : STS prog w A env z Γ env test b)
    (hy : b = true → ∀ h' tk, STA z env Γ h' → wpAny (model prog w) A (execs body env) (fun f s' => match f with | .next => wpAny (model prog w) A (execs rest env) Q E s' | f => Q f s') E (⟨h', gs0, ds0, tk, os0⟩ : Shared))
    (hn : b = false → ∀ h' tk, STA z env Γ h' → wpAny (model prog w) A (execs orelse env) (fun f s' => match f with | .next => wpAny (model prog w) A (execs rest env) Q E s' | f => Q f s') E (⟨h', gs0, ds0, tk, os0⟩ : Shared)) :
    wpAny (model prog w) A (execs (.If test body orelse pos :: rest) env) Q E (⟨hs0, gs0, ds0, ts0, os0⟩ : Shared) := by
  refine wpAny_execs_cons (wpAny_If (ht (⟨hs0, gs0, ds0, ts0, os0⟩ : Shared) _ E H fun h₁ tk H1 => ?_))
  cases b with
  | true => exact hy rfl h₁ tk H1
  | false => exact hn rfl h₁ tk H1
/-- a test of the state, of a comparison whose left side calls -/
theorem STS_cmp {op : CmpOp} {l r : Expr} {b : Bool} (h1 : SEV prog w A env z Γ env' l P₁) (m1 : Mono P₁) (h2 : ∀ h, STA z env Γ h → EV prog w A env' h r P₂) (hc : CMP prog w A op P₁ P₂ b) (hm : behindInMarks op r = false := by with_unfolding_all rfl) : STS prog w A env z Γ env' (.Compare l [op] [r] pos) b :=
  fun s Q E H hq => wpAny_isTrue_Compare1 (h1 s _ E H fun v₁ h' tk H1 p₁ => h2 h' H1 _ _ E Ext.rfl' fun v₂ h'' tk' k₂ p₂ => hc _ _ E v₁ v₂ (m1 _ _ _ (hide_ext.trans k₂) p₁) p₂ (wpAny_truthy_bool (hq h'' tk' (H1.ext k₂)))) hm
/-- of a comparison whose right side calls, the left a plain value -/
theorem STS_cmpR {op : CmpOp} {l r : Expr} {b : Bool} {G : Value → Prop} (h1 : ∀ h, STA z env Γ h → EV prog w A env' h l fun _ v => G v) (h2 : SEV prog w A env z Γ env' r P₂) (m2 : Mono P₂) (hc : CMP prog w A op (fun _ v => G v) P₂ b) (hm : behindInMarks op r = false := by with_unfolding_all rfl) : STS prog w A env z Γ env' (.Compare l [op] [r] pos) b :=
  fun s Q E H hq => wpAny_isTrue_Compare1 (h1 _ H s _ E Ext.rfl' fun v₁ h' tk k₁ p₁ => h2 _ _ E (H.ext k₁) fun v₂ h'' tk' H2 p₂ => hc _ _ E v₁ v₂ p₁ (m2 _ _ _ hide_ext p₂) (wpAny_truthy_bool (hq h'' tk' H2))) hm
theorem STS_or {a b : Bool} (h1 : STS prog w A env z Γ env' e₁ a) (h2 : a = false → STS prog w A env z Γ env' e₂ b) : STS prog w A env z Γ env' (.BoolOp .Or [e₁, e₂] pos) (a || b) := fun s Q E H hq => by
  refine isTrue_or (h1 s _ E H fun h' tk H1 => ?_)
  cases a with
  | true => simpa using hq h' tk H1
  | false =>
    refine isTrue_or (h2 rfl _ _ E H1 fun h'' tk' H2 => ?_)
    cases b with
    | true => simpa using hq h'' tk' H2
    | false => simpa using isTrue_or_nil (hq h'' tk' H2)
theorem STS_of {b : Bool} (h1 : ∀ h, STA z env Γ h → TS prog w A env' h e b) : STS prog w A env z Γ env' e b := fun s Q E H hq => h1 _ H s Q E Ext.rfl' fun h' tk k => hq h' tk (H.ext k)
end
end Mine
end
section
open PySem PySem.W PyProof.Rows PySem.Calls PySem.SeqAt
set_option Elab.async false
set_option linter.unusedVariables false
namespace Mine
section
variable {prog : Program} {w : World} {A : Around} {env env' : Env} {K K' : Heap} {e e₁ e₂ l r value : Expr} {P P' P₁ P₂ : VP} {z : Zn} {Γ Γ' : Ctx'} {h h' : Heap} {m : Str → Option Value} {x : Str} {pos p px sp : Pos}
noncomputable def intR (n : Int) (v : Value) : Prop := ∃ t, v = .int n t
noncomputable def strR (y : Str) (v : Value) : Prop := ∃ t, v = .str y t
noncomputable def IsS (y : Str) : VP := fun _ v => ∃ t, v = .str y t
theorem mono_S (y : Str) : Mono (IsS y) := fun _ _ _ _ h => h
theorem EV_str {y : Str} {k} : EV prog w A env K (.Constant (.str y) k pos) (IsS y) := fun s Q E _ hq => wpAny_Constant_str (hq _ s.heap _ Ext.rfl' ⟨_, rfl⟩)
theorem Paired.take {α β : Type} {F : α → β → Prop} : ∀ (n : Nat) {l : List α} {k : List β}, Paired F l k → Paired F (l.take n) (k.take n)
  | 0, _, _, _ => by rw [List.take_zero, List.take_zero]; exact .nil
  | n + 1, _, _, .nil => .nil
  | n + 1, _, _, .cons a t => .cons a (Paired.take n t)
theorem add_lists' {s : Shared} {E : Value → Shared → Prop} {l b : Addr} {its its2 : Array Value} {Q : Value → Shared → Prop} (hl : s.heap.IsList l its) (hb : s.heap.IsList b its2)
    (h : Q (.ref s.heap.objs.size) { s with heap := s.heap.push { cls := .type "list", data := .seq (its ++ its2) } }) (hsz : its.size + its2.size ≤ sizeLine) : wpAny (model prog w) A (binaryOp .Add (.ref l) (.ref b)) Q E s := by
  obtain ⟨⟨cls, dd, data, sl⟩, ho, hc, n, hd⟩ := id hl
  obtain ⟨⟨cls2, dd2, data2, sl2⟩, ho2, hc2, n2, hd2⟩ := id hb
  simp only at hc hd hc2 hd2
  subst hc hd hc2 hd2
  exact concat_meets ⟨_, ho, rfl⟩ ⟨_, ho2, rfl⟩ noFill_list_add seq_list_add PySem.F.slot_list_add PySem.F.entry_list_add (PySem.F.args_list_add_2 _ _) (list_addW l b its its2 n n2 dd dd2 sl sl2 hsz) ⟨ho, ho2, h⟩
/-- list + list -/
theorem EV_cat {α : Type} {G : α → Value → Prop} {xs ys : List α} (h1 : EV prog w A env K l (LS G xs)) (h2 : EV prog w A env K r (LS G ys)) (hz : xs.length + ys.length ≤ 1000000) : EV prog w A env K (.BinOp l .Add r pos) (LS G (xs ++ ys)) := fun s Q E k hq => by
  refine wpAny_BinOp (h1 s _ E k fun v₁ h' tk k₁ p₁ => h2 _ _ E (k.trans k₁) fun v₂ h'' tk' k₂ p₂ => ?_)
  obtain ⟨a, its, rfl, hl, hp⟩ := p₁
  obtain ⟨b, its2, rfl, hl2, hp2⟩ := p₂
  have e1 : xs.length = its.size := by have := hp.length; simpa using this
  have e2 : ys.length = its2.size := by have := hp2.length; simpa using this
  refine add_lists' (s := { s with heap := h'', toks := tk' }) (hl.at fun o e => k₂ _ _ e) hl2 ?_ (by rw [sizeLine_eq]; lia)
  refine hq _ _ _ ((k₁.trans k₂).trans fun b o e => Heap.get?_push_of_some _ e) ⟨_, its ++ its2, rfl, Heap.PlainList.isList ⟨_, Heap.get?_push_size _ rfl⟩, ?_⟩
  rw [Array.toList_append]
  exact Paired.append hp hp2
/-- a display of a list -/
theorem spl {α : Type} {G : α → Value → Prop} : ∀ {es : List Expr} {bs : List α} (s : Shared) (Q : List Value → Shared → Prop) (E : Value → Shared → Prop), Ext K s.heap → Paired (fun e b => EV prog w A env K e fun _ v => G b v) es bs → (∀ vs h' tk, Ext s.heap h' → Paired G bs vs → Q vs { s with heap := h', toks := tk }) →
    wpAny (model prog w) A (spliced (es.map fun e => (false, eval e env))) Q E s
  | _, _, s, Q, E, k, .nil, hq => spliced_nil (hq [] s.heap s.toks Ext.rfl' .nil)
  | _, _, s, Q, E, k, .cons he t, hq => spliced_cons (he s _ E k fun v h' tk k₁ hv => spl _ _ E (k.trans k₁) t fun vs h'' tk' k₂ hp => hq (v :: vs) h'' tk' (k₁.trans k₂) (.cons hv hp))
theorem EV_list {α : Type} {G : α → Value → Prop} {es : List Expr} (bs : List α) (hz : bs.length ≤ 100000) (hall : Paired (fun e b => EV prog w A env K e fun _ v => G b v) es bs) (htr : backTo p (starEach es env) = es.map fun e => (false, eval e env) := by with_unfolding_all rfl) : EV prog w A env K (.List es p) (LS G bs) := fun s Q E k hq => by
  rw [arm_eval_List, htr]
  refine wpAny_bind (wpAny_standAt (wpAny_bind (spl s _ E k hall fun vs h' tk k₁ hp => ?_)))
  have hl : vs.length ≤ 100000 := by have := hp.length; lia
  refine wpAny_newObj_type (hq _ _ _ (k₁.trans fun b o e => Heap.get?_push_of_some _ e) ⟨_, vs.toArray, rfl, Heap.PlainList.isList ⟨_, Heap.get?_push_size _ rfl⟩, by simpa using hp⟩) (by size_fits)
/-- e[:n] of a list, fresh, e any -/
theorem EVF_upto {α : Type} {G : α → Value → Prop} {zs : List α} {hi : Expr} {n : Nat} (h1 : EV prog w A env K value (LS G zs)) (h2 : EV prog w A env K hi (IsI (n : Int))) (hz : zs.length ≤ 1000000)
    (hs : ∀ a b, subscripted (.Slice none (some hi) none sp) false (.ref a) (.ref b) = operate [.ref b, .ref a] (getItem (.ref a) (.ref b)) := by intro _ _; with_unfolding_all rfl) : EVF prog w A env K (.Subscript value (.Slice none (some hi) none sp) pos) (LS G (zs.take n)) := fun s Q E k hq => by
  refine Subscript_ (h1 s _ E k fun v₁ h' tk k₁ p₁ => ?_)
  refine wpAny_Slice (evalPart_none_step (evalPart_some_step (h2 _ _ E (k.trans k₁) fun v₂ h'' tk' k₂ p₂ => evalPart_none_step ?_)))
  obtain ⟨a, ys, rfl, hl, hp⟩ := p₁
  obtain ⟨t, rfl⟩ := p₂
  have e2 : zs.length = ys.size := by have := hp.length; simpa using this
  refine kba_turn (value' := .Name (Str.ofString "x") pos) (fun _ => rfl) ?_
  refine tail_slice_L (s := { s with heap := h'', toks := tk' }) (hl.at fun o e => k₂ _ _ e) .none (.int _ _) .none (by simp) (by rw [sizeLine_eq]; lia) (fun h3 D k3 hD0 hD => ?_) (hs a _) (fun _ => rfl)
  refine hq _ _ _ ((k₁.trans k₂).trans k3) fun S hS => ⟨D, _, rfl, fresh_hide (h := h'') (fun b hb => let ⟨o, ho⟩ := hS b hb; ⟨o, (k₁.trans k₂) _ _ ho⟩) hD0 hD, ?_⟩
  rw [slicePick_upto']
  exact Paired.take n hp
/-- an item of a list, the list any -/
theorem EV_itemT {α : Type} {G : α → Value → Prop} {zs : List α} {slice : Expr} {n : Nat} (h1 : EV prog w A env K value (LS G zs)) (h2 : EV prog w A env K slice (IsI (n : Int))) (hn : n < zs.length) (hz : zs.length ≤ 1000000)
    (hs : ∀ t a, subscripted slice false (.ref a) (.int (n : Int) t) = operate [.ref a, .int (n : Int) t] (getItem (.ref a) (.int (n : Int) t)) := by intro _ _; with_unfolding_all rfl) : EV prog w A env K (.Subscript value slice pos) (fun _ v => G zs[n] v) := fun s Q E k hq => by
  refine Subscript_ (h1 s _ E k fun v₁ h' tk k₁ p₁ => ?_)
  refine h2 _ _ E (k.trans k₁) fun v₂ h'' tk' k₂ p₂ => ?_
  obtain ⟨a, ys, rfl, hl, hp⟩ := p₁
  obtain ⟨t, rfl⟩ := p₂
  have e2 : zs.length = ys.size := by have := hp.length; simpa using this
  have hy : n < ys.size := by lia
  refine kba_turn (value' := .Name (Str.ofString "x") pos) (fun _ => rfl) ?_
  refine item_list (s := { s with heap := h'', toks := tk' }) (hl.at fun o e => k₂ _ _ e) (by lia) (by lia) (x := ys[n]) (by simp [hy]) ?_ (hs t a) (fun _ => rfl)
  refine hq _ _ _ (k₁.trans k₂) ?_
  have := paired_get hp n hn (by simpa using hy)
  simpa using this
/-- e[a:b] of a list: the exact thing -/
theorem EV_run {α : Type} {G : α → Value → Prop} {zs : List α} {lo hi : Expr} {a b : Nat} (h1 : EV prog w A env K value (LS G zs)) (h2 : EV prog w A env K lo (IsI (a : Int))) (h3 : EV prog w A env K hi (IsI (b : Int))) (hab : a ≤ b) (hb : b ≤ zs.length) (hz : zs.length ≤ 1000000)
    (hs : ∀ a b, subscripted (.Slice (some lo) (some hi) none sp) false (.ref a) (.ref b) = operate [.ref b, .ref a] (getItem (.ref a) (.ref b)) := by intro _ _; with_unfolding_all rfl)
    (ht : ∀ a r, letTemporaryGo value (.ref a) r = pure () := by intro _ _; with_unfolding_all rfl) : EV prog w A env K (.Subscript value (.Slice (some lo) (some hi) none sp) pos) (fun h v => ∃ D its n, v = .ref D ∧ K.get? D = none ∧ h.get? D = some (listOf its n) ∧ Paired G ((zs.drop a).take (b - a)) its.toList) := fun s Q E k hq => by
  refine Subscript_ (h1 s _ E k fun v₁ h' tk k₁ p₁ => ?_)
  refine wpAny_Slice (evalPart_some_step (h2 _ _ E (k.trans k₁) fun v₂ h'' tk' k₂ p₂ => evalPart_some_step (h3 _ _ E ((k.trans k₁).trans k₂) fun v₃ h3' tk3 k₃ p₃ => evalPart_none_step ?_)))
  obtain ⟨ad, ys, rfl, hl, hp⟩ := p₁
  obtain ⟨t, rfl⟩ := p₂
  obtain ⟨u, rfl⟩ := p₃
  have e2 : zs.length = ys.size := by have := hp.length; simpa using this
  refine tail_slice_L (s := { s with heap := h3', toks := tk3 }) (hl.at fun o e => k₃ _ _ (k₂ _ _ e)) (.int _ _) (.int _ _) .none (by simp) (by rw [sizeLine_eq]; lia) (fun h4 D k4 hD0 hD => ?_) (hs ad _) (ht ad)
  obtain ⟨n, hn⟩ := hD
  refine hq _ _ _ (((k₁.trans k₂).trans k₃).trans k4) ⟨D, _, n, rfl, ?_, hn, ?_⟩
  · cases e : K.get? D with
    | none => rfl
    | some o => rw [k₃ _ _ (k₂ _ _ (k₁ _ _ (k _ _ e)))] at hD0; cases hD0
  rw [slicePick_run _ _ _ (by lia) hab]
  exact Paired.take (b - a) (Paired.drop a hp)
theorem EV_mod {a c : Int} (h1 : EV prog w A env K l (IsI a)) (h2 : EV prog w A env K r (IsI c)) (hc : 0 < c) : EV prog w A env K (.BinOp l .Mod r pos) (IsI (a.fmod c)) := fun s Q E k hq => by
  refine wpAny_BinOp (h1 s _ E k fun v₁ h' tk k₁ p₁ => h2 _ _ E (k.trans k₁) fun v₂ h'' tk' k₂ p₂ => ?_)
  obtain ⟨t, rfl⟩ := p₁
  obtain ⟨u, rfl⟩ := p₂
  exact mod_int' (by lia) (hq _ _ _ (k₁.trans k₂) ⟨_, rfl⟩)
theorem EV_fdiv {a c : Int} (h1 : EV prog w A env K l (IsI a)) (h2 : EV prog w A env K r (IsI c)) (hc : 0 < c) (hc2 : c < 1000000000) : EV prog w A env K (.BinOp l .FloorDiv r pos) (IsI (a.fdiv c)) := fun s Q E k hq => by
  refine wpAny_BinOp (h1 s _ E k fun v₁ h' tk k₁ p₁ => h2 _ _ E (k.trans k₁) fun v₂ h'' tk' k₂ p₂ => ?_)
  obtain ⟨t, rfl⟩ := p₁
  obtain ⟨u, rfl⟩ := p₂
  exact floordiv_int (by lia) (hq _ _ _ (k₁.trans k₂) ⟨_, rfl⟩) (.inl (PyProof.noPylong_small (by lia)))
theorem CMP_eq_S (a b : Str) : CMP prog w A .Eq (IsS a) (IsS b) (decide (a = b)) := by
  rintro s Q E v₁ v₂ ⟨t, rfl⟩ ⟨u, rfl⟩ hq
  refine eq_str ?_
  have : (a == b) = decide (a = b) := by rw [Bool.eq_iff_iff, beq_iff_eq, decide_eq_true_eq]
  rw [this]; exact hq
theorem CMP_ne_S (a b : Str) : CMP prog w A .NotEq (IsS a) (IsS b) (decide (a ≠ b)) := by
  rintro s Q E v₁ v₂ ⟨t, rfl⟩ ⟨u, rfl⟩ hq
  refine ne_str ?_
  have : (a != b) = decide (a ≠ b) := by rw [Bool.eq_iff_iff, bne_iff_ne, decide_eq_true_eq]
  rw [this]; exact hq
/-- an item of a text -/
theorem EV_itemS {y : Str} {i : Int} {slice : Expr} (h1 : EV prog w A env K value (IsS y)) (h2 : EV prog w A env K slice (IsI i)) (hi : 0 ≤ i) (hl : i < (y.length : Int)) (hz : y.length ≤ 100000)
    (hs : ∀ t u, subscripted slice false (.str y t) (.int i u) = operate [.str y t, .int i u] (getItem (.str y t) (.int i u)) := by intro _ _; with_unfolding_all rfl)
    (ht : ∀ t r, letTemporaryGo value (.str y t) r = pure () := by intro _ _; with_unfolding_all rfl) : EV prog w A env K (.Subscript value slice pos) (IsS (Txt.item y i)) := fun s Q E k hq => by
  refine Subscript_ (h1 s _ E k fun v₁ h' tk k₁ p₁ => ?_)
  refine h2 _ _ E (k.trans k₁) fun v₂ h'' tk' k₂ p₂ => ?_
  obtain ⟨t, rfl⟩ := p₁
  obtain ⟨u, rfl⟩ := p₂
  exact KXi.item (n := y.length) rfl (by lia) hl (by lia) (fun _ => hq _ _ _ (k₁.trans k₂) ⟨_, rfl⟩) (hs t u) (ht t)
end
end Mine
end
section
open PySem PySem.W PyProof.Rows PySem.Calls PySem.SeqAt
set_option Elab.async false
set_option linter.unusedVariables false
namespace Mine
section
variable {prog : Program} {w : World} {A : Around} {env env' : Env} {K K' : Heap} {e : Expr} {P P' : VP} {z : Zn} {Γ Γ' : Ctx'} {h h' : Heap} {m : Str → Option Value} {x y : Str} {pos p px py : Pos}
theorem STA.regrow (H : STA z env Γ h) : STA ⟨z.hid env h, z.pins, z.os⟩ env Γ h := by
  obtain ⟨m, A', F⟩ := H
  exact ⟨m, ⟨Ext.rfl', A'.ns, A'.cells, A'.nodup, A'.osd, A'.pind⟩, fun x f hx => F x f hx⟩
theorem STA.baseH (H : STA z env Γ h) : Ext z.g (z.hid env h) := let ⟨_, A', _⟩ := H; A'.base
theorem ns_obj {C : Addr} (H : h.Ns C m) : ∃ o, h.get? C = some o := let ⟨o, _, _, e, _⟩ := H; ⟨o, e⟩
inductive ScJ {α β : Type} (gs0 : Array GenState) (ds0 : Drawn) (os0 : OsState) (z : Zn) (env : Env) (h₁ : Heap) (Γ : Ctx') (C D I ta : Addr) (G : Heap → β → Value → Prop) (xs : List α) (f : α → β) (n k : Nat) (s' : Shared) : Prop
  | mk (h' : Heap) (tk i : Nat) (K : Heap) (ys : Array Value) (nD : Nat) (oC oI : Obj) (mC : Str → Option Value) (e : s' = (⟨h', gs0, ds0, tk, os0⟩ : Shared)) (hK : Ext (z.hid env h₁) K) (H : STA ⟨K, (C, oC) :: (D, listOf ys nD) :: (I, oI) :: z.pins, z.os⟩ env Γ h') (h1 : oI.cls = .type "tuple_iterator") (h2 : oI.data = .fields #[.ref ta, .int (i : Nat) 0]) (hn : h'.Ns C mC) (hF : Paired (fun b v => G K b v) ((xs.take i).map f) ys.toList) (hi : i ≤ n) (hk : k = n + 1 - i)
/-- a comprehension over a tuple whose elements call -/
theorem st_comp_sev {α β : Type} {elt iter : Expr} {scope : Scope} {cl : List (Str × Addr)} {xs : List α} {f : α → β} {Rel : α → Value → Prop} {G : Heap → β → Value → Prop} {hs0 : Heap} {gs0 : Array GenState} {ds0 : Drawn} {ts0 : Nat} {os0 : OsState} {rest : List Stmt} {Q : Flow → Shared → Prop} {E : Value → Shared → Prop} {spos : Pos}
    (H : STA z env Γ hs0) (hok : EndOk A z.g) (hG : ∀ h h' b v, Ext h h' → G h b v → G h' b v)
    (hit : EVH prog w A env (z.S env) hs0 iter fun h v => ∃ a items, v = .ref a ∧ IsTup h a items ∧ Paired Rel xs items.toList) (hclos : closureFor scope env = pure cl) (hz : xs.length ≤ 100000)
    (hx : scope.names.lookup x = some .local)
    (helt : ∀ c v C (z' : Zn) (s' : Shared) (Q' : Value → Shared → Prop) (E' : Value → Shared → Prop), c ∈ xs → Rel c v → z'.os = z.os → Ext z.g z'.g → STA z' env Γ s'.heap → (∃ mC, s'.heap.Ns C mC ∧ mC x = some v) →
      (∀ r h' tk, STA z' env Γ h' → G (z'.hid env h') (f c) r → Q' r { s' with heap := h', toks := tk }) → wpAny (model prog w) A (eval elt (compEnvC scope cl C env)) Q' E' s')
    (hq : ∀ h' tk, STA z env ((y, .loc fun h v => ∃ D its, v = .ref D ∧ h.IsList D its ∧ Paired (fun b v => G h b v) (xs.map f) its.toList) :: Γ) h' → wpAny (model prog w) A (execs rest env) Q E (⟨h', gs0, ds0, tk, os0⟩ : Shared))
    (hsw : swapsWith (.ListComp elt [⟨.Name x px, iter, [], 0⟩] scope pos) (some (.Name y py)) spos.line env = pure true := by with_unfolding_all rfl)
    (hcell : ∀ y ∈ scope.names, y.2 ≠ .cell := by decide) (hkind : scope.kind = .function := by rfl) (hnames : ∀ y ∈ scope.names, y.2 = .local → scope.names.lookup y.1 = some .local := by decide)
    (hy : env.kindOf y = some .local := by rfl) (hp : (env.scope.kind == .class || (env.scope.kind == .module && env.locals != env.globals)) = false := by rfl)
    (hs : ∀ x, foldedSetIterable iter env x = pure x := by intro _; rfl) : wpAny (model prog w) A (execs (.Assign [.Name y py] (.ListComp elt [⟨.Name x px, iter, [], 0⟩] scope pos) spos :: rest) env) Q E (⟨hs0, gs0, ds0, ts0, os0⟩ : Shared) := by
  refine wpAny_execs_cons ?_
  rw [exec_Assign_Name_used _ _ _ _ hsw]
  refine wpAny_bind (wpAny_standAt (wpAny_bind ?_))
  show wpAny _ A (do let _ ← comprehension (.ListComp elt [⟨.Name x px, iter, [], 0⟩] scope pos) scope env _ (newList []) false (eval iter env) (some (assign (.Name y py) env))) _ _ (⟨hs0, gs0, ds0, ts0, os0⟩ : Shared)
  refine wpAny_bind (wpAny_mono (wpAny_comprehension_free (use := some (assign (.Name y py) env)) (Q := fun _ s' => wpAny (model prog w) A (execs rest env) Q E s') rfl hs hclos hkind hnames (hit (⟨hs0, gs0, ds0, ts0, os0⟩ : Shared) _ E Ext.rfl' fun v h₁ tk₁ k₁ hS => ?_)) (fun _ s' hq => wpAny_pure (wpAny_pure hq)) fun _ _ e => e)
  obtain ⟨ta, items, rfl, ht, hpr⟩ := hS
  have H1 := H.ext k₁
  have hn : xs.length = items.size := by have := hpr.length; simpa using this
  refine wpAny_pyIter_tuple (t := ta) (let ⟨o, e, r⟩ := ht; ⟨o, hide_ext _ _ e, r⟩) ?_
  have nu : ∀ hh : Heap, hh.get? hh.objs.size = none := fun hh => by
    cases e : hh.get? hh.objs.size with
    | none => rfl
    | some o' => exact absurd (Heap.lt_size e) (Nat.lt_irrefl _)
  have hKI : (z.hid env h₁).get? h₁.objs.size = none := by
    cases e : (z.hid env h₁).get? h₁.objs.size with
    | none => rfl
    | some o' => have := hide_ext _ _ e; rw [nu] at this; cases this
  have W := It.tuple (prog := prog) (w := w) (A := A) ht hKI (hok.ext H1.baseH)
  have HI := H1.pin (nu h₁) (fun b o e => Heap.get?_push_of_some { cls := .type "tuple_iterator", data := .fields #[.ref ta, .int (0 : Nat) 0] } e) (Heap.get?_push_size _ rfl)
  have hIn : ∀ p ∈ z.pins, p.1 ≠ h₁.objs.size := fun p hp q => by have := H1.pinAt p hp; rw [q, nu] at this; cases this
  generalize hh2 : h₁.push { cls := .type "tuple_iterator", data := .fields #[.ref ta, .int (0 : Nat) 0] } = h₂ at HI
  generalize hIe : h₁.objs.size = I at *
  dsimp only
  refine wpAny_newObj_type (wpAny_newFunctionEnv hcell (by intro y hy; simp at hy) (fun h₄ hns₄ hsb₄ => ?_) hkind)
  dsimp only at hns₄ hsb₄ ⊢
  have HD := HI.pin (nu h₂) (fun b o e => Heap.get?_push_of_some { cls := .type "list", dict := none, data := .seq ([] : List Value).toArray } e) (Heap.get?_push_size _ rfl)
  have hDn : ∀ p ∈ (I, ({ cls := .type "tuple_iterator", data := .fields #[.ref ta, .int (0 : Nat) 0] } : Obj)) :: z.pins, p.1 ≠ h₂.objs.size := fun p hp q => by have := HI.pinAt p hp; rw [q, nu] at this; cases this
  generalize hh3 : h₂.push { cls := .type "list", dict := none, data := .seq ([] : List Value).toArray } = h₃ at *
  generalize hDe : h₂.objs.size = D at *
  obtain ⟨oC, hoC⟩ := ns_obj hns₄
  have HC := HD.pin (nu h₃) (fun b o e => hsb₄.extBut b o (fun q => by rw [q, nu] at e; cases e) (Heap.get?_push_of_some _ e)) hoC
  have hCn : ∀ p ∈ (D, ({ cls := .type "list", dict := none, data := .seq ([] : List Value).toArray } : Obj)) :: (I, ({ cls := .type "tuple_iterator", data := .fields #[.ref ta, .int (0 : Nat) 0] } : Obj)) :: z.pins, p.1 ≠ h₃.objs.size := fun p hp q => by have := HD.pinAt p hp; rw [q, nu] at this; cases this
  generalize hCe : h₃.objs.size = C at *
  have hCD : D ≠ C := hCn _ List.mem_cons_self
  have hCI : I ≠ C := hCn _ (List.mem_cons_of_mem _ List.mem_cons_self)
  have hDI : I ≠ D := hDn _ List.mem_cons_self
  have hCp : ∀ p ∈ z.pins, p.1 ≠ C := fun p hp => hCn p (List.mem_cons_of_mem _ (List.mem_cons_of_mem _ hp))
  have hDp : ∀ p ∈ z.pins, p.1 ≠ D := fun p hp => hDn p (List.mem_cons_of_mem _ hp)
  have k0 : Ext (z.hid env h₁) ((⟨(⟨z.hid env h₁, (I, ({ cls := .type "tuple_iterator", data := .fields #[.ref ta, .int (0 : Nat) 0] } : Obj)) :: z.pins, z.os⟩ : Zn).hid env h₂, (D, ({ cls := .type "list", dict := none, data := .seq ([] : List Value).toArray } : Obj)) :: (I, ({ cls := .type "tuple_iterator", data := .fields #[.ref ta, .int (0 : Nat) 0] } : Obj)) :: z.pins, z.os⟩ : Zn).hid env h₃) := HI.baseH.trans HD.baseH
  have loop : ∀ s₃ : Shared, s₃ = (⟨h₄, gs0, ds0, tk₁ + ([] : List (Str × Value)).length, os0⟩ : Shared) →
      codeAny (model prog w) A (.compLoop (.ListComp elt [⟨.Name x px, iter, [], 0⟩] scope pos) 0 (.ref I) (.ref D) (compEnvC scope cl C env)) (compPost (model prog w) A E (some (assign (.Name y py) env)) (fun _ s' => wpAny (model prog w) A (execs rest env) Q E s') (.ref D) C) s₃ := by
    rintro s₃ rfl
    refine comp_turns (ScJ gs0 ds0 os0 z env h₁ Γ C D I ta G xs f items.size) ?_ (items.size + 1)
      ⟨h₄, _, 0, _, #[], 0, oC, _, _, rfl, k0, HC, rfl, rfl, hns₄, by simpa using Paired.nil, Nat.zero_le _, rfl⟩
    rintro k s' ⟨h', tk, i, K, ys, nD, oC, oI, mC, rfl, kK, HS, hI1, hI2, hnC, hF, hi, rfl⟩ N
    have hIo : h'.get? I = some oI := HS.pinAt _ (List.mem_cons_of_mem _ (List.mem_cons_of_mem _ List.mem_cons_self))
    have hKh : Ext (z.hid env h₁) h' := kK.trans HS.base
    by_cases hlt : i < items.size
    · refine W.item i _ _ _ oI hlt hKh hIo ⟨hI1, hI2⟩ fun v h₅ tk₅ o₅ hPv hs₅ hI₅ hO₅ => ?_
      have hv : items[i]? = some v := hPv
      have hix : i < xs.length := by lia
      have hRel : Rel xs[i] v := by
        have h3 := paired_get hpr i hix (by simpa using hlt)
        obtain ⟨_, hv'⟩ := Array.getElem?_eq_some_iff.mp hv
        rw [← hv', ← Array.getElem_toList]; exact h3
      have H5 : STA ⟨K, [(C, oC), (D, listOf ys nD)] ++ (I, o₅) :: z.pins, z.os⟩ env Γ h₅ := HS.chg (pre := [(C, oC), (D, listOf ys nD)]) (fun p hp => by
        simp only [List.cons_append, List.nil_append, List.mem_cons] at hp
        rcases hp with rfl | rfl | hp
        · exact hCI.symm
        · exact hDI.symm
        · exact hIn p hp) (fun b ob hb e => hs₅.extBut b ob hb e) hI₅
      refine wpAny_pure ?_
      refine wpAny_assign_Name (wpAny_storeName_local (lookup_relabel_local hx) (hnC.sameBut hs₅ hCI.symm) (fun h₆ hn₆ hs₆ => ?_) (by simp [compEnvC, relabel, hkind]))
      obtain ⟨oC', hoC'⟩ := ns_obj hn₆
      have H6 : STA ⟨K, [] ++ (C, oC') :: ((D, listOf ys nD) :: (I, o₅) :: z.pins), z.os⟩ env Γ h₆ := H5.chg (pre := []) (fun p hp => by
        have hp' : p ∈ (D, listOf ys nD) :: (I, o₅) :: z.pins := hp
        rcases List.mem_cons.mp hp' with rfl | hp'
        · exact hCD
        · rcases List.mem_cons.mp hp' with rfl | hp'
          · exact hCI
          · exact hCp p hp') (fun b ob hb e => hs₆.extBut b ob hb e) hoC'
      refine wpAny_tests_nil ?_
      simp only [if_true]
      refine helt xs[i] v C ⟨K, (C, oC') :: (D, listOf ys nD) :: (I, o₅) :: z.pins, z.os⟩ _ _ _ (List.getElem_mem hix) hRel rfl (H1.baseH.trans kK) H6 ⟨_, hn₆, by simp⟩ fun r h₇ tk₇ H7 hGr => ?_
      have H8 := H7.regrow
      have hD7 : h₇.get? D = some (listOf ys nD) := H7.pinAt _ (List.mem_cons_of_mem _ List.mem_cons_self)
      have hC7 : h₇.get? C = some oC' := H7.pinAt _ List.mem_cons_self
      have hys : ys.size ≤ sizeLine := by
        have e1 := hF.length
        rw [List.length_map, List.length_take] at e1
        have e4 : ys.toList.length = ys.size := by simp
        rw [sizeLine_eq]
        lia
      refine wpAny_list_append_plain (hsz := hys) ⟨nD, hD7⟩ fun h₈ hl₈ hs₈ => ?_
      obtain ⟨n8, hn8⟩ := hl₈
      have H9 := H8.chg (pre := [(C, oC')]) (post := (I, o₅) :: z.pins) (I := D) (fun p hp => by
        simp only [List.cons_append, List.nil_append, List.mem_cons] at hp
        rcases hp with rfl | rfl | hp
        · exact hCD.symm
        · exact hDI
        · exact hDp p hp) (fun b ob hb e => hs₈.extBut b ob hb e) hn8
      have hn9 : h₈.Ns C _ := (hn₆.at' fun o e => by rw [hoC'] at e; cases e; exact hC7).sameBut hs₈ hCD.symm
      refine ⟨items.size + 1 - (i + 1), turn_lt hlt, h₈, tk₇, i + 1, _, ys.push r, n8, oC', o₅, _, rfl, kK.trans H7.baseH, H9, hO₅.1, hO₅.2, hn9, ?_, hlt, rfl⟩
      have : (xs.take (i + 1)).map f = (xs.take i).map f ++ [f xs[i]] := by rw [List.take_succ_eq_append_getElem hix, List.map_append]; rfl
      rw [this, Array.toList_push]
      exact Paired.snoc (Mine.Paired.imp (fun b v hg => hG _ _ _ _ H7.baseH hg) hF) hGr
    · have hin : i = items.size := Nat.le_antisymm ‹i ≤ items.size› (Nat.le_of_not_lt hlt)
      subst hin
      refine W.done _ _ _ oI hKh hIo ⟨hI1, hI2⟩ fun h₅ he₅ => ?_
      rw [List.take_of_length_le (by lia)] at hF
      have U0 : STA ⟨K, (I, oI) :: (D, listOf ys nD) :: (C, oC) :: z.pins, z.os⟩ env Γ h' := HS.cong (fun p hp => by
        simp only [List.mem_cons] at hp ⊢
        rcases hp with h | h | h | h <;> simp [h]) (fun p hp => by
        simp only [List.mem_cons] at hp ⊢
        rcases hp with h | h | h | h <;> simp [h])
      have U1 := U0.unpin (g₀ := K) (fun p hp => by
        rcases List.mem_cons.mp hp with rfl | hp
        · exact hDI.symm
        · rcases List.mem_cons.mp hp with rfl | hp
          · exact hCI.symm
          · exact hIn p hp) he₅ Ext.rfl'
      have hD5 : h₅.get? D = some (listOf ys nD) := U1.pinAt _ List.mem_cons_self
      have hDS : D ≠ env.locals ∧ D ∉ env.cells.map (·.2) ∧ D ∉ z.os := by
        obtain ⟨_, A', _⟩ := U1
        exact (A'.pind (D, listOf ys nD) List.mem_cons_self).2
      have U2 := U1.unpin (g₀ := K) (fun p hp => by
        rcases List.mem_cons.mp hp with rfl | hp
        · exact hCD.symm
        · exact hDp p hp) (fun _ _ _ e => e) Ext.rfl'
      have hn5 : h₅.Ns C mC := hnC.at' fun o e => he₅ _ o hCI.symm e
      obtain ⟨m2, A2, F2⟩ := U2
      have hCL : C ≠ env.locals := (A2.pind (C, oC) List.mem_cons_self).2.1
      show wpAny _ A (assign (.Name y py) env (.ref D)) _ _ _
      refine wpAny_assign_Name (wpAny_storeName_local hy A2.ns (fun h₆ hn₆ hs₆ => ?_) hp)
      have kL : Ext ((⟨K, (C, oC) :: z.pins, z.os⟩ : Zn).hid env h₅) ((⟨K, (C, oC) :: z.pins, z.os⟩ : Zn).hid env h₆) := ext_hide fun b o hb e => hs₆.extBut b o (fun q => hb (q ▸ mem_L)) e
      have U3 := STA.loc (x := y) (P := fun h v => ∃ D its, v = .ref D ∧ h.IsList D its ∧ Paired (fun b v => G h b v) (xs.map f) its.toList) A2 F2 hn₆ (fun b o hb e => hs₆.extBut b o hb e) hy
        (fun h h' v k ⟨D, its, e, hl, hp⟩ => ⟨D, its, e, hl.at fun o e => k _ _ e, Mine.Paired.imp (fun b v hg => hG _ _ _ _ k hg) hp⟩)
        (v := .ref D) ⟨D, ys, rfl, Heap.PlainList.isList ⟨nD, hideAll_get _ (hs₆.extBut _ _ hDS.1 hD5) fun q => by
          rcases List.mem_cons.mp q with q | q
          · exact hDS.1 q
          · rcases List.mem_append.mp q with q | q
            · exact hDS.2.1 q
            · rcases List.mem_append.mp q with q | q
              · exact hDS.2.2 q
              · obtain ⟨p, hp, e⟩ := List.mem_map.mp q
                rcases List.mem_cons.mp hp with rfl | hp
                · exact hCD e.symm
                · exact hDp p hp e⟩, Mine.Paired.imp (fun b v hg => hG _ _ _ _ (A2.base.trans kL) hg) hF⟩
      refine ⟨_, hn5.sameBut hs₆ hCL, fun h₇ hs₇ => ?_⟩
      exact hq h₇ _ (U3.unpin (g₀ := z.g) hCp (fun b ob hb e => hs₇.extBut b ob hb e) (H1.baseH.trans kK))
  refine codeAny_compStart_list (loop _ rfl) (W.self 0 _ _ _ _ (HC.pinAt _ (List.mem_cons_of_mem _ (List.mem_cons_of_mem _ List.mem_cons_self))) ⟨rfl, rfl⟩ (loop _ rfl))
end
end Mine
end
section
open PySem PySem.W PyProof.Rows PySem.Calls PySem.SeqAt
set_option Elab.async false
set_option linter.unusedVariables false
namespace Mine
section
variable {prog : Program} {w : World} {A : Around} {env env' : Env} {K K' : Heap} {e e₁ e₂ : Expr} {P P' : VP} {z : Zn} {Γ Γ' : Ctx'} {h h' : Heap} {m : Str → Option Value} {x y : Str} {pos p px py : Pos}
theorem EVF_tuple {α : Type} {G : α → Value → Prop} {es : List Expr} {k1} (bs : List α) (hz : bs.length ≤ 100000) (hall : Paired (fun e b => EV prog w A env K e fun _ v => G b v) es bs) (htr : backTo p (starEach es env) = es.map fun e => (false, eval e env) := by with_unfolding_all rfl) :
    EVF prog w A env K (.Tuple es k1 p) (fun h v => ∃ a items, v = .ref a ∧ IsTup h a items ∧ Paired G bs items.toList) := fun s Q E k hq => by
  refine wpAny_Tuple_spliced ?_
  rw [htr]
  refine spl s _ E k hall fun vs h' tk k₁ hp => ⟨by have := hp.length; rw [sizeLine_eq]; lia, ?_⟩
  refine hq _ _ _ (k₁.trans fun b o e => Heap.get?_push_of_some _ e) fun S hS => ⟨_, vs.toArray, rfl, ⟨_, hideAll_get _ (Heap.get?_push_size _ rfl) fun q => ?_, rfl, _, rfl⟩, by simpa using hp⟩
  obtain ⟨o, ho⟩ := hS _ q
  exact absurd (Heap.lt_size (k₁ _ _ ho)) (Nat.lt_irrefl _)
/-- a pair whose second part is of the state -/
theorem pair_sev {s : Shared} {Q : Value → Shared → Prop} {E : Value → Shared → Prop} {k1} {PA PB : Value → Prop} (H : STA z env Γ s.heap) (h1 : EV prog w A env' s.heap e₁ fun _ v => PA v)
    (h2 : ∀ (s' : Shared) (Q' : Value → Shared → Prop) (E' : Value → Shared → Prop), STA z env Γ s'.heap → Ext s.heap s'.heap → (∀ v h' tk, STA z env Γ h' → PB v → Q' v { s' with heap := h', toks := tk }) → wpAny (model prog w) A (eval e₂ env') Q' E' s')
    (hq : ∀ r h' tk, STA z env Γ h' → (∃ T va vb, r = .ref T ∧ IsTup (z.hid env h') T #[va, vb] ∧ PA va ∧ PB vb) → Q r { s with heap := h', toks := tk })
    (htr : backTo p (starEach [e₁, e₂] env') = [(false, eval e₁ env'), (false, eval e₂ env')] := by with_unfolding_all rfl) :
    wpAny (model prog w) A (eval (.Tuple [e₁, e₂] k1 p) env') Q E s := by
  refine wpAny_Tuple_spliced ?_
  rw [htr]
  refine spliced_cons (h1 s _ E Ext.rfl' fun v h₁ tk₁ k₁ hv => spliced_cons (h2 _ _ E (H.ext k₁) k₁ fun v₂ h₂ tk₂ H2 hv₂ => spliced_nil ⟨by rw [sizeLine_eq]; simp, ?_⟩))
  have H3 : STA z env Γ (h₂.push { cls := .type "tuple", data := .seq [v, v₂].toArray }) := H2.ext fun b o e => Heap.get?_push_of_some _ e
  refine hq _ _ tk₂ H3 ⟨_, v, v₂, rfl, ⟨_, hideAll_get _ (Heap.get?_push_size _ rfl) fun q => ?_, rfl, _, rfl⟩, hv, hv₂⟩
  obtain ⟨o, ho⟩ := H2.dom _ q
  exact absurd (Heap.lt_size ho) (Nat.lt_irrefl _)
/-- the same ledger with a thing of it told first -/
theorem cons_full {g : Heap} {L : Addr} {q : Addr × Obj} (hq : q ∈ fullL g h L) : ∀ p, p ∈ q :: fullL g h L ↔ p ∈ fullL g h L := fun p => ⟨fun hp => by
  rcases List.mem_cons.mp hp with rfl | hp
  · exact hq
  · exact hp, List.mem_cons_of_mem _⟩
end
end Mine
end
section
open PySem PySem.W PyProof.Rows PySem.Calls PySem.SeqAt
set_option Elab.async false
set_option linter.unusedVariables false
namespace Mine
section
variable {w : World} {env : Env} {P : Value → Prop} {z : Zn} {Γ : Ctx'} {g : Heap} {mean : ExcName → Option Value} {mg mb : Str → Option Value} {f : Addr} {room : Nat} {vs : List Value} {kw : List (Str × Value)} {s : Shared} {Q E : Value → Shared → Prop}
theorem law_room {room : Nat} (h : room ≤ 20) : (callerA.deeper env).depth + room < recursionLimit ∧ (callerA.deeper env).units + 8 * room < cLine := by
  have h1 : (callerA.deeper env).depth + 20 < recursionLimit := (by decide : callerA.depth + 1 + 20 < recursionLimit)
  have h2 : (callerA.deeper env).units + 8 * 20 < cLine := (by decide : callerA.units + 3 + 8 * 20 < cLine)
  lia
theorem STA.call0 (CA : CallAt callerA w mean mg mb g g [] env z) (H : STA z env Γ s.heap) (hsp : Sp w mean mg mb none f room (fullL g s.heap env.locals) vs kw (fun v n => P v ∧ n = fullL g s.heap env.locals) (fun _ _ => False)) (hr : room ≤ 20)
    (hq : ∀ v h' tk, P v → STA z env Γ h' → (∀ b o, b ≠ env.locals → s.heap.get? b = some o → h'.get? b = some o) → Q v { s with heap := h', toks := tk }) :
    wpAny (model PySem.Challenge.rw_qh0045_01.row.prog w) (callerA.deeper env) (call (.ref f) vs kw) Q E s :=
  STA.callSp (dp := (callerA.deeper env).depth) (un := (callerA.deeper env).units) (gd := (callerA.deeper env).guards) CA H hsp (fun q => Iff.rfl) (fun v n h q hq => h.2 ▸ hq) (law_room hr).1 (law_room hr).2 fun v n h' tk h H' _ hk => hq v h' tk h.1 H' hk
theorem STA.call1 {q : Addr × Obj} (CA : CallAt callerA w mean mg mb g g [] env z) (H : STA z env Γ s.heap) (hqm : q ∈ fullL g s.heap env.locals) (hsp : Sp w mean mg mb none f room (q :: fullL g s.heap env.locals) vs kw (fun v n => P v ∧ n = q :: fullL g s.heap env.locals) (fun _ _ => False)) (hr : room ≤ 20)
    (hq : ∀ v h' tk, P v → STA z env Γ h' → (∀ b o, b ≠ env.locals → s.heap.get? b = some o → h'.get? b = some o) → Q v { s with heap := h', toks := tk }) :
    wpAny (model PySem.Challenge.rw_qh0045_01.row.prog w) (callerA.deeper env) (call (.ref f) vs kw) Q E s :=
  STA.callSp (dp := (callerA.deeper env).depth) (un := (callerA.deeper env).units) (gd := (callerA.deeper env).guards) CA H hsp (cons_full hqm) (fun v n h q hq => h.2 ▸ hq) (law_room hr).1 (law_room hr).2 fun v n h' tk h H' _ hk => hq v h' tk h.1 H' hk
end
end Mine
end
section
open PySem PySem.W PyProof.Rows PySem.Calls PySem.SeqAt
set_option Elab.async false
set_option linter.unusedVariables false
namespace Mine
section
variable {prog : Program} {w : World} {A : Around} {env env' : Env} {K K' : Heap} {e e₁ e₂ e₃ l r o value : Expr} {P P' P₁ P₂ : VP} {z : Zn} {Γ Γ' : Ctx'} {h h' : Heap} {m : Str → Option Value} {x y : Str} {pos p px sp apos : Pos} {s : Shared} {Q : Value → Shared → Prop} {E : Value → Shared → Prop}
theorem SEV_of (h1 : ∀ h, STA z env Γ h → EVH prog w A env' (z.S env) h e P) : SEV prog w A env z Γ env' e P := fun s Q E H hq => h1 _ H s Q E Ext.rfl' fun v h' tk k hp => hq v h' tk (H.ext k) hp
/-- e.encode('ascii') -/
theorem encode_wp {kp : Pos} {kk} (h1 : wpAny (model prog w) A (eval o env) (fun v s₁ => (∃ t, v = .str y t) ∧ ∀ t' tk, Q (.bytes (encA y) t') { s₁ with toks := tk }) E s) (hy : ∀ c ∈ y.cps.toList, c < 128) (hz : y.length ≤ 100000)
    (hbase : attributeBase o "encode" env (eval o env) = eval o env := by with_unfolding_all rfl) (hline : (apos.endLine == pos.line) = true := by rfl) :
    wpAny (model prog w) A (eval (.Call (.Attribute o "encode" apos) [.Constant (.str (Str.ofString "ascii")) kk kp] [] pos) env) Q E s := by
  refine Call_method1 hbase rfl hline (wpAny_mono h1 (fun v s₁ h => ?_) fun _ _ x => x)
  obtain ⟨⟨t, rfl⟩, hq⟩ := h
  refine ⟨"str", "str.encode", F.plainAttrs_str, F.slot_str_encode, F.type_str_encode, typeIs_str _ _ _, (fun _ e => nomatch e), ?_⟩
  refine PySem.Calls.callWith_builtin rfl (evalArgs_plain (spliced_cons (wpAny_Constant_str (spliced_nil ?_))))
  exact call_encode hy (by rw [sizeLine_eq]; lia) fun t' k => hq t' k
theorem EV_encode {kp : Pos} {kk} (h1 : EV prog w A env K o (IsS y)) (hy : ∀ c ∈ y.cps.toList, c < 128) (hz : y.length ≤ 100000)
    (hbase : attributeBase o "encode" env (eval o env) = eval o env := by with_unfolding_all rfl) (hline : (apos.endLine == pos.line) = true := by rfl) :
    EV prog w A env K (.Call (.Attribute o "encode" apos) [.Constant (.str (Str.ofString "ascii")) kk kp] [] pos) (IsB (encA y)) := fun s Q E k hq =>
  encode_wp (h1 s _ E k fun v h' tk k₁ hp => ⟨hp, fun t' tk' => hq _ h' tk' k₁ ⟨_, rfl⟩⟩) hy hz hbase hline
theorem SEV_encode {kp : Pos} {kk} (h1 : SEV prog w A env z Γ env' o (IsS y)) (hy : ∀ c ∈ y.cps.toList, c < 128) (hz : y.length ≤ 100000)
    (hbase : attributeBase o "encode" env' (eval o env') = eval o env' := by with_unfolding_all rfl) (hline : (apos.endLine == pos.line) = true := by rfl) :
    SEV prog w A env z Γ env' (.Call (.Attribute o "encode" apos) [.Constant (.str (Str.ofString "ascii")) kk kp] [] pos) (IsB (encA y)) := fun s Q E H hq =>
  encode_wp (h1 s _ E H fun v h' tk H' hp => ⟨hp, fun t' tk' => hq _ h' tk' H' ⟨_, rfl⟩⟩) hy hz hbase hline
/-- isinstance(e, bytes) of bytes -/
theorem TS_isB {b : Array UInt8} (hf : EV prog w A env K (.Name "isinstance" p) (IsV (.builtin "isinstance"))) (h1 : EV prog w A env K e₁ (IsB b)) (h2 : EV prog w A env K e₂ (IsV (.type "bytes")))
    (hs : starEach [e₁, e₂] env = [(false, eval e₁ env), (false, eval e₂ env)] := by rfl) (he : ∀ whole : Sem Value, isTrue (.Call (.Name "isinstance" p) [e₁, e₂] [] pos) env whole = (do let v ← whole; standAt (Expr.Call (.Name "isinstance" p) [e₁, e₂] [] pos).pos; holding [v] (truthy v)) := by intro _; rfl) :
    TS prog w A env K (.Call (.Name "isinstance" p) [e₁, e₂] [] pos) true := fun s Q E k hq => by
  refine wpAny_isTrue_value (Call_Name (trees := [(false, eval e₁ env), (false, eval e₂ env)]) (by rw [hs]; rfl) (hf s _ E k fun v h' tk k₁ p₁ => ?_)) (he _)
  cases p₁
  refine PySem.Calls.callWith_builtin rfl (evalArgs_plain (spliced_cons (h1 _ _ E (k.trans k₁) fun v₂ h'' tk' k₂ p₂ => spliced_cons (h2 _ _ E ((k.trans k₁).trans k₂) fun v₃ h3 tk3 k₃ p₃ => spliced_nil ?_))))
  obtain ⟨t, rfl⟩ := p₂
  cases p₃
  exact call_isinstance_yes (Tx := "bytes") (typeIs_bytes _ _ _) (by kernel_rfl) (by rw [isSubtype_type]; kernel_rfl) (wpAny_truthy_bool (hq h3 tk3 ((k₁.trans k₂).trans k₃)))
theorem EV_addS {a b : Str} (h1 : EV prog w A env K l (IsS a)) (h2 : EV prog w A env K r (IsS b)) (hz : a.length + b.length ≤ 100000) : EV prog w A env K (.BinOp l .Add r pos) (IsS (a ++ b)) := fun s Q E k hq =>
  wpAny_BinOp (h1 s _ E k fun v₁ h' tk k₁ p₁ => h2 _ _ E (k.trans k₁) fun v₂ h'' tk' k₂ p₂ => by
    obtain ⟨t, rfl⟩ := p₁
    obtain ⟨u, rfl⟩ := p₂
    exact PyProof.Rows.add_str (fun t' tk => hq _ _ _ (k₁.trans k₂) ⟨_, rfl⟩) (by rw [sizeLine_eq]; lia))
/-- e[n:] of a text -/
theorem EV_fromS {lo : Expr} {a : Str} {n : Int} (h1 : EV prog w A env K value (IsS a)) (h2 : EV prog w A env K lo (IsI n)) (hz : a.length ≤ 100000)
    (hs : ∀ t b, subscripted (.Slice (some lo) none none sp) false (.str a t) (.ref b) = operate [.ref b, .str a t] (getItem (.str a t) (.ref b)) := by intro _ _; with_unfolding_all rfl)
    (ht : ∀ t r, letTemporaryGo value (.str a t) r = pure () := by intro _ _; with_unfolding_all rfl) : EV prog w A env K (.Subscript value (.Slice (some lo) none none sp) pos) (IsS (Txt.slice a (some n) none)) := fun s Q E k hq => by
  refine Subscript_ (h1 s _ E k fun v₁ h' tk k₁ p₁ => ?_)
  refine wpAny_Slice (evalPart_some_step (h2 _ _ E (k.trans k₁) fun v₂ h'' tk' k₂ p₂ => evalPart_none_step (evalPart_none_step ?_)))
  obtain ⟨t, rfl⟩ := p₁
  obtain ⟨u, rfl⟩ := p₂
  refine tail_of_ItemOn (SBH.sliceItem_sn (s := { s with heap := h'', toks := tk' }) (P := fun hh => Ext h'' hh) (fun _ _ a b o e => Heap.get?_push_of_some _ (a b o e)) Ext.rfl' (fun h3 t' tk3 k3 => ?_) (by rw [sizeLine_eq]; lia)) (hs t _) (ht t)
  exact hq _ _ _ ((k₁.trans k₂).trans k3) ⟨_, rfl⟩
theorem EV_lenS {a : Str} (hf : EV prog w A env K (.Name "len" p) (IsV (.builtin "len"))) (h : EV prog w A env K e (IsS a)) (hz : a.length ≤ 100000)
    (hs : starEach [e] env = [(false, eval e env)] := by rfl) : EV prog w A env K (.Call (.Name "len" p) [e] [] pos) (IsI (a.length : Int)) := fun s Q E k hq => by
  refine Call_Name1 (hf s _ E k fun v₁ h' tk k₁ p₁ => ?_) hs
  cases p₁
  refine callWith_builtin1 (h _ _ E (k.trans k₁) fun v₂ h'' tk' k₂ p₂ => ?_)
  obtain ⟨t, rfl⟩ := p₂
  refine PyProof.Rows.len_str (by lia) ?_
  exact hq _ _ _ (k₁.trans k₂) ⟨_, rfl⟩
theorem It.bytes {I : Addr} {K : Heap} {b : Array UInt8} {t : Tok} (hh : A.handled = none) :
    It prog w A I K b.size (fun i v => ∃ c u, b[i]? = some c ∧ v = .int (c.toNat : Int) u) (fun i o => o.cls = .type "bytes_iterator" ∧ o.data = .fields #[.bytes b t, .int i 0]) where
  item := fun i s Q E o hi k e ⟨h1, h2⟩ hQ => by
    refine KBw.next_item (i := i) (c := b[i]) ⟨o, e, h1, h2⟩ (by simp [hi]) fun h' hit' hs' => ?_
    obtain ⟨o', e', h1', h2'⟩ := hit'
    exact hQ _ h' _ o' ⟨_, _, by simp [hi], rfl⟩ hs' e' ⟨h1', h2'⟩
  done := fun s Q E o k e ⟨h1, h2⟩ hQ => KBw.next_end hh (i := b.size) ⟨o, e, h1, h2⟩ (by simp) hQ
  self := fun i s Q E o e ⟨h1, h2⟩ hQ => KBw.pyIter_self (i := i) ⟨o, e, h1, h2⟩ hQ
  own := fun i s Q E o elts x1 pos T e ⟨h1, h2⟩ hQ => by
    unfold letOwnedTupleGo
    refine wpAny_bind (wpAny_load e ?_)
    rw [h1, h2]
    show wpAny _ A (if (["enumerate", "zip", "dict_itemiterator", "dict_reverseitemiterator", "odict_iterator", "itertools.zip_longest", "itertools.pairwise"].contains "bytes_iterator" && _) = true then _ else _) Q E s
    rw [if_neg (by
      intro h
      rw [show (["enumerate", "zip", "dict_itemiterator", "dict_reverseitemiterator", "odict_iterator", "itertools.zip_longest", "itertools.pairwise"].contains "bytes_iterator") = false from by decide, Bool.false_and] at h
      cases h)]
    exact wpAny_pure hQ
theorem EVF_compB {β : Type} {elt target iter : Expr} {ifs : List Expr} {scope : Scope} {cl : List (Str × Addr)} {q : Int → Bool} {f : Int → β} {G : β → Value → Prop} {b : Array UInt8} {Bd : Int → (Str → Option Value) → Prop} (hh : A.handled = none) (hsrc : EV prog w A env K iter (IsB b)) (hz : b.size ≤ 100000) (hclos : closureFor scope env = pure cl)
    (ok : ∀ K', Ext K K' → CompOk prog w A env scope cl target ifs elt K' (KBw.bInts b) (fun (n : Int) v => ∃ t, v = .int n t) q f G Bd)
    (hcell : ∀ y ∈ scope.names, y.2 ≠ .cell := by decide) (hkind : scope.kind = .function := by rfl) (hnames : ∀ y ∈ scope.names, y.2 = .local → scope.names.lookup y.1 = some .local := by decide)
    (hs : ∀ x, foldedSetIterable iter env x = pure x := by intro _; rfl) : EVF prog w A env K (.ListComp elt [⟨target, iter, ifs, 0⟩] scope pos) (LS G (((KBw.bInts b).filter q).map f)) := fun s Q E k hq => by
  rw [eval_ListComp]
  refine wpAny_comprehension_free (use := none) rfl hs hclos hkind hnames (hsrc s _ E k fun v h₁ tk₁ k₁ hS => ?_)
  obtain ⟨t, rfl⟩ := hS
  refine KBw.pyIter_bytes ?_
  refine comp_src (s₁ := { s with heap := h₁, toks := tk₁ }) (Rel := fun (n : Int) v => ∃ t, v = .int n t) (RR := fun acc C => compPost (model prog w) A E none Q acc C) (o₀ := { cls := .type "bytes_iterator", data := .fields #[.bytes b t, .int (0 : Nat) 0] }) (It.bytes hh) ⟨rfl, rfl⟩ (by rw [sizeLine_eq]; lia) (KBw.ints_length b) ?_ rfl (ok h₁ (k.trans k₁)) hcell hkind ?_
  · rintro i v hi ⟨c, u, hc, rfl⟩
    exact ⟨_, KBw.ints_get hc, _, rfl⟩
  intro D C h' tk m' ys hD hC hDC hn hl hp hk
  refine ⟨m', hn, fun h'' hs'' => hq (.ref D) h'' tk (fun b o e => hs''.extBut b o (by rintro rfl; rw [k₁ _ _ e] at hC; cases hC) (hk b o (k₁ b o e))) fun S hS => ?_⟩
  exact ⟨D, ys, rfl, fresh_hide (h := h₁) (fun b hb => by obtain ⟨o, ho⟩ := hS b hb; exact ⟨o, k₁ _ _ ho⟩) hD (hl.extBut hs''.extBut hDC), hp⟩
end
end Mine
end
section
open PySem PySem.W PyProof.Rows PySem.Calls PySem.SeqAt
set_option Elab.async false
set_option linter.unusedVariables false
namespace Mine
section
variable {prog : Program} {w : World} {A : Around} {env env' : Env} {K K' : Heap} {e e₁ e₂ e₃ l r o value : Expr} {P P' P₁ P₂ : VP} {z : Zn} {Γ Γ' : Ctx'} {g h h' : Heap} {m : Str → Option Value} {x y : Str} {pos p px sp apos : Pos}
theorem paired_strs : ∀ {ys : List Str} {vs : List Value}, Paired strR ys vs → StrsAre vs ys
  | _, _, .nil => .nil
  | _, _, .cons h t => by obtain ⟨u, rfl⟩ := h; exact .cons _ _ (paired_strs t)
theorem bs_paired : ∀ {vs : List Value} {bs : List (Array UInt8)}, BsAre vs bs → Paired bytesR bs vs
  | [], [], _ => .nil
  | v :: vs, b :: bs, h => .cons h.1 (bs_paired h.2)
  | [], _ :: _, h => h.elim
  | _ :: _, [], h => h.elim
/-- the reply's opening -/
theorem EV_opened {pre q1 q2 R : Str} {ys : List Str} {lc : Expr} {k1 k2 k3 k4} {p1 p2 p3 p4 a1 a2 c1 c2 : Pos} (hlc : EV prog w A env K lc (LS strR ys)) (hw : (ys.map (·.length)).sum + ys.length ≤ 10000) (hW : (Txt.join (Str.ofString "") ys).length ≤ 10000) (h12 : (q1 == q2) = false) (h2 : q2.length ≤ 14)
    (hR : Txt.replace (Txt.join (Str.ofString "") ys) q1 q2 = R) (hz : pre.length + R.length ≤ 100000)
    (hb1 : attributeBase (.Constant (.str (Str.ofString "")) k2 p2) "join" env (eval (.Constant (.str (Str.ofString "")) k2 p2) env) = eval (.Constant (.str (Str.ofString "")) k2 p2) env := by with_unfolding_all rfl)
    (hb2 : attributeBase (.Call (.Attribute (.Constant (.str (Str.ofString "")) k2 p2) "join" a1) [lc] [] c1) "replace" env (eval (.Call (.Attribute (.Constant (.str (Str.ofString "")) k2 p2) "join" a1) [lc] [] c1) env) = eval (.Call (.Attribute (.Constant (.str (Str.ofString "")) k2 p2) "join" a1) [lc] [] c1) env := by with_unfolding_all rfl)
    (hl1 : (a1.endLine == c1.line) = true := by rfl) (hl2 : (a2.endLine == c2.line) = true := by rfl) (hs1 : starEach [lc] env = [(false, eval lc env)] := by rfl) :
    EV prog w A env K (.BinOp (.Constant (.str pre) k1 p1) .Add (.Call (.Attribute (.Call (.Attribute (.Constant (.str (Str.ofString "")) k2 p2) "join" a1) [lc] [] c1) "replace" a2) [.Constant (.str q1) k3 p3, .Constant (.str q2) k4 p4] [] c2) pos) (IsS (pre ++ R)) := fun s Q E k hq => by
  refine wpAny_BinOp (wpAny_Constant_str ?_)
  refine Call_method2 hb2 rfl hl2 (wpAny_with_toks (n := 1) (Nat.le_add_left 1 s.toks) ?_)
  refine Call_method1 hb1 hs1 hl1 (wpAny_Constant_str ?_)
  refine ⟨"str", "str.join", F.plainAttrs_str, F.slot_str_join, F.type_str_join, typeIs_str _ _ _, (fun _ e => nomatch e), ?_⟩
  refine PySem.Calls.callWith_builtin rfl (evalArgs_plain (spliced_cons (hlc _ _ _ k fun v h' tk k₁ hp => spliced_nil ?_)))
  obtain ⟨D, its, rfl, hl, hpr⟩ := hp
  refine join_listW hl (paired_strs hpr) (by decide) (by lia) fun t' tk' => ?_
  intro htk
  dsimp only at htk ⊢
  refine ⟨"str", "str.replace", F.plainAttrs_str, F.slot_str_replace, F.type_str_replace, typeIs_str _ _ _, (fun _ e => nomatch e), ?_⟩
  refine PySem.Calls.callWith_builtin rfl (evalArgs_plain (spliced_cons (wpAny_Constant_str (spliced_cons (wpAny_Constant_str (spliced_nil ?_))))))
  refine SC.replaceW (by show (tk' : Nat) ≠ 0; lia) (by show (tk' + 1 : Nat) ≠ 0; lia) (by show (tk' : Nat) ≠ tk' + 1; lia) h12 (by lia) h2 fun t'' tk'' => ?_
  rw [hR]
  exact PyProof.Rows.add_str (fun t3 tk3 => hq _ h' tk3 k₁ ⟨_, rfl⟩) (by rw [sizeLine_eq]; lia)
theorem call3_def {f : Addr} {s : Shared} {Q : Value → Shared → Prop} {E : Value → Shared → Prop} (hF : FN s.heap env x f) (hk : env.scope.kind = .function) (hx : env.kindOf x = some .globalImplicit)
    (h1 : wpAny (model prog w) A (eval e₁ env) (fun v s' => wpAny (model prog w) A (eval e₂ env) (fun v₂ s'' => wpAny (model prog w) A (eval e₃ env) (fun v₃ s3 => Ext s.heap s3.heap ∧ wpAny (model prog w) A (call (.ref f) [v, v₂, v₃]) Q E s3) E s'') E s') E s)
    (hs : starEach [e₁, e₂, e₃] env = [(false, eval e₁ env), (false, eval e₂ env), (false, eval e₃ env)] := by rfl) (hd : (x == ("__debug__" : Str)) = false := by decide) :
    wpAny (model prog w) A (eval (.Call (.Name x px) [e₁, e₂, e₃] [] pos) env) Q E s := by
  obtain ⟨⟨mg, hn, hm⟩, o, fd, ho, hdt⟩ := hF
  refine Call_Name (trees := [(false, eval e₁ env), (false, eval e₂ env), (false, eval e₃ env)]) (by rw [hs]; rfl) (Name_function_global hk hx (loadGlobal_global hn hm ?_) hd)
  refine callWith_function (o := o) (fd := fd) (evalArgs_plain (spliced_cons (wpAny_mono h1 (fun v s' h => spliced_cons (wpAny_mono h (fun v₂ s'' h2 => spliced_cons (wpAny_mono h2 (fun v₃ s3 h3 => spliced_nil ?_) fun _ _ x => x)) fun _ _ x => x)) fun _ _ x => x)))
  exact ⟨⟨h3.1 _ _ ho, hdt⟩, h3.2⟩
/-- two locals out of a pair -/
theorem bind_pair2 {α : Type} {PA PB : α → Value → Prop} {a b : Str} {k} {pa pb tp : Pos} (g : Heap) (hok : EndOk A g) (ha : env.kindOf a = some .local) (hb : env.kindOf b = some .local) (hp : (env.scope.kind == .class || (env.scope.kind == .module && env.locals != env.globals)) = false)
    (h1 : (assignEach [.Name a pa, .Name b pb] env) = [(false, assign (.Name a pa) env), (false, assign (.Name b pb) env)] := by rfl) :
    ∀ (y : α) v (z' : Zn) (Γ : Ctx') (s : Shared) (Q : Unit → Shared → Prop) (E : Value → Shared → Prop), STA z' env Γ s.heap → Ext g z'.g → PairR PA PB z'.g y v → (∀ h' tk, STA z' env ([(b, Fact.loc fun _ v => PB y v), (a, Fact.loc fun _ v => PA y v)] ++ Γ) h' → Q () { s with heap := h', toks := tk }) → wpAny (model prog w) A (assign (.Tuple [.Name a pa, .Name b pb] k tp) env v) Q E s := by
  intro y v z' Γ s Q E H kg hR hq
  obtain ⟨T, va, vb, rfl, ⟨o, ho, r⟩, hA, hB⟩ := hR
  refine unpack_any (hok.ext (kg.trans H.base)) (items := #[va, vb]) ⟨o, H.base _ _ ho, r⟩ (by rw [h1]; rfl) (by rw [h1]; rfl) fun h₁ k₁ => ?_
  rw [h1]
  show wpAny _ A (assignInOrder [assign (.Name a pa) env, assign (.Name b pb) env] [va, vb]) _ _ _
  have H1 := H.ext k₁
  unfold assignInOrder
  refine wpAny_bind (wpAny_holding (bind_loc (Rel := fun _ y v => PA y v) (fun _ _ _ _ _ r => r) z'.g ha hp y va z' Γ _ _ _ H1 Ext.rfl' hA fun h₂ tk₂ H2 => ?_))
  unfold assignInOrder
  refine wpAny_bind (wpAny_holding (bind_loc (Rel := fun _ y v => PB y v) (fun _ _ _ _ _ r => r) z'.g hb hp y vb z' _ _ _ _ H2 Ext.rfl' hB fun h₃ tk₃ H3 => ?_))
  unfold assignInOrder
  exact wpAny_pure (hq _ _ H3)
/-- x.append(e), e calling -/
theorem st_append_cev {hs0 : Heap} {gs0 : Array GenState} {ds0 : Drawn} {ts0 : Nat} {os0 : OsState} {rest : List Stmt} {Q : Flow → Shared → Prop} {E : Value → Shared → Prop} {a : Addr} {R R' : Heap → List Value → Prop} {PP : VP} {apos np cp : Pos} (H : STA z env Γ hs0) (hf : Γ.lookup x = some (.own a R)) (hoth : ∀ p ∈ Γ, p.1 ≠ x → p.2.notOwn = true)
    (he : ∀ (Q' : Value → Shared → Prop) (E' : Value → Shared → Prop), (∀ v h1 tk, STA z env Γ h1 → (∀ b o, b ≠ env.locals → hs0.get? b = some o → h1.get? b = some o) → PP (z.hid env h1) v → Q' v (⟨h1, gs0, ds0, tk, os0⟩ : Shared)) → wpAny (model prog w) A (eval e env) Q' E' (⟨hs0, gs0, ds0, ts0, os0⟩ : Shared))
    (hm : ∀ h h' l, Ext h h' → R' h l → R' h' l)
    (hR : ∀ h1 v l, R (z.hid env hs0) l → Ext (z.hid env hs0) (z.hid env h1) → PP (z.hid env h1) v → R' (z.hid env h1) (l ++ [v]) ∧ l.length ≤ 1000000)
    (hq : ∀ h' tk, STA z env ((x, .own a R') :: Γ) h' → wpAny (model prog w) A (execs rest env) Q E (⟨h', gs0, ds0, tk, os0⟩ : Shared))
    (hk : env.scope.kind = .function := by rfl) (hd : (x == ("__debug__" : Str)) = false := by decide)
    (hi : interactive env = false := by rfl) (hs : swapsWith (.Call (.Attribute (.Name x np) "append" apos) [e] [] cp) none pos.line env = pure false := by rfl)
    (hbase : attributeBase (.Name x np) "append" env (eval (.Name x np) env) = eval (.Name x np) env := by with_unfolding_all rfl)
    (hfew : ((backTo cp (starEach [e] env)).all (fun x => !x.1) && (backToKw cp (keywordEach [] env)).all (fun x => x.1.isSome)
      && decide (([e] : List Expr).length + ([] : List Keyword).length + (if ([] : List Keyword).isEmpty then 0 else 1) < 30)) = true := by with_unfolding_all rfl)
    (hline : (apos.endLine == cp.line) = true := by rfl)
    (htrees : backTo cp (starEach [e] env) = [(false, eval e env)] := by with_unfolding_all rfl) :
    wpAny (model prog w) A (execs (.Expr (.Call (.Attribute (.Name x np) "append" apos) [e] [] cp) pos :: rest) env) Q E (⟨hs0, gs0, ds0, ts0, os0⟩ : Shared) := by
  refine wpAny_execs_cons (wpAny_Expr ?_ hi hs)
  refine wpAny_Call_append hbase hfew hline htrees ?_
  obtain ⟨m, A', F⟩ := H
  obtain ⟨mo, hx, hv, ha, its, hl, hRR⟩ := F x _ hf
  refine wpAny_Name (wpAny_loadName_local hk hx A'.ns hv ?_) hd
  refine ⟨a, its, rfl, let ⟨n, e⟩ := hl; ⟨_, n, e, rfl, rfl, rfl⟩, ?_⟩
  refine he _ E fun v h₁ tk H1 hkp hP => ?_
  obtain ⟨m₁, A₁, F₁⟩ := H1
  have haL : a ≠ env.locals := ns_list_ne A'.ns hl
  have hl₁ : h₁.PlainList a its := hl.at fun o e => hkp a o haL e
  have kh : Ext (z.hid env hs0) (z.hid env h₁) := ext_hide fun b o hb e => hkp b o (fun q => hb (q ▸ mem_L)) e
  obtain ⟨hR', hlen⟩ := hR h₁ v its.toList hRR kh hP
  refine wpAny_list_append_plain (hsz := by rw [sizeLine_eq]; simp at hlen; lia) hl₁ fun h₂ hl₂ hs₂ => ?_
  refine hq h₂ _ (STA.app A₁ F₁ hf hoth hl₂ hs₂ hm (hm _ _ _ (ext_hide fun b o hb e => hs₂.extBut b o (fun q => hb (q ▸ mem_o ha)) e) ?_))
  rw [Array.toList_push]
  exact hR'
theorem fresh_of {L a : Addr} (h1 : a ≠ L) (h2 : g.get? a = none) (h3 : ∀ q ∈ fullL g h L, q.1 ≠ a) : h.get? a = none := by
  cases e : h.get? a with
  | none => rfl
  | some o => exact absurd rfl (h3 (a, o) (mem_fullL.mpr ⟨h1, h2, e⟩))
theorem STA.notS (H : STA z env Γ h) {a : Addr} (hn : h.get? a = none) : a ∉ z.S env := fun q => by obtain ⟨o, ho⟩ := H.dom a q; rw [hn] at ho; cases ho
end
section
variable {w : World} {env : Env} {z : Zn} {Γ : Ctx'} {g : Heap} {mean : ExcName → Option Value} {mg mb : Str → Option Value} {f : Addr} {room : Nat} {news : List (Addr × Obj)} {vs : List Value} {kw : List (Str × Value)} {s : Shared} {Q E : Value → Shared → Prop}
/-- a call that gives a new list of bytes -/
theorem STA.callT {bs : List (Array UInt8)} (CA : CallAt callerA w mean mg mb g g [] env z) (H : STA z env Γ s.heap)
    (hsp : SpT w mean mg mb none f room news vs kw (fun v n => ∃ a ep vs, v = .ref a ∧ (∀ q ∈ news, q.1 < a) ∧ n = (a, listOf vs.toArray ep) :: news ∧ BsAre vs bs) (fun _ _ => False)) (hnews : ∀ q, q ∈ news ↔ q ∈ fullL g s.heap env.locals) (hr : room ≤ 20)
    (hq : ∀ a its n h' tk, s.heap.get? a = none → h'.get? a = some (listOf its n) → Paired bytesR bs its.toList → STA z env Γ h' → (∀ b o, b ≠ env.locals → s.heap.get? b = some o → h'.get? b = some o) → Q (.ref a) { s with heap := h', toks := tk }) :
    wpAny (model PySem.Challenge.rw_qh0045_01.row.prog w) (callerA.deeper env) (call (.ref f) vs kw) Q E s :=
  STA.callSpT (dp := (callerA.deeper env).depth) (un := (callerA.deeper env).units) (gd := (callerA.deeper env).guards) CA H hsp CA.inK CA.top hnews (fun v n ⟨a, ep, vs, _, _, hn, _⟩ q hq => by rw [hn]; exact List.mem_cons_of_mem _ hq) (law_room hr).1 (law_room hr).2
    fun v n h' tk ⟨a, ep, vs, hv, hlt, hn, hb⟩ H' N hk => by
      subst hv hn
      have h1 := N _ List.mem_cons_self
      refine hq a vs.toArray ep h' tk (fresh_of h1.2.1 h1.2.2 fun q hq => Nat.ne_of_lt (hlt q ((hnews q).mpr hq))) h1.1 (by simpa using bs_paired hb) H' hk
theorem STA.callG {Pre : Heap → Prop} {Ret : Heap → Value → List (Addr × Obj) → Prop} {hdl : Option Value} {A : Around} (hA : A = topM hdl (callerA.deeper env).depth (callerA.deeper env).units (callerA.deeper env).guards env []) (CA : CallAt callerA w mean mg mb g g [] env z) (H : STA z env Γ s.heap)
    (hsp : SpG w mean mg mb hdl f room news vs kw Pre Ret) (hpre : Pre g) (hnews : ∀ q, q ∈ news ↔ q ∈ fullL g s.heap env.locals) (hret : ∀ h v n, Ret h v n → ∀ q ∈ news, q ∈ n) (hr : room ≤ 20)
    (hq : ∀ v n h' tk, Ret h' v n → STA z env Γ h' → News g env.locals h' n → (∀ b o, b ≠ env.locals → s.heap.get? b = some o → h'.get? b = some o) → Q v { s with heap := h', toks := tk }) :
    wpAny (model PySem.Challenge.rw_qh0045_01.row.prog w) A (call (.ref f) vs kw) Q E s := by
  subst hA
  exact STA.callSpG CA H hsp hpre hnews hret (law_room hr).1 (law_room hr).2 hq
end
/-- a list of bytes, as it was made, new to K -/
noncomputable def CH (K : Heap) (bs : List (Array UInt8)) : VP := fun h v => ∃ a its n, v = .ref a ∧ K.get? a = none ∧ h.get? a = some (listOf its n) ∧ Paired bytesR bs its.toList
theorem mono_CH (K : Heap) (bs : List (Array UInt8)) : Mono (CH K bs) := fun _ _ _ k ⟨a, its, n, e, h0, h1, h2⟩ => ⟨a, its, n, e, h0, k _ _ h1, h2⟩
/-- chains, each a list of its own, new to K -/
noncomputable def CHS (K : Heap) (bss : List (List (Array UInt8))) (h : Heap) (l : List Value) : Prop := ∃ cs : List Ch, cs.map (·.2) = bss ∧ (cs.map (·.1)).Nodup ∧ Paired refR cs l ∧ ∀ c ∈ cs, K.get? c.1 = none ∧ ∃ its n, h.get? c.1 = some (listOf its n) ∧ Paired bytesR c.2 its.toList
theorem mono_CHS (K : Heap) (bss : List (List (Array UInt8))) : ∀ h h' l, Ext h h' → CHS K bss h l → CHS K bss h' l := fun _ _ _ k ⟨cs, h1, h2, h3, h4⟩ => ⟨cs, h1, h2, h3, fun c hc => let ⟨h0, its, n, a, b⟩ := h4 c hc; ⟨h0, its, n, k _ _ a, b⟩⟩
theorem CHS.snoc {K : Heap} {bss : List (List (Array UInt8))} {bs : List (Array UInt8)} {h h' : Heap} {l : List Value} {a : Addr} {its : Array Value} {n : Nat} (H : CHS K bss h l) (k : Ext h h') (hn : h.get? a = none) (hK : K.get? a = none) (ha : h'.get? a = some (listOf its n)) (hp : Paired bytesR bs its.toList) : CHS K (bss ++ [bs]) h' (l ++ [.ref a]) := by
  obtain ⟨cs, h1, h2, h3, h4⟩ := H
  refine ⟨cs ++ [(a, bs)], by rw [List.map_append, h1]; rfl, ?_, Paired.snoc h3 rfl, fun c hc => ?_⟩
  · rw [List.map_append, List.nodup_append]
    refine ⟨h2, by simp, fun b hb c hc q => ?_⟩
    obtain ⟨d, hd, rfl⟩ := List.mem_map.mp hb
    have hc' : c = a := by simpa using hc
    obtain ⟨_, its', n', e, _⟩ := h4 d hd
    have q' : d.1 = a := q.trans hc'
    rw [q', hn] at e
    cases e
  · rcases List.mem_append.mp hc with hc | hc
    · obtain ⟨h0, its', n', e, e'⟩ := h4 c hc
      exact ⟨h0, its', n', k _ _ e, e'⟩
    · rw [List.mem_singleton.mp hc]
      exact ⟨hK, its, n, ha, hp⟩
theorem CHS.len {K : Heap} {bss : List (List (Array UInt8))} {h : Heap} {l : List Value} (H : CHS K bss h l) : l.length = bss.length := by
  obtain ⟨cs, h1, h2, h3, h4⟩ := H
  have := h3.length
  rw [← h1, List.length_map, this]
theorem EVF_nilP {prog : Program} {w : World} {A : Around} {env : Env} {K : Heap} {pos : Pos} : EVF prog w A env K (.List [] pos) (CH K []) := fun s Q E k hq => by
  rw [arm_eval_List]
  refine wpAny_bind (wpAny_standAt (wpAny_bind (spliced_nil ?_)))
  refine wpAny_newObj_type (hq _ _ _ (fun b o e => Heap.get?_push_of_some _ e) fun S hS => ⟨_, #[], _, rfl, ?_, hideAll_get _ (Heap.get?_push_size _ rfl) fun q => ?_, by simpa using Paired.nil⟩)
  · cases e : K.get? s.heap.objs.size with
    | none => rfl
    | some o => exact absurd (Heap.lt_size (k _ _ e)) (Nat.lt_irrefl _)
  · obtain ⟨o, ho⟩ := hS _ q
    exact absurd (Heap.lt_size ho) (Nat.lt_irrefl _)
end Mine
end
section
open PySem PySem.W PyProof.Rows PySem.Calls PySem.SeqAt
set_option Elab.async false
set_option linter.unusedVariables false
namespace Mine
section
variable {prog : Program} {w : World} {A : Around} {env env' : Env} {K K' : Heap} {e e₁ e₂ e₃ l r o value : Expr} {P P' P₁ P₂ : VP} {z : Zn} {Γ Γ' : Ctx'} {g h h' : Heap} {m : Str → Option Value} {x y : Str} {pos p px sp apos : Pos}
theorem EV_chr {i : Int} (hf : EV prog w A env K (.Name "chr" p) (IsV (.builtin "chr"))) (h : EV prog w A env K e (IsI i)) (h0 : 0 ≤ i) (h1 : i ≤ 1114111)
    (hs : starEach [e] env = [(false, eval e env)] := by rfl) : EV prog w A env K (.Call (.Name "chr" p) [e] [] pos) (IsS ⟨#[i.toNat]⟩) := fun s Q E k hq => by
  refine Call_Name1 (hf s _ E k fun v₁ h' tk k₁ p₁ => ?_) hs
  cases p₁
  refine callWith_builtin1 (h _ _ E (k.trans k₁) fun v₂ h'' tk' k₂ p₂ => ?_)
  obtain ⟨t, rfl⟩ := p₂
  exact chr_of_range h0 h1 (hq _ _ _ (k₁.trans k₂) ⟨_, rfl⟩)
theorem STS_eq {a b : Bool} (he : a = b) (H : STS prog w A env z Γ env' e a) : STS prog w A env z Γ env' e b := he ▸ H
theorem hid_at (H : STA z env Γ h) {a : Addr} {ob : Obj} (hn : h.get? a = none) (ha : h'.get? a = some ob) : (z.hid env h').get? a = some ob := hideAll_get _ ha (H.notS hn)
theorem new_at (h : Heap) : h.get? h.objs.size = none := by
  cases e : h.get? h.objs.size with
  | none => rfl
  | some o' => exact absurd (Heap.lt_size e) (Nat.lt_irrefl _)
theorem old_none {h : Heap} {a : Addr} (k : Ext K h) (hn : h.get? a = none) : K.get? a = none := by
  cases e : K.get? a with
  | none => rfl
  | some o => rw [k _ _ e] at hn; cases hn
/-- a range, new -/
noncomputable def IsRgN (K : Heap) (a b c : Int) : VP := fun h v => ∃ r t u z, v = .ref r ∧ K.get? r = none ∧ h.get? r = some (rangeObj a b c t u z)
theorem EV_rangeN1 {b : Int} (hf : EV prog w A env K (.Name "range" p) (IsV (.type "range"))) (h : EV prog w A env K e (IsI b)) (hs : starEach [e] env = [(false, eval e env)] := by rfl) :
    EV prog w A env K (.Call (.Name "range" p) [e] [] pos) (IsRgN K 0 b 1) := fun s Q E k hq => by
  refine Call_Name1 (hf s _ E k fun v₁ h' tk k₁ p₁ => ?_) hs
  cases p₁
  refine callWith_type1 (h _ _ E (k.trans k₁) fun v₂ h'' tk' k₂ p₂ => ?_)
  obtain ⟨t, rfl⟩ := p₂
  exact call_range_1 (hq _ _ _ ((k₁.trans k₂).trans fun b o e => Heap.get?_push_of_some _ e) ⟨_, _, _, _, rfl, old_none ((k.trans k₁).trans k₂) (new_at _), Heap.get?_push_size _ rfl⟩)
theorem EV_rangeN3 {a b c : Int} {e₃ : Expr} (hf : EV prog w A env K (.Name "range" p) (IsV (.type "range"))) (h1 : EV prog w A env K e₁ (IsI a)) (h2 : EV prog w A env K e₂ (IsI b)) (h3 : EV prog w A env K e₃ (IsI c)) (hc : c ≠ 0) (hcb : -1000 ≤ c ∧ c ≤ 1000)
    (hs : starEach [e₁, e₂, e₃] env = [(false, eval e₁ env), (false, eval e₂ env), (false, eval e₃ env)] := by rfl) :
    EV prog w A env K (.Call (.Name "range" p) [e₁, e₂, e₃] [] pos) (IsRgN K a b c) := fun s Q E k hq => by
  refine Call_Name (trees := [(false, eval e₁ env), (false, eval e₂ env), (false, eval e₃ env)]) (by rw [hs]; rfl) (hf s _ E k fun v₁ h' tk k₁ p₁ => ?_)
  cases p₁
  refine PyProof.Rows.callWith_type rfl (evalArgs_plain (spliced_cons ?_))
  refine h1 _ _ E (k.trans k₁) fun v₂ h'' tk' k₂ p₂ => spliced_cons ?_
  refine h2 _ _ E ((k.trans k₁).trans k₂) fun v₃ h3' tk3 k₃ p₃ => spliced_cons ?_
  refine h3 _ _ E (((k.trans k₁).trans k₂).trans k₃) fun v₄ h4' tk4 k₄ p₄ => spliced_nil ?_
  obtain ⟨t, rfl⟩ := p₂
  obtain ⟨u, rfl⟩ := p₃
  obtain ⟨z, rfl⟩ := p₄
  refine call_range_3 hc (hq _ _ _ ((((k₁.trans k₂).trans k₃).trans k₄).trans fun b o e => Heap.get?_push_of_some _ e) ⟨_, _, _, _, rfl, old_none ((((k.trans k₁).trans k₂).trans k₃).trans k₄) (new_at _), Heap.get?_push_size _ rfl⟩) (.inl (PyProof.noPylong_small (by lia)))
end
/-- a contract with less told -/
theorem Sp.imp {w : World} {mean : ExcName → Option Value} {mg mb : Str → Option Value} {hdl : Option Value} {f : Addr} {room : Nat} {news : List (Addr × Obj)} {vs : List Value} {kw : List (Str × Value)} {Ret Ret' : Value → List (Addr × Obj) → Prop} {Exc Exc' : Value → List Value → Prop}
    (H : Sp w mean mg mb hdl f room news vs kw Ret Exc) (hr : ∀ v n, Ret v n → Ret' v n) (he : ∀ c a, Exc c a → Exc' c a) : Sp w mean mg mb hdl f room news vs kw Ret' Exc' :=
  fun dp un gd env outer A₀ base h₀ L m s Q E h1 h2 h3 h4 h5 h6 h7 h8 h9 h10 h11 h12 => H dp un gd env outer A₀ base h₀ L m s Q E h1 h2 h3 h4 h5 h6 h7 h8 h9 h10 (fun v n h tk x => h11 v n h tk (hr v n x)) (fun G e t c a h tk x => h12 G e t c a h tk (he c a x))
/-- what is written of a name -/
noncomputable def wrtF (p : Str) (b : Array UInt8) : Str := wrt b p (b.size / 3)
/-- with its quotation marks doubled -/
noncomputable def quoF (p : Str) (b : Array UInt8) : Str := ⟨((wrtF p b).cps.toList.flatMap fun c => if c = 34 then [34, 34] else [c]).toArray⟩
noncomputable def opF (p : Str) (b : Array UInt8) : Str := Str.ofString "257 \"" ++ quoF p b
noncomputable def clF (p : Str) (b : Array UInt8) : Str := opF p b ++ Str.ofString "\" \""
noncomputable def oddF (p : Str) (b : Array UInt8) : Str := Str.ofString "257-" ++ Txt.slice (clF p b) (some 4) none
noncomputable def upF (p : Str) (b : Array UInt8) : List (Array UInt8) := (chainF (opF p b) p (kSeq 0 1 ((opF p b).length + 1))).2
noncomputable def dnF (p : Str) (b : Array UInt8) : List (Array UInt8) := (chainF (clF p b) p (kSeq ((clF p b).length : Int) (-1) ((clF p b).length + 1))).2
noncomputable def chF (p : Str) (y : Row) : List (Array UInt8) := if y.1 = 0 then upF p y.2 else dnF p y.2
noncomputable def chrF (n : Int) : Str := ⟨#[n.toNat]⟩
theorem chr_sum : ∀ l : List Int, ((l.map chrF).map (·.length)).sum = l.length
  | [] => rfl
  | a :: l => by
    rw [List.map_cons, List.map_cons, List.sum_cons, chr_sum l, List.length_cons]
    show 1 + _ = _
    lia
/-- what the walk asks of a name -/
structure RowOk (p : Str) (b : Array UInt8) : Prop where
  size : b.size = 0 ∨ b.size = 3 ∨ b.size = 6
  rem : (enc (KBw.bInts b)).2.2 = 0
  enc : encOut b (encA p) = encA (wrtF p b)
  esz : (encOut b (encA p)).size ≤ 8
  asc : ∀ c ∈ (wrtF p b).cps.toList, c < 128
  wlen : (wrtF p b).length ≤ 8
  join : Txt.join (Str.ofString "") (((KBw.bInts (encOut b (encA p))).filter fun _ => true).map chrF) = wrtF p b
  repl : Txt.replace (wrtF p b) (Str.ofString "\"") (Str.ofString "\"\"") = quoF p b
  qlen : (quoF p b).length ≤ 16
  olen : (opF p b).length ≤ 100
  clen : (clF p b).length ≤ 100
  xlen : (oddF p b).length ≤ 200
  odd3 : (Txt.slice (oddF p b) none (some 3) != Str.ofString "257") = false
  oddE : parse257S (oddF p b) = Str.ofString ""
  rd : readL (clF p b) p = []
  tkc : TextOk (clF p b) p
  o257 : (opF p b).cps.toList.take 3 = [50, 53, 55]
  c257 : (clF p b).cps.toList.take 3 = [50, 53, 55]
  tup : ∀ k : Int, 0 ≤ k → TextOk (parse257S (takeS (opF p b) k)) p
  tdn : ∀ k : Int, 0 ≤ k → TextOk (parse257S (takeS (clF p b) k)) p
theorem rg_lo (n : Nat) (h : n ≤ 100) : Builtin.Range.small 0 ((n : Int) + 1) 1 = true ∧ Builtin.Range.rangeSize 0 ((n : Int) + 1) 1 = ((n + 1 : Nat) : Int) := by
  have : ∀ n : Fin 101, Builtin.Range.small 0 ((n.val : Int) + 1) 1 = true ∧ Builtin.Range.rangeSize 0 ((n.val : Int) + 1) 1 = ((n.val + 1 : Nat) : Int) := by decide
  exact this ⟨n, by lia⟩
theorem rg_hi (n : Nat) (h : n ≤ 100) : Builtin.Range.small (n : Int) (-1) (-1) = true ∧ Builtin.Range.rangeSize (n : Int) (-1) (-1) = ((n + 1 : Nat) : Int) := by
  have : ∀ n : Fin 101, Builtin.Range.small (n.val : Int) (-1) (-1) = true ∧ Builtin.Range.rangeSize (n.val : Int) (-1) (-1) = ((n.val + 1 : Nat) : Int) := by decide
  exact this ⟨n, by lia⟩
end Mine
end
section
open PySem PySem.W PyProof.Rows PySem.Calls PySem.SeqAt
set_option Elab.async false
set_option linter.unusedVariables false
namespace Mine
section
variable {prog : Program} {w : World} {A : Around} {env : Env} {K K' : Heap} {e e₁ e₂ l r elt iter : Expr} {P P' P₁ P₂ : VP} {z : Zn} {Γ : Ctx'} {g h h' : Heap} {m : Str → Option Value} {x y : Str} {pos p px : Pos}
inductive CnJ {α β : Type} (s : Shared) (h₁ : Heap) (I C D ax : Addr) (xs : List α) (f : α → β) (PO : β → Obj → Prop) (n k : Nat) (s' : Shared) : Prop
  | mk (h' : Heap) (tk i : Nat) (ys : Array Value) (m' : Str → Option Value) (o : Obj) (e : s' = { s with heap := h', toks := tk }) (hI : h'.get? I = some o) (hO : o.cls = .type "list_iterator" ∧ o.data = .fields #[.ref ax, .int (i : Nat) 0]) (hl : h'.PlainList D ys) (hn : h'.Ns C m') (hF : Paired (fun b v => ∃ a o, v = .ref a ∧ a ≠ I ∧ a ≠ C ∧ a ≠ D ∧ h'.get? a = some o ∧ PO b o) ((xs.take i).map f) ys.toList) (hi : i ≤ n) (hk : k = n + 1 - i) (hx : Ext h₁ h')
/-- a comprehension over a list, each item a new thing -/
theorem EV_comp_new {α β : Type} {scope : Scope} {cl : List (Str × Addr)} {xs : List α} {G : α → Value → Prop} {f : α → β} {PO : β → Obj → Prop} (hsrc : EV prog w A env K iter (LS G xs)) (hz : xs.length ≤ 10000) (hok : EndOk A K) (hclos : closureFor scope env = pure cl)
    (hx : scope.names.lookup x = some .local)
    (helt : ∀ C c K', c ∈ xs → Ext K K' → EV prog w A (compEnvC scope cl C env) K' elt (fun h v => ∃ a o, v = .ref a ∧ K'.get? a = none ∧ h.get? a = some o ∧ PO (f c) o))
    (hcell : ∀ y ∈ scope.names, y.2 ≠ .cell := by decide) (hkind : scope.kind = .function := by rfl) (hnames : ∀ y ∈ scope.names, y.2 = .local → scope.names.lookup y.1 = some .local := by decide)
    (hs : ∀ x, foldedSetIterable iter env x = pure x := by intro _; rfl) :
    EV prog w A env K (.ListComp elt [⟨.Name x px, iter, [], 0⟩] scope pos) (fun h v => ∃ D ys, v = .ref D ∧ h.IsList D ys ∧ Paired (fun b v => ∃ a o, v = .ref a ∧ h.get? a = some o ∧ PO b o) (xs.map f) ys.toList) := fun s Q E k hq => by
  rw [eval_ListComp]
  refine wpAny_comprehension_free (use := none) rfl hs hclos hkind hnames (hsrc s _ E k fun v h₁ tk₁ k₁ hS => ?_)
  obtain ⟨ax, items, rfl, hl, hpr⟩ := hS
  have hn : xs.length = items.size := by have := hpr.length; simpa using this
  refine wpAny_pyIter_list hl ?_
  have hI₁ := new_at h₁
  have k₁' : Ext K h₁ := k.trans k₁
  have W := It.list (prog := prog) (w := w) (A := A) (K := h₁) hl hI₁ (hok.ext k₁')
  have hIp := Heap.get?_push_size h₁ (o := { cls := .type "list_iterator", data := .fields #[.ref ax, .int (0 : Nat) 0] }) rfl
  have kp : Ext h₁ (h₁.push { cls := .type "list_iterator", data := .fields #[.ref ax, .int (0 : Nat) 0] }) := fun b o e => Heap.get?_push_of_some _ e
  generalize h₁.push { cls := .type "list_iterator", data := .fields #[.ref ax, .int (0 : Nat) 0] } = h₂ at hIp kp
  generalize h₁.objs.size = I at hI₁ W hIp ⊢
  dsimp only
  refine wpAny_newObj_type (wpAny_newFunctionEnv hcell (by intro y hy; simp at hy) (fun h₄ hns₄ hsb₄ => ?_) hkind)
  dsimp only at hns₄ hsb₄ ⊢
  have hDn := new_at h₂
  have hDp := Heap.get?_push_size h₂ (o := { cls := .type "list", dict := none, data := .seq ([] : List Value).toArray }) rfl
  have kD : Ext h₂ (h₂.push { cls := .type "list", dict := none, data := .seq ([] : List Value).toArray }) := fun b o e => Heap.get?_push_of_some _ e
  generalize h₂.push { cls := .type "list", dict := none, data := .seq ([] : List Value).toArray } = h₃ at *
  generalize h₂.objs.size = D at *
  have hCn := new_at h₃
  generalize h₃.objs.size = C at *
  have ne : ∀ {a b : Addr} {hh : Heap} {o : Obj}, hh.get? a = some o → hh.get? b = none → a ≠ b := fun h1 h2 q => by rw [q, h2] at h1; cases h1
  have hID : I ≠ D := ne hIp hDn
  have hIC : I ≠ C := ne (kD _ _ hIp) hCn
  have hDC : D ≠ C := ne hDp hCn
  have old : ∀ b o, h₂.get? b = some o → h₄.get? b = some o := fun b o e => hsb₄.extBut b o (ne (kD _ _ e) hCn) (Heap.get?_push_of_some _ (kD _ _ e))
  have hD4 : h₄.PlainList D #[] := ⟨_, hsb₄.extBut _ _ hDC (Heap.get?_push_of_some _ hDp)⟩
  have loop : ∀ s₃ : Shared, s₃ = { s with heap := h₄, toks := tk₁ + ([] : List (Str × Value)).length } →
      codeAny (model prog w) A (.compLoop (.ListComp elt [⟨.Name x px, iter, [], 0⟩] scope pos) 0 (.ref I) (.ref D) (compEnvC scope cl C env)) (compPost (model prog w) A E none Q (.ref D) C) s₃ := by
    rintro s₃ rfl
    refine comp_turns (CnJ s h₁ I C D ax xs f PO items.size) ?_ (items.size + 1)
      ⟨h₄, _, 0, #[], _, _, rfl, old _ _ hIp, ⟨rfl, rfl⟩, hD4, hns₄, by simpa using Paired.nil, Nat.zero_le _, rfl, fun b o e => old b o (kp b o e)⟩
    rintro k s' ⟨h', tk, i, ys, m', o, rfl, hI, hO, hacc', hn', hF, hi, rfl, hk⟩ N
    have KI : ∀ b o, h₁.get? b = some o → b ≠ I := fun b o e => ne e hI₁
    have KC : ∀ b o, h₁.get? b = some o → b ≠ C := fun b o e => ne (kD _ _ (kp _ _ e)) hCn
    have KD : ∀ b o, h₁.get? b = some o → b ≠ D := fun b o e => ne (kp _ _ e) hDn
    by_cases hlt : i < items.size
    · refine W.item i _ _ _ o hlt hk hI hO fun v h₅ tk₅ o₅ hPv hs₅ hI₅ hO₅ => ?_
      have hix : i < xs.length := by lia
      refine wpAny_pure ?_
      refine wpAny_assign_Name (wpAny_storeName_local (lookup_relabel_local hx) (hn'.sameBut hs₅ hIC.symm) (fun h₆ hn₆ hs₆ => ?_) (by simp [compEnvC, relabel, hkind]))
      refine wpAny_tests_nil ?_
      simp only [if_true]
      have k6 : Ext h₁ h₆ := fun b o e => hs₆.extBut b o (KC b o e) (hs₅.extBut b o (KI b o e) (hk b o e))
      have hI₆ : h₆.get? I = some o₅ := hs₆.extBut _ _ hIC hI₅
      have hD₆ : h₆.PlainList D ys := (hacc'.extBut hs₅.extBut hID.symm).extBut hs₆.extBut hDC
      refine helt C xs[i] h₆ (List.getElem_mem hix) (k₁'.trans k6) _ _ _ Ext.rfl' fun v₇ h₇ tk₇ k₇ hG => ?_
      obtain ⟨a, oa, rfl, ha0, ha, hPO⟩ := hG
      obtain ⟨oC, hoC⟩ := ns_obj hn₆
      have haI : a ≠ I := (ne hI₆ ha0).symm
      have haC : a ≠ C := (ne hoC ha0).symm
      obtain ⟨nD, hDo⟩ := hD₆
      have haD : a ≠ D := (ne hDo ha0).symm
      have hys : ys.size ≤ sizeLine := by
        have e1 := hF.length
        rw [List.length_map, List.length_take] at e1
        have e4 : ys.toList.length = ys.size := by simp
        rw [sizeLine_eq]
        lia
      refine wpAny_list_append_plain (hsz := hys) ⟨nD, k₇ _ _ hDo⟩ fun h₈ hl₈ hs₈ => ?_
      refine ⟨items.size + 1 - (i + 1), turn_lt hlt, h₈, tk₇, i + 1, ys.push (.ref a), _, o₅, rfl, hs₈.extBut _ _ hID (k₇ _ _ hI₆), hO₅, hl₈, (hn₆.keeps k₇).sameBut hs₈ hDC.symm, ?_, hlt, rfl, fun b o e => hs₈.extBut b o (KD b o e) (k₇ _ _ (k6 b o e))⟩
      have : (xs.take (i + 1)).map f = (xs.take i).map f ++ [f xs[i]] := by rw [List.take_succ_eq_append_getElem hix, List.map_append]; rfl
      rw [this, Array.toList_push]
      refine Paired.snoc (Mine.Paired.imp (fun b v hg => ?_) hF) ⟨a, oa, rfl, haI, haC, haD, hs₈.extBut _ _ haD ha, hPO⟩
      obtain ⟨a', o', e1, e2, e3, e4, e5, e6⟩ := hg
      exact ⟨a', o', e1, e2, e3, e4, hs₈.extBut _ _ e4 (k₇ _ _ (hs₆.extBut _ _ e3 (hs₅.extBut _ _ e2 e5))), e6⟩
    · have hin : i = items.size := Nat.le_antisymm ‹i ≤ items.size› (Nat.le_of_not_lt hlt)
      subst hin
      refine W.done _ _ _ o hk hI hO fun h₅ he₅ => ?_
      rw [List.take_of_length_le (by lia)] at hF
      refine ⟨m', hn'.at' fun o e => he₅ _ o hIC.symm e, fun h₆ hs₆ => hq (.ref D) h₆ tk (k₁.trans fun b o e => hs₆.extBut b o (KC b o e) (he₅ _ o (KI b o e) (hk b o e))) ⟨D, ys, rfl, ((hacc'.at fun o e => he₅ _ o hID.symm e).extBut hs₆.extBut hDC).isList, Mine.Paired.imp (fun b v hg => ?_) hF⟩⟩
      obtain ⟨a', o', e1, e2, e3, e4, e5, e6⟩ := hg
      exact ⟨a', o', e1, hs₆.extBut _ _ e3 (he₅ _ _ e2 e5), e6⟩
  exact codeAny_compStart_list (loop _ rfl) (W.self 0 _ _ _ _ (old _ _ hIp) ⟨rfl, rfl⟩ (loop _ rfl))
/-- lists of lists of bytes, alike or not -/
theorem eqAt_BLi {s : Shared} {bs cs : List (Array UInt8)} {v₁ v₂ : Value} (hu : A.units < cLine) (h1 : BL bs s.heap v₁) (h2 : BL cs s.heap v₂) : EqAt A s v₁ v₂ (decide (bs = cs)) := fun prog w E Q hq => by
  unfold eqBool
  refine wpAny_holding ?_
  refine wpAny_ite_split (fun hab => ?_) (fun hab => ?_)
  · have e : v₁ = v₂ := eq_of_beq hab
    subst e
    have hb : bs = cs := by
      obtain ⟨a, its, e, hl, hp⟩ := h1
      obtain ⟨a', its', e', hl', hp'⟩ := h2
      rw [e] at e'; cases e'
      obtain ⟨o, e1, _, n, d1⟩ := hl
      obtain ⟨o', e2, _, n', d2⟩ := hl'
      rw [e1] at e2; cases e2
      rw [d1] at d2; cases d2
      clear hq
      revert hp'
      generalize its.toList = vs at hp
      intro hp'
      induction hp generalizing cs with
      | nil => cases hp'; rfl
      | cons hx _ ih =>
        cases hp' with
        | cons hy t =>
          obtain ⟨_, hx⟩ := hx
          obtain ⟨_, hy⟩ := hy
          rw [hx] at hy
          cases hy
          rw [ih t]
    exact wpAny_bind (wpAny_rule (wpAny_pure (by simpa [hb] using hq)))
  · have hne : v₁ ≠ v₂ := fun q => by rw [q] at hab; simp at hab
    have hR := eqAt_BL (A := A) (.inl hne) hu h1 h2
    obtain ⟨a, its, rfl, _⟩ := id h1
    obtain ⟨c, its2, rfl, _⟩ := id h2
    refine wpAny_bind ?_
    exact hR prog w E _ (wpAny_truthy_bool hq)
theorem all_eqL (bss css : List (List (Array UInt8))) (hn : bss.length = css.length) : ((List.range bss.length).all fun j => decide (bss.getD j [] = css.getD j [])) = decide (bss = css) := all_range_eq bss css hn []
theorem pairedH_get {α : Type} {G : α → Value → Prop} {bs : List α} {vs : Array Value} (h : Paired G bs vs.toList) {j : Nat} (h1 : j < bs.length) (h2 : j < vs.size) : G bs[j] vs[j] := by
  have := paired_get h j h1 (by simpa using h2)
  simpa using this
theorem CMP_eq_LL (bss css : List (List (Array UInt8))) (hu : A.units + 1 < cLine) : CMP prog w A .Eq (LLV bss) (LLV css) (decide (bss = css)) := by
  rintro s Q E v₁ v₂ ⟨a, items, rfl, hl, hp⟩ ⟨c, items2, rfl, hl2, hp2⟩ hq
  have e1 : bss.length = items.size := by have := Paired.length hp; simpa using this
  have e2 : css.length = items2.size := by have := Paired.length hp2; simpa using this
  by_cases hs : items.size = items2.size
  · have z := RcAt.lists (A := A) (s := s) (e := fun j => decide (bss.getD j [] = css.getD j [])) hl hl2 hs (by lia) fun j h1 h2 => by
      have p1 := pairedH_get hp (by lia) h1
      have p2 := pairedH_get hp2 (by lia) h2
      rw [getD_at (by lia), getD_at (by lia)]
      exact eqAt_BLi (A := A.in1) hu p1 p2
    rw [← e1, all_eqL bss css (by lia)] at z
    exact z prog w E Q hq
  · have : decide (bss = css) = false := decide_eq_false fun q => hs (by rw [← e1, ← e2, q])
    rw [this] at hq
    exact (RcAt.lists_lengths hl hl2 (by simpa using hs) (by lia)) prog w E Q hq
theorem CMP_isNot_ref : CMP prog w A .IsNot (fun _ v => ∃ a, v = .ref a) (IsV .none) true := by
  rintro s Q E v₁ v₂ ⟨a, rfl⟩ rfl hq
  exact wpAny_isNot_plain rfl hq
/-- e₁ and e₂, both booleans, the first true -/
theorem EV_and_t {rest : List Expr} {c : Bool} (h1 : EV prog w A env K e₁ (IsV (.bool true))) (h2 : EV prog w A env K (.BoolOp .And (e₂ :: rest) pos) (IsV (.bool c))) : EV prog w A env K (.BoolOp .And (e₁ :: e₂ :: rest) pos) (IsV (.bool c)) := fun s Q E k hq => by
  refine BoolOp_and (h1 s _ E k fun v h' tk k₁ hv => ?_)
  cases hv
  refine wpAny_truthy_bool ?_
  rw [if_pos rfl]
  exact h2 _ Q E (k.trans k₁) fun v h'' tk' k₂ hv => hq v h'' tk' (k₁.trans k₂) hv
theorem EV_and_1 {c : VP} (h1 : EV prog w A env K e₁ c) : EV prog w A env K (.BoolOp .And [e₁] pos) c := fun s Q E k hq => BoolOp_one (h1 s Q E k hq)
end
end Mine
end
section
open PySem PySem.W PyProof.Rows PySem.Calls PySem.SeqAt
set_option Elab.async false
set_option linter.unusedVariables false
namespace Mine
section
variable {prog : Program} {w : World} {A : Around} {env : Env} {z : Zn} {Γ : Ctx'} {g h h' K6 : Heap} {m : Str → Option Value}
/-- the layer anew, behind a call that turned the things of X -/
theorem STA.after {X : List Addr} {m' : Str → Option Value} (H : SA z env h m) (hn : h'.Ns env.locals m') (hX : ∀ b ∈ X, b ∉ env.cells.map (·.2)) (hk : ∀ b o, b ≠ env.locals → b ∉ X → h.get? b = some o → h'.get? b = some o)
    (hΓ : ∀ x f, Γ.lookup x = some f → ∃ P v, f = .loc P ∧ Mono P ∧ env.kindOf x = some .local ∧ m' x = some v ∧ P (zin env h').g v) : STA (zin env h') env Γ h' := by
  refine ⟨m', ⟨Ext.rfl', hn, fun p hp => ?_, H.nodup, (fun a ha => nomatch ha), (fun p hp => nomatch hp)⟩, fun x f hx => ?_⟩
  · obtain ⟨v, o, ho, hd⟩ := H.cells p hp
    refine ⟨v, o, hk _ _ (ns_cell_ne H.ns ⟨o, ho, hd⟩) (fun q => hX _ q (List.mem_map_of_mem hp)) ho, hd⟩
  · obtain ⟨P, v, rfl, hm, hkk, hv, hP⟩ := hΓ x f hx
    exact ⟨hm, hkk, v, hv, hP⟩
theorem pins_of {h : Heap} : ∀ {cs : List Ch}, (∀ c ∈ cs, ∃ its n, h.get? c.1 = some (listOf its n) ∧ Paired bytesR c.2 its.toList) → ∃ ps, PinsR cs ps ∧ ∀ q ∈ ps, h.get? q.1 = some q.2
  | [], _ => ⟨[], .nil, fun q hq => nomatch hq⟩
  | c :: cs, H => by
    obtain ⟨its, n, h1, h2⟩ := H c List.mem_cons_self
    obtain ⟨ps, h3, h4⟩ := pins_of fun c' hc' => H c' (List.mem_cons_of_mem _ hc')
    refine ⟨(c.1, listOf its n) :: ps, .cons h2 h3, fun q hq => ?_⟩
    rcases List.mem_cons.mp hq with rfl | hq
    · exact h1
    · exact h4 q hq
theorem Exn.ext {fl cls : Value} {as : List Value} {e : Addr} {h0 : Heap} (X : Exn fl cls as e h0 h) (k : ∀ b o, h0.get? b = none → h.get? b = some o → h'.get? b = some o) : Exn fl cls as e h0 h' := by
  obtain ⟨oe, vs7, T7, oT, ts7, t7, ot, n7, r1, r2, r3, r4, r5, r6, r7, r8, r9, r10, r11, r12, r13, r14, r15, r16⟩ := X.ex
  exact ⟨oe, vs7, T7, oT, ts7, t7, ot, n7, k _ _ r14 r1, r2, r3, r4, r5, r6, r7, k _ _ r15 r8, r9, r10, k _ _ r16 r11, r12, r13, r14, r15, r16⟩
/-- the exception comes to a frame that catches it by its name -/
theorem law_catch {n : Str} {e : Addr} {as : List Value} {b₀ : Stmt} {suite : List Stmt} {pos np : Pos} {rest : List ExceptHandler} {s : Shared} {Q : Flow → Shared → Prop} {E : Value → Shared → Prop} (hfr : A.frames = some [env]) (hf : env.frame = some env.locals) (hk : env.scope.kind = .function) (hg : GB g env (Str.ofString "RuntimeError") (.type "RuntimeError"))
    (hx : env.kindOf (Str.ofString "RuntimeError") = some .globalImplicit) (hlo : env.kindOf n = some .local) (hp : (env.scope.kind == .class || (env.scope.kind == .module && env.locals != env.globals)) = false)
    (hns : K6.Ns env.locals m) (hgL : g.get? env.locals = none) (kg : Ext g K6) (X : Exn .none (.type "RuntimeError") as e K6 s.heap) (U : Upto ([env].filterMap (·.frame)) K6 s.heap)
    (k : ∀ (E' : Value → Shared → Prop) h5 tk, h5.Ns env.locals (fun y => if y = n then some (.ref e) else m y) → (∀ b o, b ≠ env.locals → K6.get? b = some o → h5.get? b = some o) → Exn .none (.type "RuntimeError") as e K6 h5 →
      wpAny (model prog w) (A.mark (some (.ref e))) (execs (b₀ :: suite) env) (fun f s₄ => wpAny (model prog w) A (do bindName env n .none; unbindBehindTheSuite env n pos) (fun _ s₅ => Q f s₅) E s₄) E' { s with heap := h5, toks := tk }) :
    wpAny (model prog w) A (noteFrame (.ref e) env) (fun _ s₂ => wpAny (model prog w) A (setFlight (.ref e) none) (fun _ s₃ => wpAny (model prog w) A (handleBy (.ref e) env (.ExceptHandler (some (.Name (Str.ofString "RuntimeError") np)) (some n) (b₀ :: suite) pos :: rest)) Q E s₃) E s₂) E s := by
  have hfs : [env].filterMap (·.frame) = [env.locals] := by simp [hf]
  have hup : ∀ {hh : Heap}, (∀ b o, K6.get? b = some o → ∃ sl, hh.get? b = some { o with slots := sl }) → hh.Ns env.locals m := fun u => (show K6.UpToSlots _ from fun b o e _ => u b o e).ns hns
  have hL : ∃ o, K6.get? env.locals = some o ∧ ∀ vs, o.data ≠ .fields vs := by
    obtain ⟨o, es, ep, ho, hd, _⟩ := hns
    exact ⟨o, ho, fun vs q => by rw [hd] at q; cases q⟩
  have hLs : s.heap.FunFrames g [env] := by
    obtain ⟨o, ho, hd⟩ := hL
    obtain ⟨sl, hs⟩ := U.sl _ _ ho
    exact ⟨by rw [hk]; decide, ⟨env.locals, _, hf, hgL, hs, hd⟩, trivial⟩
  refine note_next hfr hf hLs X (fun b o e => let ⟨sl, q⟩ := U.sl b o e; ⟨_, q⟩) fun h2 X2 k2 _ => ?_
  have U2 : Upto [env.locals] K6 h2 := ⟨fun b o hb hn => ((k2 b o hb o (U.off b o hb (by rw [hfs]; exact hn))).1 (by rw [hfs]; exact hn)), fun b o hb => by
    obtain ⟨sl, q⟩ := U.sl b o hb
    obtain ⟨sl2, q2⟩ := (k2 b o hb _ q).2
    exact ⟨sl2, q2⟩⟩
  refine set_flight (s := { s with heap := h2 }) X2 fun h3 X3 k3 _ => ?_
  have U3 : Upto [env.locals] K6 h3 := ⟨fun b o hb hn => (k3 b o hb).symm.trans (U2.off b o hb hn), fun b o hb => let ⟨sl, q⟩ := U2.sl b o hb; ⟨sl, (k3 b o hb).symm.trans q⟩⟩
  refine wpAny_handleBy_builtin_as (X := "RuntimeError") (T := "RuntimeError") (b := true) PySem.F.isExc_RuntimeError PySem.F.notTuple_RuntimeError (by rw [isSubtype_type]; kernel_rfl) ?_
  refine (EV_gb hk hx hg) { s with heap := h3 } _ _ (fun b o hb => U3.off b o (kg b o hb) (by simp; rintro rfl; rw [hgL] at hb; cases hb)) fun v h4 tk4 k4 hv => ?_
  have X4 := X3.ext (h' := h4) fun b o _ e => k4 b o e
  refine ⟨hv, ?_, ?_⟩
  · obtain ⟨oe, vs7, T7, oT, ts7, t7, ot, n7, r1, r2, r3, r4, r5, r6, r7, r8, r9, r10, r11, r12, r13, r14, r15, r16⟩ := X4.ex
    exact ⟨oe, r1, r2⟩
  rw [if_pos rfl]
  refine set_flight (s := { s with heap := h4, toks := tk4 }) X4 fun h5 X5 k5 _ => ?_
  have U5 : Upto [env.locals] K6 h5 := ⟨fun b o hb hn => (k5 b o hb).symm.trans (k4 _ _ (U3.off b o hb hn)), fun b o hb => let ⟨sl, q⟩ := U3.sl b o hb; ⟨sl, (k5 b o hb).symm.trans (k4 _ _ q)⟩⟩
  refine wpAny_storeName_local hlo (hup U5.sl) (fun h6 hn6 hs6 => ?_) hp
  have hKL : ∀ b, K6.get? b = none → b ≠ env.locals := fun b hb q => by obtain ⟨o, ho, _⟩ := hL; rw [q, ho] at hb; cases hb
  exact k _ h6 _ hn6 (fun b o hb e => hs6.extBut b o hb (U5.off b o e (by simpa using hb))) (X5.ext fun b o hb e => hs6.extBut b o (hKL b hb) e)
end
section
variable {w : World} {env : Env} {z : Zn} {g : Heap} {m : Str → Option Value} {mean : ExcName → Option Value} {mg mb : Str → Option Value} {s : Shared} {Q E : Value → Shared → Prop}
theorem c3_call {cs : List Ch} {a : Addr} {its : Array Value} {na : Nat} (CA : CallAt callerA w mean mg mb g g [] env z) (A' : SA z env s.heap m) (ha : s.heap.get? a = some (listOf its na)) (haL : a ≠ env.locals) (hag : g.get? a = none) (hac : a ∉ cs.map (·.1)) (hnd : (cs.map (·.1)).Nodup) (hit : Paired refR cs its.toList)
    (hcs : ∀ c ∈ cs, g.get? c.1 = none ∧ c.1 ≠ env.locals ∧ ∃ its n, s.heap.get? c.1 = some (listOf its n) ∧ Paired bytesR c.2 its.toList) (hz : cs.length ≤ 100) (hzt : totL (cs.map (·.2)) ≤ 1000)
    (hok : ∀ r itr nr h' tk ps' cs', Paired bytesR (mergeF (totL (cs.map (·.2)) + 1) (cs.map (·.2)) []).1 itr.toList → (mergeF (totL (cs.map (·.2)) + 1) (cs.map (·.2)) []).2 = (true, cs'.map (·.2)) → PinsR cs' ps' → cs'.map (·.1) = cs.map (·.1) → h'.get? r = some (listOf itr nr) → s.heap.get? r = none →
      (∀ q ∈ ps', h'.get? q.1 = some q.2) → h'.Ns env.locals m → (∀ b o, b ≠ env.locals → b ∉ cs.map (·.1) → s.heap.get? b = some o → h'.get? b = some o) → Q (.ref r) { s with heap := h', toks := tk })
    (hex : ∀ K6 e h' tk ps' cs' t, (mergeF (totL (cs.map (·.2)) + 1) (cs.map (·.2)) []).2 = (false, cs'.map (·.2)) → PinsR cs' ps' → cs'.map (·.1) = cs.map (·.1) → K6.Ns env.locals m → (∀ b o, b ≠ env.locals → b ∉ cs.map (·.1) → s.heap.get? b = some o → K6.get? b = some o) → (∀ q ∈ ps', K6.get? q.1 = some q.2) → Ext g K6 →
      Exn .none (.type "RuntimeError") [.str (Str.ofString "Inconsistent hierarchy") t] e K6 h' → Upto ([env].filterMap (·.frame)) K6 h' → E (.ref e) { s with heap := h', toks := tk }) :
    wpAny (model PySem.Challenge.rw_qh0045_01.row.prog w) (callerA.deeper env) (call (.ref 26) [.ref a] []) Q E s := by
  obtain ⟨ps, hps, hpsh⟩ := pins_of (h := s.heap) fun c hc => (hcs c hc).2.2
  have hfst := hps.fst
  have hin : ∀ q ∈ ps, ∃ c ∈ cs, c.1 = q.1 := fun q hq => by
    have : q.1 ∈ cs.map (·.1) := hfst ▸ List.mem_map_of_mem hq
    exact List.mem_map.mp this
  have hdisN : ∀ q ∈ (fullL g s.heap env.locals).filter (fun q => decide (q.1 ≠ a ∧ q.1 ∉ cs.map (·.1))), (s.heap.get? q.1 = some q.2 ∧ q.1 ≠ env.locals ∧ g.get? q.1 = none) ∧ q.1 ≠ a ∧ q.1 ∉ cs.map (·.1) := fun q hq => by
    obtain ⟨h1, h2⟩ := List.mem_filter.mp hq
    exact ⟨news_fullL q h1, by simpa using h2⟩
  have hfull : ∀ b o, b ≠ env.locals → b ≠ a → b ∉ cs.map (·.1) → g.get? b = none → s.heap.get? b = some o → (b, o) ∈ (fullL g s.heap env.locals).filter (fun q => decide (q.1 ≠ a ∧ q.1 ∉ cs.map (·.1))) := fun b o h1 h2 h3 h4 h5 =>
    List.mem_filter.mpr ⟨mem_fullL.mpr ⟨h1, h4, h5⟩, by simpa using ⟨h2, by simpa using h3⟩⟩
  have hsp := c3_spec w mean mg mb ((fullL g s.heap env.locals).filter (fun q => decide (q.1 ≠ a ∧ q.1 ∉ cs.map (·.1)))) ps cs a its na hps hnd hit (fun p hp => by
    rw [hfst]
    rcases List.mem_cons.mp hp with rfl | hp
    · exact hac
    · exact (hdisN p hp).2.2) hz hzt
  generalize (fullL g s.heap env.locals).filter (fun q => decide (q.1 ≠ a ∧ q.1 ∉ cs.map (·.1))) = news at hsp hdisN hfull
  have hF := CA.fr A'
  have hN : News g env.locals s.heap (led ps a its na news) := fun q hq => by
    rcases List.mem_append.mp hq with hq | hq
    · obtain ⟨c, hc, e⟩ := hin q hq
      obtain ⟨h1, h2, _⟩ := hcs c hc
      exact ⟨hpsh q hq, e ▸ h2, e ▸ h1⟩
    · rcases List.mem_cons.mp hq with rfl | hq
      · exact ⟨ha, haL, hag⟩
      · exact (hdisN q hq).1
  refine hsp (callerA.deeper env).depth (callerA.deeper env).units (callerA.deeper env).guards env [] callerA g g env.locals m s Q E CA.frame CA.kind CA.below CA.dicts hF CA.inK hN CA.top (law_room (by decide)).1 (law_room (by decide)).2 ?_ ?_
  · rintro v n h' tk ⟨r, itr, nr, ps', cs', rfl, rfl, hpr, hf', hp1, hp2, hne⟩ F N
    have hpf : ps'.map (·.1) = cs.map (·.1) := hpr.fst.trans hf'
    have hledm : ∀ q, q ∈ led ps' a its na news → q ∈ (r, listOf itr nr) :: led ps' a its na news := fun q hq => List.mem_cons_of_mem _ hq
    refine hok r itr nr h' tk ps' cs' hp1 hp2 hpr hf' (N _ List.mem_cons_self).1 ?_ (fun q hq => (N q (hledm q (List.mem_append_left _ hq))).1) F.ns fun b o hb hbc e => ?_
    · cases e : s.heap.get? r with
      | none => rfl
      | some o =>
        have hr := N _ List.mem_cons_self
        by_cases h1 : r ∈ cs.map (·.1)
        · rw [← hpf] at h1
          obtain ⟨q, hq, e2⟩ := List.mem_map.mp h1
          exact absurd e2 (hne q (List.mem_append_left _ hq))
        · by_cases h2 : r = a
          · exact absurd h2.symm (hne (a, listOf its na) (List.mem_append_right _ List.mem_cons_self))
          · exact absurd rfl (hne _ (List.mem_append_right _ (List.mem_cons_of_mem _ (hfull r o hr.2.1 h2 h1 hr.2.2 e))))
    · cases q : g.get? b with
      | some o' =>
        have h1 := hF.keep b o' q
        rw [e] at h1
        cases h1
        exact F.keep b o q
      | none =>
        by_cases h2 : b = a
        · subst h2
          rw [ha] at e; cases e
          exact (N _ (hledm _ (List.mem_append_right _ List.mem_cons_self))).1
        · exact (N _ (hledm _ (List.mem_append_right _ (List.mem_cons_of_mem _ (hfull b o hb h2 hbc q e))))).1
  · rintro G K6 e cls as n h' tk ⟨t, ps', cs', rfl, rfl, rfl, hpr, hf', hp2⟩ FG hGK hNK X U
    have hLG : ∃ o, G.get? env.locals = some o := let ⟨o, _, _, e, _⟩ := FG.ns; ⟨o, e⟩
    refine hex K6 e h' tk ps' cs' t hp2 hpr hf' (FG.ns.keeps hGK) (fun b o hb hbc e => ?_) (fun q hq => (hNK q (List.mem_append_left _ hq)).1) (fun b o e => hGK _ _ (FG.keep b o e)) X U
    cases q : g.get? b with
    | some o' =>
      have h1 := hF.keep b o' q
      rw [e] at h1
      cases h1
      exact hGK _ _ (FG.keep b o q)
    | none =>
      by_cases h2 : b = a
      · subst h2
        rw [ha] at e; cases e
        exact (hNK _ (List.mem_append_right _ List.mem_cons_self)).1
      · exact (hNK _ (List.mem_append_right _ (List.mem_cons_of_mem _ (hfull b o hb h2 hbc q e)))).1
end
end Mine
end
section
open PySem PySem.W PyProof.Rows PySem.Calls PySem.SeqAt
set_option Elab.async false
set_option linter.unusedVariables false
namespace Mine
section
variable {prog : Program} {w : World} {A : Around} {env : Env} {K : Heap} {e : Expr} {z : Zn} {Γ : Ctx'} {g h h' : Heap} {m : Str → Option Value} {x : Str} {pos p : Pos}
/-- an own list told by its items -/
theorem STA.own_fix {a : Addr} {R : Heap → List Value → Prop} {its : Array Value} {n : Nat} (H : STA z env Γ h) (hf : Γ.lookup x = some (.own a R)) (hl : h.get? a = some (listOf its n)) : STA z env ((x, .own a fun _ l => l = its.toList) :: Γ) h := by
  obtain ⟨m, A', F⟩ := H
  refine ⟨m, A', fun y f hy => ?_⟩
  by_cases q : y = x
  · subst q
    rw [List.lookup_cons_self] at hy
    cases hy
    obtain ⟨mo, hk, hv, ha, its', ⟨n', hl'⟩, hR⟩ := F y _ hf
    rw [hl] at hl'
    cases hl'
    exact ⟨fun _ _ _ _ e => e, hk, hv, ha, its, ⟨n, hl⟩, rfl⟩
  · rw [List.lookup_cons, beq_false_of_ne q] at hy
    exact F y f hy
theorem ext_full {A₀ : Around} {mean : ExcName → Option Value} {mg mb : Str → Option Value} {base G : Heap} {outer : List Env} (CA : CallAt A₀ w mean mg mb base g outer env z) (H : STA z env Γ h) (h1 : Ext g G) (h2 : ∀ p ∈ fullL g h env.locals, G.get? p.1 = some p.2) : Ext (z.hid env h) G := fun b o e => by
  have hb : b ∉ z.S env := fun q => by rw [show (z.hid env h).get? b = none from hideAll_none _ q] at e; cases e
  have e' := of_hideAll _ e
  have hbL : b ≠ env.locals := fun q => hb (q ▸ mem_L)
  cases q : g.get? b with
  | none => exact h2 (b, o) (mem_fullL.mpr ⟨hbL, q, e'⟩)
  | some o' =>
    obtain ⟨m, A', _⟩ := H
    have := (CA.fr A').keep b o' q
    rw [e'] at this
    cases this
    exact h1 b o q
theorem LLs_of {h : Heap} : ∀ {cs cs' : List Ch} {vs : List Value}, Paired refR cs vs → cs'.map (·.1) = cs.map (·.1) → (∀ c ∈ cs', BL c.2 h (.ref c.1)) → LLs (cs'.map (·.2)) h vs
  | _, [], _, .nil, _, _ => .nil
  | _, c' :: cs', _, .nil, e, _ => by simp at e
  | _, [], _, .cons _ _, e, _ => by simp at e
  | c :: cs, c' :: cs', v :: vs, .cons hv t, e, H => by
    rw [List.map_cons, List.map_cons, List.cons.injEq] at e
    refine .cons ?_ (LLs_of t e.2 fun d hd => H d (List.mem_cons_of_mem _ hd))
    rw [show v = .ref c.1 from hv, ← e.1]
    exact H c' List.mem_cons_self
/-- what _law_due tells, new to K -/
noncomputable def DueN (K : Heap) : Option (List (Array UInt8)) → VP
  | none => IsV .none
  | some bs => fun h v => ∃ D its, v = .ref D ∧ K.get? D = none ∧ h.IsList D its ∧ Paired bytesR bs its.toList
theorem mono_DueN (K : Heap) (o : Option (List (Array UInt8))) : Mono (DueN K o) := by
  cases o with
  | none => exact mono_V _
  | some bs => exact fun _ _ _ k ⟨D, its, e, h0, hl, hp⟩ => ⟨D, its, e, h0, hl.at fun o e => k _ _ e, hp⟩
noncomputable def DueV : Option (List (Array UInt8)) → VP
  | none => IsV .none
  | some bs => BL bs
theorem mono_DueV (o : Option (List (Array UInt8))) : Mono (DueV o) := by
  cases o with
  | none => exact mono_V _
  | some bs => exact mono_BL _
/-- a caught exception of one text -/
noncomputable def Flt (e : Addr) (y : Str) : VP := fun h v => v = .ref e ∧ ∃ t u, h.ExcAt e "RuntimeError" (.ref t) ∧ h.TupAt t [.str y u]
theorem mono_Flt (e : Addr) (y : Str) : Mono (Flt e y) := fun _ _ _ k ⟨hv, t, u, ⟨o, vs, h1, h2⟩, ⟨ot, n, h3, h4⟩⟩ => ⟨hv, t, u, ⟨o, vs, k _ _ h1, h2⟩, ⟨ot, n, k _ _ h3, h4⟩⟩
theorem EV_strF {ea : Addr} {y : Str} (hf : EV prog w A env K (.Name "str" p) (IsV (.type "str"))) (h1 : EV prog w A env K e (Flt ea y)) (hu : A.units + 2 < cLine) (hs : starEach [e] env = [(false, eval e env)] := by rfl) :
    EV prog w A env K (.Call (.Name "str" p) [e] [] pos) (IsS y) := fun s Q E k hq => by
  refine Call_Name1 (hf s _ E k fun v₁ h' tk k₁ p₁ => ?_) hs
  cases p₁
  refine callWith_type1 (h1 _ _ E (k.trans k₁) fun v₂ h'' tk' k₂ p₂ => ?_)
  obtain ⟨rfl, t, u, hx, ht⟩ := p₂
  exact P.str_of_exc_one PySem.F.excStr_RuntimeError hu hx ht (hq _ _ _ (k₁.trans k₂) ⟨_, rfl⟩)
theorem LLV_LS {bss : List (List (Array UInt8))} {h : Heap} {v : Value} (H : LLV bss h v) : LS (fun _ _ => True) bss h v := by
  obtain ⟨a, its, e, hl, hp⟩ := H
  exact ⟨a, its, e, hl, Mine.Paired.imp (fun _ _ _ => trivial) hp⟩
theorem mono_LLV (bss : List (List (Array UInt8))) : Mono (LLV bss) := fun _ _ _ k ⟨a, its, e, hl, hp⟩ => ⟨a, its, e, hl.at fun o e => k _ _ e, mono_LLs _ _ _ _ k hp⟩
/-- lists of nothing, as many as there are chains -/
theorem EV_nils {bss : List (List (Array UInt8))} {iter : Expr} {scope : Scope} {cl : List (Str × Addr)} {px lp : Pos} (hsrc : EV prog w A env K iter (LLV bss)) (hz : bss.length ≤ 10000) (hok : EndOk A K) (hclos : closureFor scope env = pure cl) (hx : scope.names.lookup x = some .local)
    (hcell : ∀ y ∈ scope.names, y.2 ≠ .cell := by decide) (hkind : scope.kind = .function := by rfl) (hnames : ∀ y ∈ scope.names, y.2 = .local → scope.names.lookup y.1 = some .local := by decide)
    (hs : ∀ x, foldedSetIterable iter env x = pure x := by intro _; rfl) :
    EV prog w A env K (.ListComp (.List [] lp) [⟨.Name x px, iter, [], 0⟩] scope pos) (LLV (bss.map fun _ => [])) := by
  refine EV.mono (EV_comp_new (xs := bss) (f := fun _ => ([] : List (Array UInt8))) (PO := fun b o => b = [] ∧ ∃ n, o = listOf #[] n) (EV.mono hsrc fun h v H => LLV_LS H) hz hok hclos hx (fun C c K' _ k => ?_) hcell hkind hnames hs) fun h v H => ?_
  · intro s Q E k' hq
    rw [arm_eval_List]
    refine wpAny_bind (wpAny_standAt (wpAny_bind (spliced_nil ?_)))
    exact wpAny_newObj_type (hq _ _ _ (fun b o e => Heap.get?_push_of_some _ e) ⟨_, _, rfl, old_none k' (new_at _), Heap.get?_push_size _ rfl, rfl, _, rfl⟩)
  · obtain ⟨D, ys, e, hl, hp⟩ := H
    refine ⟨D, ys, e, hl, Mine.Paired.imp (fun b v hg => ?_) hp⟩
    obtain ⟨a, o, rfl, ha, rfl, n, rfl⟩ := hg
    exact ⟨a, #[], rfl, ⟨_, ha, rfl, n, rfl⟩, by simpa using Paired.nil⟩
theorem CMP_eq_BL_t (bs : List (Array UInt8)) (hu : A.units < cLine) : CMP prog w A .Eq (BL bs) (BL bs) true := by
  have := CMP_eq_BL (prog := prog) (w := w) (A := A) bs bs hu
  rwa [show decide (bs = bs) = true from decide_eq_true rfl] at this
theorem CMP_eq_LL_t {bss css : List (List (Array UInt8))} (hu : A.units + 1 < cLine) (e : bss = css) : CMP prog w A .Eq (LLV bss) (LLV css) true := by
  have := CMP_eq_LL (prog := prog) (w := w) (A := A) bss css hu
  rwa [show decide (bss = css) = true from decide_eq_true e] at this
theorem CMP_eq_S_t (a : Str) : CMP prog w A .Eq (IsS a) (IsS a) true := by
  have := CMP_eq_S (prog := prog) (w := w) (A := A) a a
  rwa [show decide (a = a) = true from decide_eq_true rfl] at this
theorem zin_get {hh : Heap} {b : Addr} {o : Obj} (e : hh.get? b = some o) (hL : b ≠ env.locals) (hc : b ∉ env.cells.map (·.2)) : (zin env hh).g.get? b = some o := hideAll_get _ e fun q => by
  rcases List.mem_cons.mp q with q | q
  · exact hL q
  · rcases List.mem_append.mp q with q | q
    · exact hc q
    · cases q
theorem chains_after {cs cs' : List Ch} {ps' : List (Addr × Obj)} {hh : Heap} {a : Addr} {its : Array Value} {n : Nat} (ha : h.get? a = some (listOf its n)) (haL : a ≠ env.locals) (haC : a ∉ env.cells.map (·.2)) (hac : a ∉ cs.map (·.1)) (hit : Paired refR cs its.toList) (hpr : PinsR cs' ps') (hf' : cs'.map (·.1) = cs.map (·.1))
    (hcS : ∀ c ∈ cs, c.1 ≠ env.locals ∧ c.1 ∉ env.cells.map (·.2)) (hk : ∀ b o, b ≠ env.locals → b ∉ cs.map (·.1) → h.get? b = some o → hh.get? b = some o) (hps : ∀ q ∈ ps', hh.get? q.1 = some q.2) : LLV (cs'.map (·.2)) (zin env hh).g (.ref a) := by
  refine ⟨a, its, rfl, ⟨_, zin_get (hk _ _ haL hac ha) haL haC, rfl, n, rfl⟩, LLs_of hit hf' fun c hc => ?_⟩
  obtain ⟨its', n', h1, h2⟩ := hpr.get c hc
  have : c.1 ∈ cs.map (·.1) := hf' ▸ List.mem_map_of_mem hc
  obtain ⟨d, hd, e⟩ := List.mem_map.mp this
  obtain ⟨h3, h4⟩ := hcS d hd
  exact ⟨c.1, its', rfl, ⟨_, zin_get (hps _ h1) (e ▸ h3) (e ▸ h4), rfl, n', rfl⟩, h2⟩
/-- the rows stand apart from the chains -/
theorem rows_hide {rws : List Row} {K : Heap} {v : Value} {cs : List Ch} (H : RowsV rws K v) (hne : rws ≠ []) (hcs : ∀ c ∈ cs, ∃ its n, K.get? c.1 = some (listOf its n) ∧ Paired bytesR c.2 its.toList) : RowsV rws (hideAll K (cs.map (·.1))) v := by
  obtain ⟨ra, items, e, hl, hp⟩ := H
  have key : ∀ (b : Addr) (o : Obj), K.get? b = some o → (∀ c ∈ cs, c.1 ≠ b) → (hideAll K (cs.map (·.1))).get? b = some o := fun b o e h => hideAll_get _ e fun q => by
    obtain ⟨c, hc, e2⟩ := List.mem_map.mp q
    exact h c hc e2
  refine ⟨ra, items, e, ?_, Mine.Paired.imp (fun y v hR => ?_) hp⟩
  · obtain ⟨o, ho, hc, n, hd⟩ := hl
    refine ⟨o, key _ _ ho fun c hcc q => ?_, hc, n, hd⟩
    obtain ⟨its, n', h1, h2⟩ := hcs c hcc
    rw [q, ho] at h1
    cases h1
    cases hd
    cases rws with
    | nil => exact hne rfl
    | cons y ys =>
      cases hx : items.toList with
      | nil => rw [hx] at hp; cases hp
      | cons v0 vs =>
        rw [hx] at hp h2
        cases hp with
        | cons hR _ =>
          obtain ⟨T, va, vb, hv, _⟩ := hR
          generalize c.2 = cb at h2
          cases h2 with
          | cons hB _ =>
            obtain ⟨t, hb⟩ := hB
            rw [hv] at hb; cases hb
  · obtain ⟨T, va, vb, hv, ⟨o, ho, hc, n, hd⟩, h3⟩ := hR
    refine ⟨T, va, vb, hv, ⟨o, key _ _ ho fun c hcc q => ?_, hc, n, hd⟩, h3⟩
    obtain ⟨its, n', h1, h2⟩ := hcs c hcc
    rw [q, ho] at h1
    cases h1
    exact absurd hc (by intro q; injection q with q; exact absurd q (by decide))
end
end Mine
end
section
open PySem
set_option Elab.async false
set_option linter.unusedVariables false
set_option linter.unusedSimpArgs false
namespace Mine
/-- a beginning, by threes -/
noncomputable def Pt (x n : Array UInt8) : Prop := x.size % 3 = 0 ∧ takeB x.size n = x
section
variable {x y n : Array UInt8}
theorem takeB_sz (k : Nat) (n : Array UInt8) : (takeB k n).size = min k n.size := by simp [takeB]
theorem takeB_take (j k : Nat) (n : Array UInt8) : takeB j (takeB k n) = takeB (min j k) n := by simp [takeB, List.take_take]
theorem takeB_all {k : Nat} {n : Array UInt8} (h : n.size ≤ k) : takeB k n = n := by
  unfold takeB; rw [List.take_of_length_le (by simpa using h)]
theorem Pt.le (h : Pt x n) : x.size ≤ n.size := by have := takeB_sz x.size n; rw [h.2] at this; exact Nat.le_trans (Nat.le_of_eq this) (Nat.min_le_right _ _)
theorem Pt.trans (h : Pt x y) (k : Pt y n) : Pt x n := ⟨h.1, by
  have e := takeB_take x.size y.size n
  rw [k.2, h.2, Nat.min_eq_left h.le] at e
  exact e.symm⟩
theorem Pt.of (h : Pt x n) (k : Pt y n) (l : x.size ≤ y.size) : Pt x y := ⟨h.1, by
  have e := takeB_take x.size y.size n
  rw [k.2, Nat.min_eq_left l, h.2] at e
  exact e⟩
theorem Pt.eq (h : Pt x y) (e : x.size = y.size) : x = y := by
  have := h.2
  rw [takeB_all (Nat.le_of_eq e.symm)] at this
  exact this.symm
theorem Pt.refl (h : n.size % 3 = 0) : Pt n n := ⟨h, takeB_all (Nat.le_refl _)⟩
theorem Pt.nil : Pt #[] n := ⟨rfl, by simp [takeB]⟩
theorem le3 {i n : Nat} (h : i < n / 3 + 1) : 3 * i ≤ n := Nat.le_trans (Nat.mul_le_mul_left 3 (Nat.le_of_lt_succ h)) (Nat.mul_div_le n 3)
theorem mem_parts : x ∈ partsF n ↔ Pt x n := by
  unfold partsF
  rw [List.mem_map]
  constructor
  · rintro ⟨i, hi, rfl⟩
    have hi' := List.mem_range.mp hi
    have hs := takeB_sz (3 * i) n
    have hm : min (3 * i) n.size = 3 * i := Nat.min_eq_left (le3 hi')
    rw [hm] at hs
    exact ⟨by rw [hs]; exact Nat.mul_mod_right 3 i, by rw [hs]⟩
  · intro h
    have := h.le
    refine ⟨x.size / 3, List.mem_range.mpr (Nat.lt_succ_of_le (Nat.div_le_div_right h.le)), ?_⟩
    have e : 3 * (x.size / 3) = x.size := Nat.mul_div_cancel' (Nat.dvd_of_mod_eq_zero h.1)
    rw [e]; exact h.2
theorem parts_sorted (n : Array UInt8) : (partsF n).Pairwise fun x y => x.size < y.size := by
  unfold partsF
  rw [List.pairwise_map]
  refine List.Pairwise.imp_of_mem (fun {a b} ha hb hab => ?_) List.pairwise_lt_range
  have h1 := List.mem_range.mp ha
  have h2 := List.mem_range.mp hb
  rw [takeB_sz, takeB_sz, Nat.min_eq_left (le3 h1), Nat.min_eq_left (le3 h2)]
  exact (Nat.mul_lt_mul_left (by decide)).mpr hab
theorem parts_down (n : Array UInt8) : (partsF n).reverse.Pairwise fun x y => y.size < x.size := List.pairwise_reverse.mpr (parts_sorted n)
end
section
variable {l ls bases : List (Array UInt8)} {x b : Array UInt8}
theorem hd_mem : ∀ {l : List (Array UInt8)}, l ≠ [] → hd0 l ∈ l
  | [], h => absurd rfl h
  | a :: r, _ => List.mem_cons_self
theorem drop_rel {R : Array UInt8 → Array UInt8 → Prop} : ∀ {l : List (Array UInt8)}, l.Pairwise R → ∀ {x}, x ∈ l.drop 1 → R (hd0 l) x
  | [], _, _, h => by simp at h
  | a :: r, h, x, hx => (List.pairwise_cons.mp h).1 x (by simpa using hx)
theorem hd_or : ∀ {l : List (Array UInt8)} {x}, x ∈ l → hd0 l = x ∨ x ∈ l.drop 1
  | [], _, h => by cases h
  | a :: r, x, h => by
    rcases List.mem_cons.mp h with rfl | h
    · exact .inl rfl
    · exact .inr (by simpa using h)
theorem of_drop {l : List (Array UInt8)} {x} (h : x ∈ l.drop 1) : x ∈ l := List.mem_of_mem_drop h
end
/-- the lists less what is told -/
noncomputable def fl (bases : List (List (Array UInt8))) (d : List (Array UInt8)) : List (List (Array UInt8)) := bases.map fun l => l.filter fun x => decide (x ∉ d)
theorem stepL_filter {l d : List (Array UInt8)} {b : Array UInt8} (h : b ∉ (l.filter fun x => decide (x ∉ d)).drop 1) : stepL b (l.filter fun x => decide (x ∉ d)) = l.filter fun x => decide (x ∉ d ++ [b]) := by
  have e : (l.filter fun x => decide (x ∉ d ++ [b])) = (l.filter fun x => decide (x ∉ d)).filter fun x => decide (x ≠ b) := by
    rw [List.filter_filter]
    refine List.filter_congr fun x _ => ?_
    rw [Bool.eq_iff_iff]
    simp only [decide_eq_true_eq, List.mem_append, List.mem_singleton, Bool.and_eq_true, not_or]
    exact ⟨fun h => ⟨h.2, h.1⟩, fun h => ⟨h.2, h.1⟩⟩
  rw [e]
  generalize (l.filter fun x => decide (x ∉ d)) = L at h
  cases L with
  | nil => simp [stepL]
  | cons a t =>
    have ht : b ∉ t := by simpa using h
    have et : (t.filter fun x => decide (x ≠ b)) = t := List.filter_eq_self.mpr fun x hx => decide_eq_true fun q => ht (q ▸ hx)
    unfold stepL hd0
    by_cases q : a = b
    · rw [if_pos (by simpa using q), List.filter_cons, if_neg (by simpa using q), et]; rfl
    · rw [if_neg (by simpa using q), List.filter_cons, if_pos (by simpa using q), et]
theorem cand_ok {ls : List (List (Array UInt8))} {b : Array UInt8} (h : candL (liveL ls) = some b) : ∀ l ∈ ls, b ∉ l.drop 1 := by
  intro l hl
  unfold candL at h
  cases hf : (liveL ls).find? fun l => okC (liveL ls) (hd0 l) with
  | none => rw [hf] at h; cases h
  | some l' =>
    rw [hf] at h
    have hb : hd0 l' = b := by simpa using h
    have hok := List.find?_some hf
    rw [hb] at hok
    unfold okC at hok
    cases l with
    | nil => simp
    | cons a t => 
      have := List.all_eq_true.mp hok (a :: t) (List.mem_filter.mpr ⟨hl, rfl⟩)
      simpa using this
theorem live_nil (bases : List (List (Array UInt8))) : liveL (bases.map fun _ => []) = [] := by
  unfold liveL
  rw [List.filter_eq_nil_iff]
  intro l hl
  obtain ⟨a, _, rfl⟩ := List.mem_map.mp hl
  simp
theorem merge_run {bases : List (List (Array UInt8))} {ord : List (Array UInt8)} (hc : ∀ d b r, d ++ b :: r = ord → candL (liveL (fl bases d)) = some b) (hall : ∀ l ∈ bases, ∀ x ∈ l, x ∈ ord) :
    ∀ (rest done : List (Array UInt8)) (n : Nat), done ++ rest = ord → rest.length < n → mergeF n (fl bases done) done = (ord, true, bases.map fun _ => [])
  | _, _, 0, _, h => absurd h (Nat.not_lt_zero _)
  | [], done, n + 1, e, h => by
    rw [List.append_nil] at e
    subst e
    have e2 : fl bases done = bases.map fun _ => [] := List.map_congr_left fun l hl => List.filter_eq_nil_iff.mpr fun x hx => by simpa using hall l hl x hx
    rw [e2]
    show (if liveL _ = [] then _ else _) = _
    rw [if_pos (live_nil bases)]
  | b :: rest, done, n + 1, e, h => by
    have hcd := hc done b rest e
    have h0 : liveL (fl bases done) ≠ [] := fun q => by rw [q] at hcd; cases hcd
    have hok := cand_ok hcd
    have em : (fl bases done).map (stepL b) = fl bases (done ++ [b]) := by
      unfold fl
      rw [List.map_map]
      exact List.map_congr_left fun l hl => stepL_filter (hok _ (List.mem_map_of_mem hl))
    show (if liveL (fl bases done) = [] then _ else match candL (liveL (fl bases done)) with | none => _ | some b => mergeF n ((fl bases done).map (stepL b)) (done ++ [b])) = _
    rw [if_neg h0, hcd]
    dsimp only
    rw [em]
    exact merge_run hc hall rest (done ++ [b]) n (by rw [← e]; simp) (by simpa using h)
theorem find_live {g : Row → List (Array UInt8)} (q : List (Array UInt8) → Bool) : ∀ rows : List Row, (liveL (rows.map g)).find? q = (rows.find? fun y => !(g y).isEmpty && q (g y)).map g
  | [] => rfl
  | y :: rows => by
    have ih := find_live (g := g) q rows
    unfold liveL at ih ⊢
    rw [List.map_cons, List.filter_cons, List.find?_cons]
    cases h : (!(g y).isEmpty) with
    | false => rw [if_neg (by simp), ih]; simp
    | true =>
      rw [if_pos rfl, List.find?_cons]
      cases hq : q (g y) with
      | true => simp
      | false => rw [ih]; simp
theorem ok_rows {rows : List Row} {g : Row → List (Array UInt8)} {x : Array UInt8} : okC (liveL ([] :: rows.map g)) x = true ↔ ∀ z ∈ rows, x ∉ (g z).drop 1 := by
  unfold okC
  rw [List.all_eq_true]
  constructor
  · intro h z hz
    cases hg : g z with
    | nil => simp
    | cons a t =>
      have := h (g z) (List.mem_filter.mpr ⟨List.mem_cons_of_mem _ (List.mem_map_of_mem hz), by rw [hg]; rfl⟩)
      rw [hg] at this
      simpa using this
  · intro h l hl
    obtain ⟨h1, h2⟩ := List.mem_filter.mp hl
    rcases List.mem_cons.mp h1 with rfl | h1
    · cases h2
    · obtain ⟨z, hz, rfl⟩ := List.mem_map.mp h1
      exact decide_eq_true (h z hz)
theorem live_cons0 (ls : List (List (Array UInt8))) : liveL ([] :: ls) = liveL ls := rfl
theorem cand_rows (rows : List Row) (g : Row → List (Array UInt8)) : candL (liveL ([] :: rows.map g)) = (rows.find? fun y => !(g y).isEmpty && okC (liveL ([] :: rows.map g)) (hd0 (g y))).map fun y => hd0 (g y) := by
  unfold candL
  rw [live_cons0, find_live (g := g) (fun l => okC (liveL (rows.map g)) (hd0 l)), Option.map_map]
  rfl
theorem cand_of {rows : List Row} {g : Row → List (Array UInt8)} {b : Array UInt8} (h1 : ∃ y ∈ rows, g y ≠ [] ∧ hd0 (g y) = b) (h2 : ∀ z ∈ rows, b ∉ (g z).drop 1)
    (h3 : ∀ as y bs, rows = as ++ y :: bs → g y ≠ [] → hd0 (g y) ≠ b → (∀ a ∈ as, hd0 (g a) = b → g a = []) → ∃ z ∈ rows, hd0 (g y) ∈ (g z).drop 1) : candL (liveL ([] :: rows.map g)) = some b := by
  have hokb := ok_rows.mpr h2
  rw [cand_rows]
  cases hf : rows.find? fun y => !(g y).isEmpty && okC (liveL ([] :: rows.map g)) (hd0 (g y)) with
  | none =>
    obtain ⟨y, hy, hne, hb⟩ := h1
    have := List.find?_eq_none.mp hf y hy
    rw [hb, hokb] at this
    exfalso
    apply this
    cases hg : g y with
    | nil => exact absurd hg hne
    | cons a t => rfl
  | some y =>
    obtain ⟨hp, as, bs, hr, has⟩ := List.find?_eq_some_iff_append.mp hf
    rw [Bool.and_eq_true] at hp
    have hne : g y ≠ [] := fun q => by rw [q] at hp; exact absurd hp.1 (by decide)
    by_cases hb : hd0 (g y) = b
    · simp [hb]
    · exfalso
      obtain ⟨z, hz, hin⟩ := h3 as y bs hr hne hb fun a ha hab => by
        cases hg : g a with
        | nil => rfl
        | cons c t =>
          have := has a ha
          rw [hab, hokb, hg] at this
          cases this
      exact ok_rows.mp hp.2 z hz hin
end Mine
end
section
open PySem
set_option Elab.async false
set_option linter.unusedVariables false
set_option linter.unusedSimpArgs false
namespace Mine
noncomputable def chR (y : Row) : List (Array UInt8) := if y.1 = 0 then partsF y.2 else (partsF y.2).reverse
/-- what is left of a row's chain -/
noncomputable def gR (d : List (Array UInt8)) (y : Row) : List (Array UInt8) := (chR y).filter fun x => decide (x ∉ d)
theorem fl_rows (rows : List Row) (d : List (Array UInt8)) : fl ([] :: rows.map chR) d = [] :: rows.map (gR d) := by
  unfold fl
  rw [List.map_cons, List.map_map]
  rfl
theorem mem_chR {y : Row} {x : Array UInt8} : x ∈ chR y ↔ Pt x y.2 := by
  unfold chR
  split
  · exact mem_parts
  · rw [List.mem_reverse]; exact mem_parts
theorem mem_gR {d : List (Array UInt8)} {y : Row} {x : Array UInt8} : x ∈ gR d y ↔ Pt x y.2 ∧ x ∉ d := by
  unfold gR
  rw [List.mem_filter, mem_chR, decide_eq_true_eq]
theorem up_gR {d : List (Array UInt8)} {y : Row} (h : y.1 = 0) : (gR d y).Pairwise fun x z => x.size < z.size := by
  unfold gR chR
  rw [if_pos h]
  exact (parts_sorted _).filter _
theorem down_gR {d : List (Array UInt8)} {y : Row} (h : y.1 = 1) : (gR d y).Pairwise fun x z => z.size < x.size := by
  unfold gR chR
  rw [if_neg (by lia)]
  exact (parts_down _).filter _
theorem ne_nil_of {l : List (Array UInt8)} {x : Array UInt8} (h : x ∈ l) : l ≠ [] := fun q => by rw [q] at h; cases h
theorem sz3 {x n : Array UInt8} (h : Pt x n) (h0 : x ≠ #[]) : 3 ≤ x.size := by
  have := h.1
  have : x.size ≠ 0 := fun q => h0 (Array.eq_empty_of_size_eq_zero q)
  lia
/-- the rows of the law, the ways and the sizes told -/
structure Rws (rows : List Row) : Prop where
  way : ∀ y ∈ rows, y.1 = 0 ∨ y.1 = 1
  sz : ∀ y ∈ rows, y.2.size % 3 = 0
  le : ∀ y ∈ rows, y.2.size ≤ 9
  ne : rows ≠ []
theorem mem_going {rows : List Row} {b : Array UInt8} : b ∈ goingF rows ↔ ∃ z ∈ rows, z.1 = 1 ∧ z.2 = b := by
  unfold goingF
  rw [List.mem_map]
  constructor
  · rintro ⟨z, hz, e⟩
    obtain ⟨h1, h2⟩ := List.mem_filter.mp hz
    exact ⟨z, h1, by simpa using h2, e⟩
  · rintro ⟨z, hz, h1, e⟩
    exact ⟨z, List.mem_filter.mpr ⟨hz, by simpa using h1⟩, e⟩
theorem going_split {as bs : List Row} {y : Row} (h : y.1 = 1) : goingF (as ++ y :: bs) = goingF as ++ y.2 :: goingF bs := by
  unfold goingF
  rw [List.filter_append, List.filter_cons, if_pos (by simpa using h), List.map_append, List.map_cons]
/-- no name comes and goes -/
theorem sep_rows {rows : List Row} (hc : clashF rows = []) {y z : Row} {x : Array UInt8} (hy : y ∈ rows) (h0 : y.1 = 0) (hz : z ∈ rows) (h1 : z.1 = 1) (p : Pt x y.2) (q : Pt x z.2) (hx : x ≠ #[]) : False := by
  have h3 := sz3 p hx
  have e1 : takeB 3 y.2 = takeB 3 x := by
    have := takeB_take 3 x.size y.2
    rw [p.2, Nat.min_eq_left h3] at this
    exact this.symm
  have e2 : takeB 3 z.2 = takeB 3 x := by
    have := takeB_take 3 x.size z.2
    rw [q.2, Nat.min_eq_left h3] at this
    exact this.symm
  have hm : takeB 3 y.2 ∈ firstsF rows := by
    unfold firstsF
    refine List.mem_map.mpr ⟨z.2, List.mem_filter.mpr ⟨mem_going.mpr ⟨z, hz, h1, rfl⟩, ?_⟩, e2.trans e1.symm⟩
    rw [decide_eq_true_eq]
    intro e
    have hq := q.le
    rw [e] at hq
    have h0 : x.size ≤ 0 := hq
    lia
  unfold clashF at hc
  have hc' := List.map_eq_nil_iff.mp hc
  have := List.filter_eq_nil_iff.mp hc' y hy
  apply this
  simp [h0, hm]
/-- the kept ones -/
structure KInv (gs as ks : List (Array UInt8)) : Prop where
  a : ∀ k ∈ ks, k ∈ as ∧ longerF gs k = []
  b : ∀ x ∈ as, longerF gs x = [] → x ∈ ks
  c : ks.Pairwise fun k k' => k ≠ k' ∧ ∀ a1 a2, as = a1 ++ k' :: a2 → k ∈ a1
theorem snoc_split {α : Type} {as a1 a2 : List α} {n k : α} (h : as ++ [n] = a1 ++ k :: a2) : (k = n ∧ a1 = as ∧ a2 = []) ∨ ∃ a3, a2 = a3 ++ [n] ∧ as = a1 ++ k :: a3 := by
  rcases List.eq_nil_or_concat a2 with rfl | ⟨a3, x, rfl⟩
  · left
    have := List.append_inj' h rfl
    obtain ⟨h1, h2⟩ := this
    have h2' : n = k := by simpa using h2
    exact ⟨h2'.symm, h1.symm, rfl⟩
  · right
    have e : a1 ++ k :: (a3 ++ [x]) = (a1 ++ k :: a3) ++ [x] := by simp
    have h' : as ++ [n] = (a1 ++ k :: a3) ++ [x] := by rw [h, List.concat_eq_append, e]
    obtain ⟨h1, h2⟩ := List.append_inj' h' rfl
    have h2' : n = x := by simpa using h2
    exact ⟨a3, by rw [List.concat_eq_append, h2'], h1⟩
theorem KInv.step {gs as ks : List (Array UInt8)} (H : KInv gs as ks) (n : Array UInt8) : KInv gs (as ++ [n]) (keptStep gs ks n) := by
  have old : ∀ k k', k ∈ ks → (k ≠ k' ∧ ∀ a1 a2, as = a1 ++ k' :: a2 → k ∈ a1) → (k ≠ k' ∧ ∀ a1 a2, as ++ [n] = a1 ++ k' :: a2 → k ∈ a1) := fun k k' hk h => ⟨h.1, fun a1 a2 e => by
    rcases snoc_split e with ⟨rfl, rfl, rfl⟩ | ⟨a3, rfl, e'⟩
    · exact (H.a k hk).1
    · exact h.2 a1 a3 e'⟩
  by_cases hc : longerF gs n = [] ∧ n ∉ ks
  · have e : keptStep gs ks n = ks ++ [n] := keptStep_pos (by simp [hc])
    rw [e]
    refine ⟨fun k hk => ?_, fun x hx hl => ?_, ?_⟩
    · rcases List.mem_append.mp hk with hk | hk
      · exact ⟨List.mem_append_left _ (H.a k hk).1, (H.a k hk).2⟩
      · rw [List.mem_singleton.mp hk]; exact ⟨by simp, hc.1⟩
    · rcases List.mem_append.mp hx with hx | hx
      · exact List.mem_append_left _ (H.b x hx hl)
      · rw [List.mem_singleton.mp hx]; simp
    · rw [List.pairwise_append]
      refine ⟨List.Pairwise.imp_of_mem (fun {k k'} hk _ h => old k k' hk h) H.c, List.pairwise_singleton _ _, fun k hk k' hk' => ?_⟩
      rw [List.mem_singleton.mp hk']
      refine ⟨fun q => hc.2 (q ▸ hk), fun a1 a2 e => ?_⟩
      rcases snoc_split e with ⟨_, rfl, rfl⟩ | ⟨a3, rfl, e'⟩
      · exact (H.a k hk).1
      · exact absurd (H.b n (by rw [e']; simp) hc.1) hc.2
  · have e : keptStep gs ks n = ks := keptStep_neg (by
      rw [Bool.and_eq_false_iff]
      by_cases h1 : longerF gs n = []
      · right
        have : n ∈ ks := Classical.byContradiction fun q => hc ⟨h1, q⟩
        simp [this]
      · left; simp [h1])
    rw [e]
    refine ⟨fun k hk => ⟨List.mem_append_left _ (H.a k hk).1, (H.a k hk).2⟩, fun x hx hl => ?_, List.Pairwise.imp_of_mem (fun {k k'} hk _ h => old k k' hk h) H.c⟩
    rcases List.mem_append.mp hx with hx | hx
    · exact H.b x hx hl
    · rw [List.mem_singleton.mp hx] at hl ⊢
      exact Classical.byContradiction fun q => hc ⟨hl, q⟩
theorem KInv.all {gs : List (Array UInt8)} : ∀ (rest as ks : List (Array UInt8)), KInv gs as ks → KInv gs (as ++ rest) (rest.foldl (keptStep gs) ks)
  | [], as, ks, H => by rw [List.append_nil]; exact H
  | n :: rest, as, ks, H => by
    have := KInv.all rest (as ++ [n]) (keptStep gs ks n) (H.step n)
    rw [List.append_assoc] at this
    exact this
theorem kept_inv (gs : List (Array UInt8)) : KInv gs gs (keptF gs) := by
  have := KInv.all (gs := gs) gs [] [] ⟨by simp, by simp, List.Pairwise.nil⟩
  rw [List.nil_append] at this
  exact this
theorem longer_nil {gs : List (Array UInt8)} {n o : Array UInt8} (h : longerF gs n = []) (ho : o ∈ gs) (hp : takeB n.size o = n) : o = n := Classical.byContradiction fun q => by
  have := List.filter_eq_nil_iff.mp h o ho
  apply this
  simp [q, hp]
/-- each going name lies in one that is kept -/
theorem kept_over (gs : List (Array UInt8)) (c : Nat) (hg : ∀ b ∈ gs, b.size ≤ c) : ∀ (m : Nat) (n : Array UInt8), n ∈ gs → c - n.size < m → ∃ k ∈ keptF gs, takeB n.size k = n
  | 0, _, _, h => absurd h (Nat.not_lt_zero _)
  | m + 1, n, hn, h => by
    by_cases hl : longerF gs n = []
    · exact ⟨n, (kept_inv gs).b n hn hl, takeB_all (Nat.le_refl _)⟩
    · obtain ⟨o, ho⟩ := List.exists_mem_of_ne_nil _ hl
      obtain ⟨h1, h2⟩ := List.mem_filter.mp ho
      simp only [ne_eq, decide_not, Bool.and_eq_true, Bool.not_eq_eq_eq_not, Bool.not_true, decide_eq_false_iff_not, decide_eq_true_eq] at h2
      have hsz : n.size < o.size := by
        have e1 := takeB_sz n.size o
        rw [h2.2] at e1
        have hle : n.size ≤ o.size := by lia
        rcases Nat.lt_or_eq_of_le hle with h3 | h3
        · exact h3
        · exfalso
          apply h2.1
          have := h2.2
          rw [takeB_all (by lia)] at this
          exact this
      obtain ⟨k, hk, e⟩ := kept_over gs c hg m o h1 (by have := hg o h1; lia)
      refine ⟨k, hk, ?_⟩
      have := takeB_take n.size o.size k
      rw [e, Nat.min_eq_left (by lia), h2.2] at this
      exact this.symm
/-- the beginnings told at a place -/
noncomputable def emitF (ks : List (Array UInt8)) (p : Nat) : List (Array UInt8) :=
  ((List.range (((ks.getD p #[]).size + 2) / 3)).filter fun i => decide (laterF ks p ((ks.getD p #[]).size - 3 * i) (takeB ((ks.getD p #[]).size - 3 * i) (ks.getD p #[])) = [])).map fun i => takeB ((ks.getD p #[]).size - 3 * i) (ks.getD p #[])
theorem foldl_ifs {α β : Type} (c : α → Bool) (f : α → β) : ∀ (l : List α) (acc : List β), l.foldl (fun acc i => if c i = true then acc ++ [f i] else acc) acc = acc ++ (l.filter c).map f
  | [], acc => by simp
  | i :: l, acc => by
    rw [List.foldl_cons, List.filter_cons, foldl_ifs c f l]
    by_cases h : c i = true
    · rw [if_pos h, if_pos h]; simp
    · rw [if_neg h, if_neg h]
theorem ordRow_emit (ks acc : List (Array UInt8)) (p : Nat) : ordRow ks acc p = acc ++ emitF ks p := by
  unfold ordRow emitF
  rw [← foldl_ifs]
  congr 1
  funext acc i
  unfold ordStep
  by_cases h : laterF ks p ((ks.getD p #[]).size - 3 * i) (takeB ((ks.getD p #[]).size - 3 * i) (ks.getD p #[])) = []
  · rw [if_pos h, if_pos (by simpa using h)]
  · rw [if_neg h, if_neg (by simpa using h)]
theorem foldl_flat {α β : Type} (F : α → List β) : ∀ (l : List α) (acc : List β), l.foldl (fun acc p => acc ++ F p) acc = acc ++ l.flatMap F
  | [], acc => by simp
  | p :: l, acc => by rw [List.foldl_cons, foldl_flat F l, List.flatMap_cons, List.append_assoc]
theorem order1_flat (ks : List (Array UInt8)) : order1 ks = (List.range ks.length).flatMap (emitF ks) := by
  unfold order1
  have : ordRow ks = fun acc p => acc ++ emitF ks p := by funext acc p; exact ordRow_emit ks acc p
  rw [this, foldl_flat]; simp
theorem up3 {q n : Nat} (h : 3 * q < n) : q < (n + 2) / 3 := (Nat.le_div_iff_mul_le (by decide : 0 < 3)).mpr (by rw [Nat.succ_mul, Nat.mul_comm]; exact Nat.add_le_add_right h 2)
theorem lt3 {i n : Nat} (h : i < (n + 2) / 3) : 3 * i < n := by
  have h1 := (Nat.le_div_iff_mul_le (by decide : 0 < 3)).mp h
  rw [Nat.succ_mul, Nat.mul_comm] at h1
  exact Nat.le_of_add_le_add_right (b := 2) h1
theorem m3 {n i : Nat} (h : n % 3 = 0) : (n - 3 * i) % 3 = 0 := Nat.mod_eq_zero_of_dvd (Nat.dvd_sub (Nat.dvd_of_mod_eq_zero h) (Nat.dvd_mul_right 3 i))
theorem back3 {n x : Nat} (hn : n % 3 = 0) (hx : x % 3 = 0) (h : x ≤ n) : n - 3 * ((n - x) / 3) = x := by
  rw [Nat.mul_div_cancel' (Nat.dvd_sub (Nat.dvd_of_mod_eq_zero hn) (Nat.dvd_of_mod_eq_zero hx)), Nat.sub_sub_self h]
theorem drop_get {ks : List (Array UInt8)} {p : Nat} {o : Array UInt8} : o ∈ ks.drop (p + 1) ↔ ∃ q, p < q ∧ q < ks.length ∧ ks.getD q #[] = o := by
  constructor
  · intro h
    obtain ⟨j, hj, e⟩ := List.mem_iff_getElem.mp h
    have hj' : p + 1 + j < ks.length := by rw [List.length_drop] at hj; exact Nat.add_lt_of_lt_sub' hj
    exact ⟨p + 1 + j, Nat.lt_of_lt_of_le (Nat.lt_succ_self p) (Nat.le_add_right _ _), hj', by rw [getD_at hj', ← e, List.getElem_drop]⟩
  · rintro ⟨q, h1, h2, e⟩
    refine List.mem_iff_getElem.mpr ⟨q - (p + 1), by rw [List.length_drop]; exact Nat.sub_lt_sub_right h1 h2, ?_⟩
    rw [List.getElem_drop, ← e, getD_at h2]
    congr 1; exact Nat.add_sub_cancel' h1
theorem mem_emit {ks : List (Array UInt8)} {p : Nat} {x : Array UInt8} (h3 : (ks.getD p #[]).size % 3 = 0) : x ∈ emitF ks p ↔ Pt x (ks.getD p #[]) ∧ x ≠ #[] ∧ ∀ q, p < q → q < ks.length → ¬ Pt x (ks.getD q #[]) := by
  unfold emitF
  generalize hn : ks.getD p #[] = n at h3
  rw [List.mem_map]
  constructor
  · rintro ⟨i, hi, rfl⟩
    obtain ⟨h1, h2⟩ := List.mem_filter.mp hi
    have h1' := List.mem_range.mp h1
    have hs : (takeB (n.size - 3 * i) n).size = n.size - 3 * i := by rw [takeB_sz, Nat.min_eq_left (Nat.sub_le _ _)]
    rw [decide_eq_true_eq] at h2
    refine ⟨⟨by rw [hs]; exact m3 h3, by rw [hs]⟩, fun q => by rw [q] at hs; exact absurd hs (Nat.ne_of_lt (Nat.sub_pos_of_lt (lt3 h1'))), fun q hq hql hP => ?_⟩
    have := List.filter_eq_nil_iff.mp h2 _ (drop_get.mpr ⟨q, hq, hql, rfl⟩)
    apply this
    have h9 := hP.2
    rw [hs] at h9
    simpa using h9
  · rintro ⟨h1, h2, h4⟩
    have hle := h1.le
    have h5 := h1.1
    have hx3 := sz3 h1 h2
    have e : n.size - 3 * ((n.size - x.size) / 3) = x.size := back3 h3 h5 hle
    refine ⟨(n.size - x.size) / 3, List.mem_filter.mpr ⟨List.mem_range.mpr (up3 (by rw [Nat.mul_div_cancel' (Nat.dvd_sub (Nat.dvd_of_mod_eq_zero h3) (Nat.dvd_of_mod_eq_zero h5))]; exact Nat.sub_lt (Nat.lt_of_lt_of_le (Nat.lt_of_lt_of_le (by decide) hx3) hle) (Nat.lt_of_lt_of_le (by decide) hx3))), ?_⟩, by rw [e]; exact h1.2⟩
    rw [decide_eq_true_eq, e, h1.2]
    refine List.filter_eq_nil_iff.mpr fun o ho => ?_
    obtain ⟨q, hq, hql, rfl⟩ := drop_get.mp ho
    intro hd
    exact h4 q hq hql ⟨h5, by simpa using hd⟩
theorem emit_down {ks : List (Array UInt8)} {p : Nat} (h3 : (ks.getD p #[]).size % 3 = 0) : (emitF ks p).Pairwise fun x y => y.size < x.size := by
  unfold emitF
  rw [List.pairwise_map]
  refine List.Pairwise.imp_of_mem (fun {a b} ha hb hab => ?_) (List.pairwise_lt_range.filter _)
  have h1 := List.mem_range.mp (List.mem_filter.mp ha).1
  have h2 := List.mem_range.mp (List.mem_filter.mp hb).1
  rw [takeB_sz, takeB_sz, Nat.min_eq_left (Nat.sub_le _ _), Nat.min_eq_left (Nat.sub_le _ _)]
  exact Nat.sub_lt_sub_left (lt3 h1) ((Nat.mul_lt_mul_left (by decide)).mpr hab)
end Mine
end
section
open PySem
set_option Elab.async false
set_option linter.unusedVariables false
set_option linter.unusedSimpArgs false
namespace Mine
/-- what the going part tells, in order -/
noncomputable def RelE (ks : List (Array UInt8)) (x y : Array UInt8) : Prop := ∃ p q, p < ks.length ∧ q < ks.length ∧ x ∈ emitF ks p ∧ y ∈ emitF ks q ∧ (p < q ∨ (p = q ∧ y.size < x.size))
section
variable {ks : List (Array UInt8)} (h3 : ∀ p, p < ks.length → (ks.getD p #[]).size % 3 = 0)
include h3
theorem emit_uniq {x : Array UInt8} {p q : Nat} (hp : p < ks.length) (hq : q < ks.length) (h1 : x ∈ emitF ks p) (h2 : x ∈ emitF ks q) : p = q := by
  obtain ⟨a1, _, a3⟩ := (mem_emit (h3 p hp)).mp h1
  obtain ⟨b1, _, b3⟩ := (mem_emit (h3 q hq)).mp h2
  rcases Nat.lt_trichotomy p q with h | h | h
  · exact absurd b1 (a3 q h hq)
  · exact h
  · exact absurd a1 (b3 p h hp)
theorem order1_rel : (order1 ks).Pairwise (RelE ks) := by
  rw [order1_flat, List.pairwise_flatMap]
  refine ⟨fun p hp => ?_, ?_⟩
  · have hp' := List.mem_range.mp hp
    exact List.Pairwise.imp_of_mem (fun {a b} ha hb h => ⟨p, p, hp', hp', ha, hb, .inr ⟨rfl, h⟩⟩) (emit_down (h3 p hp'))
  · refine List.Pairwise.imp_of_mem (fun {p q} hp hq hpq x hx y hy => ?_) List.pairwise_lt_range
    exact ⟨p, q, List.mem_range.mp hp, List.mem_range.mp hq, hx, hy, .inl hpq⟩
theorem RelE.asym {x y : Array UInt8} (a : RelE ks x y) (b : RelE ks y x) : False := by
  obtain ⟨p, q, hp, hq, h1, h2, h⟩ := a
  obtain ⟨p', q', hp', hq', h1', h2', h'⟩ := b
  have e1 := emit_uniq h3 hp hq' h1 h2'
  have e2 := emit_uniq h3 hq hp' h2 h1'
  lia
theorem mem_order1 {x : Array UInt8} : x ∈ order1 ks ↔ ∃ p, p < ks.length ∧ x ∈ emitF ks p := by
  rw [order1_flat, List.mem_flatMap]
  exact ⟨fun ⟨p, hp, hx⟩ => ⟨p, List.mem_range.mp hp, hx⟩, fun ⟨p, hp, hx⟩ => ⟨p, List.mem_range.mpr hp, hx⟩⟩
/-- the last place that bears a beginning -/
theorem last_place {x : Array UInt8} (hx0 : x ≠ #[]) : ∀ (m p : Nat), ks.length - p < m → p < ks.length → Pt x (ks.getD p #[]) → ∃ q, p ≤ q ∧ q < ks.length ∧ x ∈ emitF ks q
  | 0, _, h, _, _ => absurd h (Nat.not_lt_zero _)
  | m + 1, p, h, hp, hP => by
    by_cases hq : ∃ q, p < q ∧ q < ks.length ∧ Pt x (ks.getD q #[])
    · obtain ⟨q, h1, h2, h4⟩ := hq
      obtain ⟨r, a, b, c⟩ := last_place hx0 m q (by lia) h2 h4
      exact ⟨r, by lia, b, c⟩
    · exact ⟨p, Nat.le_refl _, hp, (mem_emit (h3 p hp)).mpr ⟨hP, hx0, fun q h1 h2 h4 => hq ⟨q, h1, h2, h4⟩⟩⟩
end
section
variable {rows : List Row} (R : Rws rows)
include R
theorem kept_sz : ∀ p, p < (keptF (goingF rows)).length → ((keptF (goingF rows)).getD p #[]).size % 3 = 0 := fun p hp => by
  rw [getD_at hp]
  obtain ⟨z, hz, _, e⟩ := mem_going.mp ((kept_inv (goingF rows)).a _ (List.getElem_mem hp)).1
  rw [← e]; exact R.sz z hz
/-- a going name's beginnings are told -/
theorem told_going {z : Row} {x : Array UInt8} (hz : z ∈ rows) (h1 : z.1 = 1) (hP : Pt x z.2) (hx : x ≠ #[]) : x ∈ order1 (keptF (goingF rows)) := by
  obtain ⟨k, hk, e⟩ := kept_over (goingF rows) 9 (fun b hb => by obtain ⟨z, hz, _, e⟩ := mem_going.mp hb; rw [← e]; exact R.le z hz) 10 z.2 (mem_going.mpr ⟨z, hz, h1, rfl⟩) (by lia)
  obtain ⟨p, hp, e2⟩ := List.mem_iff_getElem.mp hk
  have hPk : Pt x ((keptF (goingF rows)).getD p #[]) := by
    rw [getD_at hp, e2]
    exact hP.trans ⟨R.sz z hz, e⟩
  obtain ⟨q, _, h2, h4⟩ := last_place (kept_sz R) hx ((keptF (goingF rows)).length + 1) p (by lia) hp hPk
  exact (mem_order1 (kept_sz R)).mpr ⟨q, h2, h4⟩
theorem kept_row {p : Nat} (hp : p < (keptF (goingF rows)).length) : ∃ z ∈ rows, z.1 = 1 ∧ z.2 = (keptF (goingF rows)).getD p #[] := by
  rw [getD_at hp]
  exact mem_going.mp ((kept_inv (goingF rows)).a _ (List.getElem_mem hp)).1
theorem order1_ne {x : Array UInt8} (h : x ∈ order1 (keptF (goingF rows))) : x ≠ #[] := by
  obtain ⟨p, hp, hx⟩ := (mem_order1 (kept_sz R)).mp h
  exact ((mem_emit (kept_sz R p hp)).mp hx).2.1
/-- the going part: the next to be told is the merge's choice -/
theorem cand1 (hc : clashF rows = []) {d r : List (Array UInt8)} {b : Array UInt8} (h : d ++ b :: r = order1 (keptF (goingF rows))) : candL (liveL ([] :: rows.map (gR d))) = some b := by
  have hK := kept_sz R
  have hrel := order1_rel hK
  rw [← h, List.pairwise_append, List.pairwise_cons] at hrel
  obtain ⟨_, ⟨hbr, _⟩, hdb⟩ := hrel
  have hb : b ∈ order1 (keptF (goingF rows)) := by rw [← h]; simp
  obtain ⟨p, hp, hbp⟩ := (mem_order1 hK).mp hb
  have hbe := (mem_emit (hK p hp)).mp hbp
  have hbd : b ∉ d := fun q => RelE.asym hK (hdb b q b List.mem_cons_self) (hdb b q b List.mem_cons_self)
  have h0d : (#[] : Array UInt8) ∉ d := fun q => order1_ne R (by rw [← h]; exact List.mem_append_left _ q) rfl
  have later : ∀ c, c ∈ order1 (keptF (goingF rows)) → c ≠ b → c ∉ d → RelE (keptF (goingF rows)) b c := fun c hc hcb hcd => by
    rw [← h] at hc
    rcases List.mem_append.mp hc with q | q
    · exact absurd q hcd
    · rcases List.mem_cons.mp q with q | q
      · exact absurd q hcb
      · exact hbr c q
  obtain ⟨zp, hzp, hzp1, hzpe⟩ := kept_row R hp
  have hbz : Pt b zp.2 := hzpe ▸ hbe.1
  -- b lies in no tail
  have h2 : ∀ z ∈ rows, b ∉ (gR d z).drop 1 := fun z hz hin => by
    have hm := mem_gR.mp (of_drop hin)
    rcases R.way z hz with hw | hw
    · exact sep_rows hc hz hw hzp hzp1 hm.1 hbz hbe.2.1
    · have hs := drop_rel (down_gR (d := d) hw) hin
      have hy0 := mem_gR.mp (hd_mem (ne_nil_of (of_drop hin)))
      generalize hd0 (gR d z) = y0 at hs hy0
      have hy0n : y0 ≠ #[] := fun q => by rw [q] at hs; simp at hs
      obtain ⟨p', q', hp', hq', g1, g2, g3⟩ := later y0 (told_going R hz hw hy0.1 hy0n) (fun q => by rw [q] at hs; lia) hy0.2
      have e1 := emit_uniq hK hp hp' hbp g1
      subst e1
      have g2' := (mem_emit (hK q' hq')).mp g2
      rcases g3 with g3 | ⟨rfl, g3⟩
      · exact hbe.2.2 q' g3 hq' ((hm.1.of hy0.1 (by lia)).trans g2'.1)
      · lia
  have hbg : b ∈ gR d zp := mem_gR.mpr ⟨hbz, hbd⟩
  have hbh : hd0 (gR d zp) = b := (hd_or hbg).resolve_right (h2 zp hzp)
  have h0z : (#[] : Array UInt8) ∈ (gR d zp).drop 1 := (hd_or (mem_gR.mpr ⟨Pt.nil, h0d⟩)).resolve_left fun q => hbe.2.1 (hbh.symm.trans q)
  refine cand_of ⟨zp, hzp, ne_nil_of hbg, hbh⟩ h2 fun as y bs hr hne hcb has => ?_
  have hy : y ∈ rows := by rw [hr]; simp
  have hcm := mem_gR.mp (hd_mem hne)
  rcases R.way y hy with hw | hw
  · -- a coming row: its head is nothing
    have e0 : hd0 (gR d y) = #[] := by
      rcases hd_or (mem_gR.mpr ⟨Pt.nil, h0d⟩ : (#[] : Array UInt8) ∈ gR d y) with q | q
      · exact q
      · have := drop_rel (up_gR (d := d) hw) q
        simp at this
    exact ⟨zp, hzp, e0 ▸ h0z⟩
  · generalize hd0 (gR d y) = c at hcb hcm
    by_cases hc0 : c = #[]
    · exact ⟨zp, hzp, hc0 ▸ h0z⟩
    · obtain ⟨p', q, hp', hq, g1, g2, g3⟩ := later c (told_going R hy hw hcm.1 hc0) hcb hcm.2
      have e1 := emit_uniq hK hp hp' hbp g1
      subst e1
      have g2' := (mem_emit (hK q hq)).mp g2
      rcases g3 with g3 | ⟨rfl, g3⟩
      · by_cases hcq : c = (keptF (goingF rows)).getD q #[]
        · -- the name itself: a row ahead bears b
          exfalso
          have hyq : y.2 = c := by
            have hk := (kept_inv (goingF rows)).a c (by rw [hcq, getD_at hq]; exact List.getElem_mem hq)
            exact longer_nil hk.2 (mem_going.mpr ⟨y, hy, hw, rfl⟩) hcm.1.2
          have hpw := List.pairwise_iff_getElem.mp (kept_inv (goingF rows)).c p q hp hq g3
          have hsp : goingF rows = goingF as ++ (keptF (goingF rows))[q] :: goingF bs := by
            conv => lhs; rw [hr]
            rw [going_split hw, hyq, hcq, getD_at hq]
          have hin := hpw.2 _ _ hsp
          obtain ⟨a, ha, ha1, ha2⟩ := mem_going.mp hin
          have haP : b ∈ gR d a := mem_gR.mpr ⟨by rw [ha2, ← getD_at hp #[]]; exact hbe.1, hbd⟩
          have hah := (hd_or haP).resolve_right (h2 a (by rw [hr]; exact List.mem_append_left _ ha))
          exact ne_nil_of haP (has a ha hah)
        · -- the name that bears it is not told yet
          obtain ⟨zq, hzq, hzq1, hzqe⟩ := kept_row R hq
          have hkq0 : (keptF (goingF rows)).getD q #[] ≠ #[] := fun e => by
            have hl := g2'.1.le
            rw [e] at hl
            have h9 := sz3 g2'.1 hc0
            have h0 : c.size ≤ 0 := hl
            lia
          have hkq : (keptF (goingF rows)).getD q #[] ∈ emitF (keptF (goingF rows)) q := by
            refine (mem_emit (hK q hq)).mpr ⟨Pt.refl (hK q hq), hkq0, fun q2 h4 h5 h6 => ?_⟩
            have hkm := (kept_inv (goingF rows)).a ((keptF (goingF rows)).getD q #[]) (by rw [getD_at hq]; exact List.getElem_mem hq)
            have hkm2 := (kept_inv (goingF rows)).a ((keptF (goingF rows)).getD q2 #[]) (by rw [getD_at h5]; exact List.getElem_mem h5)
            have e2 := longer_nil hkm.2 hkm2.1 h6.2
            have hpw := (List.pairwise_iff_getElem.mp (kept_inv (goingF rows)).c q q2 hq h5 h4).1
            rw [getD_at hq, getD_at h5] at e2
            exact hpw e2.symm
          have hkd : (keptF (goingF rows)).getD q #[] ∉ d := fun hin => by
            obtain ⟨a1, a2, l1, l2, m1, m2, m3⟩ := hdb _ hin b List.mem_cons_self
            have e1 := emit_uniq hK l1 hq m1 hkq
            have e2 := emit_uniq hK l2 hp m2 hbp
            lia
          have hcz : c ∈ gR d zq := mem_gR.mpr ⟨hzqe ▸ g2'.1, hcm.2⟩
          have hkz : (keptF (goingF rows)).getD q #[] ∈ gR d zq := mem_gR.mpr ⟨by rw [hzqe]; exact Pt.refl (hK q hq), hkd⟩
          refine ⟨zq, hzq, (hd_or hcz).resolve_left fun e => ?_⟩
          have hle := g2'.1.le
          have hlt : c.size ≠ ((keptF (goingF rows)).getD q #[]).size := fun e => hcq (g2'.1.eq e)
          rcases hd_or hkz with e3 | e3
          · exact hcq (e.symm.trans e3)
          · have := drop_rel (down_gR (d := d) hzq1) e3
            rw [e] at this
            lia
      · have hcb' : Pt c b := g2'.1.of hbe.1 (by lia)
        have hcz : c ∈ gR d zp := mem_gR.mpr ⟨hcb'.trans hbz, hcm.2⟩
        exact ⟨zp, hzp, (hd_or hcz).resolve_left fun e => hcb (e.symm.trans hbh)⟩
end
end Mine
end
section
open PySem
set_option Elab.async false
set_option linter.unusedVariables false
set_option linter.unusedSimpArgs false
set_option linter.unusedSectionVars false
namespace Mine
/-- told once -/
noncomputable def insF (acc : List (Array UInt8)) (x : Array UInt8) : List (Array UInt8) := if x ∉ acc then acc ++ [x] else acc
/-- the beginnings of a coming name that are something -/
noncomputable def comeL (y : Row) : List (Array UInt8) := if y.1 = 0 then (List.range (y.2.size / 3)).map fun i => takeB (3 + 3 * i) y.2 else []
theorem comeRow_ins (acc : List (Array UInt8)) (y : Row) : comeRow acc y = (comeL y).foldl insF acc := by
  unfold comeRow comeL
  by_cases h : y.1 = 0
  · rw [if_pos h, List.foldl_map]
    congr 1
    funext acc i
    unfold comeStep insF
    by_cases hm : takeB (3 + 3 * i) y.2 ∉ acc
    · rw [if_pos (by simp [h, hm]), if_pos hm]
    · rw [if_neg (by simp [h]; simpa using hm), if_neg hm]
  · rw [if_neg h]
    have : ∀ (l : List Nat) (a : List (Array UInt8)), l.foldl (comeStep y) a = a := by
      intro l
      induction l with
      | nil => intro a; rfl
      | cons i l ih =>
        intro a
        rw [List.foldl_cons]
        have : comeStep y a i = a := by unfold comeStep; rw [if_neg (by simp [h])]
        rw [this]; exact ih a
    exact this _ _
theorem come_flat : ∀ (rows : List Row) (acc : List (Array UInt8)), rows.foldl comeRow acc = (rows.flatMap comeL).foldl insF acc
  | [], _ => rfl
  | y :: rows, acc => by rw [List.foldl_cons, come_flat rows, comeRow_ins, List.flatMap_cons, List.foldl_append]
theorem ins_pre : ∀ (F acc : List (Array UInt8)), ∃ C, F.foldl insF acc = acc ++ C
  | [], acc => ⟨[], by simp⟩
  | x :: F, acc => by
    rw [List.foldl_cons]
    obtain ⟨C, e⟩ := ins_pre F (insF acc x)
    rw [e]
    unfold insF
    by_cases h : x ∉ acc
    · rw [if_pos h]; exact ⟨x :: C, by simp⟩
    · rw [if_neg h]; exact ⟨C, rfl⟩
theorem ins_mem : ∀ (F acc : List (Array UInt8)) (x : Array UInt8), x ∈ F.foldl insF acc ↔ x ∈ acc ∨ x ∈ F
  | [], acc, x => by simp
  | y :: F, acc, x => by
    rw [List.foldl_cons, ins_mem F]
    unfold insF
    by_cases h : y ∉ acc
    · rw [if_pos h]; simp [or_assoc]
    · rw [if_neg h]
      have hy : y ∈ acc := Classical.byContradiction h
      constructor
      · rintro (a | a)
        · exact .inl a
        · exact .inr (List.mem_cons_of_mem _ a)
      · rintro (a | a)
        · exact .inl a
        · rcases List.mem_cons.mp a with rfl | a
          · exact .inl hy
          · exact .inr a
theorem ins_split : ∀ (F acc C' r : List (Array UInt8)) (b : Array UInt8), F.foldl insF acc = acc ++ C' ++ b :: r → ∃ f1 f2, F = f1 ++ b :: f2 ∧ (∀ x, x ∈ acc ++ C' ↔ x ∈ acc ∨ x ∈ f1) ∧ b ∉ acc ++ C'
  | [], acc, C', r, b, h => by
    exfalso
    have := congrArg List.length h
    simp at this
  | y :: F, acc, C', r, b, h => by
    rw [List.foldl_cons] at h
    by_cases hy : y ∉ acc
    · have e : insF acc y = acc ++ [y] := by unfold insF; rw [if_pos hy]
      rw [e] at h
      cases C' with
      | nil =>
        obtain ⟨C, e2⟩ := ins_pre F (acc ++ [y])
        rw [e2] at h
        have h' : acc ++ (y :: C) = acc ++ (b :: r) := by simpa using h
        have h2 := List.append_cancel_left h'
        have hyb : y = b := (List.cons.inj h2).1
        refine ⟨[], F, by rw [hyb]; rfl, fun x => by simp, by rw [← hyb]; simpa using hy⟩
      | cons c C' =>
        obtain ⟨C, e2⟩ := ins_pre F (acc ++ [y])
        have h0 : acc ++ (y :: C) = acc ++ (c :: (C' ++ b :: r)) := by rw [e2] at h; simpa using h
        have hyc : y = c := (List.cons.inj (List.append_cancel_left h0)).1
        subst hyc
        obtain ⟨f1, f2, e3, e4, e5⟩ := ins_split F (acc ++ [y]) C' r b (by rw [h]; simp)
        refine ⟨y :: f1, f2, by rw [e3]; rfl, fun x => ?_, by simpa using e5⟩
        have := e4 x
        simp only [List.append_assoc, List.cons_append, List.nil_append, List.mem_append, List.mem_cons, List.not_mem_nil, or_false] at this ⊢
        rw [this, or_assoc]
    · have e : insF acc y = acc := by unfold insF; rw [if_neg hy]
      rw [e] at h
      have hy' : y ∈ acc := Classical.byContradiction hy
      obtain ⟨f1, f2, e3, e4, e5⟩ := ins_split F acc C' r b h
      refine ⟨y :: f1, f2, by rw [e3]; rfl, fun x => ?_, e5⟩
      rw [e4 x]
      constructor
      · rintro (a | a)
        · exact .inl a
        · exact .inr (List.mem_cons_of_mem _ a)
      · rintro (a | a)
        · exact .inl a
        · rcases List.mem_cons.mp a with rfl | a
          · exact .inl hy'
          · exact .inr a
theorem le33 {i n : Nat} (h : i < n / 3) : 3 + 3 * i ≤ n := by
  rw [Nat.add_comm, ← Nat.mul_succ]
  exact Nat.le_trans (Nat.mul_le_mul_left 3 h) (Nat.mul_div_le n 3)
theorem mem_comeL {y : Row} (h3 : y.2.size % 3 = 0) {x : Array UInt8} : x ∈ comeL y ↔ y.1 = 0 ∧ Pt x y.2 ∧ x ≠ #[] := by
  unfold comeL
  by_cases h : y.1 = 0
  · rw [if_pos h, List.mem_map]
    constructor
    · rintro ⟨i, hi, rfl⟩
      have hi' := List.mem_range.mp hi
      have hs : (takeB (3 + 3 * i) y.2).size = 3 + 3 * i := by rw [takeB_sz, Nat.min_eq_left (le33 hi')]
      exact ⟨h, ⟨by rw [hs]; exact (Nat.add_mul_mod_self_left 3 3 i).trans rfl, by rw [hs]⟩, fun q => by rw [q] at hs; exact absurd (hs.trans (Nat.add_comm 3 (3 * i))) (Nat.succ_ne_zero _).symm⟩
    · rintro ⟨_, hP, h0⟩
      have := sz3 hP h0
      have h5 := hP.1
      have h6 := hP.le
      have e : 3 + 3 * ((x.size - 3) / 3) = x.size := by rw [Nat.mul_div_cancel' (Nat.dvd_sub (Nat.dvd_of_mod_eq_zero h5) (Nat.dvd_refl 3)), Nat.add_sub_cancel' this]
      exact ⟨(x.size - 3) / 3, List.mem_range.mpr ((Nat.le_div_iff_mul_le (by decide)).mpr (by rw [Nat.succ_mul, Nat.mul_comm, Nat.add_comm, e]; exact h6)), by rw [e]; exact hP.2⟩
  · rw [if_neg h]; simp [h]
theorem comeL_up (y : Row) : (comeL y).Pairwise fun x z => x.size < z.size := by
  unfold comeL
  split
  · rw [List.pairwise_map]
    refine List.Pairwise.imp_of_mem (fun {a b} ha hb hab => ?_) List.pairwise_lt_range
    have h1 := List.mem_range.mp ha
    have h2 := List.mem_range.mp hb
    rw [takeB_sz, takeB_sz, Nat.min_eq_left (le33 h1), Nat.min_eq_left (le33 h2)]
    exact Nat.add_lt_add_left ((Nat.mul_lt_mul_left (by decide)).mpr hab) 3
  · exact List.Pairwise.nil
/-- where a thing of a flat list stands -/
theorem flat_split {α β : Type} (F : α → List β) : ∀ (rows : List α) (f1 f2 : List β) (b : β), rows.flatMap F = f1 ++ b :: f2 → ∃ as y bs g1 g2, rows = as ++ y :: bs ∧ F y = g1 ++ b :: g2 ∧ f1 = as.flatMap F ++ g1
  | [], f1, f2, b, h => by simp at h
  | y :: rows, f1, f2, b, h => by
    rw [List.flatMap_cons] at h
    rcases List.append_eq_append_iff.mp h with ⟨a', h1, h2⟩ | ⟨c', h1, h2⟩
    · obtain ⟨as, y', bs, g1, g2, e1, e2, e3⟩ := flat_split F rows a' f2 b h2
      exact ⟨y :: as, y', bs, g1, g2, by rw [e1]; rfl, e2, by rw [h1, e3, List.flatMap_cons, List.append_assoc]⟩
    · cases c' with
      | nil =>
        have h2' : rows.flatMap F = [] ++ b :: f2 := by simpa using h2.symm
        obtain ⟨as, y', bs, g1, g2, e1, e2, e3⟩ := flat_split F rows [] f2 b h2'
        refine ⟨y :: as, y', bs, g1, g2, by rw [e1]; rfl, e2, ?_⟩
        have e3' := List.append_eq_nil_iff.mp e3.symm
        rw [List.flatMap_cons, e3'.1, e3'.2]
        simpa using h1.symm
      | cons c c' =>
        have : b = c := (List.cons.inj h2).1
        subst this
        exact ⟨[], y, rows, f1, c', rfl, h1, by simp⟩
section
variable {rows : List Row} (R : Rws rows)
include R
theorem cand2 (hc : clashF rows = []) : candL (liveL ([] :: rows.map (gR (order1 (keptF (goingF rows)))))) = some #[] := by
  have h0d : (#[] : Array UInt8) ∉ order1 (keptF (goingF rows)) := fun q => order1_ne R q rfl
  have hh : ∀ z ∈ rows, hd0 (gR (order1 (keptF (goingF rows))) z) = #[] ∧ gR (order1 (keptF (goingF rows))) z ≠ [] := fun z hz => by
    have hm : (#[] : Array UInt8) ∈ gR (order1 (keptF (goingF rows))) z := mem_gR.mpr ⟨Pt.nil, h0d⟩
    refine ⟨?_, ne_nil_of hm⟩
    rcases hd_or hm with q | q
    · exact q
    · rcases R.way z hz with hw | hw
      · have := drop_rel (up_gR (d := order1 (keptF (goingF rows))) hw) q
        have h0 : (hd0 (gR (order1 (keptF (goingF rows))) z)).size < 0 := this
        exact absurd h0 (Nat.not_lt_zero _)
      · have hs := drop_rel (down_gR (d := order1 (keptF (goingF rows))) hw) q
        have hm0 := mem_gR.mp (hd_mem (ne_nil_of hm))
        have hne : hd0 (gR (order1 (keptF (goingF rows))) z) ≠ #[] := fun e => by rw [e] at hs; exact absurd hs (Nat.lt_irrefl _)
        exact absurd (told_going R hz hw hm0.1 hne) hm0.2
  obtain ⟨y, hy⟩ := List.exists_mem_of_ne_nil _ R.ne
  refine cand_of ⟨y, hy, (hh y hy).2, (hh y hy).1⟩ (fun z hz hin => ?_) fun as y bs hr hne hcb has => absurd (hh y (by rw [hr]; simp)).1 hcb
  rcases R.way z hz with hw | hw
  · have := drop_rel (up_gR (d := order1 (keptF (goingF rows))) hw) hin
    have h0 : (hd0 (gR (order1 (keptF (goingF rows))) z)).size < 0 := this
    exact absurd h0 (Nat.not_lt_zero _)
  · have := drop_rel (down_gR (d := order1 (keptF (goingF rows))) hw) hin
    rw [(hh z hz).1] at this
    exact absurd this (Nat.lt_irrefl _)
theorem cand3 (hc : clashF rows = []) {C' r : List (Array UInt8)} {b : Array UInt8} (h : orderF rows = (order1 (keptF (goingF rows)) ++ [#[]]) ++ C' ++ b :: r) : candL (liveL ([] :: rows.map (gR ((order1 (keptF (goingF rows)) ++ [#[]]) ++ C')))) = some b := by
  unfold orderF at h
  rw [come_flat] at h
  obtain ⟨f1, f2, hF, hmem, hbd⟩ := ins_split _ _ _ _ _ h
  obtain ⟨as, y0, bs, g1, g2, hr, hy0, hf1⟩ := flat_split _ _ _ _ _ hF
  generalize hd : (order1 (keptF (goingF rows)) ++ [#[]]) ++ C' = d at hmem hbd ⊢
  have hy0m : y0 ∈ rows := by rw [hr]; simp
  have hb9 := (mem_comeL (R.sz y0 hy0m)).mp (by rw [hy0]; simp : b ∈ comeL y0)
  have h0d : (#[] : Array UInt8) ∈ d := (hmem #[]).mpr (.inl (by simp))
  have hog : ∀ x, x ∈ order1 (keptF (goingF rows)) → x ∈ d := fun x hx => (hmem x).mpr (.inl (List.mem_append_left _ hx))
  have hgo : ∀ z ∈ rows, z.1 = 1 → gR d z = [] := fun z hz hw => by
    cases hg : gR d z with
    | nil => rfl
    | cons x t =>
      have hx := mem_gR.mp (by rw [hg]; exact List.mem_cons_self : x ∈ gR d z)
      by_cases hx0 : x = #[]
      · exact absurd (hx0 ▸ h0d) hx.2
      · exact absurd (hog x (told_going R hz hw hx.1 hx0)) hx.2
  have hsm : ∀ c, Pt c b → c ≠ b → c ∈ d := fun c hcb hne => by
    by_cases hc0 : c = #[]
    · exact hc0 ▸ h0d
    · have hcm : c ∈ comeL y0 := (mem_comeL (R.sz y0 hy0m)).mpr ⟨hb9.1, hcb.trans hb9.2.1, hc0⟩
      rw [hy0] at hcm
      have hup := comeL_up y0
      rw [hy0, List.pairwise_append, List.pairwise_cons] at hup
      refine (hmem c).mpr (.inr ?_)
      rw [hf1]
      rcases List.mem_append.mp hcm with q | q
      · exact List.mem_append_right _ q
      · rcases List.mem_cons.mp q with q | q
        · exact absurd q hne
        · have h1 := hup.2.1.1 c q
          have h2 := hcb.le
          lia
  have h2 : ∀ z ∈ rows, b ∉ (gR d z).drop 1 := fun z hz hin => by
    rcases R.way z hz with hw | hw
    · have hs := drop_rel (up_gR (d := d) hw) hin
      have hm := mem_gR.mp (of_drop hin)
      have hh := mem_gR.mp (hd_mem (ne_nil_of (of_drop hin)))
      exact hh.2 (hsm _ (hh.1.of hm.1 (by lia)) fun e => by rw [e] at hs; exact absurd hs (Nat.lt_irrefl _))
    · rw [hgo z hz hw] at hin; simp at hin
  have hbg : b ∈ gR d y0 := mem_gR.mpr ⟨hb9.2.1, hbd⟩
  have hbh := (hd_or hbg).resolve_right (h2 y0 hy0m)
  refine cand_of ⟨y0, hy0m, ne_nil_of hbg, hbh⟩ h2 fun as' y bs' hr' hne hcb has => ?_
  exfalso
  have hym : y ∈ rows := by rw [hr']; simp
  rcases R.way y hym with hw | hw
  · -- where y stands against y0
    have hall : ∀ z ∈ as, gR d z = [] := fun z hz => by
      have hzm : z ∈ rows := by rw [hr]; exact List.mem_append_left _ hz
      rcases R.way z hzm with hzw | hzw
      · cases hg : gR d z with
        | nil => rfl
        | cons x t =>
          have hx := mem_gR.mp (by rw [hg]; exact List.mem_cons_self : x ∈ gR d z)
          by_cases hx0 : x = #[]
          · exact absurd (hx0 ▸ h0d) hx.2
          · refine absurd ((hmem x).mpr (.inr ?_)) hx.2
            rw [hf1]
            exact List.mem_append_left _ (List.mem_flatMap.mpr ⟨z, hz, (mem_comeL (R.sz z hzm)).mpr ⟨hzw, hx.1, hx0⟩⟩)
      · exact hgo z hzm hzw
    rw [hr] at hr'
    rcases List.append_eq_append_iff.mp hr' with ⟨a', q1, q2⟩ | ⟨c', q1, q2⟩
    · cases a' with
      | nil =>
        have : y0 = y := (List.cons.inj q2).1
        exact hcb (this ▸ hbh)
      | cons x a' =>
        have : y0 = x := (List.cons.inj q2).1
        subst this
        exact ne_nil_of hbg (has y0 (by rw [q1]; simp) hbh)
    · cases c' with
      | nil =>
        have : y = y0 := (List.cons.inj q2).1
        exact hcb (this ▸ hbh)
      | cons x c' =>
        have : y = x := (List.cons.inj q2).1
        subst this
        exact hne (hall y (by rw [q1]; simp))
  · exact hne (hgo y hym hw)
theorem merge_ok (hc : clashF rows = []) : mergeF (totL ([] :: rows.map chR) + 1) ([] :: rows.map chR) [] = (orderF rows, true, ([] :: rows.map chR).map fun _ => []) := by
  have hfl : fl ([] :: rows.map chR) [] = [] :: rows.map chR := by
    unfold fl
    have : ∀ l : List (Array UInt8), (l.filter fun x => decide (x ∉ ([] : List (Array UInt8)))) = l := fun l => List.filter_eq_self.mpr fun x _ => by simp
    rw [show (fun l : List (Array UInt8) => l.filter fun x => decide (x ∉ ([] : List (Array UInt8)))) = fun l => l from funext this, List.map_id']
  obtain ⟨C, hC⟩ : ∃ C, orderF rows = (order1 (keptF (goingF rows)) ++ [#[]]) ++ C := by
    unfold orderF
    rw [come_flat]
    exact ins_pre _ _
  have hcand : ∀ d b r, d ++ b :: r = orderF rows → candL (liveL (fl ([] :: rows.map chR) d)) = some b := by
    intro d b r h
    rw [fl_rows]
    rw [hC] at h
    rcases List.append_eq_append_iff.mp h with ⟨a', h1, h2⟩ | ⟨c', h1, h2⟩
    · cases a' with
      | nil =>
        have h1' : order1 (keptF (goingF rows)) ++ [#[]] = d := by simpa using h1
        have h2' : C = [] ++ b :: r := by simpa using h2.symm
        have := cand3 R hc (C' := []) (b := b) (r := r) (by rw [hC, h2']; simp)
        rw [List.append_nil] at this
        rw [← h1']; exact this
      | cons x a' =>
        have : b = x := (List.cons.inj h2).1
        subst this
        rcases List.append_eq_append_iff.mp h1 with ⟨a1, q1, q2⟩ | ⟨c1, q1, q2⟩
        · cases a1 with
          | nil =>
            have : b = #[] := ((List.cons.inj q2).1).symm
            subst this
            have : order1 (keptF (goingF rows)) = d := by simpa using q1.symm
            rw [← this]
            exact cand2 R hc
          | cons c a1 =>
            exfalso
            have := (List.cons.inj q2).2
            simp at this
        · cases c1 with
          | nil =>
            have : b = #[] := (List.cons.inj q2).1
            subst this
            have : order1 (keptF (goingF rows)) = d := by simpa using q1
            rw [← this]
            exact cand2 R hc
          | cons c c1 =>
            have : b = c := (List.cons.inj q2).1
            subst this
            exact cand1 R hc q1.symm
    · have := cand3 R hc (C' := c') (b := b) (r := r) (by rw [hC, h2]; simp)
      rw [h1]; exact this
  have hall : ∀ l ∈ [] :: rows.map chR, ∀ x ∈ l, x ∈ orderF rows := by
    intro l hl x hx
    rcases List.mem_cons.mp hl with rfl | hl
    · cases hx
    · obtain ⟨y, hy, rfl⟩ := List.mem_map.mp hl
      have hP := mem_chR.mp hx
      unfold orderF
      rw [come_flat, ins_mem]
      by_cases hx0 : x = #[]
      · left; rw [hx0]; simp
      · rcases R.way y hy with hw | hw
        · right; exact List.mem_flatMap.mpr ⟨y, hy, (mem_comeL (R.sz y hy)).mpr ⟨hw, hP, hx0⟩⟩
        · left; exact List.mem_append_left _ (told_going R hy hw hP hx0)
  have := merge_run hcand hall (orderF rows) [] (totL ([] :: rows.map chR) + (orderF rows).length + 1) rfl (by lia)
  rw [hfl] at this
  rw [mergeF_more (totL ([] :: rows.map chR)) (totL ([] :: rows.map chR) + (orderF rows).length) _ _ (Nat.le_refl _) (by lia)]
  exact this
end
end Mine
end
section
open PySem
set_option Elab.async false
set_option linter.unusedVariables false
set_option linter.unusedSimpArgs false
set_option linter.unusedSectionVars false
namespace Mine
section
variable {rows : List Row} (R : Rws rows)
include R
theorem mem_coming {x : Array UInt8} : x ∈ comingF rows ↔ ∃ y ∈ rows, y.1 = 0 ∧ Pt x y.2 := by
  unfold comingF
  rw [List.mem_flatMap]
  constructor
  · rintro ⟨y, hy, hx⟩
    obtain ⟨h1, h2⟩ := List.mem_filter.mp hy
    exact ⟨y, h1, by simpa using h2, mem_parts.mp hx⟩
  · rintro ⟨y, hy, h0, hP⟩
    exact ⟨y, List.mem_filter.mpr ⟨hy, by simpa using h0⟩, mem_parts.mpr hP⟩
/-- a beginning that both come and go with -/
theorem clash_of (hc : clashF rows ≠ []) : ∃ t c z, c ∈ rows ∧ c.1 = 0 ∧ z ∈ rows ∧ z.1 = 1 ∧ Pt t c.2 ∧ Pt t z.2 ∧ t ≠ #[] := by
  unfold clashF at hc
  obtain ⟨b, hb⟩ := List.exists_mem_of_ne_nil _ hc
  obtain ⟨c, hcm, rfl⟩ := List.mem_map.mp hb
  obtain ⟨h1, h2⟩ := List.mem_filter.mp hcm
  simp only [Bool.and_eq_true, decide_eq_true_eq] at h2
  unfold firstsF at h2
  obtain ⟨n, hn, e⟩ := List.mem_map.mp h2.2
  obtain ⟨h3, h4⟩ := List.mem_filter.mp hn
  obtain ⟨z, hz, hz1, rfl⟩ := mem_going.mp h3
  have h4' : z.2 ≠ #[] := by simpa using h4
  have hz3 := R.sz z hz
  have hzp : z.2.size ≠ 0 := fun q => h4' (Array.eq_empty_of_size_eq_zero q)
  have hs : (takeB 3 z.2).size = 3 := by rw [takeB_sz]; lia
  refine ⟨takeB 3 z.2, c, z, h1, h2.1, hz, hz1, ⟨by rw [hs], by rw [hs]; exact e.symm⟩, ⟨by rw [hs], by rw [hs]⟩, fun q => ?_⟩
  rw [q] at hs
  exact absurd hs (by decide)
/-- a clash: what is told is never what some coming name begins with -/
theorem clash_step (hc : clashF rows ≠ []) {d : List (Array UInt8)} (hd : ∀ x ∈ d, x ∉ comingF rows) {b : Array UInt8} (h : candL (liveL ([] :: rows.map (gR d))) = some b) : b ∉ comingF rows := by
  intro hbc
  have hok : ∀ z ∈ rows, b ∉ (gR d z).drop 1 := fun z hz => cand_ok h _ (List.mem_cons_of_mem _ (List.mem_map_of_mem hz))
  by_cases hb0 : b = #[]
  · obtain ⟨t, c, z, h1, h2, h3, h4, h5, h6, h7⟩ := clash_of R hc
    have htd : t ∉ d := fun q => hd t q ((mem_coming R).mpr ⟨c, h1, h2, h5⟩)
    have h0d : (#[] : Array UInt8) ∉ d := fun q => hd _ q (hb0 ▸ hbc)
    have htz : t ∈ gR d z := mem_gR.mpr ⟨h6, htd⟩
    have h0z : (#[] : Array UInt8) ∈ gR d z := mem_gR.mpr ⟨Pt.nil, h0d⟩
    rcases hd_or h0z with q | q
    · rcases hd_or htz with q2 | q2
      · exact h7 (q2.symm.trans q)
      · have := drop_rel (down_gR (d := d) h4) q2
        rw [q] at this
        have h9 : t.size < 0 := this
        lia
    · exact hok z h3 (hb0 ▸ q)
  · obtain ⟨y, hy, hy0, hP⟩ := (mem_coming R).mp hbc
    have hbd : b ∉ d := fun q => hd b q hbc
    have h0d : (#[] : Array UInt8) ∉ d := fun q => hd _ q ((mem_coming R).mpr ⟨y, hy, hy0, Pt.nil⟩)
    rcases hd_or (mem_gR.mpr ⟨hP, hbd⟩ : b ∈ gR d y) with q | q
    · rcases hd_or (mem_gR.mpr ⟨Pt.nil, h0d⟩ : (#[] : Array UInt8) ∈ gR d y) with q2 | q2
      · exact hb0 (q.symm.trans q2)
      · have := drop_rel (up_gR (d := d) hy0) q2
        have h9 : (hd0 (gR d y)).size < 0 := this
        lia
    · exact hok y hy q
/-- where no more can be told, what is left is what the law says -/
theorem clash_stuck {d : List (Array UInt8)} (hd : ∀ x ∈ d, x ∉ comingF rows) (h : candL (liveL ([] :: rows.map (gR d))) = none) : ([] : List (Array UInt8)) :: rows.map (gR d) = leftF rows := by
  -- every going beginning that does not come is told
  have key : ∀ (m : Nat) (x : Array UInt8), 9 - x.size < m → ∀ z ∈ rows, z.1 = 1 → Pt x z.2 → x ∉ comingF rows → x ∈ d := by
    intro m
    induction m with
    | zero => intro x hm; exact absurd hm (Nat.not_lt_zero _)
    | succ m ih =>
      intro x hm z hz hz1 hP hxc
      refine Classical.byContradiction fun hxd => ?_
      have hx : x ∈ gR d z := mem_gR.mpr ⟨hP, hxd⟩
      have big : ∀ (w : Array UInt8) (z' : Row), z' ∈ rows → z'.1 = 1 → w ∈ gR d z' → x ∈ gR d z' → w.size ≤ x.size := fun w z' hz' hz1' hw hx' => by
        refine Classical.byContradiction fun hlt => ?_
        have hwm := mem_gR.mp hw
        have hxm := mem_gR.mp hx'
        have hxw : Pt x w := hxm.1.of hwm.1 (by lia)
        refine hwm.2 (ih w (by have := hwm.1.le; have := R.le z' hz'; lia) z' hz' hz1' hwm.1 fun q => hxc ?_)
        obtain ⟨c, hc, hc0, hcP⟩ := (mem_coming R).mp q
        exact (mem_coming R).mpr ⟨c, hc, hc0, hxw.trans hcP⟩
      have hok : ∀ z' ∈ rows, x ∉ (gR d z').drop 1 := fun z' hz' hin => by
        rcases R.way z' hz' with hw | hw
        · exact hxc ((mem_coming R).mpr ⟨z', hz', hw, (mem_gR.mp (of_drop hin)).1⟩)
        · have hs := drop_rel (down_gR (d := d) hw) hin
          have := big _ z' hz' hw (hd_mem (ne_nil_of (of_drop hin))) (of_drop hin)
          lia
      have hhd := (hd_or hx).resolve_right (hok z hz)
      rw [cand_rows] at h
      have hn := Option.map_eq_none_iff.mp h
      have := List.find?_eq_none.mp hn z hz
      apply this
      rw [hhd, ok_rows.mpr hok]
      cases hg : gR d z with
      | nil => rw [hg] at hx; cases hx
      | cons a t => rfl
  unfold leftF
  congr 1
  refine List.map_congr_left fun y hy => ?_
  unfold leftRow
  rcases R.way y hy with hw | hw
  · rw [if_neg (by lia)]
    unfold gR chR
    rw [if_pos hw]
    exact List.filter_eq_self.mpr fun x hx => decide_eq_true fun q => hd x q ((mem_coming R).mpr ⟨y, hy, hw, mem_parts.mp hx⟩)
  · rw [if_pos hw]
    unfold gR chR
    rw [if_neg (by lia)]
    refine List.filter_congr fun x hx => ?_
    have hP := mem_parts.mp (List.mem_reverse.mp hx)
    rw [decide_eq_decide]
    constructor
    · intro hxd
      exact Classical.byContradiction fun q => hxd (key 10 x (by lia) y hy hw hP q)
    · intro hxc hxd
      exact hd x hxd hxc
theorem clash_live (hc : clashF rows ≠ []) {d : List (Array UInt8)} (hd : ∀ x ∈ d, x ∉ comingF rows) : liveL ([] :: rows.map (gR d)) ≠ [] := by
  obtain ⟨t, c, z, h1, h2, h3, h4, h5, h6, h7⟩ := clash_of R hc
  have htz : t ∈ gR d z := mem_gR.mpr ⟨h6, fun q => hd t q ((mem_coming R).mpr ⟨c, h1, h2, h5⟩)⟩
  refine List.ne_nil_of_mem (a := gR d z) (List.mem_filter.mpr ⟨List.mem_cons_of_mem _ (List.mem_map_of_mem h3), ?_⟩)
  cases hg : gR d z with
  | nil => rw [hg] at htz; cases htz
  | cons a l => rfl
theorem clash_run (hc : clashF rows ≠ []) : ∀ (n : Nat) (d acc : List (Array UInt8)), (∀ x ∈ d, x ∉ comingF rows) → totL ([] :: rows.map (gR d)) < n → ∃ acc', mergeF n ([] :: rows.map (gR d)) acc = (acc', false, leftF rows)
  | 0, _, _, _, h => absurd h (Nat.not_lt_zero _)
  | n + 1, d, acc, hd, h => by
    have hl := clash_live R hc hd
    cases hcd : candL (liveL ([] :: rows.map (gR d))) with
    | none =>
      refine ⟨acc, ?_⟩
      show (if liveL ([] :: rows.map (gR d)) = [] then _ else match candL (liveL ([] :: rows.map (gR d))) with | none => (acc, false, [] :: rows.map (gR d)) | some b => _) = _
      rw [if_neg hl, hcd]
      dsimp only
      rw [clash_stuck R hd hcd]
    | some b =>
      have hok := cand_ok hcd
      have em : ([] :: rows.map (gR d)).map (stepL b) = [] :: rows.map (gR (d ++ [b])) := by
        rw [List.map_cons, List.map_map]
        have e0 : stepL b [] = [] := by unfold stepL; split <;> rfl
        rw [e0]
        congr 1
        refine List.map_congr_left fun y hy => ?_
        exact stepL_filter (hok _ (List.mem_cons_of_mem _ (List.mem_map_of_mem hy)))
      have hb := clash_step R hc hd hcd
      have hlt : totL (([] :: rows.map (gR d)).map (stepL b)) < totL ([] :: rows.map (gR d)) := by
        refine totL_lt _ ?_
        unfold candL at hcd
        cases hf : (liveL ([] :: rows.map (gR d))).find? fun l => okC (liveL ([] :: rows.map (gR d))) (hd0 l) with
        | none => rw [hf] at hcd; cases hcd
        | some l =>
          rw [hf] at hcd
          obtain ⟨h1, h2⟩ := List.mem_filter.mp (List.mem_of_find?_eq_some hf)
          exact ⟨l, h1, fun q => by rw [q] at h2; exact absurd h2 (by decide), by simpa using hcd⟩
      rw [em] at hlt
      have hd' : ∀ x ∈ d ++ [b], x ∉ comingF rows := fun x hx => by
        rcases List.mem_append.mp hx with q | q
        · exact hd x q
        · rw [List.mem_singleton.mp q]; exact hb
      obtain ⟨acc', e⟩ := clash_run hc n (d ++ [b]) (acc ++ [b]) hd' (by lia)
      refine ⟨acc', ?_⟩
      rw [mergeF_turn hl hcd, em]
      exact e
theorem merge_clash (hc : clashF rows ≠ []) : ∃ acc, mergeF (totL ([] :: rows.map chR) + 1) ([] :: rows.map chR) [] = (acc, false, leftF rows) := by
  have e : ([] : List (Array UInt8)) :: rows.map chR = [] :: rows.map (gR []) := by
    congr 1
    refine List.map_congr_left fun y _ => ?_
    unfold gR
    exact (List.filter_eq_self.mpr fun x _ => by simp).symm
  rw [e]
  exact clash_run R hc _ [] [] (by simp) (by lia)
/-- the merge is what the law says it is -/
theorem merge_law : (∃ acc, dueF rows = none ∧ mergeF (totL ([] :: rows.map chR) + 1) ([] :: rows.map chR) [] = (acc, false, leftF rows)) ∨ (∃ bs, dueF rows = some bs ∧ mergeF (totL ([] :: rows.map chR) + 1) ([] :: rows.map chR) [] = (bs, true, ([] :: rows.map chR).map fun _ => [])) := by
  unfold dueF
  by_cases hc : clashF rows = []
  · right; exact ⟨orderF rows, by rw [if_pos hc], merge_ok R hc⟩
  · left
    obtain ⟨acc, e⟩ := merge_clash R hc
    exact ⟨acc, by rw [if_neg hc], e⟩
end
end Mine
end
section
open PySem PySem.W PyProof.Rows PySem.Calls PySem.SeqAt
set_option Elab.async false
set_option linter.unusedVariables false
namespace Mine
noncomputable def cellsF (ns : List Int) : List Int := (ns ++ [7, 2, 3, 0, 7, 1, 3, 16]).take 8
noncomputable def pairs4 : List Str := [Str.ofString "\"/", Str.ofString "-\"", Str.ofString "\"+", Str.ofString "_\""]
noncomputable def pairF (n : Nat) : Str := pairs4.getD (n % 4) (Str.ofString "\"/")
noncomputable def markF (p : Str) : Int := if Txt.item p 0 = Str.ofString "\"" then 62 else 63
/-- a row of the law -/
noncomputable def rowF (ns : List Int) (mk : Int) (c : Nat) : Row := ((((cellsF ns).getD c 0).fdiv 6).fmod 2, nameF ((cellsF ns).getD c 0) ((cellsF ns).getD (c + 1) 0) mk)
theorem pairF_len (n : Nat) : (pairF n).length = 2 := by
  have h : n % 4 = 0 ∨ n % 4 = 1 ∨ n % 4 = 2 ∨ n % 4 = 3 := by lia
  unfold pairF pairs4
  rcases h with h | h | h | h <;> rw [h] <;> decide
end Mine
end
section
open PySem PySem.W PyProof.Rows
set_option Elab.async false
set_option linter.unusedVariables false
set_option linter.unusedSimpArgs false
namespace Mine
/-- a table of two signs, read -/
noncomputable def tabV (a b c d k : UInt8) : UInt8 := if k = b then d else if k = a then c else k
theorem tabD (a b c d k : UInt8) : (mkTab #[a, b] #[c, d]).getD k.toNat k = tabV a b c d k := by
  have hk := k.toNat_lt
  unfold mkTab tabV
  show ((((Array.range 256).map (·.toUInt8)).setIfInBounds a.toNat c).setIfInBounds b.toNat d).getD k.toNat k = _
  rw [Array.getD_eq_getD_getElem?, Array.getElem?_setIfInBounds, Array.getElem?_setIfInBounds]
  by_cases hb : k = b
  · rw [if_pos (by rw [hb]), if_pos hb]
    have : b.toNat < 256 := b.toNat_lt
    simp [hb, this]
  · rw [if_neg (fun q => hb (UInt8.toNat_inj.mp q).symm), if_neg hb]
    by_cases ha : k = a
    · rw [if_pos (by rw [ha]), if_pos ha]
      have : a.toNat < 256 := a.toNat_lt
      simp [ha, this]
    · rw [if_neg (fun q => ha (UInt8.toNat_inj.mp q).symm), if_neg ha]
      simp [hk]
/-- the pairs' signs -/
noncomputable def pcs : List (Nat × Nat) := [(34, 47), (45, 34), (34, 43), (95, 34)]
theorem pair_cs : ∀ i : Fin 4, (pairF i.val).cps.toList = [(pcs.getD i.val (0, 0)).1, (pcs.getD i.val (0, 0)).2] := by decide +kernel
theorem encA_pair (i : Fin 4) : encA (pairF i.val) = #[(pcs.getD i.val (0, 0)).1.toUInt8, (pcs.getD i.val (0, 0)).2.toUInt8] := by
  unfold encA; rw [pair_cs]; rfl
noncomputable def B64N : List Nat := [65, 66, 67, 68, 69, 70, 71, 72, 73, 74, 75, 76, 77, 78, 79, 80, 81, 82, 83, 84, 85, 86, 87, 88, 89, 90, 97, 98, 99, 100, 101, 102, 103, 104, 105, 106, 107, 108, 109, 110, 111, 112, 113, 114, 115, 116, 117, 118, 119, 120, 121, 122, 48, 49, 50, 51, 52, 53, 54, 55, 56, 57]
theorem sgs_list (i : Fin 4) : (sgs (pairF i.val)).cps.toList = B64N ++ [(pcs.getD i.val (0, 0)).1, (pcs.getD i.val (0, 0)).2] := by
  unfold sgs
  rw [cps_app, pair_cs]
  congr 1
/-- the sign of a number below 64, as a code point; and in plain base 64 -/
noncomputable def sgc (p : Str) (v : Nat) : Nat := (sgs p).cps.toList.getD v 0
noncomputable def E8 (v : Nat) : UInt8 := B64L.getD v 0
set_option maxRecDepth 100000 in
theorem tab_v4 : ∀ (i : Fin 4) (v : Fin 64), tabV 43 47 (pcs.getD i.val (0, 0)).1.toUInt8 (pcs.getD i.val (0, 0)).2.toUInt8 (E8 v.val) = ((B64N ++ [(pcs.getD i.val (0, 0)).1, (pcs.getD i.val (0, 0)).2]).getD v.val 0).toUInt8 ∧ tabV (pcs.getD i.val (0, 0)).1.toUInt8 (pcs.getD i.val (0, 0)).2.toUInt8 43 47 (((B64N ++ [(pcs.getD i.val (0, 0)).1, (pcs.getD i.val (0, 0)).2]).getD v.val 0).toUInt8) = E8 v.val ∧ (B64N ++ [(pcs.getD i.val (0, 0)).1, (pcs.getD i.val (0, 0)).2]).getD v.val 0 < 128 := by decide +kernel
theorem tab_ok4 (i : Fin 4) (v : Fin 64) : (mkTab #[43, 47] (encA (pairF i.val))).getD (E8 v.val).toNat (E8 v.val) = (sgc (pairF i.val) v.val).toUInt8 ∧ (mkTab (encA (pairF i.val)) #[43, 47]).getD ((sgc (pairF i.val) v.val).toUInt8).toNat ((sgc (pairF i.val) v.val).toUInt8) = E8 v.val ∧ sgc (pairF i.val) v.val < 128 := by
  unfold sgc
  rw [encA_pair, sgs_list, tabD, tabD]
  exact tab_v4 i v
theorem b64_ok : ∀ v : Fin 64, b64v ((E8 v.val).toNat : Int) = (v.val : Int) ∧ (E8 v.val).toNat ≠ 61 := by decide +kernel
theorem pairF_mod (n : Nat) : pairF n = pairF (n % 4) := by unfold pairF; rw [Nat.mod_mod]
theorem pairF_asc (n : Nat) : ∀ c ∈ (pairF n).cps.toList, c < 128 := by
  rw [pairF_mod]
  have : ∀ i : Fin 4, ∀ c ∈ (pairF i.val).cps.toList, c < 128 := by decide +kernel
  exact this ⟨n % 4, by omega⟩
section
variable {n : Nat}
theorem tab1 {v : Nat} (h : v < 64) : (mkTab #[43, 47] (encA (pairF n))).getD (E8 v).toNat (E8 v) = (sgc (pairF n) v).toUInt8 := by
  rw [pairF_mod]; exact (tab_ok4 ⟨n % 4, by omega⟩ ⟨v, h⟩).1
theorem tab2 {v : Nat} (h : v < 64) : (mkTab (encA (pairF n)) #[43, 47]).getD ((sgc (pairF n) v).toUInt8).toNat ((sgc (pairF n) v).toUInt8) = E8 v := by
  rw [pairF_mod]; exact (tab_ok4 ⟨n % 4, by omega⟩ ⟨v, h⟩).2.1
theorem sgc_asc {v : Nat} (h : v < 64) : sgc (pairF n) v < 128 := by
  rw [pairF_mod]; exact (tab_ok4 ⟨n % 4, by omega⟩ ⟨v, h⟩).2.2
end
/-- the six-bit numbers of three octets -/
noncomputable def q3 (x y z : Nat) : List Nat := [x / 4, x % 4 * 16 + y / 16, y % 16 * 4 + z / 64, z % 64]
/-- the six-bit numbers of a name -/
noncomputable def quads (b : Array UInt8) : List Nat := (List.range (b.size / 3)).flatMap fun i => q3 (b.toList.getD (3 * i) 0).toNat (b.toList.getD (3 * i + 1) 0).toNat (b.toList.getD (3 * i + 2) 0).toNat
theorem below_of {a q m d : Nat} (ha : a < m) (hq : q < d) : a * d + q < m * d := Nat.lt_of_lt_of_le (Nat.add_lt_add_left hq _) (by rw [← Nat.succ_mul]; exact Nat.mul_le_mul_right _ ha)
theorem q3_lt {x y z : Nat} (hx : x < 256) (hy : y < 256) (hz : z < 256) : ∀ v ∈ q3 x y z, v < 64 := by
  unfold q3
  simp only [List.mem_cons, List.not_mem_nil, or_false]
  rintro v (rfl | rfl | rfl | rfl)
  · exact Nat.div_lt_of_lt_mul hx
  · exact below_of (m := 4) (d := 16) (Nat.mod_lt _ (by decide)) (Nat.div_lt_of_lt_mul hy)
  · exact below_of (m := 16) (d := 4) (Nat.mod_lt _ (by decide)) (Nat.div_lt_of_lt_mul hz)
  · exact Nat.mod_lt _ (by decide)
theorem quads_lt (b : Array UInt8) : ∀ v ∈ quads b, v < 64 := fun v hv => by
  obtain ⟨i, _, h⟩ := List.mem_flatMap.mp hv
  exact q3_lt (UInt8.toNat_lt _) (UInt8.toNat_lt _) (UInt8.toNat_lt _) v h
theorem e64_nat (v : Nat) : e64 (v : Int) = ((E8 v).toNat : Int) := by unfold e64 E8; rw [Int.toNat_natCast]
theorem estep3 (c : List Int) (x y z : Nat) (hx : x < 256) (hy : y < 256) (hz : z < 256) (l : Int) : estep (estep (estep (c, l, 0) (x : Int)) (y : Int)) (z : Int) = (c ++ (q3 x y z).map fun v => ((E8 v).toNat : Int), (z : Int), 0) := by
  have e1 : (x : Int) / 4 = ((x / 4 : Nat) : Int) := rfl
  have e2 : (x : Int) % 4 * 16 + (y : Int) / 16 = ((x % 4 * 16 + y / 16 : Nat) : Int) := rfl
  have e3 : (y : Int) % 16 * 4 + (z : Int) / 64 = ((y % 16 * 4 + z / 64 : Nat) : Int) := rfl
  have e4 : (z : Int) % 64 = ((z % 64 : Nat) : Int) := rfl
  have s1 : estep (c, l, 0) (x : Int) = (c ++ [e64 ((x : Int) / 4)], (x : Int), 2) := by unfold estep; rw [if_pos rfl]
  have s2 : ∀ c' : List Int, estep (c', (x : Int), 2) (y : Int) = (c' ++ [e64 ((x : Int) % 4 * 16 + (y : Int) / 16)], (y : Int), 4) := fun c' => by unfold estep; rw [if_neg (show ¬ ((2 : Int) = 0) by decide), if_pos rfl]
  have s3 : ∀ c' : List Int, estep (c', (y : Int), 4) (z : Int) = (c' ++ [e64 ((y : Int) % 16 * 4 + (z : Int) / 64), e64 ((z : Int) % 64)], (z : Int), 0) := fun c' => by unfold estep; rw [if_neg (show ¬ ((4 : Int) = 0) by decide), if_neg (show ¬ ((4 : Int) = 2) by decide)]
  rw [s1, s2, s3, e1, e2, e3, e4, e64_nat, e64_nat, e64_nat, e64_nat]
  simp [q3]
theorem arr3 {b : Array UInt8} (h : b.size = 3) : ∃ x y z, b = #[x, y, z] := by
  obtain ⟨l⟩ := b
  match l, h with
  | [x, y, z], _ => exact ⟨x, y, z, rfl⟩
theorem arr6 {b : Array UInt8} (h : b.size = 6) : ∃ x y z u v w, b = #[x, y, z, u, v, w] := by
  obtain ⟨l⟩ := b
  match l, h with
  | [x, y, z, u, v, w], _ => exact ⟨x, y, z, u, v, w, rfl⟩
theorem arr0 {b : Array UInt8} (h : b.size = 0) : b = #[] := Array.eq_empty_of_size_eq_zero h
theorem quads3 (x y z : UInt8) : quads #[x, y, z] = q3 x.toNat y.toNat z.toNat := by
  unfold quads
  have e : (#[x, y, z] : Array UInt8).size / 3 = 1 := by simp
  rw [e]
  simp [List.range_succ]
theorem quads6 (x y z u v w : UInt8) : quads #[x, y, z, u, v, w] = q3 x.toNat y.toNat z.toNat ++ q3 u.toNat v.toNat w.toNat := by
  unfold quads
  have e : (#[x, y, z, u, v, w] : Array UInt8).size / 3 = 2 := by simp
  rw [e]
  simp [List.range_succ]
theorem quads0 : quads #[] = [] := rfl
theorem enc_quads {b : Array UInt8} (hb : b.size = 0 ∨ b.size = 3 ∨ b.size = 6) : (enc (KBw.bInts b)).1 = (quads b).map (fun v => ((E8 v).toNat : Int)) ∧ (enc (KBw.bInts b)).2.2 = 0 := by
  rcases hb with h | h | h
  · rw [arr0 h]; exact ⟨rfl, rfl⟩
  · obtain ⟨x, y, z, rfl⟩ := arr3 h
    have e : enc (KBw.bInts #[x, y, z]) = estep (estep (estep ([], 0, 0) (x.toNat : Int)) (y.toNat : Int)) (z.toNat : Int) := rfl
    rw [e, estep3 [] _ _ _ x.toNat_lt y.toNat_lt z.toNat_lt 0, quads3]
    exact ⟨rfl, rfl⟩
  · obtain ⟨x, y, z, u, v, w, rfl⟩ := arr6 h
    have e : enc (KBw.bInts #[x, y, z, u, v, w]) = estep (estep (estep (estep (estep (estep ([], 0, 0) (x.toNat : Int)) (y.toNat : Int)) (z.toNat : Int)) (u.toNat : Int)) (v.toNat : Int)) (w.toNat : Int) := rfl
    rw [e, estep3 [] _ _ _ x.toNat_lt y.toNat_lt z.toNat_lt 0, estep3 _ _ _ _ u.toNat_lt v.toNat_lt w.toNat_lt _]
    refine ⟨?_, rfl⟩
    rw [List.nil_append, ← List.map_append, quads6]
theorem quads_len {b : Array UInt8} (hb : b.size = 0 ∨ b.size = 3 ∨ b.size = 6) : (quads b).length = b.size / 3 * 4 := by
  rcases hb with h | h | h
  · rw [arr0 h]; rfl
  · obtain ⟨x, y, z, rfl⟩ := arr3 h; rw [quads3, h]; rfl
  · obtain ⟨x, y, z, u, v, w, rfl⟩ := arr6 h; rw [quads6, h]; rfl
/-- the signs -/
theorem sgn_sgc {n v : Nat} (h : v < 64) : sgn (pairF n) (v : Int) = ⟨#[sgc (pairF n) v]⟩ := by
  have hl := sgs_len (pairF_len n)
  unfold sgn
  rw [item_at (by omega)]
  unfold sgc
  rw [getD_at (by rw [len_listS]; omega)]
theorem str_app (l : List Nat) (c : Nat) : (⟨l.toArray⟩ : Str) ++ ⟨#[c]⟩ = ⟨(l ++ [c]).toArray⟩ := by
  show Str.mk (l.toArray ++ #[c]) = _
  simp
theorem ddk {a n : Int} (k : Int) (h0 : 0 ≤ n) (h1 : n < 256) : (a * 256 + n) / (256 * k) = a / k := by
  rw [← Int.ediv_ediv_of_nonneg (by decide : (0 : Int) ≤ 256), Int.add_comm, Int.add_mul_ediv_right _ _ (by decide), Int.ediv_eq_zero_of_lt h0 h1, Int.zero_add]
theorem wpart4 {n x y z : Nat} (hx : x < 256) (hy : y < 256) (hz : z < 256) (l : List Nat) : wpart (pairF n) (((x : Int) * 256 + (y : Int)) * 256 + (z : Int)) ⟨l.toArray⟩ 4 = ⟨(l ++ (q3 x y z).map (sgc (pairF n))).toArray⟩ := by
  have f : ∀ u : Int, 0 < u → ((((x : Int) * 256 + (y : Int)) * 256 + (z : Int)).fdiv u).fmod 64 = ((((x : Int) * 256 + (y : Int)) * 256 + (z : Int)) / u) % 64 := fun u hu => by
    rw [Int.fdiv_eq_ediv_of_nonneg _ (by omega), Int.fmod_eq_emod_of_nonneg _ (by decide)]
  have hy0 : (0 : Int) ≤ (y : Int) := Int.natCast_nonneg _
  have hz0 : (0 : Int) ≤ (z : Int) := Int.natCast_nonneg _
  have hy1 : (y : Int) < 256 := Int.ofNat_lt.mpr hy
  have hz1 : (z : Int) < 256 := Int.ofNat_lt.mpr hz
  have e1 : ((((x : Int) * 256 + (y : Int)) * 256 + (z : Int)).fdiv 262144).fmod 64 = ((x / 4 : Nat) : Int) := by rw [f _ (by decide), show (262144 : Int) = 256 * 1024 by decide, ddk _ hz0 hz1, show (1024 : Int) = 256 * 4 by decide, ddk _ hy0 hy1]; exact Int.emod_eq_of_lt (dlt (k := 4) (m := 64) (Int.natCast_nonneg x) (Int.ofNat_lt.mpr hx) (by decide) (by decide)).1 (dlt (k := 4) (m := 64) (Int.natCast_nonneg x) (Int.ofNat_lt.mpr hx) (by decide) (by decide)).2
  have e2 : ((((x : Int) * 256 + (y : Int)) * 256 + (z : Int)).fdiv 4096).fmod 64 = ((x % 4 * 16 + y / 16 : Nat) : Int) := by rw [f _ (by decide), show (4096 : Int) = 256 * 16 by decide, ddk _ hz0 hz1, dq16]; exact fi16 rfl (dlt (k := 16) (m := 16) hy0 hy1 (by decide) (by decide)).1 (dlt (k := 16) (m := 16) hy0 hy1 (by decide) (by decide)).2
  have e3 : ((((x : Int) * 256 + (y : Int)) * 256 + (z : Int)).fdiv 64).fmod 64 = ((y % 16 * 4 + z / 64 : Nat) : Int) := by rw [f _ (by decide), dq64]; exact fi64 (l := (y : Int)) (dm x y 16 16) (dlt (k := 64) (m := 4) hz0 hz1 (by decide) (by decide)).1 (dlt (k := 64) (m := 4) hz0 hz1 (by decide) (by decide)).2
  have e4 : ((((x : Int) * 256 + (y : Int)) * 256 + (z : Int)).fdiv 1).fmod 64 = ((z % 64 : Nat) : Int) := by rw [f _ (by decide), Int.ediv_one]; exact dm64 _ _
  have hq := q3_lt hx hy hz
  unfold wpart
  show (((_ ++ sgn _ _) ++ sgn _ _) ++ sgn _ _) ++ sgn _ _ = _
  rw [e1, e2, e3, e4, sgn_sgc (hq _ (.head _)), sgn_sgc (hq _ (.tail _ (.head _))), sgn_sgc (hq _ (.tail _ (.tail _ (.head _)))), sgn_sgc (hq _ (.tail _ (.tail _ (.tail _ (.head _))))), str_app, str_app, str_app, str_app]
  simp [q3]
/-- what is written of a name, by its signs -/
theorem wrt_quads {n : Nat} {b : Array UInt8} (hb : b.size = 0 ∨ b.size = 3 ∨ b.size = 6) : wrtF (pairF n) b = ⟨((quads b).map (sgc (pairF n))).toArray⟩ := by
  have h0 : Str.ofString "" = ⟨([] : List Nat).toArray⟩ := by decide +kernel
  unfold wrtF
  rcases hb with h | h | h
  · rw [arr0 h]; exact h0
  · obtain ⟨x, y, z, rfl⟩ := arr3 h
    rw [h, quads3]
    show wpart (pairF n) (((x.toNat : Int) * 256 + (y.toNat : Int)) * 256 + (z.toNat : Int)) (Str.ofString "") 4 = _
    rw [h0, wpart4 x.toNat_lt y.toNat_lt z.toNat_lt]
    rfl
  · obtain ⟨x, y, z, u, v, w, rfl⟩ := arr6 h
    rw [h, quads6]
    show wpart (pairF n) (((u.toNat : Int) * 256 + (v.toNat : Int)) * 256 + (w.toNat : Int)) (wpart (pairF n) (((x.toNat : Int) * 256 + (y.toNat : Int)) * 256 + (z.toNat : Int)) (Str.ofString "") 4) 4 = _
    rw [h0, wpart4 x.toNat_lt y.toNat_lt z.toNat_lt, wpart4 u.toNat_lt v.toNat_lt w.toNat_lt, List.nil_append, ← List.map_append]
/-- a text of signs -/
noncomputable def sgT (p : Str) (L : List Nat) : Str := ⟨(L.map (sgc p)).toArray⟩
theorem sgT_len (p : Str) (L : List Nat) : (sgT p L).length = L.length := by simp [sgT, Str.length]
theorem enc_written {n : Nat} {b : Array UInt8} (hb : b.size = 0 ∨ b.size = 3 ∨ b.size = 6) : encOut b (encA (pairF n)) = encA (wrtF (pairF n) b) := by
  rw [wrt_quads hb]
  unfold encOut trA byteArr encA
  rw [(enc_quads hb).1]
  simp only [List.map_map, List.map_toArray]
  congr 1
  refine List.map_congr_left fun v hv => ?_
  have h1 : (((E8 v).toNat : Int).toNat).toUInt8 = E8 v := by rw [Int.toNat_natCast]; simp
  simp only [Function.comp_apply, h1]
  exact tab1 (quads_lt b v hv)
theorem decIn_sgT {n : Nat} {L : List Nat} (hL : ∀ v ∈ L, v < 64) : decIn (sgT (pairF n) L) (pairF n) = (L.map E8).toArray := by
  unfold decIn trA encA sgT
  simp only [List.map_map, List.map_toArray]
  congr 1
  refine List.map_congr_left fun v hv => ?_
  simp only [Function.comp_apply]
  exact tab2 (hL v hv)
theorem bInts_E8 (L : List Nat) : KBw.bInts (L.map E8).toArray = L.map fun v => ((E8 v).toNat : Int) := by
  unfold KBw.bInts; simp [Function.comp_def]
theorem textOk_sgT {n : Nat} {L : List Nat} (hL : ∀ v ∈ L, v < 64) (hl : L.length ≤ 1000) : TextOk (sgT (pairF n) L) (pairF n) := by
  refine ⟨by rw [sgT_len]; exact hl, fun c hc => ?_, fun y hy => ?_⟩
  · have hc' : c ∈ L.map (sgc (pairF n)) := by simpa [sgT] using hc
    obtain ⟨v, hv, rfl⟩ := List.mem_map.mp hc'
    exact sgc_asc (hL v hv)
  · rw [decIn_sgT hL, bInts_E8] at hy
    obtain ⟨v, hv, rfl⟩ := List.mem_map.mp hy
    have := (b64_ok ⟨v, hL v hv⟩).2
    intro q
    apply this
    dsimp only
    omega
/-- the octets of six-bit numbers -/
noncomputable def decQ (L : List Nat) : List Int := ((L.map fun (v : Nat) => (v : Int)).foldl dstep ([], 0, 0)).1
theorem readL_sgT {n : Nat} {L : List Nat} (hL : ∀ v ∈ L, v < 64) : readL (sgT (pairF n) L) (pairF n) = if L.length % 4 = 0 then [byteArr (decQ L)] else [] := by
  unfold readL
  rw [decIn_sgT hL, bInts_E8]
  have hb : (L.map fun v => ((E8 v).toNat : Int)).map b64v = L.map fun (v : Nat) => (v : Int) := by
    rw [List.map_map]
    exact List.map_congr_left fun v hv => (b64_ok ⟨v, hL v hv⟩).1
  have hg : goodB (L.map fun v => ((E8 v).toNat : Int)) = decide (L.length % 4 = 0) := by
    unfold goodB
    have h1 : ((L.map fun v => ((E8 v).toNat : Int)).all fun x => decide (b64v x < 64)) = true := by
      rw [List.all_eq_true]
      intro x hx
      obtain ⟨v, hv, rfl⟩ := List.mem_map.mp hx
      rw [decide_eq_true_eq, (b64_ok ⟨v, hL v hv⟩).1]
      have := hL v hv
      dsimp only
      omega
    rw [h1, Bool.true_and, List.length_map, decide_eq_decide]
    omega
  rw [hg]
  unfold dec decQ
  rw [hb]
  by_cases h : L.length % 4 = 0
  · rw [if_pos (by simpa using h), if_pos h]
  · rw [if_neg (by simpa using h), if_neg h]
end Mine
end
section
open PySem PySem.W PyProof.Rows
set_option Elab.async false
set_option linter.unusedVariables false
set_option linter.unusedSimpArgs false
namespace Mine
/-- quotation marks doubled -/
noncomputable def quoL (L : List Nat) : List Nat := L.flatMap fun c => if c = 34 then [34, 34] else [c]
theorem quoL_cons (c : Nat) (L : List Nat) : quoL (c :: L) = (if c = 34 then [34, 34] else [c]) ++ quoL L := by unfold quoL; rw [List.flatMap_cons]
/-- what parse257 tells as the reply comes in, sign by sign -/
noncomputable def scans (L : List Nat) : List (List Nat) := (List.range ((quoL L).length + 1)).map fun m => scan ((quoL L).take m)
theorem scans_nil : scans [] = [[]] := rfl
theorem range_cons (n : Nat) {α : Type} (f : Nat → α) : (List.range (n + 1)).map f = f 0 :: (List.range n).map fun i => f (i + 1) := by
  rw [List.range_succ_eq_map, List.map_cons, List.map_map]; rfl
theorem scans_ne {c : Nat} {L : List Nat} (h : c ≠ 34) : scans (c :: L) = [] :: (scans L).map (c :: ·) := by
  unfold scans
  rw [quoL_cons, if_neg h, List.cons_append, List.nil_append, List.length_cons, range_cons, List.map_map]
  congr 1
  refine List.map_congr_left fun m _ => ?_
  rw [List.take_succ_cons, scan_ne h]
  rfl
theorem scans_q {L : List Nat} : scans (34 :: L) = [] :: [] :: (scans L).map (34 :: ·) := by
  unfold scans
  rw [quoL_cons, if_pos rfl, List.cons_append, List.cons_append, List.nil_append, List.length_cons, List.length_cons, range_cons, range_cons, List.map_map]
  refine List.cons_eq_cons.mpr ⟨rfl, List.cons_eq_cons.mpr ⟨scan_q (fun r' q => nomatch q), List.map_congr_left fun m _ => ?_⟩⟩
  rw [List.take_succ_cons, List.take_succ_cons, scan_qq]
  rfl
/-- like neighbours told once -/
noncomputable def dedF {α : Type} [DecidableEq α] : Option α → List α → List α
  | _, [] => []
  | o, t :: ts => if o = some t then dedF o ts else t :: dedF (some t) ts
theorem dedF_map {α β : Type} [DecidableEq α] [DecidableEq β] (f : α → β) (hf : ∀ a b, f a = f b → a = b) : ∀ (l : List α) (o : Option α), dedF (o.map f) (l.map f) = (dedF o l).map f
  | [], _ => rfl
  | t :: ts, o => by
    rw [List.map_cons]
    unfold dedF
    by_cases h : o = some t
    · have h' : o.map f = some (f t) := by rw [h]; rfl
      rw [if_pos h, if_pos h']
      have := dedF_map f hf ts (some t)
      rw [h]
      exact this
    · have h' : o.map f ≠ some (f t) := fun q => by
        cases o with
        | none => cases q
        | some a =>
          have : f a = f t := by simpa using q
          exact h (by rw [hf _ _ this])
      rw [if_neg h, if_neg h', List.map_cons]
      congr 1
      exact dedF_map f hf ts (some t)
theorem dedF_none {α : Type} [DecidableEq α] (a : α) (l : List α) (h : ∀ t, l.head? = some t → t ≠ a) : dedF (some a) l = dedF none l := by
  cases l with
  | nil => rfl
  | cons t ts =>
    unfold dedF
    rw [if_neg (fun q => h t rfl (Option.some.inj q).symm), if_neg (by simp)]
/-- the beginnings of a list -/
noncomputable def initsF {α : Type} : List α → List (List α)
  | [] => [[]]
  | c :: L => [] :: (initsF L).map (c :: ·)
theorem scans_head (L : List Nat) : ∃ ts, scans L = [] :: ts := by
  unfold scans
  exact ⟨_, range_cons _ _⟩
theorem ded_scans : ∀ L : List Nat, dedF none (scans L) = initsF L
  | [] => rfl
  | c :: L => by
    have ih := ded_scans L
    obtain ⟨ts, hts⟩ := scans_head L
    have e : dedF (some []) ((scans L).map (c :: ·)) = (initsF L).map (c :: ·) := by
      rw [dedF_none _ _ (fun t ht => by rw [hts] at ht; simp at ht; rw [← ht]; simp)]
      have := dedF_map (c :: ·) (fun a b h => (List.cons.inj h).2) (scans L) none
      rw [ih] at this
      exact this
    by_cases h : c = 34
    · subst h
      rw [scans_q]
      show ([] : List Nat) :: dedF (some []) ([] :: _) = _
      have : dedF (some ([] : List Nat)) ([] :: (scans L).map (34 :: ·)) = dedF (some []) ((scans L).map (34 :: ·)) := by
        conv => lhs; unfold dedF
        rw [if_pos rfl]
      rw [this, e]; rfl
    · rw [scans_ne h]
      show ([] : List Nat) :: dedF (some []) _ = _
      rw [e]; rfl
/-- a last one -/
theorem dedF_snoc {α : Type} [DecidableEq α] (x : α) : ∀ (l : List α) (o : Option α), dedF o (l ++ [x]) = if (l.getLast?.or o) = some x then dedF o l else dedF o l ++ [x]
  | [], o => by
    show (if o = some x then [] else [x]) = _
    by_cases h : o = some x
    · rw [if_pos h, if_pos (by simpa using h)]; rfl
    · rw [if_neg h, if_neg (by simpa using h)]; rfl
  | t :: ts, o => by
    have hlast : ((t :: ts).getLast?.or o) = (ts.getLast?.or (some t)) := by
      rw [List.getLast?_cons]
      cases h : ts.getLast? <;> simp [h]
    rw [hlast, List.cons_append]
    unfold dedF
    by_cases h : o = some t
    · rw [if_pos h, if_pos h, dedF_snoc x ts o, h]
    · rw [if_neg h, if_neg h, dedF_snoc x ts (some t)]
      split <;> rfl
theorem dedF_cons {α : Type} [DecidableEq α] (x : α) (l : List α) : dedF none (x :: l) = if l.head? = some x then dedF none l else x :: dedF none l := by
  have e : dedF none (x :: l) = x :: dedF (some x) l := rfl
  rw [e]
  cases l with
  | nil => rfl
  | cons t ts =>
    rw [List.head?_cons]
    by_cases h : t = x
    · subst h
      rw [if_pos rfl]
      show t :: dedF (some t) (t :: ts) = t :: dedF (some t) ts
      congr 1
      conv => lhs; unfold dedF
      rw [if_pos rfl]
    · rw [if_neg (fun q => h (Option.some.inj q)), dedF_none _ _ (fun u hu => by simp at hu; rw [← hu]; exact h)]
theorem dedF_rev {α : Type} [DecidableEq α] : ∀ l : List α, dedF none l.reverse = (dedF none l).reverse
  | [] => rfl
  | x :: l => by
    rw [List.reverse_cons, dedF_snoc, dedF_cons, dedF_rev l]
    have : (l.reverse.getLast?.or none) = l.head? := by simp
    rw [this]
    split <;> simp
/-- the walk of _law_chain by its texts -/
theorem chain_ded (r p : Str) : ∀ (ks : List Int) (o : Option Str) (acc : List (Array UInt8)), (∀ k ∈ ks, 3 ≤ k) → (ks.foldl (cstep r p) (o, acc)).2 = acc ++ (dedF o (ks.map fun k => parse257S (takeS r k))).flatMap fun t => readL t p
  | [], _, acc, _ => by simp [dedF]
  | k :: ks, o, acc, h => by
    have hk := h k List.mem_cons_self
    have hks : ∀ k ∈ ks, 3 ≤ k := fun k hk => h k (List.mem_cons_of_mem _ hk)
    rw [List.foldl_cons, List.map_cons]
    unfold cstep dedF
    rw [if_neg (by lia)]
    by_cases q : o = some (parse257S (takeS r k))
    · rw [if_pos q, if_pos q]
      exact chain_ded r p ks o acc hks
    · rw [if_neg q, if_neg q]
      have := chain_ded r p ks (some (parse257S (takeS r k))) (acc ++ readL (parse257S (takeS r k)) p) hks
      unfold cstep at this
      rw [this, List.flatMap_cons, List.append_assoc]
theorem chain_low (r p : Str) : ∀ (ks : List Int) (c : Option Str × List (Array UInt8)), (∀ k ∈ ks, k < 3) → ks.foldl (cstep r p) c = c
  | [], _, _ => rfl
  | k :: ks, c, h => by
    rw [List.foldl_cons]
    have : cstep r p c k = c := by unfold cstep; rw [if_pos (h k List.mem_cons_self)]
    rw [this]
    exact chain_low r p ks c fun k hk => h k (List.mem_cons_of_mem _ hk)
end Mine
end
section
open PySem PySem.W PyProof.Rows
set_option Elab.async false
set_option linter.unusedVariables false
set_option linter.unusedSimpArgs false
namespace Mine
theorem mk_cps (x : Str) : (⟨x.cps.toList.toArray⟩ : Str) = x := by simp
theorem cps_mk (l : List Nat) : (⟨l.toArray⟩ : Str).cps.toList = l := by simp
theorem scan_quo : ∀ (W x : List Nat), scan (quoL W ++ x) = W ++ scan x
  | [], x => rfl
  | c :: W, x => by
    rw [quoL_cons]
    by_cases h : c = 34
    · subst h
      rw [if_pos rfl]
      show scan (34 :: 34 :: (quoL W ++ x)) = _
      rw [scan_qq, scan_quo W x]; rfl
    · rw [if_neg h]
      show scan (c :: (quoL W ++ x)) = _
      rw [scan_ne h, scan_quo W x]; rfl
theorem str_sq : Str.ofString " \"" = ⟨#[32, 34]⟩ := by decide +kernel
theorem str_e : Str.ofString "" = ⟨([] : List Nat).toArray⟩ := by decide +kernel
theorem str_inj {a b : List Nat} (h : (⟨a.toArray⟩ : Str) = ⟨b.toArray⟩) : a = b := by
  have := congrArg (fun s : Str => s.cps.toList) h
  simpa using this
/-- what parse257 tells of a reply cut short -/
theorem parse_cut {r : Str} {Q : List Nat} (hr : r.cps.toList = [50, 53, 55, 32, 34] ++ Q) (k : Nat) : parse257S (takeS r (k : Int)) = ⟨(scan (Q.take (k - 5))).toArray⟩ := by
  unfold takeS
  rw [slice_ns]
  unfold parse257S
  have e35 : Txt.slice (⟨(r.cps.toList.take k).toArray⟩ : Str) (some 3) (some 5) = ⟨(((r.cps.toList.take k).drop 3).take 2).toArray⟩ := by
    have := slice_ss (⟨(r.cps.toList.take k).toArray⟩ : Str) 3 5 (by lia)
    rw [cps_mk] at this
    exact this
  rw [e35, str_sq, hr]
  by_cases h : 5 ≤ k
  · obtain ⟨m, rfl⟩ : ∃ m, k = m + 5 := ⟨k - 5, by lia⟩
    have e1 : List.take (m + 5) ([50, 53, 55, 32, 34] ++ Q) = [50, 53, 55, 32, 34] ++ Q.take m := by
      rw [List.take_append]; simp
    rw [e1]
    have e2 : ((([50, 53, 55, 32, 34] ++ Q.take m).drop 3).take 2) = [32, 34] := rfl
    rw [e2, if_neg (by simp)]
    unfold parseS
    rw [cps_mk]
    have e3 : (([50, 53, 55, 32, 34] ++ Q.take m).drop 5) = Q.take m := rfl
    rw [e3]
    have e4 : m + 5 - 5 = m := by lia
    rw [e4]
  · have e1 : k - 5 = 0 := by lia
    rw [e1, List.take_zero]
    have hlt : ((List.take k ([50, 53, 55, 32, 34] ++ Q)).drop 3).length < 2 := by
      rw [List.length_drop, List.length_take]; lia
    rw [if_pos ?_]
    · rw [str_e]; rfl
    · rw [bne_iff_ne]
      intro q
      have q' := str_inj (b := [32, 34]) q
      have := congrArg List.length q'
      rw [List.length_take] at this
      simp at this
      simp at hlt
      lia
/-- what _law_chain reads of a coming reply and of a going one -/
theorem range_add {α : Type} (f : Nat → α) (n : Nat) : (List.range (n + 3)).map (fun i => f (i - 2)) = f 0 :: f 0 :: (List.range (n + 1)).map f := by
  rw [range_cons, range_cons]
  rfl
theorem kSeq_split (n : Nat) : kSeq 0 1 (n + 3) = [0, 1, 2] ++ (List.range n).map fun i => ((i + 3 : Nat) : Int) := by
  unfold kSeq
  rw [Nat.add_comm n 3, List.range_add, List.map_append, List.map_map]
  congr 1
  refine List.map_congr_left fun i _ => ?_
  show 0 + ((3 + i : Nat) : Int) * 1 = _
  lia
theorem kSeq_down (n : Nat) : kSeq (n : Int) (-1) (n + 1) = (kSeq 0 1 (n + 1)).reverse := by
  unfold kSeq
  rw [← List.map_reverse]
  apply List.ext_getElem
  · simp
  · intro i h1 h2
    simp at h1 h2
    simp
    lia
noncomputable def strOf (l : List Nat) : Str := ⟨l.toArray⟩
theorem strOf_inj (a b : List Nat) (h : strOf a = strOf b) : a = b := str_inj h
theorem texts_up {r : Str} {Q : List Nat} (hr : r.cps.toList = [50, 53, 55, 32, 34] ++ Q) : ((List.range (Q.length + 3)).map fun i => ((i + 3 : Nat) : Int)).map (fun k => parse257S (takeS r k)) = ([] :: [] :: (List.range (Q.length + 1)).map fun m => scan (Q.take m)).map strOf := by
  have e : ((List.range (Q.length + 3)).map fun i => ((i + 3 : Nat) : Int)).map (fun k => parse257S (takeS r k)) = ((List.range (Q.length + 3)).map fun i => scan (Q.take (i - 2))).map strOf := by
    rw [List.map_map, List.map_map]
    refine List.map_congr_left fun i _ => ?_
    simp only [Function.comp_apply]
    rw [parse_cut hr]
    have : i + 3 - 5 = i - 2 := by lia
    rw [this]; rfl
  rw [e, range_add (fun m => scan (Q.take m))]
  rfl
theorem ded_two (T : List (List Nat)) (W : List Nat) (hT : ∃ ts, T = [] :: ts) : dedF none ([] :: [] :: T) = dedF none T := by
  obtain ⟨ts, rfl⟩ := hT
  rw [dedF_cons, if_pos (by rfl), dedF_cons, if_pos (by rfl)]
theorem chain_up {r p : Str} {W : List Nat} (hr : r.cps.toList = [50, 53, 55, 32, 34] ++ quoL W) : (chainF r p (kSeq 0 1 (r.length + 1))).2 = (initsF W).flatMap fun l => readL (strOf l) p := by
  have hl : r.length + 1 = (quoL W).length + 3 + 3 := by
    have := len_listS r
    rw [hr] at this
    simp at this
    lia
  unfold chainF
  rw [hl, kSeq_split, List.foldl_append, chain_low r p [0, 1, 2] _ (by simp), chain_ded r p _ none [] (by
    intro k hk
    obtain ⟨i, _, rfl⟩ := List.mem_map.mp hk
    lia), texts_up hr, List.nil_append]
  have hs : ((List.range ((quoL W).length + 1)).map fun m => scan ((quoL W).take m)) = scans W := rfl
  rw [hs]
  have h2 := dedF_map strOf strOf_inj ([] :: [] :: scans W) none
  rw [ded_two (scans W) W (scans_head W), ded_scans] at h2
  have h3 : dedF none (([] :: [] :: scans W).map strOf) = (initsF W).map strOf := h2
  rw [h3, List.flatMap_map]
theorem scans_more (W : List Nat) : ((List.range ((quoL W ++ [34, 32, 34]).length + 1)).map fun m => scan ((quoL W ++ [34, 32, 34]).take m)) = scans W ++ [W, W, W] := by
  have e : (quoL W ++ [34, 32, 34]).length + 1 = ((quoL W).length + 1) + 3 := by simp
  rw [e, List.range_add, List.map_append, List.map_map]
  congr 1
  · unfold scans
    refine List.map_congr_left fun m hm => ?_
    have := List.mem_range.mp hm
    rw [List.take_append_of_le_length (by lia)]
  · have t : ∀ j, j < 3 → scan ((quoL W ++ [34, 32, 34]).take ((quoL W).length + 1 + j)) = W := fun j hj => by
      have e1 : (quoL W ++ [34, 32, 34]).take ((quoL W).length + 1 + j) = quoL W ++ [34, 32, 34].take (1 + j) := by
        rw [List.take_append, List.take_of_length_le (by lia)]
        congr 2
        lia
      rw [e1, scan_quo]
      have : j = 0 ∨ j = 1 ∨ j = 2 := by lia
      rcases this with rfl | rfl | rfl
      · show W ++ scan [34] = W; rw [scan_q (r := []) (by intro r' q; cases q)]; simp
      · show W ++ scan [34, 32] = W; rw [scan_q (r := [32]) (by intro r' q; cases q)]; simp
      · show W ++ scan [34, 32, 34] = W; rw [scan_q (r := [32, 34]) (by intro r' q; cases q)]; simp
    show [scan _, scan _, scan _] = _
    rw [t 0 (by lia), t 1 (by lia), t 2 (by lia)]
theorem ded_last {α : Type} [DecidableEq α] (l : List α) (x : α) (h : l.getLast? = some x) : dedF none (l ++ [x]) = dedF none l := by
  rw [dedF_snoc, if_pos (by rw [h]; rfl)]
theorem scans_last (W : List Nat) : (scans W).getLast? = some W := by
  unfold scans
  rw [List.range_succ, List.map_append, List.getLast?_append]
  have := scan_quo W []
  rw [List.append_nil] at this
  simp [this, scan]
theorem chain_down {r p : Str} {W : List Nat} (hr : r.cps.toList = [50, 53, 55, 32, 34] ++ (quoL W ++ [34, 32, 34])) : (chainF r p (kSeq (r.length : Int) (-1) (r.length + 1))).2 = (initsF W).reverse.flatMap fun l => readL (strOf l) p := by
  have hl : r.length + 1 = (quoL W ++ [34, 32, 34]).length + 3 + 3 := by
    have := len_listS r
    rw [hr, List.length_append] at this
    simp only [List.length_cons, List.length_nil] at this
    lia
  unfold chainF
  rw [kSeq_down, hl, kSeq_split, List.reverse_append, List.foldl_append, chain_low r p [0, 1, 2].reverse _ (by simp), ← List.map_reverse]
  rw [chain_ded r p _ none [] (by
    intro k hk
    obtain ⟨i, _, rfl⟩ := List.mem_map.mp hk
    lia), List.nil_append]
  have hT := texts_up hr
  rw [scans_more] at hT
  have hT2 := congrArg List.reverse hT
  rw [← List.map_reverse, ← List.map_reverse, ← List.map_reverse] at hT2
  rw [hT2]
  have h2 := dedF_map strOf strOf_inj ([] :: [] :: (scans W ++ [W, W, W])).reverse none
  have h4 : dedF none ([] :: [] :: (scans W ++ [W, W, W])) = initsF W := by
    obtain ⟨ts, hts⟩ := scans_head W
    rw [ded_two _ W ⟨ts ++ [W, W, W], by rw [hts]; rfl⟩]
    have e : scans W ++ [W, W, W] = ((scans W ++ [W]) ++ [W]) ++ [W] := by simp
    have hlast := scans_last W
    rw [e, ded_last _ _ (by simp), ded_last _ _ (by simp), ded_last _ _ hlast, ded_scans]
  rw [dedF_rev, h4] at h2
  have h3 : dedF none (([] :: [] :: (scans W ++ [W, W, W])).reverse.map strOf) = (initsF W).reverse.map strOf := h2
  rw [h3, List.flatMap_map]
end Mine
end
section
open PySem PySem.W PyProof.Rows
set_option Elab.async false
set_option linter.unusedVariables false
set_option linter.unusedSimpArgs false
namespace Mine
theorem str_ext {a b : Str} (h : a.cps.toList = b.cps.toList) : a = b := by
  obtain ⟨x⟩ := a
  obtain ⟨y⟩ := b
  have : x = y := Array.toList_inj.mp h
  rw [this]
theorem join_signs : ∀ l : List Nat, Str.join (Str.ofString "") (l.map fun c => (⟨#[c]⟩ : Str)) = ⟨l.toArray⟩
  | [] => rfl
  | [c] => rfl
  | c :: d :: l => by
    have ih := join_signs (d :: l)
    show (⟨#[c]⟩ : Str) ++ Str.ofString "" ++ Str.join (Str.ofString "") ((d :: l).map fun c => (⟨#[c]⟩ : Str)) = _
    rw [ih]
    apply str_ext
    rw [cps_app, cps_app, str_e]
    simp
theorem join_back {X : Str} (h : ∀ c ∈ X.cps.toList, c < 128) : Txt.join (Str.ofString "") (((KBw.bInts (encA X)).filter fun _ => true).map chrF) = X := by
  have e1 : ((KBw.bInts (encA X)).filter fun _ => true) = X.cps.toList.map fun (c : Nat) => (c : Int) := by
    rw [List.filter_eq_self.mpr fun _ _ => rfl]
    unfold KBw.bInts encA
    rw [List.map_map]
    refine List.map_congr_left fun c hc => ?_
    have := h c hc
    simp only [Function.comp_apply]
    have : c.toUInt8.toNat = c := by
      rw [Nat.toUInt8, UInt8.toNat_ofNat']
      exact Nat.mod_eq_of_lt (by lia)
    rw [this]
  rw [e1, List.map_map]
  have e2 : (chrF ∘ fun (c : Nat) => (c : Int)) = fun c => (⟨#[c]⟩ : Str) := by
    funext c
    show chrF (c : Int) = _
    unfold chrF; rw [Int.toNat_natCast]
  rw [e2]
  unfold Txt.join
  rw [StrLaws.glued_eq_join, join_signs]
theorem dbl_quo : ∀ l : List Nat, StrLaws.dbl 34 l = quoL l
  | [] => rfl
  | c :: l => by
    rw [quoL_cons]
    unfold StrLaws.dbl
    by_cases h : c = 34
    · subst h; rw [if_pos rfl, if_pos rfl, dbl_quo l]; rfl
    · rw [if_neg h, if_neg h, dbl_quo l]; rfl
theorem str_qq : Str.ofString "\"\"" = ⟨#[34, 34]⟩ := by decide +kernel
theorem str_257 : Str.ofString "257 \"" = ⟨[50, 53, 55, 32, 34].toArray⟩ := by decide +kernel
theorem str_tail : Str.ofString "\" \"" = ⟨[34, 32, 34].toArray⟩ := by decide +kernel
theorem str_257m : Str.ofString "257-" = ⟨[50, 53, 55, 45].toArray⟩ := by decide +kernel
theorem str_3 : Str.ofString "257" = ⟨[50, 53, 55].toArray⟩ := by decide +kernel
theorem quoL_len : ∀ l : List Nat, (quoL l).length ≤ 2 * l.length
  | [] => by simp [quoL]
  | c :: l => by
    have := quoL_len l
    rw [quoL_cons, List.length_append, List.length_cons]
    split <;> simp <;> lia
theorem quoL_mem {l : List Nat} {c : Nat} (h : c ∈ quoL l) : c ∈ l := by
  unfold quoL at h
  obtain ⟨d, hd, hc⟩ := List.mem_flatMap.mp h
  split at hc
  · rename_i e
    have : c = 34 := by simpa using hc
    rw [this, ← e]; exact hd
  · have : c = d := by simpa using hc
    rw [this]; exact hd
theorem scan_in : ∀ (W : List Nat) (m : Nat), ∃ j, scan ((quoL W).take m) = W.take j
  | [], m => ⟨0, by simp [quoL, scan]⟩
  | c :: W, m => by
    rw [quoL_cons]
    by_cases h : c = 34
    · subst h
      rw [if_pos rfl]
      match m with
      | 0 => exact ⟨0, by simp [scan]⟩
      | 1 => exact ⟨0, by show scan [34] = _; rw [scan_q (r := []) (by intro r' q; cases q)]; rfl⟩
      | m + 2 =>
        obtain ⟨j, e⟩ := scan_in W m
        refine ⟨j + 1, ?_⟩
        show scan (34 :: 34 :: (quoL W).take m) = _
        rw [scan_qq, e]; rfl
    · rw [if_neg h]
      match m with
      | 0 => exact ⟨0, by simp [scan]⟩
      | m + 1 =>
        obtain ⟨j, e⟩ := scan_in W m
        refine ⟨j + 1, ?_⟩
        show scan (c :: (quoL W).take m) = _
        rw [scan_ne h, e]; rfl
theorem scan_in2 (W : List Nat) (m : Nat) : ∃ j, scan ((quoL W ++ [34, 32, 34]).take m) = W.take j := by
  by_cases h : m ≤ (quoL W).length
  · rw [List.take_append_of_le_length h]; exact scan_in W m
  · refine ⟨W.length, ?_⟩
    rw [List.take_append, List.take_of_length_le (by lia), scan_quo, List.take_length]
    have : m - (quoL W).length = 1 ∨ m - (quoL W).length = 2 ∨ 3 ≤ m - (quoL W).length := by lia
    rcases this with e | e | e
    · rw [e]; show W ++ scan [34] = W; rw [scan_q (r := []) (by intro r' q; cases q)]; simp
    · rw [e]; show W ++ scan [34, 32] = W; rw [scan_q (r := [32]) (by intro r' q; cases q)]; simp
    · rw [List.take_of_length_le (by simpa using e)]
      show W ++ scan [34, 32, 34] = W; rw [scan_q (r := [32, 34]) (by intro r' q; cases q)]; simp
theorem inits_map {α β : Type} (f : α → β) : ∀ l : List α, initsF (l.map f) = (initsF l).map (List.map f)
  | [] => rfl
  | c :: l => by
    show [] :: (initsF (l.map f)).map (f c :: ·) = _
    rw [inits_map f l, List.map_map]
    show _ = [] :: ((initsF l).map (c :: ·)).map (List.map f)
    rw [List.map_map]
    rfl
theorem inits_sub {α : Type} : ∀ {l k : List α}, k ∈ initsF l → ∀ v ∈ k, v ∈ l
  | [], k, h, v, hv => by
    have : k = [] := by simpa [initsF] using h
    rw [this] at hv; cases hv
  | c :: l, k, h, v, hv => by
    rcases List.mem_cons.mp h with rfl | h
    · cases hv
    · obtain ⟨k', hk', rfl⟩ := List.mem_map.mp h
      rcases List.mem_cons.mp hv with rfl | hv
      · exact List.mem_cons_self
      · exact List.mem_cons_of_mem _ (inits_sub hk' v hv)
theorem dn1 {c y d : Nat} (hy : y < d) (hd : 0 < d) : (c * d + y) / d = c := by rw [Nat.mul_comm, Nat.mul_add_div hd, Nat.div_eq_of_lt hy, Nat.add_zero]
theorem dn2 {c y d : Nat} (hy : y < d) : (c * d + y) % d = y := by rw [Nat.mul_comm, Nat.mul_add_mod, Nat.mod_eq_of_lt hy]
theorem dst1 (x y : Nat) (hy : y < 256) : ((x % 4 * 16 + y / 16 : Nat) : Int) / 16 = ((x % 4 : Nat) : Int) := congrArg Int.ofNat (dn1 (Nat.div_lt_of_lt_mul hy) (by decide))
theorem dst2 (x y : Nat) (hy : y < 256) : ((x % 4 * 16 + y / 16 : Nat) : Int) % 16 = ((y / 16 : Nat) : Int) := congrArg Int.ofNat (dn2 (Nat.div_lt_of_lt_mul hy))
theorem dst3 (x y : Nat) (hy : y < 256) : ((x % 16 * 4 + y / 64 : Nat) : Int) / 4 = ((x % 16 : Nat) : Int) := congrArg Int.ofNat (dn1 (Nat.div_lt_of_lt_mul hy) (by decide))
theorem dst4 (x y : Nat) (hy : y < 256) : ((x % 16 * 4 + y / 64 : Nat) : Int) % 4 = ((y / 64 : Nat) : Int) := congrArg Int.ofNat (dn2 (Nat.div_lt_of_lt_mul hy))
theorem dstm (x k : Nat) : ((x / k : Nat) : Int) * (k : Int) + ((x % k : Nat) : Int) = (x : Int) := by exact_mod_cast Nat.div_add_mod' x k
theorem dstep4 (c : List Int) (l : Int) (x y z : Nat) (hx : x < 256) (hy : y < 256) (hz : z < 256) : ((q3 x y z).map fun (v : Nat) => (v : Int)).foldl dstep (c, l, 0) = (c ++ [(x : Int), (y : Int), (z : Int)], 0, 0) := by
  have s0 : ∀ (c : List Int) (l a : Int), dstep (c, l, 0) a = (c, a, 1) := fun c l a => by unfold dstep; rw [if_pos rfl]
  have s1 : ∀ (c : List Int) (l a : Int), dstep (c, l, 1) a = (c ++ [l * 4 + a / 16], a % 16, 2) := fun c l a => by unfold dstep; rw [if_neg (show ¬ ((1 : Int) = 0) by decide), if_pos rfl]
  have s2 : ∀ (c : List Int) (l a : Int), dstep (c, l, 2) a = (c ++ [l * 16 + a / 4], a % 4, 3) := fun c l a => by unfold dstep; rw [if_neg (show ¬ ((2 : Int) = 0) by decide), if_neg (show ¬ ((2 : Int) = 1) by decide), if_pos rfl]
  have s3 : ∀ (c : List Int) (l a : Int), dstep (c, l, 3) a = (c ++ [l * 64 + a], 0, 0) := fun c l a => by unfold dstep; rw [if_neg (show ¬ ((3 : Int) = 0) by decide), if_neg (show ¬ ((3 : Int) = 1) by decide), if_neg (show ¬ ((3 : Int) = 2) by decide)]
  unfold q3
  simp only [List.map_cons, List.map_nil, List.foldl_cons, List.foldl_nil]
  rw [s0, s1, s2, s3]
  have e1 : ((x / 4 : Nat) : Int) * 4 + ((x % 4 * 16 + y / 16 : Nat) : Int) / 16 = (x : Int) := by rw [dst1 x y hy]; exact dstm x 4
  have e2 : ((x % 4 * 16 + y / 16 : Nat) : Int) % 16 * 16 + ((y % 16 * 4 + z / 64 : Nat) : Int) / 4 = (y : Int) := by rw [dst2 x y hy, dst3 y z hz]; exact dstm y 16
  have e3 : ((y % 16 * 4 + z / 64 : Nat) : Int) % 4 * 64 + ((z % 64 : Nat) : Int) = (z : Int) := by rw [dst4 y z hz]; exact dstm z 64
  rw [e1, e2, e3]
  simp
theorem u8_back (x : UInt8) : ((x.toNat : Int).toNat).toUInt8 = x := by rw [Int.toNat_natCast]; simp
noncomputable def pick4 (l : List Nat) : List (Array UInt8) := if l.length % 4 = 0 then [byteArr (decQ l)] else []
theorem inits_parts {b : Array UInt8} (hb : b.size = 0 ∨ b.size = 3 ∨ b.size = 6) : (initsF (quads b)).flatMap pick4 = partsF b := by
  have d0 : decQ [] = [] := rfl
  have a0 : byteArr [] = #[] := rfl
  rcases hb with h | h | h
  · rw [arr0 h]; rfl
  · obtain ⟨x, y, z, rfl⟩ := arr3 h
    rw [quads3]
    have hd : decQ (q3 x.toNat y.toNat z.toNat) = [(x.toNat : Int), (y.toNat : Int), (z.toNat : Int)] := by
      unfold decQ; rw [dstep4 [] 0 _ _ _ x.toNat_lt y.toNat_lt z.toNat_lt]; rfl
    have hbA : byteArr [(x.toNat : Int), (y.toNat : Int), (z.toNat : Int)] = #[x, y, z] := by simp [byteArr]
    have hI : (initsF (q3 x.toNat y.toNat z.toNat)).flatMap pick4 = [byteArr (decQ [])] ++ [byteArr (decQ (q3 x.toNat y.toNat z.toNat))] := by simp [q3, initsF, pick4]
    rw [hI, hd, hbA, d0, a0]
    unfold partsF
    rw [h]
    rfl
  · obtain ⟨x, y, z, u, v, w, rfl⟩ := arr6 h
    rw [quads6]
    have hd1 : decQ (q3 x.toNat y.toNat z.toNat) = [(x.toNat : Int), (y.toNat : Int), (z.toNat : Int)] := by
      unfold decQ; rw [dstep4 [] 0 _ _ _ x.toNat_lt y.toNat_lt z.toNat_lt]; rfl
    have hd2 : decQ (q3 x.toNat y.toNat z.toNat ++ q3 u.toNat v.toNat w.toNat) = [(x.toNat : Int), (y.toNat : Int), (z.toNat : Int), (u.toNat : Int), (v.toNat : Int), (w.toNat : Int)] := by
      unfold decQ
      rw [List.map_append, List.foldl_append, dstep4 [] 0 _ _ _ x.toNat_lt y.toNat_lt z.toNat_lt, dstep4 _ 0 _ _ _ u.toNat_lt v.toNat_lt w.toNat_lt]; rfl
    have hb1 : byteArr [(x.toNat : Int), (y.toNat : Int), (z.toNat : Int)] = #[x, y, z] := by simp [byteArr]
    have hb2 : byteArr [(x.toNat : Int), (y.toNat : Int), (z.toNat : Int), (u.toNat : Int), (v.toNat : Int), (w.toNat : Int)] = #[x, y, z, u, v, w] := by simp [byteArr]
    have hI : (initsF (q3 x.toNat y.toNat z.toNat ++ q3 u.toNat v.toNat w.toNat)).flatMap pick4 = [byteArr (decQ [])] ++ [byteArr (decQ (q3 x.toNat y.toNat z.toNat))] ++ [byteArr (decQ (q3 x.toNat y.toNat z.toNat ++ q3 u.toNat v.toNat w.toNat))] := by simp [q3, initsF, pick4]
    rw [hI, hd1, hd2, hb1, hb2, d0, a0]
    unfold partsF
    rw [h]
    rfl
end Mine
end
section
open PySem PySem.W PyProof.Rows
set_option Elab.async false
set_option linter.unusedVariables false
set_option linter.unusedSimpArgs false
namespace Mine
theorem tab_rest : ∀ i : Fin 4, (∀ c ∈ [50, 53, 55, 32, 34], (mkTab (encA (pairF i.val)) #[43, 47]).getD (c.toUInt8).toNat (c.toUInt8) ≠ 61) ∧ (mkTab (encA (pairF i.val)) #[43, 47]).getD ((32 : Nat).toUInt8).toNat ((32 : Nat).toUInt8) = 32 := by
  intro i
  rw [encA_pair]
  refine ⟨fun c hc => ?_, ?_⟩
  · rw [tabD]
    revert i c
    decide
  · rw [tabD]
    revert i
    decide
theorem chain_read {n : Nat} {b : Array UInt8} : (initsF ((quads b).map (sgc (pairF n)))).map strOf = (initsF (quads b)).map (sgT (pairF n)) := by
  rw [inits_map, List.map_map]
  rfl
theorem flat_read {n : Nat} {b : Array UInt8} : ∀ l : List (List Nat), (∀ k ∈ l, ∀ v ∈ k, v < 64) → l.flatMap (fun k => readL (sgT (pairF n) k) (pairF n)) = l.flatMap pick4
  | [], _ => rfl
  | k :: l, h => by
    rw [List.flatMap_cons, List.flatMap_cons, flat_read (b := b) l fun k hk => h k (List.mem_cons_of_mem _ hk), readL_sgT (h k List.mem_cons_self)]
    rfl
section
variable {n : Nat} {b : Array UInt8} (hb : b.size = 0 ∨ b.size = 3 ∨ b.size = 6)
include hb
theorem op_cps : (opF (pairF n) b).cps.toList = [50, 53, 55, 32, 34] ++ quoL ((quads b).map (sgc (pairF n))) := by
  unfold opF quoF
  rw [cps_app, str_257, wrt_quads hb, cps_mk, cps_mk]
  rfl
theorem cl_cps : (clF (pairF n) b).cps.toList = [50, 53, 55, 32, 34] ++ (quoL ((quads b).map (sgc (pairF n))) ++ [34, 32, 34]) := by
  unfold clF
  rw [cps_app, op_cps hb, str_tail, List.append_assoc]
theorem up_parts : upF (pairF n) b = partsF b := by
  unfold upF
  rw [chain_up (op_cps hb), ← List.flatMap_map (f := strOf) (g := fun t => readL t (pairF n)), chain_read, List.flatMap_map]
  rw [flat_read (b := b) _ (fun k hk v hv => quads_lt b v (inits_sub hk v hv)), inits_parts hb]
theorem dn_parts : dnF (pairF n) b = (partsF b).reverse := by
  unfold dnF
  rw [chain_down (cl_cps hb), ← List.flatMap_map (f := strOf) (g := fun t => readL t (pairF n)), List.map_reverse, chain_read, ← List.map_reverse, List.flatMap_map]
  rw [flat_read (b := b) _ (fun k hk v hv => quads_lt b v (inits_sub (List.mem_reverse.mp hk) v hv)), List.flatMap_reverse]
  have : (List.reverse ∘ pick4) = pick4 := by
    funext l
    show (pick4 l).reverse = _
    unfold pick4
    split <;> rfl
  rw [this, inits_parts hb]
theorem ql8 : (quads b).length ≤ 8 := by
  rw [quads_len hb]; lia
theorem row_ok : RowOk (pairF n) b := by
  have hW := wrt_quads (n := n) hb
  have hl8 := ql8 hb
  have hwl : (wrtF (pairF n) b).length = (quads b).length := by rw [hW]; exact sgT_len (pairF n) (quads b)
  have hwc : (wrtF (pairF n) b).cps.toList = (quads b).map (sgc (pairF n)) := by rw [hW, cps_mk]
  have hasc : ∀ c ∈ (wrtF (pairF n) b).cps.toList, c < 128 := fun c hc => by
    rw [hwc] at hc
    obtain ⟨v, hv, rfl⟩ := List.mem_map.mp hc
    exact sgc_asc (quads_lt b v hv)
  have hq16 : (quoL ((quads b).map (sgc (pairF n)))).length ≤ 16 := by
    have := quoL_len ((quads b).map (sgc (pairF n)))
    rw [List.length_map] at this
    lia
  have hol : (opF (pairF n) b).length ≤ 21 := by
    have h := len_listS (opF (pairF n) b)
    rw [op_cps hb, List.length_append] at h
    simp only [List.length_cons, List.length_nil] at h
    lia
  have hcl : (clF (pairF n) b).length ≤ 24 := by
    have h := len_listS (clF (pairF n) b)
    rw [cl_cps hb, List.length_append, List.length_append] at h
    simp only [List.length_cons, List.length_nil] at h
    lia
  have hquo : quoF (pairF n) b = ⟨(quoL ((quads b).map (sgc (pairF n)))).toArray⟩ := by
    unfold quoF; rw [hwc]; rfl
  have hodd : (oddF (pairF n) b).cps.toList = [50, 53, 55, 45, 34] ++ (quoL ((quads b).map (sgc (pairF n))) ++ [34, 32, 34]) := by
    unfold oddF
    have e4 : Txt.slice (clF (pairF n) b) (some 4) none = ⟨((clF (pairF n) b).cps.toList.drop 4).toArray⟩ := slice_sn _ 4
    rw [cps_app, str_257m, e4, cps_mk, cl_cps hb]
    rfl
  have htext : ∀ L : List Nat, (∀ v ∈ L, v < 64) → L.length ≤ 8 → TextOk (strOf (L.map (sgc (pairF n)))) (pairF n) := fun L h1 h2 => textOk_sgT h1 (by lia)
  have htake : ∀ j, TextOk (⟨(((quads b).map (sgc (pairF n))).take j).toArray⟩ : Str) (pairF n) := fun j => by
    rw [← List.map_take]
    exact htext ((quads b).take j) (fun v hv => quads_lt b v (List.mem_of_mem_take hv)) (by rw [List.length_take]; lia)
  have hclc : ∀ c ∈ (clF (pairF n) b).cps.toList, c ∈ [50, 53, 55, 32, 34] ∨ ∃ v, v < 64 ∧ c = sgc (pairF n) v := fun c hc => by
    rw [cl_cps hb] at hc
    rcases List.mem_append.mp hc with h | h
    · exact .inl h
    · rcases List.mem_append.mp h with h | h
      · obtain ⟨v, hv, rfl⟩ := List.mem_map.mp (quoL_mem h)
        exact .inr ⟨v, quads_lt b v hv, rfl⟩
      · left
        simp only [List.mem_cons, List.not_mem_nil, or_false] at h ⊢
        lia
  have hdc : KBw.bInts (decIn (clF (pairF n) b) (pairF n)) = (clF (pairF n) b).cps.toList.map fun (c : Nat) => ((((mkTab (encA (pairF n)) #[43, 47]).getD (c.toUInt8).toNat (c.toUInt8)).toNat : Nat) : Int) := by
    unfold decIn trA encA KBw.bInts
    simp [Function.comp_def]
  have hrest := tab_rest ⟨n % 4, by lia⟩
  simp only at hrest
  rw [← pairF_mod] at hrest
  have e257 : ∀ Q : List Nat, (⟨(([50, 53, 55, 45, 34] ++ Q).take 3).toArray⟩ : Str) = Str.ofString "257" := fun Q => by rw [str_3]; rfl
  refine { size := hb, rem := (enc_quads hb).2, enc := enc_written hb, esz := ?_, asc := hasc, wlen := by lia, join := ?_, repl := ?_, qlen := ?_, olen := by lia, clen := by lia, xlen := ?_, odd3 := ?_, oddE := ?_, rd := ?_, tkc := ?_, o257 := ?_, c257 := ?_, tup := ?_, tdn := ?_ }
  · rw [enc_written hb, encA_size]; lia
  · rw [enc_written hb]; exact join_back hasc
  · apply str_ext
    rw [str_qq, str_quote, StrLaws.replace_double, dbl_quo, hquo, hwc, cps_mk]
  · rw [hquo]
    show (quoL _).toArray.size ≤ 16
    simpa using hq16
  · have h := len_listS (oddF (pairF n) b)
    rw [hodd, List.length_append, List.length_append] at h
    simp only [List.length_cons, List.length_nil] at h
    lia
  · have e3 : Txt.slice (oddF (pairF n) b) none (some 3) = ⟨((oddF (pairF n) b).cps.toList.take 3).toArray⟩ := slice_ns _ 3
    rw [e3, hodd, e257]
    simp
  · unfold parse257S
    have e35 : Txt.slice (oddF (pairF n) b) (some 3) (some 5) = ⟨(((oddF (pairF n) b).cps.toList.drop 3).take 2).toArray⟩ := slice_ss _ 3 5 (by lia)
    rw [e35, hodd]
    have : (⟨((([50, 53, 55, 45, 34] ++ (quoL ((quads b).map (sgc (pairF n))) ++ [34, 32, 34])).drop 3).take 2).toArray⟩ : Str) = ⟨#[45, 34]⟩ := rfl
    rw [this, if_pos ?_]
    rw [str_sq]; decide
  · unfold readL
    rw [if_neg ?_]
    intro hg
    unfold goodB at hg
    rw [Bool.and_eq_true] at hg
    have h32 : (32 : Nat) ∈ (clF (pairF n) b).cps.toList := by rw [cl_cps hb]; simp
    have := List.all_eq_true.mp hg.1 ((32 : Int)) (by
      rw [hdc]
      exact List.mem_map.mpr ⟨32, h32, by rw [hrest.2]; rfl⟩)
    exact absurd this (by decide)
  · refine ⟨by lia, fun c hc => ?_, fun y hy => ?_⟩
    · rcases hclc c hc with h | ⟨v, hv, rfl⟩
      · simp only [List.mem_cons, List.not_mem_nil, or_false] at h
        lia
      · exact sgc_asc hv
    · rw [hdc] at hy
      obtain ⟨c, hc, rfl⟩ := List.mem_map.mp hy
      rcases hclc c hc with h | ⟨v, hv, rfl⟩
      · have := hrest.1 c h
        intro q
        apply this
        have q' : ((mkTab (encA (pairF n)) #[43, 47]).getD (c.toUInt8).toNat (c.toUInt8)).toNat = 61 := by lia
        exact UInt8.toNat_inj.mp q'
      · rw [tab2 hv]
        have := (b64_ok ⟨v, hv⟩).2
        intro q
        apply this
        dsimp only
        lia
  · rw [op_cps hb]; rfl
  · rw [cl_cps hb]; rfl
  · intro k hk
    obtain ⟨m, rfl⟩ := Int.eq_ofNat_of_zero_le hk
    rw [parse_cut (op_cps hb)]
    obtain ⟨j, e⟩ := scan_in ((quads b).map (sgc (pairF n))) (m - 5)
    rw [e]; exact htake j
  · intro k hk
    obtain ⟨m, rfl⟩ := Int.eq_ofNat_of_zero_le hk
    rw [parse_cut (cl_cps hb)]
    obtain ⟨j, e⟩ := scan_in2 ((quads b).map (sgc (pairF n))) (m - 5)
    rw [e]; exact htake j
end
theorem name_size (x y mk : Int) : (nameF x y mk).size = 0 ∨ (nameF x y mk).size = 3 ∨ (nameF x y mk).size = 6 := by
  unfold nameF
  split
  · exact .inl rfl
  · split
    · right; left; rw [Array.size_append, three_size]; rfl
    · right; right; rw [Array.size_append, Array.size_append, three_size, three_size]; rfl
theorem row_way (ns : List Int) (mk : Int) (c : Nat) : (rowF ns mk c).1 = 0 ∨ (rowF ns mk c).1 = 1 := by
  unfold rowF
  dsimp only
  have h1 := Int.fmod_nonneg_of_pos (((cellsF ns).getD c 0).fdiv 6) (by decide : (0 : Int) < 2)
  have h2 := Int.fmod_lt_of_pos (((cellsF ns).getD c 0).fdiv 6) (by decide : (0 : Int) < 2)
  lia
theorem ch_chR {n : Nat} {y : Row} (hb : y.2.size = 0 ∨ y.2.size = 3 ∨ y.2.size = 6) : chF (pairF n) y = chR y := by
  unfold chF chR
  split
  · exact up_parts hb
  · exact dn_parts hb
/-- what the walk asks of the rows -/
theorem rows_law {n : Nat} {rws : List Row} (hne : rws ≠ []) (hw : ∀ y ∈ rws, y.1 = 0 ∨ y.1 = 1) (hs : ∀ y ∈ rws, y.2.size = 0 ∨ y.2.size = 3 ∨ y.2.size = 6) :
    ((∃ acc, dueF rws = none ∧ mergeF (totL ([] :: rws.map (chF (pairF n))) + 1) ([] :: rws.map (chF (pairF n))) [] = (acc, false, leftF rws)) ∨ (∃ bs, dueF rws = some bs ∧ mergeF (totL ([] :: rws.map (chF (pairF n))) + 1) ([] :: rws.map (chF (pairF n))) [] = (bs, true, ([] :: rws.map (chF (pairF n))).map fun _ => []))) := by
  have e : rws.map (chF (pairF n)) = rws.map chR := List.map_congr_left fun y hy => ch_chR (hs y hy)
  rw [e]
  exact merge_law ⟨hw, fun y hy => by rcases hs y hy with h | h | h <;> rw [h], fun y hy => by rcases hs y hy with h | h | h <;> lia, hne⟩
theorem tot_le {n : Nat} : ∀ {rws : List Row}, (∀ y ∈ rws, y.2.size = 0 ∨ y.2.size = 3 ∨ y.2.size = 6) → totL ([] :: rws.map (chF (pairF n))) ≤ 3 * rws.length
  | [], _ => by simp [totL]
  | y :: rws, h => by
    have ih := tot_le (n := n) (rws := rws) fun y hy => h y (List.mem_cons_of_mem _ hy)
    have hy := h y List.mem_cons_self
    have hl : (chF (pairF n) y).length ≤ 3 := by
      rw [ch_chR hy]
      have : (partsF y.2).length = y.2.size / 3 + 1 := by simp [partsF]
      unfold chR
      split
      · lia
      · rw [List.length_reverse]; lia
    unfold totL at ih ⊢
    simp only [List.map_cons, List.sum_cons, List.length_cons, List.length_nil] at ih ⊢
    lia
end Mine
end
section
open PySem PySem.W PyProof.Rows PySem.Calls PySem.SeqAt
set_option Elab.async false
set_option linter.unusedVariables false
namespace Mine
theorem body_goC {prog : Program} {w : World} {A : Around} {env : Env} {body : List Stmt} {Q : Flow → Shared → Prop} {E : Value → Shared → Prop} {s : Shared} {g : Heap} {m cm : Str → Option Value} {cells : List (Addr × Obj)} (Γ : Ctx') (F : Fr g env.locals s.heap m) (N : News g env.locals s.heap cells) (Y : CellsAre cm env.cells cells)
    (hnd : (env.cells.map (·.2)).Nodup)
    (hΓ : Ext g (zin env s.heap).g → ∀ x f, Γ.lookup x = some f → ∃ P v, f = .loc P ∧ Mono P ∧ env.kindOf x = some .local ∧ m x = some v ∧ P (zin env s.heap).g v)
    (k : ∀ z : Zn, z.os = [] → z.pins = [] → STA z env Γ s.heap → Ext g z.g → g.objs.size ≤ env.locals → wpAny (model prog w) A (execs body env) Q E s) :
    wpAny (model prog w) A (execs body env) Q E s := by
  have N' : News g env.locals s.heap (cells ++ []) := by rw [List.append_nil]; exact N
  exact k (zin env s.heap) rfl rfl (STA.enter F N' Y hnd (hΓ (g_in F N' Y))) (g_in F N' Y) F.above
theorem ints_paired : ∀ {vs : List Value} {ns : List Int}, IntsAre vs ns → Paired intR ns vs
  | _, _, .nil => .nil
  | _, _, .cons n t h => .cons ⟨t, rfl⟩ (ints_paired h)
theorem two_ints {l : List Int} {c : Nat} {its : Array Value} (hc : c + 2 ≤ l.length) (h : Paired intR ((l.drop c).take 2) its.toList) : ∃ tx ty, its = #[.int (l.getD c 0) tx, .int (l.getD (c + 1) 0) ty] := by
  have e : (l.drop c).take 2 = [l.getD c 0, l.getD (c + 1) 0] := by
    rw [List.drop_eq_getElem_cons (by omega), List.drop_eq_getElem_cons (by omega), getD_at (by omega), getD_at (by omega)]
    rfl
  rw [e] at h
  obtain ⟨l2⟩ := its
  cases h with
  | cons h1 t =>
    cases t with
    | cons h2 t =>
      cases t
      obtain ⟨tx, rfl⟩ := h1
      obtain ⟨ty, rfl⟩ := h2
      exact ⟨tx, ty, rfl⟩
set_option maxRecDepth 100000 in
set_option maxHeartbeats 8000000 in
theorem lw : PySem.Challenge.rw_qh0045_01.Holds := by
  refine hd ?_
  w_on
  k_with_none
  k_fill
  intro w s₀ s₁ mg mb G Y fa o pm cd doc dV kV ho hd hcd hD hmg hg args vals as hpre hlay hrd hwl hlo
  have KX := kIn_of Y
  have X := (Ground.X G).1
  have V := (Ground.X G).2
  refine Ground.open G ?_
  intro T B D TE TW
  try (refine guard_noD D (by decide +kernel) ?_; clear D)
  obtain ⟨_, _, M⟩ := bmod_of_top T
  have TA := at_of_top T
  try (obtain ⟨_, _, he, B0⟩ := based_of_top T rfl hmg ho hd; have he' : cd = _ := he; subst he'; clear he)
  clear hmg
  wrow_args hpre hlay hrd hwl hlo
  all_goals (
    first | refine callC_kw (enter_call ?_) | refine enter_call ?_
    w_top on
    try refine codeAny_mono ?_ (fun _ _ g => GoodW.toG g)
    have K0 := below_caller (Top.heap T)
    w_call any ho hd hcd hD T F
    clear hd TA
    k_drop
    skip)
  dsimp only
  (rename Fr _ _ _ _ => F0); (rename News _ _ _ _ => N0); (rename CellsAre _ _ _ => Y0); (rename Top _ _ _ _ _ _ => T0); (rename Frag.In _ _ => X0); (rename Below _ _ _ _ => B0); (rename Heap.IsList _ _ _ => hL0); (rename IntsAre _ _ => hI0)
  (rename List Int => ns); (rename List Value => vs); (rename Shared => s1); (rename World => w)
  have hn63 : ns.length ≤ 63 := by omega
  refine veil fun Q1 E1 hQ1 hE1 => ?_
  refine body_goC [(Str.ofString "script", .loc (LS intR ns))] F0 N0 Y0 ?nd ?hG fun z hz0 hp0 H0 kg hab => ?_
  case nd => (show ([_ + 2, _ + 1] : List Addr).Nodup; simp)
  case hG =>
    intro kg x f hx
    have e := lookup_in hx
    simp at e
    obtain ⟨rfl, rfl⟩ := e
    exact ⟨_, _, rfl, mono_LS _ _, rfl, rfl, _, _, rfl, hL0.at fun o e => kg _ _ e, by simpa using ints_paired hI0⟩
  have glen : ∀ env : Env, env.globals = mainGlobals → env.builtins = builtinsNs → GB z.g env (Str.ofString "len") (.builtin "len") := fun env e1 e2 => ⟨_, _, by rw [e1]; exact T0.g.keeps kg, mg_none_of X0 T0.g (by k_is), by rw [e2]; exact T0.b.keeps kg, (T0.builtins _ (by decide)).trans (by boot_by_name)⟩
  have fname : ∀ env : Env, env.globals = mainGlobals → FN z.g env (Str.ofString "_law_name") 153 := fun env e1 => ⟨⟨_, by rw [e1]; exact T0.g.keeps kg, mg_of X0 T0.g (by k_is)⟩, _, _, kg _ _ (X0 153 _ (by k_is)), rfl⟩
  have fb64 : ∀ env : Env, env.globals = mainGlobals → FN z.g env (Str.ofString "b64encode") 131 := fun env e1 => ⟨⟨_, by rw [e1]; exact T0.g.keeps kg, mg_of X0 T0.g (by k_is)⟩, _, _, kg _ _ (X0 131 _ (by k_is)), rfl⟩
  have fwrt : ∀ env : Env, env.globals = mainGlobals → FN z.g env (Str.ofString "_law_written") 160 := fun env e1 => ⟨⟨_, by rw [e1]; exact T0.g.keeps kg, mg_of X0 T0.g (by k_is)⟩, _, _, kg _ _ (X0 160 _ (by k_is)), rfl⟩
  have fp257 : ∀ env : Env, env.globals = mainGlobals → FN z.g env (Str.ofString "parse257") 58 := fun env e1 => ⟨⟨_, by rw [e1]; exact T0.g.keeps kg, mg_of X0 T0.g (by k_is)⟩, _, _, kg _ _ (X0 58 _ (by k_is)), rfl⟩
  have fread : ∀ env : Env, env.globals = mainGlobals → FN z.g env (Str.ofString "_law_read") 167 := fun env e1 => ⟨⟨_, by rw [e1]; exact T0.g.keeps kg, mg_of X0 T0.g (by k_is)⟩, _, _, kg _ _ (X0 167 _ (by k_is)), rfl⟩
  have fchain : ∀ env : Env, env.globals = mainGlobals → FN z.g env (Str.ofString "_law_chain") 174 := fun env e1 => ⟨⟨_, by rw [e1]; exact T0.g.keeps kg, mg_of X0 T0.g (by k_is)⟩, _, _, kg _ _ (X0 174 _ (by k_is)), rfl⟩
  have fdue : ∀ env : Env, env.globals = mainGlobals → FN z.g env (Str.ofString "_law_due") 179 := fun env e1 => ⟨⟨_, by rw [e1]; exact T0.g.keeps kg, mg_of X0 T0.g (by k_is)⟩, _, _, kg _ _ (X0 179 _ (by k_is)), rfl⟩
  have fc3 : ∀ env : Env, env.globals = mainGlobals → FN z.g env (Str.ofString "_c3_merge") 26 := fun env e1 => ⟨⟨_, by rw [e1]; exact T0.g.keeps kg, mg_of X0 T0.g (by k_is)⟩, _, _, kg _ _ (X0 26 _ (by k_is)), rfl⟩
  have fleft : ∀ env : Env, env.globals = mainGlobals → FN z.g env (Str.ofString "_law_left") 184 := fun env e1 => ⟨⟨_, by rw [e1]; exact T0.g.keeps kg, mg_of X0 T0.g (by k_is)⟩, _, _, kg _ _ (X0 184 _ (by k_is)), rfl⟩
  have gisi : ∀ env : Env, env.globals = mainGlobals → env.builtins = builtinsNs → GB z.g env (Str.ofString "isinstance") (.builtin "isinstance") := fun env e1 e2 => ⟨_, _, by rw [e1]; exact T0.g.keeps kg, mg_none_of X0 T0.g (by k_is), by rw [e2]; exact T0.b.keeps kg, (T0.builtins _ (by decide)).trans (by boot_by_name)⟩
  have gchr : ∀ env : Env, env.globals = mainGlobals → env.builtins = builtinsNs → GB z.g env (Str.ofString "chr") (.builtin "chr") := fun env e1 e2 => ⟨_, _, by rw [e1]; exact T0.g.keeps kg, mg_none_of X0 T0.g (by k_is), by rw [e2]; exact T0.b.keeps kg, (T0.builtins _ (by decide)).trans (by boot_by_name)⟩
  have grange : ∀ env : Env, env.globals = mainGlobals → env.builtins = builtinsNs → GB z.g env (Str.ofString "range") (.type "range") := fun env e1 e2 => ⟨_, _, by rw [e1]; exact T0.g.keeps kg, mg_none_of X0 T0.g (by k_is), by rw [e2]; exact T0.b.keeps kg, (T0.builtins _ (by decide)).trans (by boot_by_name)⟩
  have gbytes : ∀ env : Env, env.globals = mainGlobals → env.builtins = builtinsNs → GB z.g env (Str.ofString "bytes") (.type "bytes") := fun env e1 e2 => ⟨_, _, by rw [e1]; exact T0.g.keeps kg, mg_none_of X0 T0.g (by k_is), by rw [e2]; exact T0.b.keeps kg, (T0.builtins _ (by decide)).trans (by boot_by_name)⟩
  have gstr : ∀ env : Env, env.globals = mainGlobals → env.builtins = builtinsNs → GB z.g env (Str.ofString "str") (.type "str") := fun env e1 e2 => ⟨_, _, by rw [e1]; exact T0.g.keeps kg, mg_none_of X0 T0.g (by k_is), by rw [e2]; exact T0.b.keeps kg, (T0.builtins _ (by decide)).trans (by boot_by_name)⟩
  refine st_assign_cel (x := Str.ofString "cells") (P := LS intR (cellsF ns)) H0 ?ev (mono_LS _ _) (fun h1 tk1 H1 => ?_) rfl
  case ev =>
    refine EVF.evh (EVF_upto (G := intR) (zs := ns ++ [7, 2, 3, 0, 7, 1, 3, 16]) (n := 8) ?k1 EV_int ?k2) H0.dom
    case k2 => rw [List.length_append]; simp; omega
    refine EV_cat (G := intR) (H0.ev_loc rfl) (EV_list (G := intR) [7, 2, 3, 0, 7, 1, 3, 16] (by decide) ?k3) ?k4
    case k4 => simp; omega
    exact .cons EV_int (.cons EV_int (.cons EV_int (.cons EV_int (.cons EV_int (.cons EV_int (.cons EV_int (.cons EV_int .nil)))))))
  refine st_assign_loc (x := Str.ofString "pair") (P := IsS (pairF ns.length)) H1 ?ev2 (mono_S _) fun h2 tk2 H2 => ?_
  case ev2 =>
    have hm : (Int.fmod (ns.length : Int) 4) = ((ns.length % 4 : Nat) : Int) := by rw [Int.fmod_eq_emod_of_nonneg _ (by decide)]; omega
    have hlt : ns.length % 4 < pairs4.length := by show _ < 4; omega
    refine EV.evh (EV.mono (EV_itemT (n := ns.length % 4) (G := strR) (zs := pairs4) (EV_list (G := strR) pairs4 (by decide) (.cons EV_str (.cons EV_str (.cons EV_str (.cons EV_str .nil))))) ?sl hlt (by decide)) fun h v e => ?fin) fun _ _ _ h => h
    case sl => rw [← hm]; exact EV_mod (EV_len_L (G := intR) (EV_gb rfl rfl ((glen _ rfl rfl).up H1.base)) (H1.ev_loc rfl) (by omega)) EV_int (by decide)
    case fin => unfold pairF; rw [getD_at hlt]; exact e
  have hpl := pairF_len ns.length
  generalize hpq : pairF ns.length = pr at H2 hpl
  refine st_assign_cel (x := Str.ofString "mark") (P := IsI (markF pr)) H2 ?ev3 (mono_I _) (fun h3 tk3 H3 => ?_) rfl
  case ev3 =>
    refine EVH_ite (b := decide (Txt.item pr 0 = Str.ofString "\"")) (TS_cmp (P₁ := IsS (Txt.item pr 0)) (EV_itemS (i := 0) (H2.ev_loc rfl) EV_int (by decide) (by omega) (by omega)) (mono_S _) EV_str (CMP_eq_S _ _)) (fun hb => ?_) (fun hb => ?_)
    · have e : markF pr = 62 := if_pos (by simpa using hb)
      rw [e]; exact EV.evh EV_int fun _ _ _ h => h
    · have e : markF pr = 63 := if_neg (by simpa using hb)
      rw [e]; exact EV.evh EV_int fun _ _ _ h => h
  have hcl8 : (cellsF ns).length = 8 := by unfold cellsF; rw [List.length_take, List.length_append]; simp
  have hmk : 0 ≤ markF pr ∧ markF pr < 64 := by unfold markF; split <;> decide
  refine' st_comp_sev (x := Str.ofString "k") (y := Str.ofString "rows") (xs := [0, 2, 4, 6]) (f := rowF ns (markF pr)) (Rel := fun (c : Nat) v => ∃ t, v = .int (c : Int) t) (G := fun h b v => PairR wayR namR h b v) (cl := ?cl0) H3 (.inl rfl) (fun h h' b v k e => PairR.mono _ _ _ _ k e) ?it ?hcl (by decide) rfl ?elt ?_
  case hcl => first | (exact rfl) | (with_unfolding_all rfl)
  case it =>
    exact EVF.evh (EVF_tuple (G := fun (c : Nat) v => ∃ t, v = .int (c : Int) t) [0, 2, 4, 6] (by decide) (.cons EV_int (.cons EV_int (.cons EV_int (.cons EV_int .nil))))) H3.dom
  case elt =>
    intro c v C z' s' Q' E' hc hv hos kz HS ⟨mC, hnC, hmC⟩ hret
    have hc8 : c + 2 ≤ (cellsF ns).length := by rw [hcl8]; simp at hc; omega
    obtain ⟨cc, vc, hcc, hccv, hPc⟩ := HS.cellAt (x := Str.ofString "cells") rfl
    obtain ⟨cm, vm, hcm, hcmv, hPm⟩ := HS.cellAt (x := Str.ofString "mark") rfl
    refine pair_sev (PA := fun v => ∃ t, v = .int (rowF ns (markF pr) c).1 t) (PB := fun v => namR (rowF ns (markF pr) c) v) HS ?p1 ?p2 ?p3
    case p3 => exact fun r h' tk Hr hT => hret r h' tk Hr hT
    case p1 =>
      refine EV.mono (P := IsI (rowF ns (markF pr) c).1) ?q fun h v e => e
      refine EV_mod (a := ((cellsF ns).getD c 0).fdiv 6) (c := 2) ?q1 EV_int (by decide)
      refine EV_fdiv (a := (cellsF ns).getD c 0) (c := 6) ?q2 EV_int (by decide) (by decide)
      refine EV.mono (P := fun _ v => intR (cellsF ns)[c] v) ?q3 fun h v e => by rw [getD_at (by omega)]; exact e
      refine EV_item (n := c) (G := intR) (zs := cellsF ns) ?q5 ?q6 (by omega) (by omega)
      · exact EV_cell (P := LS intR (cellsF ns)) rfl rfl hcc hccv hPc (mono_LS _ _)
      · exact EV_local (P := IsI (c : Int)) rfl rfl hnC hmC hv (mono_I _)
    case p2 =>
      intro s2 Q2 E2 HS2 k2 hq2
      refine call2_def (f := 153) (x := Str.ofString "_law_name") ((fname _ rfl).up (kz.trans HS2.base)) rfl rfl ?_
      refine (EV_run (a := c) (b := c + 2) (G := intR) (zs := cellsF ns) (K := s2.heap) ?r1 ?r2 ?r3 (by omega) hc8 (by omega)) s2 _ _ Ext.rfl' fun v1 h1 tk1 k1 hv1 => ?_
      case r1 => exact EV_cell (P := LS intR (cellsF ns)) rfl rfl hcc (hccv.keeps k2) (mono_LS _ _ _ _ _ k2 hPc) (mono_LS _ _)
      case r2 => exact EV_local (P := IsI (c : Int)) rfl rfl (hnC.keeps k2) hmC hv (mono_I _)
      case r3 => exact EV_add (EV_local (P := IsI (c : Int)) rfl rfl (hnC.keeps k2) hmC hv (mono_I _)) EV_int
      obtain ⟨D, its, nD, rfl, hDK, hD, hp1⟩ := hv1
      refine (EV_cell (P := IsI (markF pr)) (K := h1) rfl rfl hcm (hcmv.keeps (k2.trans k1)) hPm (mono_I _)) _ _ _ Ext.rfl' fun v2 h2 tk2 k2' hv2 => ⟨k1.trans k2', ?_⟩
      obtain ⟨tm, rfl⟩ := hv2
      have HS3 := HS2.ext (k1.trans k2')
      have CA : CallAt _ _ _ _ _ _ _ [] _ z' := ⟨rfl, rfl, B0, (fun b hb => nomatch hb), X0, T0, hab, kg.trans kz⟩
      have e2 : c + 2 - c = 2 := by omega
      rw [e2] at hp1
      obtain ⟨tx, ty, hits⟩ := two_ints (by omega) hp1
      subst hits
      refine STA.call1 CA HS3 (q := (D, listOf #[Value.int ((cellsF ns).getD c 0) tx, Value.int ((cellsF ns).getD (c + 1) 0) ty] nD)) ?hDf (name_spec w _ _ _ _ _ _ (markF pr) tx ty tm D nD hmk.1 hmk.2) (by decide) fun v h' tk hr Hb hkp => ?_
      case hDf =>
        refine mem_fullL.mpr ⟨?_, ?_, (k2' _ _ hD : _)⟩
        · rintro rfl
          obtain ⟨o, ho⟩ := HS2.dom _ mem_L
          rw [ho] at hDK; cases hDK
        · cases e : Heap.get? _ D with
          | none => rfl
          | some o => rw [HS2.base _ _ (kz _ _ (kg _ _ e))] at hDK; cases hDK
      exact hq2 v h' tk Hb hr
  intro h4 tk4 H4
  have hpa : ∀ c ∈ pr.cps.toList, c < 128 := by rw [← hpq]; exact pairF_asc _
  generalize hrws : [0, 2, 4, 6].map (rowF ns (markF pr)) = rws at H4
  have hns : ∀ y ∈ rws, y.2.size = 0 ∨ y.2.size = 3 ∨ y.2.size = 6 := fun y hy => by
    rw [← hrws] at hy
    obtain ⟨c, _, rfl⟩ := List.mem_map.mp hy
    exact name_size _ _ _
  have hrow : ∀ y ∈ rws, RowOk pr y.2 := fun y hy => by rw [← hpq]; exact row_ok (hns y hy)
  have hway : ∀ y ∈ rws, y.1 = 0 ∨ y.1 = 1 := fun y hy => by
    rw [← hrws] at hy
    obtain ⟨c, _, rfl⟩ := List.mem_map.mp hy
    exact row_way _ _ _
  have hrl : rws.length = 4 := by rw [← hrws]; rfl
  refine st_new1 H4 (EVF_nilP.evh H4.dom) (mono_CH _ []) fun a h5 tk5 hos H5 => ?_
  have H5' := (H5.imp_own (x := Str.ofString "chains") (a := a) (R' := CHS s1.heap [[]]) rfl (fun h l ⟨v, e, b, its, n, e2, e0, e3, e4⟩ => ⟨[(b, [])], rfl, by simp, by rw [e, e2]; exact .cons rfl .nil, fun c hc => by
    rw [List.mem_singleton.mp hc]; exact ⟨old_none (kg.trans H4.base) e0, its, n, e3, e4⟩⟩) (mono_CHS _ _)).weak (Γ' := [(Str.ofString "chains", .own a (CHS s1.heap [[]])), (Str.ofString "rows", .loc (RowsV rws)), (Str.ofString "pair", .loc (IsS pr))]) (by
    intro p hp
    simp only [List.mem_cons, List.not_mem_nil, or_false] at hp
    rcases hp with rfl | rfl | rfl <;> rfl)
  clear H5 H4 H3 H2 H1 H0
  refine st_for (xs := rws) (Rel := PairR wayR namR) (Γi := fun i => [(Str.ofString "chains", .own a (CHS s1.heap ([] :: (rws.take i).map (chF pr)))), (Str.ofString "rows", .loc (RowsV rws)), (Str.ofString "pair", .loc (IsS pr))])
    (Tg := fun y => [(Str.ofString "name", .loc fun _ v => namR y v), (Str.ofString "way", .loc fun _ v => wayR y v)]) H5' ?hw PairR.mono (.inl rfl) (.inl (H5'.evh_loc rfl)) (.inr ⟨⟨_, _, _, rfl⟩, fun h y v ⟨T, va, vb, e, _⟩ => ⟨T, e⟩⟩) (bind_pair2 z.g (.inl rfl) rfl rfl rfl) ?body ?done
  case hw =>
    intro p hp
    simp only [List.mem_cons, List.not_mem_nil, or_false] at hp
    rcases hp with rfl | rfl | rfl <;> rfl
  case body =>
    intro i y z' h6 tk6 E' hy hos' kz HH
    have hym := List.mem_of_getElem? hy
    have RO := hrow y hym
    have CA : CallAt callerA w (ExcName.means _) _ _ _ _ [] _ z' := ⟨rfl, rfl, B0, (fun b hb => nomatch hb), X0, T0, hab, kg.trans kz⟩
    clear H5'
    refine veil fun Q6 E6 hQ6 hE6 => ?_
    refine st_assign_sev (x := Str.ofString "written") (P := IsB (encOut y.2 (encA pr))) HH ?s1 (mono_B _) fun h7 tk7 H7 => ?_
    case s1 =>
      intro s2 Q2 E2 HS hq
      refine call2_def (f := 131) (x := Str.ofString "b64encode") ((fb64 _ rfl).up (kz.trans HS.base)) rfl rfl ?_
      refine (HS.ev_loc (x := Str.ofString "name") rfl) s2 _ _ Ext.rfl' fun v1 g1 t1 k1 hv1 => ?_
      obtain ⟨u1, rfl⟩ := hv1
      refine (EV_encode (HS.ev_loc (x := Str.ofString "pair") rfl) hpa (by omega)) _ _ _ k1 fun v2 g2 t2 k2 hv2 => ⟨k1.trans k2, ?_⟩
      obtain ⟨u2, rfl⟩ := hv2
      exact STA.call0 CA (HS.ext (k1.trans k2)) (b64encode_spec w _ _ _ _ y.2 (encA pr) u1 u2 (by rcases RO.size with e | e | e <;> omega) RO.rem ((encA_size pr).trans hpl)) (by decide) fun v h' tk hv H' hk => hq v h' tk H' hv
    have hu0 : ∀ env : Env, (callerA.deeper env).units < cLine := fun env => by have := (law_room (room := 0) (env := env) (by decide)).2; omega
    have hwz := RO.wlen
    have hoz := RO.olen
    have hcz := RO.clen
    refine st_if_sts H7 (b := false) ?s2 (fun q => nomatch q) fun _ h8 tk8 H8 => wpAny_execs_nil ?_
    case s2 =>
      refine STS_eq (a := (!true || decide (encOut y.2 (encA pr) ≠ encA (wrtF pr y.2)))) (by rw [RO.enc]; simp) ?_
      refine STS_or (STS_of fun h HS => TS_not (TS_isB (EV_gb rfl rfl ((gisi _ rfl rfl).up (kz.trans HS.base))) (HS.ev_loc (x := Str.ofString "written") rfl) (EV_gb rfl rfl ((gbytes _ rfl rfl).up (kz.trans HS.base))))) fun _ => ?_
      refine STS_cmpR (G := fun v => ∃ t, v = .bytes (encOut y.2 (encA pr)) t) (P₂ := IsB (encA (wrtF pr y.2))) (fun h HS => HS.ev_loc (x := Str.ofString "written") rfl) (SEV_encode (y := wrtF pr y.2) ?_ RO.asc (by omega)) (mono_B _) (CMP_ne_B _ _)
      intro s2 Q2 E2 HS hq
      refine call2_def (f := 160) (x := Str.ofString "_law_written") ((fwrt _ rfl).up (kz.trans HS.base)) rfl rfl ?_
      refine (HS.ev_loc (x := Str.ofString "name") rfl) s2 _ _ Ext.rfl' fun v1 g1 t1 k1 hv1 => ?_
      obtain ⟨u1, rfl⟩ := hv1
      refine (HS.ev_loc (x := Str.ofString "pair") rfl) _ _ _ k1 fun v2 g2 t2 k2 hv2 => ⟨k1.trans k2, ?_⟩
      obtain ⟨u2, rfl⟩ := hv2
      exact STA.call0 CA (HS.ext (k1.trans k2)) (written_spec w _ _ _ _ y.2 pr u1 u2 RO.size hpl) (by decide) fun v h' tk hv H' hk => hq v h' tk H' hv
    refine st_assign_loc (x := Str.ofString "opened") (P := IsS (opF pr y.2)) H8 ?s3 (mono_S _) fun h9 tk9 H9 => ?_
    case s3 =>
      have hyl : (((KBw.bInts (encOut y.2 (encA pr))).filter fun _ => true).map chrF).length ≤ 8 := by
        rw [List.length_map]
        refine Nat.le_trans (List.length_filter_le _ _) ?_
        rw [KBw.ints_length]; exact RO.esz
      refine EV.evh (EV_opened (R := quoF pr y.2) (ys := ((KBw.bInts (encOut y.2 (encA pr))).filter fun _ => true).map chrF) (EVF.ev (EVF_compB (cl := []) (G := strR) rfl (H8.ev_loc (x := Str.ofString "written") rfl) (by have := RO.esz; omega) rfl fun K' k => CompOk.name rfl rfl (fun _ _ _ _ _ _ _ _ _ _ => TSL_nil) ?el)) ?w1 ?w2 (by decide) (by decide) ?w3 ?w4) fun _ _ _ h => h
      case el =>
        intro C n v K2 m hn _ k2 hns hv hr
        have hr9 := KBw.ints_in hn
        exact EV_chr (EV_gb rfl rfl ((gchr _ rfl rfl).up (kz.trans (H8.base.trans (k.trans k2))))) (EV_local (P := IsI n) rfl rfl hns hv hr (mono_I _)) hr9.1 (by omega)
      case w1 =>
        rw [List.length_map] at hyl
        rw [chr_sum, List.length_map]; omega
      case w2 => rw [RO.join]; omega
      case w3 => rw [RO.join]; exact RO.repl
      case w4 =>
        have := RO.qlen
        have : (Str.ofString "257 \"").length = 5 := by decide +kernel
        omega
    refine st_assign_loc (x := Str.ofString "closed") (P := IsS (clF pr y.2)) H9 (EV.evh (EV_addS (H9.ev_loc (x := Str.ofString "opened") rfl) EV_str ?w5) fun _ _ _ h => h) (mono_S _) fun h10 tk10 H10 => ?_
    case w5 =>
      have : (Str.ofString "\" \"").length = 3 := by decide +kernel
      omega
    refine st_if_sts H10 (b := false) ?s5 (fun q => nomatch q) fun _ h11 tk11 H11 => wpAny_execs_nil ?_
    case s5 =>
      refine STS_eq (a := (decide (parse257S (oddF pr y.2) ≠ Str.ofString "") || !decide (readL (clF pr y.2) pr = []))) (by rw [RO.oddE, RO.rd]; simp) ?_
      refine STS_or (STS_cmp (P₁ := IsS (parse257S (oddF pr y.2))) ?c1 (mono_S _) (fun _ _ => EV_str) (CMP_ne_S _ _)) fun _ => STS_cmp (P₁ := BL (readL (clF pr y.2) pr)) ?c2 (mono_BL _) (fun _ _ => EV_nil) (CMP_ne_BL _ _ (hu0 _))
      case c1 =>
        intro s2 Q2 E2 HS hq
        refine call1_def (f := 58) (x := Str.ofString "parse257") ((fp257 _ rfl).up (kz.trans HS.base)) rfl rfl ?_
        have hsl := PyProof.Txt.length_slice_le (clF pr y.2) (some 4) none
        have h4 : (Str.ofString "257-").length = 4 := by decide +kernel
        refine (EV_addS (b := Txt.slice (clF pr y.2) (some 4) none) EV_str (EV_fromS (HS.ev_loc (x := Str.ofString "closed") rfl) EV_int (by omega)) (by omega)) s2 _ _ Ext.rfl' fun v1 g1 t1 k1 hv1 => ⟨k1, ?_⟩
        obtain ⟨u1, rfl⟩ := hv1
        refine STA.call0 CA (P := fun v => ∃ t, v = .str (parse257S (oddF pr y.2)) t) (HS.ext k1) (Sp.imp (parse_spec w _ _ _ _ (oddF pr y.2) u1 (by have := RO.xlen; omega)) (fun v n h => ⟨h.1, h.2.2⟩) (fun c a h => by have := h.2; rw [RO.odd3] at this; cases this)) (by decide) fun v h' tk hv H' hk => hq v h' tk H' hv
      case c2 =>
        intro s2 Q2 E2 HS hq
        refine call2_def (f := 167) (x := Str.ofString "_law_read") ((fread _ rfl).up (kz.trans HS.base)) rfl rfl ?_
        refine (HS.ev_loc (x := Str.ofString "closed") rfl) s2 _ _ Ext.rfl' fun v1 g1 t1 k1 hv1 => ?_
        obtain ⟨u1, rfl⟩ := hv1
        refine (HS.ev_loc (x := Str.ofString "pair") rfl) _ _ _ k1 fun v2 g2 t2 k2 hv2 => ⟨k1.trans k2, ?_⟩
        obtain ⟨u2, rfl⟩ := hv2
        exact STA.callT CA (HS.ext (k1.trans k2)) (read_spec w _ _ _ _ (clF pr y.2) pr u1 u2 RO.tkc.1 hpl RO.tkc.2.1 hpa RO.tkc.2.2) (fun q => Iff.rfl) (by decide) fun a its n h' tk hn hg hp H' hk => hq _ h' tk H' ⟨a, its, rfl, ⟨_, hid_at (HS.ext (k1.trans k2)) hn hg, rfl, n, rfl⟩, hp⟩
    have htk1 : (rws.take (i + 1)).map (chF pr) = (rws.take i).map (chF pr) ++ [chF pr y] := by rw [List.take_add_one, hy, List.map_append]; rfl
    refine st_if (b := decide (y.1 = 0)) H11 (TS_cmp (P₁ := IsI y.1) (H11.ev_loc (x := Str.ofString "way") rfl) (mono_I _) EV_int (CMP_eq_I _ _)) (fun hb h12 tk12 H12 => ?_) (fun hb h12 tk12 H12 => ?_)
    · have hch : chF pr y = upF pr y.2 := (if_pos (by simpa using hb))
      refine st_append_cev (x := Str.ofString "chains") (R' := CHS s1.heap ([] :: (rws.take (i + 1)).map (chF pr))) (PP := fun h v => ∃ a its n, v = .ref a ∧ h12.get? a = none ∧ h.get? a = some (listOf its n) ∧ Paired bytesR (chF pr y) its.toList) H12 rfl ?ho ?he (mono_CHS _ _) ?hR fun h13 tk13 H13 => wpAny_execs_nil (wpAny_execs_nil (hQ6 _ _ ⟨h13, tk13, rfl, H13.weak ?hw⟩))
      case ho =>
        intro p hp
        simp only [List.cons_append, List.nil_append, List.mem_cons, List.not_mem_nil, or_false] at hp
        rcases hp with rfl | rfl | rfl | rfl | rfl | rfl | rfl | rfl <;> first | (intro q; exact absurd rfl q) | (intro _; rfl)
      case hw =>
        intro p hp
        simp only [List.mem_cons, List.not_mem_nil, or_false] at hp
        rcases hp with rfl | rfl | rfl <;> rfl
      case hR =>
        rintro h13 v l hl kh ⟨b, its, n, rfl, hn, hg, hp⟩
        refine ⟨?_, ?_⟩
        · rw [htk1]
          exact CHS.snoc hl kh (old_none hide_ext hn) (old_none ((kg.trans kz).trans H12.base) hn) hg hp
        · rw [hl.len, List.length_cons, List.length_map, List.length_take]; omega
      case he =>
        intro Q2 E2 hq
        refine call3_def (f := 174) (x := Str.ofString "_law_chain") ((fchain _ rfl).up (kz.trans H12.base)) rfl rfl ?_
        refine (H12.ev_loc (x := Str.ofString "opened") rfl) _ _ _ Ext.rfl' fun v1 g1 t1 k1 hv1 => ?_
        obtain ⟨u1, rfl⟩ := hv1
        have HS1 := H12.ext k1
        refine (EV_rangeN1 (EV_gb rfl rfl ((grange _ rfl rfl).up (kz.trans HS1.base))) (EV_add (EV_lenS (EV_gb rfl rfl ((glen _ rfl rfl).up (kz.trans HS1.base))) (HS1.ev_loc (x := Str.ofString "opened") rfl) (by omega)) EV_int)) _ _ _ Ext.rfl' fun v2 g2 t2 k2 hv2 => ?_
        obtain ⟨ra, tr, ur, zr, rfl, hrn, hrg⟩ := hv2
        refine (H12.ev_loc (x := Str.ofString "pair") rfl) _ _ _ (k1.trans k2) fun v3 g3 t3 k3 hv3 => ⟨(k1.trans k2).trans k3, ?_⟩
        obtain ⟨u3, rfl⟩ := hv3
        have hrg9 := rg_lo (opF pr y.2).length hoz
        refine STA.callT (room := 12) (bs := chF pr y) CA (HS1.ext (k2.trans k3)) ?sp (fun q => Iff.rfl) (by decide) fun b its n h' tk hn hg hp H' hk => hq _ h' tk H' (fun d o hd e => hk d o hd (((k1.trans k2).trans k3) _ _ e)) ⟨b, its, n, rfl, old_none ((k1.trans k2).trans k3) hn, hid_at (HS1.ext (k2.trans k3)) hn hg, hp⟩
        case sp =>
          rw [hch]
          refine chain_spec w _ _ _ _ (opF pr y.2) pr u1 u3 ra 0 (((opF pr y.2).length : Int) + 1) 1 tr ur zr ((opF pr y.2).length + 1) (by omega) (by omega) hpl hpa RO.o257 (mem_fullL.mpr ⟨?_, ?_, k3 _ _ hrg⟩) hrg9.1 hrg9.2 (fun i hi => by omega) RO.tup
          · rintro rfl
            obtain ⟨o, ho⟩ := HS1.dom _ mem_L
            rw [ho] at hrn; cases hrn
          · exact old_none ((kg.trans kz).trans HS1.base) hrn
    · have hch : chF pr y = dnF pr y.2 := (if_neg (by simpa using hb))
      refine st_append_cev (x := Str.ofString "chains") (R' := CHS s1.heap ([] :: (rws.take (i + 1)).map (chF pr))) (PP := fun h v => ∃ a its n, v = .ref a ∧ h12.get? a = none ∧ h.get? a = some (listOf its n) ∧ Paired bytesR (chF pr y) its.toList) H12 rfl ?ho2 ?he2 (mono_CHS _ _) ?hR2 fun h13 tk13 H13 => wpAny_execs_nil (wpAny_execs_nil (hQ6 _ _ ⟨h13, tk13, rfl, H13.weak ?hw2⟩))
      case ho2 =>
        intro p hp
        simp only [List.cons_append, List.nil_append, List.mem_cons, List.not_mem_nil, or_false] at hp
        rcases hp with rfl | rfl | rfl | rfl | rfl | rfl | rfl | rfl <;> first | (intro q; exact absurd rfl q) | (intro _; rfl)
      case hw2 =>
        intro p hp
        simp only [List.mem_cons, List.not_mem_nil, or_false] at hp
        rcases hp with rfl | rfl | rfl <;> rfl
      case hR2 =>
        rintro h13 v l hl kh ⟨b, its, n, rfl, hn, hg, hp⟩
        refine ⟨?_, ?_⟩
        · rw [htk1]
          exact CHS.snoc hl kh (old_none hide_ext hn) (old_none ((kg.trans kz).trans H12.base) hn) hg hp
        · rw [hl.len, List.length_cons, List.length_map, List.length_take]; omega
      case he2 =>
        intro Q2 E2 hq
        refine call3_def (f := 174) (x := Str.ofString "_law_chain") ((fchain _ rfl).up (kz.trans H12.base)) rfl rfl ?_
        refine (H12.ev_loc (x := Str.ofString "closed") rfl) _ _ _ Ext.rfl' fun v1 g1 t1 k1 hv1 => ?_
        obtain ⟨u1, rfl⟩ := hv1
        have HS1 := H12.ext k1
        refine (EV_rangeN3 (EV_gb rfl rfl ((grange _ rfl rfl).up (kz.trans HS1.base))) (EV_lenS (EV_gb rfl rfl ((glen _ rfl rfl).up (kz.trans HS1.base))) (HS1.ev_loc (x := Str.ofString "closed") rfl) (by omega)) (EV_neg EV_int) (EV_neg EV_int) (by decide) (by decide)) _ _ _ Ext.rfl' fun v2 g2 t2 k2 hv2 => ?_
        obtain ⟨ra, tr, ur, zr, rfl, hrn, hrg⟩ := hv2
        refine (H12.ev_loc (x := Str.ofString "pair") rfl) _ _ _ (k1.trans k2) fun v3 g3 t3 k3 hv3 => ⟨(k1.trans k2).trans k3, ?_⟩
        obtain ⟨u3, rfl⟩ := hv3
        have hrg9 := rg_hi (clF pr y.2).length hcz
        refine STA.callT (room := 12) (bs := chF pr y) CA (HS1.ext (k2.trans k3)) ?sp2 (fun q => Iff.rfl) (by decide) fun b its n h' tk hn hg hp H' hk => hq _ h' tk H' (fun d o hd e => hk d o hd (((k1.trans k2).trans k3) _ _ e)) ⟨b, its, n, rfl, old_none ((k1.trans k2).trans k3) hn, hid_at (HS1.ext (k2.trans k3)) hn hg, hp⟩
        case sp2 =>
          rw [hch]
          refine chain_spec w _ _ _ _ (clF pr y.2) pr u1 u3 ra ((clF pr y.2).length : Int) (-1) (-1) tr ur zr ((clF pr y.2).length + 1) (by omega) (by omega) hpl hpa RO.c257 (mem_fullL.mpr ⟨?_, ?_, k3 _ _ hrg⟩) hrg9.1 hrg9.2 (fun i hi => by omega) RO.tdn
          · rintro rfl
            obtain ⟨o, ho⟩ := HS1.dom _ mem_L
            rw [ho] at hrn; cases hrn
          · exact old_none ((kg.trans kz).trans HS1.base) hrn
  case done =>
    intro h12 tk12 E' HH
    refine wpAny_execs_nil ?_
    rw [List.take_length] at HH
    have CA5 : CallAt callerA w (ExcName.means _) _ _ _ _ [] _ ({ z with os := a :: z.os } : Zn) := ⟨rfl, rfl, B0, (fun b hb => nomatch hb), X0, T0, hab, kg⟩
    have hpl : (∃ acc, dueF rws = none ∧ mergeF (totL ([] :: rws.map (chF pr)) + 1) ([] :: rws.map (chF pr)) [] = (acc, false, leftF rws)) ∨ (∃ bs, dueF rws = some bs ∧ mergeF (totL ([] :: rws.map (chF pr)) + 1) ([] :: rws.map (chF pr)) [] = (bs, true, ([] :: rws.map (chF pr)).map fun _ => [])) := by
      rw [← hpq]; exact rows_law (by rintro rfl; simp at hrl) hway hns
    have htz : totL ([] :: rws.map (chF pr)) ≤ 1000 := by
      rw [← hpq]; have := tot_le (n := ns.length) hns; omega
    have hlen5 : ([] :: rws.map (chF pr)).length = 5 := by simp [hrl]
    have hrow9 : ∀ y ∈ rws, y.2.size ≤ 9 := fun y hy => by have := (hrow y hy).size; omega
    generalize ([] :: rws.map (chF pr)) = bss at HH hpl htz hlen5
    obtain ⟨its, na, cs, ha12, hcs1, hcs2, hcs3, hcs4, haS⟩ : ∃ (its : Array Value) (na : Nat) (cs : List Ch), h12.get? a = some (listOf its na) ∧ cs.map (·.2) = bss ∧ (cs.map (·.1)).Nodup ∧ Paired refR cs its.toList ∧ (∀ c ∈ cs, s1.heap.get? c.1 = none ∧ ∃ its n, (({ z with os := a :: z.os } : Zn).hid _ h12).get? c.1 = some (listOf its n) ∧ Paired bytesR c.2 its.toList) ∧ (({ z with os := a :: z.os } : Zn).hid _ h12).get? a = none := by
      obtain ⟨m0, A0, F0⟩ := id HH
      obtain ⟨_, _, _, hao, its, ⟨na, hla⟩, cs, q1, q2, q3, q4⟩ := F0 (Str.ofString "chains") _ rfl
      exact ⟨its, na, cs, hla, q1, q2, q3, q4, hideAll_none _ (mem_o hao)⟩
    have hag : s1.heap.get? a = none := old_none (kg.trans HH.baseH) haS
    have H1 := (HH.own_fix (x := Str.ofString "chains") rfl ha12).regrow
    have kK := kg.trans HH.baseH
    dsimp only at H1 kK
    generalize hK0 : (({ z with os := a :: z.os } : Zn).hid _ h12) = K0 at H1 kK hcs4 haS
    dsimp only
    have CA6 : CallAt callerA w (ExcName.means _) _ _ _ _ [] _ (⟨K0, z.pins, a :: z.os⟩ : Zn) := ⟨rfl, rfl, B0, (fun b hb => nomatch hb), X0, T0, hab, kK⟩
    have kz0 : Ext z.g K0 := hK0 ▸ HH.baseH
    have hu2 : ∀ env : Env, (callerA.deeper env).units + 1 < cLine := fun env => by have := (law_room (room := 1) (env := env) (by decide)).2; omega
    have hu1 : ∀ env : Env, (callerA.deeper env).units < cLine := fun env => by have := (law_room (room := 1) (env := env) (by decide)).2; omega
    have hu0 : ∀ env : Env, (callerA.deeper env).units + 2 < cLine := fun env => by have := (law_room (room := 1) (env := env) (by decide)).2; omega
    refine st_assign_sev (x := Str.ofString "due") (P := DueN K0 (dueF rws)) H1 ?d1 (mono_DueN _ _) fun h13 tk13 H13 => ?_
    case d1 =>
      intro s2 Q2 E2 HS hq
      refine call1_def (f := 179) (x := Str.ofString "_law_due") ((fdue _ rfl).up (kz0.trans HS.base)) rfl rfl ?_
      refine (HS.evh_loc (x := Str.ofString "rows") rfl) s2 _ _ Ext.rfl' fun v1 g1 t1 k1 hv1 => ⟨k1, ?_⟩
      obtain ⟨ra, items, rfl, hl, hp⟩ := hv1
      have HS1 := HS.ext k1
      refine STA.callG (room := 3) (A := callerA.deeper (envOfC _ _ _ _ _)) rfl CA6 HS1 (due_spec w _ _ _ (fullL _ g1 _) ra rws (by omega) hrow9) ?pre (fun q => Iff.rfl) ?ret (by decide) fun v n h' tk hr H' N hk => hq v h' tk H' ?val
      case pre => exact fun G hG hN => mono_Rows rws _ _ _ (ext_full CA6 HS1 hG hN) ⟨ra, items, rfl, hl, hp⟩
      case ret =>
        rintro h v n (⟨_, _, rfl⟩ | ⟨bs, b, vs, ep, _, _, _, rfl, _⟩) q hq
        · exact hq
        · exact List.mem_cons_of_mem _ hq
      case val =>
        rcases hr with ⟨hd, rfl, _⟩ | ⟨bs, b, vs, ep, hd, rfl, hne, rfl, hpb⟩
        · rw [hd]; exact rfl
        · rw [hd]
          have hb := N _ List.mem_cons_self
          have hfr := fresh_of hb.2.1 hb.2.2 fun q hq => hne q hq
          exact ⟨b, vs, rfl, old_none (HS1.baseH.trans hide_ext) hfr, ⟨_, hid_at HS1 hfr hb.1, rfl, ep, rfl⟩, hpb⟩
    have hgL : s1.heap.get? s1.heap.objs.size = none := new_at _
    have grt : ∀ env : Env, env.globals = mainGlobals → env.builtins = builtinsNs → GB s1.heap env (Str.ofString "RuntimeError") (.type "RuntimeError") := fun env e1 e2 => ⟨_, _, by rw [e1]; exact T0.g, mg_none_of X0 T0.g (by k_is), by rw [e2]; exact T0.b, (T0.builtins _ (by decide)).trans (by boot_by_name)⟩
    have gstr0 : ∀ env : Env, env.globals = mainGlobals → env.builtins = builtinsNs → GB s1.heap env (Str.ofString "str") (.type "str") := fun env e1 e2 => ⟨_, _, by rw [e1]; exact T0.g, mg_none_of X0 T0.g (by k_is), by rw [e2]; exact T0.b, (T0.builtins _ (by decide)).trans (by boot_by_name)⟩
    have fleft0 : ∀ env : Env, env.globals = mainGlobals → FN s1.heap env (Str.ofString "_law_left") 184 := fun env e1 => ⟨⟨_, by rw [e1]; exact T0.g, mg_of X0 T0.g (by k_is)⟩, _, _, X0 184 _ (by k_is), rfl⟩
    have hu0m : ∀ (env : Env) (hdl : Option Value), ((callerA.deeper env).mark hdl).units + 2 < cLine := fun env hdl => hu0 env
    have hu2m : ∀ (env : Env) (hdl : Option Value), ((callerA.deeper env).mark hdl).units + 1 < cLine := fun env hdl => hu2 env
    refine wpAny_execs_cons (veil fun Q2 E2 hQ2 hE2 => wpAny_Try_except (veil fun Q3 E3 hQ3 hE3 => wpAny_execs_cons (wpAny_Assign_Name ?tr rfl)))
    refine call1_def (f := 26) (x := Str.ofString "_c3_merge") ((fc3 _ rfl).up (kz0.trans H13.base)) rfl rfl ?_
    refine (H13.ev_ownR (x := Str.ofString "chains") rfl) _ _ _ Ext.rfl' fun v1 g1 t1 k1 hv1 => ⟨k1, ?_⟩
    obtain ⟨_, rfl, _, _⟩ := hv1
    have H14 := H13.ext k1
    obtain ⟨m1, A1, F1⟩ := id H14
    obtain ⟨_, _, hma, hao, its9, ⟨n9, hla⟩, hR9⟩ := F1 (Str.ofString "chains") _ rfl
    have hits : its9 = its := Array.toList_inj.mp hR9
    subst hits
    obtain ⟨_, _, vd, hmd, hPd⟩ := F1 (Str.ofString "due") _ rfl
    obtain ⟨_, _, vr, hmr, hPr⟩ := F1 (Str.ofString "rows") _ rfl
    have haL := ns_list_ne A1.ns ⟨n9, hla⟩
    have hac : a ∉ cs.map (·.1) := fun q => by
      obtain ⟨c, hc, e⟩ := List.mem_map.mp q
      obtain ⟨_, its', n', h1, _⟩ := hcs4 c hc
      rw [e, haS] at h1; cases h1
    have hcK : ∀ c ∈ cs, ∃ its n, (Zn.hid ⟨K0, z.pins, a :: z.os⟩ _ g1).get? c.1 = some (listOf its n) ∧ Paired bytesR c.2 its.toList := fun c hc => by
      obtain ⟨_, its', n', h1, h2⟩ := hcs4 c hc
      exact ⟨its', n', H14.baseH _ _ h1, h2⟩
    have hcS : ∀ c ∈ cs, c.1 ∉ Zn.S ⟨K0, z.pins, a :: z.os⟩ _ := fun c hc q => by
      obtain ⟨its', n', h1, _⟩ := hcK c hc
      rw [show (Zn.hid ⟨K0, z.pins, a :: z.os⟩ _ g1).get? c.1 = none from hideAll_none _ q] at h1
      cases h1
    have hgLn : ∀ b o, s1.heap.get? b = some o → b ≠ s1.heap.objs.size := fun b o e q => by rw [q, hgL] at e; cases e
    have hgcs : ∀ b o, s1.heap.get? b = some o → b ∉ cs.map (·.1) := fun b o e q => by
      obtain ⟨c, hc, e2⟩ := List.mem_map.mp q
      rw [← e2, (hcs4 c hc).1] at e; cases e
    have hgce : ∀ b o, s1.heap.get? b = some o → b ∉ (envOfC _ _ _ _ _).cells.map (·.2) := fun b o e q => by
      have := H14.baseH _ _ (kK _ _ e)
      rw [show (Zn.hid ⟨K0, z.pins, a :: z.os⟩ _ g1).get? b = none from hideAll_none _ (mem_c q)] at this
      cases this
    refine c3_call (cs := cs) (its := its9) CA6 A1 hla haL hag hac hcs2 hcs3 ?hcs (by rw [← hcs1, List.length_map] at hlen5; omega) (by rw [hcs1]; exact htz) ?hok ?hex
    case hcs =>
      intro c hc
      obtain ⟨h0, its', n', h1, h2⟩ := hcs4 c hc
      exact ⟨h0, fun q => hcS c hc (q ▸ mem_L), its', n', H14.base _ _ h1, h2⟩
    case hok =>
      intro r itr nr h15 tk15 ps' cs' hp1 hp2 hpr hf' hr hrn hps hn15 hk15
      rw [hcs1] at hp1 hp2
      rcases hpl with ⟨acc, hd, hm⟩ | ⟨bs, hd, hm⟩
      · rw [hm] at hp2; cases hp2
      rw [hm] at hp1 hp2
      have hcs' : cs'.map (·.2) = bss.map fun _ => [] := (Prod.mk.inj hp2).2.symm
      rw [hd] at hPd
      obtain ⟨D, itd, rfl, hDK, hDl, hDp⟩ := hPd
      have hDc : D ∉ cs.map (·.1) := fun q => by
        obtain ⟨c, hc, e⟩ := List.mem_map.mp q
        obtain ⟨_, its', n', h1, _⟩ := hcs4 c hc
        rw [e, hDK] at h1; cases h1
      obtain ⟨oD, hDo, hDr⟩ := hDl
      have hDS : D ∉ Zn.S ⟨K0, z.pins, a :: z.os⟩ _ := fun q => by rw [show (Zn.hid ⟨K0, z.pins, a :: z.os⟩ _ g1).get? D = none from hideAll_none _ q] at hDo; cases hDo
      have hDo1 := of_hideAll _ hDo
      have haC : a ∉ (envOfC _ _ _ _ _).cells.map (·.2) := fun q => by
        obtain ⟨p, hp, e⟩ := List.mem_map.mp q
        obtain ⟨v, hv⟩ := A1.cells p hp
        exact cell_list_ne hv ⟨n9, hla⟩ e.symm
      have HA := STA.after (Γ := [(Str.ofString "chains", .loc (LLV (cs'.map (·.2)))), (Str.ofString "due", .loc (BL bs))]) A1 hn15 (fun b hb q => by
        obtain ⟨c, hc, e⟩ := List.mem_map.mp hb
        exact hcS c hc (e ▸ mem_c q)) hk15 (fun x f hx => by
        have e := lookup_in hx
        simp only [List.mem_cons, List.not_mem_nil, or_false, Prod.mk.injEq] at e
        rcases e with ⟨rfl, rfl⟩ | ⟨rfl, rfl⟩
        · exact ⟨_, _, rfl, mono_LLV _, rfl, hma, chains_after hla haL haC hac hcs3 hpr hf' (fun c hc => ⟨fun q => hcS c hc (q ▸ mem_L), fun q => hcS c hc (mem_c q)⟩) hk15 hps⟩
        · exact ⟨_, _, rfl, mono_BL _, rfl, hmd, D, itd, rfl, ⟨oD, zin_get (hk15 _ _ (fun q => hDS (q ▸ mem_L)) hDc hDo1) (fun q => hDS (q ▸ mem_L)) (fun q => hDS (mem_c q)), hDr⟩, hDp⟩)
      obtain ⟨m2, A2, F2⟩ := HA
      refine wpAny_storeName_local rfl A2.ns (fun h16 hn16 hs16 => ?_) rfl
      have hrL : r ≠ s1.heap.objs.size := fun q => by
        obtain ⟨o, _, _, ho, _⟩ := A1.ns
        rw [q] at hrn
        exact absurd (ho.symm.trans hrn) (by simp)
      have HB := STA.loc (x := Str.ofString "told") (P := BL bs) (v := .ref r) A2 F2 hn16 (fun b o hb e => hs16.extBut b o hb e) rfl (mono_BL _) ⟨r, itr, rfl, ⟨_, hideAll_get _ (hs16.extBut _ _ hrL hr) (fun q => by
        rcases List.mem_cons.mp q with q | q
        · exact hrL q
        · rcases List.mem_append.mp q with q | q
          · obtain ⟨p, hp, e⟩ := List.mem_map.mp q
            obtain ⟨v, o, ho, _⟩ := A1.cells p hp
            have e2 : p.2 = r := e
            rw [e2] at ho
            exact absurd (ho.symm.trans hrn) (by simp)
          · cases q), rfl, nr, rfl⟩, hp1⟩
      refine wpAny_execs_nil ?_
      refine hQ3 _ _ ?_
      try dsimp only
      refine wpAny_execs_nil ?_
      refine hQ2 _ _ ?_
      try dsimp only
      rw [hcs'] at HB
      refine st_return (P := IsV (.bool true)) HB ?rt fun v h17 tk17 H17 hv => ?_
      case rt =>
        refine EV_and_t (EV_cmp (P₁ := fun _ v => ∃ a, v = .ref a) (EV.mono (HB.ev_loc (x := Str.ofString "told") rfl) fun h v ⟨a, its, e, _⟩ => ⟨a, e⟩) (fun _ _ _ _ h => h) EV_none CMP_isNot_ref) ?_
        refine EV_and_t (EV_cmp (HB.ev_loc (x := Str.ofString "told") rfl) (mono_BL _) (HB.ev_loc (x := Str.ofString "due") rfl) (CMP_eq_BL_t bs (hu1 _))) ?_
        refine EV_and_1 (EV_cmp (HB.ev_loc (x := Str.ofString "chains") rfl) (mono_LLV _) (EV_nils (cl := []) (HB.ev_loc (x := Str.ofString "chains") rfl) (by rw [List.length_map]; omega) (.inl rfl) rfl rfl) (CMP_eq_LL_t (hu2 _) (by rw [List.map_map]; rfl)))
      cases hv
      have hb17 := H17.base
      obtain ⟨m17, A17, _⟩ := H17
      have F17 : Fr s1.heap s1.heap.objs.size h17 m17 := ⟨A17.ns, fun b o e => hb17 b o (zin_get (hk15 b o (hgLn b o e) (hgcs b o e) (H14.base _ _ (kK _ _ e))) (hgLn b o e) (hgce b o e)), Nat.le_refl _⟩
      refine hQ1 _ _ ?_
      try dsimp only
      first | (k_end; wrow_close) | wrow_close
    case hex =>
      intro K6 e h15 tk15 ps' cs' t hp2 hpr hf' hnK hkK hpsK kgK X U
      rw [hcs1] at hp2
      rcases hpl with ⟨acc, hd, hm⟩ | ⟨bs, hd, hm⟩
      case inr => rw [hm] at hp2; cases hp2
      rw [hm] at hp2
      have hcs' : cs'.map (·.2) = leftF rws := (Prod.mk.inj hp2).2.symm
      rw [hd] at hPd
      have hvd : vd = .none := hPd
      subst hvd
      refine hE3 _ _ ?_
      refine law_catch (g := s1.heap) (m := m1) rfl rfl rfl (grt _ rfl rfl) rfl rfl rfl hnK hgL kgK X U fun E5 h16 tk16 hn16 hk16 X16 => ?_
      have haC : a ∉ (envOfC _ _ _ _ _).cells.map (·.2) := fun q => by
        obtain ⟨p, hp, e⟩ := List.mem_map.mp q
        obtain ⟨v, hv⟩ := A1.cells p hp
        exact cell_list_ne hv ⟨n9, hla⟩ e.symm
      have hkk : ∀ b o, b ≠ s1.heap.objs.size → b ∉ cs.map (·.1) → g1.get? b = some o → h16.get? b = some o := fun b o hb hbc e => hk16 b o hb (hkK b o hb hbc e)
      have hpsL : ∀ q ∈ ps', h16.get? q.1 = some q.2 := fun q hq => hk16 _ _ (fun e => by
        have : q.1 ∈ cs.map (·.1) := hf' ▸ hpr.fst ▸ List.mem_map_of_mem hq
        obtain ⟨c, hc, e2⟩ := List.mem_map.mp this
        exact hcS c hc (e2 ▸ e ▸ mem_L)) (hpsK q hq)
      have hKold : ∀ b, K6.get? b = none → b ≠ s1.heap.objs.size ∧ b ∉ (envOfC _ _ _ _ _).cells.map (·.2) := fun b hb => by
        refine ⟨fun q => ?_, fun q => ?_⟩
        · obtain ⟨o, _, _, ho, _⟩ := hnK
          rw [q] at hb
          exact absurd (ho.symm.trans hb) (by simp)
        · obtain ⟨p, hp, e⟩ := List.mem_map.mp q
          obtain ⟨v, o, ho, hdc⟩ := A1.cells p hp
          have hpc : p.2 ∉ cs.map (·.1) := fun q2 => by
            obtain ⟨c, hc, e2⟩ := List.mem_map.mp q2
            exact hcS c hc (e2 ▸ mem_c (List.mem_map_of_mem hp))
          have e' : p.2 = b := e
          rw [← e'] at hb
          exact absurd ((hkK _ _ (ns_cell_ne A1.ns ⟨o, ho, hdc⟩) hpc ho).symm.trans hb) (by simp)
      have hrw : RowsV rws (hideAll (Zn.hid ⟨K0, z.pins, a :: z.os⟩ _ g1) (cs.map (·.1))) vr := rows_hide hPr (by rintro rfl; simp at hrl) hcK
      have HA := STA.after (Γ := [(Str.ofString "fault", .loc (Flt e (Str.ofString "Inconsistent hierarchy"))), (Str.ofString "chains", .loc (LLV (cs'.map (·.2)))), (Str.ofString "due", .loc (IsV .none)), (Str.ofString "rows", .loc (RowsV rws))]) A1 hn16 (fun b hb q => by
        obtain ⟨c, hc, e⟩ := List.mem_map.mp hb
        exact hcS c hc (e ▸ mem_c q)) hkk (fun x f hx => by
        have e9 := lookup_in hx
        simp only [List.mem_cons, List.not_mem_nil, or_false, Prod.mk.injEq] at e9
        rcases e9 with ⟨rfl, rfl⟩ | ⟨rfl, rfl⟩ | ⟨rfl, rfl⟩ | ⟨rfl, rfl⟩
        · obtain ⟨oe, vs7, T7, oT, ts7, t7, ot, n7, r1, r2, r3, r4, r5, r6, r7, r8, r9, r10, r11, r12, r13, r14, r15, r16⟩ := X16.ex
          exact ⟨_, _, rfl, mono_Flt _ _, rfl, rfl, rfl, t7, t, ⟨oe, vs7, zin_get r1 (hKold _ r14).1 (hKold _ r14).2, r2, r3, r4⟩, ⟨ot, n7, zin_get r11 (hKold _ r16).1 (hKold _ r16).2, r12, r13⟩⟩
        · exact ⟨_, _, rfl, mono_LLV _, rfl, hma, chains_after hla haL haC hac hcs3 hpr hf' (fun c hc => ⟨fun q => hcS c hc (q ▸ mem_L), fun q => hcS c hc (mem_c q)⟩) hkk hpsL⟩
        · exact ⟨_, _, rfl, mono_V _, rfl, hmd, rfl⟩
        · exact ⟨_, _, rfl, mono_Rows _, rfl, hmr, mono_Rows _ _ _ _ (fun b o eb => by
            have e1 := of_hideAll _ eb
            have e2 := of_hideAll _ e1
            have hb1 : b ∉ cs.map (·.1) := fun q => by rw [hideAll_none _ q] at eb; cases eb
            have hb2 : b ∉ Zn.S ⟨K0, z.pins, a :: z.os⟩ _ := fun q => by rw [show (Zn.hid ⟨K0, z.pins, a :: z.os⟩ _ g1).get? b = none from hideAll_none _ q] at e1; cases e1
            exact zin_get (hkk b o (fun q => hb2 (q ▸ mem_L)) hb1 e2) (fun q => hb2 (q ▸ mem_L)) (fun q => hb2 (mem_c q))) hrw⟩)
      rw [hcs'] at HA
      have hgz : Ext s1.heap (zin (envOfC _ _ _ _ _) h16).g := fun b o e => zin_get (hkk b o (hgLn b o e) (hgcs b o e) (H14.base _ _ (kK _ _ e))) (hgLn b o e) (hgce b o e)
      have CA7 : CallAt callerA w (ExcName.means _) _ _ _ _ [] _ (zin (envOfC _ _ _ _ _) h16) := ⟨rfl, rfl, B0, (fun b hb => nomatch hb), X0, T0, hab, hgz⟩
      refine veil fun Q4 E4 hQ4 hE4 => ?_
      refine wpAny_execs_cons (wpAny_Return_some ?_)
      refine BoolOp_and ((EV_cmp (HA.ev_loc (x := Str.ofString "due") rfl) (mono_V _) EV_none CMP_is_none) _ _ _ Ext.rfl' fun v h17 tk17 k17 hv => ?_)
      cases hv
      refine wpAny_truthy_bool ?_
      rw [if_pos rfl]
      have H17 := HA.ext k17
      refine BoolOp_and ((EV_cmp (EV_strF (ea := e) (y := Str.ofString "Inconsistent hierarchy") (EV_gb rfl rfl ((gstr0 _ rfl rfl).up (hgz.trans H17.base))) (H17.ev_loc (x := Str.ofString "fault") rfl) (hu0m _ _)) (mono_S _) EV_str (CMP_eq_S_t _)) _ _ _ Ext.rfl' fun v h18 tk18 k18 hv => ?_)
      cases hv
      refine wpAny_truthy_bool ?_
      rw [if_pos rfl]
      have H18 := H17.ext k18
      refine BoolOp_one (wpAny_Compare1 ((H18.evh_loc (x := Str.ofString "chains") rfl) _ _ _ Ext.rfl' fun v1 h19 tk19 k19 hv1 => ?_) rfl)
      have H19 := H18.ext k19
      refine call1_def (f := 184) (x := Str.ofString "_law_left") ((fleft0 _ rfl).up (hgz.trans H19.base)) rfl rfl ?_
      refine (H19.evh_loc (x := Str.ofString "rows") rfl) _ _ _ Ext.rfl' fun v2 h20 tk20 k20 hv2 => ⟨k20, ?_⟩
      obtain ⟨ra, items, rfl, hl, hp⟩ := hv2
      have H20 := H19.ext k20
      refine STA.callG (room := 3) (hdl := some (.ref e)) rfl CA7 H20 (left_spec w _ _ _ (fullL _ h20 _) ra (some (.ref e)) rws (by omega) hrow9) ?pre (fun q => Iff.rfl) (fun h v n hr q hq => hr.1 ▸ hq) (by decide) fun v n h21 tk21 hr H21 N21 hk21 => ?_
      case pre =>
        refine ⟨fun G hG hN => mono_Rows rws _ _ _ (ext_full CA7 H20 hG hN) ⟨ra, items, rfl, hl, hp⟩, .inr ?_⟩
        obtain ⟨oe, vs7, T7, oT, ts7, t7, ot, n7, r1, r2, r3, r4, r5, r6, r7, r8, r9, r10, r11, r12, r13, r14, r15, r16⟩ := X16.ex
        exact ⟨e, oe, vs7, rfl, .inl (mem_fullL.mpr ⟨(hKold _ r14).1, old_none kgK r14, (((k17.trans k18).trans k19).trans k20) _ _ r1⟩), r3, r6⟩
      have hv1' : LLV (leftF rws) h21 v1 := mono_LLV _ _ _ _ hide_ext (mono_LLV _ _ _ _ (ext_hide fun b o hb ho => hk21 b o (fun q => hb (q ▸ mem_L)) (k20 _ _ ho)) hv1)
      refine (CMP_eq_LL_t (hu2m _ _) rfl) _ _ _ v1 v hv1' hr.2 ?_
      try dsimp only
      refine hQ4 _ _ ?_
      have hb21 := H21.base
      obtain ⟨m21, A21, _⟩ := H21
      refine wpAny_bind (wpAny_bindName (wpAny_storeName_local rfl A21.ns (fun h22 hn22 hs22 => ?_) rfl))
      unfold unbindBehindTheSuite
      refine wpAny_onRaise (wpAny_unbindName_local rfl hn22 (if_pos rfl) rfl fun h23 u23 hn23 hs23 => ?_)
      have F23 : Fr s1.heap s1.heap.objs.size h23 _ := ⟨hn23, fun b o e => hs23.extBut b o (hgLn b o e) (hs22.extBut b o (hgLn b o e) (hb21 b o (hgz b o e))), Nat.le_refl _⟩
      try dsimp only
      refine hQ2 _ _ ?_
      try dsimp only
      refine hQ1 _ _ ?_
      try dsimp only
      first | (k_end; wrow_close) | wrow_close
end Mine
end
theorem PySem.Challenge.cw_qh0045_01_holds : PySem.Challenge.rw_qh0045_01.Holds :=
  Mine.lw
