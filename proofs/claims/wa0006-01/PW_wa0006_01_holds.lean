import PyProof.Rows.All
import Wide.All
import OpenK.AllK
import Wide.FinOn
import PyProof.Draws
import PySem.Challenge.RW_wa0006_01
set_option Elab.async false
section
open PySem PySem.W PyProof.Rows
namespace Mine
set_option maxRecDepth 100000 in
set_option maxHeartbeats 8000000 in
open_top hd for PySem.Challenge.rw_wa0006_01
end Mine
end

-- part Base
section
open PySem PySem.W PyProof.Rows PySem.Spec PySem.Calls
namespace Mine
/-- a contract of one of the text's defs, for every world and caller -/
def Tls {D : Type} (f : Addr) (c : ToldN D) (d : D) : Prop :=
  ∀ (w : World) (mean : ExcName → Option Value) (mg mb : Str → Option Value), TellsN PySem.Challenge.rw_wa0006_01.row.prog w (hd.heap_39 w.params) hd.view_39 (looseW hd.view_39 []) mean mg mb f c d
end Mine
end

-- part Pl
section
-- plain facts: the letters of a number
namespace Mine
/-- Int2AP's letters, as bytes -/
def apL (n : Nat) : List UInt8 := if h : n = 0 then [] else apL (n / 16) ++ [(65 + n % 16).toUInt8]
termination_by n
decreasing_by omega
theorem apL_zero : apL 0 = [] := by rw [apL]; rfl
theorem apL_pos {n : Nat} (h : n ≠ 0) : apL n = apL (n / 16) ++ [(65 + n % 16).toUInt8] := by
  rw [apL, dif_neg h]
theorem apL_len : ∀ (k n : Nat), n < 16 ^ k → (apL n).length ≤ k
  | 0, n, h => by
    have : n = 0 := by simpa using h
    subst this; rw [apL_zero]; exact Nat.le_refl _
  | k + 1, n, h => by
    by_cases h0 : n = 0
    · subst h0; rw [apL_zero]; exact Nat.zero_le _
    · rw [apL_pos h0, List.length_append]
      have := apL_len k (n / 16) (by rw [Nat.pow_succ] at h; omega)
      simp only [List.length_cons, List.length_nil]; omega
end Mine
end

-- part C1
section
open PySem PySem.W PyProof.Rows PySem.Spec PySem.Calls
namespace Mine
/-- one letter -/
def ap1 (i : Int) : Array UInt8 := #[(65 + i.toNat).toUInt8]
def apBytes : List UInt8 := [65, 66, 67, 68, 69, 70, 71, 72, 73, 74, 75, 76, 77, 78, 79, 80]
theorem ap_picked {i : Int} (h0 : 0 ≤ i) (h1 : i < 16) : KBy.picked apBytes.toArray (some i) (some (i + 1)) = ap1 i := by
  have : i = 0 ∨ i = 1 ∨ i = 2 ∨ i = 3 ∨ i = 4 ∨ i = 5 ∨ i = 6 ∨ i = 7 ∨ i = 8 ∨ i = 9 ∨ i = 10 ∨ i = 11 ∨ i = 12 ∨ i = 13 ∨ i = 14 ∨ i = 15 := by omega
  rcases this with h | h | h | h | h | h | h | h | h | h | h | h | h | h | h | h <;> subst h <;> decide +kernel
theorem ap_slice {prog : Program} {w : World} {A : Around} {E : Value → Shared → Prop} {s : Shared} {value slice : PySem.Expr} {t : Tok} {h₀ : Heap} {L : Addr} {m : PySem.Str → Option Value} {news : List (Addr × Obj)} {i : Int} {ti tj : Tok} {Q : Value → Shared → Prop}
    (hF : Fr h₀ L s.heap m) (hN : News h₀ L s.heap news) (h0 : 0 ≤ i) (h1 : i < 16)
    (h : ∀ h' t' k, Fr h₀ L h' m → News h₀ L h' news → Q (.bytes (ap1 i) t') { s with heap := h', toks := k })
    (hs : subscripted slice false (.bytes apBytes.toArray t) (.ref s.heap.objs.size) = operate [.ref s.heap.objs.size, .bytes apBytes.toArray t] (getItem (.bytes apBytes.toArray t) (.ref s.heap.objs.size)) := by with_unfolding_all rfl)
    (ht : ∀ r, letTemporaryGo value (.bytes apBytes.toArray t) r = pure () := by intro _; with_unfolding_all rfl) :
    wpAny (model prog w) A (subscriptTail value slice (.bytes apBytes.toArray t) (.ref s.heap.objs.size)) Q E { s with heap := s.heap.push { cls := .type "slice", data := .fields #[.int i ti, .int (i + 1) tj, .none] } } :=
  KBc.slice_K hF hN rfl (by constructor) (by constructor) (by decide) (fun h' t' k F' N' _ => by rw [ap_picked h0 h1]; exact h h' t' k F' N') hs ht
theorem ap_start {d : Int} (h0 : 0 ≤ d) (h1 : d < 2 ^ 48) : 0 ≤ (if d < 0 then -d else d) ∧ (if d < 0 then -d else d) < 2 ^ 48 ∧ apL (if d < 0 then -d else d).toNat ++ (#[] : Array UInt8).toList = apL d.toNat := by
  rw [if_neg (by omega)]; exact ⟨h0, h1, by simp⟩
theorem ap_turn {n d : Int} {v : Array UInt8} (hP : 0 ≤ n ∧ n < 2 ^ 48 ∧ apL n.toNat ++ v.toList = apL d.toNat) (hn : ¬ n = 0) :
    0 ≤ n.fdiv 16 ∧ n.fdiv 16 < 2 ^ 48 ∧ apL (n.fdiv 16).toNat ++ (ap1 (n.fmod 16) ++ v).toList = apL d.toNat := by
  obtain ⟨h0, h1, h2⟩ := hP
  have e1 : n.fdiv 16 = n / 16 := Int.fdiv_eq_ediv_of_nonneg _ (by decide)
  have e2 : n.fmod 16 = n % 16 := Int.fmod_eq_emod_of_nonneg _ (by decide)
  rw [e1, e2]
  refine ⟨by omega, by omega, ?_⟩
  rw [← h2, apL_pos (n := n.toNat) (by omega)]
  have e3 : (n / 16).toNat = n.toNat / 16 := by omega
  have e4 : (n % 16).toNat = n.toNat % 16 := by omega
  rw [e3]
  simp only [ap1, e4, Array.toList_append, List.append_assoc]
theorem ap_mod {n : Int} : 0 ≤ n.fmod 16 ∧ n.fmod 16 < 16 := by
  have e2 : n.fmod 16 = n % 16 := Int.fmod_eq_emod_of_nonneg _ (by decide)
  omega
theorem ap_meas {n : Int} (h : 0 ≤ n) (hn : ¬ n = 0) : (n.fdiv 16).toNat < n.toNat := by
  have e1 : n.fdiv 16 = n / 16 := Int.fdiv_eq_ediv_of_nonneg _ (by decide)
  rw [e1]; omega
theorem ap_size {n d : Int} {v : Array UInt8} (hd1 : d < 2 ^ 48) (hP : 0 ≤ n ∧ n < 2 ^ 48 ∧ apL n.toNat ++ v.toList = apL d.toNat) : (ap1 (n.fmod 16)).size + v.size ≤ 16777216 := by
  have h := apL_len 12 d.toNat (by omega)
  rw [← hP.2.2, List.length_append] at h
  have e : v.toList.length = v.size := Array.length_toList
  show 1 + v.size ≤ _
  omega
def apT : ToldN Int where
  Rel := fun _ vs d => ∃ tk, vs = [.int d tk]
  Ok := fun d => 0 ≤ d ∧ d < 2 ^ 48
  size := fun _ => 8
  Tl := fun tl => tl = []
  Out := fun _ r d => ∃ tk, r = .bytes (apL d.toNat).toArray tk
theorem ap_end {n d : Int} {v : Array UInt8} {tk : Tok} (hP : 0 ≤ n ∧ n < 2 ^ 48 ∧ apL n.toNat ++ v.toList = apL d.toNat) (hn : n = 0) : ∃ tk', Value.bytes v tk = .bytes (apL d.toNat).toArray tk' := by
  obtain ⟨_, _, h⟩ := hP
  subst hn
  rw [show ((0 : Int).toNat) = 0 from rfl, apL_zero, List.nil_append] at h
  exact ⟨tk, by rw [← h, Array.toArray_toList]⟩
set_option maxRecDepth 100000 in
set_option maxHeartbeats 8000000 in
theorem ap_tells : ∀ d, Tls 21 apT d := by
  intro d
  unfold Tls
  intro w mean mg mb
  suffices h : (PySem.Challenge.rw_wa0006_01 = PySem.Challenge.rw_wa0006_01 → hd.heap_39 = hd.heap_39 → TellsN PySem.Challenge.rw_wa0006_01.row.prog w (hd.heap_39 w.params) hd.view_39 (looseW hd.view_39 []) mean mg mb 21 apT d) from h rfl rfl
  k_fill
  intro _ _
  unfold TellsN
  intro dp un gd cn cs a ccd cl outer A₀ base h₀ L m news s vs Q E B F X N T hk hR hok hd hu hret
  obtain ⟨tk, rfl⟩ := hR
  obtain ⟨hd0, hd1⟩ : 0 ≤ d ∧ d < 2 ^ 48 := hok
  refine wpAny_call ?_
  k_dflt ktr_enter
  k_with "exec While Name cons nil" => k_while (fun _ n v => 0 ≤ n ∧ n < 2 ^ 48 ∧ apL n.toNat ++ v.toList = apL d.toNat) (fun _ n _ => n.toNat) "num" "val"
  k_with "state" => first | exact ap_start hd0 hd1 | exact ap_turn ⟨by assumption, by assumption, by assumption⟩ (by assumption)
  k_with "measure" => exact ap_meas (by assumption) (by assumption)
  k_with "subscriptTail Name Slice bytes ref" => (k_here; (with_reducible rename Fr _ _ _ _ => F'); (with_reducible rename News _ _ _ _ => N'); (refine ap_slice (s := ⟨_, _, _, _, _⟩) F' N' ap_mod.1 ap_mod.2 ?_); intro _ _ _ _ _)
  k_with "binaryOp Add bytes bytes" => (refine KBy.add_bytes (ap_size hd1 ⟨by assumption, by assumption, by assumption⟩) ?_; intro _ _)
  k_steps
  refine hret _ [] _ _ ?_ ?_ ktn_ord0 rfl (ap_end ⟨by assumption, by assumption, by assumption⟩ (by assumption))
  · k_asm
  · exact ktn_tl0 (by k_asm)
end Mine
end

-- part Dec
section
open PySem PySem.W PyProof.Rows PySem.Spec PySem.Calls
namespace Mine
open Builtin
set_option maxRecDepth 100000
section
variable {b : Array UInt8} {c : UInt8} {cs : List UInt8} {t u : Tok} {x : PySem.Str} {n : Nat}
theorem dec_road {id : String} : _codecs.decodeRoad id b (PySem.Str.ofString "ascii") none [] = (_codecs.runDecoder id _codecs.asciiDecoder none true b 0 [] >>= fun r => mkStr ⟨r.1⟩) := by kernel_rfl
theorem dec_entry : «bytes.decode» ⟨[.bytes (c :: cs).toArray t, .str (PySem.Str.ofString "ascii") u], []⟩ = (mkStr (PySem.Str.ofString "utf-8") >>= fun _ => mkStr (PySem.Str.ofString "ascii") >>= fun e => mkStr (PySem.Str.ofString "bytes.decode") >>= fun d =>
    call (.builtin "_codecs.decode.text") [.bytes (c :: cs).toArray t, e, .none, d] >>= fun v => ret v) := by kernel_rfl
theorem dec_entry0 : «bytes.decode» ⟨[.bytes [].toArray t, .str (PySem.Str.ofString "ascii") u], []⟩ = (rule "bytes.decode.empty" >>= fun _ => retStr PySem.Str.empty) := by kernel_rfl
end
end Mine
end

-- part Dec2
section
open PySem PySem.W PyProof.Rows PySem.Spec PySem.Calls
namespace Mine
open Builtin
set_option maxRecDepth 100000
theorem dec_loop {σ : Type} {b : Array UInt8} {B : Nat → Nat × Array Nat × σ → Sem (ForInStep (Nat × Array Nat × σ))} (hsz : b.size ≤ sizeLine)
    (hB : ∀ x p out st, p < b.size → out.size ≤ sizeLine → B x (p, out, st) = pure (.yield (p + 1, out ++ [(b.getD p 0).toNat].toArray, st))) :
    ∀ (k i p : Nat) (st : σ), p + k = b.size → forIn (List.range' i k) (p, ((b.toList.take p).map (·.toNat)).toArray, st) B = pure (b.size, ((b.toList.map (·.toNat)).toArray, st))
  | 0, i, p, st, hp => by
    have : b.toList.take p = b.toList := List.take_of_length_le (by rw [Array.length_toList]; omega)
    simp only [List.range'_zero, List.forIn_nil, this]
    rw [show p = b.size from by omega]
  | k + 1, i, p, st, hp => by
    rw [List.range'_succ, List.forIn_cons, hB i p _ st (by omega) (by simp; omega)]
    have hg : ((b.toList.take p).map (·.toNat)).toArray ++ [(b.getD p 0).toNat].toArray = ((b.toList.take (p + 1)).map (·.toNat)).toArray := by
      have hl : p < b.toList.length := by rw [Array.length_toList]; omega
      have e : b.getD p 0 = b.toList[p] := by simp [Array.getD, show p < b.size by omega]
      rw [List.take_succ_eq_append_getElem hl, List.map_append, e]
      simp
    rw [hg]
    exact dec_loop hsz hB k (i + 1) (p + 1) st (by omega)
theorem dec_run {id : String} {b : Array UInt8} (hb : ∀ p, p < b.size → (b.getD p 0).toNat < 128) (hsz : b.size ≤ sizeLine) :
    _codecs.runDecoder id _codecs.asciiDecoder none true b 0 [] = pure ((b.toList.map (·.toNat)).toArray, b.size) := by
  unfold _codecs.runDecoder
  simp only [Std.Legacy.Range.forIn_eq_forIn_range', Std.Legacy.Range.size]
  refine congrArg (fun m => m >>= fun (r : Nat × Array Nat × _codecs.Faults) => (pure (r.2.1, r.1) : Sem (Array Nat × Nat))) (dec_loop (σ := _codecs.Faults) (b := b) hsz ?_ ((b.size - 0 + 1 - 1) / 1) 0 0 {} (by omega))
  intro x p out st hp ho
  dsimp only
  rw [if_neg (by omega), if_neg (by omega)]
  have : _codecs.asciiDecoder.find true b p = .text [(b.getD p 0).toNat] (p + 1) := by
    show (if (b.getD p 0).toNat < 128 then _ else _) = _
    rw [if_pos (hb p hp)]; rfl
  rw [this]
theorem dec_meets_text {b : Array UInt8} {t t1 t2 : Tok} {d : PySem.Str} (hb : ∀ p, p < b.size → (b.getD p 0).toNat < 128) (hsz : b.size ≤ sizeLine) :
    Meets («_codecs.decode.text» ⟨[.bytes b t, .str (PySem.Str.ofString "ascii") t1, .none, .str d t2], []⟩) (fun _ R s => R (.ok (.ret (.str ⟨(b.toList.map (·.toNat)).toArray⟩ s.toks))) { s with toks := s.toks + 1 }) := by
  refine .of_wp fun prog w A R s hS => ?_
  show wpAny _ _ (Bytes.bytesLike _ (.bytes b t) >>= fun r => _) _ _ s
  refine wpAny_bind (wpAny_of_eq KBd.like_eq ?_)
  refine wpAny_bind (wpAny_of_eq KBd.held_eq ?_)
  show wpAny _ _ (_codecs.decodeRoad _ b (PySem.Str.ofString "ascii") none [] >>= fun v => _) _ _ s
  rw [dec_road, dec_run hb hsz]
  refine wpAny_bind (wpAny_bind (wpAny_pure ?_))
  exact wpAny_mkStr (wpAny_pure ⟨_, rfl, hS⟩) (by show ((b.toList.map (·.toNat)).toArray).size ≤ _; simpa using hsz)
theorem dec_meets {bs : List UInt8} {t u : Tok} (hb : ∀ x ∈ bs, x.toNat < 128) (hsz : bs.length ≤ sizeLine) :
    Meets («bytes.decode» ⟨[.bytes bs.toArray t, .str (PySem.Str.ofString "ascii") u], []⟩) (fun _ R s => ∀ t' k, R (.ok (.ret (.str ⟨(bs.map (·.toNat)).toArray⟩ t'))) { s with toks := k }) := by
  refine .of_wp fun prog w A R s h => ?_
  cases bs with
  | nil =>
    rw [dec_entry0]
    refine wpAny_bind (wpAny_rule ?_)
    unfold retStr
    exact wpAny_bind (wpAny_mkStr (wpAny_pure ⟨_, rfl, h _ _⟩) (by decide))
  | cons c cs =>
    rw [dec_entry]
    refine wpAny_bind (wpAny_mkStr ?_ (by decide))
    refine wpAny_bind (wpAny_mkStr ?_ (by decide))
    refine wpAny_bind (wpAny_mkStr ?_ (by decide))
    refine wpAny_bind (call_function_meets KBd.kind_text KBd.plain_text KBd.entry_text (KBd.args_text _ _ _ _) (dec_meets_text (fun p hp => ?_) (by simpa using hsz)) (wpAny_pure ⟨_, rfl, h _ _⟩))
    have hp' : p < (c :: cs).length := by simpa using hp
    have e : (c :: cs).toArray.getD p 0 = (c :: cs)[p] := by simp only [Array.getD, List.size_toArray, dif_pos hp']; rfl
    rw [e]; exact hb _ (List.getElem_mem _)
theorem dec_rule {prog : Program} {w : World} {A : Around} {E : Value → Shared → Prop} {s : Shared} {bs : List UInt8} {t u : Tok} {Q : Value → Shared → Prop} (hb : ∀ x ∈ bs, x.toNat < 128) (hsz : bs.length ≤ sizeLine)
    (h : ∀ t' k, Q (.str ⟨(bs.map (·.toNat)).toArray⟩ t') { s with toks := k }) :
    wpAny (model prog w) A (call (.builtin "bytes.decode") [.bytes bs.toArray t, .str (PySem.Str.ofString "ascii") u]) Q E s :=
  call_meets FB.slot_bytes_decode (typeIs_bytes _ _ _) FB.entry_bytes_decode (by unfold argsOk; kernel_rfl) (dec_meets hb hsz) h
end Mine
end

-- part Pl2
section
open PySem PySem.W PyProof.Rows PySem.Spec PySem.Calls
namespace Mine
theorem apL_lt : ∀ (n : Nat), ∀ x ∈ apL n, x.toNat < 128 := by
  intro n
  induction n using Nat.strongRecOn with
  | ind n ih =>
    intro x hx
    by_cases h0 : n = 0
    · subst h0; rw [apL_zero] at hx; cases hx
    · rw [apL_pos h0, List.mem_append] at hx
      rcases hx with hx | hx
      · exact ih (n / 16) (by omega) x hx
      · rw [List.mem_singleton] at hx
        subst hx
        have : (65 + n % 16).toUInt8.toNat = (65 + n % 16) % 256 := rfl
        omega
/-- a word's letters, as codes -/
def apC (n : Nat) : List Nat := (apL n).map (·.toNat)
def wordC (n size : Nat) : List Nat := List.replicate (size - (apC n).length) 65 ++ apC n
def wordS (n size : Nat) : Str := ⟨(wordC n size).toArray⟩
theorem apC_len (n : Nat) : (apC n).length = (apL n).length := List.length_map ..
section
variable {w : World} {mean : ExcName → Option Value} {mg mb : Str → Option Value}
theorem use_ap {d : Int} {tk : Tok} {dp un : Nat} {gd : Option (List Code)} {cn : Str} {cs : Scope} {a : Addr} {ccd : Value} {cl : List (Str × Addr)} {outer : List Env} {A₀ : Around} {base h₀ : Heap} {L : Addr} {m : Str → Option Value} {news : List (Addr × Obj)} {s : Shared}
    {Q E : Value → Shared → Prop} (B : Below A₀ base outer h₀) (F : Fr h₀ L s.heap m) (X : (hd.heap_39 w.params).In h₀) (N : News h₀ L s.heap news) (T : Top hd.view_39 (looseW hd.view_39 []) mean mg mb h₀) (hk : cs.kind = .function)
    (h0 : 0 ≤ d) (h1 : d < 2 ^ 48) (hd : dp + 8 < recursionLimit) (hu : un + 64 < cLine)
    (ret : ∀ tk' h' k, Fr h₀ L h' m → News h₀ L h' news → Q (.bytes (apL d.toNat).toArray tk') { s with heap := h', toks := k }) :
    wpAny (model PySem.Challenge.rw_wa0006_01.row.prog w) (ktrTop dp un gd cn cs L a ccd cl outer) (call (.ref 21) [.int d tk]) Q E s := by
  refine tellsN_use (c := apT) (d := d) B F X N T hk ⟨tk, rfl⟩ (ap_tells d w mean mg mb) ⟨h0, h1⟩ hd hu ?_
  rintro r tl h' tk' F' N' _ rfl ⟨t, rfl⟩
  exact ret t h' tk' F' (by rw [List.append_nil] at N'; exact N')
end
end Mine
end

-- part Tx
section
open PySem PySem.W PyProof.Rows PySem.Spec PySem.Calls
namespace Mine
open Builtin Builtin.Str
/-- a text by its codes -/
def S (l : List Nat) : Str := ⟨l.toArray⟩
theorem S_len (l : List Nat) : (S l).length = l.length := by show l.toArray.size = _; simp
theorem S_cps (l : List Nat) : (S l).cps.toList = l := by show l.toArray.toList = l; simp
theorem S_of (x : Str) : x = S x.cps.toList := by obtain ⟨a⟩ := x; show Str.mk a = ⟨a.toList.toArray⟩; simp
theorem S_app (a b : List Nat) : S a ++ S b = S (a ++ b) := Str.ext' (by rw [Str.cps_append]; show a.toArray ++ b.toArray = (a ++ b).toArray; simp)
theorem S_inj {a b : List Nat} : S a = S b ↔ a = b := ⟨fun h => by rw [← S_cps a, h, S_cps], fun h => by rw [h]⟩
theorem S_beq (a b : List Nat) : (S a == S b) = (a == b) := by
  rw [Bool.eq_iff_iff]; simp only [beq_iff_eq, S_inj]
theorem S_bne (a b : List Nat) : (S a != S b) = (a != b) := by
  show (!(S a == S b)) = (!(a == b)); rw [S_beq]
theorem strSlice_plain (lo hi : Option Int) (n : Nat) : strSliceIndices lo hi 1 n = (List.range (hi.elim n (clipAt n) - lo.elim 0 (clipAt n))).map (lo.elim 0 (clipAt n) + ·) := by
  rw [← sliceRange_one]
  unfold strSliceIndices
  cases lo <;> cases hi <;> simp [clipAt_cast]
theorem S_slice (l : List Nat) (lo hi : Option Int) : Txt.slice (S l) lo hi = S ((l.drop (lo.elim 0 (clipAt l.length))).take (hi.elim l.length (clipAt l.length) - lo.elim 0 (clipAt l.length))) := by
  unfold Txt.slice
  rw [S_len, strSlice_plain]
  split
  · rename_i h
    simp only [List.length_map, List.length_range, Bool.and_eq_true, beq_iff_eq] at h
    have hb : hi.elim l.length (clipAt l.length) ≤ l.length := by
      cases hi with
      | none => exact Nat.le_refl _
      | some j => show clipAt l.length j ≤ _; have := clipAt_cast l.length j; omega
    by_cases hz : l.length = 0
    · have : l = [] := List.eq_nil_of_length_eq_zero hz
      subst this; simp
    · have e1 : lo.elim 0 (clipAt l.length) = 0 := by omega
      rw [e1] at h ⊢
      rw [List.drop_zero, List.take_of_length_le (by omega)]
  · rw [show (fun i => (S l).cps[i]?) = (l.toArray[·]?) from rfl, pick_run]
    rfl
theorem S_to (l : List Nat) {j : Int} (h : 0 ≤ j) : Txt.slice (S l) none (some j) = S (l.take j.toNat) := by
  rw [S_slice]
  show S ((l.drop 0).take (clipAt l.length j - 0)) = _
  have := clipAt_cast l.length j
  rw [if_neg (by omega)] at this
  rw [List.drop_zero, Nat.sub_zero]
  by_cases hj : j ≤ l.length
  · rw [show clipAt l.length j = j.toNat by omega]
  · rw [List.take_of_length_le (by omega), List.take_of_length_le (by omega)]
theorem S_from (l : List Nat) {i : Int} (h : 0 ≤ i) : Txt.slice (S l) (some i) none = S (l.drop i.toNat) := by
  rw [S_slice]
  show S ((l.drop (clipAt l.length i)).take (l.length - clipAt l.length i)) = _
  have := clipAt_cast l.length i
  rw [if_neg (by omega)] at this
  rw [List.take_of_length_le (by rw [List.length_drop]; omega)]
  by_cases hj : i ≤ l.length
  · rw [show clipAt l.length i = i.toNat by omega]
  · rw [List.drop_of_length_le (by omega), List.drop_of_length_le (by omega)]
theorem S_mid (l : List Nat) {i j : Int} (h : 0 ≤ i) (hj : i ≤ j) : Txt.slice (S l) (some i) (some j) = S ((l.drop i.toNat).take (j - i).toNat) := by
  rw [S_slice]
  show S ((l.drop (clipAt l.length i)).take (clipAt l.length j - clipAt l.length i)) = _
  have h1 := clipAt_cast l.length i
  have h2 := clipAt_cast l.length j
  rw [if_neg (by omega)] at h1 h2
  by_cases hi : i ≤ l.length
  · rw [show clipAt l.length i = i.toNat by omega]
    by_cases hj' : j ≤ l.length
    · rw [show clipAt l.length j - i.toNat = (j - i).toNat by omega]
    · rw [List.take_of_length_le (by rw [List.length_drop]; omega), List.take_of_length_le (by rw [List.length_drop]; omega)]
  · rw [List.drop_of_length_le (by omega), List.drop_of_length_le (by omega)]; simp
theorem S_inner (l : List Nat) : Txt.slice (S l) (some 1) (some (-1)) = S ((l.drop 1).take (l.length - 2)) := by
  rw [S_slice]
  show S ((l.drop (clipAt l.length ((1 : Nat) : Int))).take (clipAt l.length (-((1 : Nat) : Int)) - clipAt l.length ((1 : Nat) : Int))) = _
  rw [clipAt_nat, clipAt_neg _ _ (Nat.le_refl 1)]
  cases l with
  | nil => rfl
  | cons a r => simp only [List.length_cons]; rw [show min 1 (r.length + 1) = 1 by omega, show r.length + 1 - 1 - 1 = r.length + 1 - 2 by omega]
theorem S_item (l : List Nat) {i : Int} (h0 : 0 ≤ i) (h1 : i < l.length) : Txt.item (S l) i = S [l.getD i.toNat 0] := by
  unfold Txt.item Txt.charAt
  rw [S_len]
  have e : seqIndex? i l.length = some i.toNat := by
    simp [seqIndex?, h0, h1]; omega
  rw [e]
  have g : (S l).cps[i.toNat]? = some (l.getD i.toNat 0) := by
    show l.toArray[i.toNat]? = _
    have : i.toNat < l.length := by omega
    simp [List.getD, this]
  show (⟨#[((S l).cps[i.toNat]?).getD 0]⟩ : Str) = _
  rw [g]; rfl
theorem S_mulA {n : Int} : Txt.mul (S [65]) n = S (List.replicate n.toNat 65) := by
  unfold Txt.mul
  split
  · rename_i h; rw [show n.toNat = 0 by omega]; rfl
  · split
    · rename_i h1 h2
      have : n = 1 := by simpa [S_len] using h2
      subst this; rfl
    · have : ∀ (k : Nat) (acc : List Nat), (List.replicate k (S [65]).cps).foldl (· ++ ·) acc.toArray = (acc ++ List.replicate k 65).toArray := by
        intro k
        induction k with
        | zero => intro acc; simp
        | succ k ih =>
          intro acc
          rw [List.replicate_succ, List.foldl_cons]
          have := ih (acc ++ [65])
          rw [show (acc.toArray ++ (S [65]).cps) = (acc ++ [65]).toArray by show acc.toArray ++ [65].toArray = _; simp, this]
          rw [List.append_assoc, List.replicate_succ]; rfl
      have h := this n.toNat []
      show (⟨_⟩ : Str) = ⟨_⟩
      rw [h]; simp
section
variable {prog : Program} {w : World} {A : Around} {E : Value → Shared → Prop} {s : Shared} {value slice : PySem.Expr} {x y : PySem.Str} {a b l : List Nat} {t u : Tok} {h₀ : Heap} {L : Addr} {m : PySem.Str → Option Value} {news : List (Addr × Obj)} {i j : Int} {ti tj : Tok} {Q : Value → Shared → Prop}
theorem Sr_add (hx : x = S a) (hy : y = S b) (hsz : a.length + b.length ≤ 16777216) (h : ∀ t' k, Q (.str (S (a ++ b)) t') { s with toks := k }) : wpAny (model prog w) A (binaryOp .Add (.str x t) (.str y u)) Q E s := by
  subst hx hy
  refine add_str (fun t' k => ?_) (by rw [S_len, S_len, sizeLine_eq]; exact hsz)
  rw [S_app]; exact h t' k
theorem Sr_len (hx : x = S a) (hsz : a.length ≤ 16777216) (h : ∀ t' k, Q (.int a.length t') { s with toks := k }) : wpAny (model prog w) A (call (.builtin "len") [.str x t]) Q E s := by
  subst hx
  exact PyProof.Rows.len_str (by rw [S_len]; omega) (by rw [S_len]; exact h _ _)
theorem Sr_mulA (hx : x = S [65]) (hlo : -(2 ^ 63 : Int) ≤ i) (hhi : i ≤ 1048576) (h : ∀ t' k, Q (.str (S (List.replicate i.toNat 65)) t') { s with toks := k }) : wpAny (model prog w) A (binaryOp .Mult (.str x t) (.int i u)) Q E s := by
  subst hx
  refine SB.mul (mulOk_of 1 1048576 (by rw [S_len]; exact Nat.le_refl _) hhi hlo (by decide) (by decide)) fun t' k => ?_
  rw [S_mulA]; exact h t' k
theorem Sr_item (hx : x = S l) (h0 : 0 ≤ i) (h1 : i < l.length) (hsz : l.length ≤ 16777216) (h : ∀ t' k, Q (.str (S [l.getD i.toNat 0]) t') { s with toks := k })
    (hs : subscripted slice false (.str x t) (.int i u) = operate [.str x t, .int i u] (getItem (.str x t) (.int i u)) := by with_unfolding_all rfl)
    (ht : ∀ r, letTemporaryGo value (.str x t) r = pure () := by intro _; with_unfolding_all rfl) :
    wpAny (model prog w) A (subscriptTail value slice (.str x t) (.int i u)) Q E s := by
  subst hx
  exact item_str (fitsSsize_of (N := 9223372036854775808) (by omega) (by omega) (Int.le_refl _)) (by rw [S_len]; omega) (by rw [S_len]; omega) (fun _ => by rw [S_item l h0 h1]; exact h _ _) hs ht
theorem Sr_mid (hx : x = S l) (hF : Fr h₀ L s.heap m) (hN : News h₀ L s.heap news) (h0 : 0 ≤ i) (h1 : i ≤ j) (hsz : l.length ≤ 16777216)
    (h : ∀ h' t' k, Fr h₀ L h' m → News h₀ L h' news → Q (.str (S ((l.drop i.toNat).take (j - i).toNat)) t') { s with heap := h', toks := k })
    (hs : subscripted slice false (.str x t) (.ref s.heap.objs.size) = operate [.ref s.heap.objs.size, .str x t] (getItem (.str x t) (.ref s.heap.objs.size)) := by with_unfolding_all rfl)
    (ht : ∀ r, letTemporaryGo value (.str x t) r = pure () := by intro _; with_unfolding_all rfl) :
    wpAny (model prog w) A (subscriptTail value slice (.str x t) (.ref s.heap.objs.size)) Q E { s with heap := s.heap.push { cls := .type "slice", data := .fields #[.int i ti, .int j tj, .none] } } := by
  subst hx
  exact slice_strN_ss hF hN (fun h' t' k F' N' => by rw [S_mid l h0 h1]; exact h h' t' k F' N') hs ht (by rw [S_len, sizeLine_eq]; exact hsz)
theorem Sr_inner (hx : x = S l) (hF : Fr h₀ L s.heap m) (hN : News h₀ L s.heap news) (hsz : l.length ≤ 16777216)
    (h : ∀ h' t' k, Fr h₀ L h' m → News h₀ L h' news → Q (.str (S ((l.drop 1).take (l.length - 2))) t') { s with heap := h', toks := k })
    (hs : subscripted slice false (.str x t) (.ref s.heap.objs.size) = operate [.ref s.heap.objs.size, .str x t] (getItem (.str x t) (.ref s.heap.objs.size)) := by with_unfolding_all rfl)
    (ht : ∀ r, letTemporaryGo value (.str x t) r = pure () := by intro _; with_unfolding_all rfl) :
    wpAny (model prog w) A (subscriptTail value slice (.str x t) (.ref s.heap.objs.size)) Q E { s with heap := s.heap.push { cls := .type "slice", data := .fields #[.int 1 ti, .int (-1) tj, .none] } } := by
  subst hx
  exact slice_strN_ss hF hN (fun h' t' k F' N' => by rw [S_inner l]; exact h h' t' k F' N') hs ht (by rw [S_len, sizeLine_eq]; exact hsz)
theorem Sr_to (hx : x = S l) (hF : Fr h₀ L s.heap m) (hN : News h₀ L s.heap news) (h1 : 0 ≤ j) (hsz : l.length ≤ 16777216)
    (h : ∀ h' t' k, Fr h₀ L h' m → News h₀ L h' news → Q (.str (S (l.take j.toNat)) t') { s with heap := h', toks := k })
    (hs : subscripted slice false (.str x t) (.ref s.heap.objs.size) = operate [.ref s.heap.objs.size, .str x t] (getItem (.str x t) (.ref s.heap.objs.size)) := by with_unfolding_all rfl)
    (ht : ∀ r, letTemporaryGo value (.str x t) r = pure () := by intro _; with_unfolding_all rfl) :
    wpAny (model prog w) A (subscriptTail value slice (.str x t) (.ref s.heap.objs.size)) Q E { s with heap := s.heap.push { cls := .type "slice", data := .fields #[.none, .int j tj, .none] } } := by
  subst hx
  exact slice_strN_ns hF hN (fun h' t' k F' N' => by rw [S_to l h1]; exact h h' t' k F' N') hs ht (by rw [S_len, sizeLine_eq]; exact hsz)
theorem Sr_from (hx : x = S l) (hF : Fr h₀ L s.heap m) (hN : News h₀ L s.heap news) (h1 : 0 ≤ i) (hsz : l.length ≤ 16777216)
    (h : ∀ h' t' k, Fr h₀ L h' m → News h₀ L h' news → Q (.str (S (l.drop i.toNat)) t') { s with heap := h', toks := k })
    (hs : subscripted slice false (.str x t) (.ref s.heap.objs.size) = operate [.ref s.heap.objs.size, .str x t] (getItem (.str x t) (.ref s.heap.objs.size)) := by with_unfolding_all rfl)
    (ht : ∀ r, letTemporaryGo value (.str x t) r = pure () := by intro _; with_unfolding_all rfl) :
    wpAny (model prog w) A (subscriptTail value slice (.str x t) (.ref s.heap.objs.size)) Q E { s with heap := s.heap.push { cls := .type "slice", data := .fields #[.int i ti, .none, .none] } } := by
  subst hx
  exact slice_strN_sn hF hN (fun h' t' k F' N' => by rw [S_from l h1]; exact h h' t' k F' N') hs ht (by rw [S_len, sizeLine_eq]; exact hsz)
theorem Sr_eq (hx : x = S a) (hy : y = S b) (h : Q (.bool (a == b)) s) : wpAny (model prog w) A (compareOp .Eq (.str x t) (.str y u)) Q E s := by
  subst hx hy; exact PyProof.Rows.eq_str (by rw [S_beq]; exact h)
theorem Sr_ne (hx : x = S a) (hy : y = S b) (h : Q (.bool (a != b)) s) : wpAny (model prog w) A (compareOp .NotEq (.str x t) (.str y u)) Q E s := by
  subst hx hy; exact PyProof.Rows.ne_str (by rw [S_bne]; exact h)
end
end Mine
end

-- part C2
section
open PySem PySem.W PyProof.Rows PySem.Spec PySem.Calls
namespace Mine
theorem dec_ruleC {prog : Program} {w : World} {A : Around} {E : Value → Shared → Prop} {s : Shared} {n : Nat} {t u : Tok} {Q : Value → Shared → Prop} (hn : n < 2 ^ 48)
    (h : ∀ t' k, Q (.str (S (apC n)) t') { s with toks := k }) :
    wpAny (model prog w) A (call (.builtin "bytes.decode") [.bytes (apL n).toArray t, .str (PySem.Str.ofString "ascii") u]) Q E s :=
  dec_rule (apL_lt _) (by have := apL_len 12 n (by omega); rw [sizeLine_eq]; omega) h
theorem apC_le {n : Nat} (hn : n < 2 ^ 48) : (apC n).length ≤ 12 := by rw [apC_len]; exact apL_len 12 n (by omega)
theorem wordS_eq (n z : Nat) : wordS n z = S (wordC n z) := rfl
def wordT : ToldN (Int × Int) where
  Rel := fun _ vs d => ∃ t1 t2, vs = [.int d.1 t1, .int d.2 t2]
  Ok := fun d => 0 ≤ d.1 ∧ d.1 < 2 ^ 48 ∧ 0 ≤ d.2 ∧ d.2 ≤ 16
  size := fun _ => 16
  Tl := fun tl => tl = []
  Out := fun _ r d => ∃ tk, r = .str (S (wordC d.1.toNat d.2.toNat)) tk
local macro_rules | `(tactic| walk_at "binaryOp Mult str int") => `(tactic| k_extra "binaryOp Mult str int")
local macro_rules | `(tactic| walk_at "binaryOp Add str str") => `(tactic| k_extra "binaryOp Add str str")
local macro_rules | `(tactic| walk_at "call ref") => `(tactic| k_extra "call ref")
set_option maxRecDepth 100000 in
set_option maxHeartbeats 8000000 in
theorem word_tells : ∀ d, Tls 63 wordT d := by
  rintro ⟨d, z⟩
  unfold Tls
  intro w mean mg mb
  suffices h : (PySem.Challenge.rw_wa0006_01 = PySem.Challenge.rw_wa0006_01 → hd.heap_39 = hd.heap_39 → TellsN PySem.Challenge.rw_wa0006_01.row.prog w (hd.heap_39 w.params) hd.view_39 (looseW hd.view_39 []) mean mg mb 63 wordT (d, z)) from h rfl rfl
  k_fill
  intro _ _
  unfold TellsN
  intro dp un gd cn cs a ccd cl outer A₀ base h₀ L m news s vs Q E B F X N T hk hR hok hd hu hret
  obtain ⟨t1, t2, rfl⟩ := hR
  obtain ⟨hd0, hd1, hz0, hz1⟩ : 0 ≤ d ∧ d < 2 ^ 48 ∧ 0 ≤ z ∧ z ≤ 16 := hok
  replace hd : dp + 16 < recursionLimit := hd
  replace hu : un + 8 * 16 < cLine := hu
  have hn : d.toNat < 2 ^ 48 := by omega
  have hl := apC_le hn
  k_with_none
  refine wpAny_call ?_
  k_dflt ktr_enter
  k_with "call ref" => (k_dflt (refine' use_ap ?k1 ?k2 ?k3 ?k4 ?k5 ?kK hd0 hd1 ?kd ?ku ?_; (case k1 => k_asm); (case k2 => k_asm); (case k3 => k_asm); (case k4 => k_asm); (case k5 => k_asm); (case kK => first | exact rfl | assumption); (case kd => ktr_room); (case ku => ktr_units)); intro _ _ _ _ _; (try dsimp only); (try k_fold))
  k_with "call builtin:bytes.decode" => (refine dec_ruleC hn ?_; intro _ _)
  k_with "call builtin:len" => (refine Sr_len rfl (by omega) ?_; intro _ _)
  k_with "binaryOp Mult str int" => (refine Sr_mulA rfl (by omega) (by omega) ?_; intro _ _)
  k_with "binaryOp Add str str" => (refine Sr_add rfl rfl (by rw [List.length_replicate]; omega) ?_; intro _ _)
  k_steps
  refine hret _ [] _ _ ?_ ?_ ktn_ord0 rfl ⟨_, congrArg (fun l => Value.str (S l) _) ?_⟩
  · k_asm
  · exact ktn_tl0 (by k_asm)
  · show _ = List.replicate (z.toNat - (apC d.toNat).length) 65 ++ apC d.toNat
    rw [show (z.toNat - (apC d.toNat).length) = (z - ((apC d.toNat).length : Int)).toNat by omega]
end Mine
end

-- part C3
section
open PySem PySem.W PyProof.Rows PySem.Spec PySem.Calls
namespace Mine
open Builtin Builtin.Str
def numI (l : List Int) : Int := l.foldl (fun a c => a * 16 + (c - 65)) 0
theorem numI_snoc (l : List Int) (c : Int) : numI (l ++ [c]) = numI l * 16 + (c - 65) := by unfold numI; rw [List.foldl_append]; rfl
theorem idx_occ {c : Nat} (h0 : 65 ≤ c) (h1 : c ≤ 80) : occurrences (Str.ofString "ABCDEFGHIJKLMNOP") ⟨#[c]⟩ 0 (Str.ofString "ABCDEFGHIJKLMNOP").length 1 = [c - 65] := by
  have : c = 65 ∨ c = 66 ∨ c = 67 ∨ c = 68 ∨ c = 69 ∨ c = 70 ∨ c = 71 ∨ c = 72 ∨ c = 73 ∨ c = 74 ∨ c = 75 ∨ c = 76 ∨ c = 77 ∨ c = 78 ∨ c = 79 ∨ c = 80 := by omega
  rcases this with h | h | h | h | h | h | h | h | h | h | h | h | h | h | h | h <;> subst h <;> decide +kernel
theorem idx_rule {prog : Program} {w : World} {A : Around} {E : Value → Shared → Prop} {s : Shared} {c : Nat} {t u : Tok} {Q : Value → Shared → Prop} (h0 : 65 ≤ c) (h1 : c ≤ 80)
    (h : ∀ t' k, Q (.int ((c : Int) - 65) t') { s with toks := k }) :
    wpAny (model prog w) A (call (.builtin "str.index") [.str (Str.ofString "ABCDEFGHIJKLMNOP") t, .str ⟨#[c]⟩ u]) Q E s := by
  refine SC.index (idx_occ h0 h1) ?_
  rw [show ((c - 65 : Nat) : Int) = (c : Int) - 65 by omega]
  exact h _ _
theorem codes_S (l : List Nat) : KStt.codes (S l) = l.map fun (c : Nat) => (c : Int) := by unfold KStt.codes; rw [S_cps]
theorem code_in {l : List Nat} {pre post : List Int} {n : Nat} (hl : ∀ c ∈ l, 65 ≤ c ∧ c ≤ 80) (e : KStt.codes (S l) = pre ++ (n : Int) :: post) : 65 ≤ n ∧ n ≤ 80 := by
  have : (n : Int) ∈ KStt.codes (S l) := by rw [e]; simp
  rw [codes_S, List.mem_map] at this
  obtain ⟨c, hc, e⟩ := this
  have := hl c hc
  omega
theorem num_turn {k n : Int} {pre : List Int} (h : k = numI pre) : k * 16 + (n - 65) = numI (pre ++ [n]) := by rw [numI_snoc, h]
theorem num_end {l : List Nat} {k : Int} {t : Tok} (h : k = numI (KStt.codes (S l))) : ∃ tk, Value.int k t = .int (numI (l.map fun (c : Nat) => (c : Int))) tk := ⟨t, by rw [h, codes_S]⟩
def numT : ToldN (List Nat) where
  Rel := fun _ vs l => ∃ t1, vs = [.str (S l) t1]
  Ok := fun l => ∀ c ∈ l, 65 ≤ c ∧ c ≤ 80
  size := fun _ => 16
  Tl := fun tl => tl = []
  Out := fun _ r l => ∃ tk, r = .int (numI (l.map fun (c : Nat) => (c : Int))) tk
local macro_rules | `(tactic| walk_at "call builtin:str.index") => `(tactic| k_extra "call builtin:str.index")
set_option maxRecDepth 100000 in
set_option maxHeartbeats 8000000 in
theorem num_tells : ∀ d, Tls 70 numT d := by
  intro l
  unfold Tls
  intro w mean mg mb
  suffices h : (PySem.Challenge.rw_wa0006_01 = PySem.Challenge.rw_wa0006_01 → hd.heap_39 = hd.heap_39 → TellsN PySem.Challenge.rw_wa0006_01.row.prog w (hd.heap_39 w.params) hd.view_39 (looseW hd.view_39 []) mean mg mb 70 numT l) from h rfl rfl
  k_fill
  intro _ _
  unfold TellsN
  intro dp un gd cn cs a ccd cl outer A₀ base h₀ L m news s vs Q E B F X N T hk hR hok hd hu hret
  obtain ⟨t1, rfl⟩ := hR
  replace hok : ∀ c ∈ l, 65 ≤ c ∧ c ≤ 80 := hok
  replace hd : dp + 16 < recursionLimit := hd
  replace hu : un + 8 * 16 < cLine := hu
  k_with_none
  refine wpAny_call ?_
  k_dflt ktr_enter
  k_with "pyIter str" => k_state (fun pre k => k = numI pre) "told"
  k_with "state" => first | exact (rfl : (0 : Int) = numI []) | exact num_turn (by assumption)
  k_with "call builtin:str.index" => (refine idx_rule (code_in hok (by assumption)).1 (code_in hok (by assumption)).2 ?_; intro _ _)
  k_steps
  refine hret _ [] _ _ ?_ ?_ ktn_ord0 rfl (num_end (by assumption))
  · k_asm
  · exact ktn_tl0 (by k_asm)
end Mine
end

-- part C4
section
open PySem PySem.W PyProof.Rows PySem.Spec PySem.Calls
namespace Mine
inductive T where
  | leaf (n : Int)
  | node (a b : T)
abbrev tupOf (vs : List Value) (k : Nat) : Obj := { cls := .type "tuple", data := .seq vs.toArray k }
inductive TreeIn (news : List (Addr × Obj)) : Value → T → Prop
  | leaf {n : Int} {tk : Tok} : TreeIn news (.int n tk) (.leaf n)
  | node {a : Addr} {v1 v2 : Value} {t1 t2 : T} {k : Nat} (hm : (a, tupOf [v1, v2] k) ∈ news) (h1 : TreeIn news v1 t1) (h2 : TreeIn news v2 t2) : TreeIn news (.ref a) (.node t1 t2)
theorem TreeIn.mono {news news' : List (Addr × Obj)} {v : Value} {t : T} (h : TreeIn news v t) (hs : ∀ p ∈ news, p ∈ news') : TreeIn news' v t := by
  induction h with
  | leaf => exact .leaf
  | node hm _ _ i1 i2 => exact .node (hs _ hm) i1 i2
def pk (h : Int × Int) (i : Int) : Int := if i = 0 then h.1 else h.2
def ov : T → Int × Int
  | .leaf n => (if n ≥ 256 then 1 else 0, if n + 1 ≥ 256 then 1 else 0)
  | .node a b => (pk (ov a) (ov b).1, pk (ov a) (ov b).2)
def T.size : T → Nat
  | .leaf _ => 4
  | .node a b => a.size + b.size + 4
theorem pk01 {h : Int × Int} {i : Int} (h1 : h.1 = 0 ∨ h.1 = 1) (h2 : h.2 = 0 ∨ h.2 = 1) : pk h i = 0 ∨ pk h i = 1 := by unfold pk; split <;> assumption
theorem ov01 : ∀ t : T, ((ov t).1 = 0 ∨ (ov t).1 = 1) ∧ ((ov t).2 = 0 ∨ (ov t).2 = 1)
  | .leaf n => by unfold ov; constructor <;> dsimp only <;> split <;> simp
  | .node a b => by unfold ov; exact ⟨pk01 (ov01 a).1 (ov01 a).2, pk01 (ov01 a).1 (ov01 a).2⟩
/-- a pair of ints in the ledger -/
def PairIn (news : List (Addr × Obj)) (r : Value) (p : Int × Int) : Prop := ∃ a k t1 t2, r = .ref a ∧ (a, tupOf [.int p.1 t1, .int p.2 t2] k) ∈ news
theorem ov_leaf {n x y : Int} {a : Addr} {k : Nat} {t1 t2 : Tok} {news : List (Addr × Obj)} (hx : x = if n ≥ 256 then 1 else 0) (hy : y = if n + 1 ≥ 256 then 1 else 0) :
    PairIn (news ++ [(a, tupOf [.int x t1, .int y t2] k)]) (.ref a) (ov (.leaf n)) := by
  refine ⟨a, k, t1, t2, rfl, List.mem_append.mpr (.inr ?_)⟩
  rw [hx, hy]; exact .head _
theorem ov_node {x y : Int} {p q : T} {a : Addr} {k : Nat} {t1 t2 : Tok} {news tl : List (Addr × Obj)} (hx : x = pk (ov p) (ov q).1) (hy : y = pk (ov p) (ov q).2) :
    PairIn (news ++ ((a, tupOf [.int x t1, .int y t2] k) :: tl)) (.ref a) (ov (.node p q)) := by
  refine ⟨a, k, t1, t2, rfl, List.mem_append.mpr (.inr ?_)⟩
  rw [hx, hy]; exact .head _
theorem sz1 {p q : T} : p.size < (T.node p q).size := by show p.size < p.size + q.size + 4; omega
theorem sz2 {p q : T} : q.size < (T.node p q).size := by show q.size < p.size + q.size + 4; omega
theorem pair_item {prog : Program} {w : World} {A : Around} {E : Value → Shared → Prop} {s : Shared} {value slice : PySem.Expr} {h₀ : Heap} {L a : Addr} {news : List (Addr × Obj)} {p : Int × Int} {i : Int} {u t1 t2 : Tok} {k : Nat} {Q : Value → Shared → Prop}
    (N : News h₀ L s.heap news) (hm : (a, tupOf [.int p.1 t1, .int p.2 t2] k) ∈ news) (hi : i = 0 ∨ i = 1) (h : ∀ t', Q (.int (pk p i) t') s)
    (hs : subscripted slice false (.ref a) (.int i u) = operate [.ref a, .int i u] (getItem (.ref a) (.int i u)) := by with_unfolding_all rfl) :
    wpAny (model prog w) A (subscriptTail value slice (.ref a) (.int i u)) Q E s := by
  have hT : IsTup s.heap a [Value.int p.1 t1, Value.int p.2 t2].toArray := ⟨_, (N _ hm).1, rfl, k, rfl⟩
  rcases hi with rfl | rfl
  · exact item_tupleT (j := 0) (x := .int p.1 t1) hT (by decide) (by decide) rfl rfl (h t1) hs
  · exact item_tupleT (j := 1) (x := .int p.2 t2) hT (by decide) (by decide) rfl rfl (h t2) hs
def ovT : ToldN T where
  Rel := fun news vs t => ∃ v, vs = [v] ∧ TreeIn news v t
  Ok := fun _ => True
  size := T.size
  Tl := fun _ => True
  Out := fun news r t => PairIn news r (ov t)
theorem pair_item0 {prog : Program} {w : World} {A : Around} {E : Value → Shared → Prop} {s : Shared} {value slice : PySem.Expr} {h₀ : Heap} {L a : Addr} {news : List (Addr × Obj)} {x y : Value} {u : Tok} {k : Nat} {Q : Value → Shared → Prop}
    (N : News h₀ L s.heap news) (hm : (a, tupOf [x, y] k) ∈ news) (h : Q x s)
    (hs : subscripted slice false (.ref a) (.int 0 u) = operate [.ref a, .int 0 u] (getItem (.ref a) (.int 0 u)) := by with_unfolding_all rfl) :
    wpAny (model prog w) A (subscriptTail value slice (.ref a) (.int 0 u)) Q E s :=
  item_tupleT (j := 0) (x := x) (l := [x, y]) ⟨_, (N _ hm).1, rfl, k, rfl⟩ (by decide) (by decide) rfl rfl h hs
theorem pair_item1 {prog : Program} {w : World} {A : Around} {E : Value → Shared → Prop} {s : Shared} {value slice : PySem.Expr} {h₀ : Heap} {L a : Addr} {news : List (Addr × Obj)} {x y : Value} {u : Tok} {k : Nat} {Q : Value → Shared → Prop}
    (N : News h₀ L s.heap news) (hm : (a, tupOf [x, y] k) ∈ news) (h : Q y s)
    (hs : subscripted slice false (.ref a) (.int 1 u) = operate [.ref a, .int 1 u] (getItem (.ref a) (.int 1 u)) := by with_unfolding_all rfl) :
    wpAny (model prog w) A (subscriptTail value slice (.ref a) (.int 1 u)) Q E s :=
  item_tupleT (j := 1) (x := y) (l := [x, y]) ⟨_, (N _ hm).1, rfl, k, rfl⟩ (by decide) (by decide) rfl rfl h hs
theorem news_keep {h₀ h : Heap} {L : Addr} {x y : Addr × Obj} {news t8 t9 : List (Addr × Obj)} (N : News h₀ L h (x :: y :: (news ++ t8 ++ t9))) : News h₀ L h (news ++ [x]) := fun p hp => N p (by
  rcases List.mem_append.mp hp with h | h
  · simp [h]
  · rw [List.mem_singleton.mp h]; exact .head _)
theorem ord_keep {D D' : Addr} {o : Obj} {news t8 t9 : List (Addr × Obj)} (l : D' < D ∧ AllLt D (news ++ t8 ++ t9)) : ∀ q ∈ news, ∀ p ∈ [(D, o)], q.1 < p.1 := by
  intro q hq p hp
  rw [List.mem_singleton.mp hp]
  exact ktn_ltOf l.2 q (by simp [hq])
theorem use_ov_of {w : World} {mean : ExcName → Option Value} {mg mb : Str → Option Value} {t : T} (C : TellsN PySem.Challenge.rw_wa0006_01.row.prog w (hd.heap_39 w.params) hd.view_39 (looseW hd.view_39 []) mean mg mb 91 ovT t)
    {v : Value} {dp un : Nat} {gd : Option (List Code)} {cn : Str} {cs : Scope} {a : Addr} {ccd : Value} {cl : List (Str × Addr)} {outer : List Env} {A₀ : Around} {base h₀ : Heap} {L : Addr} {m : Str → Option Value} {news : List (Addr × Obj)} {s : Shared}
    {Q E : Value → Shared → Prop} (B : Below A₀ base outer h₀) (F : Fr h₀ L s.heap m) (X : (hd.heap_39 w.params).In h₀) (N : News h₀ L s.heap news) (T : Top hd.view_39 (looseW hd.view_39 []) mean mg mb h₀) (hk : cs.kind = .function)
    (hv : TreeIn news v t) (hd : dp + t.size < recursionLimit) (hu : un + 8 * t.size < cLine)
    (ret : ∀ a tl k t1 t2 h' tk', Fr h₀ L h' m → News h₀ L h' (news ++ tl) → (∀ q ∈ news, ∀ p ∈ tl, q.1 < p.1) → (a, tupOf [.int (ov t).1 t1, .int (ov t).2 t2] k) ∈ news ++ tl → Q (.ref a) { s with heap := h', toks := tk' }) :
    wpAny (model PySem.Challenge.rw_wa0006_01.row.prog w) (ktrTop dp un gd cn cs L a ccd cl outer) (call (.ref 91) [v]) Q E s := by
  refine tellsN_use (c := ovT) (d := t) B F X N T hk ⟨v, rfl, hv⟩ C trivial hd hu ?_
  rintro r tl h' tk' F' N' o' _ ⟨a, k, t1, t2, rfl, hm⟩
  exact ret a tl k t1 t2 h' tk' F' N' o' hm
local macro_rules | `(tactic| walk_at "call ref") => `(tactic| k_extra "call ref")
set_option maxRecDepth 100000 in
set_option maxHeartbeats 8000000 in
theorem ov_tells : ∀ d, Tls 91 ovT d := by
  suffices G : ∀ (w : World) (mean : ExcName → Option Value) (mg mb : Str → Option Value), ∀ d, TellsN PySem.Challenge.rw_wa0006_01.row.prog w (hd.heap_39 w.params) hd.view_39 (looseW hd.view_39 []) mean mg mb 91 ovT d from fun d w mean mg mb => G w mean mg mb d
  intro w mean mg mb
  refine tellsN_of fun t IH => ?_
  suffices h : (PySem.Challenge.rw_wa0006_01 = PySem.Challenge.rw_wa0006_01 → hd.heap_39 = hd.heap_39 → TellsN PySem.Challenge.rw_wa0006_01.row.prog w (hd.heap_39 w.params) hd.view_39 (looseW hd.view_39 []) mean mg mb 91 ovT t) from h rfl rfl
  k_fill
  intro _ _
  unfold TellsN
  intro dp un gd cn cs a ccd cl outer A₀ base h₀ L m news s vs Q E B F X N T hk hR hok hd hu hret
  obtain ⟨v, rfl, hv⟩ := hR
  k_with_none
  cases hv with
  | leaf =>
    replace hd : dp + 4 < recursionLimit := hd
    replace hu : un + 8 * 4 < cLine := hu
    refine wpAny_call ?_
    k_dflt ktr_enter
    k_with "call ref" => (refine wpAny_call ?_; k_dflt (refine' code_def ?k1 ?k2 ?k3 ?k4 ?k5 ?kA ?kF ?kK ?k6 ?k7 ?k8 ?k9 ?kB ?_ ?c2 ?c3 ?c4 ?c5; (case kA => exact rfl); (case kF => exact rfl); (case kK => first | exact rfl | assumption); (case k1 => k_asm); (case k2 => k_asm); (case k3 => k_asm); (case k4 => k_asm); (case k5 => k_asm); (case k6 => k_is); (case k7 => k_is); (case k8 => ktr_room); (case k9 => exact BindsTo.of_eq rfl); (case c5 => decide); (case kB => exact locs rfl); (case c2 => exact rfl); (case c3 => exact rfl); (case c4 => exact rfl); k_whole; intro g' L' h' FG' F' N' B' X' T'; (try dsimp only); (try k_fold)))
    k_steps
    all_goals (
      refine' hret _ _ _ _ ?e1 ?e2 ?e3 ?e4 ?e5
      case e1 => k_asm
      case e2 => exact ktn_tl1 (by k_asm)
      case e3 => ktn_ord
      case e4 => trivial
      case e5 => exact ov_leaf (by split <;> first | rfl | (exfalso; omega)) (by split <;> first | rfl | (exfalso; omega)))
  | node hm h1 h2 =>
    rename_i a v1 v2 t1 t2 k
    replace hd : dp + (t1.size + t2.size + 4) < recursionLimit := hd
    replace hu : un + 8 * (t1.size + t2.size + 4) < cLine := hu
    refine wpAny_call ?_
    k_dflt ktr_enter
    k_with_none
    k_with "call ref" => (k_dflt (refine' use_ov_of (IH _ ?klt) ?k1 ?k2 ?k3 ?k4 ?k5 ?kK ?kR ?kd ?ku ?_; (case k1 => k_asm); (case k2 => k_asm); (case k3 => k_asm); (case k4 => k_asm); (case k5 => k_asm); (case kK => first | exact rfl | assumption); (case kR => first | exact h1 | (have q9 := TreeIn.mono (news' := news ++ tl8) h2 ktn_subA; exact q9)); (case klt => first | exact sz1 | exact sz2); (case kd => ktr_room); (case ku => ktr_units)); (first | (have q8 := hm8; clear q8; intro a9 tl9 k9 x9 y9 h9 tk9 F9 N9 hl9 hm9) | intro a8 tl8 k8 x8 y8 h8 tk8 F8 N8 hl8 hm8); (try dsimp only); (try k_fold))
    k_with "subscriptTail Name Constant ref int" => ((have q9 := hm9; clear q9); first | ((with_reducible show wpAny _ _ (subscriptTail _ _ (Value.ref _) (Value.int 0 _)) _ _ _); refine' pair_item0 ?N ?hm ?_; (case N => k_asm); (case hm => first | exact hm9 | exact List.mem_cons_of_mem _ hm9)) | ((with_reducible show wpAny _ _ (subscriptTail _ _ (Value.ref _) (Value.int 1 _)) _ _ _); refine' pair_item1 ?N ?hm ?_; (case N => k_asm); (case hm => first | exact hm9 | exact List.mem_cons_of_mem _ hm9)))
    k_with "subscriptTail Name Subscript ref int" => (refine' pair_item ?N ?hm ?hi ?_; (case N => k_asm); (case hm => exact List.mem_cons_of_mem _ (List.mem_append.mpr (.inl hm8))); (case hi => first | exact (ov01 _).1 | exact (ov01 _).2); intro _)
    k_steps
    refine' hret _ _ _ _ ?e1 ?e2 ?e3 ?e4 ?e5
    case e1 => k_asm
    case e2 => exact news_keep (by k_asm)
    case e3 => exact ord_keep (by assumption)
    case e4 => trivial
    case e5 => exact ov_node rfl rfl
end Mine
end

-- part C5
section
open PySem PySem.W PyProof.Rows PySem.Spec PySem.Calls
namespace Mine
def okT : T → Prop
  | .leaf n => 0 ≤ n ∧ n ≤ 510
  | .node a b => okT a ∧ okT b
def letC : T → Int → List Nat
  | .leaf n, c => wordC (if n + c < 256 then n + c else n + c - 256).toNat 2
  | .node a b, c => letC a (pk (ov b) c) ++ letC b c
theorem wordC_len {n : Nat} (h : n < 256) : (wordC n 2).length = 2 := by
  have := apL_len 2 n (by omega)
  unfold wordC
  rw [List.length_append, List.length_replicate, apC_len]; omega
theorem letC_len : ∀ {t : T} {c : Int}, okT t → (c = 0 ∨ c = 1) → (letC t c).length ≤ t.size
  | .leaf n, c, h, hc => by
    have h : 0 ≤ n ∧ n ≤ 510 := h
    unfold letC
    rw [wordC_len (by split <;> omega)]
    show 2 ≤ 4; omega
  | .node a b, c, h, hc => by
    unfold letC
    rw [List.length_append]
    have h1 := letC_len (t := a) (c := pk (ov b) c) h.1 (by rcases hc with rfl | rfl; exact (ov01 b).1; exact (ov01 b).2)
    have h2 := letC_len (t := b) (c := c) h.2 hc
    show _ ≤ a.size + b.size + 4
    omega
def letT : ToldN (T × Int) where
  Rel := fun news vs d => ∃ v tk, vs = [v, .int d.2 tk] ∧ TreeIn news v d.1
  Ok := fun d => okT d.1 ∧ (d.2 = 0 ∨ d.2 = 1)
  size := fun d => d.1.size + 32
  Tl := fun tl => tl = []
  Out := fun _ r d => ∃ tk, r = .str (S (letC d.1 d.2)) tk
section
variable {w : World} {mean : ExcName → Option Value} {mg mb : Str → Option Value} {dp un : Nat} {gd : Option (List Code)} {cn : Str} {cs : Scope} {a : Addr} {ccd : Value} {cl : List (Str × Addr)} {outer : List Env} {A₀ : Around} {base h₀ : Heap} {L : Addr} {m : Str → Option Value} {news : List (Addr × Obj)} {s : Shared} {Q E : Value → Shared → Prop}
theorem use_word (B : Below A₀ base outer h₀) (F : Fr h₀ L s.heap m) (X : (hd.heap_39 w.params).In h₀) (N : News h₀ L s.heap news) (T : Top hd.view_39 (looseW hd.view_39 []) mean mg mb h₀) (hk : cs.kind = .function)
    {d z : Int} {t1 t2 : Tok} (h0 : 0 ≤ d) (h1 : d < 2 ^ 48) (h2 : 0 ≤ z) (h3 : z ≤ 16) (hd : dp + 16 < recursionLimit) (hu : un + 8 * 16 < cLine)
    (ret : ∀ tk' h' k, Fr h₀ L h' m → News h₀ L h' news → Q (.str (S (wordC d.toNat z.toNat)) tk') { s with heap := h', toks := k }) :
    wpAny (model PySem.Challenge.rw_wa0006_01.row.prog w) (ktrTop dp un gd cn cs L a ccd cl outer) (call (.ref 63) [.int d t1, .int z t2]) Q E s := by
  refine tellsN_use (c := wordT) (d := (d, z)) B F X N T hk ⟨t1, t2, rfl⟩ (word_tells (d, z) w mean mg mb) ⟨h0, h1, h2, h3⟩ hd hu ?_
  rintro r tl h' tk' F' N' _ rfl ⟨t, rfl⟩
  exact ret t h' tk' F' (by rw [List.append_nil] at N'; exact N')
theorem use_let_of (B : Below A₀ base outer h₀) (F : Fr h₀ L s.heap m) (X : (hd.heap_39 w.params).In h₀) (N : News h₀ L s.heap news) (T : Top hd.view_39 (looseW hd.view_39 []) mean mg mb h₀) (hk : cs.kind = .function)
    {t : Mine.T} {c : Int} {v : Value} {tk : Tok} (C : TellsN PySem.Challenge.rw_wa0006_01.row.prog w (hd.heap_39 w.params) hd.view_39 (looseW hd.view_39 []) mean mg mb 98 letT (t, c)) (hv : TreeIn news v t) (ho : okT t) (hc : c = 0 ∨ c = 1) (hd : dp + (t.size + 32) < recursionLimit) (hu : un + 8 * (t.size + 32) < cLine)
    (ret : ∀ tk' h' k, Fr h₀ L h' m → News h₀ L h' news → Q (.str (S (letC t c)) tk') { s with heap := h', toks := k }) :
    wpAny (model PySem.Challenge.rw_wa0006_01.row.prog w) (ktrTop dp un gd cn cs L a ccd cl outer) (call (.ref 98) [v, .int c tk]) Q E s := by
  refine tellsN_use (c := letT) (d := (t, c)) B F X N T hk ⟨v, tk, rfl, hv⟩ C ⟨ho, hc⟩ hd hu ?_
  rintro r tl h' tk' F' N' _ rfl ⟨t, rfl⟩
  exact ret t h' tk' F' (by rw [List.append_nil] at N'; exact N')
end
theorem news_keep0 {h₀ h : Heap} {L : Addr} {news t8 : List (Addr × Obj)} (N : News h₀ L h (news ++ t8)) : News h₀ L h (news ++ []) := fun p hp => N p (by
  rw [List.append_nil] at hp; simp [hp])
theorem let_leaf {n c x : Int} {tk : Tok} (h : x = if n + c < 256 then n + c else n + c - 256) : ∃ tk', Value.str (S (wordC x.toNat (Int.toNat 2))) tk = .str (S (letC (.leaf n) c)) tk' := ⟨tk, by rw [h]; rfl⟩
theorem let_sz1 {p q : T} {c c' : Int} : letT.size (p, c) < letT.size (T.node p q, c') := by show p.size + 32 < p.size + q.size + 4 + 32; omega
theorem let_sz2 {p q : T} {c c' : Int} : letT.size (q, c) < letT.size (T.node p q, c') := by show q.size + 32 < p.size + q.size + 4 + 32; omega
theorem pk01' {t : T} {i : Int} : pk (ov t) i = 0 ∨ pk (ov t) i = 1 := pk01 (ov01 t).1 (ov01 t).2
local macro_rules | `(tactic| walk_at "call ref") => `(tactic| k_extra "call ref")
local macro_rules | `(tactic| walk_at "subscriptTail") => `(tactic| k_extra "subscriptTail")
local macro_rules | `(tactic| walk_at "binaryOp Add str str") => `(tactic| k_extra "binaryOp Add str str")
set_option maxRecDepth 100000 in
set_option maxHeartbeats 8000000 in
theorem let_tells : ∀ d, Tls 98 letT d := by
  suffices G : ∀ (w : World) (mean : ExcName → Option Value) (mg mb : Str → Option Value), ∀ d, TellsN PySem.Challenge.rw_wa0006_01.row.prog w (hd.heap_39 w.params) hd.view_39 (looseW hd.view_39 []) mean mg mb 98 letT d from fun d w mean mg mb => G w mean mg mb d
  intro w mean mg mb
  refine tellsN_of fun d IH => ?_
  obtain ⟨t, c⟩ := d
  suffices h : (PySem.Challenge.rw_wa0006_01 = PySem.Challenge.rw_wa0006_01 → hd.heap_39 = hd.heap_39 → TellsN PySem.Challenge.rw_wa0006_01.row.prog w (hd.heap_39 w.params) hd.view_39 (looseW hd.view_39 []) mean mg mb 98 letT (t, c)) from h rfl rfl
  k_fill
  intro _ _
  unfold TellsN
  intro dp un gd cn cs a ccd cl outer A₀ base h₀ L m news s vs Q E B F X N T hk hR hok hd hu hret
  obtain ⟨v, tk, rfl, hv⟩ := hR
  obtain ⟨ho, hc⟩ : okT t ∧ (c = 0 ∨ c = 1) := hok
  k_with_none
  cases hv with
  | leaf =>
    rename_i n tk
    obtain ⟨ho1, ho2⟩ : 0 ≤ n ∧ n ≤ 510 := ho
    replace hd : dp + (4 + 32) < recursionLimit := hd
    replace hu : un + 8 * (4 + 32) < cLine := hu
    refine wpAny_call ?_
    k_dflt ktr_enter
    k_with "call ref" => (refine wpAny_call ?_; k_dflt (refine' code_def ?k1 ?k2 ?k3 ?k4 ?k5 ?kA ?kF ?kK ?k6 ?k7 ?k8 ?k9 ?kB ?_ ?c2 ?c3 ?c4 ?c5; (case kA => exact rfl); (case kF => exact rfl); (case kK => first | exact rfl | assumption); (case k1 => k_asm); (case k2 => k_asm); (case k3 => k_asm); (case k4 => k_asm); (case k5 => k_asm); (case k6 => k_is); (case k7 => k_is); (case k8 => ktr_room); (case k9 => exact BindsTo.of_eq rfl); (case c5 => decide); (case kB => exact locs rfl); (case c2 => exact rfl); (case c3 => exact rfl); (case c4 => exact rfl); k_whole; intro g' L' h' FG' F' N' B' X' T'; (try dsimp only); (try k_fold)))
    k_with "call ref" => (k_dflt (refine' use_word ?k1 ?k2 ?k3 ?k4 ?k5 ?kK ?h0 ?h1 ?h2 ?h3 ?kd ?ku ?_; (case k1 => k_asm); (case k2 => k_asm); (case k3 => k_asm); (case k4 => k_asm); (case k5 => k_asm); (case kK => first | exact rfl | assumption); (case h0 => omega); (case h1 => omega); (case h2 => omega); (case h3 => omega); (case kd => ktr_room); (case ku => ktr_units)); intro _ _ _ _ _; (try dsimp only); (try k_fold))
    k_steps
    all_goals (
      refine' hret _ [] _ _ ?e1 ?e2 ktn_ord0 rfl ?e5
      case e1 => k_asm
      case e2 => exact ktn_tl0 (by k_asm)
      case e5 => exact let_leaf (by split <;> first | rfl | (exfalso; omega)))
  | node hm h1 h2 =>
    rename_i aa v1 v2 t1 t2 k
    obtain ⟨ho1, ho2⟩ : okT t1 ∧ okT t2 := ho
    replace hd : dp + (t1.size + t2.size + 4 + 32) < recursionLimit := hd
    replace hu : un + 8 * (t1.size + t2.size + 4 + 32) < cLine := hu
    have hlen : (letC t1 (pk (ov t2) c)).length + (letC t2 c).length ≤ 16777216 := by
      have e1 := letC_len (t := t1) (c := pk (ov t2) c) ho1 pk01'
      have e2 := letC_len (t := t2) (c := c) ho2 hc
      have e3 : recursionLimit = 1000 := by rfl
      omega
    refine wpAny_call ?_
    k_dflt ktr_enter
    k_with_none
    k_with "call ref" => (k_dflt (refine' use_ov_of (ov_tells t2 w mean mg mb) ?k1 ?k2 ?k3 ?k4 ?k5 ?kK h2 ?kd ?ku ?_; (case k1 => k_asm); (case k2 => k_asm); (case k3 => k_asm); (case k4 => k_asm); (case k5 => k_asm); (case kK => first | exact rfl | assumption); (case kd => ktr_room); (case ku => ktr_units)); intro a8 tl8 k8 x8 y8 h8 tk8 F8 N8 hl8 hm8; (try dsimp only); (try k_fold))
    k_with "subscriptTail" => ((have q8 := hm8; clear q8); refine' pair_item ?N ?hm hc ?_; (case N => k_asm); (case hm => exact hm8); intro _)
    k_with "call ref" => (k_dflt (refine' use_let_of ?k1 ?k2 ?k3 ?k4 ?k5 ?kK (IH (t1, pk (ov t2) c) let_sz1) ?kR ho1 pk01' ?kd ?ku ?_; (case k1 => k_asm); (case k2 => k_asm); (case k3 => k_asm); (case k4 => k_asm); (case k5 => k_asm); (case kK => first | exact rfl | assumption); (case kR => exact TreeIn.mono h1 ktn_subA); (case kd => ktr_room); (case ku => ktr_units)); intro _ _ _ _ _; (try dsimp only); (try k_fold))
    k_with "call ref" => (k_dflt (refine' use_let_of ?k1 ?k2 ?k3 ?k4 ?k5 ?kK (IH (t2, c) let_sz2) ?kR ho2 hc ?kd ?ku ?_; (case k1 => k_asm); (case k2 => k_asm); (case k3 => k_asm); (case k4 => k_asm); (case k5 => k_asm); (case kK => first | exact rfl | assumption); (case kR => exact TreeIn.mono h2 ktn_subA); (case kd => ktr_room); (case ku => ktr_units)); intro _ _ _ _ _; (try dsimp only); (try k_fold))
    k_with "binaryOp Add str str" => (refine Sr_add rfl rfl hlen ?_; intro _ _)
    k_steps
    refine' hret _ [] _ _ ?e1 ?e2 ktn_ord0 rfl ?e5
    case e1 => k_asm
    case e2 => exact news_keep0 (by k_asm)
    case e5 => exact ⟨_, rfl⟩
end Mine
end

-- part C6
section
open PySem PySem.W PyProof.Rows PySem.Spec PySem.Calls
namespace Mine
inductive Br where
  | leaf (p : List Nat)
  | node (a b : Br)
def Br.text : Br → List Nat
  | .leaf p => 40 :: (p ++ [41])
  | .node a b => 40 :: (a.text ++ (b.text ++ [41]))
def Br.leaves : Br → List (List Nat)
  | .leaf p => [p]
  | .node a b => a.leaves ++ b.leaves
theorem Br.text_len : ∀ (t : Br), (∀ p ∈ t.leaves, p.length ≤ 64) → t.text.length + 2 ≤ 68 * t.leaves.length
  | .leaf p, h => by
    have := h p (by simp [Br.leaves])
    simp [Br.text, Br.leaves]; omega
  | .node a b, h => by
    have h1 := a.text_len fun p hp => h p (by simp [Br.leaves, hp])
    have h2 := b.text_len fun p hp => h p (by simp [Br.leaves, hp])
    simp [Br.text, Br.leaves]; omega
inductive PartsAre : List Value → List (List Nat) → Prop
  | nil : PartsAre [] []
  | cons {p : List Nat} {t : Tok} {vs : List Value} {ps : List (List Nat)} (h : PartsAre vs ps) : PartsAre (.str (S p) t :: vs) (p :: ps)
theorem PartsAre.len {vs : List Value} {ps : List (List Nat)} (h : PartsAre vs ps) : vs.length = ps.length := by
  induction h with
  | nil => rfl
  | cons _ ih => rw [List.length_cons, List.length_cons, ih]
theorem PartsAre.take {vs : List Value} {ps : List (List Nat)} (h : PartsAre vs ps) : ∀ n, PartsAre (vs.take n) (ps.take n) := by
  induction h with
  | nil => intro n; rw [List.take_nil, List.take_nil]; exact .nil
  | cons _ ih =>
    intro n
    cases n with
    | zero => exact .nil
    | succ n => rw [List.take_succ_cons, List.take_succ_cons]; exact .cons (ih n)
theorem PartsAre.drop {vs : List Value} {ps : List (List Nat)} (h : PartsAre vs ps) : ∀ n, PartsAre (vs.drop n) (ps.drop n) := by
  induction h with
  | nil => intro n; rw [List.drop_nil, List.drop_nil]; exact .nil
  | cons h ih =>
    intro n
    cases n with
    | zero => exact .cons h
    | succ n => rw [List.drop_succ_cons, List.drop_succ_cons]; exact ih n
def PartsIn (news : List (Addr × Obj)) (v : Value) (ps : List (List Nat)) : Prop := ∃ a vs k, v = .ref a ∧ (a, listOf vs.toArray k) ∈ news ∧ PartsAre vs ps
section
variable {prog : Program} {w : World} {A : Around} {E : Value → Shared → Prop} {s : Shared} {h₀ : Heap} {L l : Addr} {m : Str → Option Value} {news : List (Addr × Obj)} {value slice : PySem.Expr} {vs : List Value} {i : Int} {ti : Tok} {k : Nat} {Q : Value → Shared → Prop}
theorem Lr_to (F : Fr h₀ L s.heap m) (N : News h₀ L s.heap news) (hm : (l, listOf vs.toArray k) ∈ news) (h0 : 0 ≤ i) (hz : vs.length ≤ 1048576)
    (h : ∀ D h', Fr h₀ L h' m → News h₀ L h' ((D, listOf (vs.take i.toNat).toArray 0) :: news) → (∀ p ∈ news, p.1 < D) → Q (.ref D) { s with heap := h' })
    (hs : subscripted slice false (.ref l) (.ref s.heap.objs.size) = operate [.ref s.heap.objs.size, .ref l] (getItem (.ref l) (.ref s.heap.objs.size)) := by with_unfolding_all rfl) (ht : ∀ r, letTemporaryGo value (.ref l) r = pure () := by intro _; with_unfolding_all rfl) :
    wpAny (model prog w) A (subscriptTail value slice (.ref l) (.ref s.heap.objs.size)) Q E { s with heap := s.heap.push { cls := .type "slice", data := .fields #[.none, .int i ti, .none] } } := by
  refine kmk_slice_lit (lo := none) (hi := some i) F N (News.isList N hm) (by constructor) (by constructor) ?_ h hs ht (by rw [sizeLine_eq]; simp; omega)
  have e : i = ((i.toNat : Nat) : Int) := by omega
  rw [e, slicePick_upto', Int.toNat_natCast]
theorem Lr_from (F : Fr h₀ L s.heap m) (N : News h₀ L s.heap news) (hm : (l, listOf vs.toArray k) ∈ news) (h0 : 0 ≤ i) (hz : vs.length ≤ 1048576)
    (h : ∀ D h', Fr h₀ L h' m → News h₀ L h' ((D, listOf (vs.drop i.toNat).toArray 0) :: news) → (∀ p ∈ news, p.1 < D) → Q (.ref D) { s with heap := h' })
    (hs : subscripted slice false (.ref l) (.ref s.heap.objs.size) = operate [.ref s.heap.objs.size, .ref l] (getItem (.ref l) (.ref s.heap.objs.size)) := by with_unfolding_all rfl) (ht : ∀ r, letTemporaryGo value (.ref l) r = pure () := by intro _; with_unfolding_all rfl) :
    wpAny (model prog w) A (subscriptTail value slice (.ref l) (.ref s.heap.objs.size)) Q E { s with heap := s.heap.push { cls := .type "slice", data := .fields #[.int i ti, .none, .none] } } := by
  refine kmk_slice_lit (lo := some i) (hi := none) F N (News.isList N hm) (by constructor) (by constructor) ?_ h hs ht (by rw [sizeLine_eq]; simp; omega)
  have e : i = ((i.toNat : Nat) : Int) := by omega
  rw [e, slicePick_from', Int.toNat_natCast]
theorem Lr_item {v : Value} {u : Tok} (N : News h₀ L s.heap news) (hm : (l, listOf vs.toArray k) ∈ news) (h0 : 0 ≤ i) (hhi : i < 2 ^ 63) (hx : vs[i.toNat]? = some v) (h : Q v s)
    (hs : subscripted slice false (.ref l) (.int i u) = operate [.ref l, .int i u] (getItem (.ref l) (.int i u)) := by with_unfolding_all rfl) :
    wpAny (model prog w) A (subscriptTail value slice (.ref l) (.int i u)) Q E s :=
  have hl := News.isList N hm
  tail_any hl.typeIs slot_list_getitem.lookup (wpAny_getItem_list hl h0 hhi (by simpa using hx) h) hs
theorem eq_int_no {a b : Int} {t u : Tok} (hab : a ≠ b) (h : Q (.bool false) s) : wpAny (model prog w) A (compareOp .Eq (.int a t) (.int b u)) Q E s :=
  eq_int (by rw [show (a == b) = false from beq_eq_false_iff_ne.mpr hab]; exact h)
theorem Lr_len (N : News h₀ L s.heap news) (hm : (l, listOf vs.toArray k) ∈ news) {n : Nat} (hn : vs.length = n) (hz : n ≤ 1048576) (h : ∀ t' tk, Q (.int (n : Nat) t') { s with toks := tk }) :
    wpAny (model prog w) A (call (.builtin "len") [.ref l]) Q E s := KM.len_K N hm (by simp; exact hn) (by omega) (h _ _)
end
def brT : ToldN (List (List Nat) × Int) where
  Rel := fun news vs d => ∃ v tk, vs = [v, .int d.2 tk] ∧ PartsIn news v d.1
  Ok := fun d => 1 ≤ d.1.length ∧ d.1.length ≤ 16 ∧ ∀ p ∈ d.1, p.length ≤ 64
  size := fun d => d.1.length
  Tl := fun tl => tl = []
  Out := fun _ r d => ∃ t tk, r = .str (S (Br.text t)) tk ∧ t.leaves = d.1
section
variable {w : World} {mean : ExcName → Option Value} {mg mb : Str → Option Value} {dp un : Nat} {gd : Option (List Code)} {cn : Str} {cs : Scope} {a : Addr} {ccd : Value} {cl : List (Str × Addr)} {outer : List Env} {A₀ : Around} {base h₀ : Heap} {L : Addr} {m : Str → Option Value} {news : List (Addr × Obj)} {s : Shared} {Q E : Value → Shared → Prop}
theorem use_br_of (B : Below A₀ base outer h₀) (F : Fr h₀ L s.heap m) (X : (hd.heap_39 w.params).In h₀) (N : News h₀ L s.heap news) (T : Top hd.view_39 (looseW hd.view_39 []) mean mg mb h₀) (hk : cs.kind = .function)
    {ps : List (List Nat)} {c : Int} {l : Addr} {vs : List Value} {k : Nat} {tk : Tok} (C : TellsN PySem.Challenge.rw_wa0006_01.row.prog w (hd.heap_39 w.params) hd.view_39 (looseW hd.view_39 []) mean mg mb 77 brT (ps, c)) (hm : (l, listOf vs.toArray k) ∈ news) (hp : PartsAre vs ps)
    (ho1 : 1 ≤ ps.length) (ho2 : ps.length ≤ 16) (ho3 : ∀ p ∈ ps, p.length ≤ 64) (hd : dp + ps.length < recursionLimit) (hu : un + 8 * ps.length < cLine)
    (ret : ∀ (t : Br) tk' h' k, Fr h₀ L h' m → News h₀ L h' news → t.leaves = ps → t.text.length ≤ 2000 → Q (.str (S t.text) tk') { s with heap := h', toks := k }) :
    wpAny (model PySem.Challenge.rw_wa0006_01.row.prog w) (ktrTop dp un gd cn cs L a ccd cl outer) (call (.ref 77) [.ref l, .int c tk]) Q E s := by
  refine tellsN_use (c := brT) (d := (ps, c)) B F X N T hk ⟨_, tk, rfl, l, vs, k, rfl, hm, hp⟩ C ⟨ho1, ho2, ho3⟩ hd hu ?_
  rintro r tl h' tk' F' N' _ rfl ⟨t, tk, rfl, e⟩
  have e : t.leaves = ps := e
  have hl := t.text_len (by rw [e]; exact ho3)
  rw [e] at hl
  exact ret t tk h' tk' F' (by rw [List.append_nil] at N'; exact N') e (by omega)
end
theorem news_drop2 {h₀ h : Heap} {L : Addr} {x y : Addr × Obj} {news : List (Addr × Obj)} (N : News h₀ L h (x :: y :: news)) : News h₀ L h (news ++ []) := fun p hp => N p (by
  rw [List.append_nil] at hp; exact .tail _ (.tail _ hp))
theorem br_leaf {p : List Nat} {tk : Tok} : ∃ t tk', Value.str (S ((Str.ofString "(").cps.toList ++ p ++ (Str.ofString ")").cps.toList)) tk = .str (S (Br.text t)) tk' ∧ t.leaves = [p] :=
  ⟨.leaf p, tk, by rw [show (Str.ofString "(").cps.toList = [40] from by decide, show (Str.ofString ")").cps.toList = [41] from by decide]; simp [Br.text], rfl⟩
theorem br_node {ps : List (List Nat)} {n : Nat} {ta tb : Br} {tk : Tok} (ha : ta.leaves = ps.take n) (hb : tb.leaves = ps.drop n) : ∃ t tk', Value.str (S ((Str.ofString "(").cps.toList ++ ta.text ++ tb.text ++ (Str.ofString ")").cps.toList)) tk = .str (S (Br.text t)) tk' ∧ t.leaves = ps :=
  ⟨.node ta tb, tk, by rw [show (Str.ofString "(").cps.toList = [40] from by decide, show (Str.ofString ")").cps.toList = [41] from by decide]; simp [Br.text], by simp [Br.leaves, ha, hb]⟩
local macro_rules | `(tactic| walk_at "call ref") => `(tactic| k_extra "call ref")
local macro_rules | `(tactic| walk_at "call builtin:len") => `(tactic| k_extra "call builtin:len")
local macro_rules | `(tactic| walk_at "subscriptTail") => `(tactic| k_extra "subscriptTail")
local macro_rules | `(tactic| walk_at "binaryOp Add str str") => `(tactic| k_extra "binaryOp Add str str")
local macro_rules | `(tactic| walk_at "compareOp Eq int int") => `(tactic| k_extra "compareOp Eq int int")
theorem cut_facts {c : Int} {n : Nat} (h : 2 ≤ n) : 1 ≤ c.fmod ((n : Int) - 1) + 1 ∧ c.fmod ((n : Int) - 1) + 1 < n := by
  rw [Int.fmod_eq_emod_of_nonneg _ (by omega)]
  have h1 := Int.emod_nonneg c (b := (n : Int) - 1) (by omega)
  have h2 := Int.emod_lt_of_pos c (b := (n : Int) - 1) (by omega)
  omega
set_option maxRecDepth 100000 in
set_option maxHeartbeats 8000000 in
theorem br_tells : ∀ d, Tls 77 brT d := by
  suffices G : ∀ (w : World) (mean : ExcName → Option Value) (mg mb : Str → Option Value), ∀ d, TellsN PySem.Challenge.rw_wa0006_01.row.prog w (hd.heap_39 w.params) hd.view_39 (looseW hd.view_39 []) mean mg mb 77 brT d from fun d w mean mg mb => G w mean mg mb d
  intro w mean mg mb
  refine tellsN_of fun d IH => ?_
  obtain ⟨ps, c⟩ := d
  suffices h : (PySem.Challenge.rw_wa0006_01 = PySem.Challenge.rw_wa0006_01 → hd.heap_39 = hd.heap_39 → TellsN PySem.Challenge.rw_wa0006_01.row.prog w (hd.heap_39 w.params) hd.view_39 (looseW hd.view_39 []) mean mg mb 77 brT (ps, c)) from h rfl rfl
  k_fill
  intro _ _
  unfold TellsN
  intro dp un gd cn cs a ccd cl outer A₀ base h₀ L m news s vs Q E B F X N T hk hR hok hd hu hret
  obtain ⟨v, tk, rfl, l, us, k, rfl, hm, hp⟩ := hR
  obtain ⟨ho1, ho2, ho3⟩ : 1 ≤ ps.length ∧ ps.length ≤ 16 ∧ ∀ p ∈ ps, p.length ≤ 64 := hok
  replace hd : dp + ps.length < recursionLimit := hd
  replace hu : un + 8 * ps.length < cLine := hu
  k_with_none
  rcases ps with _ | ⟨p, _ | ⟨q, r⟩⟩
  · exact absurd ho1 (by decide)
  · cases hp with | cons hp => ?_
    rename_i t vs
    cases hp
    refine wpAny_call ?_
    k_dflt ktr_enter
    have hp1 : p.length ≤ 64 := ho3 p (by simp)
    have hA : (Str.ofString "(").cps.toList.length = 1 := by decide
    have hB : (Str.ofString ")").cps.toList.length = 1 := by decide
    k_with "call builtin:len" => (refine Lr_len (by k_asm) hm (n := 1) rfl (by decide) ?_; intro _ _)
    k_with "subscriptTail" => (refine Lr_item (by k_asm) hm (by decide) (by decide) rfl ?_)
    k_with "binaryOp Add str str" => (refine Sr_add (S_of _) rfl (by first | omega | (rw [List.length_append]; omega)) ?_; intro _ _)
    k_with "binaryOp Add str str" => (refine Sr_add rfl (S_of _) (by first | omega | (rw [List.length_append]; omega)) ?_; intro _ _)
    k_steps
    refine' hret _ [] _ _ ?e1 ?e2 ktn_ord0 rfl ?e5
    case e1 => k_asm
    case e2 => exact ktn_tl0 (by k_asm)
    case e5 => exact br_leaf
  · have hlen : us.length = r.length + 2 := hp.len
    have hr : r.length + 2 ≤ 16 := ho2
    replace hd : dp + (r.length + 2) < recursionLimit := hd
    replace hu : un + 8 * (r.length + 2) < cLine := hu
    refine wpAny_call ?_
    k_dflt ktr_enter
    k_with_none
    k_with "call builtin:len" => (refine Lr_len (by k_asm) hm (n := r.length + 2) hlen (by omega) ?_; intro _ _)
    have hcut := cut_facts (c := c) (n := r.length + 2) (by omega)
    generalize hx : c.fmod (((r.length + 2 : Nat) : Int) - 1) + 1 = x at hcut
    have hxn : x.toNat < r.length + 2 := by omega
    k_with "compareOp Eq int int" => (refine eq_int_no (by omega) ?_)
    k_with "subscriptTail" => (rw [hx]; (with_reducible rename Fr _ _ _ _ => F'); (with_reducible rename News _ _ _ _ => N'); (refine Lr_to (s := ⟨_, _, _, _, _⟩) F' N' hm (by omega) (by omega) ?_); intro _ _ _ _ l1)
    k_with "subscriptTail" => (rw [hx]; (with_reducible rename Fr _ _ _ _ => F'); (with_reducible rename News _ _ _ _ => N'); (refine Lr_from (s := ⟨_, _, _, _, _⟩) F' N' (List.mem_cons_of_mem _ hm) (by omega) (by omega) ?_); intro _ _ _ _ l1)
    have hlt : ((p :: q :: r).take x.toNat).length = x.toNat := by rw [List.length_take]; simp only [List.length_cons]; omega
    have hld : ((p :: q :: r).drop x.toNat).length = r.length + 2 - x.toNat := by rw [List.length_drop]; simp only [List.length_cons]
    have sz1 : brT.size ((p :: q :: r).take x.toNat, c.fdiv 3) < brT.size (p :: q :: r, c) := by
      show ((p :: q :: r).take x.toNat).length < r.length + 2; omega
    have sz2 : brT.size ((p :: q :: r).drop x.toNat, c.fdiv 5) < brT.size (p :: q :: r, c) := by
      show ((p :: q :: r).drop x.toNat).length < r.length + 2; omega
    have hA : (Str.ofString "(").cps.toList.length = 1 := by decide
    have hB : (Str.ofString ")").cps.toList.length = 1 := by decide
    k_with "call ref" => (k_dflt (refine' use_br_of ?k1 ?k2 ?k3 ?k4 ?k5 ?kK (IH ((p :: q :: r).drop x.toNat, c.fdiv 5) sz2) (List.Mem.head _) (hp.drop x.toNat) (by omega) ?o2 ?o3 ?kd ?ku ?_; (case k1 => k_asm); (case k2 => k_asm); (case k3 => k_asm); (case k4 => k_asm); (case k5 => k_asm); (case kK => first | exact rfl | assumption); (case o2 => omega); (case o3 => (intro z hz; exact ho3 z (by first | exact List.mem_of_mem_take hz | exact List.mem_of_mem_drop hz))); (case kd => ktr_room); (case ku => ktr_units)); intro t9 _ _ _ _ _ e9 z9; (try dsimp only); (try k_fold))
    k_with "call ref" => (k_dflt (refine' use_br_of ?k1 ?k2 ?k3 ?k4 ?k5 ?kK (IH ((p :: q :: r).take x.toNat, c.fdiv 3) sz1) (List.Mem.head _) (hp.take x.toNat) (by omega) ?o2 ?o3 ?kd ?ku ?_; (case k1 => k_asm); (case k2 => k_asm); (case k3 => k_asm); (case k4 => k_asm); (case k5 => k_asm); (case kK => first | exact rfl | assumption); (case o2 => omega); (case o3 => (intro z hz; exact ho3 z (by first | exact List.mem_of_mem_take hz | exact List.mem_of_mem_drop hz))); (case kd => ktr_room); (case ku => ktr_units)); intro t9 _ _ _ _ _ e9 z9; (try dsimp only); (try k_fold))
    k_with "binaryOp Add str str" => (refine Sr_add (S_of _) rfl (by omega) ?_; intro _ _)
    k_with "binaryOp Add str str" => (refine Sr_add rfl rfl (by rw [List.length_append]; omega) ?_; intro _ _)
    k_with "binaryOp Add str str" => (refine Sr_add rfl (S_of _) (by rw [List.length_append, List.length_append]; omega) ?_; intro _ _)
    k_steps
    refine' hret _ [] _ _ ?e1 ?e2 ktn_ord0 rfl ?e5
    case e1 => k_asm
    case e2 => exact news_drop2 (by k_asm)
    case e5 => exact br_node (by assumption) (by assumption)
end Mine
end

-- part Sg1
section
open PySem PySem.W PyProof.Rows PySem.Spec PySem.Calls
open Sem (wp)
namespace Mine
section
variable {M : Model} {A : Around} {R : GenEnd} {Y : Protocol} {n : Nat} {s₀ : Shared} {c : Code} {fs : List Frame} {s : Shared} {env : Env}
  {K : Flow → Sem Fin} {H : Value → Sem Fin} {gd : Bool → Bool} {lv : List Value → List Value}
theorem seg_plain {st : Stmt} {rest : List Stmt} (h : wpAny M (A.over c fs) (exec st env) (fun f s' => f = .next ∧ Seg M A R Y n s₀ c ((execs rest env).wrap K H gd lv) fs s') (fun _ _ => False) s) :
    Seg M A R Y n s₀ c ((execs (st :: rest) env).wrap K H gd lv) fs s :=
  seg_execs_cons (seg_wrap (wpAny_mono h (fun f s' h' => by obtain ⟨rfl, h'⟩ := h'; exact h') (fun _ _ h' => h'.elim)))
theorem seg_If {test : Expr} {body orelse : List Stmt} {pos : Pos}
    (h : wpAny M (A.over c fs) (isTrue test env (eval test env)) (fun b s' => if b = true then Seg M A R Y n s₀ c ((execs body env).wrap K H gd lv) fs s' else Seg M A R Y n s₀ c ((execs orelse env).wrap K H gd lv) fs s') (fun _ _ => False) s) :
    Seg M A R Y n s₀ c ((exec (.If test body orelse pos) env).wrap K H gd lv) fs s := by
  rw [exec_If]
  refine seg_at ?_
  show Seg M A R Y n s₀ c ((isTrue test env (eval test env) >>= fun b => if b = true then execs body env else execs orelse env).wrap K H gd lv) fs s
  rw [Sem.bind_eq_wrap', Sem.wrap_wrap]
  refine seg_wrap (wpAny_mono h (fun b s' h' => ?_) (fun _ _ h' => h'.elim))
  cases b with
  | true => simpa using h'
  | false => simpa using h'
theorem seg_For {target iter : Expr} {body orelse : List Stmt} {pos : Pos}
    (h : wpAny M (A.over c fs) (eval iter env) (fun x s₁ => wpAny M (A.over c fs) (pyIter x) (fun it s₂ => ∀ p, Seg M A R Y n s₀ (.forLoop target it body orelse env) (M.den (.forLoop target it body orelse env))
      (.ret (fun r => ((match r with | .ok f => (.pure f : Sem Flow) | .error e => .raise e).onRaise fun (x : Value) => do
        if (← field x 1) == Value.none then unsupported "frame.own-activation:exception-without-traceback"
        setFlight x env.frame).wrap K H gd lv) none (gd false) (lv []) c p [] :: fs) s₂) (fun _ _ => False) s₁) (fun _ _ => False) s)
    (hs : ∀ x, foldedSetIterable iter env x = pure x := by intro _; rfl) :
    Seg M A R Y n s₀ c ((exec (.For target iter body orelse pos) env).wrap K H gd lv) fs s := by
  rw [exec_For]
  refine seg_at ?_
  show Seg M A R Y n s₀ c ((eval iter env >>= fun x => foldedSetIterable iter env x >>= fun x => standAt iter.pos >>= fun _ => holding [x] (pyIter x) >>= fun it => runOwn (.forLoop target it body orelse env) env).wrap K H gd lv) fs s
  rw [Sem.bind_eq_wrap', Sem.wrap_wrap]
  refine seg_wrap (wpAny_mono h (fun x s₁ h₁ => ?_) (fun _ _ h' => h'.elim))
  rw [hs]
  show Seg M A R Y n s₀ c (.at iter.pos fun _ => (holding [x] (pyIter x) >>= fun it => runOwn (.forLoop target it body orelse env) env).wrap K H gd lv) fs s₁
  refine seg_at ?_
  rw [Sem.bind_eq_wrap', Sem.wrap_wrap]
  refine seg_wrap (wpAny_holding (wpAny_mono h₁ (fun it s₂ h₂ => ?_) (fun _ _ h' => h'.elim)))
  exact seg_call h₂
end
def NO : Value → Shared → Prop := fun _ _ => False
/-- the frame that a for leaves on the stack -/
def forFrame (env : Env) (K : Flow → Sem Fin) (H : Value → Sem Fin) (gd : Bool → Bool) (lv : List Value → List Value) (c : Code) (p : Pos) : Frame :=
  .ret (fun r => ((match r with | .ok f => (.pure f : Sem Flow) | .error e => .raise e).onRaise fun (x : Value) => do
        if (← field x 1) == Value.none then unsupported "frame.own-activation:exception-without-traceback"
        setFlight x env.frame).wrap K H gd lv) none (gd false) (lv []) c p []
def LK (code : Code) (f : Flow) : Sem Fin := match f with
  | .next | .cont => .pure (.again code)
  | .brk => .pure (.done .next)
  | .ret v => .pure (.done (.ret v))
def LH (env : Env) (e : Value) : Sem Fin := (do noteFrame e env; theTreesLotGoes e : Sem Unit).wrap (fun _ => .raise e) .raise id id
section
variable {prog : Program} {w : World} {A : Around} {R : GenEnd} {Y : Protocol} {n : Nat} {s₀ : Shared} {c : Code} {fs : List Frame} {s : Shared} {env : Env}
  {K : Flow → Sem Fin} {H : Value → Sem Fin} {gd : Bool → Bool} {lv : List Value → List Value} {p : Pos}
theorem seg_forLoop {target : Expr} {it : Value} {body : List Stmt}
    (h : wpAny (model prog w) (A.over (.forLoop target it body [] env) (forFrame env K H gd lv c p :: fs)) (pyNext it) (fun r s₁ => match r with
      | none => Seg (model prog w) A R Y n s₀ c (K .next) fs s₁
      | some v => wpAny (model prog w) (A.over (.forLoop target it body [] env) (forFrame env K H gd lv c p :: fs)) (letOwnedTupleGo target it v) (fun _ s₂ =>
          wpAny (model prog w) (A.over (.forLoop target it body [] env) (forFrame env K H gd lv c p :: fs)) (assign target env v) (fun _ s₃ =>
            Seg (model prog w) A R Y n s₀ (.forLoop target it body [] env) ((execs body env).wrap (LK (.forLoop target it body [] env)) (LH env) id id) (forFrame env K H gd lv c p :: fs) s₃) NO s₂) NO s₁) NO s) :
    Seg (model prog w) A R Y n s₀ (.forLoop target it body [] env) ((model prog w).den (.forLoop target it body [] env)) (forFrame env K H gd lv c p :: fs) s := by
  show Seg _ A R Y n s₀ _ ((forTurn target it body [] env).onRaise (fun x => do noteFrame x env; theTreesLotGoes x)) _ s
  rw [Sem.onRaise_eq_wrap]
  unfold forTurn
  refine seg_at ?_
  show Seg _ A R Y n s₀ _ (Sem.wrap _ _ _ _ ((pyNext it).onRaise _ >>= _)) _ s
  rw [Sem.onRaise_eq_wrap, Sem.bind_eq_wrap', Sem.wrap_wrap, Sem.wrap_wrap]
  refine seg_wrap (wpAny_mono h (fun r s₁ h₁ => ?_) (fun _ _ h' => h'.elim))
  cases r with
  | none =>
    refine seg_again rfl ?_
    exact seg_leaf (.ok .next) h₁
  | some v =>
    show Seg _ A R Y n s₀ _ (Sem.wrap _ _ _ _ (letOwnedTupleGo target it v >>= fun _ => assign target env v >>= fun _ => execs body env >>= _)) _ s₁
    rw [Sem.bind_eq_wrap', Sem.wrap_wrap]
    refine seg_wrap (wpAny_mono h₁ (fun _ s₂ h₂ => ?_) (fun _ _ h' => h'.elim))
    rw [Sem.bind_eq_wrap', Sem.wrap_wrap]
    refine seg_wrap (wpAny_mono h₂ (fun _ s₃ h₃ => ?_) (fun _ _ h' => h'.elim))
    rw [Sem.bind_eq_wrap', Sem.wrap_wrap]
    rw [Sem.wrap_congr (execs body env) _ _ (K' := LK (.forLoop target it body [] env)) (H' := LH env) (fun f => by cases f <;> rfl)
      (fun e => by first | exact Sem.bind_eq_wrap _ _ | (show (do noteFrame e env; theTreesLotGoes e : Sem Unit).bind (fun _ => .raise e) = _; rw [Sem.bind_eq_wrap]; rfl))]
    exact h₃
end
end Mine
end

-- part Sg2
section
open PySem PySem.W PyProof.Rows PySem.Spec PySem.Calls
open Sem (wp)
namespace Mine
/-- what _iter_escaped_chars yields, from an escape's state -/
def run : Bool → List Nat → List (List Nat)
  | _, [] => []
  | true, c :: r => [92, c] :: run false r
  | false, c :: r => if c = 92 then run true r else [c] :: run false r
def fin : Bool → List Nat → Bool
  | e, [] => e
  | true, _ :: r => fin false r
  | false, c :: r => if c = 92 then fin true r else fin false r
def trunc (h : Heap) (C : Nat) : Heap := ⟨h.objs.extract 0 C, h.life⟩
theorem trunc_of {h : Heap} {C b : Nat} {o : Obj} (e : (trunc h C).get? b = some o) : h.get? b = some o ∧ b < C := by
  have hb : b < (trunc h C).objs.size := Heap.lt_size e
  have hb' : b < (h.objs.extract 0 C).size := hb
  rw [Array.size_extract] at hb'
  have hbC : b < C := by omega
  refine ⟨?_, hbC⟩
  have q : (h.objs.extract 0 C)[b]? = h.objs[b]? := by
    rw [Array.getElem?_extract]
    rw [if_pos (by omega)]; simp
  unfold Heap.get? at e ⊢
  show (match h.objs[b]? with | some ⟨_, _, .freed, _⟩ => none | o => o) = some o
  rw [← q]; exact e
theorem trunc_get {h : Heap} {C b : Nat} {o : Obj} (hb : b < C) (e : h.get? b = some o) : (trunc h C).get? b = some o := by
  have hs : @LT.lt Nat _ b h.objs.size := Heap.lt_size e
  have q : (h.objs.extract 0 C)[b]? = h.objs[b]? := by
    rw [Array.getElem?_extract]
    rw [if_pos (by omega)]; simp
  unfold Heap.get? at e ⊢
  show (match (h.objs.extract 0 C)[b]? with | some ⟨_, _, .freed, _⟩ => none | o => o) = some o
  rw [q]; exact e
theorem trunc_none {h : Heap} {C b : Nat} (hb : C ≤ b) : (trunc h C).get? b = none := by
  cases q : (trunc h C).get? b with
  | none => rfl
  | some o => exact absurd (trunc_of q).2 (by omega)
theorem trunc_fr {h : Heap} {C : Addr} {m : Str → Option Value} (hn : h.Ns C m) : Fr (trunc h C) C h m :=
  ⟨hn, fun _ _ e => (trunc_of e).1, by show (h.objs.extract 0 C).size ≤ C; rw [Array.size_extract]; omega⟩
theorem trunc_stays {h₀ h : Heap} {C : Addr} (hs : h₀.objs.size ≤ C) (hk : h₀.StaysIn h) : h₀.StaysIn (trunc h C) := fun b o e => trunc_get (Nat.lt_of_lt_of_le (Heap.lt_size e) hs) (hk b o e)
end Mine
end

-- part Sg3
section
open PySem PySem.W PyProof.Rows PySem.Spec PySem.Calls
open Sem (wp)
namespace Mine
/-- the generator's statements and scope, by their place in the text -/
def gDef : Stmt := (PySem.Challenge.pw_wa0006_01.main.body[3]?).getD (.Pass default)
def gBody : List Stmt := match gDef with | .FunctionDef _ _ b _ _ _ _ _ _ _ => b | _ => []
def gScope : Scope := match gDef with | .FunctionDef _ _ _ _ _ _ sc _ _ _ => sc | _ => default
abbrev gEnv (C : Addr) : Env := envOf "_iter_escaped_chars" gScope C 28 (.ref 27)
def GSince (C a : Addr) (s₀ s : Shared) : Prop :=
  ∃ h' tk, s = { s₀ with heap := h', toks := tk } ∧ (∀ b o, b < C → s₀.heap.get? b = some o → h'.get? b = some o) ∧ (∀ o, s₀.heap.get? a = some o → h'.get? a = some o)
theorem GSince.refl {C a : Addr} {s : Shared} : GSince C a s s := ⟨s.heap, s.toks, rfl, fun _ _ _ e => e, fun _ e => e⟩
theorem GSince.trans {C a : Addr} {s₀ s₁ s₂ : Shared} (x : GSince C a s₀ s₁) (y : GSince C a s₁ s₂) : GSince C a s₀ s₂ := by
  obtain ⟨h₁, t₁, rfl, k₁, a₁⟩ := x
  obtain ⟨h₂, t₂, rfl, k₂, a₂⟩ := y
  exact ⟨h₂, t₂, rfl, fun b o hb e => k₂ b o hb (k₁ b o hb e), fun o e => a₂ o (a₁ o e)⟩
def GY (h₀ : Heap) (C a : Addr) (tks : List (List Nat)) : Protocol := fun mm s₀ v s kap =>
  (∃ T i t u k, v = .ref T ∧ C ≤ T ∧ s.heap.get? T = some (tupOf [.int i t, .str (S (tks.getD (tks.length - 1 - mm) [])) u] k)) ∧ GSince C a s₀ s ∧
    ∃ own : List (Addr × Obj), (∀ p ∈ own, C ≤ p.1 ∧ s.heap.get? p.1 = some p.2) ∧
      ∀ s'' : Shared, h₀.StaysIn s''.heap → (∀ p ∈ own, s''.heap.get? p.1 = some p.2) → kap (.send .none) s''
def GR (C a : Addr) : GenEnd := fun n s₀ r s₁ => r = .ok (.ret .none) ∧ (n = 0 ∧ GSince C a s₀ s₁)
structure GI (h₀ : Heap) (C e it a : Addr) (l : List Nat) (tx : Tok) (i : Nat) (esc : Bool) (h : Heap) : Prop where
  stays : h₀.StaysIn h
  gen : ∃ oa, h.get? a = some oa
  enum : ∃ old, IsEnum h e it i old
  iter : h.IsStrIter it "str_ascii_iterator" (S l) tx i
  ns : ∃ m, h.Ns C m ∧ m "escape" = some (.bool esc)
theorem seg_loop_ind {M : Model} {A : Around} {R : GenEnd} {Y : Protocol} {c : Code} {t : Sem Fin} {fs : List Frame} (I : Nat → Nat → Shared → Shared → Prop)
    (step : ∀ k n s₀ s, I k n s₀ s → (∀ k' n' s₀' s', k' < k → I k' n' s₀' s' → Seg M A R Y n' s₀' c t fs s') → Seg M A R Y n s₀ c t fs s) (k n : Nat) (s₀ s : Shared) (h : I k n s₀ s) : Seg M A R Y n s₀ c t fs s := by
  have all : ∀ K k n s₀ s, k < K → I k n s₀ s → Seg M A R Y n s₀ c t fs s := by
    intro K
    induction K with
    | zero => intro k _ _ _ hk; exact absurd hk (Nat.not_lt_zero _)
    | succ K ih => exact fun k n s₀ s hk hI => step k n s₀ s hI fun k' n' s₀' s' hk' hI' => ih k' n' s₀' s' (by omega) hI'
  exact all (k + 1) k n s₀ s (Nat.lt_succ_self _) h
abbrev enumObj (it : Addr) (i : Int) (old : Value) : Obj := { cls := .type "enumerate", dict := none, data := .fields #[.none, .bool false, .ref it, rawInt i, .none, old], slots := #[] }
theorem ns_shape {h : Heap} {C : Addr} {m : Str → Option Value} {x : Str} {v : Value} (hn : h.Ns C m) (hm : m x = some v) : h.Ns C (fun y => if y = x then some v else m y) := by
  have : (fun y => if y = x then some v else m y) = m := by
    funext y
    by_cases e : y = x
    · rw [if_pos e, e, hm]
    · rw [if_neg e]
  rw [this]; exact hn
section
variable {h₀ : Heap} {C e it a : Addr} {l : List Nat} {tx : Tok} {i : Nat} {esc : Bool} {h : Heap}
theorem GI.opened (G : GI h₀ C e it a l tx i esc h) (hCe : C < e) (hCi : C < it) (hCa : C < a) :
    ∃ (m : Str → Option Value) (oa io : Obj) (old : Value), Fr (trunc h C) C h (fun y => if y = Str.ofString "escape" then some (.bool esc) else m y) ∧ News (trunc h C) C h [(e, enumObj it i old), (it, io), (a, oa)] ∧ io.cls = .type "str_ascii_iterator" ∧ io.data = .fields #[.str (S l) tx, .int i 0] := by
  obtain ⟨oa, ha⟩ := G.gen
  obtain ⟨old, he⟩ := G.enum
  obtain ⟨io, hi, hc, hd⟩ := G.iter
  obtain ⟨m, hn, hm⟩ := G.ns
  refine ⟨m, oa, io, old, trunc_fr (ns_shape hn hm), ?_, hc, hd⟩
  intro p hp
  simp only [List.mem_cons, List.not_mem_nil, or_false] at hp
  rcases hp with rfl | rfl | rfl
  · exact ⟨he, Nat.ne_of_gt hCe, trunc_none (Nat.le_of_lt hCe)⟩
  · exact ⟨hi, Nat.ne_of_gt hCi, trunc_none (Nat.le_of_lt hCi)⟩
  · exact ⟨ha, Nat.ne_of_gt hCa, trunc_none (Nat.le_of_lt hCa)⟩
theorem GI.closed {hb h' : Heap} {m' : Str → Option Value} {news : List (Addr × Obj)} {io oa : Obj} {old : Value} (hs : h₀.StaysIn hb) (F : Fr hb C h' m') (N : News hb C h' news) (he : (e, enumObj it i old) ∈ news) (hi : (it, io) ∈ news) (ha : (a, oa) ∈ news)
    (hc : io.cls = .type "str_ascii_iterator") (hd : io.data = .fields #[.str (S l) tx, .int i 0]) (hm : m' (Str.ofString "escape") = some (.bool esc)) : GI h₀ C e it a l tx i esc h' :=
  ⟨fun b o q => F.keep b o (hs b o q), ⟨oa, (N _ ha).1⟩, ⟨old, (N _ he).1⟩, ⟨io, (N _ hi).1, hc, hd⟩, ⟨m', F.ns, hm⟩⟩
theorem GI.moved {h'' : Heap} (G : GI h₀ C e it a l tx i esc h) (hs : h₀.StaysIn h'') (hk : ∀ b, (b = C ∨ b = e ∨ b = it ∨ b = a) → ∀ o, h.get? b = some o → h''.get? b = some o) : GI h₀ C e it a l tx i esc h'' := by
  obtain ⟨oa, ha⟩ := G.gen
  obtain ⟨old, he⟩ := G.enum
  obtain ⟨io, hi, hc, hd⟩ := G.iter
  obtain ⟨m, hn, hm⟩ := G.ns
  exact ⟨hs, ⟨oa, hk a (.inr (.inr (.inr rfl))) _ ha⟩, ⟨old, hk e (.inr (.inl rfl)) _ he⟩, ⟨io, hk it (.inr (.inr (.inl rfl))) _ hi, hc, hd⟩, ⟨m, hn.at' fun o q => hk C (.inl rfl) o q, hm⟩⟩
theorem GI.own (G : GI h₀ C e it a l tx i esc h) (hCe : C < e) (hCi : C < it) (hCa : C < a) : ∃ own : List (Addr × Obj), (∀ p ∈ own, C ≤ p.1 ∧ h.get? p.1 = some p.2) ∧ ∀ h'' : Heap, h₀.StaysIn h'' → (∀ p ∈ own, h''.get? p.1 = some p.2) → GI h₀ C e it a l tx i esc h'' := by
  obtain ⟨oa, ha⟩ := G.gen
  obtain ⟨old, he⟩ := G.enum
  obtain ⟨io, hi, hc, hd⟩ := G.iter
  obtain ⟨m, hn, hm⟩ := G.ns
  obtain ⟨oC, es, ep, hC, hr⟩ := hn
  refine ⟨[(C, oC), (e, enumObj it i old), (it, io), (a, oa)], ?_, fun h'' hs hk => ?_⟩
  · intro p hp
    simp only [List.mem_cons, List.not_mem_nil, or_false] at hp
    rcases hp with rfl | rfl | rfl | rfl
    · exact ⟨Nat.le_refl _, hC⟩
    · exact ⟨Nat.le_of_lt hCe, he⟩
    · exact ⟨Nat.le_of_lt hCi, hi⟩
    · exact ⟨Nat.le_of_lt hCa, ha⟩
  · exact ⟨hs, ⟨oa, hk (a, oa) (by simp)⟩, ⟨old, hk (e, enumObj it i old) (by simp)⟩, ⟨io, hk (it, io) (by simp), hc, hd⟩, ⟨m, ⟨oC, es, ep, hk (C, oC) (by simp), hr⟩, hm⟩⟩
theorem since_of {s : Shared} {h' : Heap} {tk : Nat} {m' : Str → Option Value} {news : List (Addr × Obj)} {oa : Obj} (F : Fr (trunc s.heap C) C h' m') (N : News (trunc s.heap C) C h' news) (ha : (a, oa) ∈ news) (has : s.heap.get? a = some oa) :
    GSince C a s { s with heap := h', toks := tk } :=
  ⟨h', tk, rfl, fun b o hb q => F.keep b o (trunc_get hb q), fun o q => by rw [has] at q; cases q; exact (N _ ha).1⟩
end
theorem since_step {C e it a : Addr} {s₁ s₂ : Shared} {h' : Heap} {tk : Nat} (hsi : GSince C a s₁ s₂) (hk : ∀ b o, b ∉ [e, it] → s₂.heap.get? b = some o → h'.get? b = some o) (hCe : C < e) (hCi : C < it) (hae : a ≠ e) (hai : a ≠ it) :
    GSince C a s₁ { s₂ with heap := h', toks := tk } :=
  hsi.trans ⟨h', tk, rfl, fun b o hb q => hk b o (by
    simp only [List.mem_cons, List.not_mem_nil, or_false, not_or]
    exact ⟨fun q => absurd (Nat.lt_trans hb hCe) (by rw [q]; exact Nat.lt_irrefl _), fun q => absurd (Nat.lt_trans hb hCi) (by rw [q]; exact Nat.lt_irrefl _)⟩) q, fun o q => hk a o (by simp [hae, hai]) q⟩
theorem gW {prog : Program} {w : World} {A : Around} (hh : A.handled = none) (e it : Addr) (hei : e ≠ it) (l : List Nat) (tx : Tok) :
    WalksT prog w A e [e, it] [e, it] l.length (fun i vals => ∃ t x, (∃ c u, (S l).cps[i]? = some c ∧ x = Value.str ⟨#[c]⟩ u) ∧ vals = #[.int i t, x])
      (fun i h => (∃ old, IsEnum h e it i old) ∧ h.IsStrIter it "str_ascii_iterator" (S l) tx i)
      (fun i T h => (∃ x, IsEnumOut h e it ((i : Int) + 1) x T) ∧ h.IsStrIter it "str_ascii_iterator" (S l) tx (i + 1) ∧ T ≠ e ∧ T ≠ it) := by
  have h := WalksT.enumerateD (prog := prog) (w := w) (A := A) (Draws.strAscii (A := A.in1) hh it (S l) tx) e hei (by simpa using hei) (by simp)
  rw [show (S l).cps.size = l.length from S_len l] at h
  exact h
theorem drop_at {l : List Nat} {i c : Nat} (hc : (S l).cps[i]? = some c) : l.drop i = c :: l.drop (i + 1) := by
  have hc' : l[i]? = some c := by rw [← Array.getElem?_toList, S_cps] at hc; exact hc
  obtain ⟨hi, e⟩ := List.getElem?_eq_some_iff.mp hc'
  rw [List.drop_eq_getElem_cons hi, e]
theorem tok_at {tks pre r : List (List Nat)} {x : List Nat} (h : tks = pre ++ x :: r) : tks.getD (tks.length - 1 - r.length) [] = x := by
  subst h
  rw [List.length_append, List.length_cons, show pre.length + (r.length + 1) - 1 - r.length = pre.length by omega]
  simp [List.getD]
theorem gy_val {h : Heap} {C T : Addr} {i : Int} {t u : Tok} {k : Nat} {tks pre r : List (List Nat)} {x : List Nat} (hp : tks = pre ++ x :: r) (hC : C ≤ T) (hT : h.get? T = some (tupOf [.int i t, .str (S x) u] k)) :
    ∃ T' i t u k, Value.ref T = .ref T' ∧ C ≤ T' ∧ h.get? T' = some (tupOf [.int i t, .str (S (tks.getD (tks.length - 1 - r.length) [])) u] k) :=
  ⟨T, i, t, u, k, rfl, hC, by rw [tok_at hp]; exact hT⟩
theorem eq_str_yes {prog : Program} {w : World} {A : Around} {E : Value → Shared → Prop} {s : Shared} {x y : Str} {t u : Tok} {Q : Value → Shared → Prop} (e : x = y) (h : Q (.bool true) s) : wpAny (model prog w) A (compareOp .Eq (.str x t) (.str y u)) Q E s :=
  PyProof.Rows.eq_str (by rw [beq_iff_eq.mpr e]; exact h)
theorem eq_str_no {prog : Program} {w : World} {A : Around} {E : Value → Shared → Prop} {s : Shared} {x y : Str} {t u : Tok} {Q : Value → Shared → Prop} (e : x ≠ y) (h : Q (.bool false) s) : wpAny (model prog w) A (compareOp .Eq (.str x t) (.str y u)) Q E s :=
  PyProof.Rows.eq_str (by rw [beq_eq_false_iff_ne.mpr e]; exact h)
theorem bs_eq : (⟨#[92]⟩ : Str) = Str.ofString "\\" := by decide
theorem bs_ne {c : Nat} (h : c ≠ 92) : (⟨#[c]⟩ : Str) ≠ Str.ofString "\\" := by
  rw [← bs_eq]; intro e
  have : (S [c]) = S [92] := e
  rw [S_inj] at this
  exact h (List.cons.inj this).1
theorem run_true {c : Nat} {r : List Nat} : run true (c :: r) = [92, c] :: run false r := by rw [run]
theorem run_esc {r : List Nat} : run false (92 :: r) = run true r := by rw [run, if_pos rfl]
theorem run_no {c : Nat} {r : List Nat} (h : c ≠ 92) : run false (c :: r) = [c] :: run false r := by rw [run, if_neg h]
theorem g_enum {prog : Program} {w : World} {A : Around} {E : Value → Shared → Prop} {s : Shared} {hb : Heap} {C : Addr} {m : Str → Option Value} {news : List (Addr × Obj)} {l : List Nat} {t : Tok} {Q : Value → Shared → Prop}
    (F : Fr hb C s.heap m) (N : News hb C s.heap news) (hasc : ∀ c ∈ l, c < 128) (hbC : hb.objs.size ≤ C)
    (h : ∀ e it oi h', Fr hb C h' m → News hb C h' ((e, enumObj it 0 .none) :: (it, oi) :: news) → C < e → C < it → e ≠ it → (∀ p ∈ news, p.1 ≠ e ∧ p.1 ≠ it) → oi.cls = .type "str_ascii_iterator" → oi.data = .fields #[.str (S l) t, .int 0 0] → Q (.ref e) { s with heap := h' }) :
    wpAny (model prog w) A (call (.type "enumerate") [.str (S l) t]) Q E s := by
  refine call_enumerate_str fun h' he hit hsz hk => ?_
  have hC : @LT.lt Nat _ C s.heap.objs.size := F.ns.lt
  have ht : strIterType (S l) = "str_ascii_iterator" := by
    unfold strIterType
    rw [if_pos (by rw [Array.all_eq_true']; intro c hc; exact decide_eq_true (hasc c (by rw [← S_cps l]; simpa using hc)))]
  rw [ht] at hit
  obtain ⟨oi, ho, hc, hd⟩ := hit
  refine h (s.heap.objs.size + 1) s.heap.objs.size oi h' ⟨F.ns.keeps hk, fun b o e => hk b o (F.keep b o e), F.above⟩ ?_ (Nat.lt_succ_of_lt hC) hC (Nat.succ_ne_self _) (fun p hp => ⟨Nat.ne_of_lt (Nat.lt_succ_of_lt (Heap.lt_size (N p hp).1)), Nat.ne_of_lt (Heap.lt_size (N p hp).1)⟩) hc hd
  intro p hp
  rcases List.mem_cons.mp hp with rfl | hp
  · exact ⟨he, Nat.ne_of_gt (Nat.lt_succ_of_lt hC), Heap.get?_none_of_le (by show hb.objs.size ≤ s.heap.objs.size + 1; omega)⟩
  · rcases List.mem_cons.mp hp with rfl | hp
    · exact ⟨ho, Nat.ne_of_gt hC, Heap.get?_none_of_le (by show hb.objs.size ≤ s.heap.objs.size; omega)⟩
    · exact ⟨hk _ _ (N p hp).1, (N p hp).2⟩
end Mine
end

-- part Sg4
section
open PySem PySem.W PyProof.Rows PySem.Spec PySem.Calls
open Sem (wp)
namespace Mine
theorem below_ne {h₀ : Heap} {C e it b : Addr} (hC : h₀.objs.size ≤ C) (hCe : C < e) (hCi : C < it) (hb : b < h₀.objs.size) : b ∉ [e, it] := by
  have hb : @LT.lt Nat _ b C := Nat.lt_of_lt_of_le hb hC
  simp only [List.mem_cons, List.not_mem_nil, or_false, not_or]
  exact ⟨Nat.ne_of_lt (Nat.lt_trans hb hCe), Nat.ne_of_lt (Nat.lt_trans hb hCi)⟩
local macro_rules | `(tactic| walk_at "call type:enumerate") => `(tactic| k_extra "call type:enumerate")
local macro_rules | `(tactic| walk_at "assign Tuple") => `(tactic| k_extra "assign Tuple")
local macro_rules | `(tactic| walk_at "binaryOp Add str str") => `(tactic| k_extra "binaryOp Add str str")
local macro_rules | `(tactic| walk_at "compareOp Eq str str") => `(tactic| k_extra "compareOp Eq str str")
local macro_rules | `(tactic| walk_at "pyIter ref") => `(tactic| k_extra "pyIter ref")
set_option maxRecDepth 100000 in
set_option maxHeartbeats 8000000 in
theorem gen_seg {w : World} {mean : ExcName → Option Value} {mg mb : Str → Option Value} {A : Around} {h₀ : Heap} {C a : Addr} {l : List Nat} {tx : Tok} {s : Shared}
    (hh : A.handled = none) (X : (hd.heap_39 w.params).In h₀) (T : Top hd.view_39 (looseW hd.view_39 []) mean mg mb h₀) (hC : h₀.objs.size ≤ C) (hCa : C < a) (hs : h₀.StaysIn s.heap) (ha : ∃ oa, s.heap.get? a = some oa) (hasc : ∀ c ∈ l, c < 128)
    (hf : fin false l = false) (hn : s.heap.Ns C (fun y => ([(Str.ofString "addr", Value.str (S l) tx)] : List (Str × Value)).reverse.lookup y)) :
    Seg (model PySem.Challenge.rw_wa0006_01.row.prog w) A (GR C a) (GY h₀ C a (run false l)) (run false l).length s (.func gBody (gEnv C)) ((model PySem.Challenge.rw_wa0006_01.row.prog w).den (.func gBody (gEnv C))) [] s := by
  suffices h : (PySem.Challenge.rw_wa0006_01 = PySem.Challenge.rw_wa0006_01 → hd.heap_39 = hd.heap_39 → Seg (model PySem.Challenge.rw_wa0006_01.row.prog w) A (GR C a) (GY h₀ C a (run false l)) (run false l).length s (.func gBody (gEnv C)) ((model PySem.Challenge.rw_wa0006_01.row.prog w).den (.func gBody (gEnv C))) [] s) from h rfl rfl
  k_fill
  intro _ _
  refine seg_func ?_
  show Seg _ _ _ _ _ _ _ ((execs (.Assign _ _ _ :: .Assign _ _ _ :: .For _ _ _ _ _ :: .If _ _ _ _ :: []) _).wrap _ _ _ _) _ _
  have F0 := trunc_fr hn
  have X0 : (hd.heap_39 w.params).In (trunc s.heap C) := fun b o e => trunc_stays hC hs _ _ (X b o e)
  have T0 := T.keeps (trunc_stays hC hs)
  obtain ⟨oa, ha⟩ := ha
  have N0 : News (trunc s.heap C) C s.heap [(a, oa)] := fun p hp => by
    rw [List.mem_singleton.mp hp]; exact ⟨ha, Nat.ne_of_gt hCa, trunc_none (Nat.le_of_lt hCa)⟩
  generalize hgY : GY h₀ C a (run false l) = Yg
  generalize hgR : GR C a = Rg
  generalize hn0 : (run false l).length = n0
  have hbC : (trunc s.heap C).objs.size ≤ C := F0.above
  k_with_none
  refine seg_plain ?_
  k_steps
  refine seg_plain ?_
  k_steps
  refine seg_execs_cons (seg_For ?_)
  k_with "call type:enumerate" => (refine g_enum (by k_asm) (by k_asm) hasc hbC ?_; intro e it oi h9 F9 N9 hCe hCi hei hfr hoc hod)
  k_with "pyIter ref" => (refine wpAny_pyIter_enum (N9 _ (.head _)).1 ?_)
  k_steps
  have G0 : GI h₀ C e it a l tx 0 false h9 := GI.closed (trunc_stays hC hs) F9 N9 (.head _) (.tail _ (.head _)) (.tail _ (.tail _ (.head _))) hoc hod rfl
  refine seg_loop_ind (fun k n s₁ s₂ => ∃ i esc, i + k = l.length ∧ n = (run esc (l.drop i)).length ∧ (∃ pre, run false l = pre ++ run esc (l.drop i)) ∧ fin esc (l.drop i) = false ∧ GI h₀ C e it a l tx i esc s₂.heap ∧ GSince C a s₁ s₂) ?_ l.length n0 _ _
    ⟨0, false, by omega, by rw [List.drop_zero, hn0], ⟨[], by rw [List.drop_zero]; rfl⟩, by rw [List.drop_zero]; exact hf, G0, since_of F9 N9 (.tail _ (.tail _ (.head _))) ha⟩
  intro k n s₁ s₂ hI IH
  obtain ⟨i, esc, hik, hn1, ⟨pre, hpre⟩, hfi, G, hsi⟩ := hI
  refine seg_forLoop ?_
  have hO : ∀ (c c' : Code) (K : Flow → Sem Fin) (H : Value → Sem Fin) (p : Pos), (A.over c' [forFrame (gEnv C) K H id id c p]).handled = none := by
    intros
    simp [Around.over, marksOver, forFrame, Frame.marks, hh]
    rfl
  cases k with
  | zero =>
    obtain rfl : i = l.length := by omega
    refine (gW (hO _ _ _ _ _) e it hei l tx).done _ _ _ ⟨G.enum, G.iter⟩ fun h' tk hk => ?_
    obtain ⟨hae, hai⟩ := hfr (a, oa) (.head _)
    have hl0 : l.drop l.length = [] := List.drop_length ..
    rw [hl0] at hn1 hfi
    have he0 : esc = false := by cases esc <;> first | rfl | exact hfi
    subst he0
    obtain ⟨m1, hm1, hm2⟩ := G.ns
    have hCm : C ∉ [e, it] := by simp only [List.mem_cons, List.not_mem_nil, or_false, not_or]; exact ⟨Nat.ne_of_lt hCe, Nat.ne_of_lt hCi⟩
    have F1 := trunc_fr (ns_shape (hm1.at' fun o q => hk C o hCm q) hm2)
    have N1 : News (trunc h' C) C h' [] := fun p hp => by cases hp
    have X1 : (hd.heap_39 w.params).In (trunc h' C) := fun b o q => trunc_get (Nat.lt_of_lt_of_le (Heap.lt_size (X b o q)) hC) (hk b o (below_ne hC hCe hCi (Heap.lt_size (X b o q))) (G.stays _ _ (X b o q)))
    show Seg _ _ _ _ _ _ _ ((execs (.If _ _ _ _ :: []) _).wrap _ _ _ _) _ _
    refine seg_execs_cons (seg_If ?_)
    clear F9 N9 X0 T0
    have T1 := T.keeps (h' := trunc h' C) (fun b o q => trunc_get (Nat.lt_of_lt_of_le (Heap.lt_size q) hC) (hk b o (below_ne hC hCe hCi (Heap.lt_size q)) (G.stays _ _ q)))
    k_steps
    refine seg_execs_nil ?_
    refine seg_execs_nil ?_
    subst hgR
    exact seg_end (.ok (.ret .none)) ⟨rfl, hn1, since_step hsi hk hCe hCi hae hai⟩
  | succ k =>
    refine (gW (hO _ _ _ _ _) e it hei l tx).item i _ _ _ (by omega) ⟨G.enum, G.iter⟩ fun tu vals h' tk hP hTs hT hM hk => ?_
    obtain ⟨hae, hai⟩ := hfr (a, oa) (.head _)
    obtain ⟨t1, _, ⟨c, u1, hc, rfl⟩, rfl⟩ := hP
    show wpAny _ _ (letOwnedTupleGo (.Tuple _ _ _) (.ref e) (.ref tu)) _ _ _
    refine (gW (hO _ _ _ _ _) e it hei l tx).go _ _ _ i tu _ _ _ hM fun h2 hSt hk2 => ?_
    have hTe : tu ∉ [e, it] := (gW (w := w) (prog := PySem.Challenge.rw_wa0006_01.row.prog) hh e it hei l tx).apart i tu _ hM
    have hT2 : IsTup h2 tu #[Value.int i t1, Value.str ⟨#[c]⟩ u1] := by
      obtain ⟨o, ho, hc', k', hd'⟩ := hT
      exact ⟨o, hk2 tu o hTe ho, hc', k', hd'⟩
    have hkk : ∀ b o, b ∉ [e, it] → s₂.heap.get? b = some o → h2.get? b = some o := fun b o hb q => hk2 b o hb (hk b o hb q)
    have G2 : GI h₀ C e it a l tx (i + 1) esc h2 := by
      obtain ⟨oa, ha⟩ := G.gen
      obtain ⟨m, hn, hm⟩ := G.ns
      refine ⟨fun b o q => hkk b o (below_ne hC hCe hCi (Heap.lt_size q)) (G.stays b o q), ⟨oa, hkk a oa (by simp [hae, hai]) ha⟩, hSt.1, hSt.2, ⟨m, hn.at' fun o q => hkk C o ?_ q, hm⟩⟩
      simp only [List.mem_cons, List.not_mem_nil, or_false, not_or]; exact ⟨Nat.ne_of_lt hCe, Nat.ne_of_lt hCi⟩
    have S2 := since_step (tk := tk) hsi hkk hCe hCi hae hai
    clear F9 N9 X0 T0 hk2 hk hM hT hkk
    obtain ⟨m2, oa2, io2, old2, F2, N2, hic, hid⟩ := G2.opened hCe hCi hCa
    have has2 : h2.get? a = some oa2 := (N2 (a, oa2) (by simp)).1
    have X2 : (hd.heap_39 w.params).In (trunc h2 C) := fun b o q => trunc_stays hC G2.stays _ _ (X b o q)
    have T2 := T.keeps (trunc_stays hC G2.stays)
    k_with "assign Tuple" => (refine unpackN_ (by k_asm) (by k_asm) hT2 (hO _ _ _ _ _) rfl rfl ?_; intro _ _ _; dsimp only)
    k_steps
    have hdr := drop_at hc
    cases esc with
    | true =>
      rw [hdr, run_true] at hn1 hpre
      have hfi' : fin false (l.drop (i + 1)) = false := by rw [hdr] at hfi; exact hfi
      rw [List.length_cons] at hn1
      subst hn1
      show Seg _ _ _ _ _ _ _ ((execs (.If _ _ _ _ :: []) _).wrap _ _ _ _) _ _
      refine seg_execs_cons (seg_If ?_)
      k_steps
      show Seg _ _ _ _ _ _ _ ((execs (.Expr (.Yield (some _) _) _ :: .Assign _ _ _ :: []) _).wrap _ _ _ _) _ _
      refine seg_execs_cons (seg_Expr_Yield rfl rfl rfl ?_)
      k_with "binaryOp Add str str" => (refine Sr_add (a := [92]) (by decide) (b := [c]) rfl (Nat.le_of_ble_eq_true rfl) ?_; intro _ _)
      k_steps
      rename_i kap hkap
      rename Fr _ _ _ _ => F3
      rename News _ _ _ _ => N3
      subst hgY
      have G3 : GI h₀ C e it a l tx (i + 1) true _ := GI.closed (trunc_stays hC G2.stays) F3 N3 (.tail _ (.head _)) (.tail _ (.tail _ (.head _))) (.tail _ (.tail _ (.tail _ (.head _)))) hic hid rfl
      obtain ⟨own, ho1, ho2⟩ := G3.own hCe hCi hCa
      refine ⟨gy_val hpre (Nat.le_of_lt (Nat.lt_trans hCe (by assumption : @LT.lt Nat _ e _ ∧ @LT.lt Nat _ it _ ∧ @LT.lt Nat _ a _).1)) (N3 _ (.head _)).1, S2.trans (since_of F3 N3 (.tail _ (.tail _ (.tail _ (.head _)))) has2), own, ho1, fun s5 hs5 hk5 => hkap .none s5 ?_⟩
      clear F3 N3
      have G4 := ho2 s5.heap hs5 hk5
      obtain ⟨m4, oa4, io4, old4, F4, N4, hic4, hid4⟩ := G4.opened hCe hCi hCa
      have X4 : (hd.heap_39 w.params).In (trunc s5.heap C) := fun b o q => trunc_stays hC G4.stays _ _ (X b o q)
      have T4 := T.keeps (trunc_stays hC G4.stays)
      have has4 := (N4 (a, oa4) (by simp)).1
      show Seg _ _ _ _ _ _ _ ((execs (.Assign _ _ _ :: []) _).wrap _ _ _ _) _ _
      refine seg_plain ?_
      k_steps
      refine seg_execs_nil ?_
      refine seg_execs_nil ?_
      rename Fr _ _ _ _ => F6
      rename News _ _ _ _ => N6
      show Seg _ _ _ _ _ _ _ (.pure (.again _)) _ _
      refine seg_again rfl (IH k _ _ _ (Nat.lt_succ_self _) ⟨i + 1, false, by omega, rfl, ⟨pre ++ [[92, c]], by rw [hpre, List.append_assoc]; rfl⟩, hfi', GI.closed (trunc_stays hC G4.stays) F6 N6 (.head _) (.tail _ (.head _)) (.tail _ (.tail _ (.head _))) hic4 hid4 rfl, since_of F6 N6 (.tail _ (.tail _ (.head _))) has4⟩)
    | false =>
      rw [hdr] at hn1 hpre hfi
      show Seg _ _ _ _ _ _ _ ((execs (.If _ _ _ _ :: []) _).wrap _ _ _ _) _ _
      refine seg_execs_cons (seg_If ?_)
      k_steps
      show Seg _ _ _ _ _ _ _ ((execs (.If _ _ _ _ :: []) _).wrap _ _ _ _) _ _
      refine seg_execs_cons (seg_If ?_)
      by_cases h92 : c = 92
      · subst h92
        rw [run_esc] at hn1 hpre
        have hfi' : fin true (l.drop (i + 1)) = false := hfi
        k_with "compareOp Eq str str" => (refine eq_str_yes bs_eq ?_)
        k_steps
        show Seg _ _ _ _ _ _ _ ((execs (.Assign _ _ _ :: []) _).wrap _ _ _ _) _ _
        refine seg_plain ?_
        k_steps
        refine seg_execs_nil ?_
        refine seg_execs_nil ?_
        refine seg_execs_nil ?_
        rename Fr _ _ _ _ => F6
        rename News _ _ _ _ => N6
        show Seg _ _ _ _ _ _ _ (.pure (.again _)) _ _
        refine seg_again rfl (IH k _ _ _ (Nat.lt_succ_self _) ⟨i + 1, true, by omega, hn1, ⟨pre, hpre⟩, hfi', GI.closed (trunc_stays hC G2.stays) F6 N6 (.head _) (.tail _ (.head _)) (.tail _ (.tail _ (.head _))) hic hid rfl, S2.trans (since_of F6 N6 (.tail _ (.tail _ (.head _))) has2)⟩)
      · rw [run_no h92] at hn1 hpre
        have hfi' : fin false (l.drop (i + 1)) = false := by
          have : fin false (c :: l.drop (i + 1)) = fin false (l.drop (i + 1)) := by rw [fin, if_neg h92]
          rw [← this]; exact hfi
        rw [List.length_cons] at hn1
        subst hn1
        k_with "compareOp Eq str str" => (refine eq_str_no (bs_ne h92) ?_)
        k_steps
        show Seg _ _ _ _ _ _ _ ((execs (.Expr (.Yield (some _) _) _ :: []) _).wrap _ _ _ _) _ _
        refine seg_execs_cons (seg_Expr_Yield rfl rfl rfl ?_)
        k_steps
        rename_i kap hkap
        rename Fr _ _ _ _ => F3
        rename News _ _ _ _ => N3
        subst hgY
        have G3 : GI h₀ C e it a l tx (i + 1) false _ := GI.closed (trunc_stays hC G2.stays) F3 N3 (.tail _ (.head _)) (.tail _ (.tail _ (.head _))) (.tail _ (.tail _ (.tail _ (.head _)))) hic hid rfl
        obtain ⟨own, ho1, ho2⟩ := G3.own hCe hCi hCa
        refine ⟨gy_val hpre (Nat.le_of_lt (Nat.lt_trans hCe (by assumption : @LT.lt Nat _ e _ ∧ @LT.lt Nat _ it _ ∧ @LT.lt Nat _ a _).1)) (N3 _ (.head _)).1, S2.trans (since_of F3 N3 (.tail _ (.tail _ (.tail _ (.head _)))) has2), own, ho1, fun s5 hs5 hk5 => hkap .none s5 ?_⟩
        clear F3 N3
        have G4 := ho2 s5.heap hs5 hk5
        refine seg_execs_nil ?_
        refine seg_execs_nil ?_
        refine seg_execs_nil ?_
        show Seg _ _ _ _ _ _ _ (.pure (.again _)) _ _
        exact seg_again rfl (IH k _ _ _ (Nat.lt_succ_self _) ⟨i + 1, false, by omega, rfl, ⟨pre ++ [[c]], by rw [hpre, List.append_assoc]; rfl⟩, hfi', G4, GSince.refl⟩)
end Mine
end

-- part Ck1
section
open PySem PySem.W PyProof.Rows PySem.Spec PySem.Calls
open Sem (wp)
namespace Mine
set_option maxRecDepth 100000 in
set_option maxHeartbeats 8000000 in
theorem gen_call {w : World} {mean : ExcName → Option Value} {mg mb : Str → Option Value} {A : Around} {E : Value → Shared → Prop} {s : Shared} {h₀ : Heap} {L : Addr} {m : Str → Option Value} {news : List (Addr × Obj)} {l : List Nat} {tx : Tok} {Q : Value → Shared → Prop}
    (F : Fr h₀ L s.heap m) (X : (hd.heap_39 w.params).In h₀) (N : News h₀ L s.heap news) (T : Top hd.view_39 (looseW hd.view_39 []) mean mg mb h₀) (hroom : A.depth < recursionLimit)
    (ret : ∀ C a nm qn h' tk', Fr h₀ L h' m → News h₀ L h' ((a, { cls := .type "generator", data := .fields #[.int s.gens.size 0, nm, qn] }) :: news) → L < C → C < a → h₀.objs.size ≤ C →
      h'.Ns C (fun y => ([(Str.ofString "addr", Value.str (S l) tx)] : List (Str × Value)).reverse.lookup y) → (∀ p ∈ news, p.1 < C) →
      Q (.ref a) { s with heap := h', toks := tk', gens := s.gens.push (.fresh (.func gBody (gEnv C))) }) :
    wpAny (model PySem.Challenge.rw_wa0006_01.row.prog w) A (call (.ref 28) [.str (S l) tx]) Q E s := by
  refine wpAny_call ?_
  refine codeAny_call_generator hroom (F.keep _ _ (X 28 _ rfl)) rfl rfl rfl rfl (codeRec_of (X.keeps F.keep) rfl) ?_
  refine wpAny_of_eq (a := [(Str.ofString "addr", Value.str (S l) tx)]) rfl ?_
  refine wpAny_newFunctionEnv (by decide) (locs rfl) (fun h₁ hns hsb => ?_) rfl
  have hk1 : ∀ b o, s.heap.get? b = some o → h₁.get? b = some o := fun b o e => hsb.extBut b o (Nat.ne_of_lt (Heap.lt_size e)) (Heap.get?_push_of_some _ e)
  refine ⟨(T.nolimit.keeps F.keep).fresh _ hsb, ?_⟩
  have hL : @LT.lt Nat _ L s.heap.objs.size := F.ns.lt
  have hC1 : @LT.lt Nat _ s.heap.objs.size h₁.objs.size := hns.lt
  have hk : ∀ (ob : Obj) b o, s.heap.get? b = some o → (h₁.push ob).get? b = some o := fun ob b o e => Heap.get?_push_of_some _ (hk1 b o e)
  have hsz : h₀.objs.size ≤ s.heap.objs.size := Nat.le_trans F.above (Nat.le_of_lt hL)
  show Q (.ref h₁.objs.size) _
  refine ret s.heap.objs.size h₁.objs.size (.str (Str.ofString "_iter_escaped_chars") (s.toks + 1)) (.str (Str.ofString "_iter_escaped_chars") (s.toks + 1 + 1)) _ _ ⟨F.ns.keeps (hk _), fun b o e => hk _ b o (F.keep b o e), F.above⟩ ?_ hL hC1 hsz (hns.push _) fun p hp => Heap.lt_size (N p hp).1
  intro p hp
  rcases List.mem_cons.mp hp with e | hp
  · rw [e]
    exact ⟨Heap.get?_push_size _ rfl, Nat.ne_of_gt (Nat.lt_trans hL hC1), Heap.get?_none_of_le (Nat.le_trans hsz (Nat.le_of_lt hC1))⟩
  · exact ⟨hk _ _ _ (N p hp).1, (N p hp).2⟩
end Mine
end

-- part Ck2
section
open PySem PySem.W PyProof.Rows PySem.Spec PySem.Calls
open Sem (wp)
namespace Mine
abbrev genObj (g : Nat) (nm qn : Value) : Obj := { cls := .type "generator", data := .fields #[.int g 0, nm, qn] }
theorem genObj_is {h : Heap} {a : Addr} {g : Nat} {nm qn : Value} (e : h.get? a = some (genObj g nm qn)) : h.IsGen a g := ⟨_, nm, qn, e, rfl, rfl, rfl⟩
theorem letGo_gen {M : Model} {A : Around} {E : Value → Shared → Prop} {s : Shared} {elts : List Expr} {k : Nat} {pos : Pos} {a T : Addr} {g : Nat} {nm qn : Value} {Q : Unit → Shared → Prop} (e : s.heap.get? a = some (genObj g nm qn)) (h : Q () s) :
    wpAny M A (letOwnedTupleGo (.Tuple elts k pos) (.ref a) (.ref T)) Q E s := by
  unfold letOwnedTupleGo
  show wpAny M A (load a >>= _) Q E s
  refine wpAny_bind (wpAny_load e ?_)
  show wpAny M A (if (_ : Bool) = true then _ else _) Q E s
  have : (["enumerate", "zip", "dict_itemiterator", "dict_reverseitemiterator", "odict_iterator", "itertools.zip_longest", "itertools.pairwise"].contains "generator" && (#[Value.int g 0, nm, qn] : Array Value)[0]? == some (rawInt T)) = false := by
    rw [show (["enumerate", "zip", "dict_itemiterator", "dict_reverseitemiterator", "odict_iterator", "itertools.zip_longest", "itertools.pairwise"].contains "generator") = false from by decide]; rfl
  rw [this, if_neg Bool.false_ne_true]
  exact wpAny_pure h
theorem set_push {G : Array GenState} {x y : GenState} : (G.push x).setIfInBounds G.size y = G.push y := by
  obtain ⟨l⟩ := G
  simp [List.set_append]
def GfEnd (s : Shared) (h₀ : Heap) (L : Addr) (g : Array GenState) (led : List (Addr × Obj)) (J : (Str → Option Value) → Prop) (f : Flow) (s₃ : Shared) : Prop :=
  f = .next ∧ ∃ h' tk' m'', s₃ = { s with heap := h', toks := tk', gens := g } ∧ Fr h₀ L h' m'' ∧ News h₀ L h' led ∧ J m''
section
variable {w : World} {A : Around} {s : Shared} {h₀ : Heap} {L C a : Addr} {m : Str → Option Value} {news : List (Addr × Obj)} {toks : List (List Nat)} {nm qn : Value} {env : Env} {elts : List Expr} {k : Nat} {pp : Pos} {body : List Stmt}
  {R : Result → Shared → Prop} {J : Nat → (Str → Option Value) → Prop} {G : Array GenState} {gs : GenState}
theorem gen_for (hh : A.handled = none) (hroom : A.depth < recursionLimit) (hlim : h₀.NoLimit) (hLC : L < C) (hCa : C < a) (hC0 : h₀.objs.size ≤ C) (hnC : ∀ p ∈ news, p.1 < C)
    (turn : ∀ j tok m' h tk gs' own T i t u k', toks[j]? = some tok → J j m' → Fr h₀ L h m' → News h₀ L h ((T, tupOf [.int i t, .str (S tok) u] k') :: (own ++ (a, genObj G.size nm qn) :: news)) →
      wpAny (model PySem.Challenge.rw_wa0006_01.row.prog w) A (assign (.Tuple elts k pp) env (.ref T)) (fun _ s₂ => wpAny (model PySem.Challenge.rw_wa0006_01.row.prog w) A (execs body env) (GfEnd s h₀ L (G.push gs') (own ++ (a, genObj G.size nm qn) :: news) (J (j + 1))) NO s₂) NO { s with heap := h, toks := tk, gens := G.push gs' })
    (done : ∀ m' h tk, J toks.length m' → Fr h₀ L h m' → News h₀ L h news → R (.ok .next) { s with heap := h, toks := tk, gens := G.push .finished })
    (F : Fr h₀ L s.heap m) (N : News h₀ L s.heap ((a, genObj G.size nm qn) :: news)) (hJ : J 0 m) (hs : s.gens = G.push gs)
    (hgo : ∀ s'' : Shared, h₀.StaysIn s''.heap → (s''.heap.get? a = some (genObj G.size nm qn)) → (∀ o, s.heap.get? C = some o → s''.heap.get? C = some o) → gs.Goes (model PySem.Challenge.rw_wa0006_01.row.prog w) A.in1 (GR C a) (GY h₀ C a toks) toks.length (.send .none) s'')
    (hCo : ∃ o, s.heap.get? C = some o) :
    codeAny (model PySem.Challenge.rw_wa0006_01.row.prog w) A (.forLoop (.Tuple elts k pp) (.ref a) body [] env) R s := by
  obtain ⟨oC, hoC⟩ := hCo
  refine codeAny_forLoop_any (fun k' s' => ∃ j gs' own m' h tk, j + k' = toks.length ∧ s' = { s with heap := h, toks := tk, gens := G.push gs' } ∧ J j m' ∧ Fr h₀ L h m' ∧ News h₀ L h (own ++ (a, genObj G.size nm qn) :: news) ∧
      (∀ s'' : Shared, h₀.StaysIn s''.heap → (s''.heap.get? a = some (genObj G.size nm qn)) → (∀ p ∈ own, s''.heap.get? p.1 = some p.2) → gs'.Goes (model PySem.Challenge.rw_wa0006_01.row.prog w) A.in1 (GR C a) (GY h₀ C a toks) k' (.send .none) s'')) ?_ toks.length
    ⟨0, gs, [(C, oC)], m, s.heap, s.toks, by omega, by rw [← hs], hJ, F, ?_, fun s'' h1 h2 h3 => hgo s'' h1 h2 fun o ho => by rw [hoC] at ho; cases ho; exact h3 (C, oC) (.head _)⟩
  · intro n s' hI
    obtain ⟨j, gs', own, m', h, tk, hjn, rfl, hJ', F', N', hgo'⟩ := hI
    have hst : h₀.StaysIn h := fun b o e => F'.keep b o e
    have hga : h.get? a = some (genObj G.size nm qn) := (N' (a, genObj G.size nm qn) (by simp)).1
    have hset : ∀ (s' : Shared) (x y : GenState), s'.gens = G.push x → s'.setGen G.size y = { s' with gens := G.push y } := by
      intro s' x y e
      show ({ s' with gens := s'.gens.setIfInBounds G.size y } : Shared) = _
      rw [e, set_push]
    have hget : (G.push gs')[G.size]? = some gs' := by simp
    have e1 := hset { s with heap := h, toks := tk, gens := G.push gs' } gs' .running rfl
    cases n with
    | zero =>
      refine wpAny_pyNext_gen (P := fun n s₀ s₁ => n = 0 ∧ GSince C a s₀ s₁) (Y := GY h₀ C a toks) (n := 0) (gs := gs') hh (hlim.keeps hst) hroom (genObj_is hga) hget (hgo' _ hst hga fun p hp => (N' p (by simp [hp])).1) (fun v s₁ gs₂ hY => ?_) (fun s₁ hP h' hk => ?_)
      · exfalso
        obtain ⟨_, ⟨h₁, t₁, rfl, hb, ha⟩, own', ho1, ho2⟩ := hY
        exact ho2 _ (fun b o e => hb b o (Nat.lt_of_lt_of_le (Heap.lt_size e) hC0) (hst b o e)) fun p hp => (ho1 p hp).2
      · obtain ⟨_, h₁, t₁, rfl, hb, ha⟩ := hP
        replace hb : ∀ b o, b < C → h.get? b = some o → h₁.get? b = some o := hb
        replace ha : ∀ o, h.get? a = some o → h₁.get? a = some o := ha
        refine wpAny_execs_nil ?_
        have hjl : j = toks.length := by omega
        subst hjl
        rw [e1]
        rw [hset { s with heap := h₁, toks := t₁, gens := G.push .running } .running .finished rfl]
        refine done m' h' t₁ hJ' ⟨F'.ns.at' fun o e => hk _ _ (hb _ _ hLC e), fun b o e => hk _ _ (hb _ _ (Nat.lt_of_lt_of_le (Heap.lt_size e) hC0) (hst b o e)), F'.above⟩ ?_
        intro p hp
        have := N' p (by simp [hp])
        exact ⟨hk _ _ (hb _ _ (hnC p hp) this.1), this.2⟩
    | succ n =>
      refine wpAny_pyNext_gen (P := fun n s₀ s₁ => n = 0 ∧ GSince C a s₀ s₁) (Y := GY h₀ C a toks) (n := n + 1) (gs := gs') hh (hlim.keeps hst) hroom (genObj_is hga) hget (hgo' _ hst hga fun p hp => (N' p (by simp [hp])).1) (fun v s₁ gs₂ hY => ?_) (fun s₁ hP h' hk => ?_)
      · obtain ⟨⟨T, i, t, u, k', rfl, hCT, hT⟩, ⟨h₁, t₁, rfl, hb, ha⟩, own', ho1, ho2⟩ := hY
        replace hb : ∀ b o, b < C → h.get? b = some o → h₁.get? b = some o := hb
        replace ha : ∀ o, h.get? a = some o → h₁.get? a = some o := ha
        replace ho1 : ∀ p ∈ own', C ≤ p.1 ∧ h₁.get? p.1 = some p.2 := ho1
        replace hT : h₁.get? T = some (tupOf [.int i t, .str (S (toks.getD (toks.length - 1 - n) [])) u] k') := hT
        rw [e1, hset { s with heap := h₁, toks := t₁, gens := G.push .running } .running gs₂ rfl]
        have F1 : Fr h₀ L h₁ m' := ⟨F'.ns.at' fun o e => hb _ _ hLC e, fun b o e => hb _ _ (Nat.lt_of_lt_of_le (Heap.lt_size e) hC0) (hst b o e), F'.above⟩
        have hge : ∀ b o, C ≤ b → h₁.get? b = some o → h₁.get? b = some o ∧ b ≠ L ∧ h₀.get? b = none := fun b o hb e => ⟨e, Nat.ne_of_gt (Nat.lt_of_lt_of_le hLC hb), Heap.get?_none_of_le (Nat.le_trans hC0 hb)⟩
        have N1 : News h₀ L h₁ (own' ++ (a, genObj G.size nm qn) :: news) := by
          intro p hp
          rcases List.mem_append.mp hp with hp | hp
          · exact hge _ _ (ho1 p hp).1 (ho1 p hp).2
          · rcases List.mem_cons.mp hp with rfl | hp
            · exact hge _ _ (Nat.le_of_lt hCa) (ha _ hga)
            · have := N' p (by simp [hp])
              exact ⟨hb _ _ (hnC p hp) this.1, this.2⟩
        have N2 : News h₀ L h₁ ((T, tupOf [.int i t, .str (S (toks.getD (toks.length - 1 - n) [])) u] k') :: (own' ++ (a, genObj G.size nm qn) :: news)) := by
          intro p hp
          rcases List.mem_cons.mp hp with rfl | hp
          · exact hge _ _ hCT hT
          · exact N1 p hp
        refine letGo_gen (N1 (a, genObj G.size nm qn) (by simp)).1 ?_
        have hj : toks[j]? = some (toks.getD (toks.length - 1 - n) []) := by
          have hlt : j < toks.length := by omega
          rw [show toks.length - 1 - n = j by omega]
          simp [List.getD, hlt]
        refine wpAny_mono (turn j _ m' h₁ t₁ gs₂ own' T i t u k' hj hJ' F1 N2) (fun _ s₂ h2 => ?_) (fun _ _ e => e.elim)
        refine wpAny_mono h2 (fun f s₃ h3 => ?_) (fun _ _ e => e.elim)
        obtain ⟨rfl, h', tk', m'', rfl, F3, N3, hJ3⟩ := h3
        refine ⟨n, Nat.lt_succ_self _, j + 1, gs₂, own', m'', h', tk', by omega, rfl, hJ3, F3, N3, fun s'' q1 q2 q3 => ?_⟩
        exact ho2 s'' q1 q3
      · exact absurd hP.1 (Nat.succ_ne_zero _)
  · intro p hp
    rcases List.mem_cons.mp hp with rfl | hp
    · exact ⟨hoC, Nat.ne_of_gt hLC, Heap.get?_none_of_le hC0⟩
    · exact N p hp
end
end Mine
end

-- part Ck3
section
open PySem PySem.W PyProof.Rows PySem.Spec PySem.Calls
open Sem (wp)
namespace Mine
def dp1 (d : Int) (tok : List Nat) : Int := if tok = [40] then d + 1 else if tok = [41] then d - 1 else d
def dep (toks : List (List Nat)) (j : Nat) : Int := (toks.take j).foldl dp1 0
theorem dep_succ {toks : List (List Nat)} {j : Nat} {tok : List Nat} (h : toks[j]? = some tok) : dep toks (j + 1) = dp1 (dep toks j) tok := by
  unfold dep
  rw [List.take_add_one, h]
  simp
theorem lp_eq : S [40] = Str.ofString "(" := by decide
theorem rp_eq : S [41] = Str.ofString ")" := by decide
theorem q_eq : (⟨#[34]⟩ : Str) = Str.ofString "\"" := by decide
theorem lp_ne {l : List Nat} (h : l ≠ [40]) : S l ≠ Str.ofString "(" := by rw [← lp_eq]; intro e; exact h (S_inj.mp e)
theorem rp_ne {l : List Nat} (h : l ≠ [41]) : S l ≠ Str.ofString ")" := by rw [← rp_eq]; intro e; exact h (S_inj.mp e)
theorem notin_quote {prog : Program} {w : World} {A : Around} {E : Value → Shared → Prop} {s : Shared} {l : List Nat} {t u : Tok} {Q : Value → Shared → Prop} (hq : 34 ∉ l) (h : Q (.bool true) s) :
    wpAny (model prog w) A (compareOp .NotIn (.str (Str.ofString "\"") u) (.str (S l) t)) Q E s := by
  refine PyProof.Rows.notIn_str ?_
  rw [← q_eq, StrLaws.found_one, S_cps, decide_eq_false hq]
  exact h
theorem fr_shape {h₀ h : Heap} {L : Addr} {m : Str → Option Value} {x : Str} {v : Value} (F : Fr h₀ L h m) (hm : m x = some v) : Fr h₀ L h (fun y => if y = x then some v else m y) := ⟨ns_shape F.ns hm, F.keep, F.above⟩
theorem gf_end {s : Shared} {h₀ : Heap} {L : Addr} {g : Array GenState} {x : Addr × Obj} {led : List (Addr × Obj)} {J : (Str → Option Value) → Prop} {h' : Heap} {tk' : Nat} {m'' : Str → Option Value} (F : Fr h₀ L h' m'') (N : News h₀ L h' (x :: led)) (hJ : J m'') :
    GfEnd s h₀ L g led J .next { s with heap := h', toks := tk', gens := g } := ⟨rfl, h', tk', m'', rfl, F, fun p hp => N p (.tail _ hp), hJ⟩
theorem gf_at {d d' : Int} {t : Tok} {o : Option Value} (h : d = d') (e : o = some (.int d' t)) : ∃ t, o = some (.int d t) := ⟨t, by rw [h, e]⟩
structure ChkOk (l : List Nat) : Prop where
  asc : ∀ c ∈ l, c < 128
  quo : 34 ∉ l
  len : l.length ≤ 4096
  fin : fin false l = false
  dep : ∀ j, j ≤ (run false l).length → 0 ≤ dep (run false l) j
local macro_rules | `(tactic| walk_at "call ref") => `(tactic| k_extra "call ref")
local macro_rules | `(tactic| walk_at "pyIter ref") => `(tactic| k_extra "pyIter ref")
local macro_rules | `(tactic| walk_at "exec For") => `(tactic| k_extra "exec For")
local macro_rules | `(tactic| walk_at "exec For Tuple Call cons nil") => `(tactic| k_extra "exec For")
local macro_rules | `(tactic| walk_at "compareOp NotIn") => `(tactic| k_extra "compareOp NotIn")
local macro_rules | `(tactic| walk_at "compareOp NotIn str str") => `(tactic| k_extra "compareOp NotIn")
local macro_rules | `(tactic| walk_at "compareOp Eq str str") => `(tactic| k_extra "compareOp Eq str str")
set_option maxRecDepth 100000 in
set_option maxHeartbeats 8000000 in
theorem use_chk {w : World} {mean : ExcName → Option Value} {mg mb : Str → Option Value} {dp un : Nat} {gd : Option (List Code)} {cn : Str} {cs : Scope} {a : Addr} {ccd : Value} {cl : List (Str × Addr)} {outer : List Env} {A₀ : Around} {base h₀ : Heap} {L : Addr} {m : Str → Option Value} {news : List (Addr × Obj)} {s : Shared} {Q E : Value → Shared → Prop}
    (B : Below A₀ base outer h₀) (F : Fr h₀ L s.heap m) (X : (hd.heap_39 w.params).In h₀) (N : News h₀ L s.heap news) (T : Top hd.view_39 (looseW hd.view_39 []) mean mg mb h₀) (hk : cs.kind = .function)
    {l : List Nat} {tx : Tok} (ho : ChkOk l) (hdp : dp + 16 < recursionLimit) (hu : un + 8 * 16 < cLine)
    (hret : ∀ h' tk', Fr h₀ L h' m → News h₀ L h' news → Q (.bool (dep (run false l) (run false l).length == 0)) { s with heap := h', toks := tk', gens := s.gens.push .finished }) :
    wpAny (model PySem.Challenge.rw_wa0006_01.row.prog w) (ktrTop dp un gd cn cs L a ccd cl outer) (call (.ref 42) [.str (S l) tx]) Q E s := by
  suffices h : (PySem.Challenge.rw_wa0006_01 = PySem.Challenge.rw_wa0006_01 → hd.heap_39 = hd.heap_39 → wpAny (model PySem.Challenge.rw_wa0006_01.row.prog w) (ktrTop dp un gd cn cs L a ccd cl outer) (call (.ref 42) [.str (S l) tx]) Q E s) from h rfl rfl
  k_fill
  intro _ _
  k_with_none
  refine wpAny_call ?_
  k_dflt ktr_enter
  k_with "call ref" => (refine wpAny_call ?_; k_dflt (refine' code_def ?k1 ?k2 ?k3 ?k4 ?k5 ?kA ?kF ?kK ?k6 ?k7 ?k8 ?k9 ?kB ?_ ?c2 ?c3 ?c4 ?c5; (case kA => exact rfl); (case kF => exact rfl); (case kK => first | exact rfl | assumption); (case k1 => k_asm); (case k2 => k_asm); (case k3 => k_asm); (case k4 => k_asm); (case k5 => k_asm); (case k6 => k_is); (case k7 => k_is); (case k8 => ktr_room); (case k9 => exact BindsTo.of_eq rfl); (case c5 => decide); (case kB => exact locs rfl); (case c2 => exact rfl); (case c3 => exact rfl); (case c4 => exact rfl); k_whole; intro g' L' h' FG' F' N' B' X' T'; (try dsimp only); (try k_fold)))
  k_with "compareOp NotIn" => (refine notin_quote ho.quo ?_)
  k_with "exec For" => (refine wpAny_For ?_)
  k_steps
  rename Top _ _ _ _ _ _ => T1
  refine gen_call (by k_asm) (by k_asm) (by k_asm) T1 (by ktr_room) fun C ga nm qn h1 tk1 F1 N1 hLC hCa hC0 hns hnC => ?_
  refine wpAny_pyIter_gen (genObj_is (N1 _ (.head _)).1) ?_
  refine gen_for (J := fun j m' => ∃ t, m' (Str.ofString "opens") = some (.int (dep (run false l) j) t)) (G := s.gens) (toks := run false l) rfl (by ktr_room) T1.nolimit hLC hCa hC0 hnC ?turn ?done F1 N1 ⟨_, rfl⟩ rfl ?hgo ?hCo
  case hCo => obtain ⟨o, _, _, ho, _⟩ := hns; exact ⟨o, ho⟩
  case hgo =>
    intro s2 h2 h3 h4
    exact ⟨rfl, gen_seg rfl (by k_asm) T1 hC0 hCa h2 ⟨_, h3⟩ ho.asc ho.fin (hns.at' h4)⟩
  case done =>
    intro m' h tk hJ F2 N2
    obtain ⟨t9, hm9⟩ := hJ
    have F3 := fr_shape F2 hm9
    clear F2 F1 N1
    dsimp only
    k_steps
    exact hret _ _ (by k_asm) (by k_asm)
  case turn =>
    intro j tok m' h tk gs' own T i t u k' hj hJ F2 N2
    obtain ⟨t9, hm9⟩ := hJ
    have F3 := fr_shape F2 hm9
    clear F2 F1 N1
    have hnn := ho.dep (j + 1) (List.getElem?_eq_some_iff.mp hj).1
    rw [dep_succ hj] at hnn
    have hds := dep_succ hj
    by_cases h40 : tok = [40]
    · subst h40
      k_with "compareOp Eq str str" => (refine eq_str_yes lp_eq ?_)
      k_steps
      exact gf_end (by k_asm) (by k_asm) (gf_at hds rfl)
    · by_cases h41 : tok = [41]
      · subst h41
        have hnn' : 0 ≤ dep (run false l) j - 1 := hnn
        k_with "compareOp Eq str str" => first | (refine eq_str_yes rp_eq ?_) | (refine eq_str_no (lp_ne h40) ?_)
        k_steps
        exact gf_end (by k_asm) (by k_asm) (gf_at hds rfl)
      · k_with "compareOp Eq str str" => first | (refine eq_str_no (rp_ne h41) ?_) | (refine eq_str_no (lp_ne h40) ?_)
        k_steps
        exact gf_end (by k_asm) (by k_asm) (gf_at hds (by show _ = some (Value.int (if tok = [40] then _ else if tok = [41] then _ else _) _); rw [if_neg h40, if_neg h41]; rfl))
end Mine
end

-- part Pr
section
open PySem PySem.W PyProof.Rows PySem.Spec PySem.Calls
namespace Mine
def stp (s : Bool × Int) (c : Nat) : Bool × Int :=
  if s.1 = true then (false, s.2) else if c = 92 then (true, s.2) else if c = 40 then (false, s.2 + 1) else if c = 41 then (false, s.2 - 1) else (false, s.2)
def scan (s : Bool × Int) (l : List Nat) : Bool × Int := l.foldl stp s
theorem scan_cons (s : Bool × Int) (c : Nat) (l : List Nat) : scan s (c :: l) = scan (stp s c) l := rfl
theorem scan_app (s : Bool × Int) (a b : List Nat) : scan s (a ++ b) = scan (scan s a) b := List.foldl_append
theorem stp_true (d : Int) (c : Nat) : stp (true, d) c = (false, d) := rfl
theorem stp_bs (d : Int) : stp (false, d) 92 = (true, d) := rfl
theorem stp_no (d : Int) {c : Nat} (h : c ≠ 92) : stp (false, d) c = (false, dp1 d [c]) := by
  unfold stp dp1
  simp only [Bool.false_eq_true, if_false, if_neg h, List.cons.injEq, and_true]
  split
  · rfl
  · split <;> rfl
theorem dp1_two (d : Int) (c : Nat) : dp1 d [92, c] = d := by unfold dp1; simp
theorem run_scan : ∀ (l : List Nat) (e : Bool) (d : Int), (run e l).foldl dp1 d = (scan (e, d) l).2
  | [], e, d => by cases e <;> rfl
  | c :: r, true, d => by rw [run_true, List.foldl_cons, dp1_two, run_scan r, scan_cons, stp_true]
  | c :: r, false, d => by
    by_cases h : c = 92
    · subst h; rw [run_esc, run_scan r, scan_cons, stp_bs]
    · rw [run_no h, List.foldl_cons, run_scan r, scan_cons, stp_no d h]
theorem fin_scan : ∀ (l : List Nat) (e : Bool) (d : Int), fin e l = (scan (e, d) l).1
  | [], e, d => by cases e <;> rfl
  | c :: r, true, d => by rw [scan_cons, stp_true, ← fin_scan r]; rfl
  | c :: r, false, d => by
    by_cases h : c = 92
    · subst h; rw [scan_cons, stp_bs, ← fin_scan r]; rw [fin, if_pos rfl]
    · rw [scan_cons, stp_no d h, ← fin_scan r]; rw [fin, if_neg h]
theorem run_pre : ∀ (l : List Nat) (e : Bool) (d : Int) (j : Nat), ∃ i, i ≤ l.length ∧ ((run e l).take j).foldl dp1 d = (scan (e, d) (l.take i)).2
  | l, e, d, 0 => ⟨0, Nat.zero_le _, by rw [List.take_zero, List.take_zero]; rfl⟩
  | [], e, d, j + 1 => ⟨0, Nat.zero_le _, by cases e <;> rfl⟩
  | c :: r, true, d, j + 1 => by
    obtain ⟨i, hi, e⟩ := run_pre r false d j
    refine ⟨i + 1, Nat.succ_le_succ hi, ?_⟩
    rw [run_true, List.take_succ_cons, List.foldl_cons, dp1_two, e, List.take_succ_cons, scan_cons, stp_true]
  | c :: r, false, d, j + 1 => by
    by_cases h : c = 92
    · subst h
      obtain ⟨i, hi, e⟩ := run_pre r true d (j + 1)
      exact ⟨i + 1, Nat.succ_le_succ hi, by rw [run_esc, e, List.take_succ_cons, scan_cons, stp_bs]⟩
    · obtain ⟨i, hi, e⟩ := run_pre r false (dp1 d [c]) j
      exact ⟨i + 1, Nat.succ_le_succ hi, by rw [run_no h, List.take_succ_cons, List.foldl_cons, e, List.take_succ_cons, scan_cons, stp_no d h]⟩
termination_by l _ _ j => (l.length, j)
theorem dep_all (l : List Nat) : dep (run false l) (run false l).length = (scan (false, 0) l).2 := by
  unfold dep; rw [List.take_length, run_scan]
/-- a part: four letters, and nothing or an escaped bracket -/
def leafOk (p : List Nat) : Prop := ∃ a b c d sfx, p = a :: b :: c :: d :: sfx ∧ (65 ≤ a ∧ a ≤ 80) ∧ (65 ≤ b ∧ b ≤ 80) ∧ (65 ≤ c ∧ c ≤ 80) ∧ (65 ≤ d ∧ d ≤ 80) ∧ (sfx = [] ∨ sfx = [92, 40] ∨ sfx = [92, 41])
def okB (t : Br) : Prop := ∀ p ∈ t.leaves, leafOk p
theorem stp_letter {d : Int} {c : Nat} (h : 65 ≤ c ∧ c ≤ 80) : stp (false, d) c = (false, d) := by
  rw [stp_no d (by omega)]
  unfold dp1
  simp only [List.cons.injEq, and_true]
  rw [if_neg (by omega), if_neg (by omega)]
theorem leaf_scan {p : List Nat} (h : leafOk p) (d : Int) : scan (false, d) p = (false, d) ∧ ∀ i, (scan (false, d) (p.take i)).2 = d := by
  obtain ⟨a, b, c, e, sfx, rfl, ha, hb, hc, he, hs⟩ := h
  refine ⟨?_, fun i => ?_⟩
  · rw [scan_cons, stp_letter ha, scan_cons, stp_letter hb, scan_cons, stp_letter hc, scan_cons, stp_letter he]
    rcases hs with rfl | rfl | rfl <;> rfl
  · match i with
    | 0 => rfl
    | 1 => show (scan (stp (false, d) a) []).2 = d; rw [stp_letter ha]; rfl
    | 2 => show (scan (stp (stp (false, d) a) b) []).2 = d; rw [stp_letter ha, stp_letter hb]; rfl
    | 3 => show (scan (stp (stp (stp (false, d) a) b) c) []).2 = d; rw [stp_letter ha, stp_letter hb, stp_letter hc]; rfl
    | i + 4 =>
      show (scan (stp (stp (stp (stp (false, d) a) b) c) e) (sfx.take i)).2 = d
      rw [stp_letter ha, stp_letter hb, stp_letter hc, stp_letter he]
      rcases hs with rfl | rfl | rfl
      · rw [List.take_nil]; rfl
      · match i with
        | 0 => rfl
        | 1 => rfl
        | i + 2 => rw [List.take_of_length_le (by simp)]; rfl
      · match i with
        | 0 => rfl
        | 1 => rfl
        | i + 2 => rw [List.take_of_length_le (by simp)]; rfl
theorem leaf_chars {p : List Nat} (h : leafOk p) : ∀ c ∈ p, c < 128 ∧ c ≠ 34 := by
  obtain ⟨a, b, c, e, sfx, rfl, ha, hb, hc, he, hs⟩ := h
  intro x hx
  simp only [List.mem_cons] at hx
  rcases hx with rfl | rfl | rfl | rfl | hx
  · omega
  · omega
  · omega
  · omega
  · rcases hs with rfl | rfl | rfl
    · cases hx
    · simp only [List.mem_cons, List.not_mem_nil, or_false] at hx; omega
    · simp only [List.mem_cons, List.not_mem_nil, or_false] at hx; omega
theorem okB_l {a b : Br} (h : okB (.node a b)) : okB a := fun p hp => h p (by simp [Br.leaves, hp])
theorem okB_r {a b : Br} (h : okB (.node a b)) : okB b := fun p hp => h p (by simp [Br.leaves, hp])
theorem text_chars : ∀ (t : Br), okB t → ∀ c ∈ t.text, c < 128 ∧ c ≠ 34
  | .leaf p, h, c, hc => by
    simp only [Br.text, List.mem_cons, List.mem_append, List.not_mem_nil, or_false] at hc
    rcases hc with rfl | hc | rfl
    · omega
    · exact leaf_chars (h p (by simp [Br.leaves])) c hc
    · omega
  | .node a b, h, c, hc => by
    simp only [Br.text, List.mem_cons, List.mem_append, List.not_mem_nil, or_false] at hc
    rcases hc with rfl | hc | hc | rfl
    · omega
    · exact text_chars a (okB_l h) c hc
    · exact text_chars b (okB_r h) c hc
    · omega
theorem text_scan : ∀ (t : Br), okB t → ∀ d : Int, scan (false, d) t.text = (false, d) ∧ ∀ i, 0 < i → i < t.text.length → d + 1 ≤ (scan (false, d) (t.text.take i)).2
  | .leaf p, h, d => by
    have hp := leaf_scan (h p (by simp [Br.leaves])) (d + 1)
    refine ⟨?_, fun i hi hl => ?_⟩
    · show scan (false, d + 1) (p ++ [41]) = _
      rw [scan_app, hp.1]
      show (false, d + 1 - 1) = (false, d)
      rw [show d + 1 - 1 = d by omega]
    · cases i with
      | zero => omega
      | succ i =>
        show d + 1 ≤ (scan (false, d + 1) ((p ++ [41]).take i)).2
        have hl' : i ≤ p.length := by simp only [Br.text, List.length_cons, List.length_append, List.length_nil] at hl; omega
        rw [List.take_append_of_le_length hl', hp.2]
        exact Int.le_refl _
  | .node a b, h, d => by
    have ha := text_scan a (okB_l h) (d + 1)
    have hb := text_scan b (okB_r h) (d + 1)
    refine ⟨?_, fun i hi hl => ?_⟩
    · show scan (false, d + 1) (a.text ++ (b.text ++ [41])) = _
      rw [scan_app, ha.1, scan_app, hb.1]
      show (false, d + 1 - 1) = (false, d)
      rw [show d + 1 - 1 = d by omega]
    · cases i with
      | zero => omega
      | succ i =>
        show d + 1 ≤ (scan (false, d + 1) ((a.text ++ (b.text ++ [41])).take i)).2
        have hl' : i ≤ a.text.length + b.text.length := by simp only [Br.text, List.length_cons, List.length_append, List.length_nil] at hl; omega
        by_cases h1 : i ≤ a.text.length
        · rw [List.take_append_of_le_length h1]
          by_cases h0 : i = 0
          · subst h0; exact Int.le_refl _
          · by_cases h2 : i = a.text.length
            · subst h2; rw [List.take_length, ha.1]; exact Int.le_refl _
            · have := ha.2 i (by omega) (by omega); omega
        · rw [List.take_append, List.take_of_length_le (by omega), scan_app, ha.1, List.take_append_of_le_length (by omega)]
          by_cases h2 : i - a.text.length = b.text.length
          · rw [h2, List.take_length, hb.1]; exact Int.le_refl _
          · have := hb.2 (i - a.text.length) (by omega) (by omega); omega
theorem text_last (t : Br) : ∃ q, t.text = q ++ [41] := by
  cases t with
  | leaf p => exact ⟨40 :: p, rfl⟩
  | node a b => exact ⟨40 :: (a.text ++ b.text), by simp [Br.text]⟩
theorem text_head (t : Br) : ∃ q, t.text = 40 :: q := by
  cases t with
  | leaf p => exact ⟨_, rfl⟩
  | node a b => exact ⟨_, rfl⟩
theorem text_len2 (t : Br) : 2 ≤ t.text.length := by
  cases t with
  | leaf p => simp [Br.text]
  | node a b => simp [Br.text]; omega
theorem scan_end {s : Bool × Int} {q : List Nat} : (scan s (q ++ [41])).1 = false := by
  rw [scan_app]
  show (stp (scan s q) 41).1 = false
  unfold stp
  split
  · rfl
  · rfl
/-- a beginning of a part's text that ends with a shutting bracket may be asked -/
theorem chk_ok {t : Br} (h : okB t) (hl : t.text.length ≤ 4096) {c : Nat} (hc : c ≤ t.text.length) (hlast : ∃ q, t.text.take c = q ++ [41]) : ChkOk (t.text.take c) where
  asc := fun x hx => (text_chars t h x (List.mem_of_mem_take hx)).1
  quo := fun hx => (text_chars t h 34 (List.mem_of_mem_take hx)).2 rfl
  len := by rw [List.length_take]; omega
  fin := by
    obtain ⟨q, e⟩ := hlast
    rw [fin_scan _ _ 0, e]; exact scan_end
  dep := fun j _ => by
    obtain ⟨i, hi, e⟩ := run_pre (t.text.take c) false 0 j
    show 0 ≤ ((run false (t.text.take c)).take j).foldl dp1 0
    rw [e, List.take_take]
    have ht := text_scan t h 0
    by_cases h0 : min i c = 0
    · rw [h0]; exact Int.le_refl _
    · by_cases h1 : min i c = t.text.length
      · rw [h1, List.take_length, ht.1]; exact Int.le_refl _
      · have := ht.2 (min i c) (by omega) (by omega); omega
theorem chk_all {t : Br} (h : okB t) : (dep (run false t.text) (run false t.text).length == 0) = true := by
  rw [dep_all, (text_scan t h 0).1]; rfl
theorem chk_part {t : Br} (h : okB t) {c : Nat} (h0 : 0 < c) (hc : c < t.text.length) : (dep (run false (t.text.take c)) (run false (t.text.take c)).length == 0) = false := by
  rw [dep_all, beq_eq_false_iff_ne]
  have := (text_scan t h 0).2 c h0 hc
  omega
end Mine
end

-- part Rd1
section
open PySem PySem.W PyProof.Rows PySem.Spec PySem.Calls
namespace Mine
def GF (a b : Array GenState) : Prop := ∃ k, b = a ++ Array.replicate k GenState.finished
theorem GF.refl {a : Array GenState} : GF a a := ⟨0, by simp⟩
theorem GF.trans {a b c : Array GenState} (x : GF a b) (y : GF b c) : GF a c := by
  obtain ⟨k, rfl⟩ := x
  obtain ⟨j, rfl⟩ := y
  exact ⟨k + j, by rw [Array.append_assoc, Array.replicate_append_replicate]⟩
theorem GF.push {a b : Array GenState} (x : GF a b) : GF a (b.push .finished) := x.trans ⟨1, by simp⟩
def WgEnd (s : Shared) (h₀ : Heap) (L : Addr) (led : List (Addr × Obj)) (J : Nat → (Str → Option Value) → Prop) (n : Nat) (f : Flow) (s₃ : Shared) : Prop :=
  f = .next ∧ ∃ h' tk g m' n', s₃ = { s with heap := h', toks := tk, gens := g } ∧ GF s.gens g ∧ Fr h₀ L h' m' ∧ News h₀ L h' led ∧ n' < n ∧ J n' m'
section
variable {prog : Program} {w : World} {A : Around} {E : Value → Shared → Prop} {Q : Flow → Shared → Prop} {s : Shared} {env : Env} {h₀ : Heap} {L : Addr}
def WgTurn (prog : Program) (w : World) (A : Around) (Q : Flow → Shared → Prop) (s : Shared) (env : Env) (h₀ : Heap) (L : Addr) (test : Expr) (body : List Stmt) (led : List (Addr × Obj)) (J : Nat → (Str → Option Value) → Prop) : Prop :=
  ∀ n m₁ h₁ tk₁ g₁, Fr h₀ L h₁ m₁ → News h₀ L h₁ led → GF s.gens g₁ → J n m₁ →
      wpAny (model prog w) A (isTrue test env (eval test env)) (fun b s₂ =>
        if b = true then wpAny (model prog w) A (execs body env) (WgEnd s h₀ L led J n) NO s₂ else Q .next s₂) NO { s with heap := h₁, toks := tk₁, gens := g₁ }
theorem While_G {test : Expr} {body : List Stmt} {pos : Pos} {m : Str → Option Value} {led : List (Addr × Obj)} (J : Nat → (Str → Option Value) → Prop) {n₀ : Nat}
    (F : Fr h₀ L s.heap m) (N : News h₀ L s.heap led) (hJ : J n₀ m)
    (turn : WgTurn prog w A Q s env h₀ L test body led J) :
    wpAny (model prog w) A (exec (.While test body [] pos) env) Q E s := by
  refine wpAny_While (codeAny_whileLoop (fun n s' => ∃ h₁ tk₁ g₁ m₁, s' = { s with heap := h₁, toks := tk₁, gens := g₁ } ∧ GF s.gens g₁ ∧ Fr h₀ L h₁ m₁ ∧ News h₀ L h₁ led ∧ J n m₁) ?_ n₀ ⟨s.heap, s.toks, s.gens, m, rfl, GF.refl, F, N, hJ⟩)
  rintro n s' ⟨h₁, tk₁, g₁, m₁, rfl, G₁, F₁, N₁, J₁⟩
  refine wpAny_mono (turn n m₁ h₁ tk₁ g₁ F₁ N₁ G₁ J₁) (fun b s₂ h₂ => ?_) (fun _ _ e => e.elim)
  cases b with
  | false =>
    simp only [Bool.false_eq_true, if_false] at h₂ ⊢
    exact wpAny_execs_nil h₂
  | true =>
    simp only [if_true] at h₂ ⊢
    refine wpAny_mono h₂ (fun f s₃ h₃ => ?_) (fun _ _ e => e.elim)
    obtain ⟨rfl, h', tk, g, m', n', rfl, G', F', N', hn, hJ'⟩ := h₃
    exact ⟨n', hn, h', tk, g, m', rfl, G', F', N', hJ'⟩
end
def Br.inner : Br → List Nat
  | .leaf p => p
  | .node a b => a.text ++ b.text
theorem inner_eq (t : Br) : (t.text.drop 1).take (t.text.length - 2) = t.inner := by
  cases t with
  | leaf p => simp [Br.text, Br.inner]
  | node a b =>
    have : (Br.node a b).text = 40 :: ((a.text ++ b.text) ++ [41]) := by simp [Br.text]
    rw [this, List.drop_succ_cons, List.drop_zero]
    exact List.take_left' (by simp)
theorem ne_str_yes {prog : Program} {w : World} {A : Around} {E : Value → Shared → Prop} {s : Shared} {x y : Str} {t u : Tok} {Q : Value → Shared → Prop} (e : x ≠ y) (h : Q (.bool true) s) : wpAny (model prog w) A (compareOp .NotEq (.str x t) (.str y u)) Q E s :=
  PyProof.Rows.ne_str (by rw [bne_iff_ne.mpr e]; exact h)
theorem ne_str_no {prog : Program} {w : World} {A : Around} {E : Value → Shared → Prop} {s : Shared} {x y : Str} {t u : Tok} {Q : Value → Shared → Prop} (e : x = y) (h : Q (.bool false) s) : wpAny (model prog w) A (compareOp .NotEq (.str x t) (.str y u)) Q E s :=
  PyProof.Rows.ne_str (by rw [show (x != y) = false from by rw [e]; exact bne_self_eq_false y]; exact h)
section
variable {prog : Program} {w : World} {A : Around} {E : Value → Shared → Prop} {s : Shared} {value slice : PySem.Expr} {t u : Tok} {h₀ : Heap} {L : Addr} {m : PySem.Str → Option Value} {news : List (Addr × Obj)} {ti tj : Tok} {Q : Value → Shared → Prop} {l : List Nat} {i j : Int}
/-- a beginning, by what it is -/
theorem Sr_to' {r : List Nat} (hF : Fr h₀ L s.heap m) (hN : News h₀ L s.heap news) (h1 : 0 ≤ j) (hsz : l.length ≤ 16777216) (hr : l.take j.toNat = r)
    (h : ∀ h' t' k, Fr h₀ L h' m → News h₀ L h' news → Q (.str (S r) t') { s with heap := h', toks := k })
    (hs : subscripted slice false (.str (S l) t) (.ref s.heap.objs.size) = operate [.ref s.heap.objs.size, .str (S l) t] (getItem (.str (S l) t) (.ref s.heap.objs.size)) := by with_unfolding_all rfl)
    (ht : ∀ r, letTemporaryGo value (.str (S l) t) r = pure () := by intro _; with_unfolding_all rfl) :
    wpAny (model prog w) A (subscriptTail value slice (.str (S l) t) (.ref s.heap.objs.size)) Q E { s with heap := s.heap.push { cls := .type "slice", data := .fields #[.none, .int j tj, .none] } } :=
  Sr_to rfl hF hN h1 hsz (fun h' t' k F' N' => by rw [hr]; exact h h' t' k F' N') hs ht
theorem Sr_from' {r : List Nat} (hF : Fr h₀ L s.heap m) (hN : News h₀ L s.heap news) (h1 : 0 ≤ i) (hsz : l.length ≤ 16777216) (hr : l.drop i.toNat = r)
    (h : ∀ h' t' k, Fr h₀ L h' m → News h₀ L h' news → Q (.str (S r) t') { s with heap := h', toks := k })
    (hs : subscripted slice false (.str (S l) t) (.ref s.heap.objs.size) = operate [.ref s.heap.objs.size, .str (S l) t] (getItem (.str (S l) t) (.ref s.heap.objs.size)) := by with_unfolding_all rfl)
    (ht : ∀ r, letTemporaryGo value (.str (S l) t) r = pure () := by intro _; with_unfolding_all rfl) :
    wpAny (model prog w) A (subscriptTail value slice (.str (S l) t) (.ref s.heap.objs.size)) Q E { s with heap := s.heap.push { cls := .type "slice", data := .fields #[.int i ti, .none, .none] } } :=
  Sr_from rfl hF hN h1 hsz (fun h' t' k F' N' => by rw [hr]; exact h h' t' k F' N') hs ht
theorem Sr_mid' {r : List Nat} (hF : Fr h₀ L s.heap m) (hN : News h₀ L s.heap news) (h0 : 0 ≤ i) (h1 : i ≤ j) (hsz : l.length ≤ 16777216) (hr : (l.drop i.toNat).take (j - i).toNat = r)
    (h : ∀ h' t' k, Fr h₀ L h' m → News h₀ L h' news → Q (.str (S r) t') { s with heap := h', toks := k })
    (hs : subscripted slice false (.str (S l) t) (.ref s.heap.objs.size) = operate [.ref s.heap.objs.size, .str (S l) t] (getItem (.str (S l) t) (.ref s.heap.objs.size)) := by with_unfolding_all rfl)
    (ht : ∀ r, letTemporaryGo value (.str (S l) t) r = pure () := by intro _; with_unfolding_all rfl) :
    wpAny (model prog w) A (subscriptTail value slice (.str (S l) t) (.ref s.heap.objs.size)) Q E { s with heap := s.heap.push { cls := .type "slice", data := .fields #[.int i ti, .int j tj, .none] } } :=
  Sr_mid rfl hF hN h0 h1 hsz (fun h' t' k F' N' => by rw [hr]; exact h h' t' k F' N') hs ht
theorem Sr_innerT {b : Br} (hF : Fr h₀ L s.heap m) (hN : News h₀ L s.heap news) (hsz : b.text.length ≤ 16777216)
    (h : ∀ h' t' k, Fr h₀ L h' m → News h₀ L h' news → Q (.str (S b.inner) t') { s with heap := h', toks := k })
    (hs : subscripted slice false (.str (S b.text) t) (.ref s.heap.objs.size) = operate [.ref s.heap.objs.size, .str (S b.text) t] (getItem (.str (S b.text) t) (.ref s.heap.objs.size)) := by with_unfolding_all rfl)
    (ht : ∀ r, letTemporaryGo value (.str (S b.text) t) r = pure () := by intro _; with_unfolding_all rfl) :
    wpAny (model prog w) A (subscriptTail value slice (.str (S b.text) t) (.ref s.heap.objs.size)) Q E { s with heap := s.heap.push { cls := .type "slice", data := .fields #[.int 1 ti, .int (-1) tj, .none] } } :=
  Sr_inner rfl hF hN hsz (fun h' t' k F' N' => by rw [inner_eq]; exact h h' t' k F' N') hs ht
end
def codesI (l : List Nat) : List Int := l.map fun (c : Nat) => (c : Int)
def leafV (p : List Nat) : Int := numI (codesI (p.take 2)) + numI (codesI ((p.drop 2).take 2))
def toT : Br → T
  | .leaf p => .leaf (leafV p)
  | .node a b => .node (toT a) (toT b)
def Br.depth : Br → Nat
  | .leaf _ => 0
  | .node a b => max a.depth b.depth + 1
section
variable {w : World} {mean : ExcName → Option Value} {mg mb : Str → Option Value} {dp un : Nat} {gd : Option (List Code)} {cn : Str} {cs : Scope} {a : Addr} {ccd : Value} {cl : List (Str × Addr)} {outer : List Env} {A₀ : Around} {base h₀ : Heap} {L : Addr} {m : Str → Option Value} {news : List (Addr × Obj)} {s : Shared} {Q E : Value → Shared → Prop}
theorem use_num (B : Below A₀ base outer h₀) (F : Fr h₀ L s.heap m) (X : (hd.heap_39 w.params).In h₀) (N : News h₀ L s.heap news) (T : Top hd.view_39 (looseW hd.view_39 []) mean mg mb h₀) (hk : cs.kind = .function)
    {l : List Nat} {t1 : Tok} (hl : ∀ c ∈ l, 65 ≤ c ∧ c ≤ 80) (hd : dp + 16 < recursionLimit) (hu : un + 8 * 16 < cLine)
    (ret : ∀ tk' h' k, Fr h₀ L h' m → News h₀ L h' news → Q (.int (numI (codesI l)) tk') { s with heap := h', toks := k }) :
    wpAny (model PySem.Challenge.rw_wa0006_01.row.prog w) (ktrTop dp un gd cn cs L a ccd cl outer) (call (.ref 70) [.str (S l) t1]) Q E s := by
  refine tellsN_use (c := numT) (d := l) B F X N T hk ⟨t1, rfl⟩ (num_tells l w mean mg mb) hl hd hu ?_
  rintro r tl h' tk' F' N' _ rfl ⟨t, rfl⟩
  exact ret t h' tk' F' (by rw [List.append_nil] at N'; exact N')
theorem use_chk_yes (B : Below A₀ base outer h₀) (F : Fr h₀ L s.heap m) (X : (hd.heap_39 w.params).In h₀) (N : News h₀ L s.heap news) (T : Top hd.view_39 (looseW hd.view_39 []) mean mg mb h₀) (hk : cs.kind = .function)
    {t : Br} {tx : Tok} (h : okB t) (hl : t.text.length ≤ 4096) (hdp : dp + 16 < recursionLimit) (hu : un + 8 * 16 < cLine)
    (hret : ∀ h' tk', Fr h₀ L h' m → News h₀ L h' news → Q (.bool true) { s with heap := h', toks := tk', gens := s.gens.push .finished }) :
    wpAny (model PySem.Challenge.rw_wa0006_01.row.prog w) (ktrTop dp un gd cn cs L a ccd cl outer) (call (.ref 42) [.str (S t.text) tx]) Q E s := by
  have ho := chk_ok h hl (Nat.le_refl _) (by rw [List.take_length]; exact text_last t)
  rw [List.take_length] at ho
  exact use_chk B F X N T hk ho hdp hu fun h' tk' F' N' => by rw [chk_all h]; exact hret h' tk' F' N'
theorem use_chk_no (B : Below A₀ base outer h₀) (F : Fr h₀ L s.heap m) (X : (hd.heap_39 w.params).In h₀) (N : News h₀ L s.heap news) (T : Top hd.view_39 (looseW hd.view_39 []) mean mg mb h₀) (hk : cs.kind = .function)
    {t : Br} {tx : Tok} {c : Nat} (h : okB t) (hl : t.text.length ≤ 4096) (h0 : 0 < c) (hc : c < t.text.length) (hlast : ∃ q, t.text.take c = q ++ [41]) (hdp : dp + 16 < recursionLimit) (hu : un + 8 * 16 < cLine)
    (hret : ∀ h' tk', Fr h₀ L h' m → News h₀ L h' news → Q (.bool false) { s with heap := h', toks := tk', gens := s.gens.push .finished }) :
    wpAny (model PySem.Challenge.rw_wa0006_01.row.prog w) (ktrTop dp un gd cn cs L a ccd cl outer) (call (.ref 42) [.str (S (t.text.take c)) tx]) Q E s :=
  use_chk B F X N T hk (chk_ok h hl (Nat.le_of_lt hc) hlast) hdp hu fun h' tk' F' N' => by rw [chk_part h h0 hc]; exact hret h' tk' F' N'
end
/-- _law_read's contract: what it reads, and what it leaves of its generators -/
def TellsR (w : World) (mean : ExcName → Option Value) (mg mb : Str → Option Value) (t : Br) : Prop :=
  ∀ (dp un : Nat) (gd : Option (List Code)) (cn : Str) (cs : Scope) (a : Addr) (ccd : Value) (cl : List (Str × Addr)) (outer : List Env) (A₀ : Around) (base h₀ : Heap) (L : Addr) (m : Str → Option Value) (news : List (Addr × Obj)) (s : Shared) (tx : Tok)
    (Q E : Value → Shared → Prop),
    Below A₀ base outer h₀ → Fr h₀ L s.heap m → (hd.heap_39 w.params).In h₀ → News h₀ L s.heap news → Top hd.view_39 (looseW hd.view_39 []) mean mg mb h₀ → cs.kind = .function → dp + (24 + 2 * t.depth) < recursionLimit → un + 8 * (24 + 2 * t.depth) < cLine →
    (∀ r tl h' tk' g', Fr h₀ L h' m → News h₀ L h' (news ++ tl) → GF s.gens g' → TreeIn (news ++ tl) r (toT t) → Q r { s with heap := h', toks := tk', gens := g' }) →
    wpAny (model PySem.Challenge.rw_wa0006_01.row.prog w) (ktrTop dp un gd cn cs L a ccd cl outer) (call (.ref 84) [.str (S t.text) tx]) Q E s
theorem use_read_of {w : World} {mean : ExcName → Option Value} {mg mb : Str → Option Value} {t : Br} {dp un : Nat} {gd : Option (List Code)} {cn : Str} {cs : Scope} {a : Addr} {ccd : Value} {cl : List (Str × Addr)} {outer : List Env} {A₀ : Around} {base h₀ : Heap} {L : Addr} {m : Str → Option Value} {news : List (Addr × Obj)} {s : Shared} {tx : Tok} {Q E : Value → Shared → Prop}
    (C : TellsR w mean mg mb t) (B : Below A₀ base outer h₀) (F : Fr h₀ L s.heap m) (X : (hd.heap_39 w.params).In h₀) (N : News h₀ L s.heap news) (T : Top hd.view_39 (looseW hd.view_39 []) mean mg mb h₀) (hk : cs.kind = .function) (h1 : dp + (24 + 2 * t.depth) < recursionLimit) (h2 : un + 8 * (24 + 2 * t.depth) < cLine)
    (ret : ∀ r tl h' tk' g', Fr h₀ L h' m → News h₀ L h' (news ++ tl) → GF s.gens g' → TreeIn (news ++ tl) r (toT t) → Q r { s with heap := h', toks := tk', gens := g' }) :
    wpAny (model PySem.Challenge.rw_wa0006_01.row.prog w) (ktrTop dp un gd cn cs L a ccd cl outer) (call (.ref 84) [.str (S t.text) tx]) Q E s :=
  C _ _ _ _ _ _ _ _ _ _ _ _ _ _ _ _ _ _ _ B F X N T hk h1 h2 ret
end Mine
end

-- part Rd2
section
open PySem PySem.W PyProof.Rows PySem.Spec PySem.Calls
namespace Mine
local macro_rules | `(tactic| walk_at "call ref") => `(tactic| k_extra "call ref")
local macro_rules | `(tactic| walk_at "call builtin:len") => `(tactic| k_extra "call builtin:len")
local macro_rules | `(tactic| walk_at "subscriptTail") => `(tactic| k_extra "subscriptTail")
local macro_rules | `(tactic| walk_at "subscriptTail Name Slice str ref") => `(tactic| k_extra "subscriptTail")
local macro_rules | `(tactic| walk_at "subscriptTail Name BinOp str int") => `(tactic| k_extra "subscriptTail")
local macro_rules | `(tactic| walk_at "compareOp NotEq str str") => `(tactic| k_extra "compareOp NotEq str str")
local macro_rules | `(tactic| walk_at "exec While BoolOp cons nil") => `(tactic| k_extra "exec While")
local macro_rules | `(tactic| walk_at "exec While") => `(tactic| k_extra "exec While")
theorem one_ne {a : Nat} (h : a ≠ 40) : S [a] ≠ Str.ofString "(" := lp_ne (by intro e; exact h (List.cons.inj e).1)
theorem leafB {p : List Nat} (h : leafOk p) : ∃ a b c d sfx, p = a :: b :: c :: d :: sfx ∧ (65 ≤ a ∧ a ≤ 80) ∧ (65 ≤ b ∧ b ≤ 80) ∧ (65 ≤ c ∧ c ≤ 80) ∧ (65 ≤ d ∧ d ≤ 80) ∧ sfx.length ≤ 2 := by
  obtain ⟨a, b, c, d, sfx, e, ha, hb, hc, hd, hs⟩ := h
  refine ⟨a, b, c, d, sfx, e, ha, hb, hc, hd, ?_⟩
  rcases hs with rfl | rfl | rfl <;> simp
set_option maxRecDepth 100000 in
set_option maxHeartbeats 8000000 in
theorem read_leaf {w : World} {mean : ExcName → Option Value} {mg mb : Str → Option Value} {p : List Nat} (hp : leafOk p) : TellsR w mean mg mb (.leaf p) := by
  suffices h : (PySem.Challenge.rw_wa0006_01 = PySem.Challenge.rw_wa0006_01 → hd.heap_39 = hd.heap_39 → TellsR w mean mg mb (.leaf p)) from h rfl rfl
  k_fill
  intro _ _
  unfold TellsR
  intro dp un gd cn cs a ccd cl outer A₀ base h₀ L m news s tx Q E B F X N T hk hdp hu hret
  replace hdp : dp + 24 < recursionLimit := hdp
  replace hu : un + 8 * 24 < cLine := hu
  obtain ⟨a1, a2, a3, a4, sfx, rfl, h1, h2, h3, h4, hsl⟩ := leafB hp
  have hlen : (Br.leaf (a1 :: a2 :: a3 :: a4 :: sfx)).text.length ≤ 16777216 := by simp [Br.text]; omega
  have hlen2 : (a1 :: a2 :: a3 :: a4 :: sfx).length ≤ 16777216 := by simp; omega
  k_with_none
  refine wpAny_call ?_
  k_dflt ktr_enter
  k_with "subscriptTail" => ((with_reducible rename Fr _ _ _ _ => F'); (with_reducible rename News _ _ _ _ => N'); refine Sr_innerT (s := ⟨_, _, _, _, _⟩) (b := .leaf (a1 :: a2 :: a3 :: a4 :: sfx)) F' N' hlen ?_; intro _ _ _ _ _; dsimp only [Br.inner])
  k_with "subscriptTail" => ((with_reducible show wpAny _ _ (subscriptTail _ (Expr.Slice none (some (Expr.Constant _ _ _)) none _) _ _) _ _ _); (with_reducible rename Fr _ _ _ _ => F'); (with_reducible rename News _ _ _ _ => N'); first | (refine Sr_to' (s := ⟨_, _, _, _, _⟩) (j := 1) (r := [a1]) F' N' (by decide) hlen2 rfl ?_; intro _ _ _ _ _) | (refine Sr_to' (s := ⟨_, _, _, _, _⟩) (j := 2) (r := [a1, a2]) F' N' (by decide) hlen2 rfl ?_; intro _ _ _ _ _))
  k_with "subscriptTail" => ((with_reducible show wpAny _ _ (subscriptTail _ (Expr.Slice (some (Expr.Constant _ _ _)) (some (Expr.Constant _ _ _)) none _) _ _) _ _ _); (with_reducible rename Fr _ _ _ _ => F'); (with_reducible rename News _ _ _ _ => N'); refine Sr_mid' (s := ⟨_, _, _, _, _⟩) (i := 2) (j := 4) (r := [a3, a4]) F' N' (by decide) (by decide) hlen2 rfl ?_; intro _ _ _ _ _)
  k_with "compareOp NotEq str str" => (refine ne_str_yes (one_ne (by omega)) ?_)
  k_with "call ref" => (k_dflt (refine' use_num ?k1 ?k2 ?k3 ?k4 ?k5 ?kK ?hl ?kd ?ku ?_; (case k1 => k_asm); (case k2 => k_asm); (case k3 => k_asm); (case k4 => k_asm); (case k5 => k_asm); (case kK => first | exact rfl | assumption); (case hl => (intro z hz; simp only [List.mem_cons, List.not_mem_nil, or_false] at hz; rcases hz with rfl | rfl <;> assumption)); (case kd => ktr_room); (case ku => ktr_units)); intro _ _ _ _ _; (try dsimp only); (try k_fold))
  k_steps
  refine hret _ [] _ _ _ (by k_asm) (ktn_tl0 (by k_asm)) GF.refl ?_
  exact TreeIn.leaf
theorem fr_shape2 {h₀ h : Heap} {L : Addr} {m : Str → Option Value} {x y : Str} {v u : Value} (F : Fr h₀ L h m) (hx : m x = some v) (hy : m y = some u) :
    Fr h₀ L h (fun z => if z = x then some v else if z = y then some u else m z) := by
  have F1 := fr_shape F hy
  refine fr_shape F1 ?_
  by_cases e : x = y
  · subst e; rw [if_pos rfl]; rw [hx] at hy; exact hy.symm
  · rw [if_neg e]; exact hx
theorem loop_take {A B : List Nat} {c : Nat} (h : c ≤ A.length) : (A ++ B).take ((c : Int)).toNat = A.take c := by
  rw [Int.toNat_natCast, List.take_append_of_le_length h]
theorem loop_char {A B : List Nat} {c : Nat} (h2 : 2 ≤ c) (h : c ≤ A.length) : (A ++ B).getD ((c : Int) - 1).toNat 0 = A.getD (c - 1) 0 := by
  rw [show ((c : Int) - 1).toNat = c - 1 by omega]
  simp only [List.getD]
  rw [List.getElem?_append_left (by omega)]
theorem take_last {A : List Nat} {c : Nat} (h2 : 2 ≤ c) (h : c ≤ A.length) {x : Nat} (hx : A.getD (c - 1) 0 = x) : ∃ q, A.take c = q ++ [x] := by
  refine ⟨A.take (c - 1), ?_⟩
  have hlt : c - 1 < A.length := by omega
  have := List.take_succ_eq_append_getElem hlt
  rw [show c - 1 + 1 = c by omega] at this
  rw [this]
  simp only [List.getD, List.getElem?_eq_getElem hlt, Option.getD_some] at hx
  rw [hx]
theorem read_news {h₀ h : Heap} {L : Addr} {x : Addr × Obj} {news t8 t9 : List (Addr × Obj)} (N : News h₀ L h (x :: (news ++ t8 ++ t9))) : News h₀ L h (news ++ (x :: (t8 ++ t9))) := fun p hp => N p (by
  simp only [List.mem_append, List.mem_cons] at hp ⊢
  rcases hp with h | h | h | h
  · exact .inr (.inl (.inl h))
  · exact .inl h
  · exact .inr (.inl (.inr h))
  · exact .inr (.inr h))
theorem read_tree {news t8 t9 : List (Addr × Obj)} {r8 r9 : Value} {x y : T} {D : Addr} {k : Nat} (T8 : TreeIn (news ++ t8) r8 x) (T9 : TreeIn (news ++ t8 ++ t9) r9 y) : TreeIn (news ++ ((D, tupOf [r8, r9] k) :: (t8 ++ t9))) (.ref D) (.node x y) := by
  refine .node (List.mem_append.mpr (.inr (.head _))) (T8.mono fun p hp => ?_) (T9.mono fun p hp => ?_)
  · simp only [List.mem_append, List.mem_cons] at hp ⊢
    rcases hp with h | h
    · exact .inl h
    · exact .inr (.inr (.inl h))
  · simp only [List.mem_append, List.mem_cons] at hp ⊢
    rcases hp with (h | h) | h
    · exact .inl h
    · exact .inr (.inr (.inl h))
    · exact .inr (.inr (.inr h))
theorem full_char (t : Br) : t.text.getD (t.text.length - 1) 0 = 41 := by
  obtain ⟨q, e⟩ := text_last t
  rw [e]; simp [List.getD]
set_option maxRecDepth 100000 in
set_option maxHeartbeats 8000000 in
theorem read_node {w : World} {mean : ExcName → Option Value} {mg mb : Str → Option Value} {p q : Br} (hp : TellsR w mean mg mb p) (hq : TellsR w mean mg mb q) (okp : okB p) (okq : okB q) (hlen : (Br.node p q).text.length ≤ 4096) : TellsR w mean mg mb (.node p q) := by
  suffices h : (PySem.Challenge.rw_wa0006_01 = PySem.Challenge.rw_wa0006_01 → hd.heap_39 = hd.heap_39 → TellsR w mean mg mb (.node p q)) from h rfl rfl
  k_fill
  intro _ _
  unfold TellsR
  intro dp un gd cn cs a ccd cl outer A₀ base h₀ L m news s tx Q E B F X N T hk hdp hu hret
  replace hdp : dp + (24 + 2 * (max p.depth q.depth + 1)) < recursionLimit := hdp
  replace hu : un + 8 * (24 + 2 * (max p.depth q.depth + 1)) < cLine := hu
  have hpl := text_len2 p
  have hql := text_len2 q
  have hil : (p.text ++ q.text).length = p.text.length + q.text.length := List.length_append
  have hln : (Br.node p q).text.length = p.text.length + q.text.length + 2 := by simp [Br.text]; omega
  have hl1 : (Br.node p q).text.length ≤ 16777216 := by omega
  have hl2 : (p.text ++ q.text).length ≤ 16777216 := by omega
  have hhead : (p.text ++ q.text).take 1 = [40] := by obtain ⟨r, e⟩ := text_head p; rw [e]; rfl
  k_with_none
  refine wpAny_call ?_
  k_dflt ktr_enter
  k_with "subscriptTail" => ((with_reducible rename Fr _ _ _ _ => F'); (with_reducible rename News _ _ _ _ => N'); refine Sr_innerT (s := ⟨_, _, _, _, _⟩) (b := .node p q) F' N' hl1 ?_; intro _ _ _ _ _; dsimp only [Br.inner])
  k_with "subscriptTail" => ((with_reducible show wpAny _ _ (subscriptTail _ (Expr.Slice none (some (Expr.Constant _ _ _)) none _) _ _) _ _ _); (with_reducible rename Fr _ _ _ _ => F'); (with_reducible rename News _ _ _ _ => N'); (refine Sr_to' (s := ⟨_, _, _, _, _⟩) (j := 1) (r := [40]) F' N' (by decide) hl2 hhead ?_; intro _ _ _ _ _))
  k_with "compareOp NotEq str str" => (refine ne_str_no lp_eq ?_)
  k_with "exec While" => (refine While_G (fun n m' => ∃ (c : Nat) (tc ti : Tok), m' (Str.ofString "cut") = some (.int (c : Int) tc) ∧ m' (Str.ofString "inner") = some (.str (S (p.text ++ q.text)) ti) ∧ 2 ≤ c ∧ c ≤ p.text.length ∧ n = p.text.length - c) (by k_asm) (by k_asm) ⟨2, _, _, rfl, rfl, Nat.le_refl _, hpl, rfl⟩ ?_)
  k_steps
  unfold WgTurn
  intro n m₁ h₁ tk₁ g₁ F₁ N₁ G₁ hJ
  obtain ⟨c, tc, ti, hc, hi, h2, hle, hn⟩ := hJ
  have F2 := fr_shape2 F₁ hc hi
  clear F₁ hc hi
  have hlt0 : (c : Int) < ((p.text ++ q.text).length : Int) := by rw [hil]; omega
  have htk := loop_take (B := q.text) hle
  have hcr := loop_char (B := q.text) h2 hle
  k_with "call builtin:len" => (refine Sr_len rfl hl2 ?_; intro _ _)
  k_with "subscriptTail" => (refine Sr_item rfl (by omega) (by omega) hl2 ?_; intro _ _)
  rcases Nat.lt_or_eq_of_le hle with hlt | heq
  · by_cases hch : p.text.getD (c - 1) 0 = 41
    · have hlast := take_last h2 hle hch
      k_with "compareOp NotEq str str" => (refine ne_str_no (by rw [hcr, hch]; exact rp_eq) ?_)
      k_with "subscriptTail" => ((with_reducible show wpAny _ _ (subscriptTail _ (Expr.Slice none (some (Expr.Name _ _)) none _) _ _) _ _ _); (with_reducible rename Fr _ _ _ _ => F'); (with_reducible rename News _ _ _ _ => N'); (refine Sr_to' (s := ⟨_, _, _, _, _⟩) (r := p.text.take c) F' N' (by omega) hl2 htk ?_; intro _ _ _ _ _))
      k_with "call ref" => (k_dflt (refine' use_chk_no ?k1 ?k2 ?k3 ?k4 ?k5 ?kK okp (by omega) (by omega) hlt (take_last h2 hle hch) ?kd ?ku ?_; (case k1 => k_asm); (case k2 => k_asm); (case k3 => k_asm); (case k4 => k_asm); (case k5 => k_asm); (case kK => first | exact rfl | assumption); (case kd => ktr_room); (case ku => ktr_units)); intro _ _ _ _; (try dsimp only); (try k_fold))
      k_steps
      rename Fr _ _ _ _ => F8
      rename News _ _ _ _ => N8
      exact ⟨rfl, _, _, _, _, p.text.length - (c + 1), rfl, G₁.push, F8, N8, by omega, c + 1, _, _, by exact congrArg (fun z => some (Value.int z _)) (by omega : (c : Int) + 1 = ((c + 1 : Nat) : Int)), rfl, by omega, hlt, rfl⟩
    · have hne : S [(p.text ++ q.text).getD ((c : Int) - 1).toNat 0] ≠ Str.ofString ")" := by
        rw [hcr]; exact rp_ne (by intro e; exact hch (List.cons.inj e).1)
      k_with_none
      k_with "call builtin:len" => (refine Sr_len rfl hl2 ?_; intro _ _)
      k_with "subscriptTail" => (refine Sr_item rfl (by omega) (by omega) hl2 ?_; intro _ _)
      k_with "compareOp NotEq str str" => (refine ne_str_yes hne ?_)
      k_steps
      rename Fr _ _ _ _ => F8
      rename News _ _ _ _ => N8
      exact ⟨rfl, _, _, _, _, p.text.length - (c + 1), rfl, G₁, F8, N8, by omega, c + 1, _, _, by exact congrArg (fun z => some (Value.int z _)) (by omega : (c : Int) + 1 = ((c + 1 : Nat) : Int)), rfl, by omega, hlt, rfl⟩
  · have hch : p.text.getD (c - 1) 0 = 41 := by rw [heq]; exact full_char p
    have htk' : (p.text ++ q.text).take ((c : Int)).toNat = p.text := by rw [htk, heq, List.take_length]
    have hdk : (p.text ++ q.text).drop ((c : Int)).toNat = q.text := by rw [Int.toNat_natCast, heq]; simp
    k_with "compareOp NotEq str str" => (refine ne_str_no (by rw [hcr, hch]; exact rp_eq) ?_)
    k_with "subscriptTail" => ((with_reducible show wpAny _ _ (subscriptTail _ (Expr.Slice none (some (Expr.Name _ _)) none _) _ _) _ _ _); (with_reducible rename Fr _ _ _ _ => F'); (with_reducible rename News _ _ _ _ => N'); (refine Sr_to' (s := ⟨_, _, _, _, _⟩) (r := p.text) F' N' (by omega) hl2 htk' ?_; intro _ _ _ _ _))
    k_with "subscriptTail" => ((with_reducible show wpAny _ _ (subscriptTail _ (Expr.Slice (some (Expr.Name _ _)) none none _) _ _) _ _ _); (with_reducible rename Fr _ _ _ _ => F'); (with_reducible rename News _ _ _ _ => N'); (refine Sr_from' (s := ⟨_, _, _, _, _⟩) (r := q.text) F' N' (by omega) hl2 hdk ?_; intro _ _ _ _ _))
    k_with "call ref" => (k_dflt (refine' use_chk_yes ?k1 ?k2 ?k3 ?k4 ?k5 ?kK okp (by omega) ?kd ?ku ?_; (case k1 => k_asm); (case k2 => k_asm); (case k3 => k_asm); (case k4 => k_asm); (case k5 => k_asm); (case kK => first | exact rfl | assumption); (case kd => ktr_room); (case ku => ktr_units)); intro _ _ _ _; (try dsimp only); (try k_fold))
    k_with "call ref" => (k_dflt (refine' use_read_of hq ?k1 ?k2 ?k3 ?k4 ?k5 ?kK ?kd ?ku ?_; (case k1 => k_asm); (case k2 => k_asm); (case k3 => k_asm); (case k4 => k_asm); (case k5 => k_asm); (case kK => first | exact rfl | assumption); (case kd => ktr_room); (case ku => ktr_units)); intro r9 tl9 h9 tk9 g9 F9 N9 G9 T9; (try dsimp only); (try k_fold))
    k_with "call ref" => (k_dflt (refine' use_read_of hp ?k1 ?k2 ?k3 ?k4 ?k5 ?kK ?kd ?ku ?_; (case k1 => k_asm); (case k2 => k_asm); (case k3 => k_asm); (case k4 => k_asm); (case k5 => k_asm); (case kK => first | exact rfl | assumption); (case kd => ktr_room); (case ku => ktr_units)); intro r8 tl8 h8 tk8 g8 F8 N8 G8 T8; (try dsimp only); (try k_fold))
    k_steps
    rename News _ _ _ _ => NE
    refine hret _ _ _ _ _ (by k_asm) (read_news NE) ((G₁.push.trans G8).trans G9) (read_tree T8 T9)
theorem read_tells {w : World} {mean : ExcName → Option Value} {mg mb : Str → Option Value} : ∀ (t : Br), okB t → t.text.length ≤ 4096 → TellsR w mean mg mb t
  | .leaf p, h, _ => read_leaf (h p (by simp [Br.leaves]))
  | .node p q, h, hl => by
    have hln : (Br.node p q).text.length = p.text.length + q.text.length + 2 := by simp [Br.text]; omega
    exact read_node (read_tells p (okB_l h) (by omega)) (read_tells q (okB_r h) (by omega)) (okB_l h) (okB_r h) hl
end Mine
end

-- part Pf
section
open PySem PySem.W PyProof.Rows PySem.Spec PySem.Calls
namespace Mine
theorem numI_acc : ∀ (l : List Int) (x : Int), l.foldl (fun a c => a * 16 + (c - 65)) x = x * 16 ^ l.length + numI l := by
  intro l
  induction l with
  | nil => intro x; simp [numI]
  | cons c l ih =>
    intro x
    unfold numI
    rw [List.foldl_cons, List.foldl_cons, ih, ih (0 * 16 + (c - 65)), List.length_cons, Int.pow_succ]
    rw [Int.add_mul, Int.mul_assoc, Int.mul_comm 16]
    simp only [Int.zero_mul, Int.zero_add]
    omega
theorem numI_app (a b : List Int) : numI (a ++ b) = numI a * 16 ^ b.length + numI b := by
  show (a ++ b).foldl _ 0 = _
  rw [List.foldl_append, numI_acc b]; rfl
theorem codesI_app (a b : List Nat) : codesI (a ++ b) = codesI a ++ codesI b := List.map_append ..
theorem codesI_len (a : List Nat) : (codesI a).length = a.length := List.length_map ..
theorem apC_zero : apC 0 = [] := by unfold apC; rw [apL_zero]; rfl
theorem apC_pos {n : Nat} (h : n ≠ 0) : apC n = apC (n / 16) ++ [65 + n % 16] := by
  unfold apC
  rw [apL_pos h, List.map_append]
  have : (65 + n % 16).toUInt8.toNat = (65 + n % 16) % 256 := rfl
  rw [List.map_singleton, this, Nat.mod_eq_of_lt (by omega)]
theorem num_apC : ∀ n : Nat, numI (codesI (apC n)) = n := by
  intro n
  induction n using Nat.strongRecOn with
  | ind n ih =>
    by_cases h0 : n = 0
    · subst h0; rw [apC_zero]; rfl
    · rw [apC_pos h0, codesI_app]
      show numI (codesI (apC (n / 16)) ++ [((65 + n % 16 : Nat) : Int)]) = _
      rw [numI_snoc, ih (n / 16) (by omega)]
      omega
theorem chars_apC : ∀ n : Nat, ∀ c ∈ apC n, 65 ≤ c ∧ c ≤ 80 := by
  intro n
  induction n using Nat.strongRecOn with
  | ind n ih =>
    intro c hc
    by_cases h0 : n = 0
    · subst h0; rw [apC_zero] at hc; cases hc
    · rw [apC_pos h0, List.mem_append] at hc
      rcases hc with hc | hc
      · exact ih (n / 16) (by omega) c hc
      · rw [List.mem_singleton] at hc; omega
theorem chars_wordC {n k : Nat} : ∀ c ∈ wordC n k, 65 ≤ c ∧ c ≤ 80 := by
  intro c hc
  unfold wordC at hc
  rw [List.mem_append] at hc
  rcases hc with hc | hc
  · have := List.eq_of_mem_replicate hc; omega
  · exact chars_apC n c hc
theorem num_rep (k : Nat) (l : List Nat) : numI (codesI (List.replicate k 65 ++ l)) = numI (codesI l) := by
  induction k with
  | zero => rfl
  | succ k ih => rw [List.replicate_succ]; exact ih
theorem num_wordC (n k : Nat) : numI (codesI (wordC n k)) = n := by unfold wordC; rw [num_rep, num_apC]
theorem drop_snoc (l : List Nat) (c : Nat) : (l ++ [c]).dropWhile (fun x => x == 65) = if l.dropWhile (fun x => x == 65) = [] then (if c = 65 then [] else [c]) else l.dropWhile (fun x => x == 65) ++ [c] := by
  induction l with
  | nil => by_cases h : c = 65 <;> simp [List.dropWhile, h]
  | cons a l ih =>
    by_cases h : a = 65
    · subst h; simpa [List.dropWhile] using ih
    · have e : (a == 65) = false := by simpa using h
      simp [List.dropWhile, e]
theorem drop_apC : ∀ (k : Nat) (l : List Nat), l.length = k → (∀ c ∈ l, 65 ≤ c ∧ c ≤ 80) → l.dropWhile (fun x => x == 65) = apC (numI (codesI l)).toNat ∧ 0 ≤ numI (codesI l) := by
  intro k
  induction k with
  | zero =>
    intro l hl _
    have : l = [] := List.length_eq_zero_iff.mp hl
    subst this
    show [] = apC 0 ∧ (0 : Int) ≤ 0
    rw [apC_zero]; exact ⟨rfl, Int.le_refl _⟩
  | succ k ih =>
    intro l hl hc
    have hne : l ≠ [] := by intro e; subst e; simp at hl
    obtain ⟨q, c, rfl⟩ : ∃ q c, l = q ++ [c] := ⟨l.dropLast, l.getLast hne, (List.dropLast_concat_getLast hne).symm⟩
    have hq : q.length = k := by simpa using hl
    obtain ⟨h1, h2⟩ := ih q hq fun x hx => hc x (List.mem_append_left _ hx)
    have hcc := hc c (by simp)
    have e : numI (codesI (q ++ [c])) = numI (codesI q) * 16 + ((c : Int) - 65) := by
      rw [codesI_app]; exact numI_snoc _ _
    rw [e, drop_snoc, h1]
    refine ⟨?_, by omega⟩
    by_cases hz : numI (codesI q) = 0
    · rw [hz]
      have : apC (Int.toNat 0) = [] := apC_zero
      rw [if_pos this]
      by_cases h65 : c = 65
      · subst h65; rw [if_pos rfl]; exact apC_zero.symm
      · rw [if_neg h65, apC_pos (n := ((0 : Int) * 16 + ((c : Int) - 65)).toNat) (by omega)]
        rw [show ((0 : Int) * 16 + ((c : Int) - 65)).toNat / 16 = 0 by omega, apC_zero, show 65 + ((0 : Int) * 16 + ((c : Int) - 65)).toNat % 16 = c by omega]; rfl
    · have hn : apC (numI (codesI q)).toNat ≠ [] := by
        rw [apC_pos (by omega)]; simp
      rw [if_neg hn, apC_pos (n := (numI (codesI q) * 16 + ((c : Int) - 65)).toNat) (by omega)]
      rw [show (numI (codesI q) * 16 + ((c : Int) - 65)).toNat / 16 = (numI (codesI q)).toNat by omega, show 65 + (numI (codesI q) * 16 + ((c : Int) - 65)).toNat % 16 = c by omega]
end Mine
namespace Mine
def T.cnt : T → Nat
  | .leaf _ => 1
  | .node a b => a.cnt + b.cnt
def T.val : T → Int
  | .leaf n => n
  | .node a b => a.val * 256 ^ b.cnt + b.val
theorem tree_law : ∀ (t : T) (c : Int), okT t → (c = 0 ∨ c = 1) →
    (letC t c).length = 2 * t.cnt ∧ numI (codesI (letC t c)) + pk (ov t) c * 256 ^ t.cnt = t.val + c ∧ ∀ x ∈ letC t c, 65 ≤ x ∧ x ≤ 80
  | .leaf n, c, h, hc => by
    have h : 0 ≤ n ∧ n ≤ 510 := h
    unfold letC T.cnt T.val
    refine ⟨?_, ?_, chars_wordC⟩
    · rw [wordC_len (by split <;> omega)]
    · rw [num_wordC]
      rcases hc with rfl | rfl
      · show (((if n + 0 < 256 then n + 0 else n + 0 - 256).toNat : Nat) : Int) + (if n ≥ 256 then 1 else 0) * 256 ^ 1 = n + 0
        split <;> split <;> omega
      · show (((if n + 1 < 256 then n + 1 else n + 1 - 256).toNat : Nat) : Int) + (if n + 1 ≥ 256 then 1 else 0) * 256 ^ 1 = n + 1
        split <;> split <;> omega
  | .node a b, c, h, hc => by
    obtain ⟨ha, hb⟩ : okT a ∧ okT b := h
    have hp : pk (ov b) c = 0 ∨ pk (ov b) c = 1 := pk01 (ov01 b).1 (ov01 b).2
    obtain ⟨a1, a2, a3⟩ := tree_law a (pk (ov b) c) ha hp
    obtain ⟨b1, b2, b3⟩ := tree_law b c hb hc
    have e : pk (ov (.node a b)) c = pk (ov a) (pk (ov b) c) := by
      show pk (pk (ov a) (ov b).1, pk (ov a) (ov b).2) c = _
      unfold pk; split <;> rfl
    rw [e]
    unfold letC T.cnt T.val
    refine ⟨by rw [List.length_append, a1, b1]; omega, ?_, ?_⟩
    · rw [codesI_app, numI_app, codesI_len, b1, Int.pow_mul, show (16 : Int) ^ 2 = 256 by decide, Int.pow_add]
      have e1 : numI (codesI (letC a (pk (ov b) c))) = a.val + pk (ov b) c - pk (ov a) (pk (ov b) c) * 256 ^ a.cnt := by omega
      have e2 : numI (codesI (letC b c)) = b.val + c - pk (ov b) c * 256 ^ b.cnt := by omega
      rw [e1, e2, Int.sub_mul, Int.add_mul, Int.mul_assoc]
      omega
    · intro x hx
      rw [List.mem_append] at hx
      rcases hx with hx | hx
      · exact a3 x hx
      · exact b3 x hx
def vals (ps : List (List Nat)) : Int := ps.foldl (fun a p => a * 256 + leafV p) 0
theorem vals_acc : ∀ (ps : List (List Nat)) (x : Int), ps.foldl (fun a p => a * 256 + leafV p) x = x * 256 ^ ps.length + vals ps := by
  intro ps
  induction ps with
  | nil => intro x; simp [vals]
  | cons c l ih =>
    intro x
    unfold vals
    rw [List.foldl_cons, List.foldl_cons, ih, ih (0 * 256 + leafV c), List.length_cons, Int.pow_succ]
    rw [Int.add_mul, Int.mul_assoc, Int.mul_comm 256]
    simp only [Int.zero_mul, Int.zero_add]
    omega
theorem vals_app (a b : List (List Nat)) : vals (a ++ b) = vals a * 256 ^ b.length + vals b := by
  show (a ++ b).foldl _ 0 = _
  rw [List.foldl_append, vals_acc b]; rfl
theorem toT_val : ∀ t : Br, (toT t).val = vals t.leaves ∧ (toT t).cnt = t.leaves.length
  | .leaf p => by
    refine ⟨?_, rfl⟩
    show leafV p = (0 : Int) * 256 + leafV p
    omega
  | .node a b => by
    obtain ⟨a1, a2⟩ := toT_val a
    obtain ⟨b1, b2⟩ := toT_val b
    show (toT a).val * 256 ^ (toT b).cnt + (toT b).val = vals (a.leaves ++ b.leaves) ∧ (toT a).cnt + (toT b).cnt = (a.leaves ++ b.leaves).length
    rw [vals_app, List.length_append, a1, b1, a2, b2]
    exact ⟨rfl, rfl⟩
theorem leaf_range {p : List Nat} (h : leafOk p) : 0 ≤ leafV p ∧ leafV p ≤ 510 := by
  obtain ⟨a, b, c, d, sfx, rfl, ha, hb, hc, hd, _⟩ := h
  have e : leafV (a :: b :: c :: d :: sfx) = ((0 * 16 + ((a : Int) - 65)) * 16 + ((b : Int) - 65)) + ((0 * 16 + ((c : Int) - 65)) * 16 + ((d : Int) - 65)) := rfl
  omega
theorem okT_of : ∀ {t : Br}, okB t → okT (toT t)
  | .leaf p, h => leaf_range (h p (by simp [Br.leaves]))
  | .node a b, h => ⟨okT_of (okB_l h), okT_of (okB_r h)⟩
end Mine
end

-- part Pg
section
open PySem PySem.W PyProof.Rows PySem.Spec PySem.Calls
namespace Mine
theorem wl10 {n : Int} (h0 : 0 ≤ n) (h1 : n < 1099511627776) : (wordC n.toNat (Int.toNat 10)).length = 10 := by
  have h2 : n.toNat < 16 ^ 10 := by omega
  have h3 : (apC n.toNat).length ≤ 10 := by rw [apC_len]; exact apL_len 10 _ h2
  unfold wordC
  rw [List.length_append, List.length_replicate]
  omega
def Sfx (l : List Nat) : Prop := l = [] ∨ l = [92, 40] ∨ l = [92, 41]
theorem Sfx.len {l : List Nat} (h : Sfx l) : l.length ≤ 2 := by rcases h with rfl | rfl | rfl <;> decide
def pc (a b : List Nat) (k : Nat) (x : List Nat) : List Nat := (a.drop (2 * k)).take 2 ++ (b.drop (2 * k)).take 2 ++ x
def ps5 (a b x1 x2 x3 x4 x5 : List Nat) : List (List Nat) := [pc a b 0 x1, pc a b 1 x2, pc a b 2 x3, pc a b 3 x4, pc a b 4 x5]
theorem ten {a : List Nat} (h : a.length = 10) : ∃ c0 c1 c2 c3 c4 c5 c6 c7 c8 c9, a = [c0, c1, c2, c3, c4, c5, c6, c7, c8, c9] := by
  rcases a with _ | ⟨c0, _ | ⟨c1, _ | ⟨c2, _ | ⟨c3, _ | ⟨c4, _ | ⟨c5, _ | ⟨c6, _ | ⟨c7, _ | ⟨c8, _ | ⟨c9, _ | ⟨c10, r⟩⟩⟩⟩⟩⟩⟩⟩⟩⟩⟩ <;> simp at h
  exact ⟨_, _, _, _, _, _, _, _, _, _, rfl⟩
theorem wch {n : Int} {k : Nat} : ∀ c ∈ wordC n.toNat k, 65 ≤ c ∧ c ≤ 80 := chars_wordC
theorem ok5 {a b x1 x2 x3 x4 x5 : List Nat} {t : Br} (ha : a.length = 10) (hb : b.length = 10) (ca : ∀ c ∈ a, 65 ≤ c ∧ c ≤ 80) (cb : ∀ c ∈ b, 65 ≤ c ∧ c ≤ 80) (h1 : Sfx x1) (h2 : Sfx x2) (h3 : Sfx x3) (h4 : Sfx x4) (h5 : Sfx x5) (ht : t.leaves = ps5 a b x1 x2 x3 x4 x5) : okB t := by
  obtain ⟨a0, a1, a2, a3, a4, a5, a6, a7, a8, a9, rfl⟩ := ten ha
  obtain ⟨b0, b1, b2, b3, b4, b5, b6, b7, b8, b9, rfl⟩ := ten hb
  intro p hp
  rw [ht] at hp
  unfold ps5 at hp
  simp only [List.mem_cons, List.not_mem_nil, or_false] at hp ca cb
  rcases hp with rfl | rfl | rfl | rfl | rfl
  · exact ⟨a0, a1, b0, b1, x1, rfl, ca _ (by simp), ca _ (by simp), cb _ (by simp), cb _ (by simp), h1⟩
  · exact ⟨a2, a3, b2, b3, x2, rfl, ca _ (by simp), ca _ (by simp), cb _ (by simp), cb _ (by simp), h2⟩
  · exact ⟨a4, a5, b4, b5, x3, rfl, ca _ (by simp), ca _ (by simp), cb _ (by simp), cb _ (by simp), h3⟩
  · exact ⟨a6, a7, b6, b7, x4, rfl, ca _ (by simp), ca _ (by simp), cb _ (by simp), cb _ (by simp), h4⟩
  · exact ⟨a8, a9, b8, b9, x5, rfl, ca _ (by simp), ca _ (by simp), cb _ (by simp), cb _ (by simp), h5⟩
theorem vals5 {a b x1 x2 x3 x4 x5 : List Nat} (ha : a.length = 10) (hb : b.length = 10) : vals (ps5 a b x1 x2 x3 x4 x5) = numI (codesI a) + numI (codesI b) := by
  obtain ⟨a0, a1, a2, a3, a4, a5, a6, a7, a8, a9, rfl⟩ := ten ha
  obtain ⟨b0, b1, b2, b3, b4, b5, b6, b7, b8, b9, rfl⟩ := ten hb
  have lf : ∀ (a b c d : Nat) (r : List Nat), leafV (a :: b :: c :: d :: r) = ((0 * 16 + ((a : Int) - 65)) * 16 + ((b : Int) - 65)) + ((0 * 16 + ((c : Int) - 65)) * 16 + ((d : Int) - 65)) := fun _ _ _ _ _ => rfl
  show ((((0 * 256 + leafV (a0 :: a1 :: b0 :: b1 :: x1)) * 256 + leafV (a2 :: a3 :: b2 :: b3 :: x2)) * 256 + leafV (a4 :: a5 :: b4 :: b5 :: x3)) * 256 + leafV (a6 :: a7 :: b6 :: b7 :: x4)) * 256 + leafV (a8 :: a9 :: b8 :: b9 :: x5) = _
  rw [lf, lf, lf, lf, lf]
  simp only [numI, codesI, List.map_cons, List.map_nil, List.foldl_cons, List.foldl_nil]
  omega
def preB (i : Int) : List Nat := if i = 0 then [] else [66]
theorem told_facts {one other : Int} {x1 x2 x3 x4 x5 : List Nat} {t : Br} (h0 : 0 ≤ one) (h1 : one < 1099511627776) (h2 : 0 ≤ other) (h3 : other < 1099511627776) (hok : okT (toT t))
    (ht : t.leaves = ps5 (wordC one.toNat (Int.toNat 10)) (wordC other.toNat (Int.toNat 10)) x1 x2 x3 x4 x5) : ∀ c : Int, c = 0 ∨ c = 1 →
    (preB (pk (ov (toT t)) c) ++ letC (toT t) c).dropWhile (fun x => x == 65) = apC (one + other + c).toNat ∧
    numI (codesI (preB (pk (ov (toT t)) c) ++ letC (toT t) c)) = one + other + c ∧ ∀ x ∈ preB (pk (ov (toT t)) c) ++ letC (toT t) c, 65 ≤ x ∧ x ≤ 80 := by
  intro c hc
  obtain ⟨t1, t2, t3⟩ := tree_law (toT t) c hok hc
  obtain ⟨v1, v2⟩ := toT_val t
  rw [ht] at v1 v2
  rw [vals5 (wl10 h0 h1) (wl10 h2 h3), num_wordC, num_wordC] at v1
  have v2 : (toT t).cnt = 5 := v2
  have hp : pk (ov (toT t)) c = 0 ∨ pk (ov (toT t)) c = 1 := by rcases hc with rfl | rfl; exact (ov01 _).1; exact (ov01 _).2
  have hch : ∀ x ∈ preB (pk (ov (toT t)) c) ++ letC (toT t) c, 65 ≤ x ∧ x ≤ 80 := by
    intro x hx
    rw [List.mem_append] at hx
    rcases hx with hx | hx
    · unfold preB at hx
      split at hx
      · cases hx
      · rw [List.mem_singleton] at hx; omega
    · exact t3 x hx
  have hnum : numI (codesI (preB (pk (ov (toT t)) c) ++ letC (toT t) c)) = one + other + c := by
    rw [codesI_app, numI_app, codesI_len, t1, v2]
    have e : numI (codesI (preB (pk (ov (toT t)) c))) = pk (ov (toT t)) c := by
      rcases hp with e | e <;> rw [e] <;> rfl
    rw [e, show (16 : Int) ^ (2 * 5) = 256 ^ 5 by decide]
    rw [v2] at t2
    omega
  obtain ⟨d1, _⟩ := drop_apC _ _ rfl hch
  rw [hnum] at d1
  exact ⟨d1, hnum, hch⟩
end Mine
end

-- part Pst
section
open PySem PySem.W PyProof.Rows PySem.Spec PySem.Calls
open Builtin Builtin.Str
namespace Mine
theorem drop_tw (p : Nat → Bool) : ∀ (l : List Nat), l.drop (l.takeWhile p).length = l.dropWhile p
  | [] => rfl
  | a :: l => by
    cases h : p a
    · simp [List.takeWhile, List.dropWhile, h]
    · simp only [List.takeWhile, List.dropWhile, h, List.length_cons, List.drop_succ_cons]
      exact drop_tw p l
theorem lstrip_S (l : List Nat) : Txt.lstripChars (S l) (Str.ofString "A") = S (l.dropWhile (fun x => x == 65)) := by
  have hg : (Str.ofString "A").cps.contains = fun x => x == 65 := by
    funext x
    show (#[65] : Array Nat).contains x = (x == 65)
    by_cases h : x = 65 <;> simp [h]
  unfold Txt.lstripChars Txt.stripBy
  rw [hg]
  have e1 : stripLo (fun x => x == 65) true (S l) = (l.takeWhile (fun x => x == 65)).length := by
    unfold stripLo; rw [if_pos rfl, S_cps]
  have e2 : ∀ n, stripHi (fun x => x == 65) false (S l) n = l.length := by
    intro n; unfold stripHi; rw [if_neg (by decide), S_len]
  unfold PySem.stripSame PySem.stripped
  rw [e1, e2, S_len]
  have e3 := drop_tw (fun x => x == 65) l
  split
  · rename_i h
    have h0 : (l.takeWhile (fun x => x == 65)).length = 0 := by simpa using h
    rw [h0] at e3
    rw [← e3]; rfl
  · rw [← e3]
    apply Str.ext'
    unfold strSub
    show (l.toArray).extract _ _ = (l.drop _).toArray
    simp
    exact List.take_of_length_le (by rw [List.length_drop]; exact Nat.le_refl _)
end Mine
end

-- part En
section
open PySem PySem.W PyProof.Rows PySem.Spec PySem.Calls
namespace Mine
theorem law_raises (args : List WData) (cls : ExcName) : PySem.Challenge.rw_wa0006_01.row.claim.raises args cls = false := raisesW_false (by wrow_none_raised) cls
theorem law_post (args : List WData) : PySem.Challenge.rw_wa0006_01.row.claim.post args (.bool true) args = true := postW_of (by rfl) (by wtm_val) (by w_fin)
end Mine
end

-- the law
section
open PySem PySem.W PyProof.Rows PySem.Spec PySem.Calls
namespace Mine
def Stop (P : Prop) : Prop := P
theorem of_stop {P : Prop} (h : Stop P) : P := h
theorem to_stop {P : Prop} (h : P) : Stop P := h
theorem draws_ok {ys : List Value} {c : Int → Prop} [DecidablePred c] {g : Int → Int} (h : IntsAre ys (List.map (fun k' => if c k' then (g k').fmod 786432 else k') (rangeKs 0 ((5 : Int) - 0).toNat))) :
    ∃ ds : List Int, ds.length = 5 ∧ (∀ v ∈ ds, 0 ≤ v ∧ v < 786432) ∧ IntsAre ys ds := by
  refine ⟨_, by simp [rangeKs], ?_, h⟩
  intro v hv
  rw [List.mem_map] at hv
  obtain ⟨k, hk, e⟩ := hv
  have hk' : 0 ≤ k ∧ k < 5 := by
    simp [rangeKs] at hk
    omega
  split at e
  · rw [Int.fmod_eq_emod_of_nonneg _ (by omega)] at e; omega
  · omega
def Lst (n : Nat) (o m : Int) : Prop := 0 ≤ o ∧ o < 256 ^ n ∧ 0 ≤ m ∧ m < 256 ^ n
theorem lst0 : Lst ([] : List Int).length 0 0 := by unfold Lst; simp
theorem lst_turn {pre : List Int} {v o m a b : Int} (h : Lst pre.length o m) (ha : 0 ≤ a ∧ a < 256) (hb : 0 ≤ b ∧ b < 256) : Lst (pre ++ [v]).length (o * 256 + a) (m * 256 + b) := by
  obtain ⟨h1, h2, h3, h4⟩ := h
  rw [List.length_append, List.length_singleton]
  unfold Lst
  rw [Int.pow_succ]
  omega
theorem fm {a k : Int} (h : 0 < k) : 0 ≤ a.fmod k ∧ a.fmod k < k := by
  rw [Int.fmod_eq_emod_of_nonneg _ (by omega)]
  exact ⟨Int.emod_nonneg _ (by omega), Int.emod_lt_of_pos _ h⟩
section
variable {prog : Program} {w : World} {A : Around} {E : Value → Shared → Prop} {s : Shared} {value slice : PySem.Expr} {h₀ : Heap} {L l : Addr} {news : List (Addr × Obj)} {k : Nat} {i : Int} {Q : Value → Shared → Prop}
theorem item4 {x y z u : Int} {tx ty tz tu ti : Tok} (N : News h₀ L s.heap news) (hm : (l, listOf #[.int x tx, .int y ty, .int z tz, .int u tu] k) ∈ news) (h0 : 0 ≤ i ∧ i < 4)
    (hx : 0 ≤ x ∧ x < 256) (hy : 0 ≤ y ∧ y < 256) (hz : 0 ≤ z ∧ z < 256) (hu : 0 ≤ u ∧ u < 256) (h : ∀ n t, 0 ≤ n ∧ n < 256 → Q (.int n t) s)
    (hs : subscripted slice false (.ref l) (.int i ti) = operate [.ref l, .int i ti] (getItem (.ref l) (.int i ti)) := by with_unfolding_all rfl) :
    wpAny (model prog w) A (subscriptTail value slice (.ref l) (.int i ti)) Q E s := by
  have e : i = 0 ∨ i = 1 ∨ i = 2 ∨ i = 3 := by omega
  rcases e with e | e | e | e <;> subst e
  · exact Lr_item (vs := [.int x tx, .int y ty, .int z tz, .int u tu]) N hm (by decide) (by decide) rfl (h _ _ hx) hs
  · exact Lr_item (vs := [.int x tx, .int y ty, .int z tz, .int u tu]) N hm (by decide) (by decide) rfl (h _ _ hy) hs
  · exact Lr_item (vs := [.int x tx, .int y ty, .int z tz, .int u tu]) N hm (by decide) (by decide) rfl (h _ _ hz) hs
  · exact Lr_item (vs := [.int x tx, .int y ty, .int z tz, .int u tu]) N hm (by decide) (by decide) rfl (h _ _ hu) hs
end
theorem five {ys : List Value} {ds : List Int} (h : IntsAre ys ds) (h5 : ds.length = 5) : ∃ v1 v2 v3 v4 v5 t1 t2 t3 t4 t5, ds = [v1, v2, v3, v4, v5] ∧ ys = [.int v1 t1, .int v2 t2, .int v3 t3, .int v4 t4, .int v5 t5] := by
  rcases ds with _ | ⟨a, _ | ⟨b, _ | ⟨c, _ | ⟨d, _ | ⟨e, _ | ⟨f, g⟩⟩⟩⟩⟩⟩ <;> simp at h5
  cases h with | cons _ t1 h => ?_
  cases h with | cons _ t2 h => ?_
  cases h with | cons _ t3 h => ?_
  cases h with | cons _ t4 h => ?_
  cases h with | cons _ t5 h => ?_
  cases h
  exact ⟨_, _, _, _, _, _, _, _, _, _, rfl, rfl⟩
theorem fd3 {v : Int} (h : 0 ≤ v ∧ v < 786432) : 0 ≤ v.fdiv 262144 ∧ v.fdiv 262144 < 3 := by
  rw [Int.fdiv_eq_ediv_of_nonneg _ (by omega)]
  omega
section
variable {prog : Program} {w : World} {A : Around} {E : Value → Shared → Prop} {s : Shared} {value slice : PySem.Expr} {h₀ : Heap} {L l : Addr} {news : List (Addr × Obj)} {k : Nat} {i : Int} {Q : Value → Shared → Prop}
theorem pick3 {t1 t2 t3 ti : Tok} (N : News h₀ L s.heap news) (hm : (l, listOf #[.str (Str.ofString "") t1, .str (Str.ofString "\\(") t2, .str (Str.ofString "\\)") t3] k) ∈ news) (h0 : 0 ≤ i ∧ i < 3)
    (h : ∀ x t, Sfx x → x.length ≤ 2 → Q (.str (S x) t) s)
    (hs : subscripted slice false (.ref l) (.int i ti) = operate [.ref l, .int i ti] (getItem (.ref l) (.int i ti)) := by with_unfolding_all rfl) :
    wpAny (model prog w) A (subscriptTail value slice (.ref l) (.int i ti)) Q E s := by
  have e : i = 0 ∨ i = 1 ∨ i = 2 := by omega
  have e1 : Str.ofString "" = S [] := by decide
  have e2 : Str.ofString "\\(" = S [92, 40] := by decide
  have e3 : Str.ofString "\\)" = S [92, 41] := by decide
  rw [e1, e2, e3] at hm
  rcases e with e | e | e <;> subst e
  · exact Lr_item (vs := [.str (S []) t1, .str (S [92, 40]) t2, .str (S [92, 41]) t3]) N hm (by decide) (by decide) rfl (h _ _ (.inl rfl) (by decide)) hs
  · exact Lr_item (vs := [.str (S []) t1, .str (S [92, 40]) t2, .str (S [92, 41]) t3]) N hm (by decide) (by decide) rfl (h _ _ (.inr (.inl rfl)) (by decide)) hs
  · exact Lr_item (vs := [.str (S []) t1, .str (S [92, 40]) t2, .str (S [92, 41]) t3]) N hm (by decide) (by decide) rfl (h _ _ (.inr (.inr rfl)) (by decide)) hs
end
local macro_rules | `(tactic| walk_at "subscriptTail List cons BinOp ref int") => `(tactic| k_extra "subscriptTail")
theorem parts5 {a b x1 x2 x3 x4 x5 : List Nat} {t1 t2 t3 t4 t5 : Tok} : PartsAre [.str (S (pc a b 0 x1)) t1, .str (S (pc a b 1 x2)) t2, .str (S (pc a b 2 x3)) t3, .str (S (pc a b 3 x4)) t4, .str (S (pc a b 4 x5)) t5] (ps5 a b x1 x2 x3 x4 x5) :=
  .cons (.cons (.cons (.cons (.cons .nil))))
theorem pc_len {a b x : List Nat} {k : Nat} (h : Sfx x) : (pc a b k x).length ≤ 64 := by
  have := h.len
  unfold pc
  simp only [List.length_append, List.length_take, List.length_drop]
  omega
theorem ps5_len {a b x1 x2 x3 x4 x5 : List Nat} (h1 : Sfx x1) (h2 : Sfx x2) (h3 : Sfx x3) (h4 : Sfx x4) (h5 : Sfx x5) : ∀ p ∈ ps5 a b x1 x2 x3 x4 x5, p.length ≤ 64 := by
  intro p hp
  unfold ps5 at hp
  simp only [List.mem_cons, List.not_mem_nil, or_false] at hp
  rcases hp with rfl | rfl | rfl | rfl | rfl
  · exact pc_len h1
  · exact pc_len h2
  · exact pc_len h3
  · exact pc_len h4
  · exact pc_len h5
theorem Br.depth_le : ∀ t : Br, t.depth + 1 ≤ t.leaves.length
  | .leaf _ => by show 0 + 1 ≤ 1; omega
  | .node a b => by
    have h1 := a.depth_le
    have h2 := b.depth_le
    show max a.depth b.depth + 1 + 1 ≤ (a.leaves ++ b.leaves).length
    rw [List.length_append]; omega
theorem d5 {a b x1 x2 x3 x4 x5 : List Nat} {t : Br} (ht : t.leaves = ps5 a b x1 x2 x3 x4 x5) : t.depth ≤ 4 := by
  have := t.depth_le
  rw [ht] at this
  have e : (ps5 a b x1 x2 x3 x4 x5).length = 5 := rfl
  omega
section
variable {w : World} {mean : ExcName → Option Value} {mg mb : Str → Option Value} {dp un : Nat} {gd : Option (List Code)} {cn : Str} {cs : Scope} {a : Addr} {ccd : Value} {cl : List (Str × Addr)} {outer : List Env} {A₀ : Around} {base h₀ : Heap} {L : Addr} {m : Str → Option Value} {news : List (Addr × Obj)} {s : Shared} {Q E : Value → Shared → Prop}
theorem use_br5 (B : Below A₀ base outer h₀) (F : Fr h₀ L s.heap m) (X : (hd.heap_39 w.params).In h₀) (N : News h₀ L s.heap news) (T : Top hd.view_39 (looseW hd.view_39 []) mean mg mb h₀) (hk : cs.kind = .function)
    {wa wb x1 x2 x3 x4 x5 : List Nat} {c : Int} {l : Addr} {vs : List Value} {k : Nat} {tk : Tok} (hm : (l, listOf vs.toArray k) ∈ news) (hp : PartsAre vs (ps5 wa wb x1 x2 x3 x4 x5))
    (h1 : Sfx x1) (h2 : Sfx x2) (h3 : Sfx x3) (h4 : Sfx x4) (h5 : Sfx x5) (hd : dp + 5 < recursionLimit) (hu : un + 40 < cLine)
    (ret : ∀ (t : Br) tk' h' k, Fr h₀ L h' m → News h₀ L h' news → t.leaves = ps5 wa wb x1 x2 x3 x4 x5 → t.text.length ≤ 2000 → Q (.str (S t.text) tk') { s with heap := h', toks := k }) :
    wpAny (model PySem.Challenge.rw_wa0006_01.row.prog w) (ktrTop dp un gd cn cs L a ccd cl outer) (call (.ref 77) [.ref l, .int c tk]) Q E s :=
  use_br_of B F X N T hk (br_tells (ps5 wa wb x1 x2 x3 x4 x5, c) w mean mg mb) hm hp (show 1 ≤ 5 by decide) (show 5 ≤ 16 by decide) (ps5_len h1 h2 h3 h4 h5) hd hu ret
end
section
variable {prog : Program} {w : World} {A : Around} {E : Value → Shared → Prop} {s : Shared} {value slice : PySem.Expr} {h₀ : Heap} {L l : Addr} {news : List (Addr × Obj)} {k : Nat} {i : Int} {Q : Value → Shared → Prop}
theorem pick2 {t1 t2 ti : Tok} (N : News h₀ L s.heap news) (hm : (l, listOf #[.str (Str.ofString "") t1, .str (Str.ofString "B") t2] k) ∈ news) (h0 : i = 0 ∨ i = 1)
    (h : ∀ t, Q (.str (S (preB i)) t) s)
    (hs : subscripted slice false (.ref l) (.int i ti) = operate [.ref l, .int i ti] (getItem (.ref l) (.int i ti)) := by with_unfolding_all rfl) :
    wpAny (model prog w) A (subscriptTail value slice (.ref l) (.int i ti)) Q E s := by
  have e1 : Str.ofString "" = S [] := by decide
  have e2 : Str.ofString "B" = S [66] := by decide
  rw [e1, e2] at hm
  rcases h0 with e | e <;> subst e
  · exact Lr_item (vs := [.str (S []) t1, .str (S [66]) t2]) N hm (by decide) (by decide) rfl (h _) hs
  · exact Lr_item (vs := [.str (S []) t1, .str (S [66]) t2]) N hm (by decide) (by decide) rfl (h _) hs
theorem lst_rule {l : List Nat} {t u : Tok} (hsz : l.length ≤ 16777216) (h : ∀ t' k, Q (.str (S (l.dropWhile (fun x => x == 65))) t') { s with toks := k }) :
    wpAny (model prog w) A (call (.builtin "str.lstrip") [.str (S l) t, .str (Str.ofString "A") u]) Q E s :=
  SC.lstripChars (fun t' k => by rw [lstrip_S]; exact h t' k) (by rw [S_len, sizeLine_eq]; exact hsz)
theorem ne_int_no {a b : Int} {t u : Tok} (e : a = b) (h : Q (.bool false) s) : wpAny (model prog w) A (compareOp .NotEq (.int a t) (.int b u)) Q E s := by
  subst e
  exact IsLeap.wpAny_ne_int (by rw [show (a != a) = false by simp]; exact h)
end
theorem toT_size : ∀ t : Br, (toT t).size + 4 = 8 * t.leaves.length
  | .leaf _ => rfl
  | .node a b => by
    have h1 := toT_size a
    have h2 := toT_size b
    show (toT a).size + (toT b).size + 4 + 4 = 8 * (a.leaves ++ b.leaves).length
    rw [List.length_append]; omega
theorem sz5 {a b x1 x2 x3 x4 x5 : List Nat} {t : Br} (ht : t.leaves = ps5 a b x1 x2 x3 x4 x5) : (toT t).size ≤ 36 := by
  have := toT_size t
  rw [ht] at this
  have e : (ps5 a b x1 x2 x3 x4 x5).length = 5 := rfl
  omega
theorem told_len {t : T} (h : okT t) (hs : t.size ≤ 36) : ∀ c : Int, c = 0 ∨ c = 1 → (preB (pk (ov t) c)).length + (letC t c).length ≤ 16777216 := by
  intro c hc
  have := letC_len h hc
  have e : (preB (pk (ov t) c)).length ≤ 1 := by unfold preB; split <;> decide
  omega
local macro_rules | `(tactic| walk_at "subscriptTail List cons Subscript ref int") => `(tactic| k_extra "pick2")
local macro_rules | `(tactic| walk_at "subscriptTail Call Name cons nil Name ref int") => `(tactic| k_extra "pairI")
local macro_rules | `(tactic| walk_at "compareOp NotEq str str") => `(tactic| k_extra "compareOp NotEq str str")
local macro_rules | `(tactic| walk_at "compareOp NotEq int int") => `(tactic| k_extra "compareOp NotEq int int")
local macro_rules | `(tactic| walk_at "call builtin:str.lstrip") => `(tactic| k_extra "call builtin:str.lstrip")
local macro_rules | `(tactic| walk_at "call builtin:bytes.decode") => `(tactic| k_extra "call builtin:bytes.decode")
theorem gf_bare {a g : Array GenState} (h : GF a g) (e : a = #[]) : AllBare g := by
  obtain ⟨k, rfl⟩ := h
  subst e
  intro y hy
  rw [Array.mem_append] at hy
  rcases hy with hy | hy
  · simp at hy
  · rw [Array.mem_replicate] at hy
    rw [hy.2]; rfl
theorem goodWG_bool {c : ClaimW} {cl : Str → Option Addr} {mean : ExcName → Option Value} {args : List WData} {s₁ s' : Shared} {L : Addr} {m : Str → Option Value} {b : Bool} (F : Fr s₁.heap L s'.heap m) (hg : AllBare s'.gens) (hn : ∀ cls, c.raises args cls = false) (hp : c.post args (.bool b) args = true) (hos : s'.os = s₁.os := by rfl) :
    GoodWG c cl mean args s₁ (.ok (.ret (.bool b))) s' :=
  ⟨.inl ⟨.bool b, .bool b, [], rfl, hn, .bool b, hp, unshared_nil⟩, .of_keep F.keep, hos, hg⟩
local macro_rules | `(tactic| walk_at "exec For Tuple Call cons nil") => `(tactic| k_extra "exec For T")
local macro_rules | `(tactic| walk_at "subscriptTail Subscript Name Constant Slice str ref") => `(tactic| k_extra "midS")
local macro_rules | `(tactic| walk_at "binaryOp Add str str") => `(tactic| k_extra "binaryOp Add str str")
local macro_rules | `(tactic| walk_at "exec For Name List cons nil") => `(tactic| k_extra "exec For L")
local macro_rules | `(tactic| walk_at "exec For Name Name cons nil") => `(tactic| k_extra "exec For N")
local macro_rules | `(tactic| walk_at "execs cons") => `(tactic| k_extra "execs cons")

local macro_rules | `(tactic| walk_at "call builtin:list.append") => `(tactic| k_extra "call builtin:list.append")
local macro_rules | `(tactic| walk_at "call ref") => `(tactic| k_extra "call ref")

local macro_rules | `(tactic| walk_at "newList") => `(tactic| k_extra "newList")
theorem fr_eqm {h₀ h : Heap} {L : Addr} {m m' : Str → Option Value} (F : Fr h₀ L h m) (e : ∀ y, m' y = m y) : Fr h₀ L h m' := by
  rw [show m' = m from funext e]; exact F
def TurnQ (h₀ : Heap) (L : Addr) (m : Str → Option Value) (nn : List (Addr × Obj)) (s : Shared) (f : Flow) (s' : Shared) : Prop :=
  f = .next ∧ ∃ h' tk' tv tl, s' = { s with heap := h', toks := tk' } ∧ Fr h₀ L h' (fun y => if y = Str.ofString "told" then some tv else m y) ∧ News h₀ L h' (nn ++ tl)
theorem fr_shape4 {h₀ h : Heap} {L : Addr} {m : Str → Option Value} {x y z u : Str} {vx vy vz vu : Value} (F : Fr h₀ L h m) (hx : m x = some vx) (hy : m y = some vy) (hz : m z = some vz) (hu : m u = some vu) :
    Fr h₀ L h (fun a => if a = x then some vx else if a = y then some vy else if a = z then some vz else if a = u then some vu else m a) := by
  refine fr_eqm F fun a => ?_
  split
  · rename_i e; rw [e, hx]
  · split
    · rename_i e; rw [e, hy]
    · split
      · rename_i e; rw [e, hz]
      · split
        · rename_i e; rw [e, hu]
        · rfl
theorem told_fr {h₀ h : Heap} {L : Addr} {m : Str → Option Value} {d x y z u : Str} {tv vx vy vz vu : Value} (F : Fr h₀ L h (fun a => if a = d then some tv else if a = x then some vx else if a = y then some vy else if a = z then some vz else if a = u then some vu else m a))
    (hx : m x = some vx) (hy : m y = some vy) (hz : m z = some vz) (hu : m u = some vu) : Fr h₀ L h (fun a => if a = d then some tv else m a) := by
  refine fr_eqm F fun a => ?_
  split
  · rfl
  · split
    · rename_i e; rw [e, hx]
    · split
      · rename_i e; rw [e, hy]
      · split
        · rename_i e; rw [e, hz]
        · split
          · rename_i e; rw [e, hu]
          · rfl
theorem abs_fr {h₀ h : Heap} {L : Addr} {m : Str → Option Value} {x y z u : Str} {vx vy vz vu : Value} (F : Fr h₀ L h m) (hx : m x = some vx) (hy : m y = some vy) (hz : m z = some vz) (hu : m u = some vu) :
    ∃ m' : Str → Option Value, m' = m ∧ Fr h₀ L h (fun a => if a = x then some vx else if a = y then some vy else if a = z then some vz else if a = u then some vu else m' a) ∧ m' x = some vx ∧ m' y = some vy ∧ m' z = some vz ∧ m' u = some vu :=
  ⟨m, rfl, fr_shape4 F hx hy hz hu, hx, hy, hz, hu⟩
theorem abs_nn {h₀ h : Heap} {L : Addr} {nn ns : List (Addr × Obj)} {r : Value} {t : T} (N : News h₀ L h nn) (wT : TreeIn ns r t) (hs : ∀ p ∈ ns, p ∈ nn) : ∃ nn', nn' = nn ∧ News h₀ L h nn' ∧ TreeIn nn' r t := ⟨nn, rfl, N, wT.mono hs⟩
theorem turn_end {h₀ : Heap} {L : Addr} {m m₀ u : Str → Option Value} {x : Str} {nn news own : List (Addr × Obj)} {pre : List Int} {s : Shared} {Q : Flow → Shared → Prop} {v : Value} (hm : m = fun y => if y = x then some v else kstB (fun z => if [Str.ofString "told"].contains z then u z else m₀ z) [] y)
    (hn : nn = news ++ own) (f : Flow) (s' : Shared)
    (hq : TurnQ h₀ L m nn s f s') : InvPostN h₀ L (KstS (fun _ : Unit => news) (fun _ => []) (fun _ => True) x [Str.ofString "told"] m₀ (fun _ _ => True) pre) own (news.map (·.1)) s Q f s' := by
  obtain ⟨rfl, h', tk', tv, tl, rfl, F', N'⟩ := hq
  subst hn
  refine ⟨h', tk', _, _, news, rfl, F', N', fun p hp => by simp [hp], fun p hp => by simp [hp], rfl, (), rfl, trivial, fun p hp => (nomatch hp), ?_, trivial⟩
  intro z hz _ hs
  subst hm
  have hs' : z ≠ Str.ofString "told" := by
    intro e; subst e; simp at hs
  show (if z = Str.ofString "told" then some tv else if z = x then some v else (if [Str.ofString "told"].contains z then u z else m₀ z)) = m₀ z
  rw [if_neg hs', if_neg hz, hs]
  rfl
set_option maxRecDepth 100000 in
set_option maxHeartbeats 16000000 in
theorem law0 : PySem.Challenge.rw_wa0006_01.Holds := hd (by
  k_fill
  intro w s₀ s₁ mg mb G Y fa o pm cd doc dV kV ho hd hcd hD hmg hg args vals as hpre hlay hrd hwl hlo
  have KX := kIn_of Y
  have X := (Ground.X G).1
  have V := (Ground.X G).2
  try w_nolog (first | (have GL := glob_more (Ground.glob G (by first | k_qdec | decide +kernel) (by first | k_qdec | decide +kernel)) V) | (have GL := glob_more (Ground.glob G (by decide +kernel)) V))
  refine Ground.open G ?_
  intro T B D TE TW
  try (refine guard_noD D (by decide +kernel) ?_; clear D)
  obtain ⟨_, _, M⟩ := bmod_of_top T
  have TA := at_of_top T
  try (obtain ⟨_, _, he, B0⟩ := based_of_top T rfl hmg ho hd; have he' : cd = _ := he; subst he'; clear he)
  clear hmg
  wrow_args hpre hlay hrd hwl hlo
  first | refine callC_kw (enter_call ?_) | refine enter_call ?_ | refine callC_kw (enter_callW ?_) | refine enter_callW ?_ | w_how
  w_top on
  have K0 := below_caller (Top.heap T)
  w_call any ho hd hcd hD T F
  clear hd TA
  k_drop
  try k_fold
  k_with_none
  k_with "exec For N" => (refine of_stop ?_)
  k_with "exec For T" => (refine of_stop ?_)
  k_steps
  rename_i hI8 hL8 D' h2' tk' o1' h1' h' F' N'
  obtain ⟨ds, hds5, hdsr, hI⟩ := draws_ok hI8
  clear hI8 hL8
  have hL8 : ys.length = ds.length := hI.length
  refine to_stop ?_
  k_with_none
  k_with "exec For T" => (refine of_stop ?_)
  k_with "pyIter ref" => k_state (fun pre o m => Lst pre.length o m) "one" "other"
  k_with "state" => first | exact lst0 | (refine of_stop ?_)
  k_with "execs cons" => (refine of_stop ?_)
  k_steps
  · refine to_stop ?_
    k_with_none
    k_with "state" => (refine of_stop ?_)
    have q1 := fm (a := kN) (k := 256) (by decide)
    k_with "subscriptTail" => (refine of_stop ?_)
    k_steps
    refine to_stop ?_
    dsimp only
    refine' item4 ?k1 ?k2 ?k3 ?k4 ?k5 ?k6 ?k7 ?_
    (case k1 => k_asm)
    (case k2 => k_memK)
    (case k3 => exact fm (by decide)); (case k4 => omega); (case k5 => exact fm (by decide)); (case k6 => exact fm (by decide)); (case k7 => split <;> omega)
    intro kn kt hkn
    rename_i h90 h91 tk9 l9 h9 F9 N9 o9
    dsimp only at F9 N9
    replace N9 := kst_newsOf N9 (l' := _ :: _) (fun p hp => List.mem_cons_of_mem _ hp)
    k_with_none
    k_with "state" => exact lst_turn (by assumption) (by assumption) (by assumption)
    k_steps
  refine to_stop ?_
  dsimp only
  rename_i one t1 other t2 kB9 kLen9
  rename Lst ds.length one other => hLst
  obtain ⟨ho0, ho1, hm0, hm1⟩ : 0 ≤ one ∧ one < 1099511627776 ∧ 0 ≤ other ∧ other < 1099511627776 := by rw [hds5] at hLst; exact hLst
  obtain ⟨v1, v2, v3, v4, v5, u1, u2, u3, u4, u5, rfl, rfl⟩ := five hI hds5
  have hv1 := hdsr v1 (by simp)
  have hv2 := hdsr v2 (by simp)
  have hv3 := hdsr v3 (by simp)
  have hv4 := hdsr v4 (by simp)
  have hv5 := hdsr v5 (by simp)
  have hw1 := wl10 ho0 ho1
  have hw2 := wl10 hm0 hm1
  k_with_none
  k_with "exec For T" => (refine of_stop ?_)
  k_with "call ref" => (k_dflt (refine' use_word ?k1 ?k2 ?k3 ?k4 ?k5 ?kK ?h0 ?h1 ?h2 ?h3 ?kd ?ku ?_; (case k1 => k_asm); (case k2 => k_asm); (case k3 => k_asm); (case k4 => k_asm); (case k5 => k_asm); (case kK => first | exact rfl | assumption); (case h0 => omega); (case h1 => omega); (case h2 => omega); (case h3 => omega); (case kd => ktr_room); (case ku => ktr_units)); intro _ _ _ _ _; (try dsimp only); (try k_fold))
  k_steps
  refine to_stop ?_
  rename_i one_h k7 h8 h7 o7 F7 N7
  k_with_none
  k_with "subscriptTail" => (dsimp only; refine' pick3 ?k1 ?k2 ?k3 ?_; (case k1 => k_asm); (case k2 => k_memK); (case k3 => exact fd3 (by assumption)); intro _ _ _ _)
  k_with "midS" => (refine' Sr_mid rfl ?k1 ?k2 ?k3 ?k4 ?k5 ?_; (case k1 => k_asm); (case k2 => k_asm); (case k3 => decide); (case k4 => decide); (case k5 => omega); intro _ _ _ _ _; (try dsimp only))
  k_with "binaryOp Add str str" => (refine' Sr_add rfl rfl ?k1 ?_; (case k1 => (simp only [List.length_append, List.length_take, List.length_drop]; omega)); intro _ _)
  k_with "call ref" => (refine of_stop ?_)
  k_with "exec For L" => (refine of_stop ?_)
  k_with "call builtin:list.append" => ((show wpAny _ _ (call (Value.builtin _) [Value.ref _, _]) _ _ _); k_dflt (refine' append_K ?k1 ?k2 ?k3 ?_ ?z; (case k1 => k_asm); (case k2 => k_asm); (case k3 => k_upd); (case z => size_fits); k_whole); intro _ _ _; (try k_sweep); (try dsimp only))
  k_steps
  refine to_stop ?_
  k_with_none
  k_with "exec For L" => (refine of_stop ?_)
  k_with "call ref" => (k_dflt (refine' use_br5 ?k1 ?k2 ?k3 ?k4 ?k5 ?kK ?hm ?hp ?h1 ?h2 ?h3 ?h4 ?h5 ?kd ?ku ?_; (case k1 => k_asm); (case k2 => k_asm); (case k3 => k_asm); (case k4 => k_asm); (case k5 => k_asm); (case kK => first | exact rfl | assumption); (case hm => k_memK); (case hp => exact parts5); (case h1 => assumption); (case h2 => assumption); (case h3 => assumption); (case h4 => assumption); (case h5 => assumption); (case kd => ktr_room); (case ku => ktr_units)); intro bt _ _ _ _ _ hbt hbl; (have hbt' := hbt); (have hokB : okB bt := ok5 hw1 hw2 wch wch (by assumption) (by assumption) (by assumption) (by assumption) (by assumption) hbt'); (have hbd := d5 hbt'); (try dsimp only); (try k_fold))
  k_with "call ref" => (k_dflt (refine' use_read_of (read_tells bt hokB (by omega)) ?k1 ?k2 ?k3 ?k4 ?k5 ?kK ?kd ?ku ?_; (case k1 => k_asm); (case k2 => k_asm); (case k3 => k_asm); (case k4 => k_asm); (case k5 => k_asm); (case kK => first | exact rfl | assumption); (case kd => ktr_room); (case ku => ktr_units)); intro wr wtl wh wtk wg wF wN wG wT; (try dsimp only); (try k_fold))
  k_steps
  refine to_stop ?_
  have hsz := sz5 hbt
  have hokT := okT_of hokB
  have hlen := told_len hokT hsz
  have hfacts := told_facts ho0 ho1 hm0 hm1 hokT hbt
  k_with_none
  k_with "call ref" => (refine of_stop ?_)
  k_with "exec For L" => ((rename Fr _ _ _ _ => lF'); (with_unfolding_all refine' For_invVF lF' ?k1 ?k2 ?_; (case k1 => exact rfl); (case k2 => exact rfl); k_whole))
  k_with "pyIter ref" => (refine of_stop ?_)
  k_steps
  refine to_stop ?_
  dsimp only
  rename News _ _ _ _ => N6
  refine' kst_listL (fun _ : Unit => _) (fun _ => []) (fun _ => True) [Str.ofString "told"] (fun _ _ => True) () ?k1 ?k2 ?k3 ?k4 ?k5 ?k6 ?k7 ?k8 ?turn ?done
  (case k1 => (exact rfl))
  (case k5 => (exact N6))
  (case k4 => k_asm)
  (case k2 => (intro _; k_memK))
  (case k3 => (exact IntsAre.cons 0 _ (IntsAre.cons 1 _ IntsAre.nil)))
  (case k6 => trivial)
  (case k7 => intro p hp; cases hp)
  (case k8 => trivial)
  case turn =>
    intro c5 pre5 post5 cn ct u5 h5 tk5 own5 hns hn5 hoff5 _ _ F5 N5
    replace hns : cn = 0 ∨ cn = 1 := by simpa using hn5
    obtain ⟨nn, hnn, N7, wT7⟩ := abs_nn N5 wT (fun p hp => List.mem_append.mpr (.inl (.tail _ hp)))
    obtain ⟨m5, hm5, F7, m51, m52, m53, m54⟩ := abs_fr (x := Str.ofString "carry") (y := Str.ofString "whole") (z := Str.ofString "one") (u := Str.ofString "other") (vx := .int cn ct) (vy := wr) (vz := .int one t1) (vu := .int other t2) F5 rfl rfl rfl rfl
    refine wpAny_mono (Q := TurnQ _ _ m5 nn { heap := h5, gens := wg, drawn := s₁.drawn, toks := tk5, os := s₁.os }) (E := NO) ?walk (turn_end (v := .int cn ct) (u := u5) hm5 hnn) (fun _ _ e => e.elim)
    have hfacts7 := hfacts cn hns
    have hlen7 := hlen cn hns
    obtain ⟨sd, hsd⟩ : ∃ sd, sd = s₁.drawn := ⟨_, rfl⟩
    obtain ⟨so, hso⟩ : ∃ so, so = s₁.os := ⟨_, rfl⟩
    dsimp only
    rw [← hsd, ← hso]
    clear F5 N5 wT N6 kNews kFr hlen hfacts
    have hp7 : pk (ov (toT bt)) cn = 0 ∨ pk (ov (toT bt)) cn = 1 := by rcases hns with rfl | rfl; exact (ov01 _).1; exact (ov01 _).2
    k_with_none
    k_with "call ref" => (k_dflt (refine' use_ov_of (ov_tells (toT bt) w (ExcName.means s₀.heap) mg mb) ?k1 ?k2 ?k3 ?k4 ?k5 ?kK ?kR ?kd ?ku ?_; (case k1 => k_asm); (case k2 => k_asm); (case k3 => k_asm); (case k4 => k_asm); (case k5 => k_asm); (case kK => first | exact rfl | assumption); (case kR => exact TreeIn.mono wT7 (fun p hp => .tail _ hp)); (case kd => ktr_room); (case ku => ktr_units)); intro a8 tl8 k8 x8 y8 h8 tk8 F8 N8 hl8 hm8; (try dsimp only); (try k_fold))
    k_with "pairI" => ((have q8 := hm8; clear q8); refine' pair_item ?N ?hm hns ?_; (case N => k_asm); (case hm => exact hm8); intro _)
    k_with "pick2" => (refine' pick2 ?N ?hm hp7 ?_; (case N => k_asm); (case hm => k_memK); intro _)
    k_with "call ref" => (k_dflt (refine' use_let_of ?k1 ?k2 ?k3 ?k4 ?k5 ?kK (let_tells (toT bt, cn) w (ExcName.means s₀.heap) mg mb) ?kR hokT hns ?kd ?ku ?_; (case k1 => k_asm); (case k2 => k_asm); (case k3 => k_asm); (case k4 => k_asm); (case k5 => k_asm); (case kK => first | exact rfl | assumption); (case kR => exact TreeIn.mono wT7 (fun p hp => List.mem_append.mpr (.inl (.tail _ hp)))); (case kd => ktr_room); (case ku => ktr_units)); intro _ _ _ _ _; (try dsimp only); (try k_fold))
    k_with "binaryOp Add str str" => (refine Sr_add rfl rfl hlen7 ?_; intro _ _)
    k_with "call builtin:str.lstrip" => (refine lst_rule (by rw [List.length_append]; exact hlen7) ?_; intro _ _)
    k_with "call builtin:bytes.decode" => (refine dec_ruleC (by omega) ?_; intro _ _)
    k_with "compareOp NotEq str str" => (refine ne_str_no (congrArg S hfacts7.1) ?_)
    k_with "compareOp NotEq int int" => (refine ne_int_no hfacts7.2.1 ?_)
    k_with "call ref" => (k_dflt (refine' use_ap ?k1 ?k2 ?k3 ?k4 ?k5 ?kK ?h0 ?h1 ?kd ?ku ?_; (case k1 => k_asm); (case k2 => k_asm); (case k3 => k_asm); (case k4 => k_asm); (case k5 => k_asm); (case kK => first | exact rfl | assumption); (case h0 => omega); (case h1 => omega); (case kd => ktr_room); (case ku => ktr_units)); intro _ _ _ _ _; (try dsimp only); (try k_fold))
    k_with "call ref" => (k_dflt (refine' use_num ?k1 ?k2 ?k3 ?k4 ?k5 ?kK hfacts7.2.2 ?kd ?ku ?_; (case k1 => k_asm); (case k2 => k_asm); (case k3 => k_asm); (case k4 => k_asm); (case k5 => k_asm); (case kK => first | exact rfl | assumption); (case kd => ktr_room); (case ku => ktr_units)); intro _ _ _ _ _; (try dsimp only); (try k_fold))
    k_steps
    rename Fr _ _ _ _ => FE
    rename News _ _ _ _ => NE
    exact ⟨rfl, _, _, _, [], rfl, told_fr FE m51 m52 m53 m54, kst_newsOf NE (fun p hp => List.mem_append.mpr (.inl (.tail _ (by rw [List.append_nil] at hp; exact hp))))⟩
  case done =>
    intro c5 u5 h5 tk5 _ _ F5 N5
    clear N6 kNews kFr
    k_with_none
    k_steps
    show GoodWG _ _ _ _ _ (.ok (.ret (.bool true))) _
    exact goodWG_bool F5 (gf_bare wG hg) (law_raises _) (law_post _))
end Mine
end

theorem PySem.Challenge.cw_wa0006_01_holds : PySem.Challenge.rw_wa0006_01.Holds :=
  Mine.law0
