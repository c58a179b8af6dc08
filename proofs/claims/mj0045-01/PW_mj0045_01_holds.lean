import PyProof.Rows.All
import Wide.All
import OpenK.AllK
import Wide.FinOn
import PySem.Challenge.RW_mj0045_01
set_option Elab.async false
set_option linter.unusedVariables false

section
open PySem PySem.W PyProof.Rows
namespace Mine
set_option maxRecDepth 100000 in
set_option maxHeartbeats 8000000 in
open_top hd for PySem.Challenge.rw_mj0045_01
end Mine
end

section
open PySem PySem.W PyProof.Rows
set_option maxRecDepth 100000
namespace Mine
theorem fill : (∀ p, hd.heap_39 p = hd.heap_39 p) ∧ (PySem.Challenge.rw_mj0045_01 = PySem.Challenge.rw_mj0045_01) := by w_top off; k_fill; exact ⟨fun _ => rfl, rfl⟩
/-- a call of the text's def at f, d frames deep: whatever the caller, it hands R back and leaves frame and ledger -/
abbrev Calls (d : Nat) (w : World) (mean : ExcName → Option Value) (mg mb : Str → Option Value) (f : Addr) (news : List (Addr × Obj)) (vs : List Value) (kw : List (Str × Value)) (R : Tok → Value) : Prop :=
  ∀ (dp un : Nat) (gd : Option (List Code)) (cn : Str) (cs : Scope) (a : Addr) (ccd : Value) (cl : List (Str × Addr)) (outer : List Env) (A₀ : Around) (base h₀ : Heap) (L : Addr) (m : Str → Option Value) (s : Shared) (Q E : Value → Shared → Prop),
    Below A₀ base outer h₀ → Fr h₀ L s.heap m → (hd.heap_39 w.params).In h₀ → News h₀ L s.heap news → Top hd.view_39 (looseW hd.view_39 [Str.ofString "b2a_base64", Str.ofString "b64encode"]) mean mg mb h₀ → cs.kind = .function →
    dp + d < recursionLimit → un + 8 * d < cLine →
    (∀ (t : Tok) (h' : Heap) (tk' : Nat), Fr h₀ L h' m → News h₀ L h' news → Q (R t) { s with heap := h', toks := tk' }) →
      wpAny (model PySem.Challenge.rw_mj0045_01.row.prog w) (ktrTop dp un gd cn cs L a ccd cl outer) (call (.ref f) vs kw) Q E s
theorem Calls.go {d : Nat} {w : World} {mean : ExcName → Option Value} {mg mb : Str → Option Value} {f : Addr} {news : List (Addr × Obj)} {vs : List Value} {kw : List (Str × Value)} {R : Tok → Value} (C : Calls d w mean mg mb f news vs kw R)
    {dp un : Nat} {gd : Option (List Code)} {cn : Str} {cs : Scope} {a : Addr} {ccd : Value} {cl : List (Str × Addr)} {outer : List Env} {A₀ : Around} {base h₀ : Heap} {L : Addr} {m : Str → Option Value} {s : Shared} {Q E : Value → Shared → Prop}
    (B : Below A₀ base outer h₀) (F : Fr h₀ L s.heap m) (X : (hd.heap_39 w.params).In h₀) (N : News h₀ L s.heap news) (T : Top hd.view_39 (looseW hd.view_39 [Str.ofString "b2a_base64", Str.ofString "b64encode"]) mean mg mb h₀) (hk : cs.kind = .function)
    (hd1 : dp + d < recursionLimit) (hu : un + 8 * d < cLine)
    (ret : ∀ (t : Tok) (h' : Heap) (tk' : Nat), Fr h₀ L h' m → News h₀ L h' news → Q (R t) { s with heap := h', toks := tk' }) :
    wpAny (model PySem.Challenge.rw_mj0045_01.row.prog w) (ktrTop dp un gd cn cs L a ccd cl outer) (call (.ref f) vs kw) Q E s := C _ _ _ _ _ _ _ _ _ _ _ _ _ _ _ _ _ B F X N T hk hd1 hu ret
section
variable {w : World} {mean : ExcName → Option Value} {mg mb : Str → Option Value} {news : List (Addr × Obj)} {x : Int} {t : Tok}
set_option maxHeartbeats 4000000
theorem ctoi_calls : Calls 1 w mean mg mb 58 news [.int x t] [] (fun t => .int x t) := by
  intro dp un gd cn cs a ccd cl outer A₀ base h₀ L m s Q E B F X N T hk hd' hu hret
  refine wpAny_call ?_
  k_dflt cell_enter
  k_steps
  all_goals exact hret _ _ _ (by k_asm) (by k_asm)
local macro_rules | `(tactic| walk_at "call ref") => `(tactic| (k_here; k_dflt (refine' Calls.go ctoi_calls ?k1 ?k2 ?k3 ?k4 ?k5 ?k6 ?k7 ?k8 ?_; (case k1 => k_asm); (case k2 => k_asm); (case k3 => k_asm); (case k4 => k_asm); (case k5 => k_asm); (case k6 => first | exact rfl | assumption); (case k7 => ktr_room); (case k8 => ktr_units); intro t9 h9 tk9 F9 N9; (try dsimp only); (try k_fold))))
theorem isdigit_calls : Calls 2 w mean mg mb 65 news [.int x t] [] (fun _ => .bool (decide (48 ≤ x ∧ x ≤ 57))) := by
  intro dp un gd cn cs a ccd cl outer A₀ base h₀ L m s Q E B F X N T hk hd' hu hret
  refine wpAny_call ?_
  k_dflt cell_enter
  k_steps
  all_goals (refine cb_retB (Q := Q) (fun t h' tk' F N => hret t h' tk' F N) ?_ (by k_asm) (by k_asm))
  all_goals cb_eq
theorem isgraph_calls : Calls 2 w mean mg mb 72 news [.int x t] [] (fun _ => .bool (decide (33 ≤ x ∧ x ≤ 126))) := by
  intro dp un gd cn cs a ccd cl outer A₀ base h₀ L m s Q E B F X N T hk hd' hu hret
  refine wpAny_call ?_
  k_dflt cell_enter
  k_steps
  all_goals (refine cb_retB (Q := Q) (fun t h' tk' F N => hret t h' tk' F N) ?_ (by k_asm) (by k_asm))
  all_goals cb_eq
theorem islower_calls : Calls 2 w mean mg mb 79 news [.int x t] [] (fun _ => .bool (decide (97 ≤ x ∧ x ≤ 122))) := by
  intro dp un gd cn cs a ccd cl outer A₀ base h₀ L m s Q E B F X N T hk hd' hu hret
  refine wpAny_call ?_
  k_dflt cell_enter
  k_steps
  all_goals (refine cb_retB (Q := Q) (fun t h' tk' F N => hret t h' tk' F N) ?_ (by k_asm) (by k_asm))
  all_goals cb_eq
theorem isupper_calls : Calls 2 w mean mg mb 86 news [.int x t] [] (fun _ => .bool (decide (65 ≤ x ∧ x ≤ 90))) := by
  intro dp un gd cn cs a ccd cl outer A₀ base h₀ L m s Q E B F X N T hk hd' hu hret
  refine wpAny_call ?_
  k_dflt cell_enter
  k_steps
  all_goals (refine cb_retB (Q := Q) (fun t h' tk' F N => hret t h' tk' F N) ?_ (by k_asm) (by k_asm))
  all_goals cb_eq
theorem ctrl_calls : Calls 2 w mean mg mb 93 news [.int x t] [] (fun t => .int (Builtin.bitAnd x 31) t) := by
  intro dp un gd cn cs a ccd cl outer A₀ base h₀ L m s Q E B F X N T hk hd' hu hret
  refine wpAny_call ?_
  k_dflt cell_enter
  k_steps
  all_goals (refine cb_retI (Q := Q) (fun t h' tk' F N => hret t h' tk' F N) ?_ (by k_asm) (by k_asm))
  all_goals cb_eq
theorem alt_calls : Calls 2 w mean mg mb 100 news [.int x t] [] (fun t => .int (Builtin.bitOr x 128) t) := by
  intro dp un gd cn cs a ccd cl outer A₀ base h₀ L m s Q E B F X N T hk hd' hu hret
  refine wpAny_call ?_
  k_dflt cell_enter
  k_steps
  all_goals (refine cb_retI (Q := Q) (fun t h' tk' F N => hret t h' tk' F N) ?_ (by k_asm) (by k_asm))
  all_goals cb_eq
end
end Mine
end

section
open PySem PySem.W PyProof.Rows
set_option maxRecDepth 100000
namespace Mine
theorem fill2 : (∀ p, hd.heap_39 p = hd.heap_39 p) ∧ (PySem.Challenge.rw_mj0045_01 = PySem.Challenge.rw_mj0045_01) := by k_fill; exact ⟨fun _ => rfl, rfl⟩
section
variable {w : World} {mean : ExcName → Option Value} {mg mb : Str → Option Value} {news : List (Addr × Obj)} {x : Int} {t : Tok} {b : Array UInt8}
set_option maxHeartbeats 4000000
local macro_rules | `(tactic| walk_at "call type:type") => `(tactic| (k_here; (with_reducible show wpAny _ _ (call (Value.type "type") [Value.bytes _ _]) _ _ _); refine call_type_of (Tx := "bytes") rfl (by decide +kernel) ?_))
theorem buffer_calls : Calls 1 w mean mg mb 28 news [.bytes b t] [] (fun t => .bytes b t) := by
  intro dp un gd cn cs a ccd cl outer A₀ base h₀ L m s Q E B F X N T hk hd' hu hret
  refine wpAny_call ?_
  k_dflt cell_enter
  k_steps
  all_goals exact hret _ _ _ (by k_asm) (by k_asm)
theorem truth_calls {c : Bool} : Calls 1 w mean mg mb 35 news [.bool c] [] (fun _ => .bool c) := by
  intro dp un gd cn cs a ccd cl outer A₀ base h₀ L m s Q E B F X N T hk hd' hu hret
  refine wpAny_call ?_
  k_dflt cell_enter
  k_steps
  all_goals (refine cb_retB (Q := Q) (fun t h' tk' F N => hret t h' tk' F N) ?_ (by k_asm) (by k_asm))
  all_goals cb_eq
end
end Mine
end

section
open PySem PySem.W PyProof.Rows
namespace Mine
/-- the signs of base64, by their figures -/
def b64 : List Int := [65, 66, 67, 68, 69, 70, 71, 72, 73, 74, 75, 76, 77, 78, 79, 80, 81, 82, 83, 84, 85, 86, 87, 88, 89, 90, 97, 98, 99, 100, 101, 102, 103, 104, 105, 106, 107, 108, 109, 110, 111, 112, 113, 114, 115, 116, 117, 118, 119, 120, 121, 122, 48, 49, 50, 51, 52, 53, 54, 55, 56, 57, 43, 47]
def sgn (f : Int) : Int := b64.getD f.toNat 0
abbrev RSt := List Int × Int × Int
/-- the reader's step upon a figure -/
def rd (st : RSt) (f : Int) : RSt :=
  if st.2.2 = 6 then (st.1 ++ [(st.2.1 * 64 + f) / 16], (st.2.1 * 64 + f) % 16, 4)
  else if st.2.2 = 4 then (st.1 ++ [(st.2.1 * 64 + f) / 4], (st.2.1 * 64 + f) % 4, 2)
  else if st.2.2 = 2 then (st.1 ++ [st.2.1 * 64 + f], 0, 0)
  else (st.1, st.2.1 * 64 + f, 6)
def r0 : RSt := ([], 0, 0)
theorem bitOr_byte (x k : Int) (hx : 0 ≤ x) (h0 : 0 ≤ k) (h1 : k < 256) : Builtin.bitOr (x * 256) k = x * 256 + k := by
  have h : Builtin.bitAnd (x * 256) k = 0 := by
    rw [bitAnd_pp (by omega) h0]
    have e1 := nat_or_add_and (x * 256).toNat k.toNat
    have e2 := Nat.shiftLeft_add_eq_or_of_lt (b := k.toNat) (i := 8) (by omega) x.toNat
    rw [Nat.shiftLeft_eq] at e2
    have e3 : (x * 256).toNat = x.toNat * 2 ^ 8 := by omega
    rw [e3] at e1 ⊢
    omega
  rw [bitOr_and, h]; omega
theorem bitOr_alt (x : Int) (h0 : 0 ≤ x) (h1 : x < 256) : Builtin.bitOr x 128 = x % 128 + 128 := by
  have h : ∀ n : Fin 256, Builtin.bitOr ((n.val : Nat) : Int) 128 = ((n.val : Nat) : Int) % 128 + 128 := by decide +kernel
  have := h ⟨x.toNat, by omega⟩
  simp only [Int.toNat_of_nonneg h0] at this
  exact this
/-- the encoder's state: out is the signs of figures, from which the reader has all but the held-back part -/
def EncSt (pre out : List Int) (lb lc : Int) : Prop :=
  ∃ figs : List Int, out = figs.map sgn ∧ (∀ f ∈ figs, 0 ≤ f ∧ f < 64) ∧ 0 ≤ lc ∧ lc < 65536 ∧ (6 * figs.length : Int) + lb = 8 * pre.length ∧
    ((lb = 0 ∧ figs.foldl rd r0 = (pre, 0, 0)) ∨
     (lb = 2 ∧ ∃ p x, pre = p ++ [x] ∧ 0 ≤ x ∧ x < 256 ∧ lc % 256 = x ∧ figs.foldl rd r0 = (p, x / 4, 6)) ∨
     (lb = 4 ∧ ∃ p x, pre = p ++ [x] ∧ 0 ≤ x ∧ x < 256 ∧ lc % 256 = x ∧ figs.foldl rd r0 = (p, x / 16, 4)))
theorem encSt_nil : EncSt [] [] 0 0 := ⟨[], rfl, by simp, by decide, by decide, by simp, .inl ⟨rfl, rfl⟩⟩
theorem EncSt.lb {pre out : List Int} {lb lc : Int} (h : EncSt pre out lb lc) : lb = 0 ∨ lb = 2 ∨ lb = 4 := by
  obtain ⟨_, _, _, _, _, _, h⟩ := h
  rcases h with ⟨h, _⟩ | ⟨h, _⟩ | ⟨h, _⟩ <;> simp [h]
theorem EncSt.len {pre out : List Int} {lb lc : Int} (h : EncSt pre out lb lc) : (6 * out.length : Int) + lb = 8 * pre.length ∧ 0 ≤ lc ∧ lc < 65536 := by
  obtain ⟨_, rfl, _, h1, h2, h3, _⟩ := h
  simp only [List.length_map]
  exact ⟨h3, h1, h2⟩
theorem figs_snoc {figs : List Int} {f : Int} (h : ∀ f ∈ figs, 0 ≤ f ∧ f < 64) (h0 : 0 ≤ f) (h1 : f < 64) : ∀ g ∈ figs ++ [f], 0 ≤ g ∧ g < 64 := by
  intro g hg
  rcases List.mem_append.mp hg with hg | hg
  · exact h g hg
  · rw [List.mem_singleton.mp hg]; exact ⟨h0, h1⟩
theorem map_snoc (figs : List Int) (f : Int) : figs.map sgn ++ [sgn f] = (figs ++ [f]).map sgn := by simp
theorem encSt_0 {pre out : List Int} {lc k : Int} (h : EncSt pre out 0 lc) (hk0 : 0 ≤ k) (hk1 : k < 256) :
    EncSt (pre ++ [k]) (out ++ [sgn (((lc * 256 + k) % 65536 / 4) % 64)]) 2 ((lc * 256 + k) % 65536) := by
  obtain ⟨figs, rfl, hf, h1, h2, h3, h⟩ := h
  rcases h with ⟨_, h⟩ | ⟨h, _⟩ | ⟨h, _⟩
  · refine ⟨_, map_snoc _ _, figs_snoc hf (by omega) (by omega), by omega, by omega, by simp only [List.length_append, List.length_singleton]; omega, .inr (.inl ⟨rfl, pre, k, rfl, hk0, hk1, by omega, ?_⟩)⟩
    rw [List.foldl_append, h]
    simp only [List.foldl_cons, List.foldl_nil, rd]
    rw [if_neg (by omega), if_neg (by omega), if_neg (by omega)]
    congr 2
    omega
  · omega
  · omega
theorem encSt_2 {pre out : List Int} {lc k : Int} (h : EncSt pre out 2 lc) (hk0 : 0 ≤ k) (hk1 : k < 256) :
    EncSt (pre ++ [k]) (out ++ [sgn (((lc * 256 + k) % 65536 / 16) % 64)]) 4 ((lc * 256 + k) % 65536) := by
  obtain ⟨figs, rfl, hf, h1, h2, h3, h⟩ := h
  rcases h with ⟨h, _⟩ | ⟨_, p, x, rfl, hx0, hx1, hx, h⟩ | ⟨h, _⟩
  · omega
  · refine ⟨_, map_snoc _ _, figs_snoc hf (by omega) (by omega), by omega, by omega, by simp only [List.length_append, List.length_singleton] at h3 ⊢; omega, .inr (.inr ⟨rfl, p ++ [x], k, rfl, hk0, hk1, by omega, ?_⟩)⟩
    rw [List.foldl_append, h]
    simp only [List.foldl_cons, List.foldl_nil, rd]
    rw [if_pos trivial]
    have e1 : (x / 4 * 64 + ((lc * 256 + k) % 65536 / 16) % 64) / 16 = x := by omega
    have e2 : (x / 4 * 64 + ((lc * 256 + k) % 65536 / 16) % 64) % 16 = k / 16 := by omega
    rw [e1, e2]
  · omega
theorem encSt_4 {pre out : List Int} {lc k : Int} (h : EncSt pre out 4 lc) (hk0 : 0 ≤ k) (hk1 : k < 256) :
    EncSt (pre ++ [k]) (out ++ [sgn (((lc * 256 + k) % 65536 / 64) % 64), sgn (((lc * 256 + k) % 65536) % 64)]) 0 ((lc * 256 + k) % 65536) := by
  obtain ⟨figs, rfl, hf, h1, h2, h3, h⟩ := h
  rcases h with ⟨h, _⟩ | ⟨h, _⟩ | ⟨_, p, x, rfl, hx0, hx1, hx, h⟩
  · omega
  · omega
  · refine ⟨figs ++ [((lc * 256 + k) % 65536 / 64) % 64] ++ [((lc * 256 + k) % 65536) % 64], by simp, figs_snoc (figs_snoc hf (by omega) (by omega)) (by omega) (by omega), by omega, by omega, by simp only [List.length_append, List.length_singleton] at h3 ⊢; omega, .inl ⟨rfl, ?_⟩⟩
    have s1 : rd (p, x / 16, 4) (((lc * 256 + k) % 65536 / 64) % 64) = (p ++ [x], k / 64, 2) := by
      unfold rd
      dsimp only
      rw [if_neg (by omega), if_pos rfl]
      have e1 : (x / 16 * 64 + ((lc * 256 + k) % 65536 / 64) % 64) / 4 = x := by omega
      have e2 : (x / 16 * 64 + ((lc * 256 + k) % 65536 / 64) % 64) % 4 = k / 64 := by omega
      rw [e1, e2]
    have s2 : rd (p ++ [x], k / 64, 2) (((lc * 256 + k) % 65536) % 64) = (p ++ [x] ++ [k], 0, 0) := by
      unfold rd
      dsimp only
      rw [if_neg (by omega), if_neg (by omega), if_pos rfl]
      have e1 : k / 64 * 64 + (lc * 256 + k) % 65536 % 64 = k := by omega
      rw [e1]
    rw [List.foldl_append, List.foldl_append, h]
    simp only [List.foldl_cons, List.foldl_nil]
    rw [s1, s2]
/-- what b2a_base64 hands back for the octets pre -/
def Enc (pre out : List Int) : Prop :=
  ∃ (figs : List Int) (pads : Nat), out = figs.map sgn ++ List.replicate pads 61 ∧ (∀ f ∈ figs, 0 ≤ f ∧ f < 64) ∧ figs.length = (4 * pre.length + 2) / 3 ∧ (pads : Int) = (-(pre.length : Int)) % 3 ∧ figs.foldl rd r0 = (pre, 0, 2 * (pads : Int))
theorem enc_0 {pre out : List Int} {lc : Int} (h : EncSt pre out 0 lc) : Enc pre out := by
  obtain ⟨figs, rfl, hf, h1, h2, h3, h⟩ := h
  rcases h with ⟨_, h⟩ | ⟨h, _⟩ | ⟨h, _⟩
  · exact ⟨figs, 0, by simp, hf, by omega, by omega, by rw [h]; rfl⟩
  · omega
  · omega
theorem enc_2 {pre out : List Int} {lc : Int} (h : EncSt pre out 2 lc) : Enc pre (out ++ [sgn (lc % 4 * 16), 61, 61]) := by
  obtain ⟨figs, rfl, hf, h1, h2, h3, h⟩ := h
  rcases h with ⟨h, _⟩ | ⟨_, p, x, rfl, hx0, hx1, hx, h⟩ | ⟨h, _⟩
  · omega
  · refine ⟨figs ++ [lc % 4 * 16], 2, by simp [List.replicate], figs_snoc hf (by omega) (by omega), by simp only [List.length_append, List.length_singleton] at h3 ⊢; omega, by simp only [List.length_append, List.length_singleton] at h3 ⊢; omega, ?_⟩
    rw [List.foldl_append, h]
    simp only [List.foldl_cons, List.foldl_nil, rd]
    rw [if_pos trivial]
    have e1 : (x / 4 * 64 + lc % 4 * 16) / 16 = x := by omega
    have e2 : (x / 4 * 64 + lc % 4 * 16) % 16 = 0 := by omega
    rw [e1, e2]
    rfl
  · omega
theorem enc_4 {pre out : List Int} {lc : Int} (h : EncSt pre out 4 lc) : Enc pre (out ++ [sgn (lc % 16 * 4), 61]) := by
  obtain ⟨figs, rfl, hf, h1, h2, h3, h⟩ := h
  rcases h with ⟨h, _⟩ | ⟨h, _⟩ | ⟨_, p, x, rfl, hx0, hx1, hx, h⟩
  · omega
  · omega
  · refine ⟨figs ++ [lc % 16 * 4], 1, by simp [List.replicate], figs_snoc hf (by omega) (by omega), by simp only [List.length_append, List.length_singleton] at h3 ⊢; omega, by simp only [List.length_append, List.length_singleton] at h3 ⊢; omega, ?_⟩
    rw [List.foldl_append, h]
    simp only [List.foldl_cons, List.foldl_nil, rd]
    rw [if_neg (by omega), if_pos trivial]
    have e1 : (x / 16 * 64 + lc % 16 * 4) / 4 = x := by omega
    have e2 : (x / 16 * 64 + lc % 16 * 4) % 4 = 0 := by omega
    rw [e1, e2]
    rfl
theorem sgn_in (f : Int) : 0 ≤ sgn f ∧ sgn f < 256 := by
  unfold sgn
  rw [List.getD_eq_getElem?_getD]
  cases h : b64[f.toNat]? with
  | none => simp
  | some v =>
    have hm := List.mem_of_getElem? h
    have : ∀ v ∈ b64, 0 ≤ v ∧ v < 256 := by decide +kernel
    simpa using this v hm
theorem map_sgn_in (figs : List Int) : KBa.In (figs.map sgn) := by
  intro v hv
  obtain ⟨f, _, rfl⟩ := List.mem_map.mp hv
  exact sgn_in f
theorem Enc.in_ {pre out : List Int} (h : Enc pre out) : KBa.In out := by
  obtain ⟨figs, pads, rfl, _⟩ := h
  intro v hv
  rcases List.mem_append.mp hv with hv | hv
  · exact map_sgn_in figs v hv
  · rw [(List.mem_replicate.mp hv).2]; decide
theorem Enc.len {pre out : List Int} (h : Enc pre out) : (out.length : Int) = (4 * pre.length + 2) / 3 + (-(pre.length : Int)) % 3 := by
  obtain ⟨figs, pads, rfl, _, h1, h2, _⟩ := h
  rw [List.length_append, List.length_map, List.length_replicate]
  omega
end Mine
end

section
open PySem PySem.W PyProof.Rows
set_option maxRecDepth 100000
namespace Mine
theorem fill3 : (∀ p, hd.heap_39 p = hd.heap_39 p) ∧ (PySem.Challenge.rw_mj0045_01 = PySem.Challenge.rw_mj0045_01) := by k_fill; exact ⟨fun _ => rfl, rfl⟩
local macro_rules | `(tactic| walk_at "call ref") => `(tactic| (k_here; k_dflt ((first | refine' Calls.go buffer_calls ?k1 ?k2 ?k3 ?k4 ?k5 ?k6 ?k7 ?k8 ?_ | refine' Calls.go truth_calls ?k1 ?k2 ?k3 ?k4 ?k5 ?k6 ?k7 ?k8 ?_); (case k1 => k_asm); (case k2 => k_asm); (case k3 => k_asm); (case k4 => k_asm); (case k5 => k_asm); (case k6 => first | exact rfl | assumption); (case k7 => ktr_room); (case k8 => ktr_units); intro t9 h9 tk9 F9 N9; (try dsimp only); (try k_fold))))
theorem b64_idx {e : Int} : 0 ≤ Builtin.bitAnd e 63 ∧ Builtin.bitAnd e 63 < ((b64.length : Nat) : Int) := by
  rw [bitAnd_m6]
  have : (b64.length : Int) = 64 := rfl
  omega
theorem and3_small {x : Int} : (Builtin.bitAnd x 3).natAbs < 2 ^ 64 := by rw [bitAnd_m2]; omega
theorem and15_small {x : Int} : (Builtin.bitAnd x 15).natAbs < 2 ^ 64 := by rw [bitAnd_m4]; omega
theorem b64_idx3 {x : Int} : 0 ≤ Builtin.bitAnd x 3 * 2 ^ Int.toNat 4 ∧ Builtin.bitAnd x 3 * 2 ^ Int.toNat 4 < ((b64.length : Nat) : Int) := by
  rw [bitAnd_m2]
  show 0 ≤ x % 4 * 16 ∧ x % 4 * 16 < 64
  omega
theorem b64_idx15 {x : Int} : 0 ≤ Builtin.bitAnd x 15 * 2 ^ Int.toNat 2 ∧ Builtin.bitAnd x 15 * 2 ^ Int.toNat 2 < ((b64.length : Nat) : Int) := by
  rw [bitAnd_m4]
  show 0 ≤ x % 16 * 4 ∧ x % 16 * 4 < 64
  omega
theorem turn_lc {lc k : Int} (h0 : 0 ≤ lc) (hk0 : 0 ≤ k) (hk1 : k < 256) : Builtin.bitAnd (Builtin.bitOr (lc * 2 ^ Int.toNat 8) k) 65535 = (lc * 256 + k) % 65536 := by
  rw [bitAnd_m16]
  have e : lc * 2 ^ Int.toNat 8 = lc * 256 := rfl
  rw [e, bitOr_byte _ _ h0 hk0 hk1]
theorem memc {α : Type} {x : α} {news own : List α} : ∀ p ∈ x :: news, p ∈ x :: (news ++ own) := by
  intro p hp
  rcases List.mem_cons.mp hp with rfl | hp
  · exact List.mem_cons_self ..
  · exact List.mem_cons_of_mem _ (List.mem_append_left _ hp)
theorem memo {α : Type} {x : α} {news own : List α} : ∀ p ∈ own, p ∈ x :: (news ++ own) := fun _ hp => List.mem_cons_of_mem _ (List.mem_append_right _ hp)
theorem fdiv_pos {a b : Int} (h : 0 ≤ b) : a.fdiv b = a / b := Int.fdiv_eq_ediv_of_nonneg _ h
theorem encT0 {pre out : List Int} {lc k : Int} (h : EncSt pre out 0 lc) (hk0 : 0 ≤ k) (hk1 : k < 256) :
    EncSt (pre ++ [k]) (out ++ [b64.getD (Builtin.bitAnd ((Builtin.bitAnd (Builtin.bitOr (lc * 2 ^ Int.toNat 8) k) 65535).fdiv (2 ^ (0 + 8 - 6 : Int).toNat)) 63).toNat 0]) (0 + 8 - 6) (Builtin.bitAnd (Builtin.bitOr (lc * 2 ^ Int.toNat 8) k) 65535) := by
  rw [turn_lc h.len.2.1 hk0 hk1, bitAnd_m6, fdiv_pos (by decide)]
  exact encSt_0 h hk0 hk1
theorem encT2 {pre out : List Int} {lc k : Int} (h : EncSt pre out 2 lc) (hk0 : 0 ≤ k) (hk1 : k < 256) :
    EncSt (pre ++ [k]) (out ++ [b64.getD (Builtin.bitAnd ((Builtin.bitAnd (Builtin.bitOr (lc * 2 ^ Int.toNat 8) k) 65535).fdiv (2 ^ (2 + 8 - 6 : Int).toNat)) 63).toNat 0]) (2 + 8 - 6) (Builtin.bitAnd (Builtin.bitOr (lc * 2 ^ Int.toNat 8) k) 65535) := by
  rw [turn_lc h.len.2.1 hk0 hk1, bitAnd_m6, fdiv_pos (by decide)]
  exact encSt_2 h hk0 hk1
theorem encT4 {pre out : List Int} {lc k : Int} (h : EncSt pre out 4 lc) (hk0 : 0 ≤ k) (hk1 : k < 256) :
    EncSt (pre ++ [k]) (out ++ [b64.getD (Builtin.bitAnd ((Builtin.bitAnd (Builtin.bitOr (lc * 2 ^ Int.toNat 8) k) 65535).fdiv (2 ^ (4 + 8 - 6 : Int).toNat)) 63).toNat 0] ++ [b64.getD (Builtin.bitAnd ((Builtin.bitAnd (Builtin.bitOr (lc * 2 ^ Int.toNat 8) k) 65535).fdiv (2 ^ (4 + 8 - 6 - 6 : Int).toNat)) 63).toNat 0]) (4 + 8 - 6 - 6) (Builtin.bitAnd (Builtin.bitOr (lc * 2 ^ Int.toNat 8) k) 65535) := by
  rw [turn_lc h.len.2.1 hk0 hk1, bitAnd_m6, bitAnd_m6, fdiv_pos (by decide), fdiv_pos (by decide), List.append_assoc]
  have e := encSt_4 h hk0 hk1
  have e2 : (lc * 256 + k) % 65536 / (2 ^ (4 + 8 - 6 - 6 : Int).toNat) = (lc * 256 + k) % 65536 := by
    show (lc * 256 + k) % 65536 / 1 = _
    omega
  rw [e2]
  exact e
/-- a call of the text's def at f whose answer is known by a word R -/
abbrev CallsP (d : Nat) (w : World) (mean : ExcName → Option Value) (mg mb : Str → Option Value) (f : Addr) (news : List (Addr × Obj)) (vs : List Value) (kw : List (Str × Value)) (R : Value → Prop) : Prop :=
  ∀ (dp un : Nat) (gd : Option (List Code)) (cn : Str) (cs : Scope) (a : Addr) (ccd : Value) (cl : List (Str × Addr)) (outer : List Env) (A₀ : Around) (base h₀ : Heap) (L : Addr) (m : Str → Option Value) (s : Shared) (Q E : Value → Shared → Prop),
    Below A₀ base outer h₀ → Fr h₀ L s.heap m → (hd.heap_39 w.params).In h₀ → News h₀ L s.heap news → Top hd.view_39 (looseW hd.view_39 [Str.ofString "b2a_base64", Str.ofString "b64encode"]) mean mg mb h₀ → cs.kind = .function →
    dp + d < recursionLimit → un + 8 * d < cLine →
    (∀ (v : Value) (h' : Heap) (tk' : Nat), R v → Fr h₀ L h' m → News h₀ L h' news → Q v { s with heap := h', toks := tk' }) →
      wpAny (model PySem.Challenge.rw_mj0045_01.row.prog w) (ktrTop dp un gd cn cs L a ccd cl outer) (call (.ref f) vs kw) Q E s
theorem CallsP.go {d : Nat} {w : World} {mean : ExcName → Option Value} {mg mb : Str → Option Value} {f : Addr} {news : List (Addr × Obj)} {vs : List Value} {kw : List (Str × Value)} {R : Value → Prop} (C : CallsP d w mean mg mb f news vs kw R)
    {dp un : Nat} {gd : Option (List Code)} {cn : Str} {cs : Scope} {a : Addr} {ccd : Value} {cl : List (Str × Addr)} {outer : List Env} {A₀ : Around} {base h₀ : Heap} {L : Addr} {m : Str → Option Value} {s : Shared} {Q E : Value → Shared → Prop}
    (B : Below A₀ base outer h₀) (F : Fr h₀ L s.heap m) (X : (hd.heap_39 w.params).In h₀) (N : News h₀ L s.heap news) (T : Top hd.view_39 (looseW hd.view_39 [Str.ofString "b2a_base64", Str.ofString "b64encode"]) mean mg mb h₀) (hk : cs.kind = .function)
    (hd1 : dp + d < recursionLimit) (hu : un + 8 * d < cLine)
    (ret : ∀ (v : Value) (h' : Heap) (tk' : Nat), R v → Fr h₀ L h' m → News h₀ L h' news → Q v { s with heap := h', toks := tk' }) :
    wpAny (model PySem.Challenge.rw_mj0045_01.row.prog w) (ktrTop dp un gd cn cs L a ccd cl outer) (call (.ref f) vs kw) Q E s := C _ _ _ _ _ _ _ _ _ _ _ _ _ _ _ _ _ B F X N T hk hd1 hu ret
abbrev LS := List Value × List Int × Nat × Int × Tok × Int × Tok
theorem bytes_loop {prog : Program} {w : World} {A : Around} {E : Value → Shared → Prop} {s : Shared} {env : Env} {h₀ : Heap} {x : Str} {body : List Stmt} {Q : Flow → Shared → Prop} {b : Array UInt8} {tb : Tok} {m₀ : Str → Option Value}
    {l : Addr} {news : List (Addr × Obj)} {nn : Nat} {vs₀ : List Value} {ns₀ : List Int} {a₀ c₀ : Int} {ta tc : Tok} (y z : Str) (P : List Int → List Int → Int → Int → Prop)
    (hh : A.handled = none) (F : Fr h₀ env.locals s.heap m₀) (N : News h₀ env.locals s.heap ((l, listOf vs₀.toArray nn) :: news)) (hi : IntsAre vs₀ ns₀) (hy : m₀ y = some (.int a₀ ta)) (hz : m₀ z = some (.int c₀ tc)) (hp : P [] ns₀ a₀ c₀)
    (turn : ∀ (vs : List Value) (ns : List Int) (n : Nat) (a : Int) (ta : Tok) (c : Int) (tc : Tok) (pre post : List Int) (k : Int) t h tk own, KBw.bInts b = pre ++ k :: post → pre.length < b.size → 0 ≤ k → k < 256 → OwnOff own (l :: news.map (·.1)) → IntsAre vs ns → vs.length = ns.length → P pre ns a c →
      Fr h₀ env.locals h (fun q => if q = x then some (.int k t) else if q = y then some (.int a ta) else if q = z then some (.int c tc) else m₀ q) → News h₀ env.locals h ((l, listOf vs.toArray n) :: (news ++ own)) →
      wpAny (model prog w) A (execs body env) (InvPostN h₀ env.locals (KstS (σ := LS) (fun c => (l, listOf c.1.toArray c.2.2.1) :: news) (fun c => [(y, .int c.2.2.2.1 c.2.2.2.2.1), (z, .int c.2.2.2.2.2.1 c.2.2.2.2.2.2)]) (fun c => IntsAre c.1 c.2.1) x [] m₀ (fun pre c => P pre c.2.1 c.2.2.2.1 c.2.2.2.2.2.1) (pre ++ [k])) own (l :: news.map (·.1)) { s with heap := h, toks := tk } Q) E { s with heap := h, toks := tk })
    (done : ∀ (vs : List Value) (ns : List Int) (n : Nat) (a : Int) (ta : Tok) (c : Int) (tc : Tok) (u : Str → Option Value) h tk, IntsAre vs ns → vs.length = ns.length → P (KBw.bInts b) ns a c → Fr h₀ env.locals h (fun q => if q = x then u q else if q = y then some (.int a ta) else if q = z then some (.int c tc) else m₀ q) → News h₀ env.locals h ((l, listOf vs.toArray n) :: news) → Q .next { s with heap := h, toks := tk }) :
    wpAny (model prog w) A (pyIter (.bytes b tb)) (fun it s₂ => LoopAtV prog w A h₀ env x body Q E it s₂) E s := by
  refine KStb.kst_bytes (σ := LS) (fun c => (l, listOf c.1.toArray c.2.2.1) :: news) (fun c => [(y, .int c.2.2.2.1 c.2.2.2.2.1), (z, .int c.2.2.2.2.2.1 c.2.2.2.2.2.2)]) (fun c => IntsAre c.1 c.2.1) [] (fun pre c => P pre c.2.1 c.2.2.2.1 c.2.2.2.2.2.1) (vs₀, ns₀, nn, a₀, ta, c₀, tc) rfl rfl hh F N hi ?_ hp ?_ ?_
  · intro p hp
    rcases List.mem_cons.mp hp with rfl | hp
    · exact hy
    · rcases List.mem_cons.mp hp with rfl | hp
      · exact hz
      · cases hp
  · rintro ⟨vs, ns, n, a, ta, c, tc⟩ pre post k t u h tk own h1 h2 h3 h4 h5 h6 h7 F' N'
    exact turn vs ns n a ta c tc pre post k t h tk own h1 (by rw [KBw.ints_length] at h2; exact h2) h3 h4 h5 h6 h6.length h7 F' N'
  · rintro ⟨vs, ns, n, a, ta, c, tc⟩ u h tk h1 h2 h3 F' N'
    exact done vs ns n a ta c tc u h tk h2 h2.length h3 F' N'
local macro_rules | `(tactic| walk_at "subscriptTail") => `(tactic| (k_here; (with_reducible show wpAny _ _ (subscriptTail _ _ (Value.bytes _ _) (Value.int _ _)) _ _ _); (refine KBw.item_K (ks := b64) (by rfl) (by decide) (by first | exact b64_idx.1 | exact b64_idx3.1 | exact b64_idx15.1) (by first | exact b64_idx.2 | exact b64_idx3.2 | exact b64_idx15.2) ?_); intro _ _ kbaLo kbaHi))
local macro_rules | `(tactic| walk_at "binaryOp LShift int int") => `(tactic| (k_here; refine lshift_int_small (by decide) (by decide) (by first | exact and3_small | exact and15_small) ?_))
theorem encE2 {pre out : List Int} {lc : Int} (h : EncSt pre out 2 lc) : Enc pre (out ++ [b64.getD (Builtin.bitAnd lc 3 * 2 ^ Int.toNat 4).toNat 0] ++ [61] ++ [61]) := by
  rw [bitAnd_m2, List.append_assoc, List.append_assoc]
  exact enc_2 h
theorem encE4 {pre out : List Int} {lc : Int} (h : EncSt pre out 4 lc) : Enc pre (out ++ [b64.getD (Builtin.bitAnd lc 15 * 2 ^ Int.toNat 2).toNat 0] ++ [61]) := by
  rw [bitAnd_m4, List.append_assoc]
  exact enc_4 h
theorem isList_head {h₀ h : Heap} {L l : Addr} {us : List Value} {c : Nat} {news : List (Addr × Obj)} (N : News h₀ L h ((l, listOf us.toArray c) :: news)) : h.IsList l us.toArray := ⟨_, (N _ (List.mem_cons_self ..)).1, rfl, c, rfl⟩
theorem Enc.short {pre out : List Int} (h : Enc pre out) (hl : pre.length ≤ 99) : out.length ≤ 16777216 := by
  have := h.len
  omega
section
variable {w : World} {mean : ExcName → Option Value} {mg mb : Str → Option Value} {news : List (Addr × Obj)} {x : Int} {t : Tok} {b : Array UInt8}
set_option maxHeartbeats 4000000
theorem b2a_calls (hb : b.size ≤ 99) : CallsP 2 w mean mg mb 43 news [.bytes b t] [(Str.ofString "newline", .bool false)] (fun v => ∃ out t, v = .bytes (byteArr out) t ∧ Enc (KBw.bInts b) out) := by
  intro dp un gd cn cs a ccd cl outer A₀ base h₀ L m s Q E B F X N T hk hd' hu hret
  refine wpAny_call ?_
  k_dflt cell_enter
  k_steps
  rename News _ _ _ _ => N9
  rename Fr _ _ _ _ => F9
  with_unfolding_all refine' bytes_loop (vs₀ := []) (Str.ofString "leftbits") (Str.ofString "leftchar") EncSt (by rfl) F9 N9 .nil (by rfl) (by rfl) encSt_nil ?_ ?_
  · clear F9 N9
    intro vs ns n lb ta lc tc pre post k t9 h9 tk9 own hpre hlen hk0 hk1 hoff hints hvs hst F9 N9
    have kMk := kstMark
    obtain ⟨hst1, hst2, hst3⟩ := hst.len
    have hlc := turn_lc hst2 hk0 hk1
    rcases hst.lb with rfl | rfl | rfl
    all_goals k_steps
    all_goals (rename News _ _ _ _ => nE; (try simp only [List.push_toArray] at nE))
    · refine kst_end ⟨_, _, _, _, _, _, _⟩ (by assumption) nE memc memo (by rfl) (by kst_facts) (by kst_all) (by kst_same) (encT0 hst hk0 hk1)
    · refine kst_end ⟨_, _, _, _, _, _, _⟩ (by assumption) nE memc memo (by rfl) (by kst_facts) (by kst_all) (by kst_same) (encT2 hst hk0 hk1)
    · refine kst_end ⟨_, _, _, _, _, _, _⟩ (by assumption) nE memc memo (by rfl) (by kst_facts) (by kst_all) (by kst_same) (encT4 hst hk0 hk1)
  · clear F9 N9
    intro vs ns n lb ta lc tc u9 h9 tk9 hints hvs hst F9 N9
    have kMk := kstMark
    obtain ⟨hst1, hst2, hst3⟩ := hst.len
    have hbl : (KBw.bInts b).length ≤ 99 := by rw [KBw.ints_length]; exact hb
    rcases hst.lb with rfl | rfl | rfl
    all_goals k_steps
    all_goals (rename News _ _ _ _ => nE; rename Fr _ _ _ _ => fE; (try simp only [List.push_toArray] at nE))
    · have hE := enc_0 hst
      refine KBa.make_K fE nE rfl (isList_head nE) (by kst_facts) hE.in_ (hE.short hbl) ?_
      intro h8 t8 k8 F8 N8 _
      k_steps
      exact hret _ _ _ ⟨_, _, rfl, hE⟩ (by k_asm) (cb_drop (by assumption) (fun p hp => List.mem_cons_of_mem _ hp))
    · have hE := encE2 hst
      refine KBa.make_K fE nE rfl (isList_head nE) (by kst_facts) hE.in_ (hE.short hbl) ?_
      intro h8 t8 k8 F8 N8 _
      k_steps
      exact hret _ _ _ ⟨_, _, rfl, hE⟩ (by k_asm) (cb_drop (by assumption) (fun p hp => List.mem_cons_of_mem _ hp))
    · have hE := encE4 hst
      refine KBa.make_K fE nE rfl (isList_head nE) (by kst_facts) hE.in_ (hE.short hbl) ?_
      intro h8 t8 k8 F8 N8 _
      k_steps
      exact hret _ _ _ ⟨_, _, rfl, hE⟩ (by k_asm) (cb_drop (by assumption) (fun p hp => List.mem_cons_of_mem _ hp))
end
end Mine
end

section
open PySem PySem.W PyProof.Rows PySem.Calls
set_option maxRecDepth 100000
namespace Mine
theorem slot_tr : Slot "bytes" "translate" "bytes.translate" :=
  .of (owner := "bytes") (n := "translate") (by rw [typeLookup_type, builtinLookup_eq_fast]; kernel_rfl) (by decide +kernel) (by decide +kernel) (by decide +kernel)
    (by first | exact .inl (by decide +kernel) | exact .inr (by decide +kernel)) (by rw [isSubtype_type]; kernel_rfl)
theorem type_tr : typeOf (.builtin "bytes.translate") = pure (.type "method_descriptor") := by show builtinType _ = _; rw [builtinType_eq_fast]; kernel_rfl
theorem entry_tr : entryFor table "bytes.translate" = some Builtin.«bytes.translate» := entryFor_of_tree (by kernel_rfl)
theorem args_tr (a b : Value) : argsOk "bytes.translate" ⟨[a, b], []⟩ := by unfold argsOk; rw [signature?_of (id := "bytes.translate") (n := ['e', 't', 'a', 'l', 's', 'n', 'a', 'r', 't']) (o := ['s', 'e', 't', 'y', 'b']) (by kernel_rfl) PySem.W.FB.owner_bytes]; kernel_rfl
theorem type_bytes : typeOf (.type "bytes") = pure (.type "type") := by first | rfl | kernel_rfl
theorem entry_mt : entryFor table "bytes.maketrans" = some Builtin.«bytes.maketrans» := entryFor_of_tree (by kernel_rfl)
theorem plain_mt : plainId "bytes.maketrans" = true := by decide +kernel
theorem check_mt (b c : Array UInt8) (t u : Tok) : checkBuiltinCall "bytes.maketrans" ⟨[.bytes b t, .bytes c u], []⟩ = pure () := by first | kernel_rfl | rfl
/-- the table that maketrans makes -/
def mtab (b c : Array UInt8) : Array UInt8 := (b.toList.zip c.toList).foldl (fun t (f, x) => t.setIfInBounds f.toNat x) ((Array.range 256).map (·.toUInt8))
theorem mtab_size (b c : Array UInt8) : (mtab b c).size = 256 := by
  unfold mtab
  have : ∀ (l : List (UInt8 × UInt8)) (a : Array UInt8), (l.foldl (fun t (f, x) => t.setIfInBounds f.toNat x) a).size = a.size := by
    intro l
    induction l with
    | nil => intro a; rfl
    | cons p r ih => intro a; rw [List.foldl_cons, ih]; simp
  rw [this]
  simp
section
variable {prog : Program} {w : World} {M : Model} {A : Around} {E : Value → Shared → Prop} {s : Shared} {b c : Array UInt8} {t u : Tok}
theorem mt_tree {P : Fin → Shared → Prop} (h2 : b.size = c.size) (h : ∀ t' k, P (.done (.ret (.bytes (mtab b c) t'))) { s with toks := k }) :
    wpAny M A (Builtin.«bytes.maketrans» ⟨[.bytes b t, .bytes c u], []⟩) P E s := by
  unfold Builtin.«bytes.maketrans» Builtin.Bytes.maketransM
  refine wpAny_bind (wpAny_of_eq (a := ()) rfl ?_)
  refine wpAny_bind (wpAny_of_eq (a := ()) rfl ?_)
  refine wpAny_bind (wpAny_of_eq KBd.like_eq ?_)
  refine wpAny_bind (wpAny_of_eq KBd.like_eq ?_)
  refine KFB.if_not (by simp [h2]) ?_
  refine wpAny_bind (wpAny_mkBytes ?_ ?_)
  · exact wpAny_pure (h _ _)
  · show (mtab b c).size ≤ sizeLine
    rw [mtab_size, sizeLine_eq]
    decide
theorem mt_call {Q : Value → Shared → Prop} (h2 : b.size = c.size) (h : ∀ t' k, Q (.bytes (mtab b c) t') { s with toks := k }) :
    wpAny (model prog w) A (call (.builtin "bytes.maketrans") [.bytes b t, .bytes c u]) Q E s := by
  refine wpAny_call (codeAny_call_builtin plain_mt entry_mt ?_)
  refine wpAny_of_eq (check_mt b c t u) ?_
  exact mt_tree h2 fun t' k => h t' k
/-- what translate makes of b by the table c -/
def trOf (b c : Array UInt8) : Array UInt8 := b.map fun x => c.getD x.toNat x
theorem tr_tree {P : Fin → Shared → Prop} (h2 : c.size = 256) (hb : b.size ≤ 1000) (h : ∀ t' k, P (.done (.ret (.bytes (trOf b c) t'))) { s with toks := k }) :
    wpAny M A (Builtin.«bytes.translate» ⟨[.bytes b t, .bytes c u], []⟩) P E s := by
  show wpAny M A (Builtin.Bytes.bytesLike _ (.bytes c u) >>= fun tb => _) P E s
  refine wpAny_bind (wpAny_of_eq KBd.like_eq ?_)
  refine KFB.if_not (by simp [h2]) ?_
  refine wpAny_bind (wpAny_pure ?_)
  refine wpAny_bind (wpAny_pure ?_)
  refine wpAny_bind (wpAny_of_eq (a := b) rfl ?_)
  have e : ((b.filter fun x => !(#[] : Array UInt8).contains x).map fun x => c.getD x.toNat x) = trOf b c := by
    unfold trOf
    congr 1
    simp
  dsimp only
  rw [e]
  by_cases hq : (trOf b c == b) = true
  · refine KFB.if_so hq ?_
    have hq' : trOf b c = b := by simpa using hq
    rw [hq'] at h
    show wpAny M A (rule _ >>= fun _ => _) P E s
    refine wpAny_bind (wpAny_rule ?_)
    refine wpAny_bind (wpAny_of_eq (a := .bytes b t) rfl ?_)
    exact wpAny_pure (h t s.toks)
  · refine KFB.if_not (by simpa using hq) ?_
    refine wpAny_bind (wpAny_mkBytes ?_ ?_)
    · exact wpAny_pure (h _ _)
    · unfold trOf
      rw [Array.size_map, sizeLine_eq]
      omega
theorem tr_call {Q : Value → Shared → Prop} (h2 : c.size = 256) (hb : b.size ≤ 1000) (h : ∀ t' k, Q (.bytes (trOf b c) t') { s with toks := k }) :
    wpAny (model prog w) A (call (.builtin "bytes.translate") [.bytes b t, .bytes c u]) Q E s :=
  call_meets (S := fun _ R s => ∀ t' k, R (.ok (.ret (.bytes (trOf b c) t'))) { s with toks := k }) slot_tr (typeIs_bytes _ _ _) entry_tr (args_tr _ _) (.of_wp fun _ _ _ _ _ hS => tr_tree h2 hb fun t' k => ⟨_, rfl, hS t' k⟩) h
end
/-- the altchars in their places -/
def alts (x y c : Int) : Int := if c = 43 then x else if c = 47 then y else c
theorem mtab_get (x y c : UInt8) : (mtab #[43, 47] #[x, y]).getD c.toNat c = if c = 43 then x else if c = 47 then y else c := by
  have hc : c.toNat < 256 := c.toNat_lt
  have e : mtab #[43, 47] #[x, y] = (((Array.range 256).map (·.toUInt8)).setIfInBounds 43 x).setIfInBounds 47 y := rfl
  rw [e]
  unfold Array.getD
  rw [dif_pos (by simpa using hc)]
  show (((((Array.range 256).map (·.toUInt8)).setIfInBounds 43 x).setIfInBounds 47 y)[c.toNat]'_) = _
  rw [Array.getElem_setIfInBounds (by simpa using hc), Array.getElem_setIfInBounds (by simpa using hc)]
  by_cases h1 : c = 47
  · subst h1; rfl
  · by_cases h2 : c = 43
    · subst h2; rfl
    · have n1 : ¬ 47 = c.toNat := fun h => h1 (UInt8.toNat_inj.mp h.symm)
      have n2 : ¬ 43 = c.toNat := fun h => h2 (UInt8.toNat_inj.mp h.symm)
      rw [if_neg n1, if_neg n2, if_neg h2, if_neg h1]
      simp
theorem tr_ints {out : List Int} {x y : UInt8} (h : KBa.In out) : trOf (byteArr out) (mtab #[43, 47] #[x, y]) = byteArr (out.map (alts x.toNat y.toNat)) := by
  unfold trOf byteArr
  rw [List.map_toArray, List.map_map, List.map_map]
  congr 1
  apply List.map_congr_left
  intro c hc
  obtain ⟨h0, h1⟩ := h c hc
  show (mtab #[43, 47] #[x, y]).getD (c.toNat.toUInt8).toNat c.toNat.toUInt8 = (alts x.toNat y.toNat c).toNat.toUInt8
  rw [mtab_get]
  unfold alts
  have hb : (c.toNat.toUInt8).toNat = c.toNat := by
    show (UInt8.ofNat c.toNat).toNat = c.toNat
    rw [UInt8.toNat_ofNat']
    omega
  have e1 : (c.toNat.toUInt8 = 43) ↔ c = 43 := by
    rw [← UInt8.toNat_inj, hb]
    show c.toNat = 43 ↔ c = 43
    omega
  have e2 : (c.toNat.toUInt8 = 47) ↔ c = 47 := by
    rw [← UInt8.toNat_inj, hb]
    show c.toNat = 47 ↔ c = 47
    omega
  by_cases c1 : c = 43
  · rw [if_pos (e1.mpr c1), if_pos c1]; simp
  · rw [if_neg (fun h => c1 (e1.mp h)), if_neg c1]
    by_cases c2 : c = 47
    · rw [if_pos (e2.mpr c2), if_pos c2]; simp
    · rw [if_neg (fun h => c2 (e2.mp h)), if_neg c2]
end Mine
end

section
open PySem PySem.W PyProof.Rows
set_option maxRecDepth 100000
namespace Mine
theorem fill4 : (∀ p, hd.heap_39 p = hd.heap_39 p) ∧ (PySem.Challenge.rw_mj0045_01 = PySem.Challenge.rw_mj0045_01) := by k_fill; exact ⟨fun _ => rfl, rfl⟩
/-- a call whose answer is bytes of ints known by a word R -/
abbrev CallsB (d : Nat) (w : World) (mean : ExcName → Option Value) (mg mb : Str → Option Value) (f : Addr) (news : List (Addr × Obj)) (vs : List Value) (kw : List (Str × Value)) (R : List Int → Prop) : Prop :=
  ∀ (dp un : Nat) (gd : Option (List Code)) (cn : Str) (cs : Scope) (a : Addr) (ccd : Value) (cl : List (Str × Addr)) (outer : List Env) (A₀ : Around) (base h₀ : Heap) (L : Addr) (m : Str → Option Value) (s : Shared) (Q E : Value → Shared → Prop),
    Below A₀ base outer h₀ → Fr h₀ L s.heap m → (hd.heap_39 w.params).In h₀ → News h₀ L s.heap news → Top hd.view_39 (looseW hd.view_39 [Str.ofString "b2a_base64", Str.ofString "b64encode"]) mean mg mb h₀ → cs.kind = .function →
    dp + d < recursionLimit → un + 8 * d < cLine →
    (∀ (out : List Int) (t : Tok) (h' : Heap) (tk' : Nat), R out → Fr h₀ L h' m → News h₀ L h' news → Q (.bytes (byteArr out) t) { s with heap := h', toks := tk' }) →
      wpAny (model PySem.Challenge.rw_mj0045_01.row.prog w) (ktrTop dp un gd cn cs L a ccd cl outer) (call (.ref f) vs kw) Q E s
theorem CallsB.go {d : Nat} {w : World} {mean : ExcName → Option Value} {mg mb : Str → Option Value} {f : Addr} {news : List (Addr × Obj)} {vs : List Value} {kw : List (Str × Value)} {R : List Int → Prop} (C : CallsB d w mean mg mb f news vs kw R)
    {dp un : Nat} {gd : Option (List Code)} {cn : Str} {cs : Scope} {a : Addr} {ccd : Value} {cl : List (Str × Addr)} {outer : List Env} {A₀ : Around} {base h₀ : Heap} {L : Addr} {m : Str → Option Value} {s : Shared} {Q E : Value → Shared → Prop}
    (B : Below A₀ base outer h₀) (F : Fr h₀ L s.heap m) (X : (hd.heap_39 w.params).In h₀) (N : News h₀ L s.heap news) (T : Top hd.view_39 (looseW hd.view_39 [Str.ofString "b2a_base64", Str.ofString "b64encode"]) mean mg mb h₀) (hk : cs.kind = .function)
    (hd1 : dp + d < recursionLimit) (hu : un + 8 * d < cLine)
    (ret : ∀ (out : List Int) (t : Tok) (h' : Heap) (tk' : Nat), R out → Fr h₀ L h' m → News h₀ L h' news → Q (.bytes (byteArr out) t) { s with heap := h', toks := tk' }) :
    wpAny (model PySem.Challenge.rw_mj0045_01.row.prog w) (ktrTop dp un gd cn cs L a ccd cl outer) (call (.ref f) vs kw) Q E s := C _ _ _ _ _ _ _ _ _ _ _ _ _ _ _ _ _ B F X N T hk hd1 hu ret
theorem b2a_B {w : World} {mean : ExcName → Option Value} {mg mb : Str → Option Value} {news : List (Addr × Obj)} {t : Tok} {b : Array UInt8} (hb : b.size ≤ 99) :
    CallsB 2 w mean mg mb 43 news [.bytes b t] [(Str.ofString "newline", .bool false)] (Enc (KBw.bInts b)) := by
  intro dp un gd cn cs a ccd cl outer A₀ base h₀ L m s Q E B F X N T hk hd' hu hret
  refine b2a_calls hb _ _ _ _ _ _ _ _ _ _ _ _ _ _ _ _ _ B F X N T hk hd' hu ?_
  rintro v h' tk' ⟨out, t, rfl, hE⟩ F' N'
  exact hret out t h' tk' hE F' N'
local macro_rules | `(tactic| walk_at "call ref") => `(tactic| (k_here; k_dflt (refine' CallsB.go (b2a_B (by assumption)) ?k1 ?k2 ?k3 ?k4 ?k5 ?k6 ?k7 ?k8 ?_; (case k1 => k_asm); (case k2 => k_asm); (case k3 => k_asm); (case k4 => k_asm); (case k5 => k_asm); (case k6 => first | exact rfl | assumption); (case k7 => ktr_room); (case k8 => ktr_units); intro out9 t9 h9 tk9 hE9 F9 N9; (try dsimp only); (try k_fold))))
local macro_rules | `(tactic| walk_at "getMethod bytes") => `(tactic| (k_here; (with_reducible show wpAny _ _ (getMethod (Value.bytes _ _) _ _) _ _ _); with_reducible refine KBd.method_of _ (typeIs_bytes _ _ _) slot_tr type_tr KBd.noRef ?_))
local macro_rules | `(tactic| walk_at "getMethod type:bytes") => `(tactic| (k_here; refine' method_type ?F ?X ?m (by decide +kernel) ?e ?h ?_; (case F => k_asm); (case X => k_asm); (case m => exact type_bytes); (case e => k_dflt k_is); (case h => k_handed)))
theorem byteArr_short {b : Array UInt8} {out : List Int} (hE : Enc (KBw.bInts b) out) (hb : b.size ≤ 99) : (byteArr out).size ≤ 1000 := by
  have h := hE.len
  rw [KBw.ints_length] at h
  unfold byteArr
  rw [List.size_toArray, List.length_map]
  omega
theorem len_two {prog : Program} {w : World} {A : Around} {E : Value → Shared → Prop} {s : Shared} {x y : UInt8} {t : Tok} {Q : Value → Shared → Prop} (h : ∀ t' k, Q (.int 2 t') { s with toks := k }) :
    wpAny (model prog w) A (call (.builtin "len") [.bytes #[x, y] t]) Q E s := KBw.len_K (ks := [(x.toNat : Int), (y.toNat : Int)]) rfl (by simp) (h _ _)
local macro_rules | `(tactic| walk_at "call builtin:len") => `(tactic| (k_here; refine len_two ?_; intro _ _))
local macro_rules | `(tactic| walk_at "call builtin:bytes.maketrans") => `(tactic| (k_here; refine mt_call ?_ ?_; (case' refine_1 => rfl); intro _ _))
local macro_rules | `(tactic| walk_at "call builtin:bytes.translate") => `(tactic| (k_here; refine tr_call (mtab_size _ _) ?_ ?_; (case' refine_1 => (exact byteArr_short (by assumption) (by assumption))); intro _ _))
local macro_rules | `(tactic| cell_enter) => `(tactic| (refine' code_def ?k1 ?k2 ?k3 ?k4 ?k5 ?kA ?kF ?kK ?k6 ?k7 ?k8 ?k9 ?kB ?_ ?c2 ?c3 ?c4 ?c5; (case kA => exact rfl); (case kF => exact rfl); (case kK => assumption); (case k1 => k_asm); (case k2 => k_asm); (case k3 => k_asm); (case k4 => k_asm); (case k5 => k_asm); (case k6 => k_is); (case k7 => k_is); (case k8 => ktr_room); (case k9 => first | exact binds_K (by k_in) rfl (by k_is) rfl rfl rfl | exact BindsTo.of_eq rfl); (case c5 => decide); (case kB => exact locs rfl); (case c2 => exact rfl); (case c3 => exact rfl); (case c4 => exact rfl); k_whole; intro g' L' h' FG' F' N' B' X' T'; (try dsimp only); (try k_lift B'); (try k_fold)))
section
variable {w : World} {mean : ExcName → Option Value} {mg mb : Str → Option Value} {news : List (Addr × Obj)} {x y : UInt8} {t t' : Tok} {b p : Array UInt8}
set_option maxHeartbeats 4000000
theorem enc1_calls (hb : b.size ≤ 99) : CallsB 3 w mean mg mb 51 news [.bytes b t] [] (Enc (KBw.bInts b)) := by
  intro dp un gd cn cs a ccd cl outer A₀ base h₀ L m s Q E B F X N T hk hd' hu hret
  refine wpAny_call ?_
  k_dflt cell_enter
  k_steps
  all_goals exact hret _ _ _ _ (by assumption) (by k_asm) (by k_asm)
theorem enc2_calls (hb : b.size ≤ 99) : CallsB 3 w mean mg mb 51 news [.bytes b t, .bytes #[x, y] t'] [] (fun out => ∃ o, Enc (KBw.bInts b) o ∧ out = o.map (alts x.toNat y.toNat)) := by
  intro dp un gd cn cs a ccd cl outer A₀ base h₀ L m s Q E B F X N T hk hd' hu hret
  refine wpAny_call ?_
  k_dflt cell_enter
  k_steps
  all_goals (rename Enc _ _ => hE9; rw [tr_ints hE9.in_]; exact hret _ _ _ _ ⟨_, hE9, rfl⟩ (by k_asm) (by k_asm))
end
end Mine
end

section
open PySem PySem.W PyProof.Rows
namespace Mine
/-- what _law_figure hands back -/
def figF (p q code : Int) : Int :=
  if 65 ≤ code % 128 ∧ code % 128 ≤ 90 then code % 32 - 1
  else if 97 ≤ code % 128 ∧ code % 128 ≤ 122 then code % 32 + 25
  else if 48 ≤ code % 128 ∧ code % 128 ≤ 57 then code % 32 + 36
  else if code % 128 = p then 62 else if code % 128 = q then 63 else -1
theorem figF_lt (p q code : Int) : figF p q code < 64 := by
  unfold figF
  repeat' split
  all_goals omega
/-- the reader's step upon a code; none: it would not go well -/
def rstep (p q : Int) (st : Option RSt) (code : Int) : Option RSt :=
  match st with
  | none => none
  | some st =>
    if 0 ≤ figF p q code then some (rd st (figF p q code))
    else if code % 128 = 61 then (if st.2.1 = 0 ∧ 2 ≤ st.2.2 then some (st.1, st.2.1, st.2.2 - 2) else none)
    else some st
def RInv (st : RSt) : Prop := (st.2.2 = 0 ∧ st.2.1 = 0) ∨ (st.2.2 = 2 ∧ 0 ≤ st.2.1 ∧ st.2.1 < 4) ∨ (st.2.2 = 4 ∧ 0 ≤ st.2.1 ∧ st.2.1 < 16) ∨ (st.2.2 = 6 ∧ 0 ≤ st.2.1 ∧ st.2.1 < 64)
theorem rd_inv {st : RSt} {f : Int} (h : RInv st) (h0 : 0 ≤ f) (h1 : f < 64) : RInv (rd st f) := by
  obtain ⟨o, a, m⟩ := st
  unfold RInv at h ⊢
  unfold rd
  dsimp only at h ⊢
  rcases h with ⟨rfl, h⟩ | ⟨rfl, h⟩ | ⟨rfl, h⟩ | ⟨rfl, h⟩
  · rw [if_neg (by omega), if_neg (by omega), if_neg (by omega)]; dsimp only; omega
  · rw [if_neg (by omega), if_neg (by omega), if_pos rfl]; dsimp only; omega
  · rw [if_neg (by omega), if_pos rfl]; dsimp only; omega
  · rw [if_pos rfl]; dsimp only; omega
/-- the loop's word -/
def RdSt (p q : Int) (pre oct : List Int) (held many : Int) : Prop := pre.foldl (rstep p q) (some r0) = some (oct, held, many) ∧ RInv (oct, held, many) ∧ oct.length ≤ pre.length
theorem rdSt_nil (p q : Int) : RdSt p q [] [] 0 0 := ⟨rfl, .inl ⟨rfl, rfl⟩, Nat.le_refl _⟩
theorem RdSt.bnd {p q : Int} {pre oct : List Int} {held many : Int} (h : RdSt p q pre oct held many) : 0 ≤ many ∧ many ≤ 6 ∧ 0 ≤ held ∧ held < 64 ∧ oct.length ≤ pre.length := by
  obtain ⟨_, h, h2⟩ := h
  unfold RInv at h
  dsimp only at h
  omega
theorem fold_none (p q : Int) : ∀ l : List Int, l.foldl (rstep p q) none = none
  | [] => rfl
  | c :: r => by rw [List.foldl_cons]; exact fold_none p q r
theorem rdSt_step {p q k : Int} {pre post oct : List Int} {held many : Int} {fin : RSt} (h : RdSt p q pre oct held many) (hg : (pre ++ k :: post).foldl (rstep p q) (some r0) = some fin) : ∃ st, rstep p q (some (oct, held, many)) k = some st := by
  rw [List.foldl_append, h.1, List.foldl_cons] at hg
  cases hs : rstep p q (some (oct, held, many)) k with
  | none => rw [hs, fold_none] at hg; cases hg
  | some st => exact ⟨st, rfl⟩
theorem rdSt_snoc {p q k : Int} {pre oct : List Int} {held many : Int} {st : RSt} (h : RdSt p q pre oct held many) (hs : rstep p q (some (oct, held, many)) k = some st) (hi : RInv st) (hl : st.1.length ≤ oct.length + 1) : RdSt p q (pre ++ [k]) st.1 st.2.1 st.2.2 := by
  refine ⟨?_, hi, ?_⟩
  · rw [List.foldl_append, h.1]; exact hs
  · have := h.2.2
    rw [List.length_append, List.length_singleton]; omega
/-- a figure, the octet not full -/
theorem rdT_part {p q k : Int} {pre oct : List Int} {held many : Int} (h : RdSt p q pre oct held many) (h0 : 0 ≤ figF p q k) (h8 : ¬ 8 ≤ many + 6) : RdSt p q (pre ++ [k]) oct (held * 64 + figF p q k) (many + 6) := by
  have hi := h.2.1
  have hb := h.bnd
  have hf := figF_lt p q k
  have hm : many = 0 := by
    unfold RInv at hi
    dsimp only at hi
    omega
  subst hm
  have e : rd (oct, held, 0) (figF p q k) = (oct, held * 64 + figF p q k, 0 + 6) := by
    unfold rd
    dsimp only
    rw [if_neg (by omega), if_neg (by omega), if_neg (by omega)]
    rfl
  have hs : rstep p q (some (oct, held, 0)) k = some (oct, held * 64 + figF p q k, 0 + 6) := by
    unfold rstep
    dsimp only
    rw [if_pos h0, e]
  exact rdSt_snoc h hs (e ▸ rd_inv hi h0 hf) (by dsimp only; omega)
/-- a figure, the octet full -/
theorem rdT_full {p q k : Int} {pre oct : List Int} {held many : Int} (h : RdSt p q pre oct held many) (h0 : 0 ≤ figF p q k) (h8 : 8 ≤ many + 6) :
    RdSt p q (pre ++ [k]) (oct ++ [(held * 64 + figF p q k).fdiv (2 ^ (many + 6 - 8).toNat)]) ((held * 64 + figF p q k).fmod (2 ^ (many + 6 - 8).toNat)) (many + 6 - 8) := by
  have hi := h.2.1
  have hb := h.bnd
  have hf := figF_lt p q k
  have hx : 0 ≤ held * 64 + figF p q k := by omega
  rw [Int.fdiv_eq_ediv_of_nonneg _ (Int.le_of_lt (Int.pow_pos (by decide))), Int.fmod_eq_emod_of_nonneg _ (Int.le_of_lt (Int.pow_pos (by decide)))]
  have e : rd (oct, held, many) (figF p q k) = (oct ++ [(held * 64 + figF p q k) / (2 ^ (many + 6 - 8).toNat)], (held * 64 + figF p q k) % (2 ^ (many + 6 - 8).toNat), many + 6 - 8) := by
    unfold RInv at hi
    dsimp only at hi
    unfold rd
    dsimp only
    rcases hi with ⟨rfl, hi⟩ | ⟨rfl, hi⟩ | ⟨rfl, hi⟩ | ⟨rfl, hi⟩
    · omega
    · rw [if_neg (by omega), if_neg (by omega), if_pos rfl]
      show _ = (oct ++ [(held * 64 + figF p q k) / 1], (held * 64 + figF p q k) % 1, (0 : Int))
      rw [Int.ediv_one, Int.emod_one]
    · rw [if_neg (by omega), if_pos rfl]
      rfl
    · rw [if_pos rfl]
      rfl
  have hs : rstep p q (some (oct, held, many)) k = some (oct ++ [(held * 64 + figF p q k) / (2 ^ (many + 6 - 8).toNat)], (held * 64 + figF p q k) % (2 ^ (many + 6 - 8).toNat), many + 6 - 8) := by
    unfold rstep
    dsimp only
    rw [if_pos h0, e]
  exact rdSt_snoc h hs (e ▸ rd_inv hi h0 hf) (by dsimp only; rw [List.length_append, List.length_singleton]; omega)
/-- a pad -/
theorem rdT_pad {p q k : Int} {pre post oct : List Int} {held many : Int} {fin : RSt} (h : RdSt p q pre oct held many) (hg : (pre ++ k :: post).foldl (rstep p q) (some r0) = some fin) (h0 : ¬ 0 ≤ figF p q k) (h1 : k % 128 = 61) : held = 0 ∧ RdSt p q (pre ++ [k]) oct held (many - 2) := by
  obtain ⟨st, hs⟩ := rdSt_step h hg
  have hs' := hs
  unfold rstep at hs'
  dsimp only at hs'
  rw [if_neg h0, if_pos h1] at hs'
  by_cases c : held = 0 ∧ 2 ≤ many
  · rw [if_pos c] at hs'
    cases hs'
    refine ⟨c.1, rdSt_snoc h hs ?_ (by dsimp only; omega)⟩
    have hi := h.2.1
    unfold RInv at hi ⊢
    dsimp only at hi ⊢
    omega
  · rw [if_neg c] at hs'
    cases hs'
/-- a stray -/
theorem rdT_stray {p q k : Int} {pre oct : List Int} {held many : Int} (h : RdSt p q pre oct held many) (h0 : ¬ 0 ≤ figF p q k) (h1 : ¬ k % 128 = 61) : RdSt p q (pre ++ [k]) oct held many := by
  refine rdSt_snoc h (st := (oct, held, many)) ?_ h.2.1 (by dsimp only; omega)
  unfold rstep
  dsimp only
  rw [if_neg h0, if_neg h1]
end Mine
end

section
open PySem PySem.W PyProof.Rows
set_option maxRecDepth 100000
namespace Mine
theorem fill5 : (∀ p, hd.heap_39 p = hd.heap_39 p) ∧ (PySem.Challenge.rw_mj0045_01 = PySem.Challenge.rw_mj0045_01) := by k_fill; exact ⟨fun _ => rfl, rfl⟩
local macro_rules | `(tactic| walk_at "call ref") => `(tactic| (k_here; k_dflt ((first | refine' Calls.go isupper_calls ?k1 ?k2 ?k3 ?k4 ?k5 ?k6 ?k7 ?k8 ?_ | refine' Calls.go islower_calls ?k1 ?k2 ?k3 ?k4 ?k5 ?k6 ?k7 ?k8 ?_ | refine' Calls.go isdigit_calls ?k1 ?k2 ?k3 ?k4 ?k5 ?k6 ?k7 ?k8 ?_ | refine' Calls.go ctrl_calls ?k1 ?k2 ?k3 ?k4 ?k5 ?k6 ?k7 ?k8 ?_); (case k1 => k_asm); (case k2 => k_asm); (case k3 => k_asm); (case k4 => k_asm); (case k5 => k_asm); (case k6 => first | exact rfl | assumption); (case k7 => ktr_room); (case k8 => ktr_units); intro t9 h9 tk9 F9 N9; (try dsimp only); (try k_fold))))
theorem fm128 (x : Int) : x.fmod 128 = x % 128 := Int.fmod_eq_emod_of_nonneg _ (by decide)
theorem fig_up {p q code : Int} (h : 65 ≤ code.fmod 128 ∧ code.fmod 128 ≤ 90) : Builtin.bitAnd code 31 - 1 = figF p q code := by
  rw [fm128] at h
  rw [bitAnd_m5, figF, if_pos h]
theorem fig_lo {p q code : Int} (h1 : ¬ (65 ≤ code.fmod 128 ∧ code.fmod 128 ≤ 90)) (h : 97 ≤ code.fmod 128 ∧ code.fmod 128 ≤ 122) : Builtin.bitAnd code 31 + 25 = figF p q code := by
  rw [fm128] at h1 h
  rw [bitAnd_m5, figF, if_neg h1, if_pos h]
theorem fig_di {p q code : Int} (h1 : ¬ (65 ≤ code.fmod 128 ∧ code.fmod 128 ≤ 90)) (h2 : ¬ (97 ≤ code.fmod 128 ∧ code.fmod 128 ≤ 122)) (h : 48 ≤ code.fmod 128 ∧ code.fmod 128 ≤ 57) : Builtin.bitAnd code 31 + 36 = figF p q code := by
  rw [fm128] at h1 h2 h
  rw [bitAnd_m5, figF, if_neg h1, if_neg h2, if_pos h]
theorem fig_no {p q code : Int} (h1 : ¬ (65 ≤ code.fmod 128 ∧ code.fmod 128 ≤ 90)) (h2 : ¬ (97 ≤ code.fmod 128 ∧ code.fmod 128 ≤ 122)) (h3 : ¬ (48 ≤ code.fmod 128 ∧ code.fmod 128 ≤ 57)) (h : ([p, q].any fun x => x == code.fmod 128) = false) : -1 = figF p q code := by
  rw [fm128] at h1 h2 h3 h
  simp at h
  rw [figF, if_neg h1, if_neg h2, if_neg h3, if_neg (fun e => h.1 e.symm), if_neg (fun e => h.2 e.symm)]
theorem fig_in {p q x : Int} (h : ([p, q].any fun y => y == x) = true) : x ∈ [p, q] := by
  simp at h
  simp
  rcases h with h | h
  · exact .inl h.symm
  · exact .inr h.symm
theorem fig_pq {p q code : Int} (h1 : ¬ (65 ≤ code.fmod 128 ∧ code.fmod 128 ≤ 90)) (h2 : ¬ (97 ≤ code.fmod 128 ∧ code.fmod 128 ≤ 122)) (h3 : ¬ (48 ≤ code.fmod 128 ∧ code.fmod 128 ≤ 57)) (h : ([p, q].any fun x => x == code.fmod 128) = true) : 62 + (([p, q].idxOf (code.fmod 128) : Nat) : Int) = figF p q code := by
  have h4 := fig_in h
  rw [fm128] at h1 h2 h3 h4 ⊢
  rw [figF, if_neg h1, if_neg h2, if_neg h3]
  by_cases e : code % 128 = p
  · rw [if_pos e, e]; simp
  · have e2 : code % 128 = q := by simpa [e] using h4
    rw [if_neg e, if_pos e2]
    rw [List.idxOf_cons, cond_eq_if, if_neg (by simpa using fun h => e h.symm)]
    rw [e2]
    simp
section
variable {w : World} {mean : ExcName → Option Value} {mg mb : Str → Option Value} {news : List (Addr × Obj)} {p q code : Int} {t tp tq : Tok} {pa : Addr} {n : Nat}
set_option maxHeartbeats 4000000
theorem ints2 {p q : Int} {tp tq : Tok} : IntsAre [.int p tp, .int q tq] [p, q] := .cons _ _ (.cons _ _ .nil)
theorem fig_calls (hlay : PyData.layable0 (.list ([p, q].map .int)) = true) : Calls 3 w mean mg mb 107 ((pa, listOf #[.int p tp, .int q tq] n) :: news) [.int code t, .ref pa] [] (fun t => .int (figF p q code) t) := by
  intro dp un gd cn cs a ccd cl outer A₀ base h₀ L m s Q E B F X N T hk hd' hu hret
  refine wpAny_call ?_
  k_dflt cell_enter
  k_steps
  · exact cb_retI (Q := Q) (fun t h' tk' F N => hret t h' tk' F N) (fig_up (by assumption)) (by k_asm) (by k_asm)
  · exact cb_retI (Q := Q) (fun t h' tk' F N => hret t h' tk' F N) (fig_lo (by assumption) (by assumption)) (by k_asm) (by k_asm)
  · exact cb_retI (Q := Q) (fun t h' tk' F N => hret t h' tk' F N) (fig_di (by assumption) (by assumption) (by assumption)) (by k_asm) (by k_asm)
  · refine index_list_ints (by assumption) ints2 hlay (fig_in (by assumption)) ?_
    k_steps
    exact cb_retI (Q := Q) (fun t h' tk' F N => hret t h' tk' F N) (fig_pq (by assumption) (by assumption) (by assumption) (by assumption)) (by k_asm) (by k_asm)
  · exact cb_retI (Q := Q) (fun t h' tk' F N => hret t h' tk' F N) (fig_no (by assumption) (by assumption) (by assumption) (by assumption)) (by k_asm) (by k_asm)
end
end Mine
end

section
open PySem PySem.W PyProof.Rows
set_option maxRecDepth 100000
namespace Mine
theorem fill6 : (∀ p, hd.heap_39 p = hd.heap_39 p) ∧ (PySem.Challenge.rw_mj0045_01 = PySem.Challenge.rw_mj0045_01) := by k_fill; exact ⟨fun _ => rfl, rfl⟩
/-- a goal that the walk leaves alone -/
def Later (P : Prop) : Prop := P
/-- a loop over a list of the ledger that turns one list and two ints -/
theorem list_loop {prog : Program} {w : World} {A : Around} {E : Value → Shared → Prop} {s : Shared} {env : Env} {h₀ : Heap} {x : Str} {body : List Stmt} {Q : Flow → Shared → Prop} {src : Addr} {us : List Value} {ks : List Int} {nk : Nat} {m₀ : Str → Option Value}
    {l : Addr} {news : List (Addr × Obj)} {nn : Nat} {vs₀ : List Value} {ns₀ : List Int} {a₀ c₀ : Int} {ta tc : Tok} (y z : Str) (stored : List Str) (P : List Int → List Int → Int → Int → Prop)
    (hh : A.handled = none) (hm : (src, listOf us.toArray nk) ∈ news) (hks : IntsAre us ks) (F : Fr h₀ env.locals s.heap m₀) (N : News h₀ env.locals s.heap ((l, listOf vs₀.toArray nn) :: news)) (hi : IntsAre vs₀ ns₀) (hy : m₀ y = some (.int a₀ ta)) (hz : m₀ z = some (.int c₀ tc)) (hp : P [] ns₀ a₀ c₀)
    (turn : ∀ (vs : List Value) (ns : List Int) (n : Nat) (a : Int) (ta : Tok) (c : Int) (tc : Tok) (pre post : List Int) (k : Int) t (u : Str → Option Value) h tk own, ks = pre ++ k :: post → OwnOff own (l :: news.map (·.1)) → IntsAre vs ns → vs.length = ns.length → P pre ns a c →
      Fr h₀ env.locals h (fun q => if q = x then some (.int k t) else if q = y then some (.int a ta) else if q = z then some (.int c tc) else if stored.contains q then u q else m₀ q) → News h₀ env.locals h ((l, listOf vs.toArray n) :: (news ++ own)) →
      wpAny (model prog w) A (execs body env) (InvPostN h₀ env.locals (KstS (σ := LS) (fun c => (l, listOf c.1.toArray c.2.2.1) :: news) (fun c => [(y, .int c.2.2.2.1 c.2.2.2.2.1), (z, .int c.2.2.2.2.2.1 c.2.2.2.2.2.2)]) (fun c => IntsAre c.1 c.2.1) x stored m₀ (fun pre c => P pre c.2.1 c.2.2.2.1 c.2.2.2.2.2.1) (pre ++ [k])) own (l :: news.map (·.1)) { s with heap := h, toks := tk } Q) E { s with heap := h, toks := tk })
    (done : ∀ (vs : List Value) (ns : List Int) (n : Nat) (a : Int) (ta : Tok) (c : Int) (tc : Tok) (u : Str → Option Value) h tk, IntsAre vs ns → vs.length = ns.length → P ks ns a c → Fr h₀ env.locals h (fun q => if q = x then u q else if q = y then some (.int a ta) else if q = z then some (.int c tc) else if stored.contains q then u q else m₀ q) → News h₀ env.locals h ((l, listOf vs.toArray n) :: news) → Q .next { s with heap := h, toks := tk }) :
    wpAny (model prog w) A (pyIter (.ref src)) (fun it s₂ => LoopAtV prog w A h₀ env x body Q E it s₂) E s := by
  refine kst_listL (σ := LS) (fun c => (l, listOf c.1.toArray c.2.2.1) :: news) (fun c => [(y, .int c.2.2.2.1 c.2.2.2.2.1), (z, .int c.2.2.2.2.2.1 c.2.2.2.2.2.2)]) (fun c => IntsAre c.1 c.2.1) stored (fun pre c => P pre c.2.1 c.2.2.2.1 c.2.2.2.2.2.1) (vs₀, ns₀, nn, a₀, ta, c₀, tc) hh (fun _ => List.mem_cons_of_mem _ hm) hks F N hi ?_ hp ?_ ?_
  · intro p hp
    rcases List.mem_cons.mp hp with rfl | hp
    · exact hy
    · rcases List.mem_cons.mp hp with rfl | hp
      · exact hz
      · cases hp
  · rintro ⟨vs, ns, n, a, ta, c, tc⟩ pre post k t u h tk own h1 _ h5 h6 h7 F' N'
    exact turn vs ns n a ta c tc pre post k t u h tk own h1 h5 h6 h6.length h7 F' N'
  · rintro ⟨vs, ns, n, a, ta, c, tc⟩ u h tk h2 h3 F' N'
    exact done vs ns n a ta c tc u h tk h2 h2.length h3 F' N'
theorem figH {p q code : Int} {t tp tq : Tok} {pa : Addr} {n : Nat} {w : World} {mean : ExcName → Option Value} {mg mb : Str → Option Value} {news : List (Addr × Obj)} (hm : (pa, listOf #[.int p tp, .int q tq] n) ∈ news) (hlay : PyData.layable0 (.list ([p, q].map .int)) = true) :
    Calls 3 w mean mg mb 107 news [.int code t, .ref pa] [] (fun t => .int (figF p q code) t) := by
  intro dp un gd cn cs a ccd cl outer A₀ base h₀ L m s Q E B F X N T hk hd' hu hret
  refine fig_calls (news := news) hlay _ _ _ _ _ _ _ _ _ _ _ _ _ _ _ _ _ B F X (fun p hp => (List.mem_cons.mp hp).elim (fun e => N p (e ▸ hm)) (N p)) T hk hd' hu ?_
  intro t h' tk' F' N'
  exact hret t h' tk' F' (cb_drop N' fun p hp => List.mem_cons_of_mem _ hp)
abbrev RdPost (l : Addr) (news : List (Addr × Obj)) (m₀ : Str → Option Value) (p q : Int) (pre : List Int) (k : Int) := KstS (σ := LS) (fun c => (l, listOf c.1.toArray c.2.2.1) :: news) (fun c => [(Str.ofString "held", .int c.2.2.2.1 c.2.2.2.2.1), (Str.ofString "many", .int c.2.2.2.2.2.1 c.2.2.2.2.2.2)]) (fun c => IntsAre c.1 c.2.1) (Str.ofString "code") [Str.ofString "figure"] m₀ (fun pre c => RdSt p q pre c.2.1 c.2.2.2.1 c.2.2.2.2.2.1) (pre ++ [k])
theorem read_loop {prog : Program} {w : World} {A : Around} {E : Value → Shared → Prop} {s : Shared} {env : Env} {h₀ : Heap} {body : List Stmt} {Q : Flow → Shared → Prop} {src : Addr} {us : List Value} {ks : List Int} {nk : Nat} {m₀ : Str → Option Value}
    {l : Addr} {news : List (Addr × Obj)} {ta tc : Tok} {p q : Int} {fin : RSt} (hgood : ks.foldl (rstep p q) (some r0) = some fin)
    (hh : A.handled = none) (hm : (src, listOf us.toArray nk) ∈ news) (hks : IntsAre us ks) (F : Fr h₀ env.locals s.heap m₀) (N : News h₀ env.locals s.heap ((l, listOf #[] 0) :: news)) (hy : m₀ (Str.ofString "held") = some (.int 0 ta)) (hz : m₀ (Str.ofString "many") = some (.int 0 tc))
    (turn : Later (∀ (vs : List Value) (ns : List Int) (n : Nat) (a : Int) (ta : Tok) (c : Int) (tc : Tok) (pre post : List Int) (k : Int) t (u : Str → Option Value) h tk own, ks = pre ++ k :: post → OwnOff own (l :: news.map (·.1)) → IntsAre vs ns → vs.length = ns.length → RdSt p q pre ns a c →
      Fr h₀ env.locals h (fun q => if q = Str.ofString "code" then some (.int k t) else if q = Str.ofString "held" then some (.int a ta) else if q = Str.ofString "many" then some (.int c tc) else if [Str.ofString "figure"].contains q then u q else m₀ q) → News h₀ env.locals h ((l, listOf vs.toArray n) :: (news ++ own)) →
      wpAny (model prog w) A (execs body env) (InvPostN h₀ env.locals (RdPost l news m₀ p q pre k) own (l :: news.map (·.1)) { s with heap := h, toks := tk } Q) E { s with heap := h, toks := tk }))
    (done : Later (∀ (vs : List Value) (ns : List Int) (n : Nat) (a : Int) (ta : Tok) (c : Int) (tc : Tok) (u : Str → Option Value) h tk, IntsAre vs ns → vs.length = ns.length → (ns, a, c) = fin → Fr h₀ env.locals h (fun q => if q = Str.ofString "code" then u q else if q = Str.ofString "held" then some (.int a ta) else if q = Str.ofString "many" then some (.int c tc) else if [Str.ofString "figure"].contains q then u q else m₀ q) → News h₀ env.locals h ((l, listOf vs.toArray n) :: news) → Q .next { s with heap := h, toks := tk })) :
    wpAny (model prog w) A (pyIter (.ref src)) (fun it s₂ => LoopAtV prog w A h₀ env (Str.ofString "code") body Q E it s₂) E s := by
  refine list_loop (vs₀ := []) (Str.ofString "held") (Str.ofString "many") [Str.ofString "figure"] (RdSt p q) hh hm hks F N .nil hy hz (rdSt_nil p q) turn ?_
  intro vs ns n a ta c tc u h tk h1 h2 h3 F' N'
  have e := h3.1
  rw [hgood] at e
  exact done vs ns n a ta c tc u h tk h1 h2 (Option.some.inj e).symm F' N'
local macro_rules | `(tactic| walk_at "call ref") => `(tactic| (k_here; k_dflt (refine' Calls.go (figH ?km (by assumption)) ?k1 ?k2 ?k3 ?k4 ?k5 ?k6 ?k7 ?k8 ?_; (case k1 => k_asm); (case k2 => k_asm); (case k3 => k_asm); (case k4 => k_asm); (case km => k_mem); (case k5 => k_asm); (case k6 => first | exact rfl | assumption); (case k7 => ktr_room); (case k8 => ktr_units); intro t9 h9 tk9 F9 N9; (try dsimp only); (try k_fold))))
local macro_rules | `(tactic| walk_at "pyIter ref") => `(tactic| (k_here; (rename Fr _ _ _ _ => lF'); (rename News _ _ _ _ => lN'); (rename List.foldl _ _ _ = _ => hG'); (with_unfolding_all refine' read_loop hG' (by rfl) (by k_mem) (by assumption) lF' lN' (by rfl) (by rfl) ?_ ?_); (all_goals (clear lF' lN'))))
/-- a call that hands back a new list of known ints -/
abbrev CallsL (d : Nat) (w : World) (mean : ExcName → Option Value) (mg mb : Str → Option Value) (f : Addr) (news : List (Addr × Obj)) (vs : List Value) (kw : List (Str × Value)) (out : List Int) : Prop :=
  ∀ (dp un : Nat) (gd : Option (List Code)) (cn : Str) (cs : Scope) (a : Addr) (ccd : Value) (cl : List (Str × Addr)) (outer : List Env) (A₀ : Around) (base h₀ : Heap) (L : Addr) (m : Str → Option Value) (s : Shared) (Q E : Value → Shared → Prop),
    Below A₀ base outer h₀ → Fr h₀ L s.heap m → (hd.heap_39 w.params).In h₀ → News h₀ L s.heap news → Top hd.view_39 (looseW hd.view_39 [Str.ofString "b2a_base64", Str.ofString "b64encode"]) mean mg mb h₀ → cs.kind = .function →
    dp + d < recursionLimit → un + 8 * d < cLine →
    (∀ (l : Addr) (us : List Value) (n : Nat) (h' : Heap) (tk' : Nat), IntsAre us out → Fr h₀ L h' m → News h₀ L h' ((l, listOf us.toArray n) :: news) → Q (.ref l) { s with heap := h', toks := tk' }) →
      wpAny (model PySem.Challenge.rw_mj0045_01.row.prog w) (ktrTop dp un gd cn cs L a ccd cl outer) (call (.ref f) vs kw) Q E s
theorem pow_ne {k : Nat} (h : (2 : Int) ^ k = 0) : False := absurd h (Int.ne_of_gt (Int.pow_pos (by decide)))
section
variable {w : World} {mean : ExcName → Option Value} {mg mb : Str → Option Value} {news : List (Addr × Obj)} {p q : Int} {tp tq : Tok} {sa pa : Addr} {n1 n2 : Nat} {us : List Value} {ks oct : List Int}
set_option maxHeartbeats 4000000
theorem read_calls (hlay : PyData.layable0 (.list ([p, q].map .int)) = true) (hks : IntsAre us ks) (hlen : ks.length ≤ 1000) (hgood : ks.foldl (rstep p q) (some r0) = some (oct, 0, 0)) :
    CallsL 4 w mean mg mb 114 ((sa, listOf us.toArray n1) :: (pa, listOf #[.int p tp, .int q tq] n2) :: news) [.ref sa, .ref pa] [] oct := by
  intro dp un gd cn cs a ccd cl outer A₀ base h₀ L m s Q E B F X N T hk hd' hu hret
  have hgood' := hgood
  refine wpAny_call ?_
  k_dflt cell_enter
  k_steps
  · unfold Later
    intro vs ns n hel ta man tc pre post k t9 u9 h9 tk9 own hpre hoff hints hvs hst F9 N9
    have kMk := kstMark
    obtain ⟨hb1, hb2, hb3, hb4, hb5⟩ := hst.bnd
    have hpl : pre.length < 1000 := by rw [hpre] at hlen; simp at hlen; omega
    k_steps
    · exact (pow_ne (by assumption)).elim
    all_goals (rename News _ _ _ _ => nE; (try simp only [List.push_toArray] at nE))
    · refine kst_end ⟨_, _, _, _, _, _, _⟩ (by assumption) nE memc memo (by rfl) (by kst_facts) (by kst_all) (by kst_same) (rdT_full hst (by assumption) (by assumption))
    · refine kst_end ⟨_, _, _, _, _, _, _⟩ (by assumption) nE memc memo (by rfl) (by kst_facts) (by kst_all) (by kst_same) (rdT_part hst (by assumption) (by assumption))
    · rename k.fmod 128 = 61 => h61
      rw [fm128] at h61
      exact absurd (rdT_pad hst (hpre ▸ hgood) (by assumption) h61).1 (by assumption)
    · rename k.fmod 128 = 61 => h61
      rw [fm128] at h61
      refine kst_end ⟨_, _, _, _, _, _, _⟩ (by assumption) nE memc memo (by rfl) (by kst_facts) (by kst_all) (by kst_same) (rdT_pad hst (hpre ▸ hgood) (by assumption) h61).2
    · rename k.fmod 128 ≠ 61 => h61
      rw [fm128] at h61
      refine kst_end ⟨_, _, _, _, _, _, _⟩ (by assumption) nE memc memo (by rfl) (by kst_facts) (by kst_all) (by kst_same) (rdT_stray hst (by assumption) h61)
  · unfold Later
    intro vs ns n hel ta man tc u9 h9 tk9 hints hvs hst F9 N9
    have kMk := kstMark
    cases hst
    k_steps
    exact hret _ _ _ _ _ hints (by k_asm) (by assumption)
end
end Mine
end

section
open PySem PySem.W PyProof.Rows
set_option maxRecDepth 100000
namespace Mine
theorem fillL0 : (∀ p, hd.heap_39 p = hd.heap_39 p) ∧ (PySem.Challenge.rw_mj0045_01 = PySem.Challenge.rw_mj0045_01) := by k_fill; exact ⟨fun _ => rfl, rfl⟩
/-- the law's own text, out of the row's program -/
def lawDef : Stmt := (PySem.Challenge.pw_mj0045_01.main.body.getLast?).getD (.Pass ⟨0, 0, 0, 0⟩)
def lawBody : List Stmt := match lawDef with | .FunctionDef _ _ b _ _ _ _ _ _ _ => b | _ => []
def lawScope : Scope := match lawDef with | .FunctionDef _ _ _ _ _ _ s _ _ _ => s | _ => default
/-- statements i to j - 1 of it -/
def part (i j : Nat) : List Stmt := (lawBody.take j).drop i
theorem execs_app (env : Env) (c : List Stmt) : ∀ b : List Stmt, execs (b ++ c) env = (execs b env >>= fun f => match f with | .next => execs c env | f => pure f)
  | [] => by
    rw [show execs [] env = pure Flow.next by unfold execs; rfl, pure_bind]; rfl
  | x :: b => by
    rw [List.cons_append, execs_cons, execs_cons, bind_assoc]
    congr 1
    funext f
    cases f with
    | next => exact execs_app env c b
    | _ => rfl
theorem execs_append {M : Model} {A : Around} {env : Env} {Q : Flow → Shared → Prop} {E : Value → Shared → Prop} {b c : List Stmt} {s : Shared}
    (h : wpAny M A (execs b env) (fun f s' => f = .next ∧ wpAny M A (execs c env) Q E s') E s) : wpAny M A (execs (b ++ c) env) Q E s := by
  rw [execs_app]
  refine wpAny_bind (wpAny_mono h ?_ fun _ _ e => e)
  rintro f s' ⟨rfl, h⟩
  exact h
abbrev LawW (w : World) (dp un : Nat) (gd : Option (List Code)) (L a : Addr) (ccd : Value) (outer : List Env) (b : List Stmt) (Q : Flow → Shared → Prop) (E : Value → Shared → Prop) (s : Shared) : Prop :=
  wpAny (model PySem.Challenge.rw_mj0045_01.row.prog w) (ktrTop dp un gd (Str.ofString "law") lawScope L a ccd (cellsFrom (L + 1) lawScope.names []) outer) (execs b (envOfC (Str.ofString "law") lawScope L a ccd)) Q E s
/-- names with known values over an unknown map -/
def over : List (Str × Value) → (Str → Option Value) → Str → Option Value
  | [], u => u
  | p :: r, u => fun q => if q = p.1 then some p.2 else over r u q
theorem over_of {h₀ h : Heap} {L : Addr} {m : Str → Option Value} {kvs : List (Str × Value)} (F : Fr h₀ L h m) (e : ∀ p ∈ kvs, m p.1 = some p.2) : Fr h₀ L h (over kvs m) := by
  have : over kvs m = m := by
    induction kvs with
    | nil => rfl
    | cons p r ih =>
      funext q
      show (if q = p.1 then some p.2 else over r m q) = m q
      rw [ih fun x hx => e x (List.mem_cons_of_mem _ hx)]
      split
      · rename_i h; rw [h, e p (List.mem_cons_self ..)]
      · rfl
  rw [this]; exact F
def NeAll (d : Nat) : List Nat → Prop
  | [] => True
  | p :: r => @Ne Nat p d ∧ NeAll d r
def Apart : List Nat → Prop
  | [] => True
  | a :: r => NeAll a r ∧ Apart r
/-- the frame and the ledger behind a piece -/
def At (h₀ : Heap) (L : Addr) (kvs : List (Str × Value)) (news : List (Addr × Obj)) (s s' : Shared) : Prop :=
  ∃ u h' tk', s' = { s with heap := h', toks := tk' } ∧ Fr h₀ L h' (over kvs u) ∧ News h₀ L h' news ∧ Apart (news.map (·.1))
def Has (m : Str → Option Value) : List (Str × Value) → Prop
  | [] => True
  | p :: r => m p.1 = some p.2 ∧ Has m r
theorem has_all {m : Str → Option Value} : ∀ {kvs : List (Str × Value)}, Has m kvs → ∀ p ∈ kvs, m p.1 = some p.2
  | _ :: _, h, p, hp => (List.mem_cons.mp hp).elim (fun e => e ▸ h.1) (has_all h.2 p)
theorem at_of {h₀ h' : Heap} {L : Addr} {m : Str → Option Value} {kvs : List (Str × Value)} {news : List (Addr × Obj)} {s : Shared} {tk : Nat} (F : Fr h₀ L h' m) (e : Has m kvs) (N : News h₀ L h' news) (ap : Apart (news.map (·.1))) :
    At h₀ L kvs news s { s with heap := h', toks := tk } := ⟨m, h', tk, rfl, over_of F (has_all e), N, ap⟩
end Mine
end

section
open PySem PySem.W PyProof.Rows
set_option maxRecDepth 100000
namespace Mine
theorem fillLA : (∀ p, hd.heap_39 p = hd.heap_39 p) ∧ (PySem.Challenge.rw_mj0045_01 = PySem.Challenge.rw_mj0045_01) := by k_fill; exact ⟨fun _ => rfl, rfl⟩
/-- the law's numbers -/
def numOf (ns : List Int) : List Int := if ns = [] then [251, 255, 190] else ns.take 9
theorem numOf_len (ns : List Int) : 1 ≤ (numOf ns).length ∧ (numOf ns).length ≤ 9 := by
  unfold numOf
  split
  · decide
  · rename_i h
    have : 0 < ns.length := List.length_pos_iff.mpr h
    rw [List.length_take]
    omega
theorem numOf_some {ns : List Int} (h : 0 < (ns.take 9).length) : ns.take 9 = numOf ns := by
  unfold numOf
  rw [if_neg]
  rintro rfl
  simp at h
theorem numOf_none {ns : List Int} (h : ¬ 0 < (ns.take 9).length) : [251, 255, 190] = numOf ns := by
  unfold numOf
  rw [if_pos]
  rw [List.length_take] at h
  exact List.length_eq_zero_iff.mp (by omega)
theorem news_drop2 {h₀ h : Heap} {L : Addr} {x y : Addr × Obj} {r : List (Addr × Obj)} (N : News h₀ L h (x :: y :: r)) : News h₀ L h (x :: r) := fun p hp => by
  rcases List.mem_cons.mp hp with rfl | hp
  · exact N _ (List.mem_cons_self ..)
  · exact N p (List.mem_cons_of_mem _ (List.mem_cons_of_mem _ hp))
section
variable {w : World} {mean : ExcName → Option Value} {mg mb : Str → Option Value} {dp un : Nat} {gd : Option (List Code)} {a : Addr} {ccd : Value} {outer : List Env} {A₀ : Around} {base h₀ : Heap} {L : Addr} {s : Shared} {E : Value → Shared → Prop}
def PostA (h₀ : Heap) (L : Addr) (oc : Obj) (nms : List Int) (s : Shared) (f : Flow) (s' : Shared) : Prop :=
  f = .next ∧ ∃ na us n, IntsAre us nms ∧ At h₀ L [(Str.ofString "numbers", .ref na)] [(na, listOf us.toArray n), (L + 1, oc)] s s'
set_option maxHeartbeats 8000000 in
theorem pieceA {u : Str → Option Value} {oc : Obj} {sl : Addr} {vs : List Value} {ns : List Int}
    (B : Below A₀ base outer h₀) (F : Fr h₀ L s.heap (over [(Str.ofString "script", .ref sl)] u)) (X : (hd.heap_39 w.params).In h₀) (N : News h₀ L s.heap [(L + 1, oc)]) (T : Top hd.view_39 (looseW hd.view_39 [Str.ofString "b2a_base64", Str.ofString "b64encode"]) mean mg mb h₀)
    (hL : h₀.IsList sl vs.toArray) (hI : IntsAre vs ns) (hlen : ns.length ≤ 63) (hvs : vs.length = ns.length) (hroom : dp + 10 < recursionLimit) (hun : un + 100 < cLine) :
    LawW w dp un gd L a ccd outer (part 0 1) (PostA h₀ L oc (numOf ns) s) E s := by
  with_unfolding_all show wpAny _ _ (execs (_ :: []) (envX _ (Scope.mk _ _ _ _ _) _ _ _ (_ :: []))) _ _ _
  k_steps
  · rename Fr _ _ _ _ => F9
    rename News _ _ _ _ => N9
    refine ⟨rfl, _, _, _, ?_, at_of F9 ⟨rfl, trivial⟩ N9 ?_⟩
    · rw [← numOf_some (by assumption)]; assumption
    · simp only [List.map, Apart, NeAll, and_true]; omega
  · rename Fr _ _ _ _ => F9
    rename News _ _ _ _ => N9
    refine ⟨rfl, _, _, _, ?_, at_of F9 ⟨rfl, trivial⟩ (news_drop2 N9) ?_⟩
    · rw [← numOf_none (by assumption)]; exact .cons _ _ (.cons _ _ (.cons _ _ .nil))
    · simp only [List.map, Apart, NeAll, and_true]; omega
end
end Mine
end

section
open PySem PySem.W PyProof.Rows
set_option maxRecDepth 100000
namespace Mine
theorem fillLB : (∀ p, hd.heap_39 p = hd.heap_39 p) ∧ (PySem.Challenge.rw_mj0045_01 = PySem.Challenge.rw_mj0045_01) := by k_fill; exact ⟨fun _ => rfl, rfl⟩
local macro_rules | `(tactic| walk_at "binaryOp Add ref ref") => `(tactic| (k_here; (with_reducible show wpAny _ _ (binaryOp _ (Value.ref _) (Value.ref _)) _ _ _); gn_on))
section
variable {w : World} {mean : ExcName → Option Value} {mg mb : Str → Option Value} {dp un : Nat} {gd : Option (List Code)} {a : Addr} {ccd : Value} {outer : List Env} {A₀ : Around} {base h₀ : Heap} {L : Addr} {s : Shared} {E : Value → Shared → Prop}
  {u : Str → Option Value} {oc : Obj} {na : Addr} {nus : List Value} {nn : Nat} {nms : List Int}
/-- behind a statement that stores a name: a frame with the name over m, a new list of known ints on the ledger -/
def NewAt (h₀ : Heap) (L : Addr) (m : Str → Option Value) (news : List (Addr × Obj)) (x : Str) (out : List Int) (s : Shared) (f : Flow) (s' : Shared) : Prop :=
  f = .next ∧ ∃ D us n h' tk', s' = { s with heap := h', toks := tk' } ∧ IntsAre us out ∧ Fr h₀ L h' (fun y => if y = x then some (.ref D) else m y) ∧ News h₀ L h' ((D, listOf us.toArray n) :: news) ∧ NeAll D (news.map (·.1))
theorem neAll_of {d : Nat} : ∀ {l : List (Addr × Obj)}, AllLt d l → NeAll d (l.map (·.1))
  | [], _ => trivial
  | _ :: _, h => ⟨Nat.ne_of_lt h.1, neAll_of h.2⟩
def PostB (h₀ : Heap) (L : Addr) (kvs : List (Str × Value)) (news : List (Addr × Obj)) (nms : List Int) (s : Shared) (f : Flow) (s' : Shared) : Prop :=
  f = .next ∧ ∃ ts tt ra us n, IntsAre us (nms.map (· % 256)) ∧ At h₀ L ([(Str.ofString "row", .ref ra), (Str.ofString "total", .int nms.sum tt), (Str.ofString "size", .int nms.length ts)] ++ kvs) ((ra, listOf us.toArray n) :: news) s s'
theorem row_eq (nms : List Int) : nms.map (fun k => k.fmod 256) = nms.map (· % 256) := List.map_congr_left fun k _ => Int.fmod_eq_emod_of_nonneg _ (by decide)
set_option maxHeartbeats 8000000 in
theorem pieceB
    (B : Below A₀ base outer h₀) (F : Fr h₀ L s.heap (over [(Str.ofString "numbers", .ref na)] u)) (X : (hd.heap_39 w.params).In h₀) (N : News h₀ L s.heap [(na, listOf nus.toArray nn), (L + 1, oc)]) (T : Top hd.view_39 (looseW hd.view_39 [Str.ofString "b2a_base64", Str.ofString "b64encode"]) mean mg mb h₀)
    (hI : IntsAre nus nms) (h9 : nms.length ≤ 9) (h1 : 1 ≤ nms.length) (hvs : nus.length = nms.length) (ap : @Ne Nat (L + 1) na) (hroom : dp + 10 < recursionLimit) (hun : un + 100 < cLine) :
    LawW w dp un gd L a ccd outer (part 1 4) (PostB h₀ L [(Str.ofString "numbers", .ref na)] [(na, listOf nus.toArray nn), (L + 1, oc)] nms s) E s := by
  with_unfolding_all show wpAny _ _ (execs (_ :: _ :: _ :: []) (envX _ (Scope.mk _ _ _ _ _) _ _ _ (_ :: []))) _ _ _
  have kMk := kstMark
  k_steps
  rename Fr _ _ _ _ => F9
  rename News _ _ _ _ => N9
  refine ⟨rfl, _, _, _, _, _, ?_, at_of F9 ⟨rfl, rfl, rfl, rfl, trivial⟩ N9 ?_⟩
  · rw [← row_eq]; assumption
  · simp only [List.map, Apart, NeAll, and_true]; omega
/-- the law's others -/
def othersL : List Int := [0, 1, 2, 3, 4, 5, 6, 7, 8, 9, 10, 11, 12, 13, 14, 15, 16, 17, 18, 19, 20, 21, 22, 23, 24, 25, 26, 27, 28, 29, 30, 31, 32, 33, 34, 35, 36, 37, 38, 39, 40, 41, 42, 43, 44, 45, 46, 47, 58, 59, 60, 62, 63, 64, 91, 92, 93, 94, 95, 96, 123, 124, 125, 126, 127]
theorem others_eq : List.map (fun a => a) (rangeInts 0 1 (48 - 0 : Int).toNat) ++ [58, 59, 60, 62, 63, 64] ++ List.map (fun a => a) (rangeInts 91 1 (97 - 91 : Int).toNat) ++ List.map (fun a => a) (rangeInts 123 1 (128 - 123 : Int).toNat) = othersL := by decide +kernel
theorem news_first {h₀ h : Heap} {L : Addr} {x : Addr × Obj} {own r : List (Addr × Obj)} (N : News h₀ L h (x :: (own ++ r))) : News h₀ L h (x :: r) := fun p hp => by
  rcases List.mem_cons.mp hp with rfl | hp
  · exact N _ (List.mem_cons_self ..)
  · exact N p (List.mem_cons_of_mem _ (List.mem_append_right _ hp))
set_option maxHeartbeats 8000000 in
theorem pieceC {news : List (Addr × Obj)}
    (B : Below A₀ base outer h₀) (F : Fr h₀ L s.heap u) (X : (hd.heap_39 w.params).In h₀) (N : News h₀ L s.heap news) (T : Top hd.view_39 (looseW hd.view_39 [Str.ofString "b2a_base64", Str.ofString "b64encode"]) mean mg mb h₀)
    (hroom : dp + 10 < recursionLimit) (hun : un + 100 < cLine) :
    LawW w dp un gd L a ccd outer (part 4 5) (NewAt h₀ L u news (Str.ofString "others") othersL s) E s := by
  with_unfolding_all show wpAny _ _ (execs (_ :: []) (envX _ (Scope.mk _ _ _ _ _) _ _ _ (_ :: []))) _ _ _
  k_steps
  rename Fr _ _ _ _ => F9
  rename News _ _ _ _ => N9
  refine ⟨rfl, _, _, _, _, _, rfl, ?_, F9, news_first (own := [_, _, _, _, _, _]) N9, neAll_of ?_⟩
  · rw [← others_eq]; assumption
  · rename _ ∧ _ ∧ _ ∧ _ ∧ _ ∧ _ ∧ AllLt _ _ => l8
    exact l8.2.2.2.2.2.2
end
end Mine
end

section
open PySem PySem.W PyProof.Rows
set_option maxRecDepth 100000
namespace Mine
theorem fillLD : (∀ p, hd.heap_39 p = hd.heap_39 p) ∧ (PySem.Challenge.rw_mj0045_01 = PySem.Challenge.rw_mj0045_01) := by k_fill; exact ⟨fun _ => rfl, rfl⟩
theorem int_item {prog : Program} {w : World} {A : Around} {E : Value → Shared → Prop} {s : Shared} {h₀ : Heap} {L : Addr} {news : List (Addr × Obj)} {value slice : Expr} {a : Addr} {us : List Value} {ns : List Int} {n : Nat} {k : Int} {u : Tok} {Q : Value → Shared → Prop}
    (N : News h₀ L s.heap news) (hm : (a, listOf us.toArray n) ∈ news) (hI : IntsAre us ns) (h0 : 0 ≤ k) (h1 : k < (ns.length : Int)) (hfit : ns.length ≤ 1000) (h : ∀ t, Q (.int (ns.getD k.toNat 0) t) s)
    (hs : subscripted slice false (.ref a) (.int k u) = operate [.ref a, .int k u] (getItem (.ref a) (.int k u)) := by with_unfolding_all rfl) (hg : ∀ r, letTemporaryGo value (.ref a) r = pure () := by intro _; with_unfolding_all rfl) :
    wpAny (model prog w) A (subscriptTail value slice (.ref a) (.int k u)) Q E s := by
  have hk : k.toNat < ns.length := by omega
  obtain ⟨t, ht⟩ := hI.get k.toNat (ns.getD k.toNat 0) (by rw [List.getD_eq_getElem?_getD, List.getElem?_eq_getElem hk]; rfl)
  exact kim_list N hm rfl rfl h0 (by omega) ht (h t) hs hg
theorem fm31 (x : Int) : x.fmod 31 = x % 31 := Int.fmod_eq_emod_of_nonneg _ (by decide)
theorem fm30 (x : Int) : x.fmod 30 = x % 30 := Int.fmod_eq_emod_of_nonneg _ (by decide)
theorem fm4 (x : Int) : x.fmod 4 = x % 4 := Int.fmod_eq_emod_of_nonneg _ (by decide)
theorem fd31 (x : Int) : x.fdiv 31 = x / 31 := Int.fdiv_eq_ediv_of_nonneg _ (by decide)
theorem oth_idx (y : Int) : 0 ≤ 33 + y.fmod 31 ∧ 33 + y.fmod 31 < (othersL.length : Int) := by
  rw [fm31]
  show _ ∧ _ < (65 : Int)
  omega
local macro_rules | `(tactic| walk_at "subscriptTail") => `(tactic| (k_here; (with_reducible show wpAny _ _ (subscriptTail _ _ (Value.ref _) (Value.int (33 + _) _)) _ _ _); (rename IntsAre _ othersL => hO'); (with_unfolding_all refine int_item (by assumption) (by k_mem) hO' (oth_idx _).1 (oth_idx _).2 (by decide) ?_); intro _))
section
variable {w : World} {mean : ExcName → Option Value} {mg mb : Str → Option Value} {dp un : Nat} {gd : Option (List Code)} {a : Addr} {ccd : Value} {outer : List Env} {A₀ : Around} {base h₀ : Heap} {L : Addr} {s : Shared} {E : Value → Shared → Prop}
  {u : Str → Option Value} {oc : Obj} {na ra oa : Addr} {nus rus ous : List Value} {nn rn on : Nat} {nms : List Int}
/-- the 31 signs -/
def sig : List Int := [33, 34, 35, 36, 37, 38, 39, 40, 41, 42, 43, 44, 45, 46, 47, 58, 59, 60, 62, 63, 64, 91, 92, 93, 94, 95, 96, 123, 124, 125, 126]
def PairOK (b : Bool) (p q : Int) : Prop := p ∈ sig ∧ q ∈ sig ∧ p ≠ q ∧ (b = true → p = 43 ∧ q = 47)
theorem pair_usual {b : Bool} : PairOK b 43 47 := ⟨by decide, by decide, by decide, fun _ => ⟨rfl, rfl⟩⟩
theorem oth_sig : ∀ i : Fin 31, othersL.getD (33 + i.val) 0 ∈ sig := by decide +kernel
theorem oth_inj : ∀ i j : Fin 31, othersL.getD (33 + i.val) 0 = othersL.getD (33 + j.val) 0 → i = j := by decide +kernel
theorem pair_alt {b : Bool} {t : Int} (hb : b = false) : PairOK b (othersL.getD (33 + t.fmod 31).toNat 0) (othersL.getD (33 + (t.fmod 31 + 1 + (t.fdiv 31).fmod 30).fmod 31).toNat 0) := by
  rw [fm31, fm31, fm30, fd31]
  generalize hr : t / 31 % 30 = r
  generalize hi : t % 31 = i
  generalize hj : (i + 1 + r) % 31 = j
  have e1 : (33 + i).toNat = 33 + i.toNat := by omega
  have e2 : (33 + j).toNat = 33 + j.toNat := by omega
  rw [e1, e2]
  have b1 : i.toNat < 31 := by omega
  have b2 : j.toNat < 31 := by omega
  refine ⟨oth_sig ⟨i.toNat, b1⟩, oth_sig ⟨j.toNat, b2⟩, fun e => ?_, fun h => by rw [hb] at h; cases h⟩
  have := congrArg Fin.val (oth_inj ⟨i.toNat, b1⟩ ⟨j.toNat, b2⟩ e)
  dsimp only at this
  omega
def PostD (h₀ : Heap) (L : Addr) (kvs : List (Str × Value)) (news : List (Addr × Obj)) (s : Shared) (f : Flow) (s' : Shared) : Prop :=
  f = .next ∧ ∃ b p q tp tq pa pn oc, PairOK b p q ∧ oc.data = .cell (some (.ref pa)) ∧ At h₀ L ((Str.ofString "usual", .bool b) :: kvs) ((pa, listOf #[.int p tp, .int q tq] pn) :: (news ++ [(L + 1, oc)])) s s'
set_option maxHeartbeats 8000000 in
theorem pieceD {tt ts : Tok} {ap : Apart [oa, ra, na, L + 1]}
    (B : Below A₀ base outer h₀) (F : Fr h₀ L s.heap (over [(Str.ofString "others", .ref oa), (Str.ofString "row", .ref ra), (Str.ofString "total", .int nms.sum tt), (Str.ofString "size", .int nms.length ts), (Str.ofString "numbers", .ref na)] u)) (X : (hd.heap_39 w.params).In h₀)
    (N : News h₀ L s.heap [(oa, listOf ous.toArray on), (ra, listOf rus.toArray rn), (na, listOf nus.toArray nn), (L + 1, oc)]) (T : Top hd.view_39 (looseW hd.view_39 [Str.ofString "b2a_base64", Str.ofString "b64encode"]) mean mg mb h₀)
    (hI : IntsAre nus nms) (h9 : nms.length ≤ 9) (h1 : 1 ≤ nms.length) (hvs : nus.length = nms.length) (hO : IntsAre ous othersL) (hcell : oc.data = .cell none) (hroom : dp + 10 < recursionLimit) (hun : un + 100 < cLine) :
    LawW w dp un gd L a ccd outer (part 5 8) (PostD h₀ L [(Str.ofString "others", .ref oa), (Str.ofString "row", .ref ra), (Str.ofString "total", .int nms.sum tt), (Str.ofString "size", .int nms.length ts), (Str.ofString "numbers", .ref na)] [(oa, listOf ous.toArray on), (ra, listOf rus.toArray rn), (na, listOf nus.toArray nn)] s) E s := by
  simp only [Apart, NeAll, and_true] at ap
  dsimp only [over] at F
  with_unfolding_all show wpAny _ _ (execs (_ :: _ :: _ :: []) (envX _ (Scope.mk _ _ _ _ _) _ _ _ (_ :: []))) _ _ _
  k_steps
  all_goals (rename Fr _ _ _ _ => F9; rename News _ _ _ _ => N9)
  · refine ⟨rfl, _, _, _, _, _, _, _, _, pair_usual, by assumption, at_of F9 ⟨rfl, rfl, rfl, rfl, rfl, rfl, trivial⟩ (news_drop2 N9) ?_⟩
    simp only [List.map, List.cons_append, List.nil_append, Apart, NeAll, and_true]; omega
  · refine ⟨rfl, _, _, _, _, _, _, _, _, pair_alt (decide_eq_false (by assumption)), by assumption, at_of F9 ⟨rfl, rfl, rfl, rfl, rfl, rfl, trivial⟩ N9 ?_⟩
    simp only [List.map, List.cons_append, List.nil_append, Apart, NeAll, and_true]; omega
end
end Mine
end

section
open PySem PySem.W PyProof.Rows PySem.Calls
set_option maxRecDepth 100000
namespace Mine
theorem shift {prog : Program} {w : World} {A : Around} {I : Addr} {fp wr : List Addr} {G : Array GenState → Array GenState → Prop} {n : Nat} {P : Nat → Value → Prop} {St : Nat → Shared → Prop} (W : WalksS prog w A I fp wr G n P St) (k : Nat) (O : Nat → Value → Prop) :
    WalksS prog w A I fp wr G (k + n) (fun j v => if j < k then O j v else P (j - k) v) (fun j s => k ≤ j ∧ St (j - k) s) where
  sub := W.sub
  grefl := W.grefl
  gtrans := W.gtrans
  frame := fun i s h' tk h h1 h2 => ⟨h.1, W.frame _ s h' tk h.2 h1 h2⟩
  item := fun i s Q E hi h hQ => W.item (i - k) s Q E (by have := h.1; omega) h.2 fun v s' h1 h2 h3 => hQ v s' (by rw [if_neg (by have := h.1; omega)]; exact h1) ⟨by have := h.1; omega, (show i - k + 1 = i + 1 - k by have := h.1; omega) ▸ h2⟩ h3
  done := fun s Q E h hQ => W.done s Q E (by have := h.2; rwa [Nat.add_sub_cancel_left] at this) hQ
  self := fun i s Q E h hQ => W.self (i - k) s Q E h.2 hQ
theorem bytes_len_slot : typeLookup (.type "bytes") "__len__" = pure (some (.builtin "bytes.__len__")) := by rw [typeLookup_type, builtinLookup_eq_fast]; kernel_rfl
def ExtP (a0 : Array Value) (b : Array UInt8) (j : Nat) (v : Value) : Prop := if j < a0.size then a0[j]? = some v else ∃ c u, b[j - a0.size]? = some c ∧ v = .int (c.toNat : Int) u
section
variable {prog : Program} {w : World} {A : Around} {E : Value → Shared → Prop} {s : Shared}
theorem extend_bytes_tree {R : Result → Shared → Prop} (hh : A.handled = none) (b : Array UInt8) (t : Tok) (S : Addr) (res : Value) (a0 : Array Value) (c₀ : Nat) (hS : s.heap.get? S = some (listOf a0 c₀))
    (hR : ∀ h' tk acc' c', (∀ b o, b ≠ S → s.heap.get? b = some o → h'.get? b = some o) → h'.get? S = some (listOf acc' c') → ItemsOf (ExtP a0 b) acc' (a0.size + b.size) → R (.ok (.ret res)) { s with heap := h', toks := tk }) (hn : a0.size + b.size ≤ sizeLine) :
    wpAny (model prog w) A.in1 (Builtin.List.listExtendWith (.ref S) (.bytes b t) res)
      (fun fin s' => match fin with | .done f => R (.ok f) s' | .again c' => c'.quiet = true ∧ codeAny (model prog w) A c' R s') (fun e s' => R (.error e) s') s := by
  have hSI : S ≠ s.heap.objs.size := Nat.ne_of_lt (Heap.lt_size hS)
  have hSf : S ∉ [s.heap.objs.size] := fun hm => hSI (List.mem_singleton.mp hm)
  unfold Builtin.List.listExtendWith
  refine wpAny_bind (wpAny_typeOf (T := "bytes") (v := .bytes b t) (typeIs_bytes _ _ _) ?_)
  have h1 : Builtin.List.listSameRef (.ref S) (.bytes b t) = false := rfl
  have h2 : (Value.type "bytes" == Value.type "list") = false := by decide
  have h3 : (Value.type "bytes" == Value.type "tuple") = false := by decide
  simp only [h1, h2, h3, Bool.or_false, Bool.false_eq_true, if_false]
  refine wpAny_bind (KBw.pyIter_bytes ?_)
  refine wpAny_bind (wpAny_holding ?_)
  unfold Builtin.List.listLengthHint
  refine wpAny_bind (wpAny_specialOf (T := "bytes") (v := .bytes b t) (typeIs_bytes _ _ _) bytes_len_slot ?_)
  wp_delta
  refine wpAny_bind (wpAny_isInstance (T := "bytes") (v := .bytes b t) (b := true) (typeIs_bytes _ _ _) (by rw [isSubtype_type]; kernel_rfl) ?_)
  show wpAny _ _ (typeOf (Value.bytes b t) >>= _) _ _ _
  refine wpAny_bind (wpAny_typeOf (T := "bytes") (v := .bytes b t) (typeIs_bytes _ _ _) ?_)
  refine wpAny_pure ?_
  rw [if_neg (by decide)]
  have W := shift (KBw.walks (prog := prog) (w := w) (A := A.in1) hh s.heap.objs.size b t).toS a0.size (fun j v => a0[j]? = some v)
  refine wpAny_pure ⟨plainId_quiet F.plain_extend_loop _, codeAny_extend_loopS W hn _ hSf _ b.size a0.size _ _ _ (Nat.add_sub_cancel_left ..) (Nat.le_add_right ..) ⟨Nat.le_refl _, ?_⟩ (Heap.get?_push_of_some _ hS) ⟨rfl, fun j v h => ?_⟩ fun s' acc' c' hm hS' hacc => ?_⟩
  · rw [Nat.sub_self]
    exact ⟨_, Heap.get?_push_size _ rfl, rfl, rfl⟩
  · dsimp only
    have : j < a0.size := by
      rcases Nat.lt_or_ge j a0.size with h9 | h9
      · exact h9
      · rw [Array.getElem?_eq_none h9] at h; cases h
    rw [if_pos this]
    exact h
  rw [Moved.eq_with hm]
  refine hR s'.heap s'.toks acc' c' (fun b ob hb e => hm.heap b ob (fun hmem => ?_) (Heap.get?_push_of_some _ e)) hS' hacc
  rcases List.mem_cons.mp hmem with e' | hmem
  · exact hb e'
  · exact absurd (Heap.lt_size e) (by rw [List.mem_singleton.mp hmem]; exact Nat.lt_irrefl _)
theorem intsAre_get : ∀ {vs : List Value} {ns : List Int}, vs.length = ns.length → (∀ (i : Nat) (v : Value) (n : Int), vs[i]? = some v → ns[i]? = some n → ∃ t, v = .int n t) → IntsAre vs ns
  | [], [], _, _ => .nil
  | v :: vs, n :: ns, hl, h => by
    obtain ⟨t, rfl⟩ := h 0 v n rfl rfl
    exact .cons _ _ (intsAre_get (by simpa using hl) fun i v' n' h1 h2 => h (i + 1) v' n' (by simpa using h1) (by simpa using h2))
  | [], _ :: _, hl, _ => by simp at hl
  | _ :: _, [], hl, _ => by simp at hl
theorem ext_ints {vs : List Value} {ns : List Int} {b : Array UInt8} {acc : Array Value} (hI : IntsAre vs ns) (h : ItemsOf (ExtP vs.toArray b) acc (vs.toArray.size + b.size)) : IntsAre acc.toList (ns ++ KBw.bInts b) := by
  obtain ⟨h1, h2⟩ := h
  refine intsAre_get ?_ fun i v n hv hn => ?_
  · rw [Array.length_toList, h1, List.length_append, KBw.ints_length, ← hI.length, List.size_toArray]
  · have q := h2 i v (by simpa using hv)
    unfold ExtP at q
    rw [List.size_toArray] at q
    split at q
    · rename_i hi
      have q' : vs[i]? = some v := by simpa using q
      obtain ⟨n', t, rfl, hn'⟩ := hI.at i v q'
      rw [List.getElem?_append_left (by rw [← hI.length]; exact hi), hn'] at hn
      cases hn
      exact ⟨t, rfl⟩
    · rename_i hi
      obtain ⟨c, u, hc, rfl⟩ := q
      rw [List.getElem?_append_right (by rw [← hI.length]; omega), ← hI.length, KBw.ints_get hc] at hn
      cases hn
      exact ⟨u, rfl⟩
theorem extend_bytes {h₀ : Heap} {L D : Addr} {m : Str → Option Value} {news : List (Addr × Obj)} {vs : List Value} {ns : List Int} {n : Nat} {b : Array UInt8} {t : Tok} {Q : Value → Shared → Prop}
    (F : Fr h₀ L s.heap m) (N : News h₀ L s.heap ((D, listOf vs.toArray n) :: news)) (hne : ∀ p ∈ news, p.1 ≠ D) (hI : IntsAre vs ns) (hh : A.handled = none) (hb : b.size ≤ 1000) (hv : ns.length ≤ 1000)
    (h : ∀ h' tk vs' n', Fr h₀ L h' m → News h₀ L h' ((D, listOf vs'.toArray n') :: news) → IntsAre vs' (ns ++ KBw.bInts b) → Q .none { s with heap := h', toks := tk }) :
    wpAny (model prog w) A (call (.builtin "list.extend") [.ref D, .bytes b t]) Q E s := by
  have z := N _ (List.mem_cons_self ..)
  refine wpAny_call (codeAny_call_builtin PySem.F.slot_list_extend.plain PySem.F.entry_list_extend (PySem.F.slot_list_extend.check _ _ _ _ _ _ _ _ ⟨_, z.1, rfl⟩ (PySem.F.args_list_extend_2 _ _) ?_))
  show wpAny _ _ (Builtin.List.listExtendWith (.ref D) (.bytes b t) .none) _ _ s
  refine extend_bytes_tree (R := wants Q E) hh b t D .none vs.toArray n z.1 ?_ (by rw [sizeLine_eq, List.size_toArray, hI.length]; omega)
  intro h' tk acc' c' hk hS hacc
  show Q .none _
  have e : acc' = acc'.toList.toArray := by simp
  refine h h' tk acc'.toList c' ?_ ?_ (ext_ints hI hacc)
  · obtain ⟨oL, a1, a2, hoL, a3⟩ := F.ns
    refine ⟨⟨oL, a1, a2, hk L oL (fun q => z.2.1 q.symm) hoL, a3⟩, fun b x e => hk b x ?_ (F.keep b x e), F.above⟩
    rintro rfl
    rw [z.2.2] at e
    cases e
  · intro p hp
    rcases List.mem_cons.mp hp with rfl | hp
    · exact ⟨by rw [← e]; exact hS, z.2⟩
    · have y := N p (List.mem_cons_of_mem _ hp)
      exact ⟨hk _ _ (hne p hp) y.1, y.2⟩
end
end Mine
end

section
open PySem PySem.W PyProof.Rows
set_option maxRecDepth 100000
namespace Mine
theorem fillLE : (∀ p, hd.heap_39 p = hd.heap_39 p) ∧ (PySem.Challenge.rw_mj0045_01 = PySem.Challenge.rw_mj0045_01) := by k_fill; exact ⟨fun _ => rfl, rfl⟩
/-- the body of the law's k-th statement, a for -/
def forBody (k : Nat) : List Stmt := match lawBody[k]? with | some (.For _ _ b _ _) => b | _ => []
/-- what b64encode writes of the octets pre with the altchars p, q -/
def EncP (p q : Int) (pre out : List Int) : Prop := ∃ o, Enc pre o ∧ out = o.map (alts p q)
theorem alts_usual (o : List Int) : o.map (alts 43 47) = o := by
  have : alts 43 47 = id := by
    funext c
    unfold alts
    repeat' split
    all_goals simp_all
  rw [this, List.map_id]
theorem sig_in : ∀ p ∈ sig, 0 ≤ p ∧ p < 256 := by decide
theorem u8 {p : Int} (h0 : 0 ≤ p) (h1 : p < 256) : ((p.toNat.toUInt8).toNat : Int) = p := by
  show ((UInt8.ofNat p.toNat).toNat : Int) = p
  rw [UInt8.toNat_ofNat']
  omega
section
variable {w : World} {mean : ExcName → Option Value} {mg mb : Str → Option Value} {news : List (Addr × Obj)} {t t' : Tok} {p q : Int} {ks : List Int}
theorem encB (hr : KBa.In ks) (hk : ks.length ≤ 9) : CallsB 3 w mean mg mb 51 news [.bytes (byteArr ks) t] [] (EncP 43 47 ks) := by
  intro dp un gd cn cs a ccd cl outer A₀ base h₀ L m s Q E B F X N T hk' hd' hu hret
  refine enc1_calls (by rw [byteArr_size]; omega) _ _ _ _ _ _ _ _ _ _ _ _ _ _ _ _ _ B F X N T hk' hd' hu ?_
  intro out t h' tk' hE F' N'
  rw [KBa.ints_make hr] at hE
  exact hret out t h' tk' ⟨out, hE, (alts_usual out).symm⟩ F' N'
theorem encA (hr : KBa.In ks) (hk : ks.length ≤ 9) (hp : 0 ≤ p ∧ p < 256) (hq : 0 ≤ q ∧ q < 256) : CallsB 3 w mean mg mb 51 news [.bytes (byteArr ks) t, .bytes (byteArr [p, q]) t'] [] (EncP p q ks) := by
  intro dp un gd cn cs a ccd cl outer A₀ base h₀ L m s Q E B F X N T hk' hd' hu hret
  refine enc2_calls (by rw [byteArr_size]; omega) _ _ _ _ _ _ _ _ _ _ _ _ _ _ _ _ _ B F X N T hk' hd' hu ?_
  rintro out t h' tk' ⟨o, hE, rfl⟩ F' N'
  rw [KBa.ints_make hr] at hE
  refine hret _ t h' tk' ⟨o, hE, ?_⟩ F' N'
  rw [u8 hp.1 hp.2, u8 hq.1 hq.2]
end
theorem alts_in {p q c : Int} (hp : 0 ≤ p ∧ p < 256) (hq : 0 ≤ q ∧ q < 256) (hc : 0 ≤ c ∧ c < 256) : 0 ≤ alts p q c ∧ alts p q c < 256 := by
  unfold alts
  repeat' split
  all_goals assumption
theorem EncP.in_ {p q : Int} {pre out : List Int} (h : EncP p q pre out) (hp : 0 ≤ p ∧ p < 256) (hq : 0 ≤ q ∧ q < 256) : KBa.In out := by
  obtain ⟨o, hE, rfl⟩ := h
  intro v hv
  obtain ⟨c, hc, rfl⟩ := List.mem_map.mp hv
  exact alts_in hp hq (hE.in_ c hc)
theorem EncP.len {p q : Int} {pre out : List Int} (h : EncP p q pre out) : (out.length : Int) = (4 * pre.length + 2) / 3 + (-(pre.length : Int)) % 3 := by
  obtain ⟨o, hE, rfl⟩ := h
  rw [List.length_map]
  exact hE.len
theorem fm3_in (x : Int) : -1048576 ≤ x.fmod 3 ∧ x.fmod 3 ≤ 1048576 := by
  rw [Int.fmod_eq_emod_of_nonneg _ (by decide)]
  omega
theorem bInts_inj {b c : Array UInt8} (h : KBw.bInts b = KBw.bInts c) : b = c := by
  unfold KBw.bInts at h
  apply Array.toList_inj.mp
  have hinj : ∀ x y : UInt8, ((x.toNat : Int) = (y.toNat : Int)) → x = y := fun x y e => UInt8.toNat_inj.mp (by omega)
  generalize b.toList = l1 at h ⊢
  generalize c.toList = l2 at h ⊢
  induction l1 generalizing l2 with
  | nil => cases l2 with | nil => rfl | cons _ _ => simp at h
  | cons x r ih =>
    cases l2 with
    | nil => simp at h
    | cons y r2 =>
      simp only [List.map_cons, List.cons.injEq] at h
      rw [hinj _ _ h.1, ih _ h.2]
theorem len_ne {qns : List Int} {n : Nat} (h : (n : Int) = (4 * qns.length + 2) / 3 + (-(qns.length : Int)) % 3) (c : (n : Int) ≠ (4 * (qns.length : Int) + 2).fdiv 3 + (-(qns.length : Int)).fmod 3) : False := by
  rw [Int.fmod_eq_emod_of_nonneg _ (by decide), Int.fdiv_eq_ediv_of_nonneg _ (by decide)] at c
  exact c h
theorem over_has {h₀ h : Heap} {L : Addr} {m : Str → Option Value} {kvs : List (Str × Value)} (F : Fr h₀ L h m) (e : Has m kvs) : Fr h₀ L h (over kvs m) := over_of F (has_all e)
theorem bInts_rep (n : Nat) : KBw.bInts ((List.replicate n [(61 : UInt8)]).flatten.toArray) = List.replicate n 61 := by
  unfold KBw.bInts
  induction n with
  | zero => rfl
  | succ n ih => rw [List.replicate_succ, List.flatten_cons, List.replicate_succ, ← ih]; rfl
theorem encP_split {p q : Int} {qns out : List Int} (h : EncP p q qns out) : ∃ (A : List Int) (pads : Nat), out = A ++ List.replicate pads 61 ∧ A.length = (4 * qns.length + 2) / 3 ∧ (pads : Int) = (-(qns.length : Int)) % 3 := by
  obtain ⟨o, ⟨figs, pads, rfl, _, h1, h2, _⟩, rfl⟩ := h
  refine ⟨(figs.map sgn).map (alts p q), pads, ?_, by rw [List.length_map, List.length_map, h1], h2⟩
  rw [List.map_append, List.map_replicate]
  rfl
theorem pads_ne {p q : Int} {qns out : List Int} {X : Array UInt8} (hE : EncP p q qns out)
    (hk : KBw.bInts X = List.take (out.length - clipAt out.length ((4 * (qns.length : Int) + 2).fdiv 3)) (List.drop (clipAt out.length ((4 * (qns.length : Int) + 2).fdiv 3)) out))
    (hc : (X.toList != (List.replicate ((-(qns.length : Int)).fmod 3).toNat [(61 : UInt8)]).flatten.toArray.toList) = true) : False := by
  obtain ⟨A, pads, rfl, h1, h2⟩ := encP_split hE
  rw [Int.fdiv_eq_ediv_of_nonneg _ (by decide)] at hk
  rw [Int.fmod_eq_emod_of_nonneg _ (by decide), ← h2, Int.toNat_natCast] at hc
  have e1 : clipAt (A ++ List.replicate pads (61 : Int)).length ((4 * (qns.length : Int) + 2) / 3) = A.length := by
    unfold clipAt
    rw [List.length_append, List.length_replicate]
    rw [if_neg (by omega)]
    omega
  rw [e1, List.drop_left, List.take_of_length_le (by rw [List.length_append]; omega), ← bInts_rep] at hk
  rw [bInts_inj hk] at hc
  simp at hc
local macro_rules | `(tactic| walk_at "binaryOp Mult bytes int") => `(tactic| (k_here; (refine bytes_mul_any (b := [61]) (by decide) (fm3_in _).1 (fm3_in _).2 (by decide) ?_); intro _ _))
local macro_rules | `(tactic| walk_at "call builtin:list.extend") => `(tactic| (k_here; (with_reducible show wpAny _ _ (call (Value.builtin _) [Value.ref _, Value.bytes _ _]) _ _ _); (rename Fr _ _ _ _ => lF'); (rename News _ _ _ _ => lN'); (refine extend_bytes lF' lN' (by assumption) (by assumption) (by rfl) ?_ (by omega) ?_)))
local macro_rules | `(tactic| walk_at "call ref") => `(tactic| (k_here; k_dflt ((first | refine' CallsB.go (encB (by assumption) (by assumption)) ?k1 ?k2 ?k3 ?k4 ?k5 ?k6 ?k7 ?k8 ?_ | refine' CallsB.go (encA (by assumption) (by assumption) (by assumption) (by assumption)) ?k1 ?k2 ?k3 ?k4 ?k5 ?k6 ?k7 ?k8 ?_); (case k1 => k_asm); (case k2 => k_asm); (case k3 => k_asm); (case k4 => k_asm); (case k5 => k_asm); (case k6 => first | exact rfl | assumption); (case k7 => ktr_room); (case k8 => ktr_units); intro out9 t9 h9 tk9 hE9 F9 N9; (try dsimp only); (try k_fold))))
section
variable {w : World} {mean : ExcName → Option Value} {mg mb : Str → Option Value} {dp un : Nat} {gd : Option (List Code)} {a : Addr} {ccd : Value} {outer : List Env} {A₀ : Around} {base h₀ : Heap} {L : Addr} {s : Shared} {E : Value → Shared → Prop}
  {u : Str → Option Value} {oc : Obj} {la qa pa : Addr} {lus qus : List Value} {ln qn pn : Nat} {lns qns : List Int} {b : Bool} {p q : Int} {tp tq : Tok} {rest : List (Addr × Obj)} {oa ra na : Addr} {sz : Int} {ts : Tok}
theorem ints_pq : IntsAre [.int p tp, .int q tq] [p, q] := .cons _ _ (.cons _ _ .nil)
/-- the names that the loops only read -/
abbrev kvR (oa ra na : Addr) (sz : Int) (ts : Tok) : List (Str × Value) := [(Str.ofString "others", .ref oa), (Str.ofString "row", .ref ra), (Str.ofString "size", .int sz ts), (Str.ofString "numbers", .ref na)]
def PostE1 (h₀ : Heap) (L : Addr) (kvs : List (Str × Value)) (news : List (Addr × Obj)) (p q : Int) (qns : List Int) (s : Shared) (f : Flow) (s' : Shared) : Prop :=
  f = .next ∧ ∃ u h' tk' out t, s' = { s with heap := h', toks := tk' } ∧ EncP p q qns out ∧ Fr h₀ L h' (over ((Str.ofString "writing", .bytes (byteArr out) t) :: kvs) u) ∧ News h₀ L h' news
set_option maxHeartbeats 8000000 in
theorem turnE1
    (B : Below A₀ base outer h₀) (F : Fr h₀ L s.heap (over ((Str.ofString "part", .ref qa) :: (Str.ofString "usual", .bool b) :: (Str.ofString "line", .ref la) :: kvR oa ra na sz ts) u)) (X : (hd.heap_39 w.params).In h₀)
    (N : News h₀ L s.heap ((la, listOf lus.toArray ln) :: (qa, listOf qus.toArray qn) :: (pa, listOf #[.int p tp, .int q tq] pn) :: (L + 1, oc) :: rest)) (T : Top hd.view_39 (looseW hd.view_39 [Str.ofString "b2a_base64", Str.ofString "b64encode"]) mean mg mb h₀)
    (hQ : IntsAre qus qns) (hql : qns.length ≤ 9) (hqv : qus.length = qns.length) (hqr : KBa.In qns) (hcell : oc.data = .cell (some (.ref pa))) (hpq : PairOK b p q) (hroom : dp + 10 < recursionLimit) (hun : un + 100 < cLine) :
    LawW w dp un gd L a ccd outer ((forBody 10).take 1) (PostE1 h₀ L ((Str.ofString "part", .ref qa) :: (Str.ofString "usual", .bool b) :: (Str.ofString "line", .ref la) :: kvR oa ra na sz ts) ((la, listOf lus.toArray ln) :: (qa, listOf qus.toArray qn) :: (pa, listOf #[.int p tp, .int q tq] pn) :: (L + 1, oc) :: rest) p q qns s) E s := by
  dsimp only [over, kvR] at F
  have hp' := sig_in p hpq.1
  have hq' := sig_in q hpq.2.1
  have hP : KBa.In [p, q] := by
    intro v hv
    rcases List.mem_cons.mp hv with rfl | hv
    · exact hp'
    · rw [List.mem_singleton.mp hv]; exact hq'
  have hIP := ints_pq (p := p) (q := q) (tp := tp) (tq := tq)
  with_unfolding_all show wpAny _ _ (execs (_ :: []) (envX _ (Scope.mk _ _ _ _ _) _ _ _ (_ :: []))) _ _ _
  k_steps
  all_goals (rename Fr _ _ _ _ => F9; rename News _ _ _ _ => N9)
  · obtain ⟨rfl, rfl⟩ := hpq.2.2.2 (by assumption)
    rename EncP _ _ _ _ => hE9
    exact ⟨rfl, _, _, _, _, _, rfl, hE9, over_has F9 ⟨rfl, rfl, rfl, rfl, rfl, rfl, rfl, rfl, trivial⟩, N9⟩
  · rename EncP _ _ _ _ => hE9
    exact ⟨rfl, _, _, _, _, _, rfl, hE9, over_has F9 ⟨rfl, rfl, rfl, rfl, rfl, rfl, rfl, rfl, trivial⟩, N9⟩
def PostE2 (h₀ : Heap) (L : Addr) (kvs : List (Str × Value)) (news : List (Addr × Obj)) (la : Addr) (lns out : List Int) (s : Shared) (f : Flow) (s' : Shared) : Prop :=
  f = .next ∧ ∃ u h' tk' us n, s' = { s with heap := h', toks := tk' } ∧ IntsAre us (lns ++ out) ∧ Fr h₀ L h' (over kvs u) ∧ News h₀ L h' ((la, listOf us.toArray n) :: news)
set_option maxHeartbeats 8000000 in
theorem turnE2 {out : List Int} {tw : Tok}
    (B : Below A₀ base outer h₀) (F : Fr h₀ L s.heap (over ((Str.ofString "writing", .bytes (byteArr out) tw) :: (Str.ofString "part", .ref qa) :: (Str.ofString "usual", .bool b) :: (Str.ofString "line", .ref la) :: kvR oa ra na sz ts) u)) (X : (hd.heap_39 w.params).In h₀)
    (N : News h₀ L s.heap ((la, listOf lus.toArray ln) :: (qa, listOf qus.toArray qn) :: rest)) (T : Top hd.view_39 (looseW hd.view_39 [Str.ofString "b2a_base64", Str.ofString "b64encode"]) mean mg mb h₀)
    (hne : ∀ x ∈ (qa, listOf qus.toArray qn) :: rest, x.1 ≠ la)
    (hI : IntsAre lus lns) (hll : lns.length ≤ 100) (hQ : IntsAre qus qns) (hql : qns.length ≤ 9) (hqv : qus.length = qns.length) (hE : EncP p q qns out) (hp' : 0 ≤ p ∧ p < 256) (hq' : 0 ≤ q ∧ q < 256) (hroom : dp + 10 < recursionLimit) (hun : un + 100 < cLine) :
    LawW w dp un gd L a ccd outer ((forBody 10).drop 1) (PostE2 h₀ L ((Str.ofString "usual", .bool b) :: (Str.ofString "line", .ref la) :: kvR oa ra na sz ts) ((qa, listOf qus.toArray qn) :: rest) la lns out s) E s := by
  dsimp only [over, kvR] at F
  have hin := hE.in_ hp' hq'
  have hlen := hE.len
  with_unfolding_all show wpAny _ _ (execs (_ :: _ :: _ :: _ :: []) (envX _ (Scope.mk _ _ _ _ _) _ _ _ (_ :: []))) _ _ _
  k_steps
  · exact (len_ne hlen (by assumption)).elim
  · rename (_ != _) = true => hc9
    rename KBw.bInts _ = _ => hk9
    exact (pads_ne hE hk9 hc9).elim
  · rw [byteArr_size]; omega
  · rename Fr _ _ _ _ => F9
    rename News _ _ _ _ => N9
    rename IntsAre _ (lns ++ _) => hI9
    rw [KBa.ints_make hin] at hI9
    refine ⟨rfl, _, _, _, _, _, rfl, hI9, over_has F9 ?_, N9⟩
    exact ⟨rfl, rfl, rfl, rfl, rfl, rfl, trivial⟩
def PostE (h₀ : Heap) (L : Addr) (kvs : List (Str × Value)) (news : List (Addr × Obj)) (la : Addr) (p q : Int) (lns qns : List Int) (s : Shared) (f : Flow) (s' : Shared) : Prop :=
  f = .next ∧ ∃ u h' tk' us n out, s' = { s with heap := h', toks := tk' } ∧ EncP p q qns out ∧ IntsAre us (lns ++ out) ∧ Fr h₀ L h' (over kvs u) ∧ News h₀ L h' ((la, listOf us.toArray n) :: news)
theorem turnE
    (B : Below A₀ base outer h₀) (F : Fr h₀ L s.heap (over ((Str.ofString "part", .ref qa) :: (Str.ofString "usual", .bool b) :: (Str.ofString "line", .ref la) :: kvR oa ra na sz ts) u)) (X : (hd.heap_39 w.params).In h₀)
    (N : News h₀ L s.heap ((la, listOf lus.toArray ln) :: (qa, listOf qus.toArray qn) :: (pa, listOf #[.int p tp, .int q tq] pn) :: (L + 1, oc) :: rest)) (T : Top hd.view_39 (looseW hd.view_39 [Str.ofString "b2a_base64", Str.ofString "b64encode"]) mean mg mb h₀)
    (hne : ∀ x ∈ (qa, listOf qus.toArray qn) :: (pa, listOf #[.int p tp, .int q tq] pn) :: (L + 1, oc) :: rest, x.1 ≠ la)
    (hI : IntsAre lus lns) (hll : lns.length ≤ 100) (hQ : IntsAre qus qns) (hql : qns.length ≤ 9) (hqr : KBa.In qns) (hcell : oc.data = .cell (some (.ref pa))) (hpq : PairOK b p q) (hroom : dp + 10 < recursionLimit) (hun : un + 100 < cLine) :
    LawW w dp un gd L a ccd outer (forBody 10) (PostE h₀ L ((Str.ofString "usual", .bool b) :: (Str.ofString "line", .ref la) :: kvR oa ra na sz ts) ((qa, listOf qus.toArray qn) :: (pa, listOf #[.int p tp, .int q tq] pn) :: (L + 1, oc) :: rest) la p q lns qns s) E s := by
  unfold LawW
  rw [← List.take_append_drop 1 (forBody 10)]
  refine execs_append (wpAny_mono (turnE1 (la := la) B F X N T hQ hql hQ.length hqr hcell hpq hroom hun) ?_ fun _ _ e => e)
  rintro f s' ⟨rfl, u1, h1, tk1, out, t, rfl, hE, F1, N1⟩
  refine ⟨rfl, wpAny_mono (turnE2 B F1 X N1 T hne hI hll hQ hql hQ.length hE (sig_in p hpq.1) (sig_in q hpq.2.1) hroom hun) ?_ fun _ _ e => e⟩
  rintro f s' ⟨rfl, u2, h2, tk2, us, n, rfl, hI2, F2, N2⟩
  exact ⟨rfl, u2, h2, tk2, us, n, out, rfl, hE, hI2, F2, N2⟩
end
end Mine
end

section
open PySem PySem.W PyProof.Rows
set_option maxRecDepth 100000
namespace Mine
theorem fillLF : (∀ p, hd.heap_39 p = hd.heap_39 p) ∧ (PySem.Challenge.rw_mj0045_01 = PySem.Challenge.rw_mj0045_01) := by k_fill; exact ⟨fun _ => rfl, rfl⟩
theorem later_wp {P : Prop} (h : Later P) : P := h
local macro_rules | `(tactic| walk_at "execs cons") => `(tactic| (k_here; (with_reducible show wpAny _ _ (execs (_ :: _ :: _ :: _ :: _ :: []) _) _ _ _); refine later_wp ?_))
abbrev Own (w : World) (dp un : Nat) (gd : Option (List Code)) (L a : Addr) (ccd : Value) (outer : List Env) (E : Value → Shared → Prop) : Prop :=
  PassesOwn (model PySem.Challenge.rw_mj0045_01.row.prog w) (ktrTop dp un gd (Str.ofString "law") lawScope L a ccd (cellsFrom (L + 1) lawScope.names []) outer) (envOfC (Str.ofString "law") lawScope L a ccd) E
local macro_rules | `(tactic| walk_at "pyIter ref") => `(tactic| (k_here; (with_reducible show wpAny _ _ (pyIter (Value.ref _)) (fun it s₂ => TurnsAt _ _ _ _ _ _ _ _ _ it s₂) _ _); refine later_wp ?_))
section
variable {w : World} {mean : ExcName → Option Value} {mg mb : Str → Option Value} {dp un : Nat} {gd : Option (List Code)} {a : Addr} {ccd : Value} {outer : List Env} {A₀ : Around} {base h₀ : Heap} {L : Addr} {s : Shared} {E : Value → Shared → Prop}
  {u : Str → Option Value} {oc : Obj} {la pa oa ra na : Addr} {rus ous nus : List Value} {rn on nn pn ln : Nat} {row nms : List Int} {b : Bool} {p q : Int} {tp tq tt ts tc : Tok} {tot cut sz : Int}
def PostF (h₀ : Heap) (L : Addr) (kvs : List (Str × Value)) (news : List (Addr × Obj)) (n : Nat) (s : Shared) (f : Flow) (s' : Shared) : Prop :=
  f = .next ∧ ∃ la tc c, 0 ≤ c ∧ c ≤ (n : Int) ∧ At h₀ L ((Str.ofString "line", .ref la) :: (Str.ofString "cut", .int c tc) :: kvs) ((la, listOf #[] 0) :: news) s s'
theorem fm_cut (x : Int) (n : Nat) : 0 ≤ x.fmod ((n : Int) + 1) ∧ x.fmod ((n : Int) + 1) ≤ n := by
  rw [Int.fmod_eq_emod_of_nonneg _ (by omega)]
  have h1 := Int.emod_nonneg x (b := (n : Int) + 1) (by omega)
  have h2 := Int.emod_lt_of_pos x (b := (n : Int) + 1) (by omega)
  omega
set_option maxHeartbeats 8000000 in
theorem pieceF (ap : Apart [pa, oa, ra, na, L + 1])
    (B : Below A₀ base outer h₀) (F : Fr h₀ L s.heap (over ((Str.ofString "usual", .bool b) :: (Str.ofString "total", .int tot tt) :: kvR oa ra na nms.length ts) u)) (X : (hd.heap_39 w.params).In h₀)
    (N : News h₀ L s.heap [(pa, listOf #[.int p tp, .int q tq] pn), (oa, listOf ous.toArray on), (ra, listOf rus.toArray rn), (na, listOf nus.toArray nn), (L + 1, oc)]) (T : Top hd.view_39 (looseW hd.view_39 [Str.ofString "b2a_base64", Str.ofString "b64encode"]) mean mg mb h₀)
    (hroom : dp + 10 < recursionLimit) (hun : un + 100 < cLine) :
    LawW w dp un gd L a ccd outer (part 8 10) (PostF h₀ L ((Str.ofString "usual", .bool b) :: kvR oa ra na nms.length ts) [(pa, listOf #[.int p tp, .int q tq] pn), (oa, listOf ous.toArray on), (ra, listOf rus.toArray rn), (na, listOf nus.toArray nn), (L + 1, oc)] nms.length s) E s := by
  simp only [Apart, NeAll, and_true] at ap
  dsimp only [over, kvR] at F
  with_unfolding_all show wpAny _ _ (execs (_ :: _ :: []) (envX _ (Scope.mk _ _ _ _ _) _ _ _ (_ :: []))) _ _ _
  k_steps
  rename Fr _ _ _ _ => F9
  rename News _ _ _ _ => N9
  refine ⟨rfl, _, _, _, (fm_cut _ _).1, (fm_cut _ _).2, at_of F9 ⟨rfl, rfl, rfl, rfl, rfl, rfl, rfl, trivial⟩ N9 ?_⟩
  simp only [List.map, Apart, NeAll, and_true]; omega
def PostG (h₀ : Heap) (L : Addr) (kvs : List (Str × Value)) (news : List (Addr × Obj)) (la : Addr) (p q : Int) (r1 r2 : List Int) (s : Shared) (f : Flow) (s' : Shared) : Prop :=
  f = .next ∧ ∃ u h' tk' us n o1 o2, s' = { s with heap := h', toks := tk' } ∧ EncP p q r1 o1 ∧ EncP p q r2 o2 ∧ IntsAre us (o1 ++ o2) ∧ Fr h₀ L h' (over kvs u) ∧ News h₀ L h' ((la, listOf us.toArray n) :: news)
theorem newsSub {h₀ h : Heap} {L : Addr} {l all : List (Addr × Obj)} (N : News h₀ L h all) (x : SubL l all) : News h₀ L h l := fun p hp => N p (x.mem p hp)
theorem law_store {M : Model} {A : Around} {m : Str → Option Value} {news : List (Addr × Obj)} {x : Str} {pos : Pos} {v : Value} {Q : Unit → Shared → Prop} (F : Fr h₀ L s.heap m) (N : News h₀ L s.heap news) (hx : (envOfC (Str.ofString "law") lawScope L a ccd).kindOf x = some .local)
    (h : ∀ h', Fr h₀ L h' (fun y => if y = x then some v else m y) → News h₀ L h' news → Q () { s with heap := h', toks := s.toks + 1 }) : wpAny M A (assign (.Name x pos) (envOfC (Str.ofString "law") lawScope L a ccd) v) Q E s :=
  wpAny_assign_Name (storeX_L (cl := cellsFrom (L + 1) lawScope.names []) F N h rfl hx)
theorem in_take {l : List Int} {n : Nat} (h : KBa.In l) : KBa.In (l.take n) := fun v hv => h v (List.mem_of_mem_take hv)
theorem in_drop {l : List Int} {n : Nat} (h : KBa.In l) : KBa.In (l.drop n) := fun v hv => h v (List.mem_of_mem_drop hv)
abbrev tupO (a b : Addr) (n : Nat) : Obj := { cls := .type "tuple", data := .seq #[.ref a, .ref b] n }
local macro_rules | `(tactic| k_ne) => `(tactic| (refine neN ?_; (try dsimp only); first | assumption | exact Ne.symm (by assumption) | exact Nat.ne_of_lt (by assumption) | exact Nat.ne_of_gt (by assumption)))
set_option maxHeartbeats 8000000 in
theorem partsLoop {D D1 D2 : Addr} {w1 w2 : List Value} {r1 r2 : List Int} {n1 n2 dn : Nat} {Q : Flow → Shared → Prop} {pos : Pos} (ap : Apart [D, D2, D1, la, pa, oa, ra, na, L + 1])
    (B : Below A₀ base outer h₀) (F : Fr h₀ L s.heap (over ((Str.ofString "usual", .bool b) :: (Str.ofString "line", .ref la) :: kvR oa ra na sz ts) u)) (X : (hd.heap_39 w.params).In h₀)
    (N : News h₀ L s.heap [(D, tupO D1 D2 dn), (D2, listOf w2.toArray n2), (D1, listOf w1.toArray n1), (la, listOf #[] ln), (pa, listOf #[.int p tp, .int q tq] pn), (oa, listOf ous.toArray on), (ra, listOf rus.toArray rn), (na, listOf nus.toArray nn), (L + 1, oc)]) (T : Top hd.view_39 (looseW hd.view_39 [Str.ofString "b2a_base64", Str.ofString "b64encode"]) mean mg mb h₀)
    (hI1 : IntsAre w1 r1) (hI2 : IntsAre w2 r2) (hl1 : r1.length ≤ 9) (hl2 : r2.length ≤ 9) (hr1 : KBa.In r1) (hr2 : KBa.In r2) (hcell : oc.data = .cell (some (.ref pa))) (hpq : PairOK b p q) (hroom : dp + 10 < recursionLimit) (hun : un + 100 < cLine)
    (done : ∀ u h' tk' us n o1 o2, EncP p q r1 o1 → EncP p q r2 o2 → IntsAre us (o1 ++ o2) → Fr h₀ L h' (over ((Str.ofString "usual", .bool b) :: (Str.ofString "line", .ref la) :: kvR oa ra na sz ts) u) → News h₀ L h' [(la, listOf us.toArray n), (pa, listOf #[.int p tp, .int q tq] pn), (oa, listOf ous.toArray on), (ra, listOf rus.toArray rn), (na, listOf nus.toArray nn), (L + 1, oc)] → Q .next { s with heap := h', toks := tk' }) :
    wpAny (model PySem.Challenge.rw_mj0045_01.row.prog w) (ktrTop dp un gd (Str.ofString "law") lawScope L a ccd (cellsFrom (L + 1) lawScope.names []) outer) (pyIter (.ref D))
      (fun it s₂ => TurnsAt PySem.Challenge.rw_mj0045_01.row.prog w (ktrTop dp un gd (Str.ofString "law") lawScope L a ccd (cellsFrom (L + 1) lawScope.names []) outer) h₀ (envOfC (Str.ofString "law") lawScope L a ccd) (.Name (Str.ofString "part") pos) (forBody 10) Q E it s₂) E s := by
  simp only [Apart, NeAll, and_true] at ap
  revert ap
  simp only [and_imp]
  intros
  dsimp only [over, kvR] at F
  refine iter_tupTurns (lo := tupO D1 D2 dn) (vs := [.ref D1, .ref D2]) rfl F N (List.mem_cons_self ..) rfl rfl ?_
  intro I lI
  k_lt lI
  revert lI
  simp only [and_imp]
  intros
  refine ItemsRest.val (fun h1 tk1 F1 => ?_)
  refine AllObj.cons (fun it1 hc1 => AllObj.nil fun N1 => ?_)
  refine law_store F1 N1 rfl (fun h2 F2 N2 => ?_)
  have N3 := newsSub (l := [(la, listOf #[] ln), (D1, listOf w1.toArray n1), (pa, listOf #[.int p tp, .int q tq] pn), (L + 1, oc), (I, it1), (D, tupO D1 D2 dn), (D2, listOf w2.toArray n2), (oa, listOf ous.toArray on), (ra, listOf rus.toArray rn), (na, listOf nus.toArray nn)]) N2 (by k_subL)
  refine wpAny_mono (turnE (lus := []) (lns := []) (b := b) B (over_has F2 ⟨rfl, rfl, rfl, rfl, rfl, rfl, rfl, trivial⟩) X N3 T (by k_all) .nil (by decide) hI1 hl1 hr1 hcell hpq hroom hun) ?_ fun _ _ e => e
  rintro f s' ⟨rfl, u3, h3, tk3, us3, m3, o1, rfl, hE1, hJ1, F3, N3'⟩
  dsimp only [UnrPostW]
  refine UnrEndW.intro F3 N3' [(D, tupO D1 D2 dn), (D2, listOf w2.toArray n2), (la, listOf us3.toArray m3), (pa, listOf #[.int p tp, .int q tq] pn), (oa, listOf ous.toArray on), (ra, listOf rus.toArray rn), (na, listOf nus.toArray nn), (L + 1, oc)] (by k_subL) (by k_subL) (by ktu_offL) ⟨by k_subL, ?_⟩
  clear F1 N1 F2 N2 N3 F3 N3'
  refine ItemsRest.val (fun h1 tk1 F1 => ?_)
  refine AllObj.cons (fun it2 hc2 => AllObj.nil fun N1 => ?_)
  refine law_store F1 N1 rfl (fun h2 F2 N2 => ?_)
  have N3 := newsSub (l := [(la, listOf us3.toArray m3), (D2, listOf w2.toArray n2), (pa, listOf #[.int p tp, .int q tq] pn), (L + 1, oc), (I, it2), (D, tupO D1 D2 dn), (oa, listOf ous.toArray on), (ra, listOf rus.toArray rn), (na, listOf nus.toArray nn)]) N2 (by k_subL)
  have hL1 := hE1.len
  refine wpAny_mono (turnE (b := b) B (over_has F2 ⟨rfl, rfl, rfl, rfl, rfl, rfl, rfl, trivial⟩) X N3 T (by k_all) hJ1 (by rw [List.nil_append]; omega) hI2 hl2 hr2 hcell hpq hroom hun) ?_ fun _ _ e => e
  rintro f s' ⟨rfl, u4, h4, tk4, us4, m4, o2, rfl, hE2, hJ2, F4, N4⟩
  dsimp only [UnrPostW]
  refine UnrEndW.intro F4 N4 [(D, tupO D1 D2 dn), (la, listOf us4.toArray m4), (pa, listOf #[.int p tp, .int q tq] pn), (oa, listOf ous.toArray on), (ra, listOf rus.toArray rn), (na, listOf nus.toArray nn), (L + 1, oc)] (by k_subL) (by k_subL) (by ktu_offL) ⟨by k_subL, ?_⟩
  refine ItemsRest.zero (fun h5 tk5 F5 N5 => ?_)
  exact done u4 h5 tk5 us4 m4 o1 o2 hE1 hE2 (by rw [List.nil_append] at hJ2; exact hJ2) F5 (newsSub N5 (by k_subL))
set_option maxHeartbeats 8000000 in
theorem pieceG (ap : Apart [la, pa, oa, ra, na, L + 1])
    (B : Below A₀ base outer h₀) (F : Fr h₀ L s.heap (over ((Str.ofString "line", .ref la) :: (Str.ofString "cut", .int cut tc) :: (Str.ofString "usual", .bool b) :: kvR oa ra na sz ts) u)) (X : (hd.heap_39 w.params).In h₀)
    (N : News h₀ L s.heap [(la, listOf #[] ln), (pa, listOf #[.int p tp, .int q tq] pn), (oa, listOf ous.toArray on), (ra, listOf rus.toArray rn), (na, listOf nus.toArray nn), (L + 1, oc)]) (T : Top hd.view_39 (looseW hd.view_39 [Str.ofString "b2a_base64", Str.ofString "b64encode"]) mean mg mb h₀)
    (hR : IntsAre rus row) (hrl : row.length ≤ 9) (hrv : rus.length = row.length) (hc0 : 0 ≤ cut) (hc1 : cut ≤ (row.length : Int)) (hrr : KBa.In row) (hcell : oc.data = .cell (some (.ref pa))) (hpq : PairOK b p q) (hOwn : Own w dp un gd L a ccd outer E) (hroom : dp + 10 < recursionLimit) (hun : un + 100 < cLine) :
    LawW w dp un gd L a ccd outer (part 10 11) (PostG h₀ L ((Str.ofString "usual", .bool b) :: (Str.ofString "line", .ref la) :: kvR oa ra na sz ts) [(pa, listOf #[.int p tp, .int q tq] pn), (oa, listOf ous.toArray on), (ra, listOf rus.toArray rn), (na, listOf nus.toArray nn), (L + 1, oc)] la p q (row.take cut.toNat) (row.drop cut.toNat) s) E s := by
  simp only [Apart, NeAll, and_true] at ap
  dsimp only [over, kvR] at F
  with_unfolding_all show wpAny _ _ (execs (_ :: []) (envX _ (Scope.mk _ _ _ _ _) _ _ _ (_ :: []))) _ _ _
  refine wpAny_execs_cons (For_turns F ?_ (by intro _; rfl) hOwn)
  k_steps
  unfold Later
  rename Fr _ _ _ _ => F9
  rename News _ _ _ _ => N9
  with_unfolding_all refine partsLoop (b := b) (sz := sz) (ts := ts) (r1 := row.take cut.toNat) (r2 := row.drop cut.toNat) ?_ B (over_has F9 ⟨rfl, rfl, rfl, rfl, rfl, rfl, trivial⟩) X N9 T (by assumption) (by assumption) ?_ ?_ (in_take hrr) (in_drop hrr) hcell hpq hroom hun ?_
  · revert ap
    rename _ ∧ _ ∧ _ ∧ _ ∧ _ ∧ _ ∧ _ ∧ _ => lD
    revert lD
    rename _ ∧ _ ∧ _ ∧ _ ∧ _ ∧ _ ∧ _ => lD1
    revert lD1
    rename _ ∧ _ ∧ _ ∧ _ ∧ _ ∧ _ => lD2
    revert lD2
    simp only [and_imp, Apart, NeAll, and_true]
    intros
    repeat' apply And.intro
    all_goals k_ne
  · rw [List.length_take]; omega
  · rw [List.length_drop]; omega
  · intro u h' tk' us n o1 o2 hE1 hE2 hJ F N
    exact wpAny_execs_nil ⟨rfl, u, h', tk', us, n, o1, o2, rfl, hE1, hE2, hJ, F, N⟩
end
end Mine
end

section
open PySem PySem.W PyProof.Rows
set_option maxRecDepth 100000
namespace Mine
theorem fillLH : (∀ p, hd.heap_39 p = hd.heap_39 p) ∧ (PySem.Challenge.rw_mj0045_01 = PySem.Challenge.rw_mj0045_01) := by k_fill; exact ⟨fun _ => rfl, rfl⟩
section
variable {w : World} {mean : ExcName → Option Value} {mg mb : Str → Option Value} {dp un : Nat} {gd : Option (List Code)} {a : Addr} {ccd : Value} {outer : List Env} {A₀ : Around} {base h₀ : Heap} {L : Addr} {s : Shared} {E : Value → Shared → Prop}
  {u : Str → Option Value} {oc : Obj} {la pa oa ra na : Addr} {rus ous nus lus : List Value} {rn on nn pn ln : Nat} {row nms line : List Int} {b : Bool} {p q : Int} {tp tq tt ts tc : Tok} {tot cut sz : Int}
/-- the strays at hand -/
def strayL (p q : Int) : List Int := othersL.filter fun a => ![p, q].any fun x => x == a
theorem neAll_gn {d : Nat} : ∀ {l : List (Addr × Obj)}, GnNe d l → NeAll d (l.map (·.1))
  | [], _ => trivial
  | _ :: _, h => ⟨h.1, neAll_gn h.2⟩
set_option maxHeartbeats 8000000 in
theorem pieceH (ap : Apart [la, pa, oa, ra, na, L + 1])
    (B : Below A₀ base outer h₀) (F : Fr h₀ L s.heap (over ((Str.ofString "line", .ref la) :: kvR oa ra na sz ts) u)) (X : (hd.heap_39 w.params).In h₀)
    (N : News h₀ L s.heap [(la, listOf lus.toArray ln), (pa, listOf #[.int p tp, .int q tq] pn), (oa, listOf ous.toArray on), (ra, listOf rus.toArray rn), (na, listOf nus.toArray nn), (L + 1, oc)]) (T : Top hd.view_39 (looseW hd.view_39 [Str.ofString "b2a_base64", Str.ofString "b64encode"]) mean mg mb h₀)
    (hO : IntsAre ous othersL) (hol : ous.length = 65) (hcell : oc.data = .cell (some (.ref pa))) (hpq : PairOK b p q) (hroom : dp + 10 < recursionLimit) (hun : un + 100 < cLine) :
    LawW w dp un gd L a ccd outer (part 11 12) (NewAt h₀ L (over ((Str.ofString "line", .ref la) :: kvR oa ra na sz ts) u) [(la, listOf lus.toArray ln), (pa, listOf #[.int p tp, .int q tq] pn), (oa, listOf ous.toArray on), (ra, listOf rus.toArray rn), (na, listOf nus.toArray nn), (L + 1, oc)] (Str.ofString "strays") (strayL p q) s) E s := by
  simp only [Apart, NeAll, and_true] at ap
  dsimp only [over, kvR] at F
  with_unfolding_all show wpAny _ _ (execs (_ :: []) (envX _ (Scope.mk _ _ _ _ _) _ _ _ (_ :: []))) _ _ _
  k_steps
  all_goals (try k_data)
  rename NewPlain _ _ _ _ => P9
  rename Fr _ _ _ _ => F9
  rename News _ _ _ _ => N9
  rename CarriedAll _ _ => C9
  obtain ⟨n9, N8, A8⟩ := gn_enter P9 F9 N9 (by assumption)
  exact ⟨rfl, _, _, n9, _, _, rfl, IntsAre.ofCarried C9, F9, N8, neAll_gn A8⟩
def PostI (h₀ : Heap) (L : Addr) (m : Str → Option Value) (news : List (Addr × Obj)) (s : Shared) (f : Flow) (s' : Shared) : Prop :=
  f = .next ∧ ∃ D h' tk', s' = { s with heap := h', toks := tk' } ∧ Fr h₀ L h' (fun y => if y = Str.ofString "sent" then some (.ref D) else m y) ∧ News h₀ L h' ((D, listOf #[] 0) :: news) ∧ NeAll D (news.map (·.1))
set_option maxHeartbeats 8000000 in
theorem pieceI {news : List (Addr × Obj)}
    (B : Below A₀ base outer h₀) (F : Fr h₀ L s.heap u) (X : (hd.heap_39 w.params).In h₀) (N : News h₀ L s.heap news) (T : Top hd.view_39 (looseW hd.view_39 [Str.ofString "b2a_base64", Str.ofString "b64encode"]) mean mg mb h₀)
    (hroom : dp + 10 < recursionLimit) (hun : un + 100 < cLine) :
    LawW w dp un gd L a ccd outer (part 12 13) (PostI h₀ L u news s) E s := by
  with_unfolding_all show wpAny _ _ (execs (_ :: []) (envX _ (Scope.mk _ _ _ _ _) _ _ _ (_ :: []))) _ _ _
  k_steps
  rename Fr _ _ _ _ => F9
  rename News _ _ _ _ => N9
  exact ⟨rfl, _, _, _, rfl, F9, N9, neAll_of (allLt_of (by assumption))⟩
end
end Mine
end

section
open PySem PySem.W PyProof.Rows
set_option maxRecDepth 100000
namespace Mine
theorem fillLJ : (∀ p, hd.heap_39 p = hd.heap_39 p) ∧ (PySem.Challenge.rw_mj0045_01 = PySem.Challenge.rw_mj0045_01) := by k_fill; exact ⟨fun _ => rfl, rfl⟩
/-- the body of the for that is statement j of the for that is the law's statement k -/
def innerBody (k j : Nat) : List Stmt := match (forBody k)[j]? with | some (.For _ _ b _ _) => b | _ => []
theorem filt_len {p q : Int} (h : p ≠ q) : ∀ l : List Int, (l.filter fun a => ![p, q].any fun x => x == a).length + (l.filter (· == p)).length + (l.filter (· == q)).length = l.length
  | [] => rfl
  | a :: r => by
    have ih := filt_len h r
    by_cases h1 : a = p
    · subst h1
      have e2 : (a == q) = false := by simpa using h
      have e3 : (![a, q].any fun x => x == a) = false := by simp
      rw [List.filter_cons, List.filter_cons, List.filter_cons, e2, e3, if_neg (by simp), if_pos (by simp), if_neg (by simp)]
      simp only [List.length_cons]
      omega
    · by_cases h2 : a = q
      · subst h2
        have e2 : (a == p) = false := by simpa using h1
        have e3 : (![p, a].any fun x => x == a) = false := by simp
        rw [List.filter_cons, List.filter_cons, List.filter_cons, e2, e3, if_neg (by simp), if_neg (by simp), if_pos (by simp)]
        simp only [List.length_cons]
        omega
      · have e1 : (a == p) = false := by simpa using h1
        have e2 : (a == q) = false := by simpa using h2
        have e3 : (![p, q].any fun x => x == a) = true := by simp [Ne.symm h1, Ne.symm h2]
        rw [List.filter_cons, List.filter_cons, List.filter_cons, e1, e2, e3, if_pos rfl, if_neg (by simp), if_neg (by simp)]
        simp only [List.length_cons]
        omega
theorem oth_one : ∀ p ∈ sig, (othersL.filter (· == p)).length = 1 := by decide +kernel
theorem strayLen0 {p q : Int} (hp : p ∈ sig) (hq : q ∈ sig) (h : p ≠ q) : (strayL p q).length = 63 := by
  have e := filt_len h othersL
  rw [oth_one p hp, oth_one q hq] at e
  have e2 : othersL.length = 65 := rfl
  unfold strayL
  omega
local macro_rules | `(tactic| walk_at "call ref") => `(tactic| (k_here; k_dflt ((first | refine' Calls.go alt_calls ?k1 ?k2 ?k3 ?k4 ?k5 ?k6 ?k7 ?k8 ?_ | refine' Calls.go isgraph_calls ?k1 ?k2 ?k3 ?k4 ?k5 ?k6 ?k7 ?k8 ?_); (case k1 => k_asm); (case k2 => k_asm); (case k3 => k_asm); (case k4 => k_asm); (case k5 => k_asm); (case k6 => first | exact rfl | assumption); (case k7 => ktr_room); (case k8 => ktr_units); intro t9 h9 tk9 F9 N9; (try dsimp only); (try k_fold))))
local macro_rules | `(tactic| walk_at "subscriptTail") => `(tactic| (k_here; (with_reducible show wpAny _ _ (subscriptTail _ _ (Value.ref _) (Value.int _ _)) _ _ _); (with_unfolding_all refine int_item (by assumption) (by k_mem) (by assumption) (by assumption) (by assumption) (by assumption) ?_); intro _))
section
variable {w : World} {mean : ExcName → Option Value} {mg mb : Str → Option Value} {dp un : Nat} {gd : Option (List Code)} {a : Addr} {ccd : Value} {outer : List Env} {A₀ : Around} {base h₀ : Heap} {L : Addr} {s : Shared} {E : Value → Shared → Prop}
  {u : Str → Option Value} {oc : Obj} {la oa na : Addr} {ous nus lus : List Value} {on nn ln : Nat} {nms line : List Int} {b : Bool} {p q g i : Int} {tg ti : Tok} {rest : List (Addr × Obj)}
/-- what the law asks of a sign where the line's own sign is lc -/
def SignOK (g lc : Int) : Prop := Builtin.bitOr g 128 = g.fmod 128 + 128 ∧ decide (33 ≤ g ∧ g ≤ 126) = ((List.take (min 64 othersL.length - 33) (List.drop 33 othersL)).any (fun x => x == g) || g == lc)
theorem chk1 {g lc : Int} (h : SignOK g lc) (c : Builtin.bitOr g 128 ≠ g.fmod 128 + 128) : False := c h.1
theorem chk2 {g lc : Int} (h : SignOK g lc) (c1 : (List.take (min 64 othersL.length - 33) (List.drop 33 othersL)).any (fun x => x == g) = true) (c2 : (decide (33 ≤ g ∧ g ≤ 126) != (List.take (min 64 othersL.length - 33) (List.drop 33 othersL)).any (fun x => x == g)) = true) : False := by
  have e := h.2
  rw [c1] at e c2
  rw [e] at c2
  simp at c2
theorem chk3 {g lc : Int} (h : SignOK g lc) (c1 : (List.take (min 64 othersL.length - 33) (List.drop 33 othersL)).any (fun x => x == g) = false) (c2 : (decide (33 ≤ g ∧ g ≤ 126) != (g == lc)) = true) : False := by
  have e := h.2
  rw [c1] at e
  rw [e] at c2
  simp at c2
theorem over_eq {m : Str → Option Value} {kvs : List (Str × Value)} (e : Has m kvs) : over kvs m = m := by
  induction kvs with
  | nil => rfl
  | cons p r ih =>
    funext q
    show (if q = p.1 then some p.2 else over r m q) = m q
    rw [ih e.2]
    split
    · rename_i h; rw [h, e.1]
    · rfl
def Same (h₀ : Heap) (L : Addr) (m : Str → Option Value) (news : List (Addr × Obj)) (s : Shared) (f : Flow) (s' : Shared) : Prop :=
  f = .next ∧ ∃ h' tk', s' = { s with heap := h', toks := tk' } ∧ Fr h₀ L h' m ∧ News h₀ L h' news
set_option maxHeartbeats 8000000 in
theorem checkTurn
    (B : Below A₀ base outer h₀) (F : Fr h₀ L s.heap (over [(Str.ofString "sign", .int g tg), (Str.ofString "others", .ref oa), (Str.ofString "line", .ref la), (Str.ofString "i", .int i ti)] u)) (X : (hd.heap_39 w.params).In h₀)
    (N : News h₀ L s.heap ((la, listOf lus.toArray ln) :: (oa, listOf ous.toArray on) :: rest)) (T : Top hd.view_39 (looseW hd.view_39 [Str.ofString "b2a_base64", Str.ofString "b64encode"]) mean mg mb h₀)
    (hO : IntsAre ous othersL) (hol : ous.length = 65) (hol' : othersL.length = 65) (hLi : IntsAre lus line) (hll : line.length ≤ 1000) (hi0 : 0 ≤ i) (hi1 : i < (line.length : Int)) (hg : SignOK g (line.getD i.toNat 0)) (hroom : dp + 10 < recursionLimit) (hun : un + 100 < cLine) :
    LawW w dp un gd L a ccd outer (innerBody 13 2) (Same h₀ L (over [(Str.ofString "sign", .int g tg), (Str.ofString "others", .ref oa), (Str.ofString "line", .ref la), (Str.ofString "i", .int i ti)] u) ((la, listOf lus.toArray ln) :: (oa, listOf ous.toArray on) :: rest) s) E s := by
  dsimp only [over] at F
  with_unfolding_all show wpAny _ _ (execs (_ :: []) (envX _ (Scope.mk _ _ _ _ _) _ _ _ (_ :: []))) _ _ _
  k_steps
  · exact (chk1 hg (by assumption)).elim
  · exact (chk2 hg (by assumption) (by assumption)).elim
  · rename Fr _ _ _ _ => F9
    rename News _ _ _ _ => N9
    exact ⟨rfl, _, _, rfl, F9, fun p hp => N9 p (List.mem_cons_of_mem _ hp)⟩
  · exact (chk3 hg (by assumption) (by assumption)).elim
  · rename Fr _ _ _ _ => F9
    rename News _ _ _ _ => N9
    exact ⟨rfl, _, _, rfl, F9, fun p hp => N9 p (List.mem_cons_of_mem _ hp)⟩
theorem checkRest {m : Str → Option Value} {D I : Addr} {lo : Obj} {Q : Flow → Shared → Prop} {pos : Pos}
    (B : Below A₀ base outer h₀) (X : (hd.heap_39 w.params).In h₀) (T : Top hd.view_39 (looseW hd.view_39 [Str.ofString "b2a_base64", Str.ofString "b64encode"]) mean mg mb h₀)
    (h1 : m (Str.ofString "others") = some (.ref oa)) (h2 : m (Str.ofString "line") = some (.ref la)) (h3 : m (Str.ofString "i") = some (.int i ti)) (hIo : ∀ p ∈ (D, lo) :: (la, listOf lus.toArray ln) :: (oa, listOf ous.toArray on) :: rest, p.1 < I)
    (hO : IntsAre ous othersL) (hol : ous.length = 65) (hol' : othersL.length = 65) (hLi : IntsAre lus line) (hll : line.length ≤ 1000) (hi0 : 0 ≤ i) (hi1 : i < (line.length : Int)) (hroom : dp + 10 < recursionLimit) (hun : un + 100 < cLine)
    (done : ∀ m' h' tk', (∀ y, y ≠ Str.ofString "sign" → m' y = m y) → Fr h₀ L h' m' → News h₀ L h' ((D, lo) :: (la, listOf lus.toArray ln) :: (oa, listOf ous.toArray on) :: rest) → Q .next { s with heap := h', toks := tk' }) :
    ∀ (vs : List Value) (m' : Str → Option Value), (∀ v ∈ vs, ∃ g t, v = .int g t ∧ SignOK g (line.getD i.toNat 0)) → (∀ y, y ≠ Str.ofString "sign" → m' y = m y) →
      ItemsRest PySem.Challenge.rw_mj0045_01.row.prog w (ktrTop dp un gd (Str.ofString "law") lawScope L a ccd (cellsFrom (L + 1) lawScope.names []) outer) E h₀ (envOfC (Str.ofString "law") lawScope L a ccd) (.Name (Str.ofString "sign") pos) (innerBody 13 2) Q s [(I, "tuple_iterator")] [(D, lo)] (vs.map .val) m' ((D, lo) :: (la, listOf lus.toArray ln) :: (oa, listOf ous.toArray on) :: rest)
  | [], m', _, hm => ItemsRest.zero fun h tk F N => done m' h tk hm F N
  | v :: vs, m', hv, hm => by
    obtain ⟨g, t, rfl, hg⟩ := hv v (List.mem_cons_self ..)
    refine ItemsRest.val (fun h1' tk1 F1 => ?_)
    refine AllObj.cons (fun it1 hc1 => AllObj.nil fun N1 => ?_)
    refine law_store F1 N1 rfl (fun h2' F2 N2 => ?_)
    have hH : Has (fun y => if y = Str.ofString "sign" then some (.int g t) else m' y) [(Str.ofString "sign", .int g t), (Str.ofString "others", .ref oa), (Str.ofString "line", .ref la), (Str.ofString "i", .int i ti)] :=
      ⟨rfl, (hm (Str.ofString "others") (by decide)).trans h1, (hm (Str.ofString "line") (by decide)).trans h2, (hm (Str.ofString "i") (by decide)).trans h3, trivial⟩
    have N3 : News h₀ L h2' ((la, listOf lus.toArray ln) :: (oa, listOf ous.toArray on) :: ((I, it1) :: (D, lo) :: rest)) := fun p hp => N2 p (by
      simp only [List.mem_cons, List.cons_append, List.nil_append] at hp ⊢
      rcases hp with hp | hp | hp | hp | hp
      · exact .inr (.inr (.inl hp))
      · exact .inr (.inr (.inr (.inl hp)))
      · exact .inl hp
      · exact .inr (.inl hp)
      · exact .inr (.inr (.inr (.inr hp))))
    refine wpAny_mono (checkTurn B (over_has F2 hH) X N3 T hO hol hol' hLi hll hi0 hi1 hg hroom hun) ?_ fun _ _ e => e
    rintro f s' ⟨rfl, h3', tk3, rfl, F4, N4⟩
    rw [over_eq hH] at F4
    dsimp only [UnrPostW]
    refine ⟨h3', tk3, _, (D, lo) :: (la, listOf lus.toArray ln) :: (oa, listOf ous.toArray on) :: rest, rfl, F4, fun p hp => N4 p (by
      simp only [List.mem_cons, List.cons_append, List.nil_append] at hp ⊢
      rcases hp with hp | hp | hp | hp | hp
      · exact .inr (.inr (.inl hp))
      · exact .inr (.inr (.inr (.inl hp)))
      · exact .inl hp
      · exact .inr (.inl hp)
      · exact .inr (.inr (.inr (.inr hp)))), fun p hp q hq => ?_, ⟨List.mem_cons_self .., trivial⟩, ?_⟩
    · rw [List.mem_singleton.mp hq]
      exact Nat.ne_of_lt (hIo p hp)
    · refine checkRest B X T h1 h2 h3 hIo hO hol hol' hLi hll hi0 hi1 hroom hun done vs _ (fun v hv' => hv v (List.mem_cons_of_mem _ hv')) fun y hy => ?_
      show (if y = Str.ofString "sign" then _ else m' y) = m y
      rw [if_neg hy]
      exact hm y hy
end
end Mine
end

section
open PySem PySem.W PyProof.Rows
set_option maxRecDepth 100000
namespace Mine
theorem fillLK : (∀ p, hd.heap_39 p = hd.heap_39 p) ∧ (PySem.Challenge.rw_mj0045_01 = PySem.Challenge.rw_mj0045_01) := by k_fill; exact ⟨fun _ => rfl, rfl⟩
theorem fm_idx (x : Int) {l : List Int} (h : 1 ≤ l.length) : 0 ≤ x.fmod (l.length : Int) ∧ x.fmod (l.length : Int) < (l.length : Int) := by
  rw [Int.fmod_eq_emod_of_nonneg _ (by omega)]
  exact ⟨Int.emod_nonneg x (by omega), Int.emod_lt_of_pos x (by omega)⟩
theorem fm63 (x : Int) {l : List Int} (h : l.length = 63) : 0 ≤ x.fmod 63 ∧ x.fmod 63 < (l.length : Int) := by
  rw [Int.fmod_eq_emod_of_nonneg _ (by omega), h]
  exact ⟨Int.emod_nonneg x (by omega), Int.emod_lt_of_pos x (by omega)⟩
theorem getD_mem {l : List Int} {k : Int} (h0 : 0 ≤ k) (h1 : k < (l.length : Int)) : l.getD k.toNat 0 ∈ l := by
  have hk : k.toNat < l.length := by omega
  rw [List.getD_eq_getElem?_getD, List.getElem?_eq_getElem hk]
  exact List.getElem_mem hk
local macro_rules | `(tactic| walk_at "call ref") => `(tactic| (k_here; k_dflt ((first | refine' Calls.go alt_calls ?k1 ?k2 ?k3 ?k4 ?k5 ?k6 ?k7 ?k8 ?_); (case k1 => k_asm); (case k2 => k_asm); (case k3 => k_asm); (case k4 => k_asm); (case k5 => k_asm); (case k6 => first | exact rfl | assumption); (case k7 => ktr_room); (case k8 => ktr_units); intro t9 h9 tk9 F9 N9; (try dsimp only); (try k_fold))))
local macro_rules | `(tactic| walk_at "subscriptTail") => `(tactic| (k_here; (with_reducible show wpAny _ _ (subscriptTail _ _ (Value.ref _) (Value.int _ _)) _ _ _); (with_unfolding_all refine int_item (by assumption) (by k_mem) (by assumption) (by first | assumption | exact (fm_idx _ (by assumption)).1 | exact (fm63 _ (by assumption)).1) (by first | assumption | exact (fm_idx _ (by assumption)).2 | exact (fm63 _ (by assumption)).2) (by first | assumption | omega) ?_); intro _))
local macro_rules | `(tactic| walk_at "pyIter ref") => `(tactic| (k_here; (with_reducible show wpAny _ _ (pyIter (Value.ref _)) (fun it s₂ => TurnsAt _ _ _ _ _ _ _ _ _ it s₂) _ _); refine later_wp ?_))
local macro_rules | `(tactic| walk_at "call builtin:list.append") => `(tactic| (k_here; (refine' append_K ?kF ?kN (Upd.head ?kH) ?_ ?z; (case kF => k_asm); (case kN => k_asm); (case kH => assumption); (case z => (rw [sizeLine_eq]; simp only [List.size_toArray]; omega))); intro h' F' N'; (try k_sweep)))
/-- the names at hand within a turn -/
abbrev kvJ (sa ta la oa ra na : Addr) (sz i : Int) (ts ti : Tok) : List (Str × Value) := (Str.ofString "i", .int i ti) :: (Str.ofString "sent", .ref sa) :: (Str.ofString "strays", .ref ta) :: (Str.ofString "line", .ref la) :: kvR oa ra na sz ts
/-- the names that a turn stores -/
def SN : List Str := [Str.ofString "stray", Str.ofString "x", Str.ofString "sign", Str.ofString "code", Str.ofString "k"]
theorem SN_ne {y : Str} (h : SN.contains y = false) : y ≠ Str.ofString "stray" ∧ y ≠ Str.ofString "x" ∧ y ≠ Str.ofString "sign" ∧ y ≠ Str.ofString "code" ∧ y ≠ Str.ofString "k" := by
  unfold SN at h
  simp only [List.contains_cons, List.contains_nil, Bool.or_false, Bool.or_eq_false_iff, beq_eq_false_iff_ne] at h
  exact h
def Agree (m m' : Str → Option Value) : Prop := ∀ y, SN.contains y = false → m' y = m y
section
variable {w : World} {mean : ExcName → Option Value} {mg mb : Str → Option Value} {dp un : Nat} {gd : Option (List Code)} {a : Addr} {ccd : Value} {outer : List Env} {A₀ : Around} {base h₀ : Heap} {L : Addr} {s : Shared} {E : Value → Shared → Prop}
  {u : Str → Option Value} {oc : Obj} {la oa na ra sa ta : Addr} {ous nus lus sus tus : List Value} {on nn ln sn tn : Nat} {nms line sent : List Int} {b : Bool} {p q g i x sv : Int} {tg ti ts tx tv : Tok} {rest : List (Addr × Obj)}
def PostJ1 (h₀ : Heap) (L : Addr) (m : Str → Option Value) (kvs : List (Str × Value)) (news : List (Addr × Obj)) (p q : Int) (s : Shared) (f : Flow) (s' : Shared) : Prop :=
  f = .next ∧ ∃ u h' tk' xv tx sv tv, s' = { s with heap := h', toks := tk' } ∧ sv ∈ strayL p q ∧ Fr h₀ L h' u ∧ Has u ((Str.ofString "stray", .int sv tv) :: (Str.ofString "x", .int xv tx) :: kvs) ∧ Agree m u ∧ News h₀ L h' news
set_option maxHeartbeats 8000000 in
theorem turnJ1
    (B : Below A₀ base outer h₀) (F : Fr h₀ L s.heap (over (kvJ sa ta la oa ra na nms.length i ts ti) u)) (X : (hd.heap_39 w.params).In h₀)
    (N : News h₀ L s.heap ((sa, listOf sus.toArray sn) :: (ta, listOf tus.toArray tn) :: (la, listOf lus.toArray ln) :: (oa, listOf ous.toArray on) :: (na, listOf nus.toArray nn) :: rest)) (T : Top hd.view_39 (looseW hd.view_39 [Str.ofString "b2a_base64", Str.ofString "b64encode"]) mean mg mb h₀)
    (hN : IntsAre nus nms) (hn1 : 1 ≤ nms.length) (hn9 : nms.length ≤ 9) (hT : IntsAre tus (strayL p q)) (ht63 : (strayL p q).length = 63) (hroom : dp + 10 < recursionLimit) (hun : un + 100 < cLine) :
    LawW w dp un gd L a ccd outer ((forBody 13).take 2) (PostJ1 h₀ L (over (kvJ sa ta la oa ra na nms.length i ts ti) u) (kvJ sa ta la oa ra na nms.length i ts ti) ((sa, listOf sus.toArray sn) :: (ta, listOf tus.toArray tn) :: (la, listOf lus.toArray ln) :: (oa, listOf ous.toArray on) :: (na, listOf nus.toArray nn) :: rest) p q s) E s := by
  dsimp only [over, kvJ, kvR] at F
  with_unfolding_all show wpAny _ _ (execs (_ :: _ :: []) (envX _ (Scope.mk _ _ _ _ _) _ _ _ (_ :: []))) _ _ _
  k_steps
  rename Fr _ _ _ _ => F9
  rename News _ _ _ _ => N9
  exact ⟨rfl, _, _, _, _, _, _, _, rfl, getD_mem (fm63 _ ht63).1 (fm63 _ ht63).2, F9, ⟨rfl, rfl, rfl, rfl, rfl, rfl, rfl, rfl, rfl, rfl, trivial⟩, fun y hy => (if_neg (SN_ne hy).1).trans (if_neg (SN_ne hy).2.1), N9⟩
abbrev tup4 (v1 v2 v3 v4 : Value) (n : Nat) : Obj := { cls := .type "tuple", data := .seq #[v1, v2, v3, v4] n }
theorem checkIter {m : Str → Option Value} {D : Addr} {g1 g2 g3 g4 : Int} {t1 t2 t3 t4 : Tok} {dn : Nat} {Q : Flow → Shared → Prop} {pos : Pos}
    (B : Below A₀ base outer h₀) (F : Fr h₀ L s.heap m) (X : (hd.heap_39 w.params).In h₀) (N : News h₀ L s.heap ((D, tup4 (.int g1 t1) (.int g2 t2) (.int g3 t3) (.int g4 t4) dn) :: (la, listOf lus.toArray ln) :: (oa, listOf ous.toArray on) :: rest)) (T : Top hd.view_39 (looseW hd.view_39 [Str.ofString "b2a_base64", Str.ofString "b64encode"]) mean mg mb h₀)
    (h1 : m (Str.ofString "others") = some (.ref oa)) (h2 : m (Str.ofString "line") = some (.ref la)) (h3 : m (Str.ofString "i") = some (.int i ti))
    (hO : IntsAre ous othersL) (hLi : IntsAre lus line) (hll : line.length ≤ 1000) (hi0 : 0 ≤ i) (hi1 : i < (line.length : Int)) (hroom : dp + 10 < recursionLimit) (hun : un + 100 < cLine)
    (s1 : SignOK g1 (line.getD i.toNat 0)) (s2 : SignOK g2 (line.getD i.toNat 0)) (s3 : SignOK g3 (line.getD i.toNat 0)) (s4 : SignOK g4 (line.getD i.toNat 0))
    (done : ∀ m' h' tk', (∀ y, y ≠ Str.ofString "sign" → m' y = m y) → Fr h₀ L h' m' → News h₀ L h' ((la, listOf lus.toArray ln) :: (oa, listOf ous.toArray on) :: rest) → Q .next { s with heap := h', toks := tk' }) :
    wpAny (model PySem.Challenge.rw_mj0045_01.row.prog w) (ktrTop dp un gd (Str.ofString "law") lawScope L a ccd (cellsFrom (L + 1) lawScope.names []) outer) (pyIter (.ref D))
      (fun it s₂ => TurnsAt PySem.Challenge.rw_mj0045_01.row.prog w (ktrTop dp un gd (Str.ofString "law") lawScope L a ccd (cellsFrom (L + 1) lawScope.names []) outer) h₀ (envOfC (Str.ofString "law") lawScope L a ccd) (.Name (Str.ofString "sign") pos) (innerBody 13 2) Q E it s₂) E s := by
  refine iter_tupTurns (lo := tup4 (.int g1 t1) (.int g2 t2) (.int g3 t3) (.int g4 t4) dn) (vs := [.int g1 t1, .int g2 t2, .int g3 t3, .int g4 t4]) rfl F N (List.mem_cons_self ..) rfl rfl ?_
  intro I lI
  refine checkRest B X T h1 h2 h3 lI hO hO.length rfl hLi hll hi0 hi1 hroom hun (fun m' h' tk' hm F' N' => done m' h' tk' hm F' fun p hp => N' p (List.mem_cons_of_mem _ hp)) _ m ?_ fun _ _ => rfl
  intro v hv
  rcases List.mem_cons.mp hv with rfl | hv
  · exact ⟨_, _, rfl, s1⟩
  rcases List.mem_cons.mp hv with rfl | hv
  · exact ⟨_, _, rfl, s2⟩
  rcases List.mem_cons.mp hv with rfl | hv
  · exact ⟨_, _, rfl, s3⟩
  · rw [List.mem_singleton.mp hv]
    exact ⟨_, _, rfl, s4⟩
def PostJ2 (h₀ : Heap) (L : Addr) (m : Str → Option Value) (kvs : List (Str × Value)) (news : List (Addr × Obj)) (s : Shared) (f : Flow) (s' : Shared) : Prop :=
  f = .next ∧ ∃ u h' tk', s' = { s with heap := h', toks := tk' } ∧ Fr h₀ L h' u ∧ Has u kvs ∧ Agree m u ∧ News h₀ L h' news
set_option maxHeartbeats 8000000 in
theorem turnJ2
    (B : Below A₀ base outer h₀) (F : Fr h₀ L s.heap (over ((Str.ofString "stray", .int sv tv) :: (Str.ofString "x", .int x tx) :: kvJ sa ta la oa ra na nms.length i ts ti) u)) (X : (hd.heap_39 w.params).In h₀)
    (N : News h₀ L s.heap ((la, listOf lus.toArray ln) :: (oa, listOf ous.toArray on) :: rest)) (T : Top hd.view_39 (looseW hd.view_39 [Str.ofString "b2a_base64", Str.ofString "b64encode"]) mean mg mb h₀)
    (hO : IntsAre ous othersL) (hL : IntsAre lus line) (hll : line.length ≤ 1000) (hi0 : 0 ≤ i) (hi1 : i < (line.length : Int)) (s1 : SignOK sv (line.getD i.toNat 0)) (s2 : SignOK (sv + 128) (line.getD i.toNat 0)) (s3 : SignOK (line.getD i.toNat 0) (line.getD i.toNat 0)) (s4 : SignOK (line.getD i.toNat 0 + 128) (line.getD i.toNat 0)) (hOwn : Own w dp un gd L a ccd outer E) (hroom : dp + 10 < recursionLimit) (hun : un + 100 < cLine) :
    LawW w dp un gd L a ccd outer (((forBody 13).drop 2).take 1) (PostJ2 h₀ L (over ((Str.ofString "stray", .int sv tv) :: (Str.ofString "x", .int x tx) :: kvJ sa ta la oa ra na nms.length i ts ti) u) ((Str.ofString "stray", .int sv tv) :: (Str.ofString "x", .int x tx) :: kvJ sa ta la oa ra na nms.length i ts ti) ((la, listOf lus.toArray ln) :: (oa, listOf ous.toArray on) :: rest) s) E s := by
  dsimp only [over, kvJ, kvR] at F
  with_unfolding_all show wpAny _ _ (execs (_ :: []) (envX _ (Scope.mk _ _ _ _ _) _ _ _ (_ :: []))) _ _ _
  refine wpAny_execs_cons (For_turns F ?_ (by intro _; rfl) hOwn)
  k_steps
  unfold Later
  rename Fr _ _ _ _ => F9
  rename News _ _ _ _ => N9
  with_unfolding_all refine checkIter (line := line) (i := i) (ti := ti) B F9 X N9 T rfl rfl rfl hO hL hll hi0 hi1 hroom hun s1 s2 s3 s4 ?_
  intro m' h' tk' hm F' N'
  exact wpAny_execs_nil ⟨rfl, _, _, _, rfl, F', ⟨(hm (Str.ofString "stray") (by decide)).trans rfl, (hm (Str.ofString "x") (by decide)).trans rfl, (hm (Str.ofString "i") (by decide)).trans rfl, (hm (Str.ofString "sent") (by decide)).trans rfl, (hm (Str.ofString "strays") (by decide)).trans rfl, (hm (Str.ofString "line") (by decide)).trans rfl, (hm (Str.ofString "others") (by decide)).trans rfl, (hm (Str.ofString "row") (by decide)).trans rfl, (hm (Str.ofString "size") (by decide)).trans rfl, (hm (Str.ofString "numbers") (by decide)).trans rfl, trivial⟩, fun y hy => hm y (SN_ne hy).2.2.1, N'⟩
def PostJ3 (h₀ : Heap) (L : Addr) (m : Str → Option Value) (kvs : List (Str × Value)) (news : List (Addr × Obj)) (sa : Addr) (sent : List Int) (c : Int) (s : Shared) (f : Flow) (s' : Shared) : Prop :=
  f = .next ∧ ∃ u h' tk' us n c1, s' = { s with heap := h', toks := tk' } ∧ (0 ≤ c1 ∧ c1 < 256 ∧ c1 % 128 = c % 128) ∧ IntsAre us (sent ++ [c1]) ∧ Fr h₀ L h' u ∧ Has u kvs ∧ Agree m u ∧ News h₀ L h' ((sa, listOf us.toArray n) :: news)
theorem alt_keeps {c : Int} (h0 : 0 ≤ c) (h1 : c < 256) : 0 ≤ Builtin.bitOr c 128 ∧ Builtin.bitOr c 128 < 256 ∧ Builtin.bitOr c 128 % 128 = c % 128 := by
  rw [bitOr_alt c h0 h1]
  omega
set_option maxHeartbeats 8000000 in
theorem turnJ3
    (B : Below A₀ base outer h₀) (F : Fr h₀ L s.heap (over ((Str.ofString "stray", .int sv tv) :: (Str.ofString "x", .int x tx) :: kvJ sa ta la oa ra na nms.length i ts ti) u)) (X : (hd.heap_39 w.params).In h₀)
    (N : News h₀ L s.heap ((sa, listOf sus.toArray sn) :: rest)) (T : Top hd.view_39 (looseW hd.view_39 [Str.ofString "b2a_base64", Str.ofString "b64encode"]) mean mg mb h₀)
    (hne : ∀ x ∈ rest, x.1 ≠ sa) (hS : IntsAre sus sent) (hsl : sent.length ≤ 1000) (hsv : sus.length = sent.length) (hv0 : 0 ≤ sv) (hv1 : sv < 256) (hroom : dp + 10 < recursionLimit) (hun : un + 100 < cLine) :
    LawW w dp un gd L a ccd outer (((forBody 13).drop 3).take 1) (PostJ3 h₀ L (over ((Str.ofString "stray", .int sv tv) :: (Str.ofString "x", .int x tx) :: kvJ sa ta la oa ra na nms.length i ts ti) u) ((Str.ofString "x", .int x tx) :: kvJ sa ta la oa ra na nms.length i ts ti) rest sa sent sv s) E s := by
  dsimp only [over, kvJ, kvR] at F
  with_unfolding_all show wpAny _ _ (execs (_ :: []) (envX _ (Scope.mk _ _ _ _ _) _ _ _ (_ :: []))) _ _ _
  k_steps
  all_goals (rename Fr _ _ _ _ => F9; rename News _ _ _ _ => N9; simp only [List.push_toArray] at N9)
  · exact ⟨rfl, _, _, _, _, _, _, rfl, alt_keeps hv0 hv1, hS.append (.cons _ _ .nil), F9, ⟨rfl, rfl, rfl, rfl, rfl, rfl, rfl, rfl, rfl, trivial⟩, fun _ _ => rfl, N9⟩
  · exact ⟨rfl, _, _, _, _, _, _, rfl, ⟨hv0, hv1, rfl⟩, hS.append (.cons _ _ .nil), F9, ⟨rfl, rfl, rfl, rfl, rfl, rfl, rfl, rfl, rfl, trivial⟩, fun _ _ => rfl, N9⟩
end
end Mine
end

section
open PySem PySem.W PyProof.Rows
set_option maxRecDepth 100000
namespace Mine
theorem fillLM : (∀ p, hd.heap_39 p = hd.heap_39 p) ∧ (PySem.Challenge.rw_mj0045_01 = PySem.Challenge.rw_mj0045_01) := by k_fill; exact ⟨fun _ => rfl, rfl⟩
local macro_rules | `(tactic| walk_at "call ref") => `(tactic| (k_here; k_dflt ((first | refine' Calls.go alt_calls ?k1 ?k2 ?k3 ?k4 ?k5 ?k6 ?k7 ?k8 ?_); (case k1 => k_asm); (case k2 => k_asm); (case k3 => k_asm); (case k4 => k_asm); (case k5 => k_asm); (case k6 => first | exact rfl | assumption); (case k7 => ktr_room); (case k8 => ktr_units); intro t9 h9 tk9 F9 N9; (try dsimp only); (try k_fold))))
local macro_rules | `(tactic| walk_at "subscriptTail") => `(tactic| (k_here; (with_reducible show wpAny _ _ (subscriptTail _ _ (Value.ref _) (Value.int _ _)) _ _ _); (with_unfolding_all refine int_item (by assumption) (by k_mem) (by assumption) (by assumption) (by assumption) (by assumption) ?_); intro _))
local macro_rules | `(tactic| walk_at "exec For Name Call") => `(tactic| (k_here; (rename Fr _ _ _ _ => lF'); (with_unfolding_all refine' For_invVF lF' ?k1 ?k2 ?_ (by intro _; rfl) (by assumption); (case k1 => exact rfl); (case k2 => exact rfl); k_whole)))
local macro_rules | `(tactic| walk_at "pyIter ref") => `(tactic| (k_here; (with_reducible show wpAny _ _ (pyIter (Value.ref _)) (fun it s₂ => LoopAtV _ _ _ _ _ _ _ _ _ it s₂) _ _); refine later_wp ?_))
local macro_rules | `(tactic| walk_at "call builtin:list.append") => `(tactic| (k_here; (refine' append_K ?kF ?kN (Upd.head ?kH) ?_ ?z; (case kF => k_asm); (case kN => k_asm); (case kH => assumption); (case z => (rw [sizeLine_eq]; simp only [List.size_toArray]; omega))); intro h' F' N'; (try k_sweep)))
theorem fm3_in' (x : Int) : 0 ≤ x.fmod 3 ∧ x.fmod 3 < 3 := by
  rw [Int.fmod_eq_emod_of_nonneg _ (by decide)]
  omega
section
variable {w : World} {mean : ExcName → Option Value} {mg mb : Str → Option Value} {dp un : Nat} {gd : Option (List Code)} {a : Addr} {ccd : Value} {outer : List Env} {A₀ : Around} {base h₀ : Heap} {L : Addr} {s : Shared} {E : Value → Shared → Prop}
  {u : Str → Option Value} {oc : Obj} {la oa na ra sa ta : Addr} {ous nus lus sus tus : List Value} {on nn ln sn tn : Nat} {nms line sent : List Int} {b : Bool} {p q g i x sv c : Int} {tg ti ts tx tv tc : Tok} {rest news : List (Addr × Obj)}
def PostC (h₀ : Heap) (L : Addr) (m : Str → Option Value) (news : List (Addr × Obj)) (c : Int) (s : Shared) (f : Flow) (s' : Shared) : Prop :=
  f = .next ∧ ∃ m' t h' tk', s' = { s with heap := h', toks := tk' } ∧ m' (Str.ofString "code") = some (.int (Builtin.bitOr c 128) t) ∧ (∀ y, y ≠ Str.ofString "code" → m' y = m y) ∧ Fr h₀ L h' m' ∧ News h₀ L h' news
set_option maxHeartbeats 8000000 in
theorem codeTurn
    (B : Below A₀ base outer h₀) (F : Fr h₀ L s.heap (over [(Str.ofString "code", .int c tc)] u)) (X : (hd.heap_39 w.params).In h₀) (N : News h₀ L s.heap news) (T : Top hd.view_39 (looseW hd.view_39 [Str.ofString "b2a_base64", Str.ofString "b64encode"]) mean mg mb h₀)
    (hroom : dp + 10 < recursionLimit) (hun : un + 100 < cLine) :
    LawW w dp un gd L a ccd outer (innerBody 13 5) (PostC h₀ L u news c s) E s := by
  dsimp only [over] at F
  with_unfolding_all show wpAny _ _ (execs (_ :: []) (envX _ (Scope.mk _ _ _ _ _) _ _ _ (_ :: []))) _ _ _
  k_steps
  rename Fr _ _ _ _ => F9
  rename News _ _ _ _ => N9
  refine ⟨rfl, _, _, _, _, rfl, rfl, ?_, F9, N9⟩
  intro y hy
  show (if y = _ then _ else if y = _ then _ else u y) = u y
  rw [if_neg hy, if_neg hy]
theorem codeLoop {r : Addr} {b₀ : Int} {t₀ u₀ v₀ : Tok} {m₀ : Str → Option Value} {Q : Flow → Shared → Prop}
    (hr : IsRange s.heap r 0 b₀ 1 t₀ u₀ v₀) (hb0 : 0 ≤ b₀) (hb1 : b₀ < 3)
    (B : Below A₀ base outer h₀) (F : Fr h₀ L s.heap m₀) (X : (hd.heap_39 w.params).In h₀) (N : News h₀ L s.heap news) (T : Top hd.view_39 (looseW hd.view_39 [Str.ofString "b2a_base64", Str.ofString "b64encode"]) mean mg mb h₀)
    (hc : m₀ (Str.ofString "code") = some (.int c tc)) (hc0 : 0 ≤ c) (hc1 : c < 256) (hroom : dp + 10 < recursionLimit) (hun : un + 100 < cLine)
    (done : ∀ (c' : Int) (tc' : Tok) (u : Str → Option Value) h tk, 0 ≤ c' → c' < 256 → c' % 128 = c % 128 → Fr h₀ L h (fun y => if y = Str.ofString "k" then u y else if y = Str.ofString "code" then some (.int c' tc') else m₀ y) → News h₀ L h news → Q .next { s with heap := h, toks := tk }) :
    wpAny (model PySem.Challenge.rw_mj0045_01.row.prog w) (ktrTop dp un gd (Str.ofString "law") lawScope L a ccd (cellsFrom (L + 1) lawScope.names []) outer) (pyIter (.ref r))
      (fun it s₂ => LoopAtV PySem.Challenge.rw_mj0045_01.row.prog w (ktrTop dp un gd (Str.ofString "law") lawScope L a ccd (cellsFrom (L + 1) lawScope.names []) outer) h₀ (envOfC (Str.ofString "law") lawScope L a ccd) (Str.ofString "k") (innerBody 13 5) Q E it s₂) E s := by
  refine kst_range (σ := Int × Tok) (n := b₀.toNat) (fun _ => news) (fun c => [(Str.ofString "code", .int c.1 c.2)]) (fun _ => True) [] (fun _ c' => 0 ≤ c'.1 ∧ c'.1 < 256 ∧ c'.1 % 128 = c % 128) (c, tc) rfl hr ?_ ?_ F N trivial ?_ ⟨hc0, hc1, rfl⟩ ?_ ?_
  · obtain rfl | rfl | rfl : b₀ = 0 ∨ b₀ = 1 ∨ b₀ = 2 := by omega
    all_goals decide
  · obtain rfl | rfl | rfl : b₀ = 0 ∨ b₀ = 1 ∨ b₀ = 2 := by omega
    all_goals decide
  · intro p hp
    rw [List.mem_singleton.mp hp]
    exact hc
  · rintro ⟨c', tc'⟩ pre k t u h tk own hk hlt hoff _ ⟨hp0, hp1, hp2⟩ F1 N1
    have hH : Has (fun y => if y = Str.ofString "k" then some (.int k t) else kstB (fun z => if ([] : List Str).contains z then u z else m₀ z) [(Str.ofString "code", .int c' tc')] y) [(Str.ofString "code", .int c' tc')] := ⟨rfl, trivial⟩
    refine wpAny_mono (codeTurn B (over_has F1 hH) X N1 T hroom hun) ?_ fun _ _ e => e
    rintro f s' ⟨rfl, m', t', h', tk', rfl, e1, e2, F2, N2⟩
    show InvEndN _ _ _ _ _ _ _
    refine kst_end (Builtin.bitOr c' 128, t') F2 N2 (fun p hp => List.mem_append_left _ hp) (fun p hp => List.mem_append_right _ hp) rfl trivial ?_ ?_ ?_
    · intro p hp
      rw [List.mem_singleton.mp hp]
      exact e1
    · intro z hz hz2 _
      have hz3 := hz2 _ (List.mem_singleton.mpr rfl)
      rw [e2 z hz3]
      show (if z = _ then _ else if z = _ then _ else _) = m₀ z
      rw [if_neg hz, if_neg hz3]
      rfl
    · have h9 := alt_keeps (c := c') hp0 hp1
      exact ⟨h9.1, h9.2.1, h9.2.2.trans hp2⟩
  · rintro ⟨c', tc'⟩ u h tk _ ⟨hp0, hp1, hp2⟩ F1 N1
    exact done c' tc' u h tk hp0 hp1 hp2 F1 N1
set_option maxHeartbeats 8000000 in
theorem turnJ4
    (B : Below A₀ base outer h₀) (F : Fr h₀ L s.heap (over ((Str.ofString "x", .int x tx) :: kvJ sa ta la oa ra na nms.length i ts ti) u)) (X : (hd.heap_39 w.params).In h₀)
    (N : News h₀ L s.heap ((sa, listOf sus.toArray sn) :: (la, listOf lus.toArray ln) :: rest)) (T : Top hd.view_39 (looseW hd.view_39 [Str.ofString "b2a_base64", Str.ofString "b64encode"]) mean mg mb h₀)
    (hne : ∀ x ∈ (la, listOf lus.toArray ln) :: rest, x.1 ≠ sa) (hS : IntsAre sus sent) (hsl : sent.length ≤ 1000) (hsv : sus.length = sent.length) (hL : IntsAre lus line) (hll : line.length ≤ 1000) (hi0 : 0 ≤ i) (hi1 : i < (line.length : Int)) (hv0 : 0 ≤ line.getD i.toNat 0) (hv1 : line.getD i.toNat 0 < 256) (hOwn : Own w dp un gd L a ccd outer E) (hroom : dp + 10 < recursionLimit) (hun : un + 100 < cLine) :
    LawW w dp un gd L a ccd outer ((forBody 13).drop 4) (PostJ3 h₀ L (over ((Str.ofString "x", .int x tx) :: kvJ sa ta la oa ra na nms.length i ts ti) u) (kvJ sa ta la oa ra na nms.length i ts ti) ((la, listOf lus.toArray ln) :: rest) sa sent (line.getD i.toNat 0) s) E s := by
  dsimp only [over, kvJ, kvR] at F
  with_unfolding_all show wpAny _ _ (execs (_ :: _ :: _ :: []) (envX _ (Scope.mk _ _ _ _ _) _ _ _ (_ :: []))) _ _ _
  k_steps
  unfold Later
  rename Fr _ _ _ _ => F9
  rename News _ _ _ _ => N9
  rename IsRange _ _ _ _ _ _ _ _ => R9
  with_unfolding_all refine codeLoop (c := line.getD i.toNat 0) R9 (fm3_in' _).1 (fm3_in' _).2 B F9 X N9 T rfl hv0 hv1 hroom hun ?_
  clear F9 N9 R9
  intro c' tc' u9 h9 tk9 hc0 hc1 hc2 F9 N9
  dsimp only
  k_steps
  rename Fr _ _ _ _ => F8
  rename News _ _ _ _ => N8
  simp only [List.push_toArray] at N8
  exact ⟨rfl, _, _, _, _, _, _, rfl, ⟨hc0, hc1, hc2⟩, hS.append (.cons _ _ .nil), F8, ⟨rfl, rfl, rfl, rfl, rfl, rfl, rfl, rfl, trivial⟩, fun y hy => (if_neg (SN_ne hy).2.2.2.2).trans ((if_neg (SN_ne hy).2.2.2.1).trans (if_neg (SN_ne hy).2.2.2.1)), N8⟩
end
end Mine
end

section
open PySem PySem.W PyProof.Rows
set_option maxRecDepth 100000
namespace Mine
/-- a sign of the line -/
def LineOK (p q lc : Int) : Prop := 33 ≤ lc ∧ lc ≤ 126 ∧ lc ∉ strayL p q
theorem cut31 : List.take (min 64 othersL.length - 33) (List.drop 33 othersL) = sig := by decide +kernel
theorem oth_graph : ∀ v ∈ othersL, decide (33 ≤ v ∧ v ≤ 126) = sig.any (fun x => x == v) := by decide +kernel
theorem oth_in : ∀ v ∈ othersL, 0 ≤ v ∧ v < 128 := by decide +kernel
theorem stray_in {p q v : Int} (h : v ∈ strayL p q) : v ∈ othersL ∧ v ≠ p ∧ v ≠ q := by
  unfold strayL at h
  obtain ⟨h1, h2⟩ := List.mem_filter.mp h
  simp at h2
  exact ⟨h1, fun e => h2.1 e.symm, fun e => h2.2 e.symm⟩
theorem sig_lt : ∀ v ∈ sig, 0 ≤ v ∧ v < 128 := by decide +kernel
theorem sig_no {g : Int} (h : 128 ≤ g) : sig.any (fun x => x == g) = false := by
  rw [List.any_eq_false]
  intro x hx
  have := sig_lt x hx
  simp
  omega
theorem fm128' (g : Int) (h0 : 0 ≤ g) (h1 : g < 256) : Builtin.bitOr g 128 = g.fmod 128 + 128 := by
  rw [fm128, bitOr_alt g h0 h1]
theorem signs {p q sv lc : Int} (hs : sv ∈ strayL p q) (hl : LineOK p q lc) : SignOK sv lc ∧ SignOK (sv + 128) lc ∧ SignOK lc lc ∧ SignOK (lc + 128) lc := by
  obtain ⟨l1, l2, l3⟩ := hl
  obtain ⟨ho, _, _⟩ := stray_in hs
  have hb := oth_in sv ho
  refine ⟨⟨fm128' _ (by omega) (by omega), ?_⟩, ⟨fm128' _ (by omega) (by omega), ?_⟩, ⟨fm128' _ (by omega) (by omega), ?_⟩, ⟨fm128' _ (by omega) (by omega), ?_⟩⟩
  · rw [cut31, oth_graph sv ho]
    have e : (sv == lc) = false := by
      simp
      rintro rfl
      exact l3 hs
    rw [e, Bool.or_false]
  · rw [cut31, sig_no (by omega)]
    have e : (sv + 128 == lc) = false := by simp; omega
    rw [e]
    simp
    omega
  · rw [beq_self_eq_true, Bool.or_true]
    simp
    omega
  · rw [cut31, sig_no (by omega)]
    have e : (lc + 128 == lc) = false := by simp; omega
    rw [e]
    simp
    omega
theorem four_parts {α : Type} (l : List α) : l = l.take 2 ++ ((l.drop 2).take 1 ++ ((l.drop 3).take 1 ++ l.drop 4)) := by
  have e4 : l.drop 4 = (l.drop 3).drop 1 := by rw [List.drop_drop]
  have e3 : l.drop 3 = (l.drop 2).drop 1 := by rw [List.drop_drop]
  rw [e4, List.take_append_drop, e3, List.take_append_drop, List.take_append_drop]
section
variable {w : World} {mean : ExcName → Option Value} {mg mb : Str → Option Value} {dp un : Nat} {gd : Option (List Code)} {a : Addr} {ccd : Value} {outer : List Env} {A₀ : Around} {base h₀ : Heap} {L : Addr} {s : Shared} {E : Value → Shared → Prop}
  {u : Str → Option Value} {oc : Obj} {la oa na ra sa ta : Addr} {ous nus lus sus tus : List Value} {on nn ln sn tn : Nat} {nms line sent : List Int} {b : Bool} {p q g i x sv c : Int} {tg ti ts tx tv tc : Tok} {rest news : List (Addr × Obj)}
def PostJ (h₀ : Heap) (L : Addr) (m : Str → Option Value) (kvs : List (Str × Value)) (news : List (Addr × Obj)) (sa : Addr) (sent : List Int) (p q lc : Int) (s : Shared) (f : Flow) (s' : Shared) : Prop :=
  f = .next ∧ ∃ u h' tk' us n c1 c2, s' = { s with heap := h', toks := tk' } ∧ c1 % 128 ∈ strayL p q ∧ c2 % 128 = lc ∧ IntsAre us (sent ++ [c1] ++ [c2]) ∧ Fr h₀ L h' u ∧ Has u kvs ∧ Agree m u ∧ News h₀ L h' ((sa, listOf us.toArray n) :: news)
theorem turnJ
    (B : Below A₀ base outer h₀) (F : Fr h₀ L s.heap (over (kvJ sa ta la oa ra na nms.length i ts ti) u)) (X : (hd.heap_39 w.params).In h₀)
    (N : News h₀ L s.heap ((sa, listOf sus.toArray sn) :: (ta, listOf tus.toArray tn) :: (la, listOf lus.toArray ln) :: (oa, listOf ous.toArray on) :: (na, listOf nus.toArray nn) :: rest)) (T : Top hd.view_39 (looseW hd.view_39 [Str.ofString "b2a_base64", Str.ofString "b64encode"]) mean mg mb h₀)
    (hne : ∀ x ∈ (ta, listOf tus.toArray tn) :: (la, listOf lus.toArray ln) :: (oa, listOf ous.toArray on) :: (na, listOf nus.toArray nn) :: rest, x.1 ≠ sa)
    (hN : IntsAre nus nms) (hn1 : 1 ≤ nms.length) (hn9 : nms.length ≤ 9) (hT : IntsAre tus (strayL p q)) (ht63 : (strayL p q).length = 63)
    (hO : IntsAre ous othersL) (hL : IntsAre lus line) (hll : line.length ≤ 1000) (hi0 : 0 ≤ i) (hi1 : i < (line.length : Int)) (hlc : LineOK p q (line.getD i.toNat 0)) (hS : IntsAre sus sent) (hsl : sent.length ≤ 900)
    (hOwn : Own w dp un gd L a ccd outer E) (hroom : dp + 10 < recursionLimit) (hun : un + 100 < cLine) :
    LawW w dp un gd L a ccd outer (forBody 13) (PostJ h₀ L (over (kvJ sa ta la oa ra na nms.length i ts ti) u) (kvJ sa ta la oa ra na nms.length i ts ti) ((ta, listOf tus.toArray tn) :: (la, listOf lus.toArray ln) :: (oa, listOf ous.toArray on) :: (na, listOf nus.toArray nn) :: rest) sa sent p q (line.getD i.toNat 0) s) E s := by
  unfold LawW
  rw [four_parts (forBody 13)]
  refine execs_append (wpAny_mono (turnJ1 B F X N T hN hn1 hn9 hT ht63 hroom hun) ?_ fun _ _ e => e)
  rintro f s' ⟨rfl, u1, h1, tk1, xv, tx, sv, tv, rfl, hsv, F1, H1, G1, N1⟩
  refine ⟨rfl, ?_⟩
  obtain ⟨s1, s2, s3, s4⟩ := signs hsv hlc
  have hsb := oth_in sv (stray_in hsv).1
  have N2 : News h₀ L h1 ((la, listOf lus.toArray ln) :: (oa, listOf ous.toArray on) :: ((sa, listOf sus.toArray sn) :: (ta, listOf tus.toArray tn) :: (na, listOf nus.toArray nn) :: rest)) := fun p hp => N1 p (by
    simp only [List.mem_cons] at hp ⊢
    rcases hp with hp | hp | hp | hp | hp | hp
    · exact .inr (.inr (.inl hp))
    · exact .inr (.inr (.inr (.inl hp)))
    · exact .inl hp
    · exact .inr (.inl hp)
    · exact .inr (.inr (.inr (.inr (.inl hp))))
    · exact .inr (.inr (.inr (.inr (.inr hp)))))
  refine execs_append (wpAny_mono (turnJ2 B (over_has F1 H1) X N2 T hO hL hll hi0 hi1 s1 s2 s3 s4 hOwn hroom hun) ?_ fun _ _ e => e)
  rintro f s' ⟨rfl, u2, h2, tk2, rfl, F2, H2, G2, N3⟩
  refine ⟨rfl, ?_⟩
  have N4 : News h₀ L h2 ((sa, listOf sus.toArray sn) :: ((ta, listOf tus.toArray tn) :: (la, listOf lus.toArray ln) :: (oa, listOf ous.toArray on) :: (na, listOf nus.toArray nn) :: rest)) := fun p hp => N3 p (by
    simp only [List.mem_cons] at hp ⊢
    rcases hp with hp | hp | hp | hp | hp | hp
    · exact .inr (.inr (.inl hp))
    · exact .inr (.inr (.inr (.inl hp)))
    · exact .inl hp
    · exact .inr (.inl hp)
    · exact .inr (.inr (.inr (.inr (.inl hp))))
    · exact .inr (.inr (.inr (.inr (.inr hp)))))
  refine execs_append (wpAny_mono (turnJ3 B (over_has F2 H2) X N4 T hne hS (by omega) hS.length (by omega) (by omega) hroom hun) ?_ fun _ _ e => e)
  rintro f s' ⟨rfl, u3, h3, tk3, us3, n3, c1, rfl, ⟨c10, c11, c12⟩, hS3, F3, H3, G3, N5⟩
  refine ⟨rfl, ?_⟩
  have N6 : News h₀ L h3 ((sa, listOf us3.toArray n3) :: ((la, listOf lus.toArray ln) :: ((ta, listOf tus.toArray tn) :: (oa, listOf ous.toArray on) :: (na, listOf nus.toArray nn) :: rest))) := fun p hp => N5 p (by
    simp only [List.mem_cons] at hp ⊢
    rcases hp with hp | hp | hp | hp
    · exact .inl hp
    · exact .inr (.inr (.inl hp))
    · exact .inr (.inl hp)
    · exact .inr (.inr (.inr hp)))
  have hne' : ∀ x ∈ (la, listOf lus.toArray ln) :: ((ta, listOf tus.toArray tn) :: (oa, listOf ous.toArray on) :: (na, listOf nus.toArray nn) :: rest), x.1 ≠ sa := fun x hx => hne x (by
    simp only [List.mem_cons] at hx ⊢
    rcases hx with hp | hp | hp
    · exact .inr (.inl hp)
    · exact .inl hp
    · exact .inr (.inr hp))
  have hl0 := hlc.1
  have hl1 := hlc.2.1
  refine wpAny_mono (turnJ4 B (over_has F3 H3) X N6 T hne' hS3 (by rw [List.length_append, List.length_singleton]; omega) hS3.length hL hll hi0 hi1 (by omega) (by omega) hOwn hroom hun) ?_ fun _ _ e => e
  rintro f s' ⟨rfl, u4, h4, tk4, us4, n4, c2, rfl, ⟨c20, c21, c22⟩, hS4, F4, H4, G4, N7⟩
  refine ⟨rfl, u4, h4, tk4, us4, n4, c1, c2, rfl, ?_, by omega, hS4, F4, H4, ?_, fun p hp => N7 p ?_⟩
  · have e : c1 % 128 = sv := by omega
    rw [e]; exact hsv
  · rw [over_eq H1] at G2
    rw [over_eq H2] at G3
    rw [over_eq H3] at G4
    exact fun y hy => (G4 y hy).trans ((G3 y hy).trans ((G2 y hy).trans (G1 y hy)))
  · simp only [List.mem_cons] at hp ⊢
    rcases hp with hp | hp | hp | hp
    · exact .inl hp
    · exact .inr (.inr (.inl hp))
    · exact .inr (.inl hp)
    · exact .inr (.inr (.inr hp))
end
end Mine
end

section
open PySem PySem.W PyProof.Rows
namespace Mine
theorem oth_fig : ∀ v ∈ othersL, ¬ (65 ≤ v ∧ v ≤ 90) ∧ ¬ (97 ≤ v ∧ v ≤ 122) ∧ ¬ (48 ≤ v ∧ v ≤ 57) ∧ v ≠ 61 := by decide +kernel
theorem sig_oth : ∀ v ∈ sig, v ∈ othersL := by decide +kernel
theorem figF_stray {p q c : Int} (h : c % 128 ∈ strayL p q) : figF p q c = -1 := by
  obtain ⟨ho, hp, hq⟩ := stray_in h
  obtain ⟨h1, h2, h3, _⟩ := oth_fig _ ho
  unfold figF
  rw [if_neg h1, if_neg h2, if_neg h3, if_neg hp, if_neg hq]
theorem rstep_stray {p q c : Int} {st : Option RSt} (h : c % 128 ∈ strayL p q) : rstep p q st c = st := by
  obtain ⟨ho, _, _⟩ := stray_in h
  obtain ⟨_, _, _, h61⟩ := oth_fig _ ho
  cases st with
  | none => rfl
  | some st =>
    unfold rstep
    dsimp only
    rw [figF_stray h, if_neg (by decide), if_neg h61]
theorem rstep_mod {p q c d : Int} {st : Option RSt} (h : c % 128 = d) : rstep p q st c = rstep p q st d := by
  have e1 : d % 128 = c % 128 := by omega
  have e2 : d % 32 = c % 32 := by omega
  have ef : figF p q c = figF p q d := by
    unfold figF
    rw [e1, e2]
  cases st with
  | none => rfl
  | some st =>
    unfold rstep
    dsimp only
    rw [ef, e1]
/-- what is sent of the line, as far as it is read -/
def Sent (p q : Int) (l out : List Int) : Prop := out.length = 2 * l.length ∧ out.foldl (rstep p q) (some r0) = l.foldl (rstep p q) (some r0)
theorem sent_nil {p q : Int} : Sent p q [] [] := ⟨rfl, rfl⟩
theorem sent_snoc {p q c c1 c2 : Int} {l out : List Int} (h : Sent p q l out) (h1 : c1 % 128 ∈ strayL p q) (h2 : c2 % 128 = c) : Sent p q (l ++ [c]) (out ++ [c1] ++ [c2]) := by
  refine ⟨?_, ?_⟩
  · have := h.1
    simp only [List.length_append, List.length_singleton]
    omega
  · rw [List.foldl_append, List.foldl_append, List.foldl_append, h.2]
    simp only [List.foldl_cons, List.foldl_nil]
    rw [rstep_stray h1, rstep_mod h2]
theorem sgn_alnum : ∀ f : Fin 62, sgn (f.val : Int) ≠ 43 ∧ sgn (f.val : Int) ≠ 47 ∧ ∀ p ∈ [(0 : Int)], figF p p (sgn (f.val : Int)) = (f.val : Int) := by decide +kernel
theorem sgn_kind : ∀ f : Fin 62, (65 ≤ sgn (f.val : Int) ∧ sgn (f.val : Int) ≤ 90 ∧ sgn (f.val : Int) % 32 - 1 = (f.val : Int)) ∨ (97 ≤ sgn (f.val : Int) ∧ sgn (f.val : Int) ≤ 122 ∧ sgn (f.val : Int) % 32 + 25 = (f.val : Int)) ∨ (48 ≤ sgn (f.val : Int) ∧ sgn (f.val : Int) ≤ 57 ∧ sgn (f.val : Int) % 32 + 36 = (f.val : Int)) := by decide +kernel
theorem sgn_cases {f : Int} (h0 : 0 ≤ f) (h1 : f < 64) : (f = 62 ∧ sgn f = 43) ∨ (f = 63 ∧ sgn f = 47) ∨
    (65 ≤ sgn f ∧ sgn f ≤ 90 ∧ sgn f % 32 - 1 = f) ∨ (97 ≤ sgn f ∧ sgn f ≤ 122 ∧ sgn f % 32 + 25 = f) ∨ (48 ≤ sgn f ∧ sgn f ≤ 57 ∧ sgn f % 32 + 36 = f) := by
  by_cases h62 : f = 62
  · subst h62; exact .inl ⟨rfl, rfl⟩
  by_cases h63 : f = 63
  · subst h63; exact .inr (.inl ⟨rfl, rfl⟩)
  have := sgn_kind ⟨f.toNat, by omega⟩
  simp only [Int.toNat_of_nonneg h0] at this
  exact .inr (.inr this)
theorem figF_sgn {p q f : Int} (hp : p ∈ sig) (hq : q ∈ sig) (hpq : p ≠ q) (h0 : 0 ≤ f) (h1 : f < 64) : figF p q (alts p q (sgn f)) = f := by
  have fig0 : ∀ v ∈ sig, ¬ (65 ≤ v % 128 ∧ v % 128 ≤ 90) ∧ ¬ (97 ≤ v % 128 ∧ v % 128 ≤ 122) ∧ ¬ (48 ≤ v % 128 ∧ v % 128 ≤ 57) ∧ v % 128 = v := by decide +kernel
  rcases sgn_cases h0 h1 with ⟨rfl, e⟩ | ⟨rfl, e⟩ | ⟨a, b, c⟩ | ⟨a, b, c⟩ | ⟨a, b, c⟩
  · obtain ⟨a, b, c, d⟩ := fig0 p hp
    rw [e]
    unfold alts
    rw [if_pos rfl]
    unfold figF
    rw [if_neg a, if_neg b, if_neg c, d, if_pos rfl]
  · obtain ⟨a, b, c, d⟩ := fig0 q hq
    rw [e]
    unfold alts
    rw [if_neg (by decide), if_pos rfl]
    unfold figF
    rw [if_neg a, if_neg b, if_neg c, d, if_neg (Ne.symm hpq), if_pos rfl]
  all_goals
    unfold alts
    rw [if_neg (by omega), if_neg (by omega)]
    unfold figF
  · rw [if_pos (by omega)]; exact c
  · rw [if_neg (by omega), if_pos (by omega)]; exact c
  · rw [if_neg (by omega), if_neg (by omega), if_pos (by omega)]; exact c
theorem rstep_fig {p q f : Int} {st : RSt} (hp : p ∈ sig) (hq : q ∈ sig) (hpq : p ≠ q) (h0 : 0 ≤ f) (h1 : f < 64) : rstep p q (some st) (alts p q (sgn f)) = some (rd st f) := by
  unfold rstep
  dsimp only
  rw [figF_sgn hp hq hpq h0 h1, if_pos h0]
theorem fold_figs {p q : Int} (hp : p ∈ sig) (hq : q ∈ sig) (hpq : p ≠ q) : ∀ (figs : List Int) (st : RSt), (∀ f ∈ figs, 0 ≤ f ∧ f < 64) → ((figs.map sgn).map (alts p q)).foldl (rstep p q) (some st) = some (figs.foldl rd st)
  | [], st, _ => rfl
  | f :: r, st, h => by
    have hf := h f (List.mem_cons_self ..)
    rw [List.map_cons, List.map_cons, List.foldl_cons, List.foldl_cons, rstep_fig hp hq hpq hf.1 hf.2]
    exact fold_figs hp hq hpq r _ fun g hg => h g (List.mem_cons_of_mem _ hg)
theorem figF_pad {p q : Int} (hp : p ∈ sig) (hq : q ∈ sig) : figF p q 61 = -1 := by
  have h61 : ∀ v ∈ sig, (61 : Int) % 128 ≠ v := by decide +kernel
  unfold figF
  rw [if_neg (by decide), if_neg (by decide), if_neg (by decide), if_neg (h61 p hp), if_neg (h61 q hq)]
theorem fold_pads {p q : Int} (hp : p ∈ sig) (hq : q ∈ sig) (o : List Int) : ∀ n : Nat, (List.replicate n (61 : Int)).foldl (rstep p q) (some (o, 0, 2 * (n : Int))) = some (o, 0, 0)
  | 0 => rfl
  | n + 1 => by
    rw [List.replicate_succ, List.foldl_cons]
    have e : rstep p q (some (o, 0, 2 * ((n + 1 : Nat) : Int))) 61 = some (o, 0, 2 * (n : Int)) := by
      unfold rstep
      dsimp only
      rw [figF_pad hp hq, if_neg (by decide), if_pos (by decide), if_pos ⟨rfl, by omega⟩]
      congr 3
      omega
    rw [e]
    exact fold_pads hp hq o n
theorem rd_shift (a : List Int) (st : RSt) (f : Int) : rd (a ++ st.1, st.2.1, st.2.2) f = (a ++ (rd st f).1, (rd st f).2.1, (rd st f).2.2) := by
  unfold rd
  dsimp only
  repeat' split
  all_goals simp
theorem fold_shift (a : List Int) : ∀ (figs : List Int) (st : RSt), figs.foldl rd (a ++ st.1, st.2.1, st.2.2) = (a ++ (figs.foldl rd st).1, (figs.foldl rd st).2.1, (figs.foldl rd st).2.2)
  | [], st => rfl
  | f :: r, st => by
    rw [List.foldl_cons, List.foldl_cons, rd_shift]
    exact fold_shift a r (rd st f)
theorem encP_read {p q : Int} {pre out a : List Int} (hp : p ∈ sig) (hq : q ∈ sig) (hpq : p ≠ q) (h : EncP p q pre out) : out.foldl (rstep p q) (some (a, 0, 0)) = some (a ++ pre, 0, 0) := by
  obtain ⟨o, ⟨figs, pads, rfl, hf, _, _, hr⟩, rfl⟩ := h
  rw [List.map_append, List.foldl_append, fold_figs hp hq hpq figs _ hf]
  have e := fold_shift a figs r0
  rw [hr] at e
  have e0 : (a ++ r0.1, r0.2.1, r0.2.2) = (a, (0 : Int), (0 : Int)) := by
    unfold r0
    simp
  rw [e0] at e
  rw [e]
  have e2 : (List.replicate pads (61 : Int)).map (alts p q) = List.replicate pads 61 := by
    rw [List.map_replicate]
    rfl
  rw [e2]
  exact fold_pads hp hq _ pads
theorem line_read {p q : Int} {r1 r2 o1 o2 out : List Int} (hp : p ∈ sig) (hq : q ∈ sig) (hpq : p ≠ q) (h1 : EncP p q r1 o1) (h2 : EncP p q r2 o2) (hs : Sent p q (o1 ++ o2) out) : out.foldl (rstep p q) (some r0) = some (r1 ++ r2, 0, 0) := by
  rw [hs.2, List.foldl_append]
  have e1 := encP_read (a := []) hp hq hpq h1
  have e0 : r0 = ([], (0 : Int), (0 : Int)) := rfl
  rw [e0, e1, encP_read hp hq hpq h2, List.nil_append]
theorem encP_ok {p q c : Int} {pre out : List Int} (hp : p ∈ sig) (hq : q ∈ sig) (h : EncP p q pre out) (hc : c ∈ out) : LineOK p q c := by
  have hb : ∀ v ∈ sig, 33 ≤ v ∧ v ≤ 126 := by decide +kernel
  have no : ∀ v : Int, v ∉ othersL → v ∉ strayL p q := fun v hv h => hv (stray_in h).1
  obtain ⟨o, ⟨figs, pads, rfl, hf, _, _, _⟩, rfl⟩ := h
  obtain ⟨d, hd, rfl⟩ := List.mem_map.mp hc
  rcases List.mem_append.mp hd with hd | hd
  · obtain ⟨f, hf', rfl⟩ := List.mem_map.mp hd
    have hfb := hf f hf'
    rcases sgn_cases hfb.1 hfb.2 with ⟨_, e⟩ | ⟨_, e⟩ | ⟨a, b, _⟩ | ⟨a, b, _⟩ | ⟨a, b, _⟩
    · rw [e]
      have : alts p q 43 = p := rfl
      rw [this]
      exact ⟨(hb p hp).1, (hb p hp).2, fun h => (stray_in h).2.1 rfl⟩
    · rw [e]
      have : alts p q 47 = q := rfl
      rw [this]
      exact ⟨(hb q hq).1, (hb q hq).2, fun h => (stray_in h).2.2 rfl⟩
    all_goals
      have e : alts p q (sgn f) = sgn f := by
        unfold alts
        rw [if_neg (by omega), if_neg (by omega)]
      rw [e]
      refine ⟨by omega, by omega, no _ fun ho => ?_⟩
      have := oth_fig _ ho
      omega
  · rw [(List.mem_replicate.mp hd).2]
    have e : alts p q 61 = 61 := rfl
    rw [e]
    exact ⟨by decide, by decide, no _ fun ho => (oth_fig _ ho).2.2.2 rfl⟩
end Mine
end

section
open PySem PySem.W PyProof.Rows
set_option maxRecDepth 100000
namespace Mine
theorem fillLO : (∀ p, hd.heap_39 p = hd.heap_39 p) ∧ (PySem.Challenge.rw_mj0045_01 = PySem.Challenge.rw_mj0045_01) := by k_fill; exact ⟨fun _ => rfl, rfl⟩
local macro_rules | `(tactic| walk_at "pyIter ref") => `(tactic| (k_here; (with_reducible show wpAny _ _ (pyIter (Value.ref _)) (fun it s₂ => LoopAtV _ _ _ _ _ _ _ _ _ it s₂) _ _); refine later_wp ?_))
theorem take_snoc {l : List Int} {n : Nat} (h : n < l.length) : l.take (n + 1) = l.take n ++ [l.getD n 0] := by
  rw [List.take_add_one, List.getD_eq_getElem?_getD, List.getElem?_eq_getElem h]
  rfl
section
variable {w : World} {mean : ExcName → Option Value} {mg mb : Str → Option Value} {dp un : Nat} {gd : Option (List Code)} {a : Addr} {ccd : Value} {outer : List Env} {A₀ : Around} {base h₀ : Heap} {L : Addr} {s : Shared} {E : Value → Shared → Prop}
  {u : Str → Option Value} {oc : Obj} {la oa na ra sa ta pa : Addr} {ous nus lus sus tus rus : List Value} {on nn ln sn tn pn rn : Nat} {nms line sent row : List Int} {b : Bool} {p q g i x sv c : Int} {tg ti ts tx tv tc tp tq : Tok} {rest news : List (Addr × Obj)}
abbrev kvS (sa ta la oa ra na : Addr) (sz : Int) (ts : Tok) : List (Str × Value) := (Str.ofString "sent", .ref sa) :: (Str.ofString "strays", .ref ta) :: (Str.ofString "line", .ref la) :: kvR oa ra na sz ts
theorem rangeLoop {r : Addr} {t₀ u₀ v₀ : Tok} {Q : Flow → Shared → Prop} (hr : IsRange s.heap r 0 (line.length : Int) 1 t₀ u₀ v₀)
    (B : Below A₀ base outer h₀) (F : Fr h₀ L s.heap (over (kvS sa ta la oa ra na nms.length ts) u)) (X : (hd.heap_39 w.params).In h₀)
    (N : News h₀ L s.heap ((sa, listOf #[] sn) :: (ta, listOf tus.toArray tn) :: (la, listOf lus.toArray ln) :: (oa, listOf ous.toArray on) :: (na, listOf nus.toArray nn) :: rest)) (T : Top hd.view_39 (looseW hd.view_39 [Str.ofString "b2a_base64", Str.ofString "b64encode"]) mean mg mb h₀)
    (hne : ∀ x ∈ (ta, listOf tus.toArray tn) :: (la, listOf lus.toArray ln) :: (oa, listOf ous.toArray on) :: (na, listOf nus.toArray nn) :: rest, x.1 ≠ sa)
    (hN : IntsAre nus nms) (hn1 : 1 ≤ nms.length) (hn9 : nms.length ≤ 9) (hT : IntsAre tus (strayL p q)) (ht63 : (strayL p q).length = 63)
    (hO : IntsAre ous othersL) (hL : IntsAre lus line) (hll : line.length ≤ 100) (hlc : ∀ c ∈ line, LineOK p q c)
    (hOwn : Own w dp un gd L a ccd outer E) (hroom : dp + 10 < recursionLimit) (hun : un + 100 < cLine)
    (done : ∀ (m' : Str → Option Value) us out n h tk, IntsAre us out → Sent p q line out → Has m' (kvS sa ta la oa ra na nms.length ts) → Fr h₀ L h m' → News h₀ L h ((sa, listOf us.toArray n) :: (ta, listOf tus.toArray tn) :: (la, listOf lus.toArray ln) :: (oa, listOf ous.toArray on) :: (na, listOf nus.toArray nn) :: rest) → Q .next { s with heap := h, toks := tk }) :
    wpAny (model PySem.Challenge.rw_mj0045_01.row.prog w) (ktrTop dp un gd (Str.ofString "law") lawScope L a ccd (cellsFrom (L + 1) lawScope.names []) outer) (pyIter (.ref r))
      (fun it s₂ => LoopAtV PySem.Challenge.rw_mj0045_01.row.prog w (ktrTop dp un gd (Str.ofString "law") lawScope L a ccd (cellsFrom (L + 1) lawScope.names []) outer) h₀ (envOfC (Str.ofString "law") lawScope L a ccd) (Str.ofString "i") (forBody 13) Q E it s₂) E s := by
  refine kst_range (σ := List Value × List Int × Nat) (n := line.length) (fun c => (sa, listOf c.1.toArray c.2.2) :: (ta, listOf tus.toArray tn) :: (la, listOf lus.toArray ln) :: (oa, listOf ous.toArray on) :: (na, listOf nus.toArray nn) :: rest) (fun _ => []) (fun c => IntsAre c.1 c.2.1) SN (fun pre c => Sent p q (line.take pre.length) c.2.1) ([], [], sn) rfl hr (small_one (by omega) (by omega) (by omega) (by omega)) (rangeSize_nat _ _) F N .nil (fun _ hp => nomatch hp) sent_nil ?_ ?_
  · rintro ⟨us, ns, n⟩ pre k t u1 h tk own hk hlt hoff hI hP F1 N1
    dsimp only at hI hP
    have hk0 : k.toNat = pre.length := by omega
    have hH : Has (fun y => if y = Str.ofString "i" then some (.int k t) else kstB (fun z => if SN.contains z then u1 z else over (kvS sa ta la oa ra na nms.length ts) u z) [] y) (kvJ sa ta la oa ra na nms.length k ts t) := ⟨rfl, rfl, rfl, rfl, rfl, rfl, rfl, rfl, trivial⟩
    have hPl := hP.1
    rw [List.length_take] at hPl
    have hlk : line.getD k.toNat 0 ∈ line := getD_mem (by omega) (by omega)
    have hne' : ∀ x ∈ (ta, listOf tus.toArray tn) :: (la, listOf lus.toArray ln) :: (oa, listOf ous.toArray on) :: (na, listOf nus.toArray nn) :: (rest ++ own), x.1 ≠ sa := by
      intro x hx
      have hx' : x ∈ ((ta, listOf tus.toArray tn) :: (la, listOf lus.toArray ln) :: (oa, listOf ous.toArray on) :: (na, listOf nus.toArray nn) :: rest) ++ own := hx
      rcases List.mem_append.mp hx' with hx' | hx'
      · exact hne x hx'
      · exact hoff x hx' sa (List.mem_cons_self ..)
    refine wpAny_mono (turnJ (p := p) (q := q) (line := line) B (over_has F1 hH) X N1 T hne' hN hn1 hn9 hT ht63 hO hL (by omega) (by omega) (by omega) (hlc _ hlk) hI (by omega) hOwn hroom hun) ?_ fun _ _ e => e
    rintro f s' ⟨rfl, m2, h2, tk2, us2, n2, c1, c2, rfl, hc1, hc2, hI2, F2, H2, G2, N2⟩
    rw [over_eq hH] at G2
    show InvEndN _ _ _ _ _ _ _
    refine kst_end (us2, ns ++ [c1] ++ [c2], n2) F2 N2 (fun p hp => ?_) (fun p hp => ?_) rfl hI2 (fun _ hp => nomatch hp) (fun z hz _ hz2 => ?_) ?_
    · rcases List.mem_cons.mp hp with rfl | hp
      · exact List.mem_cons_self ..
      · exact List.mem_cons_of_mem _ (List.mem_append_left own hp)
    · exact List.mem_cons_of_mem _ (List.mem_append_right ((ta, listOf tus.toArray tn) :: (la, listOf lus.toArray ln) :: (oa, listOf ous.toArray on) :: (na, listOf nus.toArray nn) :: rest) hp)
    · refine (G2 z hz2).trans ((if_neg hz).trans ?_)
      show (if SN.contains z = true then u1 z else over (kvS sa ta la oa ra na nms.length ts) u z) = _
      rw [if_neg (by rw [hz2]; decide)]
    · show Sent p q (line.take (pre ++ [k]).length) (ns ++ [c1] ++ [c2])
      rw [List.length_append, List.length_singleton, take_snoc hlt]
      rw [hk0] at hc2
      exact sent_snoc hP hc1 hc2
  · rintro ⟨us, ns, n⟩ u1 h tk hI hP F1 N1
    dsimp only at hI hP
    rw [rangeKs_length, List.take_length] at hP
    exact done _ us ns n h tk hI hP ⟨rfl, rfl, rfl, rfl, rfl, rfl, rfl, trivial⟩ F1 N1
def PostO (h₀ : Heap) (L : Addr) (kvs : List (Str × Value)) (news : List (Addr × Obj)) (sa : Addr) (p q : Int) (line : List Int) (s : Shared) (f : Flow) (s' : Shared) : Prop :=
  f = .next ∧ ∃ u h' tk' us out n, s' = { s with heap := h', toks := tk' } ∧ IntsAre us out ∧ Sent p q line out ∧ Fr h₀ L h' (over kvs u) ∧ News h₀ L h' ((sa, listOf us.toArray n) :: news)
set_option maxHeartbeats 8000000 in
theorem pieceO
    (B : Below A₀ base outer h₀) (F : Fr h₀ L s.heap (over (kvS sa ta la oa ra na nms.length ts) u)) (X : (hd.heap_39 w.params).In h₀)
    (N : News h₀ L s.heap ((sa, listOf #[] sn) :: (ta, listOf tus.toArray tn) :: (la, listOf lus.toArray ln) :: (oa, listOf ous.toArray on) :: (na, listOf nus.toArray nn) :: rest)) (T : Top hd.view_39 (looseW hd.view_39 [Str.ofString "b2a_base64", Str.ofString "b64encode"]) mean mg mb h₀)
    (hne : ∀ x ∈ (ta, listOf tus.toArray tn) :: (la, listOf lus.toArray ln) :: (oa, listOf ous.toArray on) :: (na, listOf nus.toArray nn) :: rest, x.1 ≠ sa)
    (hN : IntsAre nus nms) (hn1 : 1 ≤ nms.length) (hn9 : nms.length ≤ 9) (hT : IntsAre tus (strayL p q)) (ht63 : (strayL p q).length = 63)
    (hO : IntsAre ous othersL) (hL : IntsAre lus line) (hlv : lus.length = line.length) (hll : line.length ≤ 100) (hlc : ∀ c ∈ line, LineOK p q c)
    (hOwn : Own w dp un gd L a ccd outer E) (hroom : dp + 10 < recursionLimit) (hun : un + 100 < cLine) :
    LawW w dp un gd L a ccd outer (part 13 14) (PostO h₀ L (kvS sa ta la oa ra na nms.length ts) ((ta, listOf tus.toArray tn) :: (la, listOf lus.toArray ln) :: (oa, listOf ous.toArray on) :: (na, listOf nus.toArray nn) :: rest) sa p q line s) E s := by
  dsimp only [over, kvS, kvR] at F
  with_unfolding_all show wpAny _ _ (execs (_ :: []) (envX _ (Scope.mk _ _ _ _ _) _ _ _ (_ :: []))) _ _ _
  refine wpAny_execs_cons (For_invVF F rfl rfl ?_ (by intro _; rfl) hOwn)
  k_steps
  unfold Later
  rename Fr _ _ _ _ => F9
  rename News _ _ _ _ => N9
  rename IsRange _ _ _ _ _ _ _ _ => R9
  with_unfolding_all refine rangeLoop (p := p) (q := q) (line := line) (nms := nms) (ts := ts) R9 B (over_has F9 ⟨rfl, rfl, rfl, rfl, rfl, rfl, rfl, trivial⟩) X N9 T hne hN hn1 hn9 hT ht63 hO hL hll hlc hOwn hroom hun ?_
  intro m' us out n h tk hI hS hH F' N'
  exact wpAny_execs_nil ⟨rfl, m', h, tk, us, out, n, rfl, hI, hS, over_has F' hH, N'⟩
end
end Mine
end

section
open PySem PySem.W PyProof.Rows
set_option maxRecDepth 100000
namespace Mine
theorem fillLQ : (∀ p, hd.heap_39 p = hd.heap_39 p) ∧ (PySem.Challenge.rw_mj0045_01 = PySem.Challenge.rw_mj0045_01) := by k_fill; exact ⟨fun _ => rfl, rfl⟩
theorem sig_w : ∀ v ∈ sig, (if v = 0 then 0 else v.natAbs.log2 + 1) ≤ 8 := by decide +kernel
theorem lay2 {p q : Int} (hp : p ∈ sig) (hq : q ∈ sig) : PyData.layable0 (.list ([p, q].map .int)) = true := by
  simp [PyData.layable0, PyData.canLay0, PyData.canLayAll0, PyData.depth, PyData.depthAll, PyData.weight, PyData.weightAll]
  have h1 := sig_w p hp
  have h2 := sig_w q hq
  omega
theorem CallsL.go {d : Nat} {w : World} {mean : ExcName → Option Value} {mg mb : Str → Option Value} {f : Addr} {news : List (Addr × Obj)} {vs : List Value} {kw : List (Str × Value)} {out : List Int} (C : CallsL d w mean mg mb f news vs kw out)
    {dp un : Nat} {gd : Option (List Code)} {cn : Str} {cs : Scope} {a : Addr} {ccd : Value} {cl : List (Str × Addr)} {outer : List Env} {A₀ : Around} {base h₀ : Heap} {L : Addr} {m : Str → Option Value} {s : Shared} {Q E : Value → Shared → Prop}
    (B : Below A₀ base outer h₀) (F : Fr h₀ L s.heap m) (X : (hd.heap_39 w.params).In h₀) (N : News h₀ L s.heap news) (T : Top hd.view_39 (looseW hd.view_39 [Str.ofString "b2a_base64", Str.ofString "b64encode"]) mean mg mb h₀) (hk : cs.kind = .function)
    (hd1 : dp + d < recursionLimit) (hu : un + 8 * d < cLine)
    (ret : ∀ (l : Addr) (us : List Value) (n : Nat) (h' : Heap) (tk' : Nat), IntsAre us out → Fr h₀ L h' m → News h₀ L h' ((l, listOf us.toArray n) :: news) → Q (.ref l) { s with heap := h', toks := tk' }) :
    wpAny (model PySem.Challenge.rw_mj0045_01.row.prog w) (ktrTop dp un gd cn cs L a ccd cl outer) (call (.ref f) vs kw) Q E s := C _ _ _ _ _ _ _ _ _ _ _ _ _ _ _ _ _ B F X N T hk hd1 hu ret
local macro_rules | `(tactic| walk_at "call ref") => `(tactic| (k_here; k_dflt ((refine' CallsL.go (read_calls (lay2 ?hp ?hq) ?h1 ?h2 ?h3) ?k1 ?k2 ?k3 ?k4 ?k5 ?k6 ?k7 ?k8 ?_); (case k1 => k_asm); (case k2 => k_asm); (case k3 => k_asm); (case k4 => k_asm); (case hp => assumption); (case hq => assumption); (case h1 => assumption); (case h3 => assumption); (case h2 => assumption); (case k5 => k_asm); (case k6 => first | exact rfl | assumption); (case k7 => ktr_room); (case k8 => ktr_units); intro l9 us9 n9 h9 tk9 hI9 F9 N9; (try dsimp only); (try k_fold))))
section
variable {w : World} {mean : ExcName → Option Value} {mg mb : Str → Option Value} {dp un : Nat} {gd : Option (List Code)} {a : Addr} {ccd : Value} {outer : List Env} {A₀ : Around} {base h₀ : Heap} {L : Addr} {s : Shared} {E : Value → Shared → Prop}
  {u : Str → Option Value} {oc : Obj} {ra sa pa : Addr} {sus rus : List Value} {sn pn rn : Nat} {sent row : List Int} {p q : Int} {tp tq : Tok} {rest news : List (Addr × Obj)}
def PostQ (h₀ : Heap) (L : Addr) (s : Shared) (f : Flow) (s' : Shared) : Prop :=
  f = .ret (.bool true) ∧ ∃ m' h' tk', s' = { s with heap := h', toks := tk' } ∧ Fr h₀ L h' m' 
set_option maxHeartbeats 8000000 in
theorem pieceQ
    (B : Below A₀ base outer h₀) (F : Fr h₀ L s.heap (over [(Str.ofString "sent", .ref sa), (Str.ofString "row", .ref ra)] u)) (X : (hd.heap_39 w.params).In h₀)
    (N : News h₀ L s.heap ((sa, listOf sus.toArray sn) :: (pa, listOf #[.int p tp, .int q tq] pn) :: [(ra, listOf rus.toArray rn), (L + 1, oc)])) (T : Top hd.view_39 (looseW hd.view_39 [Str.ofString "b2a_base64", Str.ofString "b64encode"]) mean mg mb h₀)
    (hS : IntsAre sus sent) (hsl : sent.length ≤ 1000) (hR : IntsAre rus row) (hrl : row.length ≤ 9) (hrv : rus.length = row.length) (hread : sent.foldl (rstep p q) (some r0) = some (row, 0, 0)) (hcell : oc.data = .cell (some (.ref pa))) (hp : p ∈ sig) (hq : q ∈ sig) (hroom : dp + 10 < recursionLimit) (hun : un + 100 < cLine) :
    LawW w dp un gd L a ccd outer (part 14 15) (PostQ h₀ L s) E s := by
  dsimp only [over] at F
  with_unfolding_all show wpAny _ _ (execs (_ :: []) (envX _ (Scope.mk _ _ _ _ _) _ _ _ (_ :: []))) _ _ _
  k_steps
  exact ⟨rfl, _, _, _, rfl, by assumption⟩
end
end Mine
end

section
open PySem PySem.W PyProof.Rows
set_option maxRecDepth 100000
namespace Mine
theorem law_parts : lawBody = part 0 1 ++ (part 1 4 ++ (part 4 5 ++ (part 5 8 ++ (part 8 10 ++ (part 10 11 ++ (part 11 12 ++ (part 12 13 ++ (part 13 14 ++ part 14 15)))))))) := by rfl
theorem row_in (nms : List Int) : KBa.In (nms.map (· % 256)) := by
  intro v hv
  obtain ⟨x, _, rfl⟩ := List.mem_map.mp hv
  omega
theorem all_ne {d : Addr} {l : List (Addr × Obj)} (h : NeAll d (l.map (·.1))) : ∀ x ∈ l, x.1 ≠ d := by
  induction l with
  | nil => intro x hx; cases hx
  | cons p r ih =>
    intro x hx
    cases hx with
    | head => exact h.1
    | tail _ hx => exact ih h.2 x hx
section
variable {w : World} {mean : ExcName → Option Value} {mg mb : Str → Option Value} {dp un : Nat} {gd : Option (List Code)} {a : Addr} {ccd : Value} {outer : List Env} {A₀ : Around} {base h₀ : Heap} {L : Addr} {s : Shared} {E : Value → Shared → Prop}
  {u : Str → Option Value} {oc : Obj} {sl : Addr} {vs : List Value} {ns : List Int}
theorem law_all
    (B : Below A₀ base outer h₀) (F : Fr h₀ L s.heap (over [(Str.ofString "script", .ref sl)] u)) (X : (hd.heap_39 w.params).In h₀) (N : News h₀ L s.heap [(L + 1, oc)]) (T : Top hd.view_39 (looseW hd.view_39 [Str.ofString "b2a_base64", Str.ofString "b64encode"]) mean mg mb h₀)
    (hcell : oc.data = .cell none) (hL : h₀.IsList sl vs.toArray) (hI : IntsAre vs ns) (hlen : ns.length ≤ 63) (hOwn : Own w dp un gd L a ccd outer E) (hroom : dp + 10 < recursionLimit) (hun : un + 100 < cLine) :
    LawW w dp un gd L a ccd outer lawBody (PostQ h₀ L s) E s := by
  unfold LawW
  rw [law_parts]
  obtain ⟨hn1, hn9⟩ := numOf_len ns
  generalize hnms : numOf ns = nms at hn1 hn9
  refine execs_append (wpAny_mono (pieceA B F X N T hL hI hlen hI.length hroom hun) ?_ fun _ _ e => e)
  rw [hnms]
  rintro f s' ⟨rfl, na, nus, nn, hN, u1, h1, tk1, rfl, F1, N1, ap1⟩
  refine ⟨rfl, ?_⟩
  refine execs_append (wpAny_mono (pieceB B F1 X N1 T hN hn9 hn1 hN.length ap1.1.1 hroom hun) ?_ fun _ _ e => e)
  rintro f s' ⟨rfl, ts, tt, ra, rus, rn, hR, u2, h2, tk2, rfl, F2, N2, ap2⟩
  refine ⟨rfl, ?_⟩
  refine execs_append (wpAny_mono (pieceC B F2 X N2 T hroom hun) ?_ fun _ _ e => e)
  rintro f s' ⟨rfl, oa, ous, on, h3, tk3, rfl, hO, F3, N3, ne3⟩
  refine ⟨rfl, ?_⟩
  refine execs_append (wpAny_mono (pieceD (u := u2) (oa := oa) (ra := ra) (na := na) (ap := ⟨ne3, ap2⟩) B F3 X N3 T hN hn9 hn1 hN.length hO hcell hroom hun) ?_ fun _ _ e => e)
  rintro f s' ⟨rfl, b, p, q, tp, tq, pa, pn, oc', hpq, hcell', u4, h4, tk4, rfl, F4, N4, ap4⟩
  refine ⟨rfl, ?_⟩
  refine execs_append (wpAny_mono (pieceF (pa := pa) (oa := oa) (ra := ra) (na := na) (tt := tt) (ts := ts) (tot := nms.sum) (b := b) (nms := nms) ap4 B (over_has F4 ⟨rfl, rfl, rfl, rfl, rfl, rfl, trivial⟩) X N4 T hroom hun) ?_ fun _ _ e => e)
  rintro f s' ⟨rfl, la, tc, c, hc0, hc1, u5, h5, tk5, rfl, F5, N5, ap5⟩
  refine ⟨rfl, ?_⟩
  have hrl : (nms.map (· % 256)).length = nms.length := List.length_map _
  refine execs_append (wpAny_mono (pieceG (la := la) (pa := pa) (oa := oa) (ra := ra) (na := na) (b := b) ap5 B F5 X N5 T hR (by omega) hR.length hc0 (by omega) (row_in nms) hcell' hpq hOwn hroom hun) ?_ fun _ _ e => e)
  rintro f s' ⟨rfl, u6, h6, tk6, lus, ln, o1, o2, rfl, hE1, hE2, hLi, F6, N6⟩
  refine ⟨rfl, ?_⟩
  refine execs_append (wpAny_mono (pieceH (la := la) (pa := pa) (oa := oa) (ra := ra) (na := na) (b := b) (sz := nms.length) (ts := ts) ap5 B (over_has F6 ⟨rfl, rfl, rfl, rfl, rfl, trivial⟩) X N6 T hO hO.length hcell' hpq hroom hun) ?_ fun _ _ e => e)
  rintro f s' ⟨rfl, ta, tus, tn, h7, tk7, rfl, hT, F7, N7, ne7⟩
  refine ⟨rfl, ?_⟩
  refine execs_append (wpAny_mono (pieceI B F7 X N7 T hroom hun) ?_ fun _ _ e => e)
  rintro f s' ⟨rfl, sa, h8, tk8, rfl, F8, N8, ne8⟩
  refine ⟨rfl, ?_⟩
  have hl1 := hE1.len
  have hl2 := hE2.len
  rw [List.length_take] at hl1
  rw [List.length_drop] at hl2
  have hne := all_ne ne8
  have N9 := newsSub (l := [(sa, listOf #[] 0), (ta, listOf tus.toArray tn), (la, listOf lus.toArray ln), (oa, listOf ous.toArray on), (na, listOf nus.toArray nn), (pa, listOf #[.int p tp, .int q tq] pn), (ra, listOf rus.toArray rn), (L + 1, oc')]) N8 (by k_subL)
  have hne9 : ∀ x ∈ [(ta, listOf tus.toArray tn), (la, listOf lus.toArray ln), (oa, listOf ous.toArray on), (na, listOf nus.toArray nn), (pa, listOf #[.int p tp, .int q tq] pn), (ra, listOf rus.toArray rn), (L + 1, oc')], x.1 ≠ sa :=
    fun x hx => hne x (SubL.mem (by k_subL) x hx)
  have hll : (o1 ++ o2).length ≤ 100 := by rw [List.length_append]; omega
  refine execs_append (wpAny_mono (pieceO (p := p) (q := q) (nms := nms) (ts := ts) (ra := ra) B (over_has F8 ⟨rfl, rfl, rfl, rfl, rfl, rfl, rfl, trivial⟩) X N9 T hne9 hN hn1 hn9 hT (strayLen0 hpq.1 hpq.2.1 hpq.2.2.1) hO hLi hLi.length hll ?_ hOwn hroom hun) ?_ fun _ _ e => e)
  · intro c hc
    rcases List.mem_append.mp hc with hc | hc
    · exact encP_ok hpq.1 hpq.2.1 hE1 hc
    · exact encP_ok hpq.1 hpq.2.1 hE2 hc
  rintro f s' ⟨rfl, u10, h10, tk10, sus, out, sn, rfl, hSI, hS, F10, N10⟩
  refine ⟨rfl, ?_⟩
  have hread := line_read hpq.1 hpq.2.1 hpq.2.2.1 hE1 hE2 hS
  rw [List.take_append_drop] at hread
  have hsl := hS.1
  have N11 := newsSub (l := [(sa, listOf sus.toArray sn), (pa, listOf #[.int p tp, .int q tq] pn), (ra, listOf rus.toArray rn), (L + 1, oc')]) N10 (by k_subL)
  exact pieceQ B (over_has F10 ⟨rfl, rfl, trivial⟩) X N11 T hSI (by omega) hR (by omega) hR.length hread hcell' hpq.1 hpq.2.1 hroom hun
theorem law_top {Q : Flow → Shared → Prop}
    (B : Below A₀ base outer h₀) (F : Fr h₀ L s.heap (over [(Str.ofString "script", .ref sl)] u)) (X : (hd.heap_39 w.params).In h₀) (N : News h₀ L s.heap [(L + 1, oc)]) (T : Top hd.view_39 (looseW hd.view_39 [Str.ofString "b2a_base64", Str.ofString "b64encode"]) mean mg mb h₀)
    (hcell : oc.data = .cell none) (hL : h₀.IsList sl vs.toArray) (hI : IntsAre vs ns) (hlen : ns.length ≤ 63) (hOwn : Own w dp un gd L a ccd outer E) (hroom : dp + 10 < recursionLimit) (hun : un + 100 < cLine)
    (ret : ∀ m' h' tk', Fr h₀ L h' m' → Q (.ret (.bool true)) { s with heap := h', toks := tk' }) :
    LawW w dp un gd L a ccd outer lawBody Q E s := by
  refine wpAny_mono (law_all B F X N T hcell hL hI hlen hOwn hroom hun) ?_ fun _ _ e => e
  rintro f s' ⟨rfl, m', h', tk', rfl, F'⟩
  exact ret m' h' tk' F'
end
end Mine
end

section
open PySem PySem.W PyProof.Rows
set_option maxRecDepth 100000
namespace Mine
set_option maxHeartbeats 8000000 in
theorem law0 : PySem.Challenge.rw_mj0045_01.Holds := hd (by
  k_go0
  rename Fr _ _ _ _ => F
  rename News _ _ _ _ => N
  rename Frag.In _ _ => X
  rename Heap.IsList _ _ _ => hL
  rename IntsAre _ _ => hI
  rename Below _ _ _ _ => B
  rename Top _ _ _ _ _ _ => T
  rename _ = Data.cell _ => hc
  rename ¬ (_ : Int) < _ => hn
  have F2 := over_has F (kvs := [(Str.ofString "script", .ref _)]) ⟨rfl, trivial⟩
  have hc2 := hc.trans (show _ = Data.cell none from rfl)
  with_unfolding_all refine law_top B F2 X N T hc2 hL hI (by omega) ?o ?d ?u ?r
  case d => decide
  case u => decide
  case o => passes_own
  case r =>
    intro m' h' tk' F'
    k_steps
    done)
end Mine
end

theorem PySem.Challenge.cw_mj0045_01_holds : PySem.Challenge.rw_mj0045_01.Holds := by
  exact Mine.law0
