import PyProof.Rows.All
import Wide.All
import OpenK.AllK
import Wide.FinOn
import PySem.Challenge.RW_fv0010_01
set_option Elab.async false
section
open PySem PySem.W PyProof.Rows
namespace Mine
set_option maxRecDepth 100000 in
set_option maxHeartbeats 8000000 in
open_top hd for PySem.Challenge.rw_fv0010_01
end Mine
end
section
open PySem PySem.W PyProof.Rows
namespace Mine
/-- what a call of the def at f with the arguments vs hands back, from any frame: some value with R, the ledger as it was -/
def Tell (w : World) (mean : ExcName → Option Value) (mg mb : PySem.Str → Option Value) (f : Addr) (vs : List Value) (R : Value → Prop) : Prop :=
  ∀ (dp un : Nat) (gd : Option (List Code)) (cn : PySem.Str) (cs : Scope) (a : Addr) (ccd : Value) (cl : List (PySem.Str × Addr)) (outer : List Env) (A₀ : Around) (base h₀ : Heap) (L : Addr) (m : PySem.Str → Option Value) (news : List (Addr × Obj)) (s : Shared)
    (Q E : Value → Shared → Prop),
    Below A₀ base outer h₀ → Fr h₀ L s.heap m → (hd.heap_39 w.params).In h₀ → News h₀ L s.heap news →
    Top hd.view_39 (looseW hd.view_39 [Str.ofString "_ORDINAL_SUFFIXES", Str.ofString "_APNUMBER_WORDS", Str.ofString "ordinal", Str.ofString "Double"]) mean mg mb h₀ →
    cs.kind = .function → dp + 9 < recursionLimit → un + 90 < cLine →
    (∀ v h' tk', R v → Fr h₀ L h' m → News h₀ L h' news → Q v { s with heap := h', toks := tk' }) →
    wpAny (model PySem.Challenge.rw_fv0010_01.row.prog w) (ktrTop dp un gd cn cs L a ccd cl outer) (call (.ref f) vs) Q E s
theorem tell_ret {h₀ h' : Heap} {L : Addr} {m : PySem.Str → Option Value} {news news' : List (Addr × Obj)} {s : Shared} {Q : Value → Shared → Prop} {R : Value → Prop} {v : Value} {tk' : Nat}
    (hret : ∀ v h' tk', R v → Fr h₀ L h' m → News h₀ L h' news → Q v { s with heap := h', toks := tk' }) (e : R v) (F : Fr h₀ L h' m) (N : News h₀ L h' news') (hs : ∀ p ∈ news, p ∈ news') : Q v { s with heap := h', toks := tk' } :=
  hret v h' tk' e F fun p hp => N p (hs p hp)
end Mine
end
section
open PySem PySem.W PyProof.Rows
namespace Mine
theorem int_eq {x y : Int} {t : Tok} (h : x = y) : Value.int x t = Value.int y t := by rw [h]
theorem whlIf_split {b : Bool} {T F : Prop} (t : b = true → T) (f : b = false → F) : WhlIf b T F := by
  cases b with
  | true => exact WhlIf.yes rfl (t rfl)
  | false => exact WhlIf.no rfl (f rfl)
local macro_rules | `(tactic| walk_at "exec While Compare cons nil") => `(tactic| (k_here; k_dflt (refine whl_start 3 ?_)))
local macro_rules | `(tactic| walk_at "WhlIf") => `(tactic| (k_dflt (first
  | (refine WhlIf.yes (by simp only [decide_eq_true_eq, Int.fdiv_eq_ediv_of_nonneg _ (show (0:Int) ≤ 100 by decide)] at *; omega) ?_)
  | (refine WhlIf.no (by simp only [decide_eq_true_eq, decide_eq_false_iff_not, Int.fdiv_eq_ediv_of_nonneg _ (show (0:Int) ≤ 100 by decide)] at *; omega) ?_)
  | (refine whlIf_split (fun hb => ?_) (fun hb => ?_)))))
set_option maxRecDepth 100000 in
set_option maxHeartbeats 8000000 in
theorem hund_tells (w : World) (mean : ExcName → Option Value) (mg mb : PySem.Str → Option Value) (n : Int) (t : Tok) :
    Tell w mean mg mb 173 [.int n t] (fun v => ∃ t', v = .int (n % 100) t') := by
  w_top off
  unfold Tell
  k_fill
  intro dp un gd cn cs a ccd cl outer A₀ base h₀ L m news s Q E B F X N T hk hd hu hret
  refine wpAny_call ?_
  k_dflt cell_enter
  k_steps
  all_goals (refine tell_ret hret ?_ (by k_asm) (by k_asm) (fun _ h => h); refine ⟨_, int_eq ?_⟩; simp only [decide_eq_true_eq, decide_eq_false_iff_not, Int.fdiv_eq_ediv_of_nonneg _ (show (0:Int) ≤ 100 by decide)] at *; omega)
end Mine
end
section
open PySem PySem.W PyProof.Rows
namespace Mine
local macro_rules | `(tactic| k_room) => `(tactic| ktr_room)
/-- a call of the def at f with these arguments binds so -/
def BindsAs (w : World) (f : Addr) (args : List Value) (binds : List (PySem.Str × Value)) : Prop :=
  ∀ (s : Shared) oc od fd osl, (hd.heap_39 w.params).In s.heap → (hd.heap_39 w.params).lookup f = some ⟨oc, od, .func fd, osl⟩ → BindsTo s fd ⟨args, []⟩ binds
local macro_rules | `(tactic| walk_at "my enter") => `(tactic| ((rename BindsAs _ _ _ _ => hbn); refine' code_def ?k1 ?k2 ?k3 ?k4 ?k5 ?kA ?kF ?kK ?k6 ?k7 ?k8 ?k9 ?kB ?_ ?c2 ?c3 ?c4 ?c5; (case kA => exact rfl); (case kF => exact rfl); (case kK => assumption); (case k1 => k_asm); (case k2 => k_asm); (case k3 => k_asm); (case k4 => k_asm); (case k5 => k_asm); (case k6 => k_is); (case k7 => k_is); (case k8 => ktr_room); (case k9 => exact hbn _ _ _ _ _ (by k_in) (by k_is)); (case c5 => decide); (case kB => exact locs rfl); (case c2 => exact rfl); (case c3 => exact rfl); (case c4 => exact rfl); k_whole; intro g' L' h' FG' F' N' B' X' T'; (try dsimp only); (try k_lift B'); (try k_fold)))
/-- float(v) is the double b, whatever the heap -/
def FloatOf (w : World) (v : Value) (b : UInt64) : Prop :=
  ∀ (A : Around) (Q E : Value → Shared → Prop) (s : Shared), A.handled = none → (∀ t k, Q (.float b t) { s with toks := k }) → wpAny (model PySem.Challenge.rw_fv0010_01.row.prog w) A (call (.type "float") [v]) Q E s
/-- int(v) is the int n, whatever the heap -/
def IntOf (w : World) (v : Value) (n : Int) : Prop :=
  ∀ (A : Around) (Q E : Value → Shared → Prop) (s : Shared), A.handled = none → (∀ t k, Q (.int n t) { s with toks := k }) → wpAny (model PySem.Challenge.rw_fv0010_01.row.prog w) A (call (.type "int") [v]) Q E s
theorem star_at {prog : Program} {w : World} {A : Around} {E : Value → Shared → Prop} {s : Shared} {h₀ : Heap} {L a : Addr} {m : PySem.Str → Option Value} {news : List (Addr × Obj)} {o : Obj} {T : String} {its : Array Value} {n : Nat} {ws : List Value} {Q : List Value → Shared → Prop} (F : Fr h₀ L s.heap m) (N : News h₀ L s.heap news) (D : s.heap.get? a = some o) (hc : o.cls = .type T) (hd : o.data = .seq its n) (hT : T = "list" ∨ T = "tuple") (e : its.toList = ws)
    (hz : its.size ≤ sizeLine) (h : ∀ h', Fr h₀ L h' m → News h₀ L h' news → Q ws { s with heap := h' }) : StarOf (model prog w) A E (.ref a) Q s := by
  have hT' : s.TypeIs (.ref a) T := ⟨o, D, hc⟩
  subst e
  have z : wpAny (model prog w) A (collect (.ref a)) Q E s := by
    refine wpAny_collect_seq a hT D hc hd (fun h' hk => h h' ?_ fun p hp => ⟨hk _ _ (N p hp).1, (N p hp).2⟩) hz
    obtain ⟨oL, es, ep, hL, r⟩ := F.ns
    exact ⟨⟨oL, es, ep, hk _ _ hL, r⟩, fun b x q => hk _ _ (F.keep b x q), F.above⟩
  unfold StarOf notIterableAtAll
  rcases hT with rfl | rfl
  · exact wpAny_bind (wpAny_specialOf hT' PySem.F.slot_list_iter.lookup (wpAny_pure ⟨rfl, z⟩))
  · exact wpAny_bind (wpAny_specialOf hT' PySem.F.slot_tuple_iter.lookup (wpAny_pure ⟨rfl, z⟩))
/-- the two letters at a digit -/
def sufAt (k : Int) : PySem.Str := if k = 1 then Str.ofString "st" else if k = 2 then Str.ofString "nd" else if k = 3 then Str.ofString "rd" else Str.ofString "th"
theorem sufAt_len (k : Int) : (sufAt k).length ≤ 2 := by
  unfold sufAt
  repeat' split
  all_goals decide
/-- the word of a number -/
def sufOf (n : Int) : PySem.Str := sufAt (if n % 100 / 10 = 1 then 0 else n % 100 % 10)
def wordOf (n : Int) : PySem.Str := Str.ofString (toString n) ++ sufOf n
/-- r is one of the tables' pairs, its second part x -/
def IsSuf (w : World) (r : Addr) (x : PySem.Str) : Prop := ∃ c tc ts, (hd.heap_39 w.params).lookup r = some ⟨.type "tuple", none, .seq #[.str c tc, .str x ts] 0, #[]⟩
theorem suf_item {w : World} {A : Around} {E : Value → Shared → Prop} {s : Shared} {h₀ : Heap} {L : Addr} {m : PySem.Str → Option Value} {value slice : PySem.Expr} {a : Addr} {k : Int} {u : Tok} {Q : Value → Shared → Prop}
    (F : Fr h₀ L s.heap m) (X : (hd.heap_39 w.params).In h₀) (ha : a = 92 ∨ a = 113) (h0 : 0 ≤ k) (h1 : k < 10) (h : ∀ r x, IsSuf w r x → x.length ≤ 2 → x = sufAt k → Q (.ref r) s)
    (hs : subscripted slice false (.ref a) (.int k u) = operate [.ref a, .int k u] (getItem (.ref a) (.int k u)) := by with_unfolding_all rfl) :
    wpAny (model PySem.Challenge.rw_fv0010_01.row.prog w) A (subscriptTail value slice (.ref a) (.int k u)) Q E s := by
  have hk : k = 0 ∨ k = 1 ∨ k = 2 ∨ k = 3 ∨ k = 4 ∨ k = 5 ∨ k = 6 ∨ k = 7 ∨ k = 8 ∨ k = 9 := by omega
  rcases ha with rfl | rfl <;> rcases hk with rfl | rfl | rfl | rfl | rfl | rfl | rfl | rfl | rfl | rfl <;>
    exact topTup_K F X rfl (by decide) (by decide) rfl rfl (h _ _ ⟨_, _, _, rfl⟩ (by decide) (by decide)) hs
theorem suf_star {w : World} {A : Around} {E : Value → Shared → Prop} {s : Shared} {h₀ : Heap} {L a : Addr} {m : PySem.Str → Option Value} {news : List (Addr × Obj)} {x : PySem.Str} {Q : List Value → Shared → Prop}
    (F : Fr h₀ L s.heap m) (N : News h₀ L s.heap news) (X : (hd.heap_39 w.params).In h₀) (hx : IsSuf w a x) (h : ∀ c tc ts h', Fr h₀ L h' m → News h₀ L h' news → Q [.str c tc, .str x ts] { s with heap := h' }) :
    StarOf (model PySem.Challenge.rw_fv0010_01.row.prog w) A E (.ref a) Q s := by
  obtain ⟨c, tc, ts, hl⟩ := hx
  exact star_at F N ((X.keeps F.keep) _ _ hl) rfl rfl (.inr rfl) rfl (Nat.le_of_ble_eq_true rfl) (h c tc ts)
theorem fmod10 (n : Int) : n.fmod 10 = n % 10 := Int.fmod_eq_emod_of_nonneg _ (by decide)
theorem fmod100 (n : Int) : n.fmod 100 = n % 100 := Int.fmod_eq_emod_of_nonneg _ (by decide)
theorem suf_teen {n : Int} (h : ([11, 12, 13].any fun x => x == n.fmod 100) = true) : Str.ofString "th" = sufOf n := by
  rw [fmod100] at h
  simp only [List.any_cons, List.any_nil, Bool.or_false, Bool.or_eq_true, beq_iff_eq] at h
  unfold sufOf
  rw [if_pos (by omega)]
  rfl
theorem suf_rest {n : Int} {x : PySem.Str} (h : ([11, 12, 13].any fun x => x == n.fmod 100) = false) (hx : x = sufAt (n.fmod 10)) : x = sufOf n := by
  subst hx
  rw [fmod100] at h
  rw [fmod10]
  simp only [List.any_cons, List.any_nil, Bool.or_false, Bool.or_eq_false_iff, beq_eq_false_iff_ne, ne_eq] at h
  unfold sufOf
  by_cases h1 : n % 100 / 10 = 1
  · rw [if_pos h1]
    have : n % 10 = 0 ∨ n % 10 = 4 ∨ n % 10 = 5 ∨ n % 10 = 6 ∨ n % 10 = 7 ∨ n % 10 = 8 ∨ n % 10 = 9 := by omega
    rcases this with e | e | e | e | e | e | e <;> rw [e] <;> decide
  · rw [if_neg h1]
    have : n % 100 % 10 = n % 10 := by omega
    rw [this]
theorem word_eq {n : Int} {x : PySem.Str} {t : Tok} (h : x = sufOf n) : Value.str (Str.empty ++ Str.ofString (toString n) ++ x) t = Value.str (wordOf n) t := by
  rw [h, Str.empty_append]; rfl
local macro_rules | `(tactic| walk_at "call type:float") => `(tactic| ((rename FloatOf _ _ _ => hfl); refine hfl _ _ _ _ rfl ?_; intro t k))
local macro_rules | `(tactic| walk_at "call type:int") => `(tactic| ((rename IntOf _ _ _ => hin); refine hin _ _ _ _ rfl ?_; intro t k))
local macro_rules | `(tactic| walk_at "StarOf ref") => `(tactic| (k_here; k_dflt (refine' suf_star ?k1 ?k2 ?k3 ?k4 ?_; (case k1 => k_asm); (case k2 => k_asm); (case k3 => k_asm); (case k4 => first | assumption | exact ⟨_, _, _, rfl⟩); k_whole); intro c tc ts h' F' N'; (try k_sweep)))
local macro_rules | `(tactic| walk_at "subscriptTail") => `(tactic| (k_here; (with_reducible show wpAny _ _ (subscriptTail _ _ (Value.ref _) (Value.int (Int.fmod _ 10) _)) _ _ _); k_dflt (refine' suf_item ?k1 ?k2 ?k3 ?k4 ?k5 ?_; (case k1 => k_asm); (case k2 => k_asm); (case k3 => first | exact .inl rfl | exact .inr rfl); (case k4 => exact Int.fmod_nonneg_of_pos _ (by decide)); (case k5 => exact Int.fmod_lt_of_pos _ (by decide)); k_whole); intro r x hr hxl hx))
set_option maxRecDepth 100000 in
set_option maxHeartbeats 8000000 in
theorem ord_any (w : World) (mean : ExcName → Option Value) (mg mb : PySem.Str → Option Value) (v : Value) (n : Int) (b : UInt64) (hb : Float64.isFinite b = true) (hf : FloatOf w v b) (hi : IntOf w v n) (hn : n.natAbs < 2 ^ 1000) (g : PySem.Str) (tg : Tok)
    (args : List Value) (hbn : BindsAs w 139 args [(Str.ofString "value", v), (Str.ofString "gender", .str g tg)]) :
    Tell w mean mg mb 139 args (fun v => ∃ t', v = .str (wordOf n) t') := by
  w_top off
  unfold Tell
  k_fill
  intro dp un gd cn cs a ccd cl outer A₀ base h₀ L m news s Q E B F X N T hk hd hu hret
  refine wpAny_call ?_
  k_dflt (walk_at "my enter")
  k_steps
  all_goals (refine tell_ret hret ?_ (by k_asm) (by k_asm) (fun _ h => List.mem_cons_of_mem _ h); refine ⟨_, word_eq ?_⟩; first | exact suf_teen (by assumption) | exact suf_rest (by assumption) (by assumption))
end Mine
end
section
open PySem PySem.W PyProof.Rows
namespace Mine
local macro_rules | `(tactic| k_room) => `(tactic| ktr_room)
local macro_rules | `(tactic| walk_at "call type:float") => `(tactic| ((rename FloatOf _ _ _ => hfl); refine hfl _ _ _ _ rfl ?_; intro t k))
local macro_rules | `(tactic| walk_at "call type:int") => `(tactic| ((rename IntOf _ _ _ => hin); refine hin _ _ _ _ rfl ?_; intro t k))
def apWords : List PySem.Str := [Str.ofString "zero", Str.ofString "one", Str.ofString "two", Str.ofString "three", Str.ofString "four", Str.ofString "five", Str.ofString "six", Str.ofString "seven", Str.ofString "eight", Str.ofString "nine"]
/-- what apnumber hands back at an int -/
def apOf (n : Int) : PySem.Str := if 0 ≤ n ∧ n < 10 then apWords.getD n.toNat Str.empty else Str.ofString (toString n)
theorem ap_in {n : Int} {t : Tok} (h : 0 ≤ n ∧ n < 10) : Value.str (apWords.getD n.toNat Str.empty) t = Value.str (apOf n) t := by
  unfold apOf; rw [if_pos h]
theorem ap_out {n : Int} {t : Tok} (h : ¬ (0 ≤ n ∧ n < 10)) : Value.str (Str.ofString (toString n)) t = Value.str (apOf n) t := by
  unfold apOf; rw [if_neg h]
set_option maxRecDepth 100000 in
set_option maxHeartbeats 8000000 in
theorem ap_any (w : World) (mean : ExcName → Option Value) (mg mb : PySem.Str → Option Value) (v : Value) (n : Int) (b : UInt64) (hb : Float64.isFinite b = true) (hf : FloatOf w v b) (hi : IntOf w v n) (hn : n.natAbs < 2 ^ 1000) :
    Tell w mean mg mb 146 [v] (fun v => ∃ t', v = .str (apOf n) t') := by
  w_top off
  unfold Tell
  k_fill
  intro dp un gd cn cs a ccd cl outer A₀ base h₀ L m news s Q E B F X N T hk hd hu hret
  refine wpAny_call ?_
  k_dflt cell_enter
  k_steps
  all_goals (refine tell_ret hret ?_ (by k_asm) (by k_asm) (fun _ h => h); first
    | (refine ⟨_, ap_in ?_⟩; simp only [decide_eq_true_eq, decide_eq_false_iff_not] at *; omega)
    | (refine ⟨_, ap_out ?_⟩; simp only [decide_eq_true_eq, decide_eq_false_iff_not] at *; omega))
end Mine
end
section
open PySem PySem.W PyProof.Rows
namespace Mine
local macro_rules | `(tactic| k_room) => `(tactic| ktr_room)
theorem quot8 {prog : Program} {w : World} {A : Around} {E : Value → Shared → Prop} {s : Shared} {a : Int} {t u : Tok} {Q : Value → Shared → Prop} (hA : A.handled = none) (hfit : a.natAbs < 2 ^ 1023)
    (h : Q (.float (Float64.ofFrac (decide (a < 0)) a.natAbs 8) s.toks) { s with toks := s.toks + 1 }) : wpAny (model prog w) A (binaryOp .Div (.int a t) (.int 8 u)) Q E s := by
  refine PySem.Flt.div_ii_fits hA hfit (fun h0 => absurd h0 (by decide)) fun _ _ => ?_
  have e : (decide (a < 0) != decide ((8 : Int) < 0)) = decide (a < 0) := by cases decide (a < 0) <;> rfl
  rw [e]
  exact h
local macro_rules | `(tactic| walk_at "binaryOp Div int int") => `(tactic| (refine quot8 rfl ?hfit ?_; (case hfit => assumption)))
set_option maxRecDepth 100000 in
set_option maxHeartbeats 8000000 in
theorem dbl_tells (w : World) (mean : ExcName → Option Value) (mg mb : PySem.Str → Option Value) (a : Int) (t u : Tok) (hfit : a.natAbs < 2 ^ 1023) :
    Tell w mean mg mb 154 [.int a t, .int 8 u] (fun v => ∃ t', v = .float (Float64.ofFrac (decide (a < 0)) a.natAbs 8) t') := by
  w_top off
  unfold Tell
  k_fill
  intro dp un gd cn cs a ccd cl outer A₀ base h₀ L m news s Q E B F X N T hk hd hu hret
  refine wpAny_call ?_
  k_dflt (refine' code_def ?k1 ?k2 ?k3 ?k4 ?k5 ?kA ?kF ?kK ?k6 ?k7 ?k8 ?k9 ?kB ?_ ?c2 ?c3 ?c4 ?c5; (case kA => exact rfl); (case kF => exact rfl); (case kK => assumption); (case k1 => k_asm); (case k2 => k_asm); (case k3 => k_asm); (case k4 => k_asm); (case k5 => k_asm); (case k6 => k_is); (case k7 => k_is); (case k8 => ktr_room); (case k9 => exact binds_K (by k_in) rfl (by k_is) rfl rfl rfl); (case c5 => decide); (case kB => exact locs rfl); (case c2 => exact rfl); (case c3 => exact rfl); (case c4 => exact rfl); k_whole; intro g' L' h' FG' F' N' B' X' T'; (try dsimp only); (try k_lift B'); (try k_fold))
  k_steps
  all_goals (refine tell_ret hret ?_ (by k_asm) (by k_asm) (fun _ h => h); exact ⟨_, rfl⟩)
end Mine
end
section
open PySem PySem.W PyProof.Rows
namespace Mine
open PySem.NumText
/-- the figures of a natural number, as code points -/
def digs (m : Nat) : List Nat := (Nat.toDigits 10 m).map Char.toNat
/-- an int's text, as code points -/
def numCps (n : Int) : List Nat := if n < 0 then 45 :: digs n.natAbs else digs n.natAbs
theorem digs_all (m : Nat) : AllDigits (digs m) := by
  intro c hc
  obtain ⟨ch, hch, e⟩ := List.mem_map.mp hc
  have r := digit_range (Nat.isDigit_of_mem_toDigits (by decide) (by decide) hch)
  rw [← e]; exact r
theorem digs_ne (m : Nat) : digs m ≠ [] := by
  intro e
  have h := toDigits_len_ge 10 m
  rw [List.map_eq_nil_iff.mp e] at h
  exact absurd h (by decide)
theorem digs_val (m : Nat) : digitsVal (digs m) = m := KIN.val_back m
theorem cps_num (n : Int) : (PySem.Str.ofString (toString n)).cps.toList = numCps n := by
  by_cases h : n < 0
  · obtain ⟨k, rfl⟩ : ∃ k : Nat, n = Int.negSucc k := ⟨(-n - 1).toNat, by omega⟩
    rw [signs_ofString]
    show (Int.repr (Int.negSucc k)).toList.map Char.toNat = _
    unfold numCps digs
    rw [if_pos h]
    show (("-" ++ Nat.repr (k + 1)) : String).toList.map Char.toNat = _
    rw [String.toList_append, Nat.toList_repr]
    simp only [List.map_append]
    rfl
  · obtain ⟨k, rfl⟩ := Int.eq_ofNat_of_zero_le (Int.not_lt.mp h)
    rw [KIN.signs_num]
    unfold numCps digs
    rw [if_neg h]
    rfl
theorem numCps_signs (n : Int) : ∀ c ∈ numCps n, c = 45 ∨ (48 ≤ c ∧ c ≤ 57) := by
  intro c hc
  unfold numCps at hc
  split at hc
  · rcases List.mem_cons.mp hc with e | hc
    · exact .inl e
    · exact .inr (digs_all _ c hc)
  · exact .inr (digs_all _ c hc)
theorem dropWhile_pad {p : Nat → Bool} (hp : p 32 = true) (a : Nat) (l : List Nat) : (List.replicate a 32 ++ l).dropWhile p = l.dropWhile p := by
  induction a with
  | zero => simp
  | succ a ih => rw [List.replicate_succ, List.cons_append, List.dropWhile_cons, if_pos hp, ih]
theorem dropWhile_digs {p : Nat → Bool} (hp : ∀ c, 48 ≤ c → c ≤ 57 → p c = false) {l : List Nat} (h : AllDigits l) (hne : l ≠ []) (r : List Nat) : (l ++ r).dropWhile p = l ++ r := by
  cases l with
  | nil => exact absurd rfl hne
  | cons c cs =>
    have := h.head
    rw [List.cons_append, List.dropWhile_cons, hp c this.1 this.2]; rfl
theorem sign_num (n : Int) (r : List Nat) : sign (numCps n ++ r) = (decide (n < 0), digs n.natAbs ++ r) := by
  unfold numCps
  by_cases h : n < 0
  · rw [if_pos h, decide_eq_true h]; rfl
  · rw [if_neg h, decide_eq_false h]
    have hd := digs_all n.natAbs
    have hn := digs_ne n.natAbs
    cases e : digs n.natAbs with
    | nil => exact absurd e hn
    | cons c cs =>
      rw [e] at hd
      have := hd.head
      exact sign_of (by omega) (by omega)
theorem dropWhile_num {p : Nat → Bool} (hp : ∀ c, c = 45 ∨ (48 ≤ c ∧ c ≤ 57) → p c = false) (n : Int) (r : List Nat) : (numCps n ++ r).dropWhile p = numCps n ++ r := by
  have h := numCps_signs n
  have hne : numCps n ≠ [] := by
    unfold numCps
    split
    · exact List.cons_ne_nil _ _
    · exact digs_ne _
  cases e : numCps n with
  | nil => exact absurd e hne
  | cons c cs =>
    rw [e] at h
    rw [List.cons_append, List.dropWhile_cons, hp c (h c (List.mem_cons_self ..))]; rfl
theorem blank_false {c : Nat} (h : c = 45 ∨ (48 ≤ c ∧ c ≤ 57)) : blank c = false := blank_of (by omega)
theorem strip_digs {p : Nat → Bool} (hp : ∀ c, 48 ≤ c → c ≤ 57 → p c = false) (h32 : p 32 = true) (m b : Nat) : ((digs m ++ List.replicate b 32).reverse.dropWhile p).reverse = digs m := by
  rw [List.reverse_append, List.reverse_replicate, dropWhile_pad h32]
  have hr : AllDigits (digs m).reverse := (digs_all m).reverse
  have := dropWhile_digs hp hr (by simpa using digs_ne m) []
  rw [List.append_nil] at this
  rw [this, List.reverse_reverse]
/-- x is an int's text between blanks -/
def Padded (x : PySem.Str) (n : Int) : Prop := ∃ a b : Nat, x.cps.toList = List.replicate a 32 ++ (numCps n ++ List.replicate b 32)
theorem padded_mem {x : PySem.Str} {n : Int} (h : Padded x n) : ∀ c ∈ x.cps.toList, c = 32 ∨ c = 45 ∨ (48 ≤ c ∧ c ≤ 57) := by
  obtain ⟨a, b, e⟩ := h
  intro c hc
  rw [e] at hc
  rcases List.mem_append.mp hc with hc | hc
  · exact .inl (List.eq_of_mem_replicate hc)
  · rcases List.mem_append.mp hc with hc | hc
    · exact .inr (numCps_signs n c hc)
    · exact .inl (List.eq_of_mem_replicate hc)
theorem numText_pad {x : PySem.Str} {n : Int} (h : Padded x n) : numTextOf x = x.cps.toList ∧ numSeenOf x = x.cps.toList := by
  have hm := padded_mem h
  have e1 : numTextOf x = x.cps.toList := by
    refine if_pos ?_
    rw [← Array.all_toList, List.all_eq_true]
    intro c hc
    have := hm c hc
    exact decide_eq_true (by omega)
  refine ⟨e1, ?_⟩
  show (numTextOf x).takeWhile _ = _
  rw [e1]
  refine takeWhile_all fun c hc => ?_
  have := hm c hc
  exact bne_iff_ne.mpr (by omega)
theorem intText_pad {x : PySem.Str} {n : Int} (h : Padded x n) (hl : x.length ≤ 640) : PySem.intText? x = some n := by
  obtain ⟨e1, e2⟩ := numText_pad h
  have hlen : x.cps.toList.length = x.length := Array.length_toList
  obtain ⟨a, b, e⟩ := h
  unfold PySem.intText?
  rw [e1, e2, if_pos (beq_self_eq_true _)]
  rw [e] at hlen ⊢
  have hd : (List.replicate a 32 ++ (numCps n ++ List.replicate b 32)).dropWhile blank = numCps n ++ List.replicate b 32 := by
    rw [dropWhile_pad (by decide), dropWhile_num fun c hc => blank_false hc]
  have hc : core (List.replicate a 32 ++ (numCps n ++ List.replicate b 32)) = digs n.natAbs := by
    unfold core
    rw [hd, sign_num]
    exact strip_digs (fun c h1 h2 => blank_false (.inr ⟨h1, h2⟩)) (by decide) _ _
  rw [hc, hd, sign_num, digits_of (digs_all _) (digs_ne _)]
  have hsz := push_size (digs n.natAbs) #[]
  have hv := push_foldl (digs n.natAbs) #[]
  have hle : (digs n.natAbs).length ≤ 640 := by
    have : (digs n.natAbs).length ≤ (numCps n).length := by
      unfold numCps; split <;> simp
    simp only [List.length_append, List.length_replicate] at hlen
    omega
  show (if _ ≤ 4300 then some (worth (decide (n < 0)) _) else none) = _
  rw [if_pos (by rw [hsz]; simp only [Array.size_empty]; omega)]
  have hval := digs_val n.natAbs
  unfold digitsVal at hval
  unfold worth
  rw [hv]
  simp only [Array.foldl_empty]
  rw [hval]
  by_cases hn : n < 0
  · simp only [hn, decide_true, if_true]; congr 1; omega
  · simp only [hn, decide_false]; simp only [Bool.false_eq_true, if_false]; congr 1; omega
end Mine
end
section
open PySem PySem.W PyProof.Rows
namespace Mine
def numChars (n : Int) : List Char := if n < 0 then '-' :: Nat.toDigits 10 n.natAbs else Nat.toDigits 10 n.natAbs
theorem char_back (c : Char) : Char.ofNat c.toNat = c := Char.ofNat_toNat c
theorem digs_chars (m : Nat) : (digs m).map Char.ofNat = Nat.toDigits 10 m := by
  unfold digs
  rw [List.map_map]
  exact (List.map_congr_left (g := id) fun c _ => char_back c).trans (List.map_id _)
theorem num_chars (n : Int) : (numCps n).map Char.ofNat = numChars n := by
  unfold numCps numChars
  split
  · rw [List.map_cons, digs_chars]
  · exact digs_chars _
theorem isDigit_ten {c : Char} (h : c.isDigit = true) : c = '0' ∨ c = '1' ∨ c = '2' ∨ c = '3' ∨ c = '4' ∨ c = '5' ∨ c = '6' ∨ c = '7' ∨ c = '8' ∨ c = '9' := by
  have r := digit_range h
  have e := char_back c
  have : c.toNat = 48 ∨ c.toNat = 49 ∨ c.toNat = 50 ∨ c.toNat = 51 ∨ c.toNat = 52 ∨ c.toNat = 53 ∨ c.toNat = 54 ∨ c.toNat = 55 ∨ c.toNat = 56 ∨ c.toNat = 57 := by omega
  rw [← e]
  rcases this with h | h | h | h | h | h | h | h | h | h <;> rw [h] <;> decide
theorem toDigits_isDigit (m : Nat) : ∀ c ∈ Nat.toDigits 10 m, c.isDigit = true := fun _ h => Nat.isDigit_of_mem_toDigits (by decide) (by decide) h
theorem moreDigits_all : ∀ l : List Char, (∀ c ∈ l, c.isDigit = true) → Float64.moreDigits l = (l, [])
  | [], _ => rfl
  | c :: r, h => by
    have hc := h c (List.mem_cons_self ..)
    have ih := moreDigits_all r fun d hd => h d (List.mem_cons_of_mem _ hd)
    have : c ≠ '_' := by rintro rfl; exact absurd hc (by decide)
    unfold Float64.moreDigits
    split
    · rename_i e; exact absurd (List.cons.inj e).1 this
    · rename_i e
      obtain ⟨rfl, rfl⟩ := List.cons.inj e
      rw [if_pos hc, ih]
    · rename_i e; cases e
theorem digitRun_all {l : List Char} (h : ∀ c ∈ l, c.isDigit = true) : Float64.digitRun l = (l, []) := by
  cases l with
  | nil => rfl
  | cons c r =>
    unfold Float64.digitRun
    dsimp only
    rw [if_pos (h c (List.mem_cons_self ..)), moreDigits_all r fun d hd => h d (List.mem_cons_of_mem _ hd)]
theorem natOf_digits (m : Nat) : Float64.natOf 10 (Nat.toDigits 10 m) = m := by
  have hv := digs_val m
  unfold NumText.digitsVal digs at hv
  rw [List.foldl_map] at hv
  unfold Float64.natOf
  refine Eq.trans ?_ hv
  have hd := toDigits_isDigit m
  generalize Nat.toDigits 10 m = l at hd
  suffices H : ∀ a, l.foldl (fun n c => n * 10 + Float64.digitValue c) a = l.foldl (fun x y => x * 10 + (y.toNat - 48)) a from H 0
  induction l with
  | nil => intro a; rfl
  | cons c r ih =>
    intro a
    rw [List.foldl_cons, List.foldl_cons, ih (fun d hd' => hd d (List.mem_cons_of_mem _ hd'))]
    have : Float64.digitValue c = c.toNat - 48 := by
      unfold Float64.digitValue; rw [if_pos (hd c (List.mem_cons_self ..))]
    rw [this]
theorem dropPrefix_none {p : String} {c : Char} {r : List Char} (h : ∀ q qs, p.toList = q :: qs → c.toLower ≠ q) (hp : p.length ≠ 0) (hp' : p.toList ≠ []) : Float64.dropPrefix? p (c :: r) = none := by
  unfold Float64.dropPrefix?
  cases hq : p.toList with
  | nil => exact absurd hq hp'
  | cons q qs =>
    obtain ⟨k, hk⟩ : ∃ k, p.length = k + 1 := ⟨p.length - 1, by omega⟩
    rw [hk, List.take_succ_cons, List.map_cons]
    have : c.toLower ≠ q := h q qs hq
    simp [this]
theorem special_none (n : Int) : Float64.readSpecial? (numChars n) = none := by
  unfold Float64.readSpecial?
  have key : ∀ neg : Bool, (match Float64.dropPrefix? "inf" (Nat.toDigits 10 n.natAbs) with
      | some r => some (Float64.inf neg, (Float64.dropPrefix? "inity" r).getD r)
      | none => (Float64.dropPrefix? "nan" (Nat.toDigits 10 n.natAbs)).map fun r => (Float64.nan, r)) = none := by
    intro neg
    have hd := toDigits_isDigit n.natAbs
    have hl := toDigits_len_ge 10 n.natAbs
    cases e : Nat.toDigits 10 n.natAbs with
    | nil => rw [e] at hl; exact absurd hl (by decide)
    | cons c r =>
      rw [e] at hd
      have h10 := isDigit_ten (hd c (List.mem_cons_self ..))
      rw [dropPrefix_none (p := "inf") (c := c) (r := r) (fun q qs hq => by
          have : q = 'i' := by have : ("inf" : String).toList = ['i', 'n', 'f'] := by decide
                               rw [this] at hq; exact (List.cons.inj hq).1.symm
          subst this
          rcases h10 with rfl | rfl | rfl | rfl | rfl | rfl | rfl | rfl | rfl | rfl <;> decide) (by decide) (by decide)]
      rw [dropPrefix_none (p := "nan") (c := c) (r := r) (fun q qs hq => by
          have : q = 'n' := by have : ("nan" : String).toList = ['n', 'a', 'n'] := by decide
                               rw [this] at hq; exact (List.cons.inj hq).1.symm
          subst this
          rcases h10 with rfl | rfl | rfl | rfl | rfl | rfl | rfl | rfl | rfl | rfl <;> decide) (by decide) (by decide)]
      rfl
  have hs : ∃ neg, Float64.readSign (numChars n) = (neg, Nat.toDigits 10 n.natAbs) := by
    unfold numChars
    split
    · exact ⟨true, rfl⟩
    · have hd := toDigits_isDigit n.natAbs
      have hl := toDigits_len_ge 10 n.natAbs
      cases e : Nat.toDigits 10 n.natAbs with
      | nil => rw [e] at hl; exact absurd hl (by decide)
      | cons c r =>
        rw [e] at hd
        have h10 := isDigit_ten (hd c (List.mem_cons_self ..))
        rcases h10 with rfl | rfl | rfl | rfl | rfl | rfl | rfl | rfl | rfl | rfl <;> exact ⟨false, rfl⟩
  obtain ⟨neg, hs⟩ := hs
  rw [hs]
  exact key neg
theorem sign_chars (n : Int) : ∃ neg, Float64.readSign (numChars n) = (neg, Nat.toDigits 10 n.natAbs) := by
  unfold numChars
  split
  · exact ⟨true, rfl⟩
  · have hd := toDigits_isDigit n.natAbs
    have hl := toDigits_len_ge 10 n.natAbs
    cases e : Nat.toDigits 10 n.natAbs with
    | nil => rw [e] at hl; exact absurd hl (by decide)
    | cons c r =>
      rw [e] at hd
      have h10 := isDigit_ten (hd c (List.mem_cons_self ..))
      rcases h10 with rfl | rfl | rfl | rfl | rfl | rfl | rfl | rfl | rfl | rfl <;> exact ⟨false, rfl⟩
theorem space_digit {c : Char} (h : c.isDigit = true) : Float64.isSpace c = false := by
  rcases isDigit_ten h with rfl | rfl | rfl | rfl | rfl | rfl | rfl | rfl | rfl | rfl <;> decide
theorem dropWhile_padC (a : Nat) (l : List Char) : (List.replicate a ' ' ++ l).dropWhile Float64.isSpace = l.dropWhile Float64.isSpace := by
  induction a with
  | zero => simp
  | succ a ih => rw [List.replicate_succ, List.cons_append, List.dropWhile_cons, if_pos (by decide), ih]
theorem dropWhile_numC (n : Int) (r : List Char) : (numChars n ++ r).dropWhile Float64.isSpace = numChars n ++ r := by
  unfold numChars
  split
  · rw [List.cons_append, List.dropWhile_cons, if_neg (by decide)]
  · have hd := toDigits_isDigit n.natAbs
    have hl := toDigits_len_ge 10 n.natAbs
    cases e : Nat.toDigits 10 n.natAbs with
    | nil => rw [e] at hl; exact absurd hl (by decide)
    | cons c r =>
      rw [e] at hd
      rw [List.cons_append, List.dropWhile_cons, space_digit (hd c (List.mem_cons_self ..))]; rfl
theorem numChars_last (n : Int) : ∃ c r, (numChars n).reverse = c :: r ∧ Float64.isSpace c = false := by
  have hd := toDigits_isDigit n.natAbs
  have hl := toDigits_len_ge 10 n.natAbs
  have : ∃ c r, (Nat.toDigits 10 n.natAbs).reverse = c :: r ∧ Float64.isSpace c = false := by
    cases e : (Nat.toDigits 10 n.natAbs).reverse with
    | nil => rw [List.reverse_eq_nil_iff] at e; rw [e] at hl; exact absurd hl (by decide)
    | cons c r => exact ⟨c, r, rfl, space_digit (hd c (List.mem_reverse.mp (by rw [e]; exact List.mem_cons_self ..)))⟩
  obtain ⟨c, r, e, h⟩ := this
  unfold numChars
  split
  · rw [List.reverse_cons, e]; exact ⟨c, r ++ ['-'], rfl, h⟩
  · exact ⟨c, r, e, h⟩
theorem strip_chars (n : Int) (a b : Nat) : ((((List.replicate a ' ' ++ (numChars n ++ List.replicate b ' ')).dropWhile Float64.isSpace).reverse.dropWhile Float64.isSpace).reverse) = numChars n := by
  rw [dropWhile_padC, dropWhile_numC, List.reverse_append, List.reverse_replicate, dropWhile_padC]
  obtain ⟨c, r, e, h⟩ := numChars_last n
  rw [e, List.dropWhile_cons, h]
  simp only [Bool.false_eq_true, if_false]
  rw [← e, List.reverse_reverse]
theorem parse_num (n : Int) (a b : Nat) : ∃ neg, Float64.parse? (List.replicate a ' ' ++ (numChars n ++ List.replicate b ' ')) = some (Float64.ofDecimal neg n.natAbs 0) := by
  obtain ⟨neg, hs⟩ := sign_chars n
  refine ⟨neg, ?_⟩
  have hl := toDigits_len_ge 10 n.natAbs
  have hne : (Nat.toDigits 10 n.natAbs).isEmpty = false := by
    cases e : Nat.toDigits 10 n.natAbs with
    | nil => rw [e] at hl; exact absurd hl (by decide)
    | cons c r => rfl
  unfold Float64.parse?
  simp only [strip_chars, special_none, hs, digitRun_all (toDigits_isDigit n.natAbs), hne, Bool.false_and, Bool.false_eq_true, if_false, List.append_nil, natOf_digits, List.length_nil]
  rfl
theorem repr_len {m : Nat} (h : m < 10 ^ 60) : (Nat.repr m).length ≤ 61 := by
  have h1 := int_text_length_le10 (a := (m : Int)) (k := 60) (by decide) (by simpa using h)
  exact h1
theorem decimal_finite (neg : Bool) {m : Nat} (h : m < 10 ^ 60) : Float64.isFinite (Float64.ofDecimal neg m 0) = true := by
  unfold Float64.ofDecimal
  by_cases h0 : m = 0
  · subst h0; cases neg <;> decide +kernel
  · have e0 : (m == 0) = false := by simp [h0]
    have hl := repr_len h
    simp only [e0, Bool.false_eq_true, if_false]
    rw [if_neg (by omega), if_neg (by omega)]
    have hov : ∀ i : Int, i.natAbs = m → Float64.isFinite (Float64.ofInt i) = true := by
      intro i hi
      refine PySem.Flt.finite_ofInt ?_
      show ¬ (2 ^ 1024 - 2 ^ 970 ≤ i.natAbs)
      rw [hi]
      have : (10 : Nat) ^ 60 < 2 ^ 1024 - 2 ^ 970 := by decide +kernel
      omega
    have hsh : Float64.shift10 m 1 0 = (m, 1) := by
      unfold Float64.shift10
      simp
    rw [hsh]
    cases neg with
    | false =>
      have := hov (m : Int) (by simp)
      unfold Float64.ofInt at this
      have hlt : decide ((m : Int) < 0) = false := decide_eq_false (by omega)
      rw [hlt] at this
      simpa using this
    | true =>
      have := hov (-(m : Int)) (by simp)
      unfold Float64.ofInt at this
      have hlt : decide (-(m : Int) < 0) = true := decide_eq_true (by omega)
      rw [hlt] at this
      simpa using this
theorem parse_pad {x : PySem.Str} {n : Int} (h : Padded x n) (hn : n.natAbs < 10 ^ 60) : ∃ b, Num.parseText? x = some b ∧ Float64.isFinite b = true := by
  have e1 := (numText_pad h).1
  obtain ⟨a, b, e⟩ := h
  obtain ⟨neg, hp⟩ := parse_num n a b
  refine ⟨_, ?_, decimal_finite neg hn⟩
  unfold Num.parseText?
  have e1' : (if x.cps.all (· < 128) then x.cps.toList else Unicode.numberText x.cps.toList) = x.cps.toList := e1
  rw [e1', e, List.map_append, List.map_append, num_chars, List.map_replicate, List.map_replicate]
  exact hp
end Mine
end
section
open PySem PySem.W PyProof.Rows
namespace Mine
theorem mag_fits {L M : Nat} (hL : L ≤ 52) (hb : M < 2 ^ 53) : (L + 1019) * 2 ^ 52 + M ≤ 2047 * 2 ^ 52 := by
  have : (L + 1019) * 2 ^ 52 ≤ 1071 * 2 ^ 52 := Nat.mul_le_mul_right _ (by omega)
  exact Nat.le_trans (Nat.add_le_add this (Nat.le_of_lt hb)) (by decide)
theorem eighth_mag {N : Nat} (h0 : 0 < N) (h1 : N < 2 ^ 53) : Float64.roundMag N 8 = (N.log2 + 1019) * 2 ^ 52 + N * 2 ^ (52 - N.log2) := by
  have hne : N ≠ 0 := by omega
  have hL : N.log2 ≤ 52 := by
    have := (Nat.log2_lt hne).mpr h1
    omega
  have hlo : 2 ^ N.log2 ≤ N := Nat.log2_self_le hne
  have hhi : N < 2 ^ (N.log2 + 1) := Nat.lt_log2_self
  have h8 : (8 : Nat).log2 = 3 := by decide
  generalize hLe : N.log2 = L at *
  unfold Float64.roundMag
  have e0 : (N == 0) = false := by simp [hne]
  simp only [e0, Bool.false_eq_true, if_false, hLe, h8, Int.cast_ofNat_Int]
  -- the first place
  have hge : (Float64.shift N 8 (-((L : Int) - 3))).1 ≥ (Float64.shift N 8 (-((L : Int) - 3))).2 := by
    unfold Float64.shift
    by_cases hk : L ≤ 3
    · rw [if_pos (by omega)]
      show N * 2 ^ (-((L : Int) - 3)).toNat ≥ 8
      have : (-((L : Int) - 3)).toNat = 3 - L := by omega
      rw [this]
      have : 2 ^ L * 2 ^ (3 - L) = 8 := by
        rw [← Nat.pow_add, show L + (3 - L) = 3 by omega]
      calc 8 = 2 ^ L * 2 ^ (3 - L) := this.symm
        _ ≤ N * 2 ^ (3 - L) := Nat.mul_le_mul_right _ hlo
    · rw [if_neg (by omega)]
      show N ≥ 8 * 2 ^ (-(-((L : Int) - 3))).toNat
      have : (-(-((L : Int) - 3))).toNat = L - 3 := by omega
      rw [this]
      have : 8 * 2 ^ (L - 3) = 2 ^ L := by
        rw [show (8 : Nat) = 2 ^ 3 from rfl, ← Nat.pow_add]; congr 1; omega
      omega
  rw [if_pos hge]
  have hmax : max ((L : Int) - 3 - 52) (-1074) = (L : Int) - 55 := by omega
  have hmax' : max ((L : Int) - ↑3 - 52) (-1074) = (L : Int) - 55 := hmax
  rw [hmax']
  have hsh : Float64.shift N 8 (-((L : Int) - 55)) = (N * 2 ^ (55 - L), 8) := by
    unfold Float64.shift
    rw [if_pos (by omega)]
    have : (-((L : Int) - 55)).toNat = 55 - L := by omega
    rw [this]
  rw [hsh]
  have hq : N * 2 ^ (55 - L) = 8 * (N * 2 ^ (52 - L)) := by
    have : 2 ^ (55 - L) = 8 * 2 ^ (52 - L) := by
      rw [show (8 : Nat) = 2 ^ 3 from rfl, ← Nat.pow_add]; congr 1; omega
    rw [this]; ac_rfl
  have hhe : Float64.halfEven (N * 2 ^ (55 - L)) 8 = N * 2 ^ (52 - L) := by
    unfold Float64.halfEven
    rw [hq, Nat.mul_div_cancel_left _ (by decide), Nat.mul_mod_right]
    simp
  show min Float64.infMag ((((L : Int) - 55 + 1074).toNat) * 2 ^ 52 + Float64.halfEven (N * 2 ^ (55 - L)) 8) = _
  rw [hhe]
  have ht : ((L : Int) - 55 + 1074).toNat = L + 1019 := by omega
  rw [ht]
  have hb : N * 2 ^ (52 - L) < 2 ^ 53 := by
    calc N * 2 ^ (52 - L) < 2 ^ (L + 1) * 2 ^ (52 - L) := Nat.mul_lt_mul_of_pos_right hhi (Nat.two_pow_pos _)
      _ = 2 ^ 53 := by rw [← Nat.pow_add]; congr 1; omega
  unfold Float64.infMag
  rw [Nat.min_eq_right]
  exact mag_fits hL hb
theorem eighth_decode (neg : Bool) {N : Nat} (h0 : 0 < N) (h1 : N < 2 ^ 53) : Float64.decode (Float64.ofFrac neg N 8) = .fin neg (N * 2 ^ (52 - N.log2)) ((N.log2 : Int) - 55) := by
  have hne : N ≠ 0 := by omega
  have hL : N.log2 ≤ 52 := by
    have := (Nat.log2_lt hne).mpr h1
    omega
  have hlo : 2 ^ N.log2 ≤ N := Nat.log2_self_le hne
  have hhi : N < 2 ^ (N.log2 + 1) := Nat.lt_log2_self
  unfold Float64.ofFrac
  rw [eighth_mag h0 h1]
  generalize hLe : N.log2 = L at *
  have hb : N * 2 ^ (52 - L) < 2 ^ 53 := by
    calc N * 2 ^ (52 - L) < 2 ^ (L + 1) * 2 ^ (52 - L) := Nat.mul_lt_mul_of_pos_right hhi (Nat.two_pow_pos _)
      _ = 2 ^ 53 := by rw [← Nat.pow_add]; congr 1; omega
  have ha : 2 ^ 52 ≤ N * 2 ^ (52 - L) := by
    calc 2 ^ 52 = 2 ^ L * 2 ^ (52 - L) := by rw [← Nat.pow_add]; congr 1; omega
      _ ≤ N * 2 ^ (52 - L) := Nat.mul_le_mul_right _ hlo
  generalize N * 2 ^ (52 - L) = M at *
  unfold Float64.pack Float64.decode
  have hx : (((if neg then 2 ^ 63 else 0) + ((L + 1019) * 2 ^ 52 + M)).toUInt64).toNat = (if neg then 2 ^ 63 else 0) + ((L + 1019) * 2 ^ 52 + M) := by
    show (UInt64.ofNat _).toNat = _
    rw [UInt64.toNat_ofNat']
    refine Nat.mod_eq_of_lt ?_
    cases neg <;> simp <;> omega
  simp only [hx]
  have e1 : (((if neg then 2 ^ 63 else 0) + ((L + 1019) * 2 ^ 52 + M)) / 2 ^ 63 == 1) = neg := by
    cases neg
    · simp only [Bool.false_eq_true, if_false, Nat.zero_add]
      have : ((L + 1019) * 2 ^ 52 + M) / 2 ^ 63 = 0 := by omega
      rw [this]; rfl
    · simp only [if_true]
      have : (2 ^ 63 + ((L + 1019) * 2 ^ 52 + M)) / 2 ^ 63 = 1 := by omega
      rw [this]; rfl
  have e2 : ((if neg then 2 ^ 63 else 0) + ((L + 1019) * 2 ^ 52 + M)) / 2 ^ 52 % 2048 = L + 1020 := by
    cases neg <;> simp <;> omega
  have e3 : ((if neg then 2 ^ 63 else 0) + ((L + 1019) * 2 ^ 52 + M)) % 2 ^ 52 = M - 2 ^ 52 := by
    cases neg <;> simp <;> omega
  rw [e1, e2, e3]
  have f1 : (L + 1020 == 2047) = false := by simp; omega
  have f2 : (L + 1020 == 0) = false := by simp
  rw [f1, f2]
  simp only [Bool.false_eq_true, if_false]
  have g1 : 2 ^ 52 + (M - 2 ^ 52) = M := by omega
  have g2 : ((L + 1020 : Nat) : Int) - 1075 = (L : Int) - 55 := by omega
  rw [g1, g2]
theorem eighth_floor {N L : Nat} (hL : L ≤ 52) : ((N * 2 ^ (52 - L) : Nat) : Int).fdiv ((2 ^ (55 - L) : Nat) : Int) = ((N / 8 : Nat) : Int) := by
  rw [Int.fdiv_eq_ediv_of_nonneg _ (Int.natCast_nonneg _), ← Int.natCast_ediv]
  congr 1
  have : 2 ^ (55 - L) = 2 ^ (52 - L) * 8 := by
    rw [show (8 : Nat) = 2 ^ 3 from rfl, ← Nat.pow_add]; congr 1; omega
  rw [this, ← Nat.div_div_eq_div_mul, Nat.mul_div_cancel _ (Nat.two_pow_pos _)]
theorem eighth_trunc (neg : Bool) {N : Nat} (h0 : 0 < N) (h1 : N < 2 ^ 53) :
    Float64.truncOf neg (N * 2 ^ (52 - N.log2)) ((N.log2 : Int) - 55) = Float64.sgn neg (N / 8) := by
  have hL : N.log2 ≤ 52 := by
    have := (Nat.log2_lt (by omega)).mpr h1
    omega
  have ht : (-((N.log2 : Int) - 55)).toNat = 55 - N.log2 := by omega
  have hf := eighth_floor (N := N) hL
  unfold Float64.truncOf
  cases neg
  · simp only [Bool.false_eq_true, if_false]
    unfold Float64.floorOf
    rw [if_neg (by omega), ht]
    simpa [Float64.sgn] using hf
  · simp only [if_true]
    unfold Float64.ceilOf Float64.floorOf
    rw [if_neg (by omega), ht]
    simp only [Bool.not_true, Float64.sgn, Bool.false_eq_true, if_false, if_true]
    rw [show ((2 : Int) ^ (55 - N.log2)) = ((2 ^ (55 - N.log2) : Nat) : Int) by simp, hf]
end Mine
end
section
open PySem PySem.W PyProof.Rows
namespace Mine
theorem finite_int {n : Int} (hn : n.natAbs < 2 ^ 1000) : Float64.isFinite (Float64.ofInt n) = true := by
  refine PySem.Flt.finite_ofInt ?_
  show ¬ (2 ^ 1024 - 2 ^ 970 ≤ n.natAbs)
  have : (2 : Nat) ^ 1000 < 2 ^ 1024 - 2 ^ 970 := by decide +kernel
  omega
theorem floatOf_int (w : World) {n : Int} (t : Tok) (hn : n.natAbs < 2 ^ 1000) : FloatOf w (.int n t) (Float64.ofInt n) := by
  intro A Q E s hA h
  exact call_float_int_fits (Nat.lt_trans hn (by decide +kernel)) (h _ _)
theorem intOf_int (w : World) (n : Int) (t : Tok) : IntOf w (.int n t) n := by
  intro A Q E s hA h
  exact call_int_int (h _ _)
theorem floatOf_float (w : World) (b : UInt64) (t : Tok) : FloatOf w (.float b t) b := by
  intro A Q E s hA h
  exact call_float_float (h _ _)
theorem intOf_eighth (w : World) (neg : Bool) {N : Nat} (t : Tok) (h0 : 0 < N) (h1 : N < 2 ^ 53) : IntOf w (.float (Float64.ofFrac neg N 8) t) (Float64.sgn neg (N / 8)) := by
  intro A Q E s hA h
  refine call_int_float (eighth_decode neg h0 h1) ?_
  rw [eighth_trunc neg h0 h1]
  exact h _ _
theorem finite_eighth (neg : Bool) {N : Nat} (h0 : 0 < N) (h1 : N < 2 ^ 53) : Float64.isFinite (Float64.ofFrac neg N 8) = true := by
  unfold Float64.isFinite
  rw [eighth_decode neg h0 h1]
theorem floatOf_text (w : World) {x : PySem.Str} {n : Int} (t : Tok) (hp : Padded x n) (hn : n.natAbs < 10 ^ 60) : ∃ b, Float64.isFinite b = true ∧ FloatOf w (.str x t) b := by
  obtain ⟨b, hb, hf⟩ := parse_pad hp hn
  refine ⟨b, hf, ?_⟩
  intro A Q E s hA h
  exact call_float_1 (PySem.Flt.meets_float_new_str x t hb) (show (Made.float b).post _ s from ⟨rfl, h _ _⟩)
theorem intOf_text (w : World) {x : PySem.Str} {n : Int} (t : Tok) (hp : Padded x n) (hl : x.length ≤ 640) : IntOf w (.str x t) n := by
  intro A Q E s hA h
  exact KIN.call_text (intText_pad hp hl) hl (h _ _)
theorem padded_bare (n : Int) : Padded (PySem.Str.ofString (toString n)) n := ⟨0, 0, by rw [cps_num]; simp⟩
theorem padded_spaced {x : PySem.Str} {n : Int} (h : x = PySem.Str.ofString " " ++ PySem.Str.ofString (toString n) ++ PySem.Str.ofString " ") : Padded x n := by
  refine ⟨1, 1, ?_⟩
  rw [h, Str.cps_append, Str.cps_append, Array.toList_append, Array.toList_append, cps_num]
  show [32] ++ numCps n ++ [32] = _
  simp
theorem num_len {n : Int} (hn : n.natAbs < 10 ^ 60) : (PySem.Str.ofString (toString n)).length ≤ 61 := by
  rw [PySem.ofString_length]
  exact int_text_length_le10 (by decide) hn
theorem binds1 (w : World) (v : Value) : BindsAs w 139 [v] [(Str.ofString "value", v), (Str.ofString "gender", .str (Str.ofString "male") 531)] := by
  intro s oc od fd osl X h
  have e := (rfl : (hd.heap_39 w.params).lookup 139 = some _)
  rw [e] at h
  cases h
  exact binds_K X rfl rfl rfl rfl rfl
theorem binds2 (w : World) (v g : Value) : BindsAs w 139 [v, g] [(Str.ofString "value", v), (Str.ofString "gender", g)] := by
  intro s oc od fd osl X h
  have e := (rfl : (hd.heap_39 w.params).lookup 139 = some _)
  rw [e] at h
  cases h
  exact binds_K X rfl rfl rfl rfl rfl
end Mine
end
section
open PySem PySem.W PyProof.Rows
namespace Mine
local macro_rules | `(tactic| k_room) => `(tactic| ktr_room)
local macro_rules | `(tactic| k_all) => `(tactic| assumption)
/-- the law's own list: the script's slice, the place, the seed -/
abbrev stObj (l : Addr) (i : Int) (ti : Tok) (c : Int) (tc : Tok) : Obj := W.listOf #[.ref l, .int i ti, .int c tc] 0
set_option maxRecDepth 100000 in
set_option maxHeartbeats 8000000 in
theorem next_walk (w : World) (mean : ExcName → Option Value) (mg mb : PySem.Str → Option Value) (many : Int) (tm : Tok) (hmany : 0 < many)
    (dp un : Nat) (gd : Option (List Code)) (cn : PySem.Str) (cs : Scope) (a : Addr) (ccd : Value) (cl : List (PySem.Str × Addr)) (outer : List Env) (A₀ : Around) (base h₀ : Heap) (L : Addr) (m : PySem.Str → Option Value) (rest : List (Addr × Obj)) (s : Shared)
    (Q E : Value → Shared → Prop) (st l : Addr) (i : Int) (ti : Tok) (c : Int) (tc : Tok) (vs : List Value) (ns : List Int)
    (B : Below A₀ base outer h₀) (F : Fr h₀ L s.heap m) (X : (hd.heap_39 w.params).In h₀) (N : News h₀ L s.heap ((st, stObj l i ti c tc) :: (l, W.listOf vs.toArray 0) :: rest))
    (T : Top hd.view_39 (looseW hd.view_39 [Str.ofString "_ORDINAL_SUFFIXES", Str.ofString "_APNUMBER_WORDS", Str.ofString "ordinal", Str.ofString "Double"]) mean mg mb h₀)
    (hk : cs.kind = .function) (hd : dp + 9 < recursionLimit) (hu : un + 90 < cLine) (hls : l ≠ st) (hrest : ∀ p ∈ rest, p.1 ≠ st) (hI : IntsAre vs ns) (hlen : ns.length ≤ 60) (h0 : 0 ≤ i) (h1 : i ≤ ns.length) (hc0 : 0 ≤ c) (hc1 : c < 2147483647)
    (hret : ∀ r t i' ti' c' tc' h' tk', 0 ≤ r → r < many → 0 ≤ i' → i' ≤ (ns.length : Int) → 0 ≤ c' → c' < 2147483647 → Fr h₀ L h' m → News h₀ L h' ((st, stObj l i' ti' c' tc') :: (l, W.listOf vs.toArray 0) :: rest) → Q (.int r t) { s with heap := h', toks := tk' }) :
    wpAny (model PySem.Challenge.rw_fv0010_01.row.prog w) (ktrTop dp un gd cn cs L a ccd cl outer) (call (.ref 166) [.ref st, .int many tm]) Q E s := by
  w_top off
  have hne : st ≠ l := Ne.symm hls
  revert X; k_fill; intro X
  refine wpAny_call ?_
  k_dflt cell_enter
  k_steps
  all_goals (refine hret _ _ _ _ _ _ _ _ (Int.fmod_nonneg_of_pos _ hmany) (Int.fmod_lt_of_pos _ hmany) ?_ ?_ (Int.fmod_nonneg_of_pos _ (by decide)) (Int.fmod_lt_of_pos _ (by decide)) (by k_asm) (by k_asm) <;> first | exact h0 | exact h1 | omega)
/-- what a draw does, from any frame that holds the law's own list -/
theorem next_tells {w : World} {mean : ExcName → Option Value} {mg mb : PySem.Str → Option Value} {many : Int} {tm : Tok}
    {dp un : Nat} {gd : Option (List Code)} {cn : PySem.Str} {cs : Scope} {a : Addr} {ccd : Value} {cl : List (PySem.Str × Addr)} {outer : List Env} {A₀ : Around} {base h₀ : Heap} {L : Addr} {m : PySem.Str → Option Value} {news : List (Addr × Obj)} {s : Shared}
    {Q E : Value → Shared → Prop} {st l : Addr} {i : Int} {ti : Tok} {c : Int} {tc : Tok} {vs : List Value} {ns : List Int} {g : Obj → List (Addr × Obj)}
    (B : Below A₀ base outer h₀) (F : Fr h₀ L s.heap m) (X : (hd.heap_39 w.params).In h₀) (N : News h₀ L s.heap news)
    (T : Top hd.view_39 (looseW hd.view_39 [Str.ofString "_ORDINAL_SUFFIXES", Str.ofString "_APNUMBER_WORDS", Str.ofString "ordinal", Str.ofString "Double"]) mean mg mb h₀)
    (hk : cs.kind = .function) (hU : UpdF st (stObj l i ti c tc) news g) (hl : (l, W.listOf vs.toArray 0) ∈ news) (hls : l ≠ st) (hI : IntsAre vs ns) (hlen : ns.length ≤ 60) (h0 : 0 ≤ i) (h1 : i ≤ ns.length) (hc0 : 0 ≤ c) (hc1 : c < 2147483647) (hmany : 0 < many)
    (hd : dp + 9 < recursionLimit) (hu : un + 90 < cLine)
    (hret : ∀ r t i' ti' c' tc' h' tk', 0 ≤ r → r < many → 0 ≤ i' → i' ≤ (ns.length : Int) → 0 ≤ c' → c' < 2147483647 → Fr h₀ L h' m → News h₀ L h' (g (stObj l i' ti' c' tc')) → Q (.int r t) { s with heap := h', toks := tk' }) :
    wpAny (model PySem.Challenge.rw_fv0010_01.row.prog w) (ktrTop dp un gd cn cs L a ccd cl outer) (call (.ref 166) [.ref st, .int many tm]) Q E s := by
  obtain ⟨pre, post, e1, e2, hp1, hp2⟩ := hU.split
  have hmem : ∀ p ∈ pre ++ post, p ∈ news := by
    intro p hp
    rw [e1]
    rcases List.mem_append.mp hp with q | q
    · exact List.mem_append_left _ q
    · exact List.mem_append_right _ (.tail _ q)
  have hst : (st, stObj l i ti c tc) ∈ news := by rw [e1]; exact List.mem_append_right _ (.head _)
  refine next_walk w mean mg mb many tm hmany dp un gd cn cs a ccd cl outer A₀ base h₀ L m (pre ++ post) s Q E st l i ti c tc vs ns B F X ?_ T hk hd hu hls ?_ hI hlen h0 h1 hc0 hc1 ?_
  · intro p hp
    rcases List.mem_cons.mp hp with rfl | hp
    · exact N _ hst
    · rcases List.mem_cons.mp hp with rfl | hp
      · exact N _ hl
      · exact N _ (hmem p hp)
  · intro p hp
    rcases List.mem_append.mp hp with q | q
    · exact hp1 p q
    · exact hp2 p q
  · intro r t i' ti' c' tc' h' tk' a1 a2 a3 a4 a5 a6 F' N'
    refine hret r t i' ti' c' tc' h' tk' a1 a2 a3 a4 a5 a6 F' ?_
    rw [e2]
    intro p hp
    rcases List.mem_append.mp hp with q | q
    · exact N' _ (.tail _ (.tail _ (List.mem_append_left _ q)))
    · rcases List.mem_cons.mp q with rfl | q
      · exact N' _ (.head _)
      · exact N' _ (.tail _ (.tail _ (List.mem_append_right _ q)))
end Mine
end
section
open PySem PySem.W PyProof.Rows
namespace Mine
/-- the end of a statement that goes on to the next: a frame and a ledger with J -/
def CutEnd (h₀ : Heap) (L : Addr) (J : (PySem.Str → Option Value) → List (Addr × Obj) → Prop) (s : Shared) (f : Flow) (s' : Shared) : Prop :=
  f = .next ∧ ∃ h' tk m' news', s' = { s with heap := h', toks := tk } ∧ Fr h₀ L h' m' ∧ News h₀ L h' news' ∧ J m' news'
theorem cut {prog : Program} {w : World} {A : Around} {E : Value → Shared → Prop} {s : Shared} {h₀ : Heap} {env : Env} {L : Addr} {st : Stmt} {rest : List Stmt} {Q : Flow → Shared → Prop}
    (J : (PySem.Str → Option Value) → List (Addr × Obj) → Prop)
    (h : wpAny (model prog w) A (exec st env) (CutEnd h₀ L J s) E s)
    (h2 : ∀ m' news' h' tk, Fr h₀ L h' m' → News h₀ L h' news' → J m' news' → wpAny (model prog w) A (execs rest env) Q E { s with heap := h', toks := tk }) :
    wpAny (model prog w) A (execs (st :: rest) env) Q E s := by
  refine wpAny_execs_cons (wpAny_mono h (fun f s' hf => ?_) fun _ _ e => e)
  obtain ⟨rfl, h', tk, m', news', rfl, F, N, j⟩ := hf
  exact h2 m' news' h' tk F N j
theorem CutEnd.intro {h₀ : Heap} {L : Addr} {J : (PySem.Str → Option Value) → List (Addr × Obj) → Prop} {s : Shared} {h' : Heap} {tk : Nat} {m' : PySem.Str → Option Value} {news news' : List (Addr × Obj)}
    (F : Fr h₀ L h' m') (N : News h₀ L h' news) (hs : ∀ p ∈ news', p ∈ news) (j : J m' news') : CutEnd h₀ L J s .next { s with heap := h', toks := tk } :=
  ⟨rfl, h', tk, m', news', rfl, F, (fun p hp => N p (hs p hp)), j⟩
theorem fr_name {h₀ h : Heap} {L : Addr} {m : PySem.Str → Option Value} {x : PySem.Str} {v : Value} (F : Fr h₀ L h m) (hx : m x = some v) : Fr h₀ L h (fun y => if y = x then some v else m y) := by
  have e : (fun y => if y = x then some v else m y) = m := by
    funext y
    by_cases hy : y = x
    · rw [if_pos hy, hy, hx]
    · rw [if_neg hy]
  rw [e]; exact F
theorem fr_two {h₀ h : Heap} {L : Addr} {m : PySem.Str → Option Value} {x₁ x₂ : PySem.Str} {v₁ v₂ : Value} (F : Fr h₀ L h m) (e₁ : m x₁ = some v₁) (e₂ : m x₂ = some v₂) : Fr h₀ L h (fun y => if y = x₁ then some v₁ else if y = x₂ then some v₂ else m y) := by
  have e : (fun y => if y = x₁ then some v₁ else if y = x₂ then some v₂ else m y) = m := by
    funext y
    by_cases h1 : y = x₁
    · rw [if_pos h1, h1, e₁]
    · rw [if_neg h1]
      by_cases h2 : y = x₂
      · rw [if_pos h2, h2, e₂]
      · rw [if_neg h2]
  rw [e]; exact F
theorem fr_three {h₀ h : Heap} {L : Addr} {m : PySem.Str → Option Value} {x₁ x₂ x₃ : PySem.Str} {v₁ v₂ v₃ : Value} (F : Fr h₀ L h m) (e₁ : m x₁ = some v₁) (e₂ : m x₂ = some v₂) (e₃ : m x₃ = some v₃) : Fr h₀ L h (fun y => if y = x₁ then some v₁ else if y = x₂ then some v₂ else if y = x₃ then some v₃ else m y) := by
  have e : (fun y => if y = x₁ then some v₁ else if y = x₂ then some v₂ else if y = x₃ then some v₃ else m y) = m := by
    funext y
    by_cases h1 : y = x₁
    · rw [if_pos h1, h1, e₁]
    · rw [if_neg h1]
      by_cases h2 : y = x₂
      · rw [if_pos h2, h2, e₂]
      · rw [if_neg h2]
        by_cases h3 : y = x₃
        · rw [if_pos h3, h3, e₃]
        · rw [if_neg h3]
  rw [e]; exact F
theorem fr_four {h₀ h : Heap} {L : Addr} {m : PySem.Str → Option Value} {x₁ x₂ x₃ x₄ : PySem.Str} {v₁ v₂ v₃ v₄ : Value} (F : Fr h₀ L h m) (e₁ : m x₁ = some v₁) (e₂ : m x₂ = some v₂) (e₃ : m x₃ = some v₃) (e₄ : m x₄ = some v₄) : Fr h₀ L h (fun y => if y = x₁ then some v₁ else if y = x₂ then some v₂ else if y = x₃ then some v₃ else if y = x₄ then some v₄ else m y) := by
  have e : (fun y => if y = x₁ then some v₁ else if y = x₂ then some v₂ else if y = x₃ then some v₃ else if y = x₄ then some v₄ else m y) = m := by
    funext y
    by_cases h1 : y = x₁
    · rw [if_pos h1, h1, e₁]
    · rw [if_neg h1]
      by_cases h2 : y = x₂
      · rw [if_pos h2, h2, e₂]
      · rw [if_neg h2]
        by_cases h3 : y = x₃
        · rw [if_pos h3, h3, e₃]
        · rw [if_neg h3]
          by_cases h4 : y = x₄
          · rw [if_pos h4, h4, e₄]
          · rw [if_neg h4]
  rw [e]; exact F
theorem fr_five {h₀ h : Heap} {L : Addr} {m : PySem.Str → Option Value} {x₁ x₂ x₃ x₄ x₅ : PySem.Str} {v₁ v₂ v₃ v₄ v₅ : Value} (F : Fr h₀ L h m) (e₁ : m x₁ = some v₁) (e₂ : m x₂ = some v₂) (e₃ : m x₃ = some v₃) (e₄ : m x₄ = some v₄) (e₅ : m x₅ = some v₅) : Fr h₀ L h (fun y => if y = x₁ then some v₁ else if y = x₂ then some v₂ else if y = x₃ then some v₃ else if y = x₄ then some v₄ else if y = x₅ then some v₅ else m y) := by
  have e : (fun y => if y = x₁ then some v₁ else if y = x₂ then some v₂ else if y = x₃ then some v₃ else if y = x₄ then some v₄ else if y = x₅ then some v₅ else m y) = m := by
    funext y
    by_cases h1 : y = x₁
    · rw [if_pos h1, h1, e₁]
    · rw [if_neg h1]
      by_cases h2 : y = x₂
      · rw [if_pos h2, h2, e₂]
      · rw [if_neg h2]
        by_cases h3 : y = x₃
        · rw [if_pos h3, h3, e₃]
        · rw [if_neg h3]
          by_cases h4 : y = x₄
          · rw [if_pos h4, h4, e₄]
          · rw [if_neg h4]
            by_cases h5 : y = x₅
            · rw [if_pos h5, h5, e₅]
            · rw [if_neg h5]
  rw [e]; exact F
/-- the parts of the law's def -/
def fdOf (o : Obj) : FuncData := match o.data with | .func f => f | _ => default
def bodyOf (f : FuncData) : List Stmt := match f.body with | .stmts b => b | _ => []
def turnOf (b : List Stmt) : List Stmt := match b with | _ :: _ :: .For _ _ body _ _ :: _ => body | _ => []
/-- the text of an int between the bounds that a turn keeps -/
def Small (n : Int) : Prop := n.natAbs < 10 ^ 41
/-- the ledger that a turn keeps -/
abbrev led (kd : Addr) (od : Obj) (wl : Addr) (wvs : List Value) (nl : Nat) (st D : Addr) (i : Int) (ti : Tok) (c : Int) (tc : Tok) (ws : List Value) (ce : Addr) (oc : Obj) : List (Addr × Obj) :=
  [(kd, od), (wl, W.listOf wvs.toArray nl), (st, stObj D i ti c tc), (D, W.listOf ws.toArray 0), (ce, oc)]
/-- the places within the law's list -/
def Seed (ns : List Int) (i c : Int) : Prop := 0 ≤ i ∧ i ≤ ns.length ∧ 0 ≤ c ∧ c < 2147483647
/-- what a turn keeps ahead of its next statement -/
def TJ (kd : Addr) (od : Obj) (wl : Addr) (wvs : List Value) (nl : Nat) (st D : Addr) (ws : List Value) (ce : Addr) (oc : Obj) (own : List (Addr × Obj)) (ns : List Int) (extra : (PySem.Str → Option Value) → Prop)
    (m' : PySem.Str → Option Value) (news' : List (Addr × Obj)) : Prop :=
  ∃ i ti c tc, news' = led kd od wl wvs nl st D i ti c tc ws ce oc ++ own ∧ m' (Str.ofString "words") = some (.ref wl) ∧ m' (Str.ofString "state") = some (.ref st) ∧ 0 ≤ i ∧ i ≤ ns.length ∧ 0 ≤ c ∧ c < 2147483647 ∧ extra m'
theorem TJ.close {h₀ : Heap} {L : Addr} {s : Shared} {h' : Heap} {tk : Nat} {m' : PySem.Str → Option Value} {news : List (Addr × Obj)}
    {kd : Addr} {od : Obj} {wl : Addr} {wvs : List Value} {nl : Nat} {st D : Addr} {ws : List Value} {ce : Addr} {oc : Obj} {own : List (Addr × Obj)} {ns : List Int} {extra : (PySem.Str → Option Value) → Prop} {i : Int} {ti : Tok} {c : Int} {tc : Tok}
    (F : Fr h₀ L h' m') (N : News h₀ L h' news) (hs : ∀ p ∈ (kd, od) :: (wl, W.listOf wvs.toArray nl) :: (st, stObj D i ti c tc) :: (D, W.listOf ws.toArray 0) :: (ce, oc) :: own, p ∈ news)
    (e1 : m' (Str.ofString "words") = some (.ref wl)) (e2 : m' (Str.ofString "state") = some (.ref st)) (i0 : 0 ≤ i) (i1 : i ≤ ns.length) (c0 : 0 ≤ c) (c1 : c < 2147483647) (ex : extra m') :
    CutEnd h₀ L (TJ kd od wl wvs nl st D ws ce oc own ns extra) s .next { s with heap := h', toks := tk } :=
  CutEnd.intro F N hs ⟨i, ti, c, tc, rfl, e1, e2, i0, i1, c0, c1, ex⟩
theorem inv_close {h₀ : Heap} {L : Addr} {J : (PySem.Str → Option Value) → List (Addr × Obj) → Prop} {own : List (Addr × Obj)} {adr : List Addr} {s : Shared} {Q : Flow → Shared → Prop} {h' : Heap} {tk : Nat} {m' : PySem.Str → Option Value} {news nx : List (Addr × Obj)}
    (F : Fr h₀ L h' m') (N : News h₀ L h' news) (j : J m' nx) (hs : ∀ p ∈ nx, p ∈ news) (ho : ∀ p ∈ own, p ∈ news) (ha : nx.map (·.1) = adr) : InvPostN h₀ L J own adr s Q .next { s with heap := h', toks := tk } :=
  ⟨h', tk, m', news, nx, rfl, F, N, hs, ho, ha, j⟩
theorem foldl_count (l : List Int) : ∀ a : Nat, l.foldl (fun q _ => q + 1) a = a + l.length := by
  induction l with
  | nil => intro a; rfl
  | cons x r ih => intro a; rw [List.foldl_cons, ih, List.length_cons]; omega
theorem menu_small {r way x : Int} (r0 : 0 ≤ r) (r1 : r < 4) (w0 : 0 ≤ way) (w1 : way < 3) (x0 : 0 ≤ x) (x1 : x < 30) : 0 ≤ [(0 : Int), 10, 100, 1000].getD r.toNat 0 * way + x ∧ [(0 : Int), 10, 100, 1000].getD r.toNat 0 * way + x < 10 ^ 40 := by
  have hr : r = 0 ∨ r = 1 ∨ r = 2 ∨ r = 3 := by omega
  have e0 : [(0 : Int), 10, 100, 1000].getD (0 : Int).toNat 0 = 0 := rfl
  have e1 : [(0 : Int), 10, 100, 1000].getD (1 : Int).toNat 0 = 10 := rfl
  have e2 : [(0 : Int), 10, 100, 1000].getD (2 : Int).toNat 0 = 100 := rfl
  have e3 : [(0 : Int), 10, 100, 1000].getD (3 : Int).toNat 0 = 1000 := rfl
  rcases hr with rfl | rfl | rfl | rfl
  · rw [e0]; omega
  · rw [e1]; omega
  · rw [e2]; omega
  · rw [e3]; omega
theorem ten_le {a b : Nat} (h : a ≤ b) : (10 : Int) ^ a ≤ 10 ^ b := by
  have e : ∀ k : Nat, (10 : Int) ^ k = ((10 ^ k : Nat) : Int) := fun k => by simp
  rw [e, e]
  exact Int.ofNat_le.mpr (Nat.pow_le_pow_right (by decide) h)
/-- what the inner loop keeps: q figures and one -/
def RJ (kd : Addr) (od : Obj) (wl : Addr) (wvs : List Value) (nl : Nat) (st D : Addr) (ws : List Value) (ce : Addr) (oc : Obj) (own : List (Addr × Obj)) (ns : List Int) (q : Nat)
    (m' : PySem.Str → Option Value) (nx : List (Addr × Obj)) : Prop :=
  ∃ i ti c tc v t, nx = led kd od wl wvs nl st D i ti c tc ws ce oc ++ own ∧ m' (Str.ofString "words") = some (.ref wl) ∧ m' (Str.ofString "state") = some (.ref st) ∧ 0 ≤ i ∧ i ≤ ns.length ∧ 0 ≤ c ∧ c < 2147483647 ∧ m' (Str.ofString "number") = some (.int v t) ∧ 0 ≤ v ∧ v < 10 ^ (q + 1)
theorem RJ.close {h₀ : Heap} {L : Addr} {s : Shared} {h' : Heap} {tk : Nat} {m' : PySem.Str → Option Value} {news own₂ : List (Addr × Obj)} {adr : List Addr} {Q : Flow → Shared → Prop}
    {kd : Addr} {od : Obj} {wl : Addr} {wvs : List Value} {nl : Nat} {st D : Addr} {ws : List Value} {ce : Addr} {oc : Obj} {own : List (Addr × Obj)} {ns : List Int} {i : Int} {ti : Tok} {c : Int} {tc : Tok} {q : Nat} {v : Int} {t : Tok}
    (F : Fr h₀ L h' m') (N : News h₀ L h' news) (hs : ∀ p ∈ (kd, od) :: (wl, W.listOf wvs.toArray nl) :: (st, stObj D i ti c tc) :: (D, W.listOf ws.toArray 0) :: (ce, oc) :: own, p ∈ news) (ho : ∀ p ∈ own₂, p ∈ news)
    (ha : kd :: wl :: st :: D :: ce :: own.map (·.1) = adr)
    (e1 : m' (Str.ofString "words") = some (.ref wl)) (e2 : m' (Str.ofString "state") = some (.ref st)) (i0 : 0 ≤ i) (i1 : i ≤ ns.length) (c0 : 0 ≤ c) (c1 : c < 2147483647) (e3 : m' (Str.ofString "number") = some (.int v t)) (v0 : 0 ≤ v) (v1 : v < 10 ^ (q + 1)) :
    InvPostN h₀ L (RJ kd od wl wvs nl st D ws ce oc own ns q) own₂ adr s Q .next { s with heap := h', toks := tk } :=
  inv_close F N ⟨i, ti, c, tc, v, t, rfl, e1, e2, i0, i1, c0, c1, e3, v0, v1⟩ hs ho ha
end Mine
end
section
open PySem PySem.W PyProof.Rows
namespace Mine
theorem tell_use {w : World} {mean : ExcName → Option Value} {mg mb : PySem.Str → Option Value} {f : Addr} {vs : List Value} {R : Value → Prop}
    {dp un : Nat} {gd : Option (List Code)} {cn : PySem.Str} {cs : Scope} {a : Addr} {ccd : Value} {cl : List (PySem.Str × Addr)} {outer : List Env} {A₀ : Around} {base h₀ : Heap} {L : Addr} {m : PySem.Str → Option Value} {news : List (Addr × Obj)} {s : Shared}
    {Q E : Value → Shared → Prop}
    (B : Below A₀ base outer h₀) (F : Fr h₀ L s.heap m) (X : (hd.heap_39 w.params).In h₀) (N : News h₀ L s.heap news)
    (T : Top hd.view_39 (looseW hd.view_39 [Str.ofString "_ORDINAL_SUFFIXES", Str.ofString "_APNUMBER_WORDS", Str.ofString "ordinal", Str.ofString "Double"]) mean mg mb h₀)
    (hk : cs.kind = .function) (hT : Tell w mean mg mb f vs R) (hd : dp + 9 < recursionLimit) (hu : un + 90 < cLine)
    (hret : ∀ v h' tk', R v → Fr h₀ L h' m → News h₀ L h' news → Q v { s with heap := h', toks := tk' }) :
    wpAny (model PySem.Challenge.rw_fv0010_01.row.prog w) (ktrTop dp un gd cn cs L a ccd cl outer) (call (.ref f) vs) Q E s :=
  hT dp un gd cn cs a ccd cl outer A₀ base h₀ L m news s Q E B F X N T hk hd hu hret
section
variable {w : World} {mean : ExcName → Option Value} {mg mb : PySem.Str → Option Value} {n : Int} {t tg : Tok} {g : PySem.Str}
theorem big_of {n : Int} (h : n.natAbs < 10 ^ 60) : n.natAbs < 2 ^ 1000 := Nat.lt_trans h (by decide +kernel)
theorem ord_i1 (hn : n.natAbs < 10 ^ 60) : Tell w mean mg mb 139 [.int n t] (fun v => ∃ t', v = .str (wordOf n) t') :=
  ord_any w mean mg mb _ n _ (finite_int (big_of hn)) (floatOf_int w t (big_of hn)) (intOf_int w n t) (big_of hn) _ _ _ (binds1 w _)
theorem ord_i2 (hn : n.natAbs < 10 ^ 60) : Tell w mean mg mb 139 [.int n t, .str g tg] (fun v => ∃ t', v = .str (wordOf n) t') :=
  ord_any w mean mg mb _ n _ (finite_int (big_of hn)) (floatOf_int w t (big_of hn)) (intOf_int w n t) (big_of hn) _ _ _ (binds2 w _ _)
theorem spaced_len (hn : n.natAbs < 10 ^ 60) : (Str.empty ++ Str.ofString " " ++ Str.ofString (toString n) ++ Str.ofString " ").length ≤ 640 := by
  have h := num_len hn
  rw [Str.length_append, Str.length_append, Str.length_append]
  have e1 : (Str.ofString " ").length = 1 := by decide
  have e0 : Str.empty.length = 0 := by decide
  omega
theorem spaced_padded : Padded (Str.empty ++ Str.ofString " " ++ Str.ofString (toString n) ++ Str.ofString " ") n :=
  padded_spaced (by rw [Str.empty_append])
theorem ord_s2 (hn : n.natAbs < 10 ^ 60) : Tell w mean mg mb 139 [.str (Str.empty ++ Str.ofString " " ++ Str.ofString (toString n) ++ Str.ofString " ") t, .str g tg] (fun v => ∃ t', v = .str (wordOf n) t') := by
  obtain ⟨b, hb, hf⟩ := floatOf_text w t (spaced_padded (n := n)) hn
  exact ord_any w mean mg mb _ n b hb hf (intOf_text w t spaced_padded (spaced_len hn)) (big_of hn) _ _ _ (binds2 w _ _)
theorem bare_padded : Padded (Str.empty ++ Str.ofString (toString n)) n := by
  rw [Str.empty_append]; exact padded_bare n
theorem bare_len (hn : n.natAbs < 10 ^ 60) : (Str.empty ++ Str.ofString (toString n)).length ≤ 640 := by
  rw [Str.empty_append]
  exact Nat.le_trans (num_len hn) (by decide)
theorem ap_i (hn : n.natAbs < 10 ^ 60) : Tell w mean mg mb 146 [.int n t] (fun v => ∃ t', v = .str (apOf n) t') :=
  ap_any w mean mg mb _ n _ (finite_int (big_of hn)) (floatOf_int w t (big_of hn)) (intOf_int w n t) (big_of hn)
theorem ap_s (hn : n.natAbs < 10 ^ 60) : Tell w mean mg mb 146 [.str (Str.empty ++ Str.ofString (toString n)) t] (fun v => ∃ t', v = .str (apOf n) t') := by
  obtain ⟨b, hb, hf⟩ := floatOf_text w t (bare_padded (n := n)) hn
  exact ap_any w mean mg mb _ n b hb hf (intOf_text w t bare_padded (bare_len hn)) (big_of hn)
/-- v is a double whose whole part is n -/
def Parted (v : UInt64) (n : Int) : Prop := ∃ neg N, v = Float64.ofFrac neg N 8 ∧ 0 < N ∧ N < 2 ^ 53 ∧ n = Float64.sgn neg (N / 8)
theorem parted_small {b : UInt64} (h : Parted b n) : n.natAbs < 10 ^ 60 := by
  obtain ⟨neg, N, rfl, h0, h1, rfl⟩ := h
  have : (Float64.sgn neg (N / 8)).natAbs = N / 8 := by cases neg <;> simp [Float64.sgn] <;> omega
  rw [this]
  exact Nat.lt_of_le_of_lt (Nat.div_le_self _ _) (Nat.lt_trans h1 (by decide +kernel))
theorem ord_f1 {b : UInt64} (h : Parted b n) : Tell w mean mg mb 139 [.float b t] (fun v => ∃ t', v = .str (wordOf n) t') := by
  have hs := parted_small h
  obtain ⟨neg, N, rfl, h0, h1, rfl⟩ := h
  exact ord_any w mean mg mb _ _ _ (finite_eighth neg h0 h1) (floatOf_float w _ t) (intOf_eighth w neg t h0 h1) (big_of hs) _ _ _ (binds1 w _)
theorem ap_f {b : UInt64} (h : Parted b n) : Tell w mean mg mb 146 [.float b t] (fun v => ∃ t', v = .str (apOf n) t') := by
  have hs := parted_small h
  obtain ⟨neg, N, rfl, h0, h1, rfl⟩ := h
  exact ap_any w mean mg mb _ _ _ (finite_eighth neg h0 h1) (floatOf_float w _ t) (intOf_eighth w neg t h0 h1) (big_of hs)
/-- the double that the law builds has the number for its whole part -/
theorem parted_of {a r : Int} (hn : n.natAbs < 10 ^ 15) (h0 : n ≠ 0) (hr0 : 0 ≤ r) (hr1 : r < 8) (ha : a = n * 8 + (if n > 0 then r else 0 - r)) : Parted (Float64.ofFrac (decide (a < 0)) a.natAbs 8) n := by
  have hN : a.natAbs = n.natAbs * 8 + r.natAbs := by
    subst ha
    split <;> omega
  have hs : decide (a < 0) = decide (n < 0) := by
    subst ha
    have : (n * 8 + (if n > 0 then r else 0 - r) < 0) ↔ n < 0 := by split <;> omega
    simp only [this]
  refine ⟨_, _, rfl, ?_, ?_, ?_⟩
  · omega
  · have : (10 : Nat) ^ 15 * 8 + 8 < 2 ^ 53 := by decide +kernel
    omega
  · rw [hs, hN]
    have : (n.natAbs * 8 + r.natAbs) / 8 = n.natAbs := by omega
    rw [this]
    by_cases hneg : n < 0
    · rw [decide_eq_true hneg]; simp [Float64.sgn]; omega
    · rw [decide_eq_false hneg]; simp [Float64.sgn]; omega
theorem parted_pos {r : Int} (hn : n.natAbs < 10 ^ 15) (h0 : 0 < n) (hr0 : 0 ≤ r) (hr1 : r < 8) : Parted (Float64.ofFrac (decide (n * 8 + r < 0)) (n * 8 + r).natAbs 8) n :=
  parted_of hn (by omega) hr0 hr1 (by rw [if_pos h0])
theorem parted_neg {r : Int} (hn : n.natAbs < 10 ^ 15) (h0 : n < 0) (hr0 : 0 ≤ r) (hr1 : r < 8) : Parted (Float64.ofFrac (decide (n * 8 + (0 - r) < 0)) (n * 8 + (0 - r)).natAbs 8) n :=
  parted_of hn (by omega) hr0 hr1 (by rw [if_neg (by omega)])
end
theorem str_eq {x y : PySem.Str} {t : Tok} (h : x = y) : Value.str x t = Value.str y t := by rw [h]
theorem last_ne {n : Int} (h : (n % 100).fdiv 10 ≠ 1) : (n % 100).fmod 10 = if n % 100 / 10 = 1 then 0 else n % 100 % 10 := by
  rw [Int.fdiv_eq_ediv_of_nonneg _ (by decide)] at h
  rw [if_neg h, fmod10]
theorem last_eq {n : Int} (h : (n % 100).fdiv 10 = 1) : 0 = if n % 100 / 10 = 1 then 0 else n % 100 % 10 := by
  rw [Int.fdiv_eq_ediv_of_nonneg _ (by decide)] at h
  rw [if_pos h]
theorem last_facts (n : Int) : 0 ≤ (if n % 100 / 10 = 1 then 0 else n % 100 % 10) ∧ (if n % 100 / 10 = 1 then 0 else n % 100 % 10) < 10 ∧ sufAt (if n % 100 / 10 = 1 then 0 else n % 100 % 10) = sufOf n := by
  refine ⟨?_, ?_, rfl⟩ <;> split <;> omega
/-- the law's own table of letters -/
theorem table_suf {lst : Int} (l0 : 0 ≤ lst) (l1 : lst < 10) : [Str.ofString "th", Str.ofString "st", Str.ofString "nd", Str.ofString "rd", Str.ofString "th", Str.ofString "th", Str.ofString "th", Str.ofString "th", Str.ofString "th", Str.ofString "th"].getD lst.toNat Str.empty = sufAt lst := by
  have hk : lst = 0 ∨ lst = 1 ∨ lst = 2 ∨ lst = 3 ∨ lst = 4 ∨ lst = 5 ∨ lst = 6 ∨ lst = 7 ∨ lst = 8 ∨ lst = 9 := by omega
  rcases hk with rfl | rfl | rfl | rfl | rfl | rfl | rfl | rfl | rfl | rfl <;> decide
theorem word_add {prog : Program} {w : World} {A : Around} {E : Value → Shared → Prop} {s : Shared} {n lst : Int} {x : PySem.Str} {t u : Tok} {Q : Value → Shared → Prop} (hn : n.natAbs < 10 ^ 60) (hs : sufAt lst = sufOf n) (hx : x = sufAt lst)
    (h : ∀ t' k, Q (.str (wordOf n) t') { s with toks := k }) : wpAny (model prog w) A (binaryOp .Add (.str (Str.ofString (toString n)) t) (.str x u)) Q E s := by
  subst hx
  have hl := num_len hn
  have hl2 := sufAt_len lst
  refine PyProof.Rows.add_str (fun t' k => ?_) ?_
  · rw [hs]; exact h t' k
  · have : 61 + 2 ≤ sizeLine := Nat.le_of_ble_eq_true rfl
    omega
theorem ne_same {prog : Program} {w : World} {A : Around} {E : Value → Shared → Prop} {s : Shared} {x : PySem.Str} {t u : Tok} {Q : Value → Shared → Prop} (h : Q (.bool false) s) : wpAny (model prog w) A (compareOp .NotEq (.str x t) (.str x u)) Q E s := by
  refine PyProof.Rows.ne_str ?_
  have e : (x != x) = false := by simp
  rw [e]; exact h
theorem ap_n {w : World} {mean : ExcName → Option Value} {mg mb : PySem.Str → Option Value} {n : Int} {t : Tok} (hn : n.natAbs < 10 ^ 60) : Tell w mean mg mb 146 [.str (Str.ofString (toString n)) t] (fun v => ∃ t', v = .str (apOf n) t') := by
  have := ap_s (w := w) (mean := mean) (mg := mg) (mb := mb) (t := t) hn
  rw [Str.empty_append] at this
  exact this
theorem on_facts {a r : Int} (a0 : 0 ≤ a) (a1 : a < 2001) (r0 : 0 ≤ r) (r1 : r < 30) :
    -10 ^ 40 < 100 * (a - 1000) * 10 ^ r.toNat ∧ 100 * (a - 1000) * 10 ^ r.toNat < 10 ^ 40 ∧ 100 * (a - 1000) * 10 ^ r.toNat % 100 = 0 := by
  have hp : (10 : Int) ^ r.toNat ≤ 10 ^ 29 := ten_le (by omega)
  have hp0 : (0 : Int) ≤ 10 ^ r.toNat := Int.pow_nonneg (by decide)
  generalize (10 : Int) ^ r.toNat = P at hp hp0
  have h1 : (a - 1000) * P ≤ 1001 * 10 ^ 29 := by
    refine Int.le_trans (Int.mul_le_mul_of_nonneg_right (show a - 1000 ≤ 1001 by omega) hp0) ?_
    exact Int.mul_le_mul_of_nonneg_left hp (by decide)
  have h2 : -(1000 * 10 ^ 29) ≤ (a - 1000) * P := by
    have h3 : (-1000) * P ≤ (a - 1000) * P := Int.mul_le_mul_of_nonneg_right (by omega) hp0
    have h4 : 1000 * P ≤ 1000 * 10 ^ 29 := Int.mul_le_mul_of_nonneg_left hp (by decide)
    omega
  have e : 100 * (a - 1000) * P = 100 * ((a - 1000) * P) := Int.mul_assoc ..
  rw [e]
  generalize (a - 1000) * P = M at h1 h2
  refine ⟨?_, ?_, ?_⟩ <;> omega
theorem sufAt_two (k : Int) : (sufAt k).length = 2 := by
  unfold sufAt
  repeat' split
  all_goals decide
theorem slice_two {a b : PySem.Str} (hb : b.length = 2) : Txt.slice (a ++ b) (some (-2)) none = b := by
  have hl : (a ++ b).length = a.length + 2 := by rw [Str.length_append, hb]
  rw [slice_from_neg (by decide), slice_from_eq (b := ((a ++ b).length : Int)) (by omega) (by omega) rfl]
  have e1 : (max 0 (((a ++ b).length : Int) + -2)).toNat = a.length := by omega
  have e2 : (((a ++ b).length : Int) - max 0 (((a ++ b).length : Int) + -2)).toNat = 2 := by omega
  rw [e1, e2, Str.cps_append, Array.toList_append]
  have ea : a.cps.toList.length = a.length := Array.length_toList
  have eb : b.cps.toList.length = 2 := by rw [← hb]; exact Array.length_toList
  rw [← ea, List.drop_left, ← eb, List.take_length]
theorem word_slice {prog : Program} {w : World} {A : Around} {E : Value → Shared → Prop} {s : Shared} {value slice : PySem.Expr} {n : Int} {t : Tok} {h₀ : Heap} {L : Addr} {m : PySem.Str → Option Value} {news : List (Addr × Obj)} {Q : Value → Shared → Prop} {ui : Tok}
    (hF : Fr h₀ L s.heap m) (hN : News h₀ L s.heap news) (hn : n.natAbs < 10 ^ 60) (h : ∀ h' t' k, Fr h₀ L h' m → News h₀ L h' news → Q (.str (sufOf n) t') { s with heap := h', toks := k })
    (hs : subscripted slice false (.str (wordOf n) t) (.ref s.heap.objs.size) = operate [.ref s.heap.objs.size, .str (wordOf n) t] (getItem (.str (wordOf n) t) (.ref s.heap.objs.size)) := by with_unfolding_all rfl)
    (ht : ∀ r, letTemporaryGo value (.str (wordOf n) t) r = pure () := by intro _; with_unfolding_all rfl) :
    wpAny (model prog w) A (subscriptTail value slice (.str (wordOf n) t) (.ref s.heap.objs.size)) Q E { s with heap := s.heap.push { cls := .type "slice", data := .fields #[.int (-2) ui, .none, .none] } } := by
  refine slice_strN_sn hF hN (fun h' t' k F' N' => ?_) hs ht ?_
  · have e : Txt.slice (wordOf n) (some (-2)) none = sufOf n := slice_two (sufAt_two _)
    rw [e]
    exact h h' t' k F' N'
  · have hl := num_len hn
    have hl2 : (sufOf n).length ≤ 2 := sufAt_len _
    unfold wordOf
    rw [Str.length_append]
    have : 61 + 2 ≤ sizeLine := Nat.le_of_ble_eq_true rfl
    omega
theorem suf_on {n v : Int} (hv : v % 100 = 0) : sufOf (n + v) = sufOf n := by
  unfold sufOf
  have : (n + v) % 100 = n % 100 := by omega
  rw [this]
theorem word_add2 {prog : Program} {w : World} {A : Around} {E : Value → Shared → Prop} {s : Shared} {n v : Int} {t u : Tok} {Q : Value → Shared → Prop} (hn : (n + v).natAbs < 10 ^ 60) (hv : v % 100 = 0)
    (h : ∀ t' k, Q (.str (wordOf (n + v)) t') { s with toks := k }) : wpAny (model prog w) A (binaryOp .Add (.str (Str.ofString (toString (n + v))) t) (.str (sufOf n) u)) Q E s := by
  have hl := num_len hn
  have hl2 : (sufOf n).length ≤ 2 := sufAt_len _
  refine PyProof.Rows.add_str (fun t' k => ?_) ?_
  · rw [← suf_on hv]; exact h t' k
  · have : 61 + 2 ≤ sizeLine := Nat.le_of_ble_eq_true rfl
    omega
theorem ne_ap {prog : Program} {w : World} {A : Around} {E : Value → Shared → Prop} {s : Shared} {n : Int} {t u : Tok} {Q : Value → Shared → Prop} (hn : ¬ (0 ≤ n ∧ n < 10)) (h : Q (.bool false) s) : wpAny (model prog w) A (compareOp .NotEq (.str (apOf n) t) (.str (Str.ofString (toString n)) u)) Q E s := by
  have e : apOf n = Str.ofString (toString n) := by unfold apOf; rw [if_neg hn]
  rw [e]; exact ne_same h
theorem abs_small {n k : Int} (h : (if n < 0 then -n else n) < k) (hk : k ≤ 10 ^ 15) : n.natAbs < 10 ^ 15 := by
  split at h <;> omega
theorem dbl_fits {n r : Int} (h : n.natAbs < 10 ^ 60) (r0 : 0 ≤ r) (r1 : r < 8) : (n * 8 + r).natAbs < 2 ^ 1023 := by
  have : (10 : Nat) ^ 60 * 8 + 8 < 2 ^ 1023 := by decide +kernel
  omega
theorem dbl_fits' {n r : Int} (h : n.natAbs < 10 ^ 60) (r0 : 0 ≤ r) (r1 : r < 8) : (n * 8 + (0 - r)).natAbs < 2 ^ 1023 := by
  have : (10 : Nat) ^ 60 * 8 + 8 < 2 ^ 1023 := by decide +kernel
  omega
/-- the words of these numbers -/
inductive WordsAre : List Value → List Int → Prop where
  | nil : WordsAre [] []
  | cons {n : Int} {t : Tok} {vs : List Value} {ns : List Int} : n.natAbs < 10 ^ 60 → WordsAre vs ns → WordsAre (.str (wordOf n) t :: vs) (n :: ns)
theorem WordsAre.snoc {vs : List Value} {ns : List Int} (h : WordsAre vs ns) (n : Int) (t : Tok) (hn : n.natAbs < 10 ^ 60) : WordsAre (vs ++ [.str (wordOf n) t]) (ns ++ [n]) := by
  induction h with
  | nil => exact .cons hn .nil
  | cons h _ ih => exact .cons h ih
theorem WordsAre.len {vs : List Value} {ns : List Int} (h : WordsAre vs ns) : vs.length = ns.length := by
  induction h with
  | nil => rfl
  | cons _ _ ih => rw [List.length_cons, List.length_cons, ih]
/-- what the four turns keep: as many words as turns -/
def OJ (kd : Addr) (od : Obj) (wl st D : Addr) (ws : List Value) (ce : Addr) (oc : Obj) (ns : List Int) (q : Nat) (m' : PySem.Str → Option Value) (nx : List (Addr × Obj)) : Prop :=
  ∃ i ti c tc wvs nl nums, nx = led kd od wl wvs nl st D i ti c tc ws ce oc ∧ m' (Str.ofString "words") = some (.ref wl) ∧ m' (Str.ofString "state") = some (.ref st) ∧ 0 ≤ i ∧ i ≤ ns.length ∧ 0 ≤ c ∧ c < 2147483647 ∧ WordsAre wvs nums ∧ nums.length = q
theorem OJ.close {h₀ : Heap} {L : Addr} {s : Shared} {h' : Heap} {tk : Nat} {m' : PySem.Str → Option Value} {news own : List (Addr × Obj)} {Q : Flow → Shared → Prop}
    {kd : Addr} {od : Obj} {wl : Addr} {wvs : List Value} {nl : Nat} {st D : Addr} {ws : List Value} {ce : Addr} {oc : Obj} {ns nums : List Int} {i : Int} {ti : Tok} {c : Int} {tc : Tok} {q : Nat}
    (F : Fr h₀ L h' m') (N : News h₀ L h' news) (hs : ∀ p ∈ [(kd, od), (wl, W.listOf wvs.toArray nl), (st, stObj D i ti c tc), (D, W.listOf ws.toArray 0), (ce, oc)], p ∈ news) (ho : ∀ p ∈ own, p ∈ news)
    (e1 : m' (Str.ofString "words") = some (.ref wl)) (e2 : m' (Str.ofString "state") = some (.ref st)) (i0 : 0 ≤ i) (i1 : i ≤ ns.length) (c0 : 0 ≤ c) (c1 : c < 2147483647) (hw : WordsAre wvs nums) (hq : nums.length = q) :
    InvPostN h₀ L (OJ kd od wl st D ws ce oc ns q) own [kd, wl, st, D, ce] s Q .next { s with heap := h', toks := tk } :=
  inv_close F N ⟨i, ti, c, tc, wvs, nl, nums, rfl, e1, e2, i0, i1, c0, c1, hw, hq⟩ hs ho rfl
theorem WordsAre.four {vs : List Value} {ns : List Int} (h : WordsAre vs ns) (hl : ns.length = 4) : ∃ a1 a2 a3 a4 t1 t2 t3 t4, a1.natAbs < 10 ^ 60 ∧ a2.natAbs < 10 ^ 60 ∧ a3.natAbs < 10 ^ 60 ∧ a4.natAbs < 10 ^ 60 ∧ vs = [.str (wordOf a1) t1, .str (wordOf a2) t2, .str (wordOf a3) t3, .str (wordOf a4) t4] := by
  cases h with
  | nil => cases hl
  | cons h1 h =>
    cases h with
    | nil => cases hl
    | cons h2 h =>
      cases h with
      | nil => cases hl
      | cons h3 h =>
        cases h with
        | nil => cases hl
        | cons h4 h =>
          cases h with
          | nil => exact ⟨_, _, _, _, _, _, _, _, h1, h2, h3, h4, rfl⟩
          | cons h5 h => simp at hl
end Mine
end
section
open PySem PySem.W PyProof.Rows
namespace Mine
def Stop (P : Prop) : Prop := P
theorem Stop.of {P : Prop} (h : Stop P) : P := h
local macro_rules | `(tactic| k_all) => `(tactic| assumption)
local macro_rules | `(tactic| walk_at "call ref") => `(tactic| (k_here; (with_reducible show wpAny _ _ (call (Value.ref 166) [_, _]) _ _ _); k_dflt (refine' next_tells ?k1 ?k2 ?k3 ?k4 ?k5 ?kK ?kU ?kl ?kn ?kI ?kz ?k0 ?kh ?kc ?kd ?km ?kr ?ku ?_; (case k1 => k_asm); (case k2 => k_asm); (case k3 => k_asm); (case k4 => k_asm); (case k5 => k_asm); (case kK => exact rfl); (case kU => k_updF); (case kl => k_mem); (case kn => k_ne); (case kI => assumption); (case kz => assumption); (case k0 => assumption); (case kh => assumption); (case kc => assumption); (case kd => assumption); (case km => decide); (case kr => ktr_room); (case ku => ktr_units)); intro r' t' i' ti' c' tc' h' tk' r0' r1' i0' i1' c0' c1' F' N'; (try dsimp only at N'); (try k_sweep)))
local macro_rules | `(tactic| walk_at "my sub") => `(tactic| repeat (first | exact List.forall_mem_nil _ | (refine' List.forall_mem_cons.mpr ⟨?ma, ?mb⟩; (case ma => k_mem)) | (intro p hp; (repeat (first | exact hp | exact List.mem_append_left _ hp | exact List.mem_append_right _ hp | apply List.mem_cons_of_mem)))))
/-- closes a cut's end: what is left is the extra -/
local macro_rules | `(tactic| walk_at "my end") => `(tactic| (refine' TJ.close ?eF ?eN ?sub ?e1 ?e2 ?ia ?ib ?ca ?cb ?ex; (case eF => k_asm); (case eN => k_asm); (case sub => walk_at "my sub"); (case e1 => rfl); (case e2 => rfl); (case ia => assumption); (case ib => assumption); (case ca => assumption); (case cb => assumption)))
local macro_rules | `(tactic| walk_at "pyIter ref") => `(tactic| (refine Stop.of ?_))
local macro_rules | `(tactic| walk_at "InvPostN") => `(tactic| (refine Stop.of ?_))
local macro_rules | `(tactic| walk_at "my tell") => `(tactic| (refine' tell_use ?k1 ?k2 ?k3 ?k4 ?k5 ?kK ?hT ?kr ?ku ?_; (case k1 => k_asm); (case k2 => k_asm); (case k3 => k_asm); (case k4 => k_asm); (case k5 => k_asm); (case kK => exact rfl); (case hT => walk_at "my told"); (case kr => ktr_room); (case ku => ktr_units)))
local macro_rules | `(tactic| walk_at "my told") => `(tactic| exact hund_tells _ _ _ _ _ _)
local macro_rules | `(tactic| walk_at "my told") => `(tactic| first | exact dbl_tells _ _ _ _ _ _ _ (dbl_fits (by assumption) (by assumption) (by assumption)) | exact dbl_tells _ _ _ _ _ _ _ (dbl_fits' (by assumption) (by assumption) (by assumption)))
local macro_rules | `(tactic| walk_at "my told") => `(tactic| first | exact ap_i (by assumption) | exact ap_n (by assumption) | exact ap_s (by assumption) | exact ap_f (by first | exact parted_pos (abs_small (by assumption) (by decide)) (by omega) (by assumption) (by assumption) | exact parted_neg (abs_small (by assumption) (by decide)) (by omega) (by assumption) (by assumption)))
local macro_rules | `(tactic| walk_at "my told") => `(tactic| first | exact ord_i1 (by assumption) | exact ord_i2 (by assumption) | exact ord_s2 (by assumption) | exact ord_f1 (by first | exact parted_pos (abs_small (by assumption) (by decide)) (by omega) (by assumption) (by assumption) | exact parted_neg (abs_small (by assumption) (by decide)) (by omega) (by assumption) (by assumption)))
local macro_rules | `(tactic| walk_at "call ref") => `(tactic| (k_here; (first | (with_reducible show wpAny _ _ (call (Value.ref 139) _) _ _ _) | (with_reducible show wpAny _ _ (call (Value.ref 146) _) _ _ _) | (with_reducible show wpAny _ _ (call (Value.ref 154) _) _ _ _) | (with_reducible show wpAny _ _ (call (Value.ref 173) _) _ _ _)); k_dflt (walk_at "my tell"); intro v' h' tk' hv' F' N'; (obtain ⟨t', hv''⟩ := hv'); (subst hv''); (try dsimp only); (try k_sweep)))
local macro_rules | `(tactic| walk_at "binaryOp Add str str") => `(tactic| (refine' word_add ?hn ?hs ?hx ?_; (case hs => assumption); (case hn => assumption); (case hx => exact table_suf (by assumption) (by assumption)); intro t' k'))
local macro_rules | `(tactic| walk_at "compareOp NotEq str str") => `(tactic| (with_reducible refine ne_same ?_))
local macro_rules | `(tactic| walk_at "binaryOp Add str str") => `(tactic| (refine' word_add2 ?hn ?hv ?_; (case hv => assumption); (case hn => assumption); intro t' k'))
local macro_rules | `(tactic| walk_at "subscriptTail Name Slice str ref") => `(tactic| ((with_reducible rename Fr _ _ _ _ => F'); (with_reducible rename News _ _ _ _ => N'); (refine word_slice (s := ⟨_, _, _, _, _⟩) F' N' (by assumption) ?_); intro _ _ _ _ _))
local macro_rules | `(tactic| walk_at "compareOp NotEq str str") => `(tactic| (with_reducible refine ne_ap (by omega) ?_))
set_option maxRecDepth 100000 in
set_option maxHeartbeats 8000000 in
theorem turn_tells (w : World) (mean : ExcName → Option Value) (mg mb : PySem.Str → Option Value) (h₀ : Heap) (L fa : Addr) (cdv : Value) (o : Obj) (ho : (hd.heap_39 w.params).lookup 178 = some o)
    (X : (hd.heap_39 w.params).In h₀) (B : Below callerA h₀ [] h₀)
    (T : Top hd.view_39 (looseW hd.view_39 [Str.ofString "_ORDINAL_SUFFIXES", Str.ofString "_APNUMBER_WORDS", Str.ofString "ordinal", Str.ofString "Double"]) mean mg mb h₀)
    (kd : Addr) (od : Obj) (wl st D ce : Addr) (oc : Obj) (nl : Nat) (wvs ws : List Value) (ns : List Int) (hI : IntsAre ws ns) (hlen : ns.length ≤ 60) (nums : List Int) (hwords : WordsAre wvs nums) (hnums : nums.length ≤ 100)
    (o1 : @LT.lt Nat instLTNat ce D) (o2 : @LT.lt Nat instLTNat D st) (o3 : @LT.lt Nat instLTNat st wl) (o4 : @LT.lt Nat instLTNat wl kd) (own : List (Addr × Obj)) (hown1 : ∀ p ∈ own, p.1 ≠ st) (hown2 : ∀ p ∈ own, p.1 ≠ wl)
    (m : PySem.Str → Option Value) (s : Shared) (Q : Flow → Shared → Prop) (i : Int) (ti : Tok) (c : Int) (tc : Tok) (i0 : 0 ≤ i) (i1 : i ≤ ns.length) (c0 : 0 ≤ c) (c1 : c < 2147483647)
    (F : Fr h₀ L s.heap (fun y => if y = Str.ofString "words" then some (.ref wl) else if y = Str.ofString "state" then some (.ref st) else m y))
    (N : News h₀ L s.heap (led kd od wl wvs nl st D i ti c tc ws ce oc ++ own)) :
    wpAny (model PySem.Challenge.rw_fv0010_01.row.prog w) (callerA.deeper (envOfC (fdOf o).qualname (fdOf o).scope L fa cdv)) (execs (turnOf (bodyOf (fdOf o))) (envOfC (fdOf o).qualname (fdOf o).scope L fa cdv))
      (InvPostN h₀ L (OJ kd od wl st D ws ce oc ns (nums.length + 1)) own [kd, wl, st, D, ce] s Q) (fun _ _ => False) s := by
  w_top off
  have e := (rfl : (hd.heap_39 w.params).lookup 178 = some _)
  rw [e] at ho
  cases ho
  clear e
  dsimp only [turnOf, bodyOf, fdOf]
  revert X; k_fill; intro X
  dsimp only [led, List.cons_append, List.nil_append] at N
  try k_fold
  -- way
  refine cut (h₀ := h₀) (L := L) (TJ kd od wl wvs nl st D ws ce oc own ns fun m' => ∃ v t, m' (Str.ofString "way") = some (.int v t) ∧ 0 ≤ v ∧ v < 3) ?_ ?_
  · k_steps
    all_goals walk_at "my end"
    all_goals exact ⟨_, _, rfl, by assumption, by assumption⟩
  clear F N i0 i1 c0 c1
  intro m₁ news₁ h₁ k₁ F N j
  obtain ⟨i, ti, c, tc, rfl, e1, e2, i0, i1, c0, c1, way, tw, e3, w0, w1⟩ := j
  replace F := fr_three F e1 e2 e3
  clear e1 e2 e3
  dsimp only [led, List.cons_append, List.nil_append] at N
  -- number, up to its sign
  refine cut (h₀ := h₀) (L := L) (TJ kd od wl wvs nl st D ws ce oc own ns fun m' => ∃ v t, m' (Str.ofString "number") = some (.int v t) ∧ 0 ≤ v ∧ v < 10 ^ 40) ?_ ?_
  · k_steps
    · unfold Stop
      (rename IsRange _ _ _ _ _ _ _ _ => rgX)
      with_unfolding_all
       refine' iter_rangeS (σ := Nat) (RJ kd od wl wvs nl st D ws ce oc own ns) (fun q _ => q + 1) 0 rfl rgX ?small ?size ?F ?N ?R ?turn ?done
      case small => exact small_one (by l_bnd) (by l_bnd) (by l_bnd) (by l_bnd)
      case size => exact rangeSize_nat _ _
      case F => k_asm
      case N => k_asm
      case R => exact ⟨_, _, _, _, _, _, rfl, rfl, rfl, by assumption, by assumption, by assumption, by assumption, rfl, by omega, by show _ < (10:Int) ^ 1; omega⟩
      case turn =>
        intro k t a m₂ nx h₂ tk₂ own₂ hk hoff j F N
        obtain ⟨i, ti, c, tc, v, tv, rfl, e1, e2, i0, i1, c0, c1, e3, v0, v1⟩ := j
        have hp : (10 : Int) ^ (a + 1 + 1) = 10 ^ (a + 1) * 10 := Int.pow_succ ..
        replace F : Fr h₀ L h₂ _ := fr_three (x₁ := Str.ofString "words") (x₂ := Str.ofString "state") (x₃ := Str.ofString "number") F ((if_neg (by decide)).trans e1) ((if_neg (by decide)).trans e2) ((if_neg (by decide)).trans e3)
        have hown₂ : ∀ p ∈ own ++ own₂, p.1 ≠ st := by
          intro p hp
          rcases List.mem_append.mp hp with q | q
          · exact hown1 p q
          · exact hoff p q st (by simp)
        replace N : News h₀ L h₂ ((kd, od) :: (wl, W.listOf wvs.toArray nl) :: (st, stObj D i ti c tc) :: (D, W.listOf ws.toArray 0) :: (ce, oc) :: (own ++ own₂)) := N
        clear e1 e2 e3
        k_steps
        unfold Stop
        refine' RJ.close ?eF ?eN ?sub ?sob ?adr ?f1 ?f2 ?ia ?ib ?ca ?cb ?f3 ?v0 ?v1
        case eF => k_asm
        case eN => k_asm
        case sub => walk_at "my sub"
        case sob => walk_at "my sub"
        case adr => rfl
        case f1 => rfl
        case f2 => rfl
        case f3 => rfl
        case ia => assumption
        case ib => assumption
        case ca => assumption
        case cb => assumption
        case v0 => omega
        case v1 => (rw [hp]; generalize (10 : Int) ^ (a + 1) = P at v1; omega)
      case done =>
        intro m₂ nx h₂ tk₂ j F N
        obtain ⟨i, ti, c, tc, v, tv, rfl, e1, e2, i0, i1, c0, c1, e3, v0, v1⟩ := j
        rw [foldl_count, rangeKs_length] at v1
        replace F : Fr h₀ L h₂ _ := fr_three F e1 e2 e3
        replace N : News h₀ L h₂ _ := N
        dsimp only [led, List.cons_append, List.nil_append] at N
        clear e1 e2 e3
        dsimp only
        k_steps
        walk_at "my end"
        exact ⟨_, _, rfl, v0, Int.lt_of_lt_of_le v1 (ten_le (by omega))⟩
    · walk_at "my end"
      exact ⟨_, _, rfl, menu_small (by assumption) (by assumption) (by assumption) (by assumption) (by assumption) (by assumption)⟩
  clear F N i0 i1 c0 c1 w0 w1
  intro m₂ news₂ h₂ k₂ F N j
  obtain ⟨i, ti, c, tc, rfl, e1, e2, i0, i1, c0, c1, n₀, tn₀, e3, n0, n1⟩ := j
  replace F := fr_three F e1 e2 e3
  clear e1 e2 e3
  dsimp only [led, List.cons_append, List.nil_append] at N
  -- number, with its sign
  refine cut (h₀ := h₀) (L := L) (TJ kd od wl wvs nl st D ws ce oc own ns fun m' => ∃ v t, m' (Str.ofString "number") = some (.int v t) ∧ -10 ^ 40 < v ∧ v < 10 ^ 40) ?_ ?_
  · k_steps
    all_goals walk_at "my end"
    all_goals (refine ⟨_, _, rfl, ?_, ?_⟩ <;> omega)
  clear F N i0 i1 c0 c1 n0 n1
  intro m₃ news₃ h₃ k₃ F N j
  obtain ⟨i, ti, c, tc, rfl, e1, e2, i0, i1, c0, c1, n, tn, e3, n0, n1⟩ := j
  have hn : n.natAbs < 10 ^ 60 := by
    have : (10 : Nat) ^ 40 < 10 ^ 60 := by decide +kernel
    omega
  replace F := fr_three F e1 e2 e3
  clear e1 e2 e3
  dsimp only [led, List.cons_append, List.nil_append] at N
  -- place
  refine cut (h₀ := h₀) (L := L) (TJ kd od wl wvs nl st D ws ce oc own ns fun m' => (∃ t, m' (Str.ofString "number") = some (.int n t)) ∧ ∃ t, m' (Str.ofString "place") = some (.int (n % 100) t)) ?_ ?_
  · k_steps
    all_goals walk_at "my end"
    all_goals exact ⟨⟨_, rfl⟩, _, rfl⟩
  clear F N i0 i1 c0 c1
  intro m₄ news₄ h₄ k₄ F N j
  obtain ⟨i, ti, c, tc, rfl, e1, e2, i0, i1, c0, c1, ⟨tn, e3⟩, tp, e4⟩ := j
  replace F := fr_four F e1 e2 e3 e4
  clear e1 e2 e3 e4
  dsimp only [led, List.cons_append, List.nil_append] at N
  have p0 : 0 ≤ n % 100 := by omega
  have p1 : n % 100 < 100 := by omega
  -- last
  refine cut (h₀ := h₀) (L := L) (TJ kd od wl wvs nl st D ws ce oc own ns fun m' => (∃ t, m' (Str.ofString "number") = some (.int n t)) ∧ ∃ t, m' (Str.ofString "last") = some (.int (if n % 100 / 10 = 1 then 0 else n % 100 % 10) t)) ?_ ?_
  · k_steps
    all_goals walk_at "my end"
    · exact ⟨⟨_, rfl⟩, _, congrArg some (int_eq (last_ne (by assumption)))⟩
    · exact ⟨⟨_, rfl⟩, _, congrArg some (int_eq (last_eq (by assumption)))⟩
  clear F N i0 i1 c0 c1
  intro m₅ news₅ h₅ k₅ F N j
  obtain ⟨i, ti, c, tc, rfl, e1, e2, i0, i1, c0, c1, ⟨tn, e3⟩, tl, e4⟩ := j
  obtain ⟨l0, l1, hsuf⟩ := last_facts n
  generalize (if n % 100 / 10 = 1 then 0 else n % 100 % 10) = lst at e4 l0 l1 hsuf
  replace F := fr_four F e1 e2 e3 e4
  clear e1 e2 e3 e4
  dsimp only [led, List.cons_append, List.nil_append] at N
  -- word
  refine cut (h₀ := h₀) (L := L) (TJ kd od wl wvs nl st D ws ce oc own ns fun m' => (∃ t, m' (Str.ofString "number") = some (.int n t)) ∧ ∃ t, m' (Str.ofString "word") = some (.str (wordOf n) t)) ?_ ?_
  · k_steps
    all_goals walk_at "my end"
    all_goals exact ⟨⟨_, rfl⟩, _, rfl⟩
  clear F N i0 i1 c0 c1 l0 l1 hsuf
  intro m₆ news₆ h₆ k₆ F N j
  obtain ⟨i, ti, c, tc, rfl, e1, e2, i0, i1, c0, c1, ⟨tn, e3⟩, tw, e4⟩ := j
  replace F := fr_four F e1 e2 e3 e4
  clear e1 e2 e3 e4
  dsimp only [led, List.cons_append, List.nil_append] at N
  -- gender
  refine cut (h₀ := h₀) (L := L) (TJ kd od wl wvs nl st D ws ce oc own ns fun m' => (∃ t, m' (Str.ofString "number") = some (.int n t)) ∧ (∃ t, m' (Str.ofString "word") = some (.str (wordOf n) t)) ∧ ∃ g t, m' (Str.ofString "gender") = some (.str g t)) ?_ ?_
  · k_with "table" => skip
    k_steps
    all_goals walk_at "my end"
    all_goals exact ⟨⟨_, rfl⟩, ⟨_, rfl⟩, _, _, rfl⟩
  clear F N i0 i1 c0 c1
  intro m₇ news₇ h₇ k₇ F N j
  obtain ⟨i, ti, c, tc, rfl, e1, e2, i0, i1, c0, c1, ⟨tn, e3⟩, ⟨tw, e4⟩, g, tg, e5⟩ := j
  replace F := fr_five F e1 e2 e3 e4 e5
  clear e1 e2 e3 e4 e5
  dsimp only [led, List.cons_append, List.nil_append] at N
  -- the words of the number, of its text
  refine cut (h₀ := h₀) (L := L) (TJ kd od wl wvs nl st D ws ce oc own ns fun m' => (∃ t, m' (Str.ofString "number") = some (.int n t)) ∧ ∃ t, m' (Str.ofString "word") = some (.str (wordOf n) t)) ?_ ?_
  · k_steps
    all_goals walk_at "my end"
    all_goals exact ⟨⟨_, rfl⟩, _, rfl⟩
  clear F N i0 i1 c0 c1
  intro m₈ news₈ h₈ k₈ F N j
  obtain ⟨i, ti, c, tc, rfl, e1, e2, i0, i1, c0, c1, ⟨tn, e3⟩, tw, e4⟩ := j
  replace F := fr_four F e1 e2 e3 e4
  clear e1 e2 e3 e4
  dsimp only [led, List.cons_append, List.nil_append] at N
  -- on
  refine cut (h₀ := h₀) (L := L) (TJ kd od wl wvs nl st D ws ce oc own ns fun m' => (∃ t, m' (Str.ofString "number") = some (.int n t)) ∧ (∃ t, m' (Str.ofString "word") = some (.str (wordOf n) t)) ∧ ∃ v t, m' (Str.ofString "on") = some (.int v t) ∧ -10 ^ 40 < v ∧ v < 10 ^ 40 ∧ v % 100 = 0) ?_ ?_
  · k_steps
    all_goals walk_at "my end"
    all_goals exact ⟨⟨_, rfl⟩, ⟨_, rfl⟩, _, _, rfl, on_facts (by assumption) (by assumption) (by assumption) (by assumption)⟩
  clear F N i0 i1 c0 c1
  intro m₉ news₉ h₉ k₉ F N j
  obtain ⟨i, ti, c, tc, rfl, e1, e2, i0, i1, c0, c1, ⟨tn, e3⟩, ⟨tw, e4⟩, v, tv, e5, v0, v1, v2⟩ := j
  replace F := fr_five F e1 e2 e3 e4 e5
  clear e1 e2 e3 e4 e5
  dsimp only [led, List.cons_append, List.nil_append] at N
  have hnv : (n + v).natAbs < 10 ^ 60 := by
    have : 2 * (10 : Nat) ^ 40 < 10 ^ 60 := by decide +kernel
    omega
  -- a hundred on
  refine cut (h₀ := h₀) (L := L) (TJ kd od wl wvs nl st D ws ce oc own ns fun m' => (∃ t, m' (Str.ofString "number") = some (.int n t)) ∧ ∃ t, m' (Str.ofString "word") = some (.str (wordOf n) t)) ?_ ?_
  · k_steps
    all_goals walk_at "my end"
    all_goals exact ⟨⟨_, rfl⟩, _, rfl⟩
  clear F N i0 i1 c0 c1 v0 v1 v2 hnv
  intro m₁₀ news₁₀ h₁₀ k₁₀ F N j
  obtain ⟨i, ti, c, tc, rfl, e1, e2, i0, i1, c0, c1, ⟨tn, e3⟩, tw, e4⟩ := j
  replace F := fr_four F e1 e2 e3 e4
  clear e1 e2 e3 e4
  dsimp only [led, List.cons_append, List.nil_append] at N
  -- apnumber
  refine cut (h₀ := h₀) (L := L) (TJ kd od wl wvs nl st D ws ce oc own ns fun m' => (∃ t, m' (Str.ofString "number") = some (.int n t)) ∧ ∃ t, m' (Str.ofString "word") = some (.str (wordOf n) t)) ?_ ?_
  · k_steps
    all_goals walk_at "my end"
    all_goals exact ⟨⟨_, rfl⟩, _, rfl⟩
  clear F N i0 i1 c0 c1
  intro m₁₁ news₁₁ h₁₁ k₁₁ F N j
  obtain ⟨i, ti, c, tc, rfl, e1, e2, i0, i1, c0, c1, ⟨tn, e3⟩, tw, e4⟩ := j
  replace F := fr_four F e1 e2 e3 e4
  clear e1 e2 e3 e4
  dsimp only [led, List.cons_append, List.nil_append] at N
  -- parts
  refine cut (h₀ := h₀) (L := L) (TJ kd od wl wvs nl st D ws ce oc own ns fun m' => (∃ t, m' (Str.ofString "number") = some (.int n t)) ∧ ∃ t, m' (Str.ofString "word") = some (.str (wordOf n) t)) ?_ ?_
  · k_steps
    all_goals walk_at "my end"
    all_goals exact ⟨⟨_, rfl⟩, _, rfl⟩
  clear F N i0 i1 c0 c1
  intro m₁₂ news₁₂ h₁₂ k₁₂ F N j
  obtain ⟨i, ti, c, tc, rfl, e1, e2, i0, i1, c0, c1, ⟨tn, e3⟩, tw, e4⟩ := j
  replace F := fr_four F e1 e2 e3 e4
  clear e1 e2 e3 e4
  dsimp only [led, List.cons_append, List.nil_append] at N
  have hwl : wvs.length ≤ 100 := by rw [hwords.len]; exact hnums
  -- the last row
  k_steps
  unfold Stop
  (rename News _ _ _ _ => N')
  rw [List.push_toArray] at N'
  refine' OJ.close ?eF ?eN ?sub ?sob ?f1 ?f2 ?ia ?ib ?ca ?cb (hwords.snoc n tw hn) ?hq
  case eF => k_asm
  case eN => exact N'
  case sub => walk_at "my sub"
  case sob => walk_at "my sub"
  case f1 => rfl
  case f2 => rfl
  case ia => assumption
  case ib => assumption
  case ca => assumption
  case cb => assumption
  case hq => rw [List.length_append]; rfl
end Mine
end
section
open PySem PySem.W PyProof.Rows PyProof.V
namespace Mine
section
variable {prog : Program} {w : World} {A : Around} {E : Value → Shared → Prop} {s : Shared} {env : Env} {h₀ : Heap} {x : PySem.Str} {body : List Stmt} {Q : Flow → Shared → Prop}
/-- a loop over a range by what holds ahead of each turn, told by the turn's number -/
theorem range_turns {r : Addr} {a₀ b₀ : Int} {t₀ u₀ v₀ : Tok} {n : Nat} {m₀ : PySem.Str → Option Value} {news : List (Addr × Obj)} (J : Nat → (PySem.Str → Option Value) → List (Addr × Obj) → Prop)
    (hh : A.handled = none) (hr : IsRange s.heap r a₀ b₀ 1 t₀ u₀ v₀) (hsmall : Builtin.Range.small a₀ b₀ 1 = true) (hn : Builtin.Range.rangeSize a₀ b₀ 1 = (n : Int)) (F : Fr h₀ env.locals s.heap m₀) (N : News h₀ env.locals s.heap news) (hj : J 0 m₀ news)
    (turn : ∀ i t m₁ nx h tk own, i < n → OwnOff own (news.map (·.1)) → J i m₁ nx → Fr h₀ env.locals h (fun y => if y = x then some (.int (a₀ + (i : Int)) t) else m₁ y) → News h₀ env.locals h (nx ++ own) →
      wpAny (model prog w) A (execs body env) (InvPostN h₀ env.locals (J (i + 1)) own (news.map (·.1)) { s with heap := h, toks := tk } Q) E { s with heap := h, toks := tk })
    (done : ∀ m₁ nx h tk, J n m₁ nx → Fr h₀ env.locals h m₁ → News h₀ env.locals h nx → Q .next { s with heap := h, toks := tk }) :
    wpAny (model prog w) A (pyIter (.ref r)) (fun it s₂ => LoopAtV prog w A h₀ env x body Q E it s₂) E s := by
  refine wpAny_pyIter_range hr hsmall ?_
  have W : Walks prog w A s.heap.objs.size [s.heap.objs.size] [s.heap.objs.size] n (fun i v => i < n ∧ ∃ t, v = .int (a₀ + i * 1) t)
      (fun i h => IsRangeIter h s.heap.objs.size (a₀ + (i : Nat) * 1) ((n : Int) - (i : Nat)) 1) := (Walks.range hh _ a₀ 1 n).bound
  have off : ∀ p ∈ news, p.1 ∉ [s.heap.objs.size] := by
    intro p hp hI
    exact absurd (Heap.lt_size (N p hp).1) ((List.mem_singleton.mp hI) ▸ Nat.lt_irrefl _)
  refine loop_invN J W ?_ ?_ off off ?_ (F.push _) (fun p hp => ⟨Heap.get?_push_of_some _ (N p hp).1, (N p hp).2⟩) hj ?_ ?_
  · intro hm
    exact absurd F.ns.lt ((List.mem_singleton.mp hm) ▸ Nat.lt_irrefl _)
  · intro b hb
    rw [List.mem_singleton.mp hb]
    exact next_is_new F
  · show IsRangeIter _ _ _ _ _
    rw [hn]
    simpa using Heap.get?_push_size _ rfl
  · rintro i v m₁ nx h tk own hi ⟨_, t, rfl⟩ _ ho hJ F₁ N₁
    rw [Int.mul_one] at F₁
    exact turn i t m₁ nx h tk own hi ho hJ F₁ N₁
  · intro m₁ nx h tk hJ F₁ N₁
    exact done m₁ nx h tk hJ F₁ N₁
end
theorem ap_lit {w : World} {mean : ExcName → Option Value} {mg mb : PySem.Str → Option Value} {n : Int} {t : Tok} {x : PySem.Str} (hn : n.natAbs < 10 ^ 60) (hx : apOf n = x) : Tell w mean mg mb 146 [.int n t] (fun v => ∃ t', v = .str x t') := by
  subst hx; exact ap_i hn
/-- the table behind q numbers -/
def pairsTo (q : Nat) : List (PyData × PyData) := (List.range q).map fun (k : Nat) => (PyData.str (apOf (0 + (k : Int))), PyData.int (0 + (k : Int)))
theorem pairs_put {i : Nat} (hi : i < 10) : putD (PyData.str (apOf (0 + (i : Int)))) (PyData.int (0 + (i : Int))) (pairsTo i) = pairsTo (i + 1) := by
  have : i = 0 ∨ i = 1 ∨ i = 2 ∨ i = 3 ∨ i = 4 ∨ i = 5 ∨ i = 6 ∨ i = 7 ∨ i = 8 ∨ i = 9 := by omega
  rcases this with rfl | rfl | rfl | rfl | rfl | rfl | rfl | rfl | rfl | rfl <;> rfl
def pairsAll : List (PyData × PyData) := [(PyData.str (Str.ofString "zero"), PyData.int 0), (PyData.str (Str.ofString "one"), PyData.int 1), (PyData.str (Str.ofString "two"), PyData.int 2), (PyData.str (Str.ofString "three"), PyData.int 3), (PyData.str (Str.ofString "four"), PyData.int 4), (PyData.str (Str.ofString "five"), PyData.int 5), (PyData.str (Str.ofString "six"), PyData.int 6), (PyData.str (Str.ofString "seven"), PyData.int 7), (PyData.str (Str.ofString "eight"), PyData.int 8), (PyData.str (Str.ofString "nine"), PyData.int 9)]
theorem pairs_all : pairsTo 10 = pairsAll := rfl
theorem pairs_len {i : Nat} (hi : i < 10) : (pairsTo i).length ≤ sizeLine := by
  unfold pairsTo
  rw [List.length_map, List.length_range]
  have : 10 ≤ sizeLine := Nat.le_of_ble_eq_true rfl
  omega
/-- what the table's loop keeps -/
def DJ (w : World) (kd wl : Addr) (lw : Obj) (ce : Addr) (oc : Obj) (q : Nat) (m' : PySem.Str → Option Value) (nx : List (Addr × Obj)) : Prop :=
  ∃ od kvs, nx = [(kd, od), (wl, lw), (ce, oc)] ∧ m' (Str.ofString "words") = some (.ref wl) ∧ od.IsDictOf (PySem.strKind PySem.Challenge.rw_fv0010_01.row.prog w) kvs ∧ FlatPairs PyData.str kvs (pairsTo q)
theorem DJ.close {w : World} {h₀ : Heap} {L : Addr} {s : Shared} {h' : Heap} {tk : Nat} {m' : PySem.Str → Option Value} {news own : List (Addr × Obj)} {Q : Flow → Shared → Prop} {kd wl : Addr} {lw : Obj} {ce : Addr} {oc od : Obj} {q : Nat} {kvs : List (PySem.Str × Value)} {D : List (PyData × PyData)}
    (F : Fr h₀ L h' m') (N : News h₀ L h' news) (hs : ∀ p ∈ [(kd, od), (wl, lw), (ce, oc)], p ∈ news) (ho : ∀ p ∈ own, p ∈ news) (e1 : m' (Str.ofString "words") = some (.ref wl))
    (hd : od.IsDictOf (PySem.strKind PySem.Challenge.rw_fv0010_01.row.prog w) kvs) (hf : FlatPairs PyData.str kvs D) (e : D = pairsTo q) :
    InvPostN h₀ L (DJ w kd wl lw ce oc q) own [kd, wl, ce] s Q .next { s with heap := h', toks := tk } :=
  inv_close F N ⟨od, kvs, rfl, e1, hd, e ▸ hf⟩ hs ho rfl
end Mine
end
section
open PySem PySem.W PySem.Spec PyProof.Rows
namespace Mine
theorem perm_uniq {α : Type} {le : α → α → Prop} (anti : ∀ a b, le a b → le b a → a = b) : ∀ {l l' : List α}, l.Perm l' → l.Pairwise le → l'.Pairwise le → l = l'
  | [], l', p, _, _ => (List.nil_perm.mp p).symm
  | a :: l, l', p, h, h' => by
    cases l' with
    | nil => exact absurd p.length_eq (by simp)
    | cons b r =>
      have e : a = b := by
        have ha : a ∈ b :: r := p.mem_iff.mp (List.mem_cons_self ..)
        have hb : b ∈ a :: l := p.mem_iff.mpr (List.mem_cons_self ..)
        rcases List.mem_cons.mp ha with e | ha
        · exact e
        · rcases List.mem_cons.mp hb with e | hb
          · exact e.symm
          · exact anti _ _ (List.rel_of_pairwise_cons h hb) (List.rel_of_pairwise_cons h' ha)
      subst e
      rw [perm_uniq anti (List.Perm.cons_inv p) (List.pairwise_cons.mp h).2 (List.pairwise_cons.mp h').2]
def sle (a b : PySem.Str) : Prop := ltCps b.cps.toList a.cps.toList = false
theorem sle_iff {a b : PySem.Str} : sle a b ↔ a.cps.toList ≤ b.cps.toList := by
  unfold sle
  rw [ltCps_eq, decide_eq_false_iff_not]
  exact List.not_lt
theorem sle_anti (a b : PySem.Str) (h : sle a b) (h' : sle b a) : a = b := by
  have := List.le_antisymm (sle_iff.mp h) (sle_iff.mp h')
  exact Str.ext' (by simpa using this)
theorem sle_trans {a b c : PySem.Str} (h : sle a b) (h' : sle b c) : sle a c := sle_iff.mpr (List.le_trans (sle_iff.mp h) (sle_iff.mp h'))
theorem rising_pairwise : ∀ (p : PySem.Str) (l : List PySem.Str), risingS p l = true → (p :: l).Pairwise sle
  | p, [], _ => List.pairwise_singleton ..
  | p, x :: r, h => by
    have h' : (!ltCps x.cps.toList p.cps.toList && risingS x r) = true := h
    rw [Bool.and_eq_true, Bool.not_eq_true'] at h'
    have ih := rising_pairwise x r h'.2
    refine List.pairwise_cons.mpr ⟨fun y hy => ?_, ih⟩
    rcases List.mem_cons.mp hy with rfl | hy
    · exact h'.1
    · exact sle_trans (show sle p x from h'.1) (List.rel_of_pairwise_cons ih hy)
theorem sorted_pairwise : ∀ l : List PySem.Str, sortedS l = true → l.Pairwise sle
  | [], _ => .nil
  | x :: r, h => rising_pairwise x r h
theorem sorted_uniq {l l' : List PySem.Str} (p : l.Perm l') (h : sortedS l = true) (h' : sortedS l' = true) : l = l' :=
  perm_uniq sle_anti p (sorted_pairwise _ h) (sorted_pairwise _ h')
/-- texts as values, each with a token of its own -/
def strVals : List PySem.Str → Nat → (Nat → Tok) → List Value
  | [], _, _ => []
  | x :: r, k, t => .str x (t k) :: strVals r (k + 1) t
theorem strVals_of : ∀ {vs : List Value} {ss : List PySem.Str}, StrsAre vs ss → ∀ k, ∃ t, vs = strVals ss k t
  | _, _, .nil, _ => ⟨fun _ => 0, rfl⟩
  | _, _, .cons y u h, k => by
    obtain ⟨t, e⟩ := strVals_of h (k + 1)
    refine ⟨fun i => if i = k then u else t i, ?_⟩
    have aux : ∀ (l : List PySem.Str) (j : Nat), k < j → strVals l j t = strVals l j (fun i => if i = k then u else t i) := by
      intro l
      induction l with
      | nil => intro j _; rfl
      | cons x r ih =>
        intro j hj
        show Value.str x (t j) :: _ = Value.str x (if j = k then u else t j) :: _
        rw [if_neg (by omega), ih (j + 1) (by omega)]
    show _ = Value.str y (if k = k then u else t k) :: _
    rw [if_pos rfl, ← aux _ _ (Nat.lt_succ_self k), ← e]
section
variable {prog : Program} {w : World} {A : Around} {E : Value → Shared → Prop} {s : Shared} {h₀ : Heap} {L D : Addr} {m : PySem.Str → Option Value} {news : List (Addr × Obj)} {vs : List Value} {n : Nat}
theorem strs_sort {ss q : List PySem.Str} {news' : (Nat → Tok) → List (Addr × Obj)} {Q : Value → Shared → Prop} (F : Fr h₀ L s.heap m) (N : News h₀ L s.heap news)
    (U : ∀ t, Upd D (W.listOf vs.toArray n) (W.listOf (strVals q 0 t).toArray (n + 2)) news (news' t)) (hS : StrsAre vs ss) (hq : q.Perm ss) (hqs : sortedS q = true) (hne : vs.length ≠ 0) (h64 : vs.length < 64)
    (h : ∀ t h', Fr h₀ L h' m → News h₀ L h' (news' t) → Q .none { s with heap := h' }) : wpAny (model prog w) A (call (.builtin "list.sort") [.ref D]) Q E s := by
  obtain ⟨pre0, post0, e0, -, -, -⟩ := (U fun _ => 0).split
  have z := N (D, W.listOf vs.toArray n) (by rw [e0]; exact List.mem_append.mpr (.inr (.head _)))
  have ho : s.heap.get? D = some (seqObj "list" vs.toArray n) := z.1
  refine wpAny_call_entry PyProof.Rows.slot_list_sort ⟨_, z.1, rfl⟩ PyProof.Rows.entry_list_sort (list_sort_treeK strKind_oneLt ho hS.keysOf (fun v₁ v₂ rest e => keyKind_strs (by rw [← e]; exact hS)) h64 fun st' hp hs => ⟨.none, rfl, ?_⟩) (PyProof.Rows.args_list_sort _)
  obtain ⟨ss', k1, k2, k3⟩ := sorted_out_str hS hp hs
  have hns : ss' = q := sorted_uniq (k2.trans hq.symm) k3 hqs
  subst hns
  obtain ⟨t, et⟩ := strVals_of k1 0
  have hlen : ((arrOf st').map (·.2)).size ≠ 0 := by
    have h1 := StrsAre.length k1
    have h2 := k2.length_eq
    have h3 := StrsAre.length hS
    have h4 : ((arrOf st').map (·.2)).toList.length = ((arrOf st').map (·.2)).size := Array.length_toList
    omega
  obtain ⟨pre, post, e1, e2, a, b⟩ := (U t).split
  rw [e1] at N
  have hv : vs.toArray.size ≠ 0 := by simpa using hne
  have F1 : Fr h₀ L (s.heap.update D (Obj.mapSeq fun _ => (#[] : Array Value))) m := F.change (Heap.SameBut.update ..) z.2.1 z.2.2
  have N1 := ki_turn (fun _ => (#[] : Array Value)) (its' := #[]) (n' := n + 1) N a b rfl (by rw [if_neg]; intro h; exact hv (beq_iff_eq.mp h).symm)
  have N2 := News.grown N1 fun _ _ e => Heap.get?_push_of_some (seqObj "tuple" vs.toArray 0) e
  have N3 := News.grown N2 fun _ _ e => Heap.get?_push_of_some (seqObj "list" #[] 0) e
  have N4 := ki_turn (fun _ => (arrOf st').map (·.2)) (its' := (arrOf st').map (·.2)) (n' := n + 2) N3 a b rfl (by rw [if_neg]; intro h; exact hlen (beq_iff_eq.mp h))
  have F4 : Fr h₀ L ((((s.heap.update D (Obj.mapSeq fun _ => (#[] : Array Value))).push (seqObj "tuple" vs.toArray 0)).push (seqObj "list" #[] 0)).update D (Obj.mapSeq fun _ => (arrOf st').map (·.2))) m :=
    ((F1.push (seqObj "tuple" vs.toArray 0)).push (seqObj "list" #[] 0)).change (Heap.SameBut.update ..) z.2.1 z.2.2
  refine h t _ F4 ?_
  rw [e2]
  have eo : (arrOf st').map (·.2) = (strVals ss' 0 t).toArray := by rw [← et, Array.toArray_toList]
  rw [← eo]
  exact N4
end
end Mine
end
section
open PySem PySem.W PyProof.Rows PySem.Spec PySem.StrLaws PySem.Builtin PySem.Builtin.Str
namespace Mine
theorem word_len {n : Int} (hn : n.natAbs < 10 ^ 60) : (wordOf n).length ≤ 63 := by
  have hl := num_len hn
  have hl2 : (sufOf n).length ≤ 2 := sufAt_len _
  unfold wordOf
  rw [Str.length_append]
  omega
/-- no comma, no a -/
def Free (w : PySem.Str) : Prop := ∀ c ∈ w.cps.toList, c ≠ 44 ∧ c ≠ 97
theorem suf_free (k : Int) : Free (sufAt k) := by
  unfold sufAt Free
  repeat' split
  all_goals decide
theorem word_free (n : Int) : Free (wordOf n) := by
  intro c hc
  unfold wordOf at hc
  rw [Str.cps_append, Array.toList_append, cps_num] at hc
  rcases List.mem_append.mp hc with hc | hc
  · have := numCps_signs n c hc
    omega
  · exact suf_free _ c hc
theorem chain_next {x y : PySem.Str} {n a f : Nat} {cuts : List Nat} (h : ChainG x y n a cuts f) (hend : ∀ k, f ≤ k → ¬ At x y n k) {c : Nat} (hac : a ≤ c) (hc : At x y n c) (hno : ∀ k, a ≤ k → k < c → ¬ At x y n k) :
    ∃ r, cuts = c :: r ∧ ChainG x y n (c + y.length) r f := by
  cases cuts with
  | nil =>
    have e : f = a := h
    exact absurd hc (hend c (e ▸ hac))
  | cons d r =>
    obtain ⟨h1, h2, h3, h4⟩ := h
    have e : d = c := by
      rcases Nat.lt_trichotomy d c with hlt | e | hlt
      · exact absurd h2 (hno d h1 hlt)
      · exact e
      · exact absurd hc (h3 c hac hlt)
    subst e
    exact ⟨r, rfl, h4⟩
theorem chain_stop {x y : PySem.Str} {n a f : Nat} {cuts : List Nat} (h : ChainG x y n a cuts f) (hno : ∀ k, a ≤ k → ¬ At x y n k) : cuts = [] := by
  cases cuts with
  | nil => rfl
  | cons d r => exact absurd h.2.1 (hno d h.1)
/-- what lies at a place -/
theorem at_nth {x y : PySem.Str} {n k j : Nat} (h : At x y n k) (hj : j < y.cps.toList.length) : x.cps.toList[k + j]? = y.cps.toList[j]? := by
  have h2 := h.2
  rw [subAt_eq] at h2
  have e := beq_iff_eq.mp h2
  rw [← e, List.getElem?_take_of_lt (by have : y.cps.toList.length = y.length := Array.length_toList; omega), List.getElem?_drop]
theorem at_of {x y : PySem.Str} {A B : List Nat} {k : Nat} (h : x.cps.toList = A ++ (y.cps.toList ++ B)) (hk : k = A.length) : At x y x.length k := by
  subst hk
  have hx : x.cps.toList.length = x.length := Array.length_toList
  have hy : y.cps.toList.length = y.length := Array.length_toList
  refine ⟨?_, ?_⟩
  · rw [← hx, ← hy, h]
    simp only [List.length_append]
    omega
  · rw [subAt_eq, h, List.drop_left, ← hy, List.take_left]
    exact beq_self_eq_true _
theorem mid_mem {l A W B : List Nat} {k : Nat} (h : l = A ++ (W ++ B)) (h1 : A.length ≤ k) (h2 : k < A.length + W.length) : ∃ c ∈ W, l[k]? = some c := by
  subst h
  rw [List.getElem?_append_right h1, List.getElem?_append_left (by omega)]
  exact ⟨W[k - A.length], List.getElem_mem _, List.getElem?_eq_getElem _⟩
theorem sub_mid {x w : PySem.Str} {A B : List Nat} {i j : Nat} (h : x.cps.toList = A ++ (w.cps.toList ++ B)) (hi : i = A.length) (hj : j = A.length + w.cps.toList.length) : strSub x i j = w := by
  apply Str.ext'
  apply Array.toList_inj.mp
  subst hi hj
  rw [strSub_toList, h, List.drop_left]
  have e : A.length + w.cps.toList.length - A.length = w.cps.toList.length := by omega
  rw [e, List.take_left]
theorem sep_cps : (Str.ofString ", ").cps.toList = [44, 32] := by decide
theorem and_cps : (Str.ofString " and ").cps.toList = [32, 97, 110, 100, 32] := by decide
/-- the three first words, joined -/
def joined (x y z : PySem.Str) : PySem.Str := x ++ Str.ofString ", " ++ y ++ Str.ofString ", " ++ z
def four (x y z w : PySem.Str) : PySem.Str := joined x y z ++ Str.ofString ", " ++ w
def saidT (x y z w : PySem.Str) : PySem.Str := joined x y z ++ (Str.ofString " and " ++ w)
theorem join_three (x y z : PySem.Str) : Txt.join (Str.ofString ", ") [x, y, z] = joined x y z := rfl
theorem four_cps (x y z w : PySem.Str) : (four x y z w).cps.toList = x.cps.toList ++ ([44, 32] ++ (y.cps.toList ++ ([44, 32] ++ (z.cps.toList ++ ([44, 32] ++ w.cps.toList))))) := by
  unfold four joined
  simp only [Str.cps_append, Array.toList_append, sep_cps, List.append_assoc]
theorem said_cps (x y z w : PySem.Str) : (saidT x y z w).cps.toList = (joined x y z).cps.toList ++ ([32, 97, 110, 100, 32] ++ w.cps.toList) := by
  unfold saidT
  simp only [Str.cps_append, Array.toList_append, and_cps]
theorem sep_len : (Str.ofString ", ").length = 2 := by decide
theorem and_len : (Str.ofString " and ").length = 5 := by decide
theorem sep_no {x : PySem.Str} {k : Nat} {A W B : List Nat} (hf : ∀ c ∈ W, c ≠ 44 ∧ c ≠ 97) (h : x.cps.toList = A ++ (W ++ B)) (h1 : A.length ≤ k) (h2 : k < A.length + W.length) : ¬ At x (Str.ofString ", ") x.length k := by
  intro hA
  obtain ⟨c, hc, e⟩ := mid_mem h h1 h2
  have e2 := at_nth hA (j := 0) (by rw [sep_cps]; decide)
  rw [Nat.add_zero, e, sep_cps] at e2
  exact (hf c hc).1 (by simpa using e2)
theorem occ_four {x y z w : PySem.Str} (hx : Free x) (hy : Free y) (hz : Free z) (hw : Free w) :
    occurrences (four x y z w) (Str.ofString ", ") 0 (four x y z w).length ((four x y z w).length + 1) =
      [x.cps.toList.length, x.cps.toList.length + 2 + y.cps.toList.length, x.cps.toList.length + 2 + y.cps.toList.length + 2 + z.cps.toList.length] := by
  obtain ⟨f, h, hend⟩ := occ_tight (four x y z w) (Str.ofString ", ") (by rw [sep_len]; decide)
  have hc := four_cps x y z w
  generalize hT : four x y z w = T at *
  have hlen : T.length = x.cps.toList.length + 2 + y.cps.toList.length + 2 + z.cps.toList.length + 2 + w.cps.toList.length := by
    have : T.cps.toList.length = T.length := Array.length_toList
    rw [← this, hc]
    simp only [List.length_append, List.length_cons, List.length_nil]
    omega
  obtain ⟨r1, e1, h⟩ := chain_next (c := x.cps.toList.length) h hend (Nat.zero_le _) (at_of (A := x.cps.toList) (B := y.cps.toList ++ ([44, 32] ++ (z.cps.toList ++ ([44, 32] ++ w.cps.toList)))) (by rw [sep_cps]; exact hc) rfl)
    fun k _ k2 => sep_no (A := []) (W := x.cps.toList) hx (by rw [hc]; rfl) (Nat.zero_le _) (by simp only [List.length_append, List.length_cons, List.length_nil] <;> omega)
  have hc2 : T.cps.toList = (x.cps.toList ++ [44, 32]) ++ (y.cps.toList ++ ([44, 32] ++ (z.cps.toList ++ ([44, 32] ++ w.cps.toList)))) := by rw [hc]; simp only [List.append_assoc]
  rw [sep_len] at h
  obtain ⟨r2, e2, h⟩ := chain_next (c := x.cps.toList.length + 2 + y.cps.toList.length) h hend (by omega)
    (at_of (A := x.cps.toList ++ [44, 32] ++ y.cps.toList) (B := z.cps.toList ++ ([44, 32] ++ w.cps.toList)) (by rw [sep_cps, hc2]; simp only [List.append_assoc]) (by simp only [List.length_append, List.length_cons, List.length_nil] <;> omega))
    fun k k1 k2 => sep_no (A := x.cps.toList ++ [44, 32]) (W := y.cps.toList) hy hc2 (by simp only [List.length_append, List.length_cons, List.length_nil] <;> omega) (by simp only [List.length_append, List.length_cons, List.length_nil] <;> omega)
  have hc3 : T.cps.toList = (x.cps.toList ++ [44, 32] ++ y.cps.toList ++ [44, 32]) ++ (z.cps.toList ++ ([44, 32] ++ w.cps.toList)) := by rw [hc]; simp only [List.append_assoc]
  rw [sep_len] at h
  obtain ⟨r3, e3, h⟩ := chain_next (c := x.cps.toList.length + 2 + y.cps.toList.length + 2 + z.cps.toList.length) h hend (by omega)
    (at_of (A := x.cps.toList ++ [44, 32] ++ y.cps.toList ++ [44, 32] ++ z.cps.toList) (B := w.cps.toList) (by rw [sep_cps, hc3]; simp only [List.append_assoc]) (by simp only [List.length_append, List.length_cons, List.length_nil] <;> omega))
    fun k k1 k2 => sep_no (A := x.cps.toList ++ [44, 32] ++ y.cps.toList ++ [44, 32]) (W := z.cps.toList) hz hc3 (by simp only [List.length_append, List.length_cons, List.length_nil] <;> omega) (by simp only [List.length_append, List.length_cons, List.length_nil] <;> omega)
  have hc4 : T.cps.toList = (x.cps.toList ++ [44, 32] ++ y.cps.toList ++ [44, 32] ++ z.cps.toList ++ [44, 32]) ++ (w.cps.toList ++ []) := by rw [hc]; simp only [List.append_assoc, List.append_nil]
  rw [sep_len] at h
  have e4 := chain_stop h fun k k1 hA => sep_no (A := x.cps.toList ++ [44, 32] ++ y.cps.toList ++ [44, 32] ++ z.cps.toList ++ [44, 32]) (W := w.cps.toList) hw hc4 (by simp only [List.length_append, List.length_cons, List.length_nil] <;> omega)
    (by have := hA.1; rw [sep_len, hlen] at this; simp only [List.length_append, List.length_cons, List.length_nil] <;> omega) hA
  rw [e1, e2, e3, e4]
theorem kind_small {x : PySem.Str} : (decide (Builtin.Str.strKind x < Builtin.Str.strKind (Str.ofString ", "))) = false := by
  have e : Builtin.Str.strKind (Str.ofString ", ") = 1 := by decide +kernel
  rw [e]
  refine decide_eq_false ?_
  unfold Builtin.Str.strKind
  repeat' split
  all_goals decide
theorem split_four {x y z w : PySem.Str} (hx : Free x) (hy : Free y) (hz : Free z) (hw : Free w) : Txt.split (four x y z w) (Str.ofString ", ") = [x, y, z, w] := by
  have hc := four_cps x y z w
  have ho := occ_four hx hy hz hw
  have hlen : (four x y z w).length = x.cps.toList.length + 2 + y.cps.toList.length + 2 + z.cps.toList.length + 2 + w.cps.toList.length := by
    have : (four x y z w).cps.toList.length = (four x y z w).length := Array.length_toList
    rw [← this, hc]
    simp only [List.length_append, List.length_cons, List.length_nil]
    omega
  unfold Txt.split
  rw [kind_small, Bool.or_false, ho, sep_len]
  rw [if_neg (by rw [decide_eq_true_eq, hlen]; omega), if_neg (by simp)]
  unfold partsBetween
  simp only [List.map_cons, List.map_nil, List.cons_append, List.nil_append, List.zip_cons_cons, List.zip_nil_right]
  rw [sub_mid (x := four x y z w) (w := x) (A := []) (B := [44, 32] ++ (y.cps.toList ++ ([44, 32] ++ (z.cps.toList ++ ([44, 32] ++ w.cps.toList))))) (i := 0) (j := x.cps.toList.length) hc rfl (by simp only [List.length_append, List.length_cons, List.length_nil] <;> omega),
    sub_mid (x := four x y z w) (w := y) (A := x.cps.toList ++ [44, 32]) (B := [44, 32] ++ (z.cps.toList ++ ([44, 32] ++ w.cps.toList))) (by rw [hc]; simp only [List.append_assoc]) (by simp only [List.length_append, List.length_cons, List.length_nil] <;> omega) (by simp only [List.length_append, List.length_cons, List.length_nil] <;> omega),
    sub_mid (x := four x y z w) (w := z) (A := x.cps.toList ++ [44, 32] ++ y.cps.toList ++ [44, 32]) (B := [44, 32] ++ w.cps.toList) (by rw [hc]; simp only [List.append_assoc]) (by simp only [List.length_append, List.length_cons, List.length_nil] <;> omega) (by simp only [List.length_append, List.length_cons, List.length_nil] <;> omega),
    sub_mid (x := four x y z w) (w := w) (A := x.cps.toList ++ [44, 32] ++ y.cps.toList ++ [44, 32] ++ z.cps.toList ++ [44, 32]) (B := []) (by rw [hc]; simp only [List.append_assoc, List.append_nil]) (by simp only [List.length_append, List.length_cons, List.length_nil] <;> omega) (by rw [hlen]; simp only [List.length_append, List.length_cons, List.length_nil])]
theorem joined_no97 {x y z : PySem.Str} (hx : Free x) (hy : Free y) (hz : Free z) : ∀ c ∈ (joined x y z).cps.toList, c ≠ 97 := by
  intro c hc
  unfold joined at hc
  simp only [Str.cps_append, Array.toList_append, sep_cps, List.mem_append] at hc
  rcases hc with (((hc | hc) | hc) | hc) | hc
  · exact (hx c hc).2
  · rintro rfl; revert hc; decide
  · exact (hy c hc).2
  · rintro rfl; revert hc; decide
  · exact (hz c hc).2
theorem and_no {x : PySem.Str} {k : Nat} {A W B : List Nat} (hf : ∀ c ∈ W, c ≠ 97) (h : x.cps.toList = A ++ (W ++ B)) (h1 : A.length ≤ k + 1) (h2 : k + 1 < A.length + W.length) : ¬ At x (Str.ofString " and ") x.length k := by
  intro hA
  obtain ⟨c, hc, e⟩ := mid_mem h h1 h2
  have e2 := at_nth hA (j := 1) (by rw [and_cps]; decide)
  rw [e, and_cps] at e2
  exact hf c hc (by simpa using e2)
theorem said_len (x y z w : PySem.Str) : (saidT x y z w).length = (joined x y z).cps.toList.length + 5 + w.cps.toList.length := by
  have : (saidT x y z w).cps.toList.length = (saidT x y z w).length := Array.length_toList
  rw [← this, said_cps]
  simp only [List.length_append, List.length_cons, List.length_nil]
  omega
theorem occ_said {x y z w : PySem.Str} (hx : Free x) (hy : Free y) (hz : Free z) (hw : Free w) :
    occurrences (saidT x y z w) (Str.ofString " and ") 0 (saidT x y z w).length ((saidT x y z w).length + 1) = [(joined x y z).cps.toList.length] := by
  obtain ⟨f, h, hend⟩ := occ_tight (saidT x y z w) (Str.ofString " and ") (by rw [and_len]; decide)
  have hc := said_cps x y z w
  have hlen := said_len x y z w
  have hj := joined_no97 hx hy hz
  generalize saidT x y z w = T at *
  generalize (joined x y z).cps.toList = J at *
  obtain ⟨r1, e1, h⟩ := chain_next (c := J.length) h hend (Nat.zero_le _) (at_of (A := J) (B := w.cps.toList) (by rw [and_cps]; exact hc) rfl)
    fun k _ k2 => and_no (A := []) (W := J ++ [32]) (B := [97, 110, 100, 32] ++ w.cps.toList) (by
      intro c hc'
      rcases List.mem_append.mp hc' with q | q
      · exact hj c q
      · rw [List.mem_singleton.mp q]; decide) (by rw [hc]; simp) (Nat.zero_le _) (by simp only [List.length_append, List.length_cons, List.length_nil]; omega)
  rw [and_len] at h
  have e2 := chain_stop h fun k k1 hA => and_no (A := J ++ [32, 97, 110, 100, 32]) (W := w.cps.toList) (B := []) (fun c hc' => (hw c hc').2) (by rw [hc]; simp) (by simp only [List.length_append, List.length_cons, List.length_nil]; omega)
    (by have := hA.1; rw [and_len, hlen] at this; simp only [List.length_append, List.length_cons, List.length_nil]; omega) hA
  rw [e1, e2]
theorem replace_said {x y z w : PySem.Str} (hx : Free x) (hy : Free y) (hz : Free z) (hw : Free w) : Txt.replace (saidT x y z w) (Str.ofString " and ") (Str.ofString ", ") = four x y z w := by
  have ho := occ_said hx hy hz hw
  have hc := said_cps x y z w
  have hlen := said_len x y z w
  unfold Txt.replace
  rw [ho, and_len]
  rw [if_neg (by simp)]
  unfold partsBetween
  simp only [List.map_cons, List.map_nil, List.cons_append, List.nil_append, List.zip_cons_cons, List.zip_nil_right]
  rw [sub_mid (x := saidT x y z w) (w := joined x y z) (A := []) (B := [32, 97, 110, 100, 32] ++ w.cps.toList) (i := 0) hc rfl (by simp only [List.length_nil]; omega),
    sub_mid (x := saidT x y z w) (w := w) (A := (joined x y z).cps.toList ++ [32, 97, 110, 100, 32]) (B := []) (by rw [hc]; simp) (by simp only [List.length_append, List.length_cons, List.length_nil]) (by rw [hlen]; simp only [List.length_append, List.length_cons, List.length_nil])]
  rfl
theorem count_said {x y z w : PySem.Str} (hx : Free x) (hy : Free y) (hz : Free z) (hw : Free w) : Txt.count (saidT x y z w) (Str.ofString " and ") = 1 := by
  unfold Txt.count
  rw [occ_said hx hy hz hw]
  rfl
theorem ends_said (x y z w : PySem.Str) : Txt.endswith (saidT x y z w) (Str.ofString " and " ++ w) = true := by
  have hlen := said_len x y z w
  have hw : w.cps.toList.length = w.length := Array.length_toList
  have hy : (Str.ofString " and " ++ w).length = 5 + w.length := by rw [Str.length_append, and_len]
  have hA : At (saidT x y z w) (Str.ofString " and " ++ w) (saidT x y z w).length (joined x y z).cps.toList.length :=
    at_of (A := (joined x y z).cps.toList) (B := []) (by rw [said_cps, Str.cps_append, Array.toList_append, and_cps]; simp) rfl
  unfold Txt.endswith
  have e : (saidT x y z w).length - (Str.ofString " and " ++ w).length = (joined x y z).cps.toList.length := by omega
  rw [e, hA.2, Bool.and_true]
  exact decide_eq_true (by omega)
section
variable {prog : Program} {w : World} {A : Around} {E : Value → Shared → Prop} {s : Shared} {h₀ : Heap} {L : Addr} {m : PySem.Str → Option Value} {news : List (Addr × Obj)} {Q : Value → Shared → Prop} {x y z v : PySem.Str} {t u : Tok}
theorem tok_gen {M : Model} {env : Env} {l : List Stmt} {Q : Flow → Shared → Prop} {h : Heap} {g : Array GenState} {d : Drawn} {k : Nat} {o : OsState}
    (hh : ∀ tk, 0 < tk → wpAny M A (execs l env) Q E { heap := h, gens := g, drawn := d, toks := tk, os := o }) : wpAny M A (execs l env) Q E { heap := h, gens := g, drawn := d, toks := k + 1, os := o } := hh _ (Nat.succ_pos _)
theorem joined_len (hx : x.length ≤ 63) (hy : y.length ≤ 63) (hz : z.length ≤ 63) : (joined x y z).length ≤ 193 := by
  unfold joined
  simp only [Str.length_append, sep_len]
  omega
theorem said_short (hx : x.length ≤ 63) (hy : y.length ≤ 63) (hz : z.length ≤ 63) (hv : v.length ≤ 63) : (saidT x y z v).length ≤ 261 := by
  have := joined_len hx hy hz
  unfold saidT
  simp only [Str.length_append, and_len]
  omega
theorem four_short (hx : x.length ≤ 63) (hy : y.length ≤ 63) (hz : z.length ≤ 63) (hv : v.length ≤ 63) : (four x y z v).length ≤ 258 := by
  have := joined_len hx hy hz
  unfold four
  simp only [Str.length_append, sep_len]
  omega
theorem line_big : 1000 ≤ sizeLine := Nat.le_of_ble_eq_true rfl
theorem join_rule {D : Addr} {t1 t2 t3 : Tok} {n : Nat} (N : News h₀ L s.heap news) (hm : (D, W.listOf #[.str x t1, .str y t2, .str z t3] n) ∈ news) (hx : x.length ≤ 63) (hy : y.length ≤ 63) (hz : z.length ≤ 63)
    (h : ∀ t' k, Q (.str (joined x y z) t') { s with toks := k }) : wpAny (model prog w) A (call (.builtin "str.join") [.str (Str.ofString ", ") t, .ref D]) Q E s := by
  refine SC.join (l := [(x, t1), (y, t2), (z, t3)]) ⟨_, (N _ hm).1, rfl, _, rfl⟩ rfl ?_ (fun t' k => ?_)
  · unfold JoinOk tooLong
    rw [Bool.not_eq_true', decide_eq_false_iff_not]
    have := line_big
    have e := sep_len
    show ¬ (0 + x.length + (Str.ofString ", ").length + y.length + (Str.ofString ", ").length + z.length + (Str.ofString ", ").length > sizeLine)
    omega
  · show Q (.str (Txt.join (Str.ofString ", ") [x, y, z]) t') _
    rw [join_three]
    exact h t' k
theorem said_rule (hx : x.length ≤ 63) (hy : y.length ≤ 63) (hz : z.length ≤ 63) (hv : v.length ≤ 63) (h : ∀ t' k, Q (.str (saidT x y z v) t') { s with toks := k }) :
    wpAny (model prog w) A (binaryOp .Add (.str (joined x y z) t) (.str (Str.empty ++ Str.ofString " and " ++ v) u)) Q E s := by
  rw [Str.empty_append]
  refine PyProof.Rows.add_str h ?_
  have := joined_len hx hy hz
  have := line_big
  rw [Str.length_append (Str.ofString " and "), and_len]
  omega
theorem and_rule (hv : v.length ≤ 63) (h : ∀ t' k, Q (.str (Str.ofString " and " ++ v) t') { s with toks := k }) :
    wpAny (model prog w) A (binaryOp .Add (.str (Str.ofString " and ") t) (.str v u)) Q E s := by
  refine PyProof.Rows.add_str h ?_
  have := line_big
  rw [and_len]
  omega
theorem said_replace {p q : Tok} (fx : Free x) (fy : Free y) (fz : Free z) (fv : Free v) (hx : x.length ≤ 63) (hy : y.length ≤ 63) (hz : z.length ≤ 63) (hv : v.length ≤ 63) (hp : p ≠ 0) (hq : q ≠ 0) (hpq : p ≠ q)
    (h : ∀ t' k, Q (.str (four x y z v) t') { s with toks := k }) : wpAny (model prog w) A (call (.builtin "str.replace") [.str (saidT x y z v) t, .str (Str.ofString " and ") p, .str (Str.ofString ", ") q]) Q E s := by
  refine SC.replace hp hq hpq (by decide) ?_ (fun t' k => ?_)
  · have := said_short hx hy hz hv
    rw [sep_len]
    omega
  · rw [replace_said fx fy fz fv]
    exact h t' k
theorem four_split (F : Fr h₀ L s.heap m) (N : News h₀ L s.heap news) (fx : Free x) (fy : Free y) (fz : Free z) (fv : Free v) (hx : x.length ≤ 63) (hy : y.length ≤ 63) (hz : z.length ≤ 63) (hv : v.length ≤ 63)
    (h : ∀ D t1 t2 t3 t4 h' k, Fr h₀ L h' m → News h₀ L h' ((D, W.listOf #[.str x t1, .str y t2, .str z t3, .str v t4] 0) :: news) → (∀ p ∈ news, p.1 < D) → Q (.ref D) { s with heap := h', toks := k }) :
    wpAny (model prog w) A (call (.builtin "str.split") [.str (four x y z v) t, .str (Str.ofString ", ") u]) Q E s := by
  refine splitN1 F N (by decide) (fun l h' k e F' N' => ?_) ?_
  · rw [split_four fx fy fz fv] at e
    match l, e with
    | [(_, t1), (_, t2), (_, t3), (_, t4)], e =>
      simp only [List.map_cons, List.map_nil, List.cons.injEq, and_true] at e
      obtain ⟨rfl, rfl, rfl, rfl⟩ := e
      exact h _ t1 t2 t3 t4 h' k F' N' fun p hp => Heap.lt_size (N p hp).1
  · have := four_short hx hy hz hv
    have := line_big
    omega
theorem said_count (fx : Free x) (fy : Free y) (fz : Free z) (fv : Free v) (h : ∀ t' k, Q (.int 1 t') { s with toks := k }) :
    wpAny (model prog w) A (call (.builtin "str.count") [.str (saidT x y z v) t, .str (Str.ofString " and ") u]) Q E s := by
  refine SC.count ?_
  rw [count_said fx fy fz fv]
  exact h _ _
theorem said_ends (h : Q (.bool true) s) : wpAny (model prog w) A (call (.builtin "str.endswith") [.str (saidT x y z v) t, .str (Str.ofString " and " ++ v) u]) Q E s := by
  refine SC.endswith ?_
  rw [ends_said]
  exact h
end
/-- as CutEnd, the tokens told -/
def CutEndT (h₀ : Heap) (L : Addr) (J : (PySem.Str → Option Value) → List (Addr × Obj) → Prop) (s : Shared) (f : Flow) (s' : Shared) : Prop :=
  f = .next ∧ ∃ h' tk m' news', s' = { s with heap := h', toks := tk } ∧ 0 < tk ∧ Fr h₀ L h' m' ∧ News h₀ L h' news' ∧ J m' news'
theorem cutT {prog : Program} {w : World} {A : Around} {E : Value → Shared → Prop} {s : Shared} {h₀ : Heap} {env : Env} {L : Addr} {st : Stmt} {rest : List Stmt} {Q : Flow → Shared → Prop}
    (J : (PySem.Str → Option Value) → List (Addr × Obj) → Prop)
    (h : wpAny (model prog w) A (exec st env) (CutEndT h₀ L J s) E s)
    (h2 : ∀ m' news' h' tk, 0 < tk → Fr h₀ L h' m' → News h₀ L h' news' → J m' news' → wpAny (model prog w) A (execs rest env) Q E { s with heap := h', toks := tk }) :
    wpAny (model prog w) A (execs (st :: rest) env) Q E s := by
  refine wpAny_execs_cons (wpAny_mono h (fun f s' hf => ?_) fun _ _ e => e)
  obtain ⟨rfl, h', tk, m', news', rfl, ht, F, N, j⟩ := hf
  exact h2 m' news' h' tk ht F N j
theorem CutEndT.intro {h₀ : Heap} {L : Addr} {J : (PySem.Str → Option Value) → List (Addr × Obj) → Prop} {s : Shared} {h' : Heap} {tk : Nat} {m' : PySem.Str → Option Value} {news news' : List (Addr × Obj)}
    (F : Fr h₀ L h' m') (N : News h₀ L h' news) (hs : ∀ p ∈ news', p ∈ news) (j : J m' news') : CutEndT h₀ L J s .next { s with heap := h', toks := tk + 1 } :=
  ⟨rfl, h', tk + 1, m', news', rfl, Nat.succ_pos _, F, (fun p hp => N p (hs p hp)), j⟩
theorem suf_ok (k : Int) : ∀ c ∈ (sufAt k).cps.toList, decide (c < 0x110000) = true := by
  unfold sufAt
  repeat' split
  all_goals decide
theorem word_ok (n : Int) : PyData.strOk (wordOf n) = true := by
  unfold PyData.strOk
  rw [← Array.all_toList, List.all_eq_true]
  intro c hc
  unfold wordOf at hc
  rw [Str.cps_append, Array.toList_append, cps_num] at hc
  rcases List.mem_append.mp hc with hc | hc
  · have := numCps_signs n c hc
    exact decide_eq_true (by omega)
  · exact suf_ok _ c hc
theorem shaped_four {x y z v : PySem.Str} (hx : PyData.strOk x = true) (hy : PyData.strOk y = true) (hz : PyData.strOk z = true) (hv : PyData.strOk v = true) : SeqAt.shaped (.list [.str x, .str y, .str z, .str v]) = true := by
  unfold SeqAt.shaped
  rw [Bool.and_eq_true]
  refine ⟨?_, rfl⟩
  show PyData.canLayAll0 [.str x, .str y, .str z, .str v] = true
  simp only [PyData.canLayAll0, PyData.canLay0, hx, hy, hz, hv, Bool.and_self]
theorem same_four {prog : Program} {w : World} {A : Around} {E : Value → Shared → Prop} {s : Shared} {h₀ : Heap} {L D wl : Addr} {news : List (Addr × Obj)} {Q : Value → Shared → Prop} {x y z v : PySem.Str} {t1 t2 t3 t4 u1 u2 u3 u4 : Tok} {n k : Nat}
    (N : News h₀ L s.heap news) (ha : (D, W.listOf #[.str x t1, .str y t2, .str z t3, .str v t4] n) ∈ news) (hb : (wl, W.listOf #[.str x u1, .str y u2, .str z u3, .str v u4] k) ∈ news) (hu : A.units + 64 < cLine) (hx : PyData.strOk x = true) (hy : PyData.strOk y = true) (hz : PyData.strOk z = true) (hv : PyData.strOk v = true)
    (h : Q (.bool true) s) : wpAny (model prog w) A (compareOp .Eq (.ref D) (.ref wl)) Q E s := by
  refine eq_dataH (da := .list [.str x, .str y, .str z, .str v]) (db := .list [.str x, .str y, .str z, .str v])
    (reads_list_at (N.get ha) rfl rfl (.cons (.str _ _) (.cons (.str _ _) (.cons (.str _ _) (.cons (.str _ _) .nil)))))
    (reads_list_at (N.get hb) rfl rfl (.cons (.str _ _) (.cons (.str _ _) (.cons (.str _ _) (.cons (.str _ _) .nil)))))
    (shaped_four hx hy hz hv) (shaped_four hx hy hz hv) hu ?_
  have e : PyData.eqv (.list [.str x, .str y, .str z, .str v]) (.list [.str x, .str y, .str z, .str v]) = true := by
    simp [PyData.eqv, PyData.eqvAll]
  rw [e]; exact h
/-- the law's end -/
def TailEnd (h₀ : Heap) (L : Addr) (s : Shared) (f : Flow) (s' : Shared) : Prop :=
  f = .ret (.bool true) ∧ ∃ h' tk m' news', s' = { s with heap := h', toks := tk } ∧ Fr h₀ L h' m' ∧ News h₀ L h' news'
theorem TailEnd.intro {h₀ : Heap} {L : Addr} {s : Shared} {h' : Heap} {tk : Nat} {m' : PySem.Str → Option Value} {news' : List (Addr × Obj)} (F : Fr h₀ L h' m') (N : News h₀ L h' news') :
    TailEnd h₀ L s (.ret (.bool true)) { s with heap := h', toks := tk } := ⟨rfl, h', tk, m', news', rfl, F, N⟩
end Mine
end
section
open PySem PySem.W PyProof.Rows PyProof.V
namespace Mine
def StopT (P : Prop) : Prop := P
theorem StopT.of {P : Prop} (h : StopT P) : P := h
local macro_rules | `(tactic| k_all) => `(tactic| assumption)
local macro_rules | `(tactic| walk_at "my tell") => `(tactic| (refine' tell_use ?k1 ?k2 ?k3 ?k4 ?k5 ?kK ?hT ?kr ?ku ?_; (case k1 => k_asm); (case k2 => k_asm); (case k3 => k_asm); (case k4 => k_asm); (case k5 => k_asm); (case kK => exact rfl); (case hT => exact ap_i (by omega)); (case kr => ktr_room); (case ku => ktr_units)))
local macro_rules | `(tactic| walk_at "call ref") => `(tactic| (k_here; (with_reducible show wpAny _ _ (call (Value.ref 146) _) _ _ _); k_dflt (walk_at "my tell"); intro v' h' tk' hv' F' N'; (obtain ⟨t', hv''⟩ := hv'); (subst hv''); (try dsimp only); (try k_sweep)))
local macro_rules | `(tactic| walk_at "pyIter ref") => `(tactic| (refine StopT.of ?_))
local macro_rules | `(tactic| walk_at "InvPostN") => `(tactic| (refine StopT.of ?_))
local macro_rules | `(tactic| walk_at "my sub") => `(tactic| repeat (first | exact List.forall_mem_nil _ | (refine' List.forall_mem_cons.mpr ⟨?ma, ?mb⟩; (case ma => k_mem)) | (intro p hp; (repeat (first | exact hp | exact List.mem_append_left _ hp | exact List.mem_append_right _ hp | apply List.mem_cons_of_mem)))))
local macro_rules | `(tactic| walk_at "setItem ref str") => `(tactic| (k_here; k_dflt (refine' setItem_K PyProof.V.same_str (strKind_is _ _ _ _) (PyProof.V.Flat.int _ _) ?F ?N ?U ?d ?f ?_ ?z; (case F => k_asm); (case N => k_asm); (case U => k_updF); (case d => assumption); (case f => assumption); (case z => assumption)); intro h' o' F' N' hd' hf'; (try dsimp only at N'); (try k_sweep)))
local macro_rules | `(tactic| walk_at "eval ListComp") => `(tactic| (refine StopT.of ?_))
def tenSorted : List PySem.Str := [Str.ofString "eight", Str.ofString "five", Str.ofString "four", Str.ofString "nine", Str.ofString "one", Str.ofString "seven", Str.ofString "six", Str.ofString "three", Str.ofString "two", Str.ofString "zero"]
def tenSaid : List PySem.Str := [Str.ofString "zero", Str.ofString "one", Str.ofString "two", Str.ofString "three", Str.ofString "four", Str.ofString "five", Str.ofString "six", Str.ofString "seven", Str.ofString "eight", Str.ofString "nine"]
theorem ten_perm : tenSorted.Perm tenSaid := by decide
theorem ten_sorted : sortedS tenSorted = true := by decide
local macro_rules | `(tactic| walk_at "call builtin:list.sort") => `(tactic| (k_here; (with_reducible show wpAny _ _ (call (Value.builtin _) [Value.ref _]) _ _ _); k_dflt (refine' strs_sort (q := tenSorted) (ss := tenSaid) ?F ?N ?U ?S ten_perm ten_sorted ?e ?z ?_; (case F => k_asm); (case N => k_asm); (case U => (intro t'; k_upd)); (case S => (repeat (first | exact StrsAre.nil | refine StrsAre.cons _ _ ?_))); (case e => (intro h; cases h)); (case z => exact Nat.le_of_ble_eq_true rfl)); intro t' h' F' N'; (try dsimp only [strVals, tenSorted, List.nil_append, List.cons_append] at N')))
local macro_rules | `(tactic| walk_at "CompSrc") => `(tactic| (k_here; k_dflt (refine LCg.CompSrc.ledger (by rfl) (by k_asm) (by k_asm) (by k_mem) (by exact Nat.le_of_ble_eq_true rfl) ?_; intro g')))
local macro_rules | `(tactic| walk_at "execs cons") => `(tactic| (k_here; refine tok_gen ?_; intro tk htk))
local macro_rules | `(tactic| walk_at "call builtin:str.join") => `(tactic| (k_here; k_dflt (refine' join_rule ?N ?m ?a ?b ?c ?_; (case N => k_asm); (case m => k_mem); (case a => assumption); (case b => assumption); (case c => assumption)); intro t' k'))
local macro_rules | `(tactic| walk_at "binaryOp Add str str") => `(tactic| (first | (refine' said_rule ?a ?b ?c ?d ?_; (case a => assumption); (case b => assumption); (case c => assumption); (case d => assumption)) | (refine' and_rule ?a ?_; (case a => assumption)); intro t' k'))
local macro_rules | `(tactic| walk_at "call builtin:str.replace") => `(tactic| (refine' said_replace (word_free _) (word_free _) (word_free _) (word_free _) ?a ?b ?c ?d ?p ?q ?r ?_; (case a => assumption); (case b => assumption); (case c => assumption); (case d => assumption); (case p => first | exact Nat.ne_of_gt (by assumption) | exact Nat.succ_ne_zero _); (case q => exact Nat.succ_ne_zero _); (case r => exact Nat.ne_of_lt (Nat.lt_succ_self _)); intro t' k'))
local macro_rules | `(tactic| walk_at "call builtin:str.split") => `(tactic| (k_here; k_dflt (refine' four_split ?F ?N (word_free _) (word_free _) (word_free _) (word_free _) ?a ?b ?c ?d ?_; (case F => k_asm); (case N => k_asm); (case a => assumption); (case b => assumption); (case c => assumption); (case d => assumption)); intro D' t1' t2' t3' t4' h' k' F' N' l1; (try k_lt l1); (try k_sweep)))
local macro_rules | `(tactic| walk_at "call builtin:str.count") => `(tactic| (refine said_count (word_free _) (word_free _) (word_free _) (word_free _) ?_; intro t' k'))
local macro_rules | `(tactic| walk_at "call builtin:str.endswith") => `(tactic| (refine said_ends ?_))
local macro_rules | `(tactic| walk_at "compareOp Eq ref ref") => `(tactic| (k_here; k_dflt (refine' same_four ?N ?a ?b ?u (word_ok _) (word_ok _) (word_ok _) (word_ok _) ?_; (case N => k_asm); (case a => k_mem); (case b => k_mem); (case u => exact Nat.le_of_ble_eq_true rfl))))
set_option maxRecDepth 100000 in
set_option maxHeartbeats 8000000 in
theorem tail_tells (w : World) (mean : ExcName → Option Value) (mg mb : PySem.Str → Option Value) (h₀ : Heap) (L fa : Addr) (cdv : Value) (o : Obj) (ho : (hd.heap_39 w.params).lookup 178 = some o)
    (X : (hd.heap_39 w.params).In h₀) (B : Below callerA h₀ [] h₀)
    (T : Top hd.view_39 (looseW hd.view_39 [Str.ofString "_ORDINAL_SUFFIXES", Str.ofString "_APNUMBER_WORDS", Str.ofString "ordinal", Str.ofString "Double"]) mean mg mb h₀)
    (kd : Addr) (od : Obj) (wl : Addr) (oc : Obj) (nl : Nat) (hoc : oc.data = .cell (some (.ref kd))) (lo : (kd == sysModules) = false)
    (hs : Obj.IsDictOf (PySem.strKind PySem.Challenge.rw_fv0010_01.row.prog w) od []) (fs : PyProof.V.FlatPairs PyData.str [] []) (hi : Obj.IsDictOf (intKind PySem.Challenge.rw_fv0010_01.row.prog w) od []) (fi : PyProof.V.FlatPairs PyData.int [] [])
    (a1 a2 a3 a4 : Int) (t1 t2 t3 t4 : Tok)
    (s1 : a1.natAbs < 10 ^ 60) (s2 : a2.natAbs < 10 ^ 60) (s3 : a3.natAbs < 10 ^ 60) (s4 : a4.natAbs < 10 ^ 60)
    (o1 : @LT.lt Nat instLTNat (L + 1) wl) (o4 : @LT.lt Nat instLTNat wl kd)
    (m : PySem.Str → Option Value) (s : Shared)
    (F : Fr h₀ L s.heap (fun y => if y = Str.ofString "words" then some (.ref wl) else m y))
    (N : News h₀ L s.heap [(kd, od), (wl, W.listOf #[.str (wordOf a1) t1, .str (wordOf a2) t2, .str (wordOf a3) t3, .str (wordOf a4) t4] nl), (L + 1, oc)]) :
    wpAny (model PySem.Challenge.rw_fv0010_01.row.prog w) (callerA.deeper (envOfC (fdOf o).qualname (fdOf o).scope L fa cdv)) (execs ((bodyOf (fdOf o)).drop 3) (envOfC (fdOf o).qualname (fdOf o).scope L fa cdv))
      (TailEnd h₀ L s) (fun _ _ => False) s := by
  w_top off
  have e := (rfl : (hd.heap_39 w.params).lookup 178 = some _)
  rw [e] at ho
  cases ho
  clear e
  dsimp only [bodyOf, fdOf, List.drop]
  revert X; k_fill; intro X
  try k_fold
  -- the table of the ten words
  refine wpAny_execs_cons ?_
  refine' wpAny_mono (Q := fun f s' => f = .next ∧ ∃ h' tk m' nx, s' = { s with heap := h', toks := tk } ∧ Fr h₀ L h' m' ∧ News h₀ L h' nx ∧ DJ w kd wl (W.listOf #[.str (wordOf a1) t1, .str (wordOf a2) t2, .str (wordOf a3) t3, .str (wordOf a4) t4] nl) (L + 1) oc 10 m' nx) (E := fun _ _ => False) ?loop ?rest (fun _ _ x => x)
  case loop =>
    k_steps
    unfold StopT
    (rename IsRange _ _ _ _ _ _ _ _ => rgX)
    with_unfolding_all
     refine' range_turns (DJ w kd wl (W.listOf #[.str (wordOf a1) t1, .str (wordOf a2) t2, .str (wordOf a3) t3, .str (wordOf a4) t4] nl) (L + 1) oc) rfl rgX ?small ?size ?F ?N ?R ?turn ?done (n := 10)
    case small => decide
    case size => rfl
    case F => k_asm
    case N => k_asm
    case R => exact ⟨_, _, rfl, rfl, hs, fs⟩
    case turn =>
      intro i t m₂ nx h₂ tk₂ own hi10 hoff j F N
      obtain ⟨od, kvs, rfl, e1, hd, hf⟩ := j
      have hl := pairs_len hi10
      have hown : ∀ p ∈ own, p.1 ≠ kd := fun p hp => hoff p hp kd (by simp)
      replace F : Fr h₀ L h₂ _ := fr_name (x := Str.ofString "words") F ((if_neg (by decide)).trans e1)
      replace N : News h₀ L h₂ ((kd, od) :: (wl, W.listOf #[.str (wordOf a1) t1, .str (wordOf a2) t2, .str (wordOf a3) t3, .str (wordOf a4) t4] nl) :: (L + 1, oc) :: own) := N
      clear e1
      k_steps
      unfold StopT
      refine' DJ.close ?eF ?eN ?sub ?sob ?f1 ?hd ?hf (pairs_put hi10)
      case eF => k_asm
      case eN => k_asm
      case f1 => rfl
      case hf => assumption
      case hd => assumption
      case sub => walk_at "my sub"
      case sob => walk_at "my sub"
    case done =>
      intro m₂ nx h₂ tk₂ j F N
      exact ⟨rfl, h₂, tk₂, m₂, nx, rfl, F, N, j⟩
  case rest =>
    rintro f s' ⟨rfl, h₁, k₁, m₁, nx, rfl, F, N, od', kvs, rfl, e1, hd, hf⟩
    rw [pairs_all] at hf
    replace F := fr_name F e1
    clear e1 hs fs hi fi
    dsimp only
    have lw1 := word_len s1
    have lw2 := word_len s2
    have lw3 := word_len s3
    have lw4 := word_len s4
    -- ten words, each another one, in their order
    refine cut (h₀ := h₀) (L := L) (fun m' nx => ∃ od, nx = [(kd, od), (wl, W.listOf #[.str (wordOf a1) t1, .str (wordOf a2) t2, .str (wordOf a3) t3, .str (wordOf a4) t4] nl), (L + 1, oc)] ∧ m' (Str.ofString "words") = some (.ref wl)) ?_ ?_
    · k_steps
      unfold StopT
      refine LCg.ListComp_U (F₀ := by k_asm) (by with_unfolding_all rfl) (by decide) (by rfl) (by decide) (by rfl) ?_
      k_steps
      refine' CutEnd.intro ?eF ?eN ?sub ⟨_, rfl, ?f1⟩
      case eF => k_asm
      case eN => k_asm
      case f1 => rfl
      case sub => walk_at "my sub"
    clear F N hd hf
    intro m₂ nx h₂ k₂ F N j
    obtain ⟨od₂, rfl, e1⟩ := j
    replace F := fr_name F e1
    clear e1
    -- said
    refine cutT (h₀ := h₀) (L := L) (fun m' nx => nx = [(wl, W.listOf #[.str (wordOf a1) t1, .str (wordOf a2) t2, .str (wordOf a3) t3, .str (wordOf a4) t4] nl)] ∧ m' (Str.ofString "words") = some (.ref wl) ∧ ∃ t, m' (Str.ofString "said") = some (.str (saidT (wordOf a1) (wordOf a2) (wordOf a3) (wordOf a4)) t)) ?_ ?_
    · k_steps
      refine' CutEndT.intro ?eF ?eN ?sub ⟨rfl, ?f1, _, ?f2⟩
      case eF => k_asm
      case eN => k_asm
      case f1 => rfl
      case f2 => rfl
      case sub => walk_at "my sub"
    clear F N
    intro m₃ nx h₃ k₃ htk F N j
    obtain ⟨rfl, e1, ts, e2⟩ := j
    replace F := fr_two F e1 e2
    clear e1 e2
    -- the text read back
    k_steps
    exact TailEnd.intro (by k_asm) (by k_asm)
end Mine
end
section
open PySem PySem.W PyProof.Rows PyProof.V
namespace Mine
local macro_rules | `(tactic| walk_at "pyIter ref") => `(tactic| (refine Stop.of ?_))
set_option maxRecDepth 100000 in
set_option maxHeartbeats 8000000 in
theorem rest_tells (w : World) (mean : ExcName → Option Value) (mg mb : PySem.Str → Option Value) (h₀ : Heap) (L fa : Addr) (cdv : Value) (o : Obj) (ho : (hd.heap_39 w.params).lookup 178 = some o)
    (X : (hd.heap_39 w.params).In h₀) (B : Below callerA h₀ [] h₀)
    (T : Top hd.view_39 (looseW hd.view_39 [Str.ofString "_ORDINAL_SUFFIXES", Str.ofString "_APNUMBER_WORDS", Str.ofString "ordinal", Str.ofString "Double"]) mean mg mb h₀)
    (tu kd wl st D : Addr) (ot od oc : Obj) (ti tc : Tok) (ws : List Value) (ns : List Int) (hI : IntsAre ws ns) (hlen : ns.length ≤ 60)
    (hoc : oc.data = .cell (some (.ref kd))) (lo : (kd == sysModules) = false)
    (hs : Obj.IsDictOf (PySem.strKind PySem.Challenge.rw_fv0010_01.row.prog w) od []) (fs : PyProof.V.FlatPairs PyData.str [] []) (hi : Obj.IsDictOf (intKind PySem.Challenge.rw_fv0010_01.row.prog w) od []) (fi : PyProof.V.FlatPairs PyData.int [] [])
    (o1 : @LT.lt Nat instLTNat (L + 1) D) (o2 : @LT.lt Nat instLTNat D st) (o3 : @LT.lt Nat instLTNat st wl) (o4 : @LT.lt Nat instLTNat wl kd)
    (m : PySem.Str → Option Value) (s : Shared)
    (F : Fr h₀ L s.heap (fun y => if y = Str.ofString "words" then some (.ref wl) else if y = Str.ofString "state" then some (.ref st) else m y))
    (N : News h₀ L s.heap [(tu, ot), (kd, od), (wl, W.listOf #[] 0), (st, stObj D 0 ti 17 tc), (D, W.listOf ws.toArray 0), (L + 1, oc)]) :
    wpAny (model PySem.Challenge.rw_fv0010_01.row.prog w) (callerA.deeper (envOfC (fdOf o).qualname (fdOf o).scope L fa cdv)) (execs ((bodyOf (fdOf o)).drop 2) (envOfC (fdOf o).qualname (fdOf o).scope L fa cdv))
      (TailEnd h₀ L s) (fun _ _ => False) s := by
  w_top off
  have hturn := fun (wvs : List Value) (nl : Nat) (nums : List Int) (hwords : WordsAre wvs nums) (hnums : nums.length ≤ 100) (own : List (Addr × Obj)) (hown1 : ∀ p ∈ own, p.1 ≠ st) (hown2 : ∀ p ∈ own, p.1 ≠ wl) =>
    turn_tells w mean mg mb h₀ L fa cdv o ho X B T kd od wl st D (L + 1) oc nl wvs ws ns hI hlen nums hwords hnums o1 o2 o3 o4 own hown1 hown2
  have htail := fun (nl : Nat) => tail_tells w mean mg mb h₀ L fa cdv o ho X B T kd od wl oc nl hoc lo hs fs hi fi
  have e := (rfl : (hd.heap_39 w.params).lookup 178 = some _)
  rw [e] at ho
  cases ho
  clear e
  dsimp only [bodyOf, fdOf, turnOf, List.drop] at hturn htail ⊢
  revert X; k_fill; intro X
  -- the four turns
  refine wpAny_execs_cons ?_
  refine' wpAny_mono (Q := fun f s' => f = .next ∧ ∃ h' tk m' nx, s' = { s with heap := h', toks := tk } ∧ Fr h₀ L h' m' ∧ News h₀ L h' nx ∧ OJ kd od wl st D ws (L + 1) oc ns 4 m' nx) (E := fun _ _ => False) ?loop ?rest (fun _ _ x => x)
  case loop =>
    replace N : News h₀ L s.heap [(kd, od), (wl, W.listOf #[] 0), (st, stObj D 0 ti 17 tc), (D, W.listOf ws.toArray 0), (L + 1, oc)] := fun p hp => N p (List.mem_cons_of_mem _ hp)
    k_steps
    unfold Stop
    (rename IsRange _ _ _ _ _ _ _ _ => rgX)
    with_unfolding_all
     refine' range_turns (OJ kd od wl st D ws (L + 1) oc ns) rfl rgX ?small ?size ?F ?N ?R ?turn ?done (n := 4)
    case small => decide
    case size => rfl
    case F => k_asm
    case N => k_asm
    case R => exact ⟨0, ti, 17, tc, [], 0, [], rfl, rfl, rfl, by decide, by omega, by decide, by decide, .nil, rfl⟩
    case turn =>
      intro i t m₂ nx h₂ tk₂ own hi4 hoff j F N
      obtain ⟨i', ti', c', tc', wvs, nl, nums, rfl, e1, e2, i0, i1, c0, c1, hw, hq⟩ := j
      subst hq
      replace F : Fr h₀ L h₂ _ := fr_two (x₁ := Str.ofString "words") (x₂ := Str.ofString "state") F ((if_neg (by decide)).trans e1) ((if_neg (by decide)).trans e2)
      refine wpAny_mono (hturn wvs nl nums hw (by omega) own (fun p hp => hoff p hp st (by simp)) (fun p hp => hoff p hp wl (by simp)) _ _ _ i' ti' c' tc' i0 i1 c0 c1 F N) (fun _ _ x => x) (fun _ _ x => x.elim)
    case done =>
      intro m₂ nx h₂ tk₂ j F N
      exact ⟨rfl, h₂, tk₂, m₂, nx, rfl, F, N, j⟩
  case rest =>
    rintro f s' ⟨rfl, h₁, k₁, m₁, nx, rfl, F, N, i', ti', c', tc', wvs, nl, nums, rfl, e1, e2, i0, i1, c0, c1, hw, hq⟩
    obtain ⟨a1, a2, a3, a4, t1, t2, t3, t4, s1, s2, s3, s4, rfl⟩ := hw.four hq
    replace F := fr_name F e1
    dsimp only
    refine wpAny_mono (htail nl a1 a2 a3 a4 t1 t2 t3 t4 s1 s2 s3 s4 (by omega) o4 _ { s with heap := h₁, toks := k₁ } F (fun p hp => N p ?_)) (fun f s' x => ?_) (fun _ _ x => x)
    · rcases List.mem_cons.mp hp with rfl | hp
      · exact .head _
      · rcases List.mem_cons.mp hp with rfl | hp
        · exact .tail _ (.head _)
        · rw [List.mem_singleton.mp hp]
          exact .tail _ (.tail _ (.tail _ (.tail _ (.head _))))
    · obtain ⟨rfl, h', tk, m', news', rfl, F', N'⟩ := x
      exact ⟨rfl, h', tk, m', news', rfl, F', N'⟩
end Mine
end
section
open PySem PySem.W PyProof.Rows
namespace Mine
def StopM (P : Prop) : Prop := P
theorem StopM.of {P : Prop} (h : StopM P) : P := h
local macro_rules | `(tactic| walk_at "execs cons") => `(tactic| ((with_reducible show wpAny _ _ (execs (Stmt.For _ _ _ _ _ :: _) _) _ _ _); refine StopM.of ?_))
local macro_rules | `(tactic| walk_at "my nothing") => `(tactic| skip)
set_option maxRecDepth 100000 in
set_option maxHeartbeats 8000000 in
theorem all_tells : PySem.Challenge.rw_fv0010_01.Holds := hd (by
  w_top off
  k_go0
  all_goals try k_fold
  k_steps
  unfold StopM
  have R := fun (w : World) mean mg mb h₀ L fa cdv => rest_tells w mean mg mb h₀ L fa cdv _ (rfl : (hd.heap_39 w.params).lookup 178 = some _)
  dsimp only [bodyOf, fdOf, List.drop] at R
  refine' wpAny_mono (R _ (ExcName.means _) _ _ _ _ _ _ ?zzX ?zzB ?zzT _ _ _ _ _ _ _ _ _ _ _ _ ?zzhI ?zzhlen ?zzhoc ?zzlo ?zzhs ?zzfs ?zzhi ?zzfi ?zzo1 ?zzo2 ?zzo3 ?zzo4 _ _ ?zzF ?zzN) ?zzq ?zze
  case zzN => assumption
  case zzF => k_asm
  case zzT => assumption
  case zzX => assumption
  case zzB => assumption
  case zzhI => assumption
  case zzhlen => omega
  case zzhoc => assumption
  case zzlo => assumption
  case zzhs => assumption
  case zzfs => assumption
  case zzhi => assumption
  case zzfi => assumption
  case zzo1 => assumption
  case zzo2 => apply And.left; assumption
  case zzo3 => apply And.left; assumption
  case zzo4 => apply And.left; assumption
  case zze => exact fun _ _ x => x.elim
  case zzq =>
    intro f s' x
    obtain ⟨rfl, h', tk', m', news', rfl, F', N'⟩ := x
    k_steps)
end Mine
end
theorem PySem.Challenge.cw_fv0010_01_holds : PySem.Challenge.rw_fv0010_01.Holds := by
  exact Mine.all_tells
