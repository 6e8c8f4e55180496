import PyProof.Rows.All
import Wide.All
import OpenK.AllK
import Wide.FinOn
import PySem.Challenge.RW_ax6034_01
open PySem PySem.W PyProof.Rows PySem.Calls
set_option Elab.async false
namespace Mine
set_option maxRecDepth 100000 in
set_option maxHeartbeats 8000000 in
open_top hd for PySem.Challenge.rw_ax6034_01
end Mine
namespace Mine

def tupObj (vs : List Value) : Obj := { cls := .type "tuple", data := .seq vs.toArray 0 }
def TabGo (K : Frag) : Nat → Nat → List (Int × Int) → Prop
  | _, _, [] => True
  | r, c, p :: q => K.lookup r = some (tupObj [.int p.1 c, .int p.2 (c + 1)]) ∧ TabGo K (r + 1) (c + 2) q
structure TabIn (K : Frag) (T : Addr) (tb : List (Int × Int)) (r₀ c₀ : Nat) : Prop where
  top : K.lookup T = some (tupObj ((List.range tb.length).map fun i => Value.ref (r₀ + i)))
  go : TabGo K r₀ c₀ tb
  pos : 0 < tb.length
  le : tb.length ≤ 1000

theorem TabGo.at {K : Frag} : ∀ {r c : Nat} {tb : List (Int × Int)}, TabGo K r c tb → ∀ i, i < tb.length → K.lookup (r + i) = some (tupObj [.int (tb.getD i (0,0)).1 (c + 2 * i), .int (tb.getD i (0,0)).2 (c + 2 * i + 1)])
  | _, _, [], _, i, h => absurd h (Nat.not_lt_zero _)
  | r, c, p :: q, g, 0, _ => g.1
  | r, c, p :: q, g, i + 1, h => by
    have := TabGo.at g.2 i (Nat.lt_of_succ_lt_succ h)
    rw [show r + (i + 1) = r + 1 + i by omega, this]
    rw [show c + 2 + 2 * i = c + 2 * (i + 1) by omega]
    rfl

section
variable {K : Frag} {h₀ : Heap} {L : Addr} {m : Str → Option Value} {prog : Program} {w : World} {A : Around} {E : Value → Shared → Prop} {s : Shared} {Q : Value → Shared → Prop} {T₀ : Addr} {tb : List (Int × Int)} {r₀ c₀ : Nat} {value slice : Expr}
theorem isTup_of {h : Heap} {a : Addr} {vs : List Value} (X : K.In h) (e : K.lookup a = some (tupObj vs)) : IsTup h a vs.toArray := ⟨_, X _ _ e, rfl, 0, rfl⟩
theorem tab_len (F : Fr h₀ L s.heap m) (X : K.In h₀) (hT : TabIn K T₀ tb r₀ c₀) (h : Q (.int (tb.length : Int) (s.toks + 1)) { s with toks := s.toks + 1 + 1 }) :
    wpAny (model prog w) A (call (.builtin "len") [.ref T₀]) Q E s := by
  have hl := hT.le
  have e : (((List.range tb.length).map fun i => Value.ref (r₀ + i)).toArray).size = tb.length := by simp
  refine len_tuple (isTup_of (X.keeps F.keep) hT.top) (by rw [e]; omega) ?_
  rw [e]; exact h
theorem tab_sub1 {k : Int} {u : Tok} (F : Fr h₀ L s.heap m) (X : K.In h₀) (hT : TabIn K T₀ tb r₀ c₀) (h0 : 0 ≤ k) (h1 : k < tb.length) (h : Q (.ref (r₀ + k.toNat)) s)
    (hs : subscripted slice false (.ref T₀) (.int k u) = operate [.ref T₀, .int k u] (getItem (.ref T₀) (.int k u)) := by with_unfolding_all rfl) :
    wpAny (model prog w) A (subscriptTail value slice (.ref T₀) (.int k u)) Q E s := by
  have hl := hT.le
  refine item_tupleT (isTup_of (X.keeps F.keep) hT.top) (by omega) (by omega) (j := k.toNat) ?_ ?_ h hs
  · unfold seqIndex?
    simp only [List.length_map, List.length_range]
    have e1 : (if k < 0 then k + (tb.length : Int) else k) = k := if_neg (by omega)
    rw [e1]
    have e2 : (decide (0 ≤ k) && decide (k < (tb.length : Int))) = true := by simp only [Bool.and_eq_true, decide_eq_true_eq]; exact ⟨h0, h1⟩
    rw [if_pos e2]
  · rw [List.getElem?_map, List.getElem?_range (by omega)]; rfl
theorem tab_sub2a {i : Nat} {u : Tok} (F : Fr h₀ L s.heap m) (X : K.In h₀) (hT : TabIn K T₀ tb r₀ c₀) (hi : i < tb.length) (h : Q (.int (tb.getD i (0,0)).1 (c₀ + 2 * i)) s)
    (hs : subscripted slice false (.ref (r₀ + i)) (.int 0 u) = operate [.ref (r₀ + i), .int 0 u] (getItem (.ref (r₀ + i)) (.int 0 u)) := by with_unfolding_all rfl) :
    wpAny (model prog w) A (subscriptTail value slice (.ref (r₀ + i)) (.int 0 u)) Q E s :=
  item_tupleT (isTup_of (X.keeps F.keep) (hT.go.at i hi)) (by decide) (by decide) (j := 0) rfl rfl h hs
theorem tab_sub2b {i : Nat} {u : Tok} (F : Fr h₀ L s.heap m) (X : K.In h₀) (hT : TabIn K T₀ tb r₀ c₀) (hi : i < tb.length) (h : Q (.int (tb.getD i (0,0)).2 (c₀ + 2 * i + 1)) s)
    (hs : subscripted slice false (.ref (r₀ + i)) (.int 1 u) = operate [.ref (r₀ + i), .int 1 u] (getItem (.ref (r₀ + i)) (.int 1 u)) := by with_unfolding_all rfl) :
    wpAny (model prog w) A (subscriptTail value slice (.ref (r₀ + i)) (.int 1 u)) Q E s :=
  item_tupleT (isTup_of (X.keeps F.keep) (hT.go.at i hi)) (by decide) (by decide) (j := 1) rfl rfl h hs
end

def bisL (tb : List (Int × Int)) (u : Int) : Nat → Int → Int → Int
  | 0, _, _ => 0
  | n+1, l, b => if l ≤ b then
      (if (tb.getD (Int.fdiv (l + b) 2).toNat (0,0)).2 < u then bisL tb u n (Int.fdiv (l + b) 2 + 1) b
       else if u < (tb.getD (Int.fdiv (l + b) 2).toNat (0,0)).1 then bisL tb u n l (Int.fdiv (l + b) 2 - 1)
       else 1) else 0
def bisF (tb : List (Int × Int)) (u : Int) : Int :=
  if u < (tb.getD 0 (0,0)).1 then 0 else if (tb.getD (tb.length - 1) (0,0)).2 < u then 0 else bisL tb u tb.length 0 ((tb.length : Int) - 1)

local macro_rules | `(tactic| walk_at "call builtin:len") => `(tactic| (k_here; (with_reducible show wpAny _ _ (call (Value.builtin _) [Value.ref _]) _ _ _); (refine' tab_len ?k1 ?k2 ?k3 ?_; (case k1 => k_asm); (case k2 => k_asm); (case k3 => k_asm)); (try dsimp only)))
local macro_rules | `(tactic| walk_at "subscriptTail") => `(tactic| (k_here; (with_reducible show wpAny _ _ (subscriptTail _ _ (Value.ref _) (Value.int _ _)) _ _ _); (first
   | (refine' tab_sub1 ?k1 ?k2 ?k3 ?k4 ?k5 ?_; (case k1 => k_asm); (case k2 => k_asm); (case k3 => assumption); (case k4 => first | decide | omega); (case k5 => first | omega); (try dsimp only))
   | (refine' tab_sub2a ?k1 ?k2 ?k3 ?k4 ?_; (case k1 => k_asm); (case k2 => k_asm); (case k3 => assumption); (case k4 => first | omega); (try dsimp only))
   | (refine' tab_sub2b ?k1 ?k2 ?k3 ?k4 ?_; (case k1 => k_asm); (case k2 => k_asm); (case k3 => assumption); (case k4 => first | omega); (try dsimp only)))))

def Stopped (P : Prop) : Prop := P
theorem stop_out {P : Prop} (h : Stopped P) : P := h
theorem ret_int {h₀ h' : Heap} {L : Addr} {m : Str → Option Value} {news : List (Addr × Obj)} {s : Shared} {Q : Value → Shared → Prop} {x y : Int} {t : Tok} {tk' : Nat}
    (hret : ∀ t h' tk', Fr h₀ L h' m → News h₀ L h' news → Q (.int x t) { s with heap := h', toks := tk' }) (F : Fr h₀ L h' m) (N : News h₀ L h' news) (e : x = y) : Q (.int y t) { s with heap := h', toks := tk' } := by
  subst e
  exact hret t h' tk' F N
local macro_rules | `(tactic| walk_at "exec While Compare cons nil") => `(tactic| (k_here; refine stop_out ?_))
local macro_rules | `(tactic| walk_at "KswEnd") => `(tactic| (refine stop_out ?_))

theorem bis_fdiv (x : Int) : Int.fdiv x 2 * 2 ≤ x ∧ x < Int.fdiv x 2 * 2 + 2 := by
  rw [Int.fdiv_eq_ediv_of_nonneg _ (by decide)]; omega
theorem mem2 {α : Type} {P : α → Prop} {a b : α} (h1 : P a) (h2 : P b) : ∀ p ∈ [a, b], P p := by
  intro p hp
  rcases List.mem_cons.mp hp with rfl | hp
  · exact h1
  rcases List.mem_cons.mp hp with rfl | hp
  · exact h2
  nomatch hp
section
variable {tb : List (Int × Int)} {u R l b : Int} {n : Nat}
theorem bis_up (hI : bisL tb u n l b = R) (hn : b - l + 1 ≤ n) (h1 : l ≤ b) (h2 : (tb.getD (Int.fdiv (l + b) 2).toNat (0,0)).2 < u) : ∃ k : Nat, b - (Int.fdiv (l + b) 2 + 1) + 1 ≤ k ∧ bisL tb u k (Int.fdiv (l + b) 2 + 1) b = R := by
  have hf := bis_fdiv (l + b)
  cases n with
  | zero => omega
  | succ n => rw [bisL, if_pos h1, if_pos h2] at hI; exact ⟨n, by omega, hI⟩
theorem bis_down (hI : bisL tb u n l b = R) (hn : b - l + 1 ≤ n) (h1 : l ≤ b) (h2 : ¬ (tb.getD (Int.fdiv (l + b) 2).toNat (0,0)).2 < u) (h3 : u < (tb.getD (Int.fdiv (l + b) 2).toNat (0,0)).1) : ∃ k : Nat, (Int.fdiv (l + b) 2 - 1) - l + 1 ≤ k ∧ bisL tb u k l (Int.fdiv (l + b) 2 - 1) = R := by
  have hf := bis_fdiv (l + b)
  cases n with
  | zero => omega
  | succ n => rw [bisL, if_pos h1, if_neg h2, if_pos h3] at hI; exact ⟨n, by omega, hI⟩
theorem bis_hit (hI : bisL tb u n l b = R) (hn : b - l + 1 ≤ n) (h1 : l ≤ b) (h2 : ¬ (tb.getD (Int.fdiv (l + b) 2).toNat (0,0)).2 < u) (h3 : ¬ u < (tb.getD (Int.fdiv (l + b) 2).toNat (0,0)).1) : R = 1 := by
  cases n with
  | zero => omega
  | succ n => rw [bisL, if_pos h1, if_neg h2, if_neg h3] at hI; exact hI.symm
theorem bis_miss (hI : bisL tb u n l b = R) (h1 : ¬ l ≤ b) : R = 0 := by
  cases n with
  | zero => exact hI.symm
  | succ n => rw [bisL, if_neg h1] at hI; exact hI.symm
end

set_option maxRecDepth 100000 in
set_option maxHeartbeats 8000000 in
theorem ct_bis {w : World} {p : Program} {loose : List Str} {mean : ExcName → Option Value} {mg mb : Str → Option Value}
    {dp un : Nat} {gd : Option (List Code)} {cn : Str} {cs : Scope} {a : Addr} {ccd : Value} {cl : List (Str × Addr)} {outer : List Env} {A₀ : Around} {base h₀ : Heap} {L : Addr} {m : Str → Option Value} {news : List (Addr × Obj)} {s : Shared} {Q E : Value → Shared → Prop}
    {u : Int} {tk : Tok} {T₀ : Addr} {tb : List (Int × Int)} {r₀ c₀ : Nat}
    (B : Below A₀ base outer h₀) (F : Fr h₀ L s.heap m) (X : (hd.heap_39 w.params).In h₀) (N : News h₀ L s.heap news) (T : Top p loose mean mg mb h₀) (hk : cs.kind = .function) (hdp : dp + 1 < recursionLimit) (hun : un + 8 < cLine)
    (hT : TabIn (hd.heap_39 w.params) T₀ tb r₀ c₀)
    (hret : ∀ t h' tk', Fr h₀ L h' m → News h₀ L h' news → Q (.int (bisF tb u) t) { s with heap := h', toks := tk' }) :
    wpAny (model PySem.Challenge.rw_ax6034_01.row.prog w) (ktrTop dp un gd cn cs L a ccd cl outer) (call (.ref 28) [.int u tk, .ref T₀]) Q E s := by
  have hpos := hT.pos
  have hle := hT.le
  revert X
  k_fill
  intro X
  refine wpAny_call ?_
  k_dflt (refine' code_def (binds := [(Str.ofString "ucs", .int u tk), (Str.ofString "table", .ref T₀)]) ?k1 ?k2 ?k3 ?k4 ?k5 ?kA ?kF ?kK ?k6 ?k7 ?k8 ?k9 ?kB ?_ ?c2 ?c3 ?c4 ?c5; (case kA => exact rfl); (case kF => exact rfl); (case kK => assumption); (case k1 => k_asm); (case k2 => k_asm); (case k3 => k_asm); (case k4 => k_asm); (case k5 => k_asm); (case k6 => k_is); (case k7 => k_is); (case k8 => ktr_room); (case k9 => exact BindsTo.of_eq rfl); (case c5 => decide); (case kB => exact locs rfl); (case c2 => exact rfl); (case c3 => exact rfl); (case c4 => exact rfl); k_whole; intro g' L' h' FG' F' N' B' X' T'; (try dsimp only); (try k_fold))
  k_steps
  · rename u < _ => g1
    replace g1 : u < (tb.getD 0 (0, 0)).1 := g1
    exact ret_int hret ‹_› ‹_› (by unfold bisF; rw [if_pos g1])
  · rename ¬ u < _ => g1
    replace g1 : ¬ u < (tb.getD 0 (0, 0)).1 := g1
    rename _ < u => g2
    exact ret_int hret ‹_› ‹_› (by unfold bisF; rw [if_neg g1, if_pos (by rw [show tb.length - 1 = ((tb.length : Int) - 1).toNat by omega]; exact g2)])
  · unfold Stopped
    rename Fr _ _ _ _ => lF
    rename News _ _ _ _ => lN
    rename ¬ u < _ => g1
    replace g1 : ¬ u < (tb.getD 0 (0, 0)).1 := g1
    rename ¬ _ < u => g2
    have hR : bisF tb u = bisL tb u tb.length 0 ((tb.length : Int) - 1) := by
      unfold bisF; rw [if_neg g1, if_neg (by rw [show tb.length - 1 = ((tb.length : Int) - 1).toNat by omega]; exact g2)]
    rw [hR] at hret
    with_unfolding_all refine' ksw_while (σ := Int × Int × Tok × Tok) (fun _ => news) (fun c => [(Str.ofString "lbound", .int c.1 c.2.2.1), (Str.ofString "ubound", .int c.2.1 c.2.2.2)]) (fun _ => True) [Str.ofString "mid"] (fun c => 0 ≤ c.1 ∧ c.2.1 ≤ (tb.length : Int) - 1 ∧ ∃ n : Nat, c.2.1 - c.1 + 1 ≤ n ∧ bisL tb u n c.1 c.2.1 = bisL tb u tb.length 0 ((tb.length : Int) - 1)) (fun c => (c.2.1 - c.1 + 1).toNat) (0, (tb.length : Int) - 1, _, _) lF lN trivial ?kk ?kp ?kt ?kE
    case kk => refine mem2 ?_ ?_ <;> rfl
    case kp => exact ⟨Int.le_refl 0, Int.le_refl _, tb.length, by dsimp only; omega, rfl⟩
    case kt =>
      rintro ⟨l, b, t1, t2⟩ uu h9 tk9 - ⟨hl0, hb0, n, hn, hI⟩ F9 N9
      have hf := bis_fdiv (l + b)
      dsimp only [kstB] at *
      k_steps
      · unfold Stopped
        exact ksw_end ((l + b).fdiv 2 + 1, b, _, _) (by assumption) (by assumption) (fun _ h => h) trivial (by refine mem2 ?_ ?_ <;> rfl) (by ksw_same) ⟨by dsimp only; omega, hb0, bis_up hI hn (by assumption) (by assumption)⟩ (by dsimp only; omega)
      · unfold Stopped
        exact ksw_end (l, (l + b).fdiv 2 - 1, _, _) (by assumption) (by assumption) (fun _ h => h) trivial (by refine mem2 ?_ ?_ <;> rfl) (by ksw_same) ⟨hl0, by dsimp only; omega, bis_down hI hn (by assumption) (by assumption) (by assumption)⟩ (by dsimp only; omega)
      · exact ret_int hret ‹_› ‹_› (bis_hit hI hn (by assumption) (by assumption) (by assumption))
      · exact ret_int hret ‹_› ‹_› (bis_miss hI (by assumption))
    case kE => k_steps
end Mine
namespace Mine
set_option maxRecDepth 100000
def tbCONTROL : List (Int × Int) := [(0, 9), (11, 12), (14, 31), (127, 159), (173, 173), (8203, 8203), (8206, 8207), (8232, 8238), (8288, 8303), (65279, 65279), (917504, 917535)]
theorem tinCONTROL (P : Params) : TabIn (hd.heap_39 P) 40 tbCONTROL 29 208 := ⟨by kernel_rfl, by repeat (first | exact trivial | refine ⟨by kernel_rfl, ?_⟩), by decide, by decide⟩
def tbEXTEND : List (Int × Int) := [(768, 879), (1611, 1631), (2275, 2306), (2362, 2362), (2364, 2364), (2369, 2376), (2381, 2381), (2385, 2391), (2433, 2433), (2492, 2492), (2494, 2494), (2497, 2500), (2509, 2509), (2620, 2620), (2625, 2626), (2635, 2637), (3633, 3633), (3636, 3642), (4141, 4144), (4153, 4154), (8204, 8204), (8400, 8432), (12330, 12335), (12441, 12442), (43443, 43443), (43456, 43456), (65024, 65039), (65056, 65071), (70477, 70477), (127995, 127999), (917536, 917631), (917760, 917999)]
theorem tinEXTEND (P : Params) : TabIn (hd.heap_39 P) 73 tbEXTEND 41 231 := ⟨by kernel_rfl, by repeat (first | exact trivial | refine ⟨by kernel_rfl, ?_⟩), by decide, by decide⟩
def tbRI : List (Int × Int) := [(127462, 127487)]
theorem tinRI (P : Params) : TabIn (hd.heap_39 P) 75 tbRI 74 296 := ⟨by kernel_rfl, by repeat (first | exact trivial | refine ⟨by kernel_rfl, ?_⟩), by decide, by decide⟩
def tbPREPEND : List (Int × Int) := [(1536, 1541), (1757, 1757), (1807, 1807), (2192, 2193), (3406, 3406)]
theorem tinPREPEND (P : Params) : TabIn (hd.heap_39 P) 81 tbPREPEND 76 299 := ⟨by kernel_rfl, by repeat (first | exact trivial | refine ⟨by kernel_rfl, ?_⟩), by decide, by decide⟩
def tbSPACING : List (Int × Int) := [(2307, 2307), (2363, 2363), (2366, 2368), (2377, 2380), (2382, 2383), (2434, 2435), (2495, 2496), (2507, 2508), (2622, 2624), (3635, 3635)]
theorem tinSPACING (P : Params) : TabIn (hd.heap_39 P) 92 tbSPACING 82 310 := ⟨by kernel_rfl, by repeat (first | exact trivial | refine ⟨by kernel_rfl, ?_⟩), by decide, by decide⟩
def tbL : List (Int × Int) := [(4352, 4447), (43360, 43388)]
theorem tinL (P : Params) : TabIn (hd.heap_39 P) 95 tbL 93 331 := ⟨by kernel_rfl, by repeat (first | exact trivial | refine ⟨by kernel_rfl, ?_⟩), by decide, by decide⟩
def tbV : List (Int × Int) := [(4448, 4519), (55216, 55238), (93539, 93539), (93543, 93546)]
theorem tinV (P : Params) : TabIn (hd.heap_39 P) 100 tbV 96 336 := ⟨by kernel_rfl, by repeat (first | exact trivial | refine ⟨by kernel_rfl, ?_⟩), by decide, by decide⟩
def tbT : List (Int × Int) := [(4520, 4607), (55243, 55291)]
theorem tinT (P : Params) : TabIn (hd.heap_39 P) 103 tbT 101 345 := ⟨by kernel_rfl, by repeat (first | exact trivial | refine ⟨by kernel_rfl, ?_⟩), by decide, by decide⟩
def tbLV : List (Int × Int) := [(44032, 44032), (44060, 44060), (44088, 44088), (55176, 55176)]
theorem tinLV (P : Params) : TabIn (hd.heap_39 P) 108 tbLV 104 350 := ⟨by kernel_rfl, by repeat (first | exact trivial | refine ⟨by kernel_rfl, ?_⟩), by decide, by decide⟩
def tbLVT : List (Int × Int) := [(44033, 44059), (44061, 44087), (44089, 44115), (55177, 55203)]
theorem tinLVT (P : Params) : TabIn (hd.heap_39 P) 113 tbLVT 109 359 := ⟨by kernel_rfl, by repeat (first | exact trivial | refine ⟨by kernel_rfl, ?_⟩), by decide, by decide⟩
def tbPICT : List (Int × Int) := [(169, 169), (174, 174), (8252, 8252), (8596, 8601), (8986, 8987), (9193, 9203), (9728, 9732), (9748, 9749), (9757, 9757), (9760, 9760), (9792, 9792), (9794, 9794), (9800, 9811), (9975, 9978), (9992, 9997), (10083, 10084), (12336, 12336), (12349, 12349), (126980, 126980), (127377, 127386), (127987, 127989), (127991, 127994), (128371, 128378), (128405, 128406), (128420, 128421), (128715, 128722), (128725, 128741), (129340, 129349)]
theorem tinPICT (P : Params) : TabIn (hd.heap_39 P) 142 tbPICT 114 368 := ⟨by kernel_rfl, by repeat (first | exact trivial | refine ⟨by kernel_rfl, ?_⟩), by decide, by decide⟩
def tbLINKER : List (Int × Int) := [(2381, 2381), (2509, 2509), (4153, 4153), (43456, 43456)]
theorem tinLINKER (P : Params) : TabIn (hd.heap_39 P) 147 tbLINKER 143 425 := ⟨by kernel_rfl, by repeat (first | exact trivial | refine ⟨by kernel_rfl, ?_⟩), by decide, by decide⟩
def tbCONS : List (Int × Int) := [(2325, 2361), (2392, 2399), (2453, 2472), (2474, 2480), (4096, 4138), (43407, 43442)]
theorem tinCONS (P : Params) : TabIn (hd.heap_39 P) 154 tbCONS 148 434 := ⟨by kernel_rfl, by repeat (first | exact trivial | refine ⟨by kernel_rfl, ?_⟩), by decide, by decide⟩
def tbIEXT : List (Int × Int) := [(768, 879), (1611, 1631), (2275, 2306), (2362, 2362), (2364, 2364), (2369, 2376), (2385, 2391), (2433, 2433), (2492, 2492), (2494, 2494), (2497, 2500), (2620, 2620), (2625, 2626), (2635, 2637), (3633, 3633), (3636, 3642), (4141, 4144), (8205, 8205), (8400, 8432), (12330, 12335), (12441, 12442), (43443, 43443), (65024, 65039), (65056, 65071), (70477, 70477), (127995, 127999), (917536, 917631), (917760, 917999)]
theorem tinIEXT (P : Params) : TabIn (hd.heap_39 P) 183 tbIEXT 155 447 := ⟨by kernel_rfl, by repeat (first | exact trivial | refine ⟨by kernel_rfl, ?_⟩), by decide, by decide⟩
end Mine
namespace Mine
set_option maxRecDepth 100000

local macro_rules | `(tactic| walk_at "call ref") => `(tactic| (k_here; (with_reducible show wpAny _ _ (call (Value.ref 28) [Value.int _ _, Value.ref _]) _ _ _); k_dflt (refine' ct_bis ?k1 ?k2 ?k3 ?k4 ?k5 ?kK ?kd ?ku ?kT ?_; (case k1 => k_asm); (case k2 => k_asm); (case k3 => k_asm); (case k4 => k_asm); (case k5 => k_asm); (case kK => first | exact rfl | assumption); (case kd => ktr_room); (case ku => ktr_units); (case kT => first | exact tinCONTROL _ | exact tinEXTEND _ | exact tinRI _ | exact tinPREPEND _ | exact tinSPACING _ | exact tinL _ | exact tinV _ | exact tinT _ | exact tinLV _ | exact tinLVT _ | exact tinPICT _ | exact tinLINKER _ | exact tinCONS _ | exact tinIEXT _); k_whole); intro t' h' tk' F' N'; (try dsimp only); (try k_fold)))

def gcbF (u : Int) : Int :=
  if u = 13 then 1 else if u = 10 then 2 else if u = 8205 then 5 else
  if bisF tbCONTROL u ≠ 0 then 3 else if bisF tbEXTEND u ≠ 0 then 4 else if bisF tbRI u ≠ 0 then 6 else if bisF tbPREPEND u ≠ 0 then 7 else
  if bisF tbSPACING u ≠ 0 then 8 else if bisF tbL u ≠ 0 then 9 else if bisF tbV u ≠ 0 then 10 else if bisF tbT u ≠ 0 then 11 else
  if bisF tbLV u ≠ 0 then 12 else if bisF tbLVT u ≠ 0 then 13 else 0

set_option maxHeartbeats 8000000 in
theorem ct_gcb {w : World} {p : Program} {loose : List Str} {mean : ExcName → Option Value} {mg mb : Str → Option Value}
    {dp un : Nat} {gd : Option (List Code)} {cn : Str} {cs : Scope} {a : Addr} {ccd : Value} {cl : List (Str × Addr)} {outer : List Env} {A₀ : Around} {base h₀ : Heap} {L : Addr} {m : Str → Option Value} {news : List (Addr × Obj)} {s : Shared} {Q E : Value → Shared → Prop}
    {u : Int} {tk : Tok}
    (B : Below A₀ base outer h₀) (F : Fr h₀ L s.heap m) (X : (hd.heap_39 w.params).In h₀) (N : News h₀ L s.heap news) (T : Top p loose mean mg mb h₀) (hk : cs.kind = .function) (hdp : dp + 2 < recursionLimit) (hun : un + 16 < cLine)
    (hret : ∀ t h' tk', Fr h₀ L h' m → News h₀ L h' news → Q (.int (gcbF u) t) { s with heap := h', toks := tk' }) :
    wpAny (model PySem.Challenge.rw_ax6034_01.row.prog w) (ktrTop dp un gd cn cs L a ccd cl outer) (call (.ref 247) [.int u tk]) Q E s := by
  revert X
  k_fill
  intro X
  refine wpAny_call ?_
  k_dflt (refine' code_def (binds := [(Str.ofString "ucs", .int u tk)]) ?k1 ?k2 ?k3 ?k4 ?k5 ?kA ?kF ?kK ?k6 ?k7 ?k8 ?k9 ?kB ?_ ?c2 ?c3 ?c4 ?c5; (case kA => exact rfl); (case kF => exact rfl); (case kK => assumption); (case k1 => k_asm); (case k2 => k_asm); (case k3 => k_asm); (case k4 => k_asm); (case k5 => k_asm); (case k6 => k_is); (case k7 => k_is); (case k8 => ktr_room); (case k9 => exact BindsTo.of_eq rfl); (case c5 => decide); (case kB => exact locs rfl); (case c2 => exact rfl); (case c3 => exact rfl); (case c4 => exact rfl); k_whole; intro g' L' h' FG' F' N' B' X' T'; (try dsimp only); (try k_fold))
  k_steps
  all_goals exact ret_int hret ‹_› ‹_› (by unfold gcbF; simp [*])
def pictF (u : Int) : Bool := bisF tbPICT u != 0
set_option maxHeartbeats 8000000 in
theorem ct_pict {w : World} {p : Program} {loose : List Str} {mean : ExcName → Option Value} {mg mb : Str → Option Value}
    {dp un : Nat} {gd : Option (List Code)} {cn : Str} {cs : Scope} {a : Addr} {ccd : Value} {cl : List (Str × Addr)} {outer : List Env} {A₀ : Around} {base h₀ : Heap} {L : Addr} {m : Str → Option Value} {news : List (Addr × Obj)} {s : Shared} {Q E : Value → Shared → Prop}
    {u : Int} {tk : Tok}
    (B : Below A₀ base outer h₀) (F : Fr h₀ L s.heap m) (X : (hd.heap_39 w.params).In h₀) (N : News h₀ L s.heap news) (T : Top p loose mean mg mb h₀) (hk : cs.kind = .function) (hdp : dp + 2 < recursionLimit) (hun : un + 16 < cLine)
    (hret : ∀ h' tk', Fr h₀ L h' m → News h₀ L h' news → Q (.bool (pictF u)) { s with heap := h', toks := tk' }) :
    wpAny (model PySem.Challenge.rw_ax6034_01.row.prog w) (ktrTop dp un gd cn cs L a ccd cl outer) (call (.ref 254) [.int u tk]) Q E s := by
  revert X
  k_fill
  intro X
  refine wpAny_call ?_
  k_dflt (refine' code_def (binds := [(Str.ofString "ucs", .int u tk)]) ?k1 ?k2 ?k3 ?k4 ?k5 ?kA ?kF ?kK ?k6 ?k7 ?k8 ?k9 ?kB ?_ ?c2 ?c3 ?c4 ?c5; (case kA => exact rfl); (case kF => exact rfl); (case kK => assumption); (case k1 => k_asm); (case k2 => k_asm); (case k3 => k_asm); (case k4 => k_asm); (case k5 => k_asm); (case k6 => k_is); (case k7 => k_is); (case k8 => ktr_room); (case k9 => exact BindsTo.of_eq rfl); (case c5 => decide); (case kB => exact locs rfl); (case c2 => exact rfl); (case c3 => exact rfl); (case c4 => exact rfl); k_whole; intro g' L' h' FG' F' N' B' X' T'; (try dsimp only); (try k_fold))
  k_steps
  exact hret _ _ ‹_› ‹_›
def linkerF (u : Int) : Bool := bisF tbLINKER u != 0
set_option maxHeartbeats 8000000 in
theorem ct_linker {w : World} {p : Program} {loose : List Str} {mean : ExcName → Option Value} {mg mb : Str → Option Value}
    {dp un : Nat} {gd : Option (List Code)} {cn : Str} {cs : Scope} {a : Addr} {ccd : Value} {cl : List (Str × Addr)} {outer : List Env} {A₀ : Around} {base h₀ : Heap} {L : Addr} {m : Str → Option Value} {news : List (Addr × Obj)} {s : Shared} {Q E : Value → Shared → Prop}
    {u : Int} {tk : Tok}
    (B : Below A₀ base outer h₀) (F : Fr h₀ L s.heap m) (X : (hd.heap_39 w.params).In h₀) (N : News h₀ L s.heap news) (T : Top p loose mean mg mb h₀) (hk : cs.kind = .function) (hdp : dp + 2 < recursionLimit) (hun : un + 16 < cLine)
    (hret : ∀ h' tk', Fr h₀ L h' m → News h₀ L h' news → Q (.bool (linkerF u)) { s with heap := h', toks := tk' }) :
    wpAny (model PySem.Challenge.rw_ax6034_01.row.prog w) (ktrTop dp un gd cn cs L a ccd cl outer) (call (.ref 261) [.int u tk]) Q E s := by
  revert X
  k_fill
  intro X
  refine wpAny_call ?_
  k_dflt (refine' code_def (binds := [(Str.ofString "ucs", .int u tk)]) ?k1 ?k2 ?k3 ?k4 ?k5 ?kA ?kF ?kK ?k6 ?k7 ?k8 ?k9 ?kB ?_ ?c2 ?c3 ?c4 ?c5; (case kA => exact rfl); (case kF => exact rfl); (case kK => assumption); (case k1 => k_asm); (case k2 => k_asm); (case k3 => k_asm); (case k4 => k_asm); (case k5 => k_asm); (case k6 => k_is); (case k7 => k_is); (case k8 => ktr_room); (case k9 => exact BindsTo.of_eq rfl); (case c5 => decide); (case kB => exact locs rfl); (case c2 => exact rfl); (case c3 => exact rfl); (case c4 => exact rfl); k_whole; intro g' L' h' FG' F' N' B' X' T'; (try dsimp only); (try k_fold))
  k_steps
  exact hret _ _ ‹_› ‹_›
def consF (u : Int) : Bool := bisF tbCONS u != 0
set_option maxHeartbeats 8000000 in
theorem ct_cons {w : World} {p : Program} {loose : List Str} {mean : ExcName → Option Value} {mg mb : Str → Option Value}
    {dp un : Nat} {gd : Option (List Code)} {cn : Str} {cs : Scope} {a : Addr} {ccd : Value} {cl : List (Str × Addr)} {outer : List Env} {A₀ : Around} {base h₀ : Heap} {L : Addr} {m : Str → Option Value} {news : List (Addr × Obj)} {s : Shared} {Q E : Value → Shared → Prop}
    {u : Int} {tk : Tok}
    (B : Below A₀ base outer h₀) (F : Fr h₀ L s.heap m) (X : (hd.heap_39 w.params).In h₀) (N : News h₀ L s.heap news) (T : Top p loose mean mg mb h₀) (hk : cs.kind = .function) (hdp : dp + 2 < recursionLimit) (hun : un + 16 < cLine)
    (hret : ∀ h' tk', Fr h₀ L h' m → News h₀ L h' news → Q (.bool (consF u)) { s with heap := h', toks := tk' }) :
    wpAny (model PySem.Challenge.rw_ax6034_01.row.prog w) (ktrTop dp un gd cn cs L a ccd cl outer) (call (.ref 268) [.int u tk]) Q E s := by
  revert X
  k_fill
  intro X
  refine wpAny_call ?_
  k_dflt (refine' code_def (binds := [(Str.ofString "ucs", .int u tk)]) ?k1 ?k2 ?k3 ?k4 ?k5 ?kA ?kF ?kK ?k6 ?k7 ?k8 ?k9 ?kB ?_ ?c2 ?c3 ?c4 ?c5; (case kA => exact rfl); (case kF => exact rfl); (case kK => assumption); (case k1 => k_asm); (case k2 => k_asm); (case k3 => k_asm); (case k4 => k_asm); (case k5 => k_asm); (case k6 => k_is); (case k7 => k_is); (case k8 => ktr_room); (case k9 => exact BindsTo.of_eq rfl); (case c5 => decide); (case kB => exact locs rfl); (case c2 => exact rfl); (case c3 => exact rfl); (case c4 => exact rfl); k_whole; intro g' L' h' FG' F' N' B' X' T'; (try dsimp only); (try k_fold))
  k_steps
  exact hret _ _ ‹_› ‹_›
def iextF (u : Int) : Bool := bisF tbIEXT u != 0
set_option maxHeartbeats 8000000 in
theorem ct_iext {w : World} {p : Program} {loose : List Str} {mean : ExcName → Option Value} {mg mb : Str → Option Value}
    {dp un : Nat} {gd : Option (List Code)} {cn : Str} {cs : Scope} {a : Addr} {ccd : Value} {cl : List (Str × Addr)} {outer : List Env} {A₀ : Around} {base h₀ : Heap} {L : Addr} {m : Str → Option Value} {news : List (Addr × Obj)} {s : Shared} {Q E : Value → Shared → Prop}
    {u : Int} {tk : Tok}
    (B : Below A₀ base outer h₀) (F : Fr h₀ L s.heap m) (X : (hd.heap_39 w.params).In h₀) (N : News h₀ L s.heap news) (T : Top p loose mean mg mb h₀) (hk : cs.kind = .function) (hdp : dp + 2 < recursionLimit) (hun : un + 16 < cLine)
    (hret : ∀ h' tk', Fr h₀ L h' m → News h₀ L h' news → Q (.bool (iextF u)) { s with heap := h', toks := tk' }) :
    wpAny (model PySem.Challenge.rw_ax6034_01.row.prog w) (ktrTop dp un gd cn cs L a ccd cl outer) (call (.ref 275) [.int u tk]) Q E s := by
  revert X
  k_fill
  intro X
  refine wpAny_call ?_
  k_dflt (refine' code_def (binds := [(Str.ofString "ucs", .int u tk)]) ?k1 ?k2 ?k3 ?k4 ?k5 ?kA ?kF ?kK ?k6 ?k7 ?k8 ?k9 ?kB ?_ ?c2 ?c3 ?c4 ?c5; (case kA => exact rfl); (case kF => exact rfl); (case kK => assumption); (case k1 => k_asm); (case k2 => k_asm); (case k3 => k_asm); (case k4 => k_asm); (case k5 => k_asm); (case k6 => k_is); (case k7 => k_is); (case k8 => ktr_room); (case k9 => exact BindsTo.of_eq rfl); (case c5 => decide); (case kB => exact locs rfl); (case c2 => exact rfl); (case c3 => exact rfl); (case c4 => exact rfl); k_whole; intro g' L' h' FG' F' N' B' X' T'; (try dsimp only); (try k_fold))
  k_steps
  exact hret _ _ ‹_› ‹_›
end Mine
namespace Mine
set_option maxRecDepth 100000
def resObj (dx : Addr) (b : Bool) (r : Int) (t : Tok) : Obj := { cls := .ref 343, dict := some dx, data := .seq [.bool b, .int r t].toArray 0 }

section
variable {w : World} {prog : Program} {A : Around} {E : Value → Shared → Prop} {Q : Value → Shared → Prop} {s : Shared} {h₀ : Heap} {L : Addr} {m : Str → Option Value} {news : List (Addr × Obj)}

/-- type(x) of a result -/
theorem res_type {q dx : Addr} {b : Bool} {r : Int} {t : Tok} (N : News h₀ L s.heap news) (hm : (q, resObj dx b r t) ∈ news) (h : Q (.ref 343) s) :
    wpAny (model prog w) A (call (.type "type") [.ref q]) Q E s := by
  obtain ⟨hh, g, d, tk, os⟩ := s
  exact call_type_obj (N _ hm).1 rfl h

/-- issubclass(BreakResult, tuple) -/
theorem res_sub_meets {K : Frag} {oc : Value} {od : Option Addr} {cd : ClassData} {sl : Array (Option Value)} (e1 : K.lookup 343 = some ⟨oc, od, .cls cd, sl⟩) (e2 : mroIn K 343 (.type "tuple") = some true) : Meets (Builtin.«issubclass» ⟨[.ref 343, .type "tuple"], []⟩) (fun _ R s => K.In s.heap ∧ R (.ok (.ret (.bool true))) s) := by
  intro prog w A R s ⟨X, h⟩
  obtain ⟨hh, g, d, tk, os⟩ := s
  have ho := X _ _ e1
  dsimp only at ho
  have L1 := looks_mroIn (M := model prog w) X e2
  refine issubclass_outer ?_
  unfold Builtin.«issubclass.nested»
  repeat lk
  exact h
theorem res_sub (X : (hd.heap_39 w.params).In s.heap) (h : Q (.bool true) s) : wpAny (model PySem.Challenge.rw_ax6034_01.row.prog w) A (call (.builtin "issubclass") [.ref 343, .type "tuple"]) Q E s := by
  revert X
  k_fill
  intro X
  exact call_issubclass (res_sub_meets (by k_is) (by k_is)) ⟨X, h⟩

/-- a bare word of the class tuple -/
theorem tup_word {x : Str} {id : String} {pl : Sem Bool} {Q : Value × List Value → Shared → Prop} (X : (hd.heap_39 w.params).In s.heap) (e : findCls (hd.heap_39 w.params) (.type "tuple") (.type "type") x = some (.val (.builtin id))) (hh : handedIn (.builtin id) = true)
    (h : Q (.builtin id, []) { s with toks := s.toks + 1 }) : wpAny (model PySem.Challenge.rw_ax6034_01.row.prog w) A (getMethod (.type "tuple") x pl) Q E s := by
  have hstub : opaqueClassAbove (.type "tuple") = pure none := by unfold opaqueClassAbove; dsimp only; rw [show Manifest.isStub "tuple" = false by decide +kernel]; rfl
  have ht : typeOf (.type "tuple") = pure (.type "type") := by first | rfl | kernel_rfl
  have L0 : Looks (model PySem.Challenge.rw_ax6034_01.row.prog w) s.heap (typeOf (.type "tuple")) (.type "type") := Looks.of_pure ht
  have hg : findIn (hd.heap_39 w.params) (.type "type") "__getattribute__" = some (some (.builtin "type.__getattribute__")) := type_tga
  unfold getMethod specialOf
  refine wpAny_bind (wpAny_bind (L0.here ((looks_findIn X hg).here ?_)))
  dsimp only
  rw [if_pos canon_tga]
  refine wpAny_bind (wpAny_mono (Q := fun v => Q (v, [])) (E := E) ?_ (fun _ _ z => wpAny_pure z) fun _ _ z => z)
  have LO : Looks (model PySem.Challenge.rw_ax6034_01.row.prog w) s.heap (opaqueClassAbove (.type "tuple")) none := Looks.of_pure hstub
  refine cls_open X LO L0 hg (looks_hook X (r := none) (by rfl)) (by show subIn _ _ _ = _; rfl) e ?_
  exact wpAny_pure (handed_on hh h)
theorem tup_getitem {pl : Sem Bool} {Q : Value × List Value → Shared → Prop} (X : (hd.heap_39 w.params).In s.heap) (h : Q (.builtin "tuple.__getitem__", []) { s with toks := s.toks + 1 }) :
    wpAny (model PySem.Challenge.rw_ax6034_01.row.prog w) A (getMethod (.type "tuple") (Str.ofString "__getitem__") pl) Q E s := by
  revert X
  k_fill
  intro X
  exact tup_word X (by k_is) (by decide +kernel) h
theorem tup_new {pl : Sem Bool} {Q : Value × List Value → Shared → Prop} (X : (hd.heap_39 w.params).In s.heap) (h : Q (.builtin "tuple.__new__", []) { s with toks := s.toks + 1 }) :
    wpAny (model PySem.Challenge.rw_ax6034_01.row.prog w) A (getMethod (.type "tuple") (Str.ofString "__new__") pl) Q E s := by
  revert X
  k_fill
  intro X
  exact tup_word X (by k_is) (by decide +kernel) h

theorem tgi_kind : builtinKind "tuple.__getitem__" = some .slot := by decide +kernel
theorem tgi_split : splitId "tuple.__getitem__" = some ("tuple", "__getitem__") := by decide +kernel
theorem idx_int : typeLookup (.type "int") "__index__" = pure (some (.builtin "int.__index__")) := by rw [typeLookup_type, builtinLookup_eq_fast]; kernel_rfl
set_option maxHeartbeats 4000000 in
/-- tuple.__getitem__(result, i) -/
theorem res_item {K : Frag} {q dx : Addr} {b : Bool} {r : Int} {t u : Tok} {i : Int} {j : Nat} {v : Value} (X : K.In s.heap) (e2 : mroIn K 343 (.type "tuple") = some true) (N : News h₀ L s.heap news) (hm : (q, resObj dx b r t) ∈ news)
    (hlo : ¬ i < -(2 ^ 63)) (hhi : ¬ i ≥ 2 ^ 63) (hj : seqIndex? i 2 = some j) (hv : [Value.bool b, Value.int r t][j]? = some v) (h : Q v s) :
    wpAny (model prog w) A (call (.builtin "tuple.__getitem__") [.ref q, .int i u]) Q E s := by
  obtain ⟨hh, g, d, tk, os⟩ := s
  have ho := (N _ hm).1
  have L1 := looks_mroIn (M := model prog w) X e2
  have LT : Looks (model prog w) hh (typeOf (.ref q)) (.ref 343) := (Looks.ld ho).andThen .now
  have LI : Looks (model prog w) hh (isInstance (.ref q) (.type "tuple")) true := LT.andThen L1
  refine wpAny_call (codeAny_call_builtin F.slot_tuple_getitem.plain F.entry_tuple_getitem ?_)
  refine @check_slot (model prog w) _ _ ⟨hh, g, d, tk, os⟩ "tuple.__getitem__" "tuple" "__getitem__" (.ref q) [.int i u] [] _ tgi_kind tgi_split LI (F.args_tuple_getitem_2 (.ref q) (.int i u)) ?_
  unfold resObj at ho
  dsimp only at ho
  have L3 := Looks.of_pure (M := model prog w) (h := hh) idx_int
  unfold Builtin.«tuple.__getitem__»
  refine wpAny_bind (wpAny_of_eq (a := (.ref q, [.int i u])) rfl ?_)
  dsimp only
  unfold Builtin.Tuple.tupleItemsOf seqItems?
  refine wpAny_bind (wpAny_bind (wpAny_bind (wpAny_load ho (wpAny_pure (wpAny_pure ?_)))))
  refine wpAny_bind (wpAny_of_eq (a := .type "int") rfl ?_)
  refine KFB.if_not (by decide) ?_
  unfold specialOf
  refine wpAny_bind (wpAny_bind (wpAny_of_eq (a := .type "int") rfl (L3.here ?_)))
  refine KFB.if_not rfl ?_
  refine wpAny_bind (wpAny_of_eq (a := i) rfl ?_)
  refine KFB.if_not (by simp only [decide_eq_false hlo, decide_eq_false hhi, Bool.or_false]) ?_
  have e : ((seqIndex? i #[Value.bool b, Value.int r t].size).bind fun x => #[Value.bool b, Value.int r t][x]?) = some v := by
    show (seqIndex? i 2).bind _ = _
    rw [hj, Option.bind_some]
    simpa using hv
  rw [e]
  exact wpAny_pure h

theorem pk_new (w : World) (P : Program) (D : Addr) : peek (hd.heap_39 w.params) ⟨P, w.params⟩ (checkBuiltinCall "tuple.__new__" ⟨[.ref 343, .ref D], []⟩) = some () := by kernel_rfl
theorem pk_made (w : World) (P : Program) : peek (hd.heap_39 w.params) ⟨P, w.params⟩ (Bind.madeHere "tuple.__new__" (.ref 343)) = some () := by kernel_rfl
theorem pk_type (w : World) (P : Program) : peek (hd.heap_39 w.params) ⟨P, w.params⟩ (isType (.ref 343)) = some true := by kernel_rfl
theorem pk_sub (w : World) (P : Program) : peek (hd.heap_39 w.params) ⟨P, w.params⟩ (isSubtype (.ref 343) (.type "tuple")) = some true := by kernel_rfl
theorem pk_del (w : World) (P : Program) : peek (hd.heap_39 w.params) ⟨P, w.params⟩ (classHasDel 343) = some false := by kernel_rfl
theorem tn_plain : plainId "tuple.__new__" = true := by decide +kernel
theorem newsTwo {h : Heap} {o o' : Obj} (F : Fr h₀ L h m) (N : News h₀ L h news) (f1 : o.isFreed = false) (f2 : o'.isFreed = false) :
    Fr h₀ L ((h.push o).push o') m ∧ News h₀ L ((h.push o).push o') ((h.objs.size + 1, o') :: (h.objs.size, o) :: news) ∧ (∀ p ∈ news, p.1 < h.objs.size) := by
  have N2 := (N.push F o f1).push (F.push _) o' f2
  rw [Heap.size_push] at N2
  exact ⟨(F.push _).push _, N2, fun p hp => Heap.lt_size (N p hp).1⟩
set_option maxHeartbeats 4000000 in
/-- tuple.__new__(BreakResult, (b, r)) -/
theorem res_new {D : Addr} {b : Bool} {r : Int} {t : Tok} (X : (hd.heap_39 w.params).In s.heap) (F : Fr h₀ L s.heap m) (N : News h₀ L s.heap news) (hm : (D, tupObj [.bool b, .int r t]) ∈ news)
    (hi : Looks (model PySem.Challenge.rw_ax6034_01.row.prog w) s.heap (typeLookup (.ref 343) "__init__") (some (.builtin "object.__init__")))
    (h : ∀ q dx h', Fr h₀ L h' m → News h₀ L h' ((q, resObj dx b r t) :: (dx, emptyDict) :: news) → (∀ p ∈ news, p.1 < dx) → dx < q → Q (.ref q) { s with heap := h' }) :
    wpAny (model PySem.Challenge.rw_ax6034_01.row.prog w) A (call (.builtin "tuple.__new__") [.ref 343, .ref D]) Q E s := by
  obtain ⟨hh, g, d, tk, os⟩ := s
  have ho := (N _ hm).1
  have L1 : Looks (model PySem.Challenge.rw_ax6034_01.row.prog w) hh _ _ := Looks.of_peek X (pk_new w _ D)
  have L2 : Looks (model PySem.Challenge.rw_ax6034_01.row.prog w) hh _ _ := Looks.of_peek X (pk_made w _)
  have L3 : Looks (model PySem.Challenge.rw_ax6034_01.row.prog w) hh _ _ := Looks.of_peek X (pk_type w _)
  have L4 : Looks (model PySem.Challenge.rw_ax6034_01.row.prog w) hh _ _ := Looks.of_peek X (pk_sub w _)
  dsimp only at ho hi
  refine wpAny_call (codeAny_call_builtin tn_plain PySem.F.entry_tuple_new (L1.at ?_))
  unfold Builtin.«tuple.__new__»
  refine wpAny_bind (L3.at ?_)
  refine KFB.if_not rfl ?_
  refine wpAny_bind (L4.at ?_)
  refine KFB.if_not rfl ?_
  refine wpAny_bind (L2.at ?_)
  refine wpAny_bind (hi.at ?_)
  refine KFB.if_so (by decide +kernel) ?_
  refine wpAny_bind (wpAny_of_eq (a := ()) (by kernel_rfl) ?_)
  refine wpAny_bind (wpAny_of_eq (a := ()) (by kernel_rfl) ?_)
  refine KFB.if_not (by decide +kernel) ?_
  refine wpAny_bind (wpAny_collect_seq D (.inr rfl) ho rfl rfl (fun h' hk => ?_) (by show 2 ≤ sizeLine; decide +kernel))
  have F' := F.keeps hk
  have N' := N.grown hk
  refine wpAny_bind (wpAny_pure ?_)
  refine wpAny_bind (wpAny_alloc ?_)
  obtain ⟨F2, N2, l2⟩ := newsTwo (o := emptyDict) (o' := resObj h'.objs.size b r t) F' N' rfl rfl
  have LD : Looks (model PySem.Challenge.rw_ax6034_01.row.prog w) hh _ _ := Looks.of_peek X (pk_del w _)
  have key : ∀ A', wpAny (model PySem.Challenge.rw_ax6034_01.row.prog w) A' (newObjAsIs (.ref 343) (.seq #[Value.bool b, Value.int r t]) (some h'.objs.size)) (fun v s' => Q v s') E ⟨h'.push { cls := .type "dict", data := .dict #[] }, g, d, tk, os⟩ := by
    intro A'
    unfold newObjAsIs
    refine wpAny_bind (wpAny_alloc (wpAny_bind ?_))
    refine LD A' _ _ _ (fun b o e => Heap.get?_push_of_some _ (Heap.get?_push_of_some _ (hk b o e))) ?_
    refine wpAny_pure ?_
    have := h (h'.objs.size + 1) h'.objs.size _ F2 N2 l2 (Nat.lt_succ_self _)
    show Q (.ref (h'.push _).objs.size) _
    rw [Heap.size_push]
    exact this
  have sz : ¬ (#[Value.bool b, Value.int r t].size > sizeLine) := by show ¬ (2 > sizeLine); decide +kernel
  unfold newObj
  dsimp only
  rw [if_neg sz]
  exact wpAny_bind (wpAny_mono (key _) (fun v s' z => wpAny_pure z) fun _ _ z => z)
end
end Mine
namespace Mine
set_option maxRecDepth 100000
set_option linter.unusedVariables false
set_option linter.unusedSimpArgs false
theorem newsDrop {h₀ h : Heap} {L : Addr} {a c b : Addr × Obj} {r : List (Addr × Obj)} (N : News h₀ L h (a :: c :: b :: r)) : News h₀ L h (a :: c :: r) := by
  intro p hp
  rcases List.mem_cons.mp hp with rfl | hp
  · exact N _ (.head _)
  rcases List.mem_cons.mp hp with rfl | hp
  · exact N _ (.tail _ (.head _))
  exact N _ (.tail _ (.tail _ (.tail _ hp)))
local macro_rules | `(tactic| walk_at "getMethod type:tuple") => `(tactic| (k_here; k_dflt (first | (refine' tup_new ?k1 ?_; (case k1 => k_in)) | (refine' tup_getitem ?k1 ?_; (case k1 => k_in))); (try dsimp only)))
local macro_rules | `(tactic| walk_at "call builtin:tuple.__new__") => `(tactic| (k_here; (with_reducible show wpAny _ _ (call (Value.builtin _) [Value.ref _, Value.ref _]) _ _ _); k_dflt (refine' res_new ?k1 ?k2 ?k3 ?k4 ?k5 ?_; (case k1 => k_in); (case k2 => k_asm); (case k3 => k_asm); (case k4 => k_mem); (case k5 => exact looks_findIn (by k_in) (by k_is)); k_whole); intro q' dx' h' F' N' l1 l2; (try k_lt l1)))
set_option maxHeartbeats 8000000 in
theorem ct_new {w : World} {p : Program} {loose : List Str} {mean : ExcName → Option Value} {mg mb : Str → Option Value} {A A₀ : Around} {env : Env} {outer : List Env} {base h₀ : Heap} {L : Addr} {m : Str → Option Value} {news : List (Addr × Obj)} {s : Shared} {R : Result → Shared → Prop}
    {b : Bool} {r : Int} {t : Tok}
    (B : Below A₀ base outer h₀) (F : Fr h₀ L s.heap m) (X : (hd.heap_39 w.params).In h₀) (N : News h₀ L s.heap news) (T : Top p loose mean mg mb h₀) (hA : A.frames = some (env :: outer)) (hf : env.frame = some L) (hke : env.scope.kind = .function) (hroom : A.depth < recursionLimit)
    (hret : ∀ q dx h' tk', Fr h₀ L h' m → News h₀ L h' ((q, resObj dx b r t) :: (dx, emptyDict) :: news) → (∀ p ∈ news, p.1 < dx) → dx < q → R (.ok (.ret (.ref q))) { s with heap := h', toks := tk' }) :
    codeAny (model PySem.Challenge.rw_ax6034_01.row.prog w) A (.call (.ref 293) ⟨[.ref 343], [(Str.ofString "should_break", .bool b), (Str.ofString "ri_count", .int r t)]⟩) R s := by
  revert X
  k_fill
  intro X
  k_dflt (refine' code_def (binds := [(Str.ofString "_cls", .ref 343), (Str.ofString "should_break", .bool b), (Str.ofString "ri_count", .int r t)]) ?k1 ?k2 ?k3 ?k4 ?k5 ?kA ?kF ?kK ?k6 ?k7 ?k8 ?k9 ?kB ?_ ?c2 ?c3 ?c4 ?c5; (case kA => exact hA); (case kF => exact hf); (case kK => exact hke); (case k1 => k_asm); (case k2 => k_asm); (case k3 => k_asm); (case k4 => k_asm); (case k5 => k_asm); (case k6 => k_is); (case k7 => k_is); (case k8 => exact hroom); (case k9 => first | exact BindsTo.of_eq rfl | exact binds_K (by k_in) rfl (by k_is) rfl rfl rfl); (case c5 => decide); (case kB => exact locs rfl); (case c2 => exact rfl); (case c3 => exact rfl); (case c4 => exact rfl); k_whole; intro g' L' h' FG' F' N' B' X' T'; (try dsimp only); (try k_fold))
  k_steps
  rename _ ∧ AllLt _ _ => l9
  exact hret _ _ _ _ ‹_› (newsDrop ‹_›) (ktn_ltOf l9.2) ‹_›

theorem pk_made0 (w : World) (P : Program) : peek (hd.heap_39 w.params) ⟨P, w.params⟩ (Bind.madeBy (.ref 343)) = some none := by kernel_rfl
theorem oi_args2 (a : Value) (kw : List (Str × Value)) : argsOk "object.__init__" ⟨[a], kw⟩ := by unfold argsOk; kernel_rfl
set_option maxHeartbeats 8000000 in
theorem ct_mk {w : World} {p : Program} {loose : List Str} {mean : ExcName → Option Value} {mg mb : Str → Option Value}
    {dp un : Nat} {gd : Option (List Code)} {cn : Str} {cs : Scope} {a : Addr} {ccd : Value} {cl : List (Str × Addr)} {outer : List Env} {A₀ : Around} {base h₀ : Heap} {L : Addr} {m : Str → Option Value} {news : List (Addr × Obj)} {s : Shared} {Q E : Value → Shared → Prop}
    {b : Bool} {r : Int} {t : Tok}
    (B : Below A₀ base outer h₀) (F : Fr h₀ L s.heap m) (X : (hd.heap_39 w.params).In h₀) (N : News h₀ L s.heap news) (T : Top p loose mean mg mb h₀) (hk : cs.kind = .function) (hdp : dp + 2 < recursionLimit) (hun : un + 16 < cLine)
    (hret : ∀ q dx h' tk', Fr h₀ L h' m → News h₀ L h' ((q, resObj dx b r t) :: (dx, emptyDict) :: news) → (∀ p ∈ news, p.1 < dx) → dx < q → Q (.ref q) { s with heap := h', toks := tk' }) :
    wpAny (model PySem.Challenge.rw_ax6034_01.row.prog w) (ktrTop dp un gd cn cs L a ccd cl outer) (call (.ref 343) [] [(Str.ofString "should_break", .bool b), (Str.ofString "ri_count", .int r t)]) Q E s := by
  revert X
  k_fill
  intro X
  obtain ⟨hh, g, d, tk, os⟩ := s
  have X' := X.keeps F.keep
  obtain ⟨oc, od, cd, sl, hC0⟩ : ∃ oc od cd sl, (hd.heap_39 w.params).lookup 343 = some ⟨oc, od, .cls cd, sl⟩ := ⟨_, _, _, _, by k_is⟩
  have hC := X' _ _ hC0
  dsimp only at hC
  have call : Looks (model PySem.Challenge.rw_ax6034_01.row.prog w) hh (specialOf (.ref 343) "__call__") (some (.builtin "type.__call__")) := looks_specialIn X' (by k_is)
  have typ : Looks (model PySem.Challenge.rw_ax6034_01.row.prog w) hh (isInstance (.ref 343) (.type "type")) true := looks_instIn X' (by k_is)
  have made : Looks (model PySem.Challenge.rw_ax6034_01.row.prog w) hh _ _ := Looks.of_peek X' (pk_made0 w _)
  refine wpAny_call (codeAny_of_tree ?_)
  show wpAny _ _ (callAny (.ref 343) _) _ _ _
  refine nd_load hC ?_
  show wpAny _ _ (callAny.viaDunder (.ref 343) _) _ _ _
  unfold callAny.viaDunder
  refine wpAny_bind (call.at ?_)
  dsimp only
  rw [tc_bind]
  refine wpAny_bind (wpAny_pure (wpAny_bind (wpAny_pure ?_)))
  refine wpAny_pure (a := Fin.again (.call (.builtin "type.__call__") ⟨[.ref 343], [(Str.ofString "should_break", .bool b), (Str.ofString "ri_count", .int r t)]⟩)) (And.intro rfl ?_)
  refine codeAny_call_builtin_at (Code.quiet_builtin _ (by decide +kernel)) entry_typeCall (check_slot tc_kind tc_split typ (tc_args _ _ _) ?_)
  unfold Builtin.«type.__call__»
  have e4 : cd.mro.isEmpty = false := by
    have h1 : (clsIn (hd.heap_39 w.params) 343).map (·.mro.isEmpty) = some false := by kernel_rfl
    unfold clsIn at h1
    rw [hC0] at h1
    exact Option.some.inj h1
  have hm : Looks (model PySem.Challenge.rw_ax6034_01.row.prog w) hh (mroOf (.ref 343)) cd.mro := ((Looks.ld (part := none) hC).andThen .now).andThen .now
  repeat (first | simp only [e4, Bool.false_eq_true, if_false] | (refine' cls_sm (p := 344) (s := ⟨hh, g, d, tk, os⟩) F X ?q1 ?q2 ?q3 ?q4 ?q5 ?_; (case q1 => k_is); (case q2 => k_is); (case q3 => k_is); (case q4 => k_is); (case q5 => k_handed)) | with_reducible refine wpAny_call ?_ | lk)
  refine ct_new B F X N T rfl rfl hk (by ktr_room) ?_
  intro q dx h' tk' F' N' l1 l2
  have X2 := X.keeps F'.keep
  have hq := (N' _ (.head _)).1
  have LT : Looks (model PySem.Challenge.rw_ax6034_01.row.prog w) h' (typeOf (.ref q)) (.ref 343) := (Looks.ld hq).andThen .now
  have i1 : Looks (model PySem.Challenge.rw_ax6034_01.row.prog w) h' (isInstance (.ref q) (.ref 343)) true := LT.andThen (looks_mroIn X2 (by k_is))
  have i2 : Looks (model PySem.Challenge.rw_ax6034_01.row.prog w) h' (isInstance (.ref q) (.type "object")) true := LT.andThen (looks_mroIn X2 (by k_is))
  have in2 : Looks (model PySem.Challenge.rw_ax6034_01.row.prog w) h' (typeLookup (.ref 343) "__init__") (some (.builtin "object.__init__")) := looks_findIn X2 (by k_is)
  have made2 : Looks (model PySem.Challenge.rw_ax6034_01.row.prog w) h' _ _ := Looks.of_peek X2 (pk_made0 w _)
  have hr := hret q dx h' tk' F' N' l1 l2
  unfold callSpecial? specialOf
  refine wpAny_bind (i1.at ?_)
  refine KFB.if_not rfl ?_
  refine wpAny_bind (wpAny_holding (wpAny_bind (wpAny_bind (LT.at (in2.at (wpAny_holding ?_))))))
  rw [oi_bind]
  refine wpAny_bind (wpAny_pure (wpAny_bind (wpAny_call ?_)))
  refine codeAny_call_builtin oi_plain entry_oi ?_
  refine @check_slot (model PySem.Challenge.rw_ax6034_01.row.prog w) _ _ ⟨h', g, d, tk', os⟩ "object.__init__" "object" "__init__" (.ref q) [] _ _ oi_kind oi_split i2 (oi_args2 _ _) ?_
  unfold Builtin.«object.__init__»
  dsimp only
  refine KFB.if_so rfl ?_
  refine wpAny_bind (LT.at (wpAny_bind (in2.at (wpAny_bind (made2.at ?_)))))
  refine KFB.if_not (by decide +kernel) ?_
  refine KFB.if_not (by decide +kernel) ?_
  exact wpAny_pure (wpAny_pure (wpAny_pure hr))
end Mine
namespace Mine
set_option maxRecDepth 100000
set_option linter.unusedVariables false
set_option linter.unusedSimpArgs false
theorem tga_kind : builtinKind "tuple.__getattribute__" = some .slot := by decide +kernel
theorem tga_split : splitId "tuple.__getattribute__" = some ("tuple", "__getattribute__") := by decide +kernel
section
open Builtin Builtin.ObjectAttr
variable {prog : Program} {w : World} {A : Around} {E : Value → Shared → Prop} {s : Shared} {K : Frag} {x C : Addr} {ox : Obj} {od : Option Obj} {name : Str} {expr : Bool} {Q : Value → Shared → Prop}
set_option maxHeartbeats 4000000 in
theorem get_bind_tup {g a : Value} (X : K.In s.heap) (I : InstAt s.heap x ox C od) (hga : findIn K (.ref C) "__getattribute__" = some (some (.builtin "tuple.__getattribute__"))) (hk : findIn K (.ref C) "__getattr__" = some none) (hs : mroIn K C (.type "tuple") = some true)
    (hf : findObj K C od name = some (.bind g a))
    (h : wpAny (model prog w) A.in1 (call g [a, .ref x, .ref C]) (fun v s' => wpAny (model prog w) A (handedOut v) Q E s') (fun _ _ => False) { s with toks := s.toks + 1 }) : wpAny (model prog w) A (getAttr (.ref x) name expr) Q E s := by
  obtain ⟨hh, gg, d, t, os⟩ := s
  have L0 := I.type (M := model prog w)
  have L1 := looks_findIn (M := model prog w) X hga
  have L2 := looks_findIn (M := model prog w) X hk
  have LF := looks_find (M := model prog w) X I hf
  have LI : Looks (model prog w) hh (isInstance (.ref x) (.type "tuple")) true := L0.andThen (looks_mroIn X hs)
  unfold getAttr getAttrBy
  refine wpAny_bind (wpAny_mkText (wpAny_holding (wpAny_bind (L0.at (wpAny_bind (L1.at ?_))))))
  dsimp only
  refine KFB.if_not (by show (true && (Value.builtin "tuple.__getattribute__" == Value.builtin "object.__getattribute__")) = false; decide +kernel) ?_
  unfold getAttrByItsOwn
  refine wpAny_bind (L2.at (wpAny_bind (wpAny_attempt (wpAny_holding ?_))))
  unfold callGetattribute
  rw [show (expr && onTheHeap (Value.builtin "tuple.__getattribute__")) = false from Bool.and_false _, if_neg (by decide)]
  unfold boundAndCalled
  rw [F.slot_tuple_getattribute.bind]
  refine wpAny_bind (wpAny_pure ?_)
  show wpAny _ _ (call (.builtin "tuple.__getattribute__") [.ref x, .str name t]) _ _ _
  refine wpAny_call (codeAny_call_builtin F.slot_tuple_getattribute.plain F.entry_tuple_ga ?_)
  refine @check_slot (model prog w) _ _ ⟨hh, gg, d, t + 1, os⟩ "tuple.__getattribute__" "tuple" "__getattribute__" (.ref x) [.str name t] [] _ tga_kind tga_split LI (F.args_tuple_getattribute_2 (.ref x) (.str name t)) ?_
  unfold Builtin.«object.__getattribute__»
  refine wpAny_bind (wpAny_of_eq (a := (.ref x, [.str name t])) rfl ?_)
  dsimp only
  refine wpAny_bind (wpAny_of_eq (a := name) rfl ?_)
  refine wpAny_bind (L0.at (wpAny_bind (LF.at ?_)))
  dsimp only
  show wpAny _ _ (holding [a] (call g [a, .ref x, .ref C]) >>= ret) _ _ _
  refine wpAny_bind (wpAny_holding (wpAny_mono h (fun v s' z => wpAny_pure z) fun _ _ z => z.elim))
end

local macro_rules | `(tactic| walk_at "getMethod type:tuple") => `(tactic| (k_here; k_dflt (first | (refine' tup_getitem ?k1 ?_; (case k1 => k_in)) | (refine' tup_new ?k1 ?_; (case k1 => k_in))); (try dsimp only)))
local macro_rules | `(tactic| walk_at "call type:type") => `(tactic| (k_here; (with_reducible show wpAny _ _ (call (Value.type "type") [Value.ref _]) _ _ _); k_dflt (refine' res_type ?k1 ?k2 ?_; (case k1 => k_asm); (case k2 => assumption))))
local macro_rules | `(tactic| walk_at "call builtin:issubclass") => `(tactic| (k_here; (with_reducible show wpAny _ _ (call (Value.builtin _) [Value.ref 343, Value.type "tuple"]) _ _ _); k_dflt (refine' res_sub ?k1 ?_; (case k1 => k_in))))
local macro_rules | `(tactic| walk_at "call builtin:tuple.__getitem__") => `(tactic| (k_here; (with_reducible show wpAny _ _ (call (Value.builtin _) [Value.ref _, Value.int _ _]) _ _ _); k_dflt (refine' res_item ?k1 ?k2 ?k3 ?k4 ?k5 ?k6 ?k7 ?k8 ?_; (case k1 => k_in); (case k2 => k_is); (case k3 => k_asm); (case k4 => assumption); (case k5 => decide); (case k6 => decide); (case k7 => exact rfl); (case k8 => exact rfl); k_whole)))
set_option maxHeartbeats 8000000 in
theorem ct_tget_ri {w : World} {p : Program} {loose : List Str} {mean : ExcName → Option Value} {mg mb : Str → Option Value} {A A₀ : Around} {env : Env} {outer : List Env} {base h₀ : Heap} {L : Addr} {m : Str → Option Value} {news : List (Addr × Obj)} {s : Shared} {R : Result → Shared → Prop}
    {b : Bool} {r : Int} {t : Tok} {q dx : Addr}
    (B : Below A₀ base outer h₀) (F : Fr h₀ L s.heap m) (X : (hd.heap_39 w.params).In h₀) (N : News h₀ L s.heap news) (T : Top p loose mean mg mb h₀) (hA : A.frames = some (env :: outer)) (hf : env.frame = some L) (hke : env.scope.kind = .function) (hroom : A.depth < recursionLimit) (hq : (q, resObj dx b r t) ∈ news)
    (hret : ∀ h' tk', Fr h₀ L h' m → News h₀ L h' news → R (.ok (.ret (.int r t))) { s with heap := h', toks := tk' }) :
    codeAny (model PySem.Challenge.rw_ax6034_01.row.prog w) A (.call (.ref 205) ⟨[.ref 338, .ref q, .ref 343], []⟩) R s := by
  revert X
  k_fill
  intro X
  k_dflt (refine' code_def (binds := [(Str.ofString "self", .ref 338), (Str.ofString "obj", .ref q), (Str.ofString "objtype", .ref 343)]) ?k1 ?k2 ?k3 ?k4 ?k5 ?kA ?kF ?kK ?k6 ?k7 ?k8 ?k9 ?kB ?_ ?c2 ?c3 ?c4 ?c5; (case kA => exact hA); (case kF => exact hf); (case kK => exact hke); (case k1 => k_asm); (case k2 => k_asm); (case k3 => k_asm); (case k4 => k_asm); (case k5 => k_asm); (case k6 => k_is); (case k7 => k_is); (case k8 => exact hroom); (case k9 => first | exact BindsTo.of_eq rfl | exact binds_K (by k_in) rfl (by k_is) rfl rfl rfl); (case c5 => decide); (case kB => exact locs rfl); (case c2 => exact rfl); (case c3 => exact rfl); (case c4 => exact rfl); k_whole; intro g' L' h' FG' F' N' B' X' T'; (try dsimp only); (try k_fold))
  k_steps
  exact hret _ _ ‹_› ‹_›
/-- result.ri_count -/
theorem ct_ri {w : World} {p : Program} {loose : List Str} {mean : ExcName → Option Value} {mg mb : Str → Option Value}
    {dp un : Nat} {gd : Option (List Code)} {cn : Str} {cs : Scope} {a : Addr} {ccd : Value} {cl : List (Str × Addr)} {outer : List Env} {A₀ : Around} {base h₀ : Heap} {L : Addr} {m : Str → Option Value} {news : List (Addr × Obj)} {s : Shared} {Q E : Value → Shared → Prop} {expr : Bool}
    {b : Bool} {r : Int} {t : Tok} {q dx : Addr}
    (B : Below A₀ base outer h₀) (F : Fr h₀ L s.heap m) (X : (hd.heap_39 w.params).In h₀) (N : News h₀ L s.heap news) (T : Top p loose mean mg mb h₀) (hk : cs.kind = .function) (hdp : dp + 2 < recursionLimit) (hq : (q, resObj dx b r t) ∈ news) (hx : (dx, emptyDict) ∈ news)
    (hret : ∀ h' tk', Fr h₀ L h' m → News h₀ L h' news → Q (.int r t) { s with heap := h', toks := tk' }) :
    wpAny (model PySem.Challenge.rw_ax6034_01.row.prog w) (ktrTop dp un gd cn cs L a ccd cl outer) (getAttr (.ref q) (Str.ofString "ri_count") expr) Q E s := by
  revert X
  k_fill
  intro X
  have X' := X.keeps F.keep
  have I : InstAt s.heap q (resObj dx b r t) 343 (some emptyDict) := ⟨(N _ hq).1, rfl, rfl, (N _ hx).1⟩
  refine get_bind_tup (g := .ref 205) (a := .ref 338) X' I (by k_is) (by k_is) (by k_is) (findObj_data (by kernel_rfl) (by k_is) (by k_is) (by k_is)) ?_
  refine wpAny_call (ct_tget_ri (s := { s with toks := s.toks + 1 }) B F X N T rfl rfl hk (by ktr_room) hq fun h' tk' F' N' => ?_)
  exact handed_on rfl (hret h' tk' F' N')
set_option maxHeartbeats 8000000 in
theorem ct_tget_sb {w : World} {p : Program} {loose : List Str} {mean : ExcName → Option Value} {mg mb : Str → Option Value} {A A₀ : Around} {env : Env} {outer : List Env} {base h₀ : Heap} {L : Addr} {m : Str → Option Value} {news : List (Addr × Obj)} {s : Shared} {R : Result → Shared → Prop}
    {b : Bool} {r : Int} {t : Tok} {q dx : Addr}
    (B : Below A₀ base outer h₀) (F : Fr h₀ L s.heap m) (X : (hd.heap_39 w.params).In h₀) (N : News h₀ L s.heap news) (T : Top p loose mean mg mb h₀) (hA : A.frames = some (env :: outer)) (hf : env.frame = some L) (hke : env.scope.kind = .function) (hroom : A.depth < recursionLimit) (hq : (q, resObj dx b r t) ∈ news)
    (hret : ∀ h' tk', Fr h₀ L h' m → News h₀ L h' news → R (.ok (.ret (.bool b))) { s with heap := h', toks := tk' }) :
    codeAny (model PySem.Challenge.rw_ax6034_01.row.prog w) A (.call (.ref 205) ⟨[.ref 335, .ref q, .ref 343], []⟩) R s := by
  revert X
  k_fill
  intro X
  k_dflt (refine' code_def (binds := [(Str.ofString "self", .ref 335), (Str.ofString "obj", .ref q), (Str.ofString "objtype", .ref 343)]) ?k1 ?k2 ?k3 ?k4 ?k5 ?kA ?kF ?kK ?k6 ?k7 ?k8 ?k9 ?kB ?_ ?c2 ?c3 ?c4 ?c5; (case kA => exact hA); (case kF => exact hf); (case kK => exact hke); (case k1 => k_asm); (case k2 => k_asm); (case k3 => k_asm); (case k4 => k_asm); (case k5 => k_asm); (case k6 => k_is); (case k7 => k_is); (case k8 => exact hroom); (case k9 => first | exact BindsTo.of_eq rfl | exact binds_K (by k_in) rfl (by k_is) rfl rfl rfl); (case c5 => decide); (case kB => exact locs rfl); (case c2 => exact rfl); (case c3 => exact rfl); (case c4 => exact rfl); k_whole; intro g' L' h' FG' F' N' B' X' T'; (try dsimp only); (try k_fold))
  k_steps
  exact hret _ _ ‹_› ‹_›
/-- result.should_break -/
theorem ct_sb {w : World} {p : Program} {loose : List Str} {mean : ExcName → Option Value} {mg mb : Str → Option Value}
    {dp un : Nat} {gd : Option (List Code)} {cn : Str} {cs : Scope} {a : Addr} {ccd : Value} {cl : List (Str × Addr)} {outer : List Env} {A₀ : Around} {base h₀ : Heap} {L : Addr} {m : Str → Option Value} {news : List (Addr × Obj)} {s : Shared} {Q E : Value → Shared → Prop} {expr : Bool}
    {b : Bool} {r : Int} {t : Tok} {q dx : Addr}
    (B : Below A₀ base outer h₀) (F : Fr h₀ L s.heap m) (X : (hd.heap_39 w.params).In h₀) (N : News h₀ L s.heap news) (T : Top p loose mean mg mb h₀) (hk : cs.kind = .function) (hdp : dp + 2 < recursionLimit) (hq : (q, resObj dx b r t) ∈ news) (hx : (dx, emptyDict) ∈ news)
    (hret : ∀ h' tk', Fr h₀ L h' m → News h₀ L h' news → Q (.bool b) { s with heap := h', toks := tk' }) :
    wpAny (model PySem.Challenge.rw_ax6034_01.row.prog w) (ktrTop dp un gd cn cs L a ccd cl outer) (getAttr (.ref q) (Str.ofString "should_break") expr) Q E s := by
  revert X
  k_fill
  intro X
  have X' := X.keeps F.keep
  have I : InstAt s.heap q (resObj dx b r t) 343 (some emptyDict) := ⟨(N _ hq).1, rfl, rfl, (N _ hx).1⟩
  refine get_bind_tup (g := .ref 205) (a := .ref 335) X' I (by k_is) (by k_is) (by k_is) (findObj_data (by kernel_rfl) (by k_is) (by k_is) (by k_is)) ?_
  refine wpAny_call (ct_tget_sb (s := { s with toks := s.toks + 1 }) B F X N T rfl rfl hk (by ktr_room) hq fun h' tk' F' N' => ?_)
  exact handed_on rfl (hret h' tk' F' N')
end Mine
namespace Mine
set_option maxRecDepth 100000
set_option linter.unusedVariables false
set_option linter.unusedSimpArgs false
def CondEnd (h₀ : Heap) (L : Addr) (m : Str → Option Value) (news : List (Addr × Obj)) (s : Shared) (C : Prop) (b : Bool) (s₁ : Shared) : Prop :=
  ∃ h' tk', s₁ = { s with heap := h', toks := tk' } ∧ Fr h₀ L h' m ∧ News h₀ L h' news ∧ (b = true → C) ∧ (b = false → ¬ C)
theorem cond_end {h₀ h' : Heap} {L : Addr} {m : Str → Option Value} {news news' : List (Addr × Obj)} {s : Shared} {C : Prop} {b : Bool} {tk' : Nat}
    (F : Fr h₀ L h' m) (N : News h₀ L h' news') (hn : ∀ p ∈ news, p ∈ news') (h1 : b = true → C) (h2 : b = false → ¬ C) : CondEnd h₀ L m news s C b { s with heap := h', toks := tk' } :=
  ⟨h', tk', rfl, F, fun p hp => N p (hn p hp), h1, h2⟩
theorem if_seq {M : Model} {A : Around} {E : Value → Shared → Prop} {s : Shared} {env : Env} {Q : Flow → Shared → Prop} {test : Expr} {body rest : List Stmt} {pos : Pos} {h₀ : Heap} {L : Addr} {m : Str → Option Value} {news : List (Addr × Obj)} (C : Prop) (_F : Fr h₀ L s.heap m) (_N : News h₀ L s.heap news)
    (hc : wpAny M A (isTrue test env (eval test env)) (CondEnd h₀ L m news s C) E s)
    (hT : C → ∀ h' tk', Fr h₀ L h' m → News h₀ L h' news → wpAny M A (execs body env) (fun f s' => match f with | .next => wpAny M A (execs rest env) Q E s' | f => Q f s') E { s with heap := h', toks := tk' })
    (hF : ¬ C → ∀ h' tk', Fr h₀ L h' m → News h₀ L h' news → wpAny M A (execs rest env) Q E { s with heap := h', toks := tk' }) :
    wpAny M A (execs (.If test body [] pos :: rest) env) Q E s := by
  refine wpAny_execs_cons (wpAny_If (wpAny_mono hc (fun b s₁ h => ?_) fun _ _ h => h))
  obtain ⟨h', tk', rfl, F, N, h1, h2⟩ := h
  cases b with
  | true =>
    rw [if_pos rfl]
    exact hT (h1 rfl) h' tk' F N
  | false =>
    rw [if_neg (by decide)]
    exact wpAny_execs_nil (hF (h2 rfl) h' tk' F N)
theorem cl_tt {C : Prop} (h : C) : (true = true → C) ∧ (true = false → ¬ C) := ⟨fun _ => h, fun e => by cases e⟩
theorem cl_ff {C : Prop} (h : ¬ C) : (false = true → C) ∧ (false = false → ¬ C) := ⟨fun e => by (cases e), fun _ => h⟩
theorem cl_dec {C P : Prop} {i : Decidable P} (h : P ↔ C) : (decide P = true → C) ∧ (decide P = false → ¬ C) := ⟨fun e => h.mp (of_decide_eq_true e), fun e hc => of_decide_eq_false e (h.mpr hc)⟩
theorem cond_end' {h₀ h' : Heap} {L : Addr} {m : Str → Option Value} {news news' : List (Addr × Obj)} {s : Shared} {C : Prop} {b : Bool} {tk' : Nat}
    (F : Fr h₀ L h' m) (N : News h₀ L h' news') (hn : ∀ p ∈ news, p ∈ news') (h : (b = true → C) ∧ (b = false → ¬ C)) : CondEnd h₀ L m news s C b { s with heap := h', toks := tk' } := cond_end F N hn h.1 h.2
local macro_rules | `(tactic| walk_at "callWith ref") => `(tactic| (k_here; (with_reducible show wpAny _ _ (callWith _ (Value.ref _) _ (backTo _ (starEach [] _)) (backToKw _ _)) _ _ _); k_dflt (refine' callWith_KW0 ?k1 ?k2 ?k3 ?_; (case k1 => k_asm); (case k2 => k_is); (case k3 => exact rfl); k_whole)))
local macro_rules | `(tactic| walk_at "CondEnd") => `(tactic| (refine' cond_end' ?f ?n ?s ?c; (case f => k_asm); (case n => k_asm); (case s => first | exact fun _ h => h | exact fun _ h => List.mem_cons_of_mem _ h | exact fun _ h => List.mem_cons_of_mem _ (List.mem_cons_of_mem _ h)); (case c => first | (refine cl_tt ?_; (try simp only [List.any_cons, List.any_nil, Bool.or_false, Bool.or_eq_true, beq_iff_eq, Bool.not_eq_true, Bool.or_eq_false_iff, beq_eq_false_iff_ne, ne_eq] at *); omega) | (refine cl_ff ?_; (try simp only [List.any_cons, List.any_nil, Bool.or_false, Bool.or_eq_true, beq_iff_eq, Bool.not_eq_true, Bool.or_eq_false_iff, beq_eq_false_iff_ne, ne_eq] at *); omega) | (refine cl_dec ?_; (try simp only [List.any_cons, List.any_nil, Bool.or_false, Bool.or_eq_true, beq_iff_eq, Bool.not_eq_true, Bool.or_eq_false_iff, beq_eq_false_iff_ne, ne_eq] at *); omega) | (refine ⟨fun h => ?_, fun h => ?_⟩ <;> ((try simp only [List.any_cons, List.any_nil, Bool.or_false, Bool.or_eq_true, beq_iff_eq, Bool.not_eq_true, Bool.or_eq_false_iff, beq_eq_false_iff_ne, ne_eq] at *); omega)))))
local macro_rules | `(tactic| walk_at "call ref") => `(tactic| (k_here; (with_reducible show wpAny _ _ (call (Value.ref 343) _ _) _ _ _); k_dflt (refine' ct_mk ?k1 ?k2 ?k3 ?k4 ?k5 ?kK ?kd ?ku ?_; (case k1 => k_asm); (case k2 => k_asm); (case k3 => k_asm); (case k4 => k_asm); (case k5 => k_asm); (case kK => first | exact rfl | assumption); (case kd => ktr_room); (case ku => ktr_units); k_whole); intro q' dx' h' tk' F' N' l1 l2; (try dsimp only); (try k_fold)))

theorem newsDrop0 {h₀ h : Heap} {L : Addr} {l : List (Addr × Obj)} (N : News h₀ L h l) : News h₀ L h l := N
def simpleF (x y : Int) : Option (Bool × Int) :=
  if x = 1 ∧ y = 2 then some (false, 0)
  else if x = 3 ∨ x = 1 ∨ x = 2 then some (true, if y = 6 then 1 else 0)
  else if y = 3 ∨ y = 1 ∨ y = 2 then some (true, 0)
  else if x = 9 ∧ (y = 9 ∨ y = 10 ∨ y = 12 ∨ y = 13) then some (false, 0)
  else if (x = 12 ∨ x = 10) ∧ (y = 10 ∨ y = 11) then some (false, 0)
  else if (x = 13 ∨ x = 11) ∧ y = 11 then some (false, 0)
  else if y = 4 then some (false, 0)
  else if y = 8 then some (false, 0)
  else if x = 7 then some (false, if y = 6 then 1 else 0)
  else none
set_option maxHeartbeats 8000000 in
theorem ct_simple {w : World} {p : Program} {loose : List Str} {mean : ExcName → Option Value} {mg mb : Str → Option Value}
    {dp un : Nat} {gd : Option (List Code)} {cn : Str} {cs : Scope} {a : Addr} {ccd : Value} {cl : List (Str × Addr)} {outer : List Env} {A₀ : Around} {base h₀ : Heap} {L : Addr} {m : Str → Option Value} {news : List (Addr × Obj)} {s : Shared} {Q E : Value → Shared → Prop}
    {x y : Int} {tx ty : Tok}
    (B : Below A₀ base outer h₀) (F : Fr h₀ L s.heap m) (X : (hd.heap_39 w.params).In h₀) (N : News h₀ L s.heap news) (T : Top p loose mean mg mb h₀) (hk : cs.kind = .function) (hdp : dp + 3 < recursionLimit) (hun : un + 30 < cLine)
    (hnone : simpleF x y = none → ∀ h' tk', Fr h₀ L h' m → News h₀ L h' news → Q .none { s with heap := h', toks := tk' })
    (hsome : ∀ b r, simpleF x y = some (b, r) → ∀ q dx t h' tk', Fr h₀ L h' m → News h₀ L h' ((q, resObj dx b r t) :: (dx, emptyDict) :: news) → (∀ p ∈ news, p.1 < dx) → dx < q → Q (.ref q) { s with heap := h', toks := tk' }) :
    wpAny (model PySem.Challenge.rw_ax6034_01.row.prog w) (ktrTop dp un gd cn cs L a ccd cl outer) (call (.ref 353) [.int x tx, .int y ty]) Q E s := by
  revert X
  k_fill
  intro X
  refine wpAny_call ?_
  k_dflt (refine' code_def (binds := [(Str.ofString "prev_gcb", .int x tx), (Str.ofString "curr_gcb", .int y ty)]) ?k1 ?k2 ?k3 ?k4 ?k5 ?kA ?kF ?kK ?k6 ?k7 ?k8 ?k9 ?kB ?_ ?c2 ?c3 ?c4 ?c5; (case kA => exact rfl); (case kF => exact rfl); (case kK => assumption); (case k1 => k_asm); (case k2 => k_asm); (case k3 => k_asm); (case k4 => k_asm); (case k5 => k_asm); (case k6 => k_is); (case k7 => k_is); (case k8 => ktr_room); (case k9 => exact BindsTo.of_eq rfl); (case c5 => decide); (case kB => exact locs rfl); (case c2 => exact rfl); (case c3 => exact rfl); (case c4 => exact rfl); k_whole; intro g' L' h' FG' F' N' B' X' T'; (try dsimp only); (try k_fold))
  refine wpAny_execs_cons ?_
  walk1
  walk1
  dsimp only
  refine if_seq (x = 1 ∧ y = 2) F' N' ?_ (fun c0 h9 tk9 F9 N9 => ?_) (fun c0 h9 tk9 F9 N9 => ?_)
  · clear hnone hsome
    k_steps
  · k_fold
    k_steps
    all_goals (refine hsome _ _ ?e _ _ _ _ _ ‹_› (newsDrop0 ‹News _ _ _ (_ :: _ :: _)›) ‹_› ‹_›; (case e => unfold simpleF; rw [if_pos c0]; try simp only [*, if_true, if_false]))
  refine if_seq (x = 3 ∨ x = 1 ∨ x = 2) F9 N9 ?_ (fun c1 h9 tk9 F9 N9 => ?_) (fun c1 h9 tk9 F9 N9 => ?_)
  · clear hnone hsome
    k_steps
  · k_fold
    k_steps
    all_goals (refine hsome _ _ ?e _ _ _ _ _ ‹_› (newsDrop0 ‹News _ _ _ (_ :: _ :: _)›) ‹_› ‹_›; (case e => unfold simpleF; rw [if_neg c0, if_pos c1]; try simp only [*, if_true, if_false]))
  refine if_seq (y = 3 ∨ y = 1 ∨ y = 2) F9 N9 ?_ (fun c2 h9 tk9 F9 N9 => ?_) (fun c2 h9 tk9 F9 N9 => ?_)
  · clear hnone hsome
    k_steps
  · k_fold
    k_steps
    all_goals (refine hsome _ _ ?e _ _ _ _ _ ‹_› (newsDrop0 ‹News _ _ _ (_ :: _ :: _)›) ‹_› ‹_›; (case e => unfold simpleF; rw [if_neg c0, if_neg c1, if_pos c2]; try simp only [*, if_true, if_false]))
  refine if_seq (x = 9 ∧ (y = 9 ∨ y = 10 ∨ y = 12 ∨ y = 13)) F9 N9 ?_ (fun c3 h9 tk9 F9 N9 => ?_) (fun c3 h9 tk9 F9 N9 => ?_)
  · clear hnone hsome
    k_steps
  · k_fold
    k_steps
    all_goals (refine hsome _ _ ?e _ _ _ _ _ ‹_› (newsDrop0 ‹News _ _ _ (_ :: _ :: _)›) ‹_› ‹_›; (case e => unfold simpleF; rw [if_neg c0, if_neg c1, if_neg c2, if_pos c3]; try simp only [*, if_true, if_false]))
  refine if_seq ((x = 12 ∨ x = 10) ∧ (y = 10 ∨ y = 11)) F9 N9 ?_ (fun c4 h9 tk9 F9 N9 => ?_) (fun c4 h9 tk9 F9 N9 => ?_)
  · clear hnone hsome
    k_steps
  · k_fold
    k_steps
    all_goals (refine hsome _ _ ?e _ _ _ _ _ ‹_› (newsDrop0 ‹News _ _ _ (_ :: _ :: _)›) ‹_› ‹_›; (case e => unfold simpleF; rw [if_neg c0, if_neg c1, if_neg c2, if_neg c3, if_pos c4]; try simp only [*, if_true, if_false]))
  refine if_seq ((x = 13 ∨ x = 11) ∧ y = 11) F9 N9 ?_ (fun c5 h9 tk9 F9 N9 => ?_) (fun c5 h9 tk9 F9 N9 => ?_)
  · clear hnone hsome
    k_steps
  · k_fold
    k_steps
    all_goals (refine hsome _ _ ?e _ _ _ _ _ ‹_› (newsDrop0 ‹News _ _ _ (_ :: _ :: _)›) ‹_› ‹_›; (case e => unfold simpleF; rw [if_neg c0, if_neg c1, if_neg c2, if_neg c3, if_neg c4, if_pos c5]; try simp only [*, if_true, if_false]))
  refine if_seq (y = 4) F9 N9 ?_ (fun c6 h9 tk9 F9 N9 => ?_) (fun c6 h9 tk9 F9 N9 => ?_)
  · clear hnone hsome
    k_steps
  · k_fold
    k_steps
    all_goals (refine hsome _ _ ?e _ _ _ _ _ ‹_› (newsDrop0 ‹News _ _ _ (_ :: _ :: _)›) ‹_› ‹_›; (case e => unfold simpleF; rw [if_neg c0, if_neg c1, if_neg c2, if_neg c3, if_neg c4, if_neg c5, if_pos c6]; try simp only [*, if_true, if_false]))
  refine if_seq (y = 8) F9 N9 ?_ (fun c7 h9 tk9 F9 N9 => ?_) (fun c7 h9 tk9 F9 N9 => ?_)
  · clear hnone hsome
    k_steps
  · k_fold
    k_steps
    all_goals (refine hsome _ _ ?e _ _ _ _ _ ‹_› (newsDrop0 ‹News _ _ _ (_ :: _ :: _)›) ‹_› ‹_›; (case e => unfold simpleF; rw [if_neg c0, if_neg c1, if_neg c2, if_neg c3, if_neg c4, if_neg c5, if_neg c6, if_pos c7]; try simp only [*, if_true, if_false]))
  refine if_seq (x = 7) F9 N9 ?_ (fun c8 h9 tk9 F9 N9 => ?_) (fun c8 h9 tk9 F9 N9 => ?_)
  · clear hnone hsome
    k_steps
  · k_fold
    k_steps
    all_goals (refine hsome _ _ ?e _ _ _ _ _ ‹_› (newsDrop0 ‹News _ _ _ (_ :: _ :: _)›) ‹_› ‹_›; (case e => unfold simpleF; rw [if_neg c0, if_neg c1, if_neg c2, if_neg c3, if_neg c4, if_neg c5, if_neg c6, if_neg c7, if_pos c8]; try simp only [*, if_true, if_false]))
  · k_steps
    all_goals exact hnone (by unfold simpleF; rw [if_neg c0, if_neg c1, if_neg c2, if_neg c3, if_neg c4, if_neg c5, if_neg c6, if_neg c7, if_neg c8]) _ _ ‹_› ‹_›
end Mine
namespace Mine
set_option maxRecDepth 100000
set_option linter.unusedVariables false
set_option linter.unusedSimpArgs false
theorem binds_peek {K : Frag} {s : Shared} {fd : FuncData} {args : Args} {binds : List (Str × Value)} (X : K.In s.heap) (h : ∀ S, peek K S (bindArgs fd args) = some binds) : BindsTo s fd args binds :=
  fun _ _ _ _ hq => (Looks.of_peek X (h _)).here hq

/-- what a statement that falls through leaves: some names forgotten, some said -/
def JEnd {σ : Type} (h₀ : Heap) (L : Addr) (s : Shared) (ps : σ → List (Str × Value)) (stored : List Str) (m₀ : Str → Option Value) (news : List (Addr × Obj)) (C : σ → Prop) (s₁ : Shared) : Prop :=
  ∃ (c : σ) (h' : Heap) (tk : Nat) (m' : Str → Option Value), s₁ = { s with heap := h', toks := tk } ∧ Fr h₀ L h' m' ∧ News h₀ L h' news ∧ (∀ p ∈ ps c, m' p.1 = some p.2) ∧ (∀ z, (∀ p ∈ ps c, z ≠ p.1) → stored.contains z = false → m' z = m₀ z) ∧ C c
def JPost {σ : Type} (h₀ : Heap) (L : Addr) (s : Shared) (ps : σ → List (Str × Value)) (stored : List Str) (m₀ : Str → Option Value) (news : List (Addr × Obj)) (C : σ → Prop) (Q : Flow → Shared → Prop) (f : Flow) (s₁ : Shared) : Prop :=
  match f with
  | .next => JEnd h₀ L s ps stored m₀ news C s₁
  | f => Q f s₁
section
variable {M : Model} {A : Around} {E : Value → Shared → Prop} {Q : Flow → Shared → Prop} {s : Shared} {env : Env} {h₀ : Heap} {L : Addr} {m₀ : Str → Option Value} {news : List (Addr × Obj)} {S : Stmt}
theorem stmt_join {σ : Type} (ps : σ → List (Str × Value)) (stored : List Str) (C : σ → Prop) (_F : Fr h₀ L s.heap m₀) (_N : News h₀ L s.heap news)
    (hS : wpAny M A (exec S env) (JPost h₀ L s ps stored m₀ news C Q) E s)
    (hr : ∀ c (u : Str → Option Value) h' tk', C c → Fr h₀ L h' (kstB (fun z => if stored.contains z then u z else m₀ z) (ps c)) → News h₀ L h' news → Q .next { s with heap := h', toks := tk' }) :
    wpAny M A (exec S env) Q E s := by
  refine wpAny_mono hS (fun f s₁ h => ?_) fun _ _ h => h
  cases f with
  | next =>
    obtain ⟨c, h', tk, m', rfl, F', N', h1, h2, hC⟩ := h
    exact hr c m' h' tk hC (ksw_fr h1 h2 F') N'
  | ret v => exact h
  | brk => exact h
  | cont => exact h
theorem jend {σ : Type} {ps : σ → List (Str × Value)} {stored : List Str} {C : σ → Prop} (c : σ) {h' : Heap} {tk : Nat} {m' : Str → Option Value} {news' : List (Addr × Obj)}
    (F' : Fr h₀ L h' m') (N' : News h₀ L h' news') (hn : ∀ p ∈ news, p ∈ news') (h1 : ∀ p ∈ ps c, m' p.1 = some p.2) (h2 : ∀ z, (∀ p ∈ ps c, z ≠ p.1) → stored.contains z = false → m' z = m₀ z) (hC : C c) :
    JEnd h₀ L s ps stored m₀ news C { s with heap := h', toks := tk } := ⟨c, h', tk, m', rfl, F', fun p hp => N' p (hn p hp), h1, h2, hC⟩
end
theorem mem1 {α : Type} {P : α → Prop} {a : α} (h1 : P a) : ∀ p ∈ [a], P p := by
  intro p hp
  rcases List.mem_cons.mp hp with rfl | hp
  · exact h1
  nomatch hp
theorem mem0 {α : Type} {P : α → Prop} : ∀ p ∈ ([] : List α), P p := fun _ h => nomatch h
abbrev cpAt (x : Str) (i : Int) : Int := ((Txt.item x i).cps.getD 0 0 : Nat)
def scanE (x : Str) (st : Int) : Nat → Int → Int
  | 0, i => i
  | n+1, i => if st ≤ i ∧ iextF (cpAt x i) = true then scanE x st n (i - 1) else i
def scanP (x : Str) (st : Int) : Nat → Int → Bool
  | 0, _ => false
  | n+1, i => if st ≤ i then (if gcbF (cpAt x i) = 4 then scanP x st n (i - 1) else pictF (cpAt x i)) else false
def consLook (x : Str) (st idx : Int) : Bool := decide (st ≤ scanE x st (idx - st).toNat (idx - 1)) && linkerF (cpAt x (scanE x st (idx - st).toNat (idx - 1)))
def pictLook (x : Str) (st idx : Int) : Bool := scanP x st (idx - st).toNat (idx - 2)
def shouldF (x : Str) (p c idx rc st : Int) : Bool × Int :=
  match simpleF p c with
  | some br => br
  | none =>
    if c = 5 then (false, 0) else
    if consF (cpAt x idx) = true ∧ consLook x st idx = true then (false, 0) else
    if (p = 5 ∧ pictF (cpAt x idx) = true) ∧ pictLook x st idx = true then (false, 0) else
    if p = 6 ∧ c = 6 then (if Int.fmod rc 2 = 1 then (false, rc + 1) else (true, 1)) else
    (true, if c = 6 then 1 else 0)
theorem scanE_lt {x : Str} {st : Int} : ∀ {n : Nat} {i : Int}, scanE x st n i ≤ i
  | 0, _ => Int.le_refl _
  | n+1, i => by
    unfold scanE
    split
    · have := @scanE_lt x st n (i - 1); omega
    · exact Int.le_refl _
theorem scanE_step {x : Str} {st i R : Int} {n : Nat} (hI : scanE x st n i = R) (hn : i - st + 1 ≤ n) (h1 : st ≤ i) (h2 : iextF (cpAt x i) = true) : ∃ k : Nat, (i - 1) - st + 1 ≤ k ∧ scanE x st k (i - 1) = R := by
  cases n with
  | zero => omega
  | succ n => rw [scanE, if_pos ⟨h1, h2⟩] at hI; exact ⟨n, by omega, hI⟩
theorem scanE_out {x : Str} {st i R : Int} {n : Nat} (hI : scanE x st n i = R) (h : ¬ (st ≤ i ∧ iextF (cpAt x i) = true)) : i = R := by
  cases n with
  | zero => exact hI
  | succ n => rw [scanE, if_neg h] at hI; exact hI
theorem scanP_step {x : Str} {st i : Int} {R : Bool} {n : Nat} (hI : scanP x st n i = R) (hn : i - st + 1 ≤ n) (h1 : st ≤ i) (h2 : gcbF (cpAt x i) = 4) : ∃ k : Nat, (i - 1) - st + 1 ≤ k ∧ scanP x st k (i - 1) = R := by
  cases n with
  | zero => omega
  | succ n => rw [scanP, if_pos h1, if_pos h2] at hI; exact ⟨n, by omega, hI⟩
theorem scanP_at {x : Str} {st i : Int} {R : Bool} {n : Nat} (hI : scanP x st n i = R) (hn : i - st + 1 ≤ n) (h1 : st ≤ i) (h2 : ¬ gcbF (cpAt x i) = 4) : R = pictF (cpAt x i) := by
  cases n with
  | zero => omega
  | succ n => rw [scanP, if_pos h1, if_neg h2] at hI; exact hI.symm
theorem scanP_out {x : Str} {st i : Int} {R : Bool} {n : Nat} (hI : scanP x st n i = R) (h : ¬ st ≤ i) : R = false := by
  cases n with
  | zero => exact hI.symm
  | succ n => rw [scanP, if_neg h] at hI; exact hI.symm
theorem consLook_t {x : Str} {st idx : Int} (h1 : st ≤ scanE x st (idx - st).toNat (idx - 1)) (h2 : linkerF (cpAt x (scanE x st (idx - st).toNat (idx - 1))) = true) : consLook x st idx = true := by
  unfold consLook; rw [h2, decide_eq_true h1]; rfl
theorem consLook_f1 {x : Str} {st idx : Int} (h2 : linkerF (cpAt x (scanE x st (idx - st).toNat (idx - 1))) = false) : consLook x st idx = false := by
  unfold consLook; rw [h2, Bool.and_false]
theorem consLook_f2 {x : Str} {st idx : Int} (h1 : ¬ st ≤ scanE x st (idx - st).toNat (idx - 1)) : consLook x st idx = false := by
  unfold consLook; rw [decide_eq_false h1, Bool.false_and]
theorem tf {b : Bool} (h : b = true) (h' : b = false) : False := Bool.noConfusion (h.symm.trans h')
end Mine
namespace Mine
set_option maxRecDepth 100000
set_option linter.unusedVariables false
set_option linter.unusedSimpArgs false
local macro_rules | `(tactic| walk_at "call ref") => `(tactic| (k_here; (with_reducible show wpAny _ _ (call (Value.ref 343) _ _) _ _ _); k_dflt (refine' ct_mk ?k1 ?k2 ?k3 ?k4 ?k5 ?kK ?kd ?ku ?_; (case k1 => k_asm); (case k2 => k_asm); (case k3 => k_asm); (case k4 => k_asm); (case k5 => k_asm); (case kK => first | exact rfl | assumption); (case kd => ktr_room); (case ku => ktr_units); k_whole); intro q' dx' h' tk' F' N' l1 l2; (try dsimp only); (try k_fold)))
local macro_rules | `(tactic| walk_at "call ref") => `(tactic| (k_here; (with_reducible show wpAny _ _ (call (Value.ref 247) [Value.int _ _]) _ _ _); k_dflt (refine' ct_gcb ?k1 ?k2 ?k3 ?k4 ?k5 ?kK ?kd ?ku ?_; (case k1 => k_asm); (case k2 => k_asm); (case k3 => k_asm); (case k4 => k_asm); (case k5 => k_asm); (case kK => first | exact rfl | assumption); (case kd => ktr_room); (case ku => ktr_units); k_whole); intro t' h' tk' F' N'; (try dsimp only); (try k_fold)))
local macro_rules | `(tactic| walk_at "call ref") => `(tactic| (k_here; (with_reducible show wpAny _ _ (call (Value.ref 254) [Value.int _ _]) _ _ _); k_dflt (refine' ct_pict ?k1 ?k2 ?k3 ?k4 ?k5 ?kK ?kd ?ku ?_; (case k1 => k_asm); (case k2 => k_asm); (case k3 => k_asm); (case k4 => k_asm); (case k5 => k_asm); (case kK => first | exact rfl | assumption); (case kd => ktr_room); (case ku => ktr_units); k_whole); intro h' tk' F' N'; (try dsimp only); (try k_fold)))
local macro_rules | `(tactic| walk_at "call ref") => `(tactic| (k_here; (with_reducible show wpAny _ _ (call (Value.ref 261) [Value.int _ _]) _ _ _); k_dflt (refine' ct_linker ?k1 ?k2 ?k3 ?k4 ?k5 ?kK ?kd ?ku ?_; (case k1 => k_asm); (case k2 => k_asm); (case k3 => k_asm); (case k4 => k_asm); (case k5 => k_asm); (case kK => first | exact rfl | assumption); (case kd => ktr_room); (case ku => ktr_units); k_whole); intro h' tk' F' N'; (try dsimp only); (try k_fold)))
local macro_rules | `(tactic| walk_at "call ref") => `(tactic| (k_here; (with_reducible show wpAny _ _ (call (Value.ref 268) [Value.int _ _]) _ _ _); k_dflt (refine' ct_cons ?k1 ?k2 ?k3 ?k4 ?k5 ?kK ?kd ?ku ?_; (case k1 => k_asm); (case k2 => k_asm); (case k3 => k_asm); (case k4 => k_asm); (case k5 => k_asm); (case kK => first | exact rfl | assumption); (case kd => ktr_room); (case ku => ktr_units); k_whole); intro h' tk' F' N'; (try dsimp only); (try k_fold)))
local macro_rules | `(tactic| walk_at "call ref") => `(tactic| (k_here; (with_reducible show wpAny _ _ (call (Value.ref 275) [Value.int _ _]) _ _ _); k_dflt (refine' ct_iext ?k1 ?k2 ?k3 ?k4 ?k5 ?kK ?kd ?ku ?_; (case k1 => k_asm); (case k2 => k_asm); (case k3 => k_asm); (case k4 => k_asm); (case k5 => k_asm); (case kK => first | exact rfl | assumption); (case kd => ktr_room); (case ku => ktr_units); k_whole); intro h' tk' F' N'; (try dsimp only); (try k_fold)))
local macro_rules | `(tactic| walk_at "callWith ref") => `(tactic| (k_here; (with_reducible show wpAny _ _ (callWith _ (Value.ref _) _ (backTo _ (starEach [] _)) (backToKw _ _)) _ _ _); k_dflt (refine' callWith_KW0 ?k1 ?k2 ?k3 ?_; (case k1 => k_asm); (case k2 => k_is); (case k3 => exact rfl); k_whole)))
local macro_rules | `(tactic| walk_at "call ref") => `(tactic| (k_here; (with_reducible show wpAny _ _ (call (Value.ref 353) [Value.int _ _, Value.int _ _]) _ _ _); k_dflt (refine' ct_simple ?k1 ?k2 ?k3 ?k4 ?k5 ?kK ?kd ?ku ?gn ?gs; (case k1 => k_asm); (case k2 => k_asm); (case k3 => k_asm); (case k4 => k_asm); (case k5 => k_asm); (case kK => first | exact rfl | assumption); (case kd => ktr_room); (case ku => ktr_units); k_whole); (case' gn => (intro hS h' tk' F' N'; (try dsimp only); (try k_fold))); (case' gs => (intro b' r' hS q' dx' t' h' tk' F' N' l1 l2; (try dsimp only); (try k_fold)))))
local macro_rules | `(tactic| walk_at "exec While") => `(tactic| (k_here; refine stop_out ?_))
local macro_rules | `(tactic| walk_at "exec If Call") => `(tactic| (k_here; refine stop_out ?_))
local macro_rules | `(tactic| walk_at "exec If BoolOp") => `(tactic| (k_here; refine stop_out ?_))
local macro_rules | `(tactic| walk_at "JPost") => `(tactic| (dsimp only [JPost]))
local macro_rules | `(tactic| walk_at "JEnd") => `(tactic| (refine stop_out ?_))
local macro_rules | `(tactic| walk_at "KswPost") => `(tactic| (dsimp only [KswPost]))
local macro_rules | `(tactic| walk_at "KswEnd") => `(tactic| (refine stop_out ?_))
section
variable {x : Str} {p c idx rc st : Int}
theorem sh_s {b : Bool} {r : Int} (h : simpleF p c = some (b, r)) : shouldF x p c idx rc st = (b, r) := by unfold shouldF; rw [h]
theorem sh_z (h : simpleF p c = none) (h5 : c = 5) : shouldF x p c idx rc st = (false, 0) := by unfold shouldF; rw [h]; exact if_pos h5
theorem sh_c (h : simpleF p c = none) (h5 : c ≠ 5) (hc : consF (cpAt x idx) = true ∧ consLook x st idx = true) : shouldF x p c idx rc st = (false, 0) := by unfold shouldF; rw [h]; dsimp only; rw [if_neg h5, if_pos hc]
theorem sh_p (h : simpleF p c = none) (h5 : c ≠ 5) (hc : ¬ (consF (cpAt x idx) = true ∧ consLook x st idx = true)) (hp : (p = 5 ∧ pictF (cpAt x idx) = true) ∧ pictLook x st idx = true) : shouldF x p c idx rc st = (false, 0) := by unfold shouldF; rw [h]; dsimp only; rw [if_neg h5, if_neg hc, if_pos hp]
theorem sh_r (h : simpleF p c = none) (h5 : c ≠ 5) (hc : ¬ (consF (cpAt x idx) = true ∧ consLook x st idx = true)) (hp : ¬ ((p = 5 ∧ pictF (cpAt x idx) = true) ∧ pictLook x st idx = true)) {b : Bool} {r : Int}
    (e : (if p = 6 ∧ c = 6 then (if Int.fmod rc 2 = 1 then (false, rc + 1) else (true, 1)) else (true, if c = 6 then 1 else 0)) = ((b, r) : Bool × Int)) : shouldF x p c idx rc st = (b, r) := by unfold shouldF; rw [h]; dsimp only; rw [if_neg h5, if_neg hc, if_neg hp]; exact e
end
set_option maxHeartbeats 8000000 in
theorem ct_should {w : World} {p : Program} {loose : List Str} {mean : ExcName → Option Value} {mg mb : Str → Option Value}
    {dp un : Nat} {gd : Option (List Code)} {cn : Str} {cs : Scope} {a : Addr} {ccd : Value} {cl : List (Str × Addr)} {outer : List Env} {A₀ : Around} {base h₀ : Heap} {L : Addr} {m : Str → Option Value} {news : List (Addr × Obj)} {s : Shared} {Q E : Value → Shared → Prop}
    {p' c' idx rc st : Int} {tp tc ti tr ts : Tok} {x : Str} {tx : Tok} {kw : List (Str × Value)}
    (B : Below A₀ base outer h₀) (F : Fr h₀ L s.heap m) (X : (hd.heap_39 w.params).In h₀) (N : News h₀ L s.heap news) (T : Top p loose mean mg mb h₀) (hk : cs.kind = .function) (hdp : dp + 5 < recursionLimit) (hun : un + 50 < cLine)
    (hkw : (kw = [] ∧ st = 0 ∧ ts = 779) ∨ kw = [(Str.ofString "start", .int st ts)]) (h0 : 0 ≤ st) (h1 : st < idx) (h2 : idx < x.length) (h3 : x.length ≤ 100)
    (hret : ∀ q dx t h' tk', Fr h₀ L h' m → News h₀ L h' ((q, resObj dx (shouldF x p' c' idx rc st).1 (shouldF x p' c' idx rc st).2 t) :: (dx, emptyDict) :: news) → (∀ p ∈ news, p.1 < dx) → dx < q → Q (.ref q) { s with heap := h', toks := tk' }) :
    wpAny (model PySem.Challenge.rw_ax6034_01.row.prog w) (ktrTop dp un gd cn cs L a ccd cl outer) (call (.ref 361) [.int p' tp, .int c' tc, .str x tx, .int idx ti, .int rc tr] kw) Q E s := by
  revert X
  k_fill
  intro X
  refine wpAny_call ?_
  k_dflt (refine' code_def (binds := [(Str.ofString "prev_gcb", .int p' tp), (Str.ofString "curr_gcb", .int c' tc), (Str.ofString "text", .str x tx), (Str.ofString "curr_idx", .int idx ti), (Str.ofString "ri_count", .int rc tr), (Str.ofString "start", .int st ts)]) ?k1 ?k2 ?k3 ?k4 ?k5 ?kA ?kF ?kK ?k6 ?k7 ?k8 ?k9 ?kB ?_ ?c2 ?c3 ?c4 ?c5; (case kA => exact rfl); (case kF => exact rfl); (case kK => assumption); (case k1 => k_asm); (case k2 => k_asm); (case k3 => k_asm); (case k4 => k_asm); (case k5 => k_asm); (case k6 => k_is); (case k7 => k_is); (case k8 => ktr_room); (case k9 => rcases hkw with ⟨rfl, rfl, rfl⟩ | rfl <;> exact binds_peek (by k_in) (fun _ => by kernel_rfl)); (case c5 => decide); (case kB => exact locs rfl); (case c2 => exact rfl); (case c3 => exact rfl); (case c4 => exact rfl); k_whole; intro g' L' h' FG' F' N' B' X' T'; (try dsimp only); (try k_fold))
  have close : ∀ (b : Bool) (r : Int), shouldF x p' c' idx rc st = (b, r) → ∀ q dx t h' tk', Fr h₀ L h' m → News h₀ L h' ((q, resObj dx b r t) :: (dx, emptyDict) :: news) → (∀ p ∈ news, p.1 < dx) → dx < q → Q (.ref q) { s with heap := h', toks := tk' } := by
    intro b r e
    have e1 : (shouldF x p' c' idx rc st).1 = b := by rw [e]
    have e2 : (shouldF x p' c' idx rc st).2 = r := by rw [e]
    rw [e1, e2] at hret
    exact hret
  clear hret
  k_steps
  · refine close _ _ (sh_s ‹_›) _ _ _ _ _ ‹_› (newsDrop0 ‹_›) ‹_› ‹_›
  · refine close _ _ (sh_z ‹_› ‹_›) _ _ _ _ _ ‹_› (newsDrop0 ‹_›) ‹_› ‹_›
  · unfold Stopped
    rename simpleF _ _ = none => hS
    rename _ ≠ _ => h5
    rename Fr _ _ _ _ => F1
    rename News _ _ _ _ => N1
    refine stmt_join (σ := Unit) (fun _ => []) [Str.ofString "i"] (fun _ => ¬ (consF (cpAt x idx) = true ∧ consLook x st idx = true)) F1 N1 ?cA ?rA
    case cA =>
      refine wpAny_If ?_
      k_steps
      · unfold Stopped
        rename consF _ = true => hc
        rename Fr _ _ _ _ => F2
        rename News _ _ _ _ => N2
        refine stmt_join (σ := Tok) (fun t => [(Str.ofString "i", .int (scanE x st (idx - st).toNat (idx - 1)) t)]) [] (fun _ => True) F2 N2 ?cW ?rW
        case cW =>
          with_unfolding_all refine' ksw_while (σ := Int × Tok) (fun _ => news) (fun c => [(Str.ofString "i", .int c.1 c.2)]) (fun _ => True) [] (fun c => c.1 < idx ∧ ∃ n : Nat, c.1 - st + 1 ≤ n ∧ scanE x st n c.1 = scanE x st (idx - st).toNat (idx - 1)) (fun c => (c.1 - st + 1).toNat) (idx - 1, _) F2 N2 trivial ?kk ?kp ?kt ?kE
          case kk => refine mem1 ?_; rfl
          case kp => exact ⟨by dsimp only; omega, (idx - st).toNat, by dsimp only; omega, rfl⟩
          case kt =>
            rintro ⟨i, t1⟩ uu h9 tk9 - ⟨hl0, n, hn, hI⟩ F9 N9
            dsimp only [kstB] at *
            k_steps
            · unfold Stopped
              exact ksw_end (i - 1, _) (by assumption) (by assumption) (fun _ h => h) trivial (by refine mem1 ?_; rfl) (by ksw_same) ⟨by dsimp only; omega, scanE_step hI hn ‹_› ‹_›⟩ (by dsimp only; omega)
            · unfold Stopped
              exact jend t1 ‹_› ‹_› (fun _ h => h) (mem1 (by rw [← scanE_out hI (fun h => tf h.2 (by assumption))]; rfl)) (by ksw_same) trivial
            · unfold Stopped
              exact jend t1 ‹_› ‹_› (fun _ h => h) (mem1 (by rw [← scanE_out hI (fun h => absurd h.1 ‹_›)]; rfl)) (by ksw_same) trivial
          case kE => k_steps
        case rW => 
          intro t9 uu h9 tk9 _ F9 N9
          have hsl : scanE x st (idx - st).toNat (idx - 1) ≤ idx - 1 := scanE_lt
          dsimp only [kstB] at *
          k_steps
          unfold Stopped
          refine wpAny_If ?_
          k_steps
          · exact close _ _ (sh_c hS h5 ⟨hc, consLook_t ‹_› ‹_›⟩) _ _ _ _ _ ‹_› (newsDrop0 ‹_›) ‹_› ‹_›
          · unfold Stopped
            exact jend () ‹_› ‹_› (fun _ h => h) mem0 (by ksw_same) (fun h => tf h.2 (consLook_f1 ‹_›))
          · unfold Stopped
            exact jend () ‹_› ‹_› (fun _ h => h) mem0 (by ksw_same) (fun h => tf h.2 (consLook_f2 ‹_›))
      · unfold Stopped
        rename Fr _ _ _ _ => F2
        rename News _ _ _ _ => N2
        rename consF _ = false => hc
        exact jend () F2 N2 (fun _ h => h) mem0 (by intro z _ h3; rfl) (fun h => tf h.1 hc)
    case rA =>
      intro _ uu h9 tk9 hcons F9 N9
      dsimp only [kstB] at *
      k_steps
      unfold Stopped
      refine stmt_join (σ := Unit) (fun _ => []) [Str.ofString "i", Str.ofString "prev_ucs", Str.ofString "prev_prop"] (fun _ => ¬ ((p' = 5 ∧ pictF (cpAt x idx) = true) ∧ pictLook x st idx = true)) F9 N9 ?cB ?rB
      case cB =>
        refine wpAny_If ?_
        k_steps
        · unfold Stopped
          rename Fr _ _ _ _ => F2
          rename News _ _ _ _ => N2
          rename p' = 5 => hp5
          rename pictF _ = true => hpc
          with_unfolding_all refine' ksw_while (σ := Int × Tok) (fun _ => news) (fun c => [(Str.ofString "i", .int c.1 c.2)]) (fun _ => True) [Str.ofString "prev_ucs", Str.ofString "prev_prop"] (fun c => c.1 < idx ∧ ∃ n : Nat, c.1 - st + 1 ≤ n ∧ scanP x st n c.1 = pictLook x st idx) (fun c => (c.1 - st + 1).toNat) (idx - 2, _) F2 N2 trivial ?kk ?kp ?kt ?kE
          case kk => refine mem1 ?_; rfl
          case kp => exact ⟨by dsimp only; omega, (idx - st).toNat, by dsimp only; omega, rfl⟩
          case kt =>
            rintro ⟨i, t1⟩ uu h9 tk9 - ⟨hl0, n, hn, hI⟩ F9 N9
            dsimp only [kstB] at *
            k_steps
            · unfold Stopped
              exact ksw_end (i - 1, _) (by assumption) (by assumption) (fun _ h => h) trivial (by refine mem1 ?_; rfl) (by ksw_same) ⟨by dsimp only; omega, scanP_step hI hn ‹_› ‹_›⟩ (by dsimp only; omega)
            · unfold Stopped
              refine wpAny_If ?_
              k_steps
              · exact close _ _ (sh_p hS h5 hcons ⟨⟨hp5, hpc⟩, (scanP_at hI hn ‹_› ‹_›).trans ‹_›⟩) _ _ _ _ _ ‹_› (newsDrop0 ‹_›) ‹_› ‹_›
              · unfold Stopped
                exact jend () ‹_› ‹_› (fun _ h => h) mem0 (by ksw_same) (fun h => tf h.2 ((scanP_at hI hn ‹_› ‹_›).trans ‹_›))
            · unfold Stopped
              exact jend () ‹_› ‹_› (fun _ h => h) mem0 (by ksw_same) (fun h => tf h.2 (scanP_out hI ‹_›))
          case kE => k_steps
        · unfold Stopped
          exact jend () ‹_› ‹_› (fun _ h => h) mem0 (by ksw_same) (fun h => tf h.1.2 ‹_›)
        · unfold Stopped
          exact jend () ‹_› ‹_› (fun _ h => h) mem0 (by ksw_same) (fun h => absurd h.1.1 ‹_›)
      case rB =>
        intro _ uu h9 tk9 hpict F9 N9
        dsimp only [kstB] at *
        k_steps
        unfold Stopped
        refine wpAny_If ?_
        k_steps
        all_goals (refine close _ _ (sh_r hS h5 hcons hpict ?e) _ _ _ _ _ ‹_› (newsDrop0 ‹News _ _ _ (_ :: _ :: _)›) ‹_› ‹_›; (case e => first | exact absurd ‹c' = 6› ‹c' ≠ 6› | simp only [*, and_self, if_true, if_false, and_true, and_false]))
end Mine
namespace Mine
set_option maxRecDepth 100000
set_option linter.unusedVariables false
set_option linter.unusedSimpArgs false
def safeF (x : Str) (pos : Int) : Nat → Int → Int
  | 0, j => j
  | n+1, j => if 0 < j then (if 32 ≤ cpAt x j ∧ cpAt x j < 128 then j else if gcbF (cpAt x j) = 3 then j else if 16 ≤ pos - j then 0 else safeF x pos n (j - 1)) else j
def stepF (x : Str) (i : Int) (c : Int × Int × Int) : Int × Int × Int :=
  (gcbF (cpAt x i), (shouldF x c.1 (gcbF (cpAt x i)) i c.2.1 0).2, if (shouldF x c.1 (gcbF (cpAt x i)) i c.2.1 0).1 = true then i else c.2.2)
def loopF (x : Str) (a : Int) (c₀ : Int × Int × Int) : Nat → Int × Int × Int
  | 0 => c₀
  | n+1 => stepF x (a + n) (loopF x a c₀ n)
def startF (x : Str) (ss : Int) : Int × Int × Int := (gcbF (cpAt x ss), if gcbF (cpAt x ss) = 6 then 1 else 0, ss)
def safe0 (x : Str) (pos : Int) : Int := safeF x pos pos.toNat (pos - 1)
def fcsT (x : Str) (pos : Int) : Int := (loopF x (safe0 x pos + 1) (startF x (safe0 x pos)) (pos - (safe0 x pos + 1)).toNat).2.2
def crAt (x : Str) (i : Int) : Bool := Txt.item x i == Str.ofString "\r"
def fcsF (x : Str) (pos : Int) : Int :=
  if (cpAt x (pos - 1) = 10 ∧ 2 ≤ pos) ∧ crAt x (pos - 2) = true then pos - 2
  else if cpAt x (pos - 1) < 128 then
    (if (2 ≤ pos ∧ 32 ≤ cpAt x (pos - 1)) ∧ (128 ≤ cpAt x (pos - 2) ∧ gcbF (cpAt x (pos - 2)) = 7) then fcsT x (pos - 1) else pos - 1)
  else fcsT x pos
section
variable {x : Str} {pos j R : Int} {n : Nat}
theorem safeF_ge : ∀ {n : Nat} {j : Int}, 0 ≤ j → 0 ≤ safeF x pos n j ∧ safeF x pos n j ≤ j
  | 0, j, h => ⟨h, Int.le_refl _⟩
  | n+1, j, h => by
    unfold safeF
    split
    · split
      · exact ⟨h, Int.le_refl _⟩
      · split
        · exact ⟨h, Int.le_refl _⟩
        · split
          · exact ⟨Int.le_refl _, h⟩
          · have := @safeF_ge n (j - 1) (by omega); omega
    · exact ⟨h, Int.le_refl _⟩
theorem safeF_step (hI : safeF x pos n j = R) (hn : j ≤ n) (h0 : 0 < j) (h1 : ¬ (32 ≤ cpAt x j ∧ cpAt x j < 128)) (h2 : ¬ gcbF (cpAt x j) = 3) (h3 : ¬ 16 ≤ pos - j) : ∃ k : Nat, j - 1 ≤ k ∧ safeF x pos k (j - 1) = R := by
  cases n with
  | zero => omega
  | succ n => rw [safeF, if_pos h0, if_neg h1, if_neg h2, if_neg h3] at hI; exact ⟨n, by omega, hI⟩
theorem safeF_a (hI : safeF x pos n j = R) (h1 : 32 ≤ cpAt x j ∧ cpAt x j < 128) : j = R := by
  cases n with
  | zero => exact hI
  | succ n =>
    rw [safeF, if_pos h1] at hI
    split at hI <;> exact hI
theorem safeF_b (hI : safeF x pos n j = R) (h1 : gcbF (cpAt x j) = 3) : j = R := by
  cases n with
  | zero => exact hI
  | succ n =>
    rw [safeF, if_pos h1] at hI
    split at hI
    · split at hI <;> exact hI
    · exact hI
theorem safeF_c (hI : safeF x pos n j = R) (hn : j ≤ n) (h0 : 0 < j) (h1 : ¬ (32 ≤ cpAt x j ∧ cpAt x j < 128)) (h2 : ¬ gcbF (cpAt x j) = 3) (h3 : 16 ≤ pos - j) : 0 = R := by
  cases n with
  | zero => omega
  | succ n => rw [safeF, if_pos h0, if_neg h1, if_neg h2, if_pos h3] at hI; exact hI
theorem safeF_d (hI : safeF x pos n j = R) (h0 : ¬ 0 < j) : j = R := by
  cases n with
  | zero => exact hI
  | succ n => rw [safeF, if_neg h0] at hI; exact hI
end
section
variable {x : Str} {pos : Int}
theorem fcs_1 (h : (cpAt x (pos - 1) = 10 ∧ 2 ≤ pos) ∧ crAt x (pos - 2) = true) : fcsF x pos = pos - 2 := by unfold fcsF; rw [if_pos h]
theorem fcs_2 (h : ¬ ((cpAt x (pos - 1) = 10 ∧ 2 ≤ pos) ∧ crAt x (pos - 2) = true)) (h2 : cpAt x (pos - 1) < 128) (h3 : (2 ≤ pos ∧ 32 ≤ cpAt x (pos - 1)) ∧ (128 ≤ cpAt x (pos - 2) ∧ gcbF (cpAt x (pos - 2)) = 7)) : fcsF x pos = fcsT x (pos - 1) := by unfold fcsF; rw [if_neg h, if_pos h2, if_pos h3]
theorem fcs_3 (h : ¬ ((cpAt x (pos - 1) = 10 ∧ 2 ≤ pos) ∧ crAt x (pos - 2) = true)) (h2 : cpAt x (pos - 1) < 128) (h3 : ¬ ((2 ≤ pos ∧ 32 ≤ cpAt x (pos - 1)) ∧ (128 ≤ cpAt x (pos - 2) ∧ gcbF (cpAt x (pos - 2)) = 7))) : fcsF x pos = pos - 1 := by unfold fcsF; rw [if_neg h, if_pos h2, if_neg h3]
theorem fcs_4 (h2 : ¬ cpAt x (pos - 1) < 128) : fcsF x pos = fcsT x pos := by unfold fcsF; rw [if_neg (by omega), if_neg h2]
end
theorem fcs_4b {x : Str} {pos : Int} (h2 : 128 ≤ cpAt x (pos - 2)) : fcsF x (pos - 1) = fcsT x (pos - 1) := fcs_4 (by rw [show pos - 1 - 1 = pos - 2 by omega]; omega)
theorem step_t {x : Str} {i lg ri cl : Int} (h : (shouldF x lg (gcbF (cpAt x i)) i ri 0).1 = true) : stepF x i (lg, ri, cl) = (gcbF (cpAt x i), (shouldF x lg (gcbF (cpAt x i)) i ri 0).2, i) := by unfold stepF; rw [if_pos h]
theorem step_f {x : Str} {i lg ri cl : Int} (h : (shouldF x lg (gcbF (cpAt x i)) i ri 0).1 = false) : stepF x i (lg, ri, cl) = (gcbF (cpAt x i), (shouldF x lg (gcbF (cpAt x i)) i ri 0).2, cl) := by unfold stepF; rw [if_neg (by rw [h]; exact Bool.false_ne_true)]
theorem loop_t {x : Str} {a i lg ri cl : Int} {c₀ d : Int × Int × Int} {pre : List Int} (hP : (lg, ri, cl) = loopF x a c₀ pre.length) (hi : i = a + (pre.length : Int)) (h : stepF x i (lg, ri, cl) = d) : d = loopF x a c₀ (pre ++ [i]).length := by
  rw [List.length_append]; show d = stepF x (a + (pre.length : Int)) (loopF x a c₀ pre.length); rw [← hP, ← hi, h]
theorem startF_1 {x : Str} {ss : Int} (h : gcbF (cpAt x ss) = 6) : (startF x ss).2.1 = 1 := if_pos h
theorem startF_0 {x : Str} {ss : Int} (h : ¬ gcbF (cpAt x ss) = 6) : (startF x ss).2.1 = 0 := if_neg h
theorem mem3 {α : Type} {P : α → Prop} {a b c : α} (h1 : P a) (h2 : P b) (h3 : P c) : ∀ p ∈ [a, b, c], P p := by
  intro p hp
  rcases List.mem_cons.mp hp with rfl | hp
  · exact h1
  exact mem2 h2 h3 p hp
end Mine
namespace Mine
set_option maxRecDepth 100000
set_option linter.unusedVariables false
set_option linter.unusedSimpArgs false
local macro_rules | `(tactic| walk_at "call ref") => `(tactic| (k_here; (with_reducible show wpAny _ _ (call (Value.ref 247) [Value.int _ _]) _ _ _); k_dflt (refine' ct_gcb ?k1 ?k2 ?k3 ?k4 ?k5 ?kK ?kd ?ku ?_; (case k1 => k_asm); (case k2 => k_asm); (case k3 => k_asm); (case k4 => k_asm); (case k5 => k_asm); (case kK => first | exact rfl | assumption); (case kd => ktr_room); (case ku => ktr_units); k_whole); intro t' h' tk' F' N'; (try dsimp only); (try k_fold)))
local macro_rules | `(tactic| walk_at "call ref") => `(tactic| (k_here; (with_reducible show wpAny _ _ (call (Value.ref 361) _ _) _ _ _); k_dflt (refine' ct_should ?k1 ?k2 ?k3 ?k4 ?k5 ?kK ?kd ?ku ?kw ?h0 ?h1 ?h2 ?h3 ?_; (case k1 => k_asm); (case k2 => k_asm); (case k3 => k_asm); (case k4 => k_asm); (case k5 => k_asm); (case kK => first | exact rfl | assumption); (case kd => ktr_room); (case ku => ktr_units); (case kw => first | exact Or.inl ⟨rfl, rfl, rfl⟩ | exact Or.inr rfl); (case h0 => first | decide | omega); (case h1 => omega); (case h2 => omega); (case h3 => omega); k_whole); intro q' dx' t' h' tk' F' N' l1 l2; (try dsimp only); (try k_fold)))
local macro_rules | `(tactic| walk_at "getAttr ref") => `(tactic| (k_here; (with_reducible show wpAny _ _ (getAttr (Value.ref _) (Str.ofString "ri_count") _) _ _ _); k_dflt (refine' ct_ri ?k1 ?k2 ?k3 ?k4 ?k5 ?kK ?kd ?h0 ?h1 ?_; (case k1 => k_asm); (case k2 => k_asm); (case k3 => k_asm); (case k4 => k_asm); (case k5 => k_asm); (case kK => first | exact rfl | assumption); (case kd => ktr_room); (case h0 => k_mem); (case h1 => k_mem); k_whole); intro h' tk' F' N'; (try dsimp only); (try k_fold)))
local macro_rules | `(tactic| walk_at "getAttr ref") => `(tactic| (k_here; (with_reducible show wpAny _ _ (getAttr (Value.ref _) (Str.ofString "should_break") _) _ _ _); k_dflt (refine' ct_sb ?k1 ?k2 ?k3 ?k4 ?k5 ?kK ?kd ?h0 ?h1 ?_; (case k1 => k_asm); (case k2 => k_asm); (case k3 => k_asm); (case k4 => k_asm); (case k5 => k_asm); (case kK => first | exact rfl | assumption); (case kd => ktr_room); (case h0 => k_mem); (case h1 => k_mem); k_whole); intro h' tk' F' N'; (try dsimp only); (try k_fold)))
local macro_rules | `(tactic| walk_at "never5") => `(tactic| fail)
local macro_rules | `(tactic| walk_at "never5b") => `(tactic| fail)
local macro_rules | `(tactic| walk_at "exec While") => `(tactic| (k_here; refine stop_out ?_))
local macro_rules | `(tactic| walk_at "exec If BoolOp") => `(tactic| (k_here; refine stop_out ?_))
local macro_rules | `(tactic| walk_at "JPost") => `(tactic| (dsimp only [JPost]))
local macro_rules | `(tactic| walk_at "JEnd") => `(tactic| (refine stop_out ?_))
local macro_rules | `(tactic| walk_at "KswPost") => `(tactic| (dsimp only [KswPost]))
local macro_rules | `(tactic| walk_at "KswEnd") => `(tactic| (refine stop_out ?_))
local macro_rules | `(tactic| walk_at "InvEndN") => `(tactic| (refine stop_out ?_))
local macro_rules | `(tactic| walk_at "pyIter ref") => `(tactic| (k_here; refine stop_out ?_))
local macro_rules | `(tactic| walk_at "exec Assign") => `(tactic| (k_here; (with_reducible show wpAny _ _ (exec (Stmt.Assign _ (Expr.IfExp _ _ _ _) _) _) _ _ _); refine stop_out ?_))
def FcsC (w : World) (x : Str) (pos : Int) (k : Nat) : Prop :=
  ∀ {p : Program} {loose : List Str} {mean : ExcName → Option Value} {mg mb : Str → Option Value}
    {dp un : Nat} {gd : Option (List Code)} {cn : Str} {cs : Scope} {a : Addr} {ccd : Value} {cl : List (Str × Addr)} {outer : List Env} {A₀ : Around} {base h₀ : Heap} {L : Addr} {m : Str → Option Value} {news : List (Addr × Obj)} {s : Shared} {Q E : Value → Shared → Prop}
    {tx tp : Tok}
    (B : Below A₀ base outer h₀) (F : Fr h₀ L s.heap m) (X : (hd.heap_39 w.params).In h₀) (N : News h₀ L s.heap news) (T : Top p loose mean mg mb h₀) (hk : cs.kind = .function) (hdp : dp + k < recursionLimit) (hun : un + 10 * k < cLine)
    (hret : ∀ t h' tk', Fr h₀ L h' m → News h₀ L h' news → Q (.int (fcsF x pos) t) { s with heap := h', toks := tk' }),
    wpAny (model PySem.Challenge.rw_ax6034_01.row.prog w) (ktrTop dp un gd cn cs L a ccd cl outer) (call (.ref 376) [.str x tx, .int pos tp]) Q E s
local macro_rules | `(tactic| walk_at "call ref") => `(tactic| (k_here; (with_reducible show wpAny _ _ (call (Value.ref 376) _ _) _ _ _); refine stop_out ?_))
theorem fcs_use {w : World} {p : Program} {loose : List Str} {mean : ExcName → Option Value} {mg mb : Str → Option Value}
    {dp un : Nat} {gd : Option (List Code)} {cn : Str} {cs : Scope} {a : Addr} {ccd : Value} {cl : List (Str × Addr)} {outer : List Env} {A₀ : Around} {base h₀ : Heap} {L : Addr} {m : Str → Option Value} {news : List (Addr × Obj)} {s : Shared} {Q E : Value → Shared → Prop} {x : Str} {pos : Int} {k : Nat} {tx tp : Tok} (hR : FcsC w x pos k)
    (B : Below A₀ base outer h₀) (F : Fr h₀ L s.heap m) (X : (hd.heap_39 w.params).In h₀) (N : News h₀ L s.heap news) (T : Top p loose mean mg mb h₀) (hk : cs.kind = .function) (hdp : dp + k < recursionLimit) (hun : un + 10 * k < cLine)
    (hret : ∀ t h' tk', Fr h₀ L h' m → News h₀ L h' news → Q (.int (fcsF x pos) t) { s with heap := h', toks := tk' }) :
    wpAny (model PySem.Challenge.rw_ax6034_01.row.prog w) (ktrTop dp un gd cn cs L a ccd cl outer) (call (.ref 376) [.str x tx, .int pos tp]) Q E s := hR B F X N T hk hdp hun hret
set_option maxHeartbeats 8000000 in
theorem fcs_core {w : World} {x : Str} {pos : Int} {k : Nat} (hk7 : 7 ≤ k) (hp1 : 1 ≤ pos) (hp2 : pos ≤ x.length) (hx : x.length ≤ 100)
    (hrec : cpAt x (pos - 1) < 128 → 128 ≤ cpAt x (pos - 2) → 2 ≤ pos → FcsC w x (pos - 1) (k - 1)) : FcsC w x pos k := by
  unfold FcsC
  intro p loose mean mg mb dp un gd cn cs a ccd cl outer A₀ base h₀ L m news s Q E tx tp B F X N T hk hdp hun hret
  revert X
  k_fill
  intro X
  refine wpAny_call ?_
  k_dflt (refine' code_def (binds := [(Str.ofString "text", .str x tx), (Str.ofString "pos", .int pos tp)]) ?k1 ?k2 ?k3 ?k4 ?k5 ?kA ?kF ?kK ?k6 ?k7 ?k8 ?k9 ?kB ?_ ?c2 ?c3 ?c4 ?c5; (case kA => exact rfl); (case kF => exact rfl); (case kK => assumption); (case k1 => k_asm); (case k2 => k_asm); (case k3 => k_asm); (case k4 => k_asm); (case k5 => k_asm); (case k6 => k_is); (case k7 => k_is); (case k8 => ktr_room); (case k9 => exact BindsTo.of_eq rfl); (case c5 => decide); (case kB => exact locs rfl); (case c2 => exact rfl); (case c3 => exact rfl); (case c4 => exact rfl); k_whole; intro g' L' h' FG' F' N' B' X' T'; (try dsimp only); (try k_fold))
  k_steps
  unfold Stopped
  rename Fr _ _ _ _ => F2
  rename News _ _ _ _ => N2
  refine stmt_join (σ := Unit) (fun _ => []) [] (fun _ => ¬ ((cpAt x (pos - 1) = 10 ∧ 2 ≤ pos) ∧ crAt x (pos - 2) = true)) F2 N2 ?cA ?rA
  case cA =>
    refine wpAny_If ?_
    k_steps
    · exact ret_int hret ‹_› ‹_› (fcs_1 ⟨⟨‹_›,‹_›⟩,‹_›⟩)
    · unfold Stopped
      exact jend () ‹_› ‹_› (fun _ h => h) mem0 (by ksw_same) (fun h => tf h.2 ‹_›)
    · unfold Stopped
      exact jend () ‹_› ‹_› (fun _ h => h) mem0 (by ksw_same) (fun h => absurd h.1.2 ‹_›)
    · unfold Stopped
      exact jend () ‹_› ‹_› (fun _ h => h) mem0 (by ksw_same) (fun h => absurd h.1.1 ‹_›)
  case rA =>
    intro _ uu h9 tk9 hA F9 N9
    dsimp only [kstB] at *
    k_steps
    · unfold Stopped
      rename _ < (128 : Int) => hlt
      refine wpAny_If ?_
      k_steps
      · unfold Stopped
        refine wpAny_If ?_
        k_steps
        · unfold Stopped
          (k_dflt (refine' fcs_use (hrec ‹_› ‹_› ‹_›) ?k1 ?k2 ?k3 ?k4 ?k5 ?kK ?kd ?ku ?_; (case k1 => k_asm); (case k2 => k_asm); (case k3 => k_asm); (case k4 => k_asm); (case k5 => k_asm); (case kK => first | exact rfl | assumption); (case kd => ktr_room); (case ku => ktr_units); k_whole)); intro t' h' tk' F' N'; (try dsimp only); (try k_fold)
          k_steps
          exact ret_int hret ‹Fr _ _ h' _› ‹News _ _ h' _› ((fcs_2 hA hlt ⟨⟨‹_›, ‹_›⟩, ⟨‹_›, ‹_›⟩⟩).trans (fcs_4b ‹_›).symm)
        · exact ret_int hret ‹_› ‹_› (fcs_3 hA hlt (fun h => absurd h.2.2 ‹_›))
        · exact ret_int hret ‹_› ‹_› (fcs_3 hA hlt (fun h => absurd h.2.1 ‹_›))
      · exact ret_int hret ‹_› ‹_› (fcs_3 hA hlt (fun h => absurd h.1.2 ‹_›))
      · exact ret_int hret ‹_› ‹_› (fcs_3 hA hlt (fun h => absurd h.1.1 ‹_›))
    · unfold Stopped
      rename Fr _ _ _ _ => F2
      rename News _ _ _ _ => N2
      rename ¬ cpAt _ _ < 128 => hnl
      refine stmt_join (σ := Tok) (fun t => [(Str.ofString "safe_start", .int (safe0 x pos) t)]) [Str.ofString "cp"] (fun _ => True) F2 N2 ?cW ?rW
      case cW =>
        with_unfolding_all refine' ksw_while (σ := Int × Tok) (fun _ => news) (fun c => [(Str.ofString "safe_start", .int c.1 c.2)]) (fun _ => True) [Str.ofString "cp"] (fun c => 0 ≤ c.1 ∧ c.1 ≤ pos - 1 ∧ ∃ n : Nat, c.1 ≤ n ∧ safeF x pos n c.1 = safe0 x pos) (fun c => c.1.toNat) (pos - 1, _) F2 N2 trivial ?kk ?kp ?kt ?kE
        case kk => refine mem1 ?_; rfl
        case kp => exact ⟨by dsimp only; omega, by dsimp only; omega, pos.toNat, by dsimp only; omega, rfl⟩
        case kt =>
          rintro ⟨i, t1⟩ uu h9 tk9 - ⟨hl0, hl1, n, hn, hI⟩ F9 N9
          dsimp only [kstB] at *
          k_steps
          all_goals (unfold Stopped; first
            | exact jend t1 (by assumption) (by assumption) (fun _ h => h) (mem1 (by rw [← safeF_a hI ⟨‹_›, ‹_›⟩]; rfl)) (by ksw_same) trivial
            | exact jend t1 (by assumption) (by assumption) (fun _ h => h) (mem1 (by rw [← safeF_b hI ‹_›]; rfl)) (by ksw_same) trivial
            | exact jend t1 (by assumption) (by assumption) (fun _ h => h) (mem1 (by rw [← safeF_d hI ‹_›]; rfl)) (by ksw_same) trivial
            | exact ksw_end (i - 1, _) (by assumption) (by assumption) (fun _ h => h) trivial (by refine mem1 ?_; rfl) (by ksw_same) ⟨by dsimp only; omega, by dsimp only; omega, safeF_step hI hn ‹_› (by first | exact fun h => absurd h.2 (by assumption) | exact fun h => absurd h.1 (by assumption)) ‹_› ‹_›⟩ (by dsimp only; omega)
            | exact jend _ (by assumption) (by assumption) (fun _ h => h) (by refine mem1 ?_; rw [← safeF_c hI hn ‹0 < i› (by first | exact fun h => absurd h.2 (by assumption) | exact fun h => absurd h.1 (by assumption)) ‹_› ‹_›]; rfl) (by ksw_same) trivial)
        case kE => k_steps
      case rW =>
        intro t9 uu h9 tk9 _ F9 N9
        have hs : 0 ≤ safe0 x pos ∧ safe0 x pos ≤ pos - 1 := safeF_ge (by omega)
        dsimp only [kstB] at *
        k_steps
        unfold Stopped
        rename Fr _ _ _ _ => F2
        rename News _ _ _ _ => N2
        refine stmt_join (σ := Tok) (fun t => [(Str.ofString "ri_count", .int (startF x (safe0 x pos)).2.1 t)]) [] (fun _ => True) F2 N2 ?cR ?rR
        case cR =>
          refine wpAny_Assign_Name ?_
          k_steps
          · unfold Stopped
            exact jend _ ‹_› ‹_› (fun _ h => h) (by refine mem1 ?_; rw [startF_1 ‹_›]; rfl) (by ksw_same) trivial
          · unfold Stopped
            exact jend _ ‹_› ‹_› (fun _ h => h) (by refine mem1 ?_; rw [startF_0 ‹_›]; rfl) (by ksw_same) trivial
        case rR =>
          intro t8 uu h9 tk9 _ F9 N9
          dsimp only [kstB] at *
          k_steps
          unfold Stopped
          rename Fr _ _ _ _ => F2
          rename News _ _ _ _ => N2
          rename IsRange _ _ _ _ _ _ _ _ => rg
          with_unfolding_all refine' kst_range (σ := (Int × Int × Int) × (Tok × Tok × Tok)) (fun _ => news) (fun c => [(Str.ofString "left_gcb", .int c.1.1 c.2.1), (Str.ofString "ri_count", .int c.1.2.1 c.2.2.1), (Str.ofString "cluster_start", .int c.1.2.2 c.2.2.2)]) (fun _ => True) [Str.ofString "right_gcb", Str.ofString "result"] (fun pre c => c.1 = loopF x (safe0 x pos + 1) (startF x (safe0 x pos)) pre.length) (startF x (safe0 x pos), _, _, _) (by rfl) rg (small_one (by omega) (by omega) (by omega) (by omega)) (rangeSize_nat _ _) F2 N2 trivial ?kk rfl ?kt ?kd
          case kk => refine mem3 ?_ ?_ ?_ <;> rfl
          case kt =>
            rintro ⟨⟨lg, ri, cl0⟩, ta, tb, tc⟩ pre i t1 uu h9 tk9 own hi hlt hoff - hP F9 N9
            dsimp only [kstB] at *
            k_steps
            · unfold Stopped
              exact kst_end ((gcbF (cpAt x i), (shouldF x lg (gcbF (cpAt x i)) i ri 0).2, i), _, _, _) ‹_› ‹News _ _ _ (_ :: _ :: _)› (fun _ h => .tail _ (.tail _ (List.mem_append.mpr (.inl h)))) (fun _ h => .tail _ (.tail _ (List.mem_append.mpr (.inr h)))) rfl trivial (by refine mem3 ?_ ?_ ?_ <;> rfl) (by kst_same) (loop_t hP hi (step_t ‹_›))
            · unfold Stopped
              exact kst_end ((gcbF (cpAt x i), (shouldF x lg (gcbF (cpAt x i)) i ri 0).2, cl0), _, _, _) ‹_› ‹News _ _ _ (_ :: _ :: _)› (fun _ h => .tail _ (.tail _ (List.mem_append.mpr (.inl h)))) (fun _ h => .tail _ (.tail _ (List.mem_append.mpr (.inr h)))) rfl trivial (by refine mem3 ?_ ?_ ?_ <;> rfl) (by kst_same) (loop_t hP hi (step_f ‹_›))
          case kd =>
            rintro ⟨⟨lg, ri, cl0⟩, ta, tb, tc⟩ uu h9 tk9 - hP F9 N9
            rw [rangeKs_length] at hP
            dsimp only [kstB] at *
            k_steps
            exact ret_int hret ‹Fr _ _ h9 _› ‹News _ _ h9 _› ((fcs_4 hnl).trans (congrArg (fun c => c.2.2) hP.symm))
theorem fcs_hi {w : World} {x : Str} {pos : Int} (hp1 : 1 ≤ pos) (hp2 : pos ≤ x.length) (hx : x.length ≤ 100) (h : 128 ≤ cpAt x (pos - 1)) : FcsC w x pos 7 :=
  fcs_core (Nat.le_refl _) hp1 hp2 hx (fun h1 => absurd h (by omega))
theorem fcs_all {w : World} {x : Str} {pos : Int} (hp1 : 1 ≤ pos) (hp2 : pos ≤ x.length) (hx : x.length ≤ 100) : FcsC w x pos 8 :=
  fcs_core (by decide) hp1 hp2 hx (fun _ h2 h3 => fcs_hi (by omega) (by omega) hx (by rw [show pos - 1 - 1 = pos - 2 by omega]; exact h2))
theorem ct_fcs {w : World} {p : Program} {loose : List Str} {mean : ExcName → Option Value} {mg mb : Str → Option Value}
    {dp un : Nat} {gd : Option (List Code)} {cn : Str} {cs : Scope} {a : Addr} {ccd : Value} {cl : List (Str × Addr)} {outer : List Env} {A₀ : Around} {base h₀ : Heap} {L : Addr} {m : Str → Option Value} {news : List (Addr × Obj)} {s : Shared} {Q E : Value → Shared → Prop} {x : Str} {pos : Int} {tx tp : Tok}
    (B : Below A₀ base outer h₀) (F : Fr h₀ L s.heap m) (X : (hd.heap_39 w.params).In h₀) (N : News h₀ L s.heap news) (T : Top p loose mean mg mb h₀) (hk : cs.kind = .function) (hdp : dp + 8 < recursionLimit) (hun : un + 80 < cLine) (hp1 : 1 ≤ pos) (hp2 : pos ≤ x.length) (hx : x.length ≤ 100)
    (hret : ∀ t h' tk', Fr h₀ L h' m → News h₀ L h' news → Q (.int (fcsF x pos) t) { s with heap := h', toks := tk' }) :
    wpAny (model PySem.Challenge.rw_ax6034_01.row.prog w) (ktrTop dp un gd cn cs L a ccd cl outer) (call (.ref 376) [.str x tx, .int pos tp]) Q E s := fcs_all hp1 hp2 hx B F X N T hk hdp hun hret
end Mine
namespace Mine
set_option maxRecDepth 100000
set_option linter.unusedVariables false
set_option linter.unusedSimpArgs false
def bndF (x : Str) (pos : Int) : Int := if pos ≤ 0 then 0 else if x.length = 0 then 0 else fcsF x (if (x.length : Int) < pos then x.length else pos)
local macro_rules | `(tactic| walk_at "call ref") => `(tactic| (k_here; (with_reducible show wpAny _ _ (call (Value.ref 376) _ _) _ _ _); refine stop_out ?_))
set_option maxHeartbeats 8000000 in
theorem ct_bnd {w : World} {p : Program} {loose : List Str} {mean : ExcName → Option Value} {mg mb : Str → Option Value}
    {dp un : Nat} {gd : Option (List Code)} {cn : Str} {cs : Scope} {a : Addr} {ccd : Value} {cl : List (Str × Addr)} {outer : List Env} {A₀ : Around} {base h₀ : Heap} {L : Addr} {m : Str → Option Value} {news : List (Addr × Obj)} {s : Shared} {Q E : Value → Shared → Prop} {x : Str} {pos : Int} {tx tp : Tok}
    (B : Below A₀ base outer h₀) (F : Fr h₀ L s.heap m) (X : (hd.heap_39 w.params).In h₀) (N : News h₀ L s.heap news) (T : Top p loose mean mg mb h₀) (hk : cs.kind = .function) (hdp : dp + 10 < recursionLimit) (hun : un + 100 < cLine) (hx : x.length ≤ 100)
    (hret : ∀ t h' tk', Fr h₀ L h' m → News h₀ L h' news → Q (.int (bndF x pos) t) { s with heap := h', toks := tk' }) :
    wpAny (model PySem.Challenge.rw_ax6034_01.row.prog w) (ktrTop dp un gd cn cs L a ccd cl outer) (call (.ref 383) [.str x tx, .int pos tp]) Q E s := by
  revert X
  k_fill
  intro X
  refine wpAny_call ?_
  k_dflt (refine' code_def (binds := [(Str.ofString "unistr", .str x tx), (Str.ofString "pos", .int pos tp)]) ?k1 ?k2 ?k3 ?k4 ?k5 ?kA ?kF ?kK ?k6 ?k7 ?k8 ?k9 ?kB ?_ ?c2 ?c3 ?c4 ?c5; (case kA => exact rfl); (case kF => exact rfl); (case kK => assumption); (case k1 => k_asm); (case k2 => k_asm); (case k3 => k_asm); (case k4 => k_asm); (case k5 => k_asm); (case k6 => k_is); (case k7 => k_is); (case k8 => ktr_room); (case k9 => exact BindsTo.of_eq rfl); (case c5 => decide); (case kB => exact locs rfl); (case c2 => exact rfl); (case c3 => exact rfl); (case c4 => exact rfl); k_whole; intro g' L' h' FG' F' N' B' X' T'; (try dsimp only); (try k_fold))
  k_steps
  · exact ret_int hret ‹_› ‹_› (if_pos ‹_›)
  · unfold Stopped
    have hpos : 1 ≤ (if (x.length : Int) < pos then (x.length : Int) else pos) ∧ (if (x.length : Int) < pos then (x.length : Int) else pos) ≤ x.length := by split <;> omega
    (k_dflt (refine' ct_fcs ?k1 ?k2 ?k3 ?k4 ?k5 ?kK ?kd ?ku hpos.1 hpos.2 hx ?_; (case k1 => k_asm); (case k2 => k_asm); (case k3 => k_asm); (case k4 => k_asm); (case k5 => k_asm); (case kK => first | exact rfl | assumption); (case kd => ktr_room); (case ku => ktr_units); k_whole)); intro t' h9 tk9 F9 N9; (try dsimp only); (try k_fold)
    k_steps
    exact ret_int hret ‹Fr _ _ h9 _› ‹News _ _ h9 _› (by unfold bndF; rw [if_neg ‹¬ pos ≤ 0›, if_neg (by omega)])
  · exact ret_int hret ‹_› ‹_› ((if_neg ‹_›).trans (if_pos (by omega)))
end Mine
namespace Mine
set_option maxRecDepth 100000
set_option linter.unusedVariables false
set_option linter.unusedSimpArgs false
section
variable {M : Model} {A : Around} {R : GenEnd} {Y : Protocol} {n : Nat} {s₀ : Shared} {c : Code} {fs : List Frame} {s : Shared} {env : Env}
  {K : Flow → Sem Fin} {H : Value → Sem Fin} {gd : Bool → Bool} {lv : List Value → List Value}
theorem execs_append_wrap (rest : List Stmt) : ∀ (pre : List Stmt), (execs (pre ++ rest) env).wrap K H gd lv =
    (execs pre env).wrap (fun f => match f with | .next => (execs rest env).wrap K H gd lv | f => K f) H gd lv
  | [] => rfl
  | st :: pre => by
    rw [List.cons_append, execs_cons_wrap, execs_cons_wrap]
    refine Sem.wrap_congr _ _ _ (fun f => ?_) (fun _ => rfl)
    cases f <;> first | exact execs_append_wrap rest pre | rfl
/-- the first k statements by one run, the rest by steps -/
theorem seg_first (k : Nat) {body : List Stmt}
    (h : wpAny M (A.over c fs) (execs (body.take k) env) (fun f s' => Seg M A R Y n s₀ c (match f with | .next => (execs (body.drop k) env).wrap K H gd lv | f => K f) fs s') (fun _ _ => False) s) :
    Seg M A R Y n s₀ c ((execs body env).wrap K H gd lv) fs s := by
  have e := execs_append_wrap (env := env) (K := K) (H := H) (gd := gd) (lv := lv) (body.drop k) (body.take k)
  rw [List.take_append_drop] at e
  rw [e]
  exact seg_wrap (wpAny_mono h (fun _ _ h => h) fun _ _ h => h.elim)
theorem seg_For {target iter : Expr} {body orelse : List Stmt} {pos : Pos}
    (h : wpAny M (A.over c fs) (eval iter env) (fun x s₁ => wpAny M (A.over c fs) (pyIter x) (fun it s₂ => ∀ p,
      Seg M A R Y n s₀ (.forLoop target it body orelse env) (M.den (.forLoop target it body orelse env))
        (.ret (fun r => ((match r with | .ok f => (.pure f : Sem Flow) | .error e => .raise e).onRaise fun (x : Value) => do
          if (← field x 1) == Value.none then unsupported "frame.own-activation:exception-without-traceback"
          setFlight x env.frame).wrap K H gd lv) none (gd false) (lv []) c p [] :: fs) s₂) (fun _ _ => False) s₁) (fun _ _ => False) s)
    (hs : ∀ x, foldedSetIterable iter env x = pure x := by intro _; rfl) :
    Seg M A R Y n s₀ c ((exec (.For target iter body orelse pos) env).wrap K H gd lv) fs s := by
  rw [exec_For]
  refine seg_bind_wrap (wpAny_standAt ?_)
  refine seg_bind_wrap (wpAny_mono h (fun x s₁ h₁ => ?_) fun _ _ e => e.elim)
  refine seg_bind_wrap (wpAny_of_eq (hs x) ?_)
  refine seg_bind_wrap (wpAny_standAt ?_)
  refine seg_bind_wrap (wpAny_holding (wpAny_mono h₁ (fun it s₂ h₂ => ?_) fun _ _ e => e.elim))
  exact seg_call h₂
theorem seg_If {test : Expr} {body orelse : List Stmt} {pos : Pos}
    (h : wpAny M (A.over c fs) (isTrue test env (eval test env)) (fun b s' => if b = true then Seg M A R Y n s₀ c ((execs body env).wrap K H gd lv) fs s' else Seg M A R Y n s₀ c ((execs orelse env).wrap K H gd lv) fs s') (fun _ _ => False) s) :
    Seg M A R Y n s₀ c ((exec (.If test body orelse pos) env).wrap K H gd lv) fs s := by
  rw [exec_If]
  refine seg_bind_wrap (wpAny_standAt ?_)
  refine seg_bind_wrap (wpAny_mono h (fun b s₁ h₁ => ?_) fun _ _ e => e.elim)
  cases b with
  | true => rw [if_pos rfl] at h₁; exact h₁
  | false => rw [if_neg Bool.false_ne_true] at h₁; exact h₁
theorem seg_done (h : Seg M A R Y n s₀ c (K .next) fs s) : Seg M A R Y n s₀ c ((execs [] env).wrap K H gd lv) fs s := h
theorem over_func {body : List Stmt} : A.over (.func body env) [] = A.deeper env := rfl
theorem over_loop {body b₁ b₂ : List Stmt} {env' : Env} {t : Expr} {it : Value} {k : Result → Sem Fin} {g : Bool} {l : List Value} {p : Pos} {kp : List Value} :
    A.over (.forLoop t it b₁ b₂ env) [.ret k none g l (.func body env') p kp] = A.deeper env' := rfl
/-- the induction over the turns of a loop -/
theorem seg_turns {σ : Type} {loop : Code} {N : Nat} (Inv : Nat → σ → Shared → Shared → Prop) (cnt : Nat → σ → Nat)
    (turn : ∀ i c s₀ s, i < N → Inv i c s₀ s → (∀ c' s₀' s', Inv (i + 1) c' s₀' s' → Seg M A R Y (cnt (i + 1) c') s₀' loop (M.den loop) fs s') → Seg M A R Y (cnt i c) s₀ loop (M.den loop) fs s)
    (done : ∀ c s₀ s, Inv N c s₀ s → Seg M A R Y (cnt N c) s₀ loop (M.den loop) fs s) :
    ∀ k i c s₀ s, N - i = k → i ≤ N → Inv i c s₀ s → Seg M A R Y (cnt i c) s₀ loop (M.den loop) fs s := by
  intro k
  induction k with
  | zero => intro i c s₀ s hk hi hI; exact (show i = N by omega) ▸ done c s₀ s ((show i = N by omega) ▸ hI)
  | succ k ih => intro i c s₀ s hk hi hI; exact turn i c s₀ s (by omega) hI fun c' s₀' s' h => ih (i + 1) c' s₀' s' (by omega) (by omega) h
end
section
variable {prog : Program} {w : World} {A : Around} {R : GenEnd} {Y : Protocol} {n : Nat} {s₀ : Shared} {fs : List Frame} {s : Shared} {env : Env}
theorem seg_forTurn {x : Str} {px : Pos} {it : Value} {body : List Stmt}
    (h : wpAny (model prog w) (A.over (.forLoop (.Name x px) it body [] env) fs) (pyNext it) (fun r s₁ => match r with
      | none => Seg (model prog w) A R Y n s₀ (.block [] env) ((model prog w).den (.block [] env)) fs s₁
      | some v => wpAny (model prog w) (A.over (.forLoop (.Name x px) it body [] env) fs) (storeName env x v) (fun _ s₂ =>
        Seg (model prog w) A R Y n s₀ (.forLoop (.Name x px) it body [] env) ((execs body env).wrap (fun f => match f with
          | .next | .cont => .pure (.again (.forLoop (.Name x px) it body [] env))
          | .brk => .pure (.done .next)
          | .ret v => .pure (.done (.ret v))) (fun e => (do noteFrame e env; theTreesLotGoes e : Sem Unit).wrap (fun _ => .raise e) .raise id id) id id) fs s₂) (fun _ _ => False) s₁) (fun _ _ => False) s) :
    Seg (model prog w) A R Y n s₀ (.forLoop (.Name x px) it body [] env) ((model prog w).den (.forLoop (.Name x px) it body [] env)) fs s := by
  show Seg _ A R Y n s₀ _ ((forTurn (.Name x px) it body [] env).onRaise (fun x => do noteFrame x env; theTreesLotGoes x)) fs s
  unfold forTurn
  rw [Sem.onRaise_eq_wrap]
  refine seg_bind_wrap (wpAny_standAt ?_)
  refine seg_bind_wrap (wpAny_onRaise (wpAny_mono h (fun r s₁ h₁ => ?_) fun _ _ e => e.elim))
  cases r with
  | none => exact seg_again rfl h₁
  | some v =>
    refine seg_bind_wrap (wpAny_of_eq (rfl : letOwnedTupleGo (.Name x px) it v = pure ()) ?_)
    refine seg_bind_wrap (wpAny_mono (wpAny_assign_Name h₁) (fun _ s₂ h₂ => ?_) fun _ _ e => e.elim)
    rw [Sem.bind_eq_wrap', Sem.wrap_wrap]
    rw [Sem.wrap_congr (execs body env) _ _ (K' := fun f => match f with
            | .next | .cont => .pure (.again (.forLoop (.Name x px) it body [] env))
            | .brk => .pure (.done .next)
            | .ret v => .pure (.done (.ret v))) (H' := (fun e => (do noteFrame e env; theTreesLotGoes e : Sem Unit).wrap (fun _ => .raise e) .raise id id))
        (fun f => by cases f <;> rfl)
        (fun e => by first | exact Sem.bind_eq_wrap _ _ | (show (do noteFrame e env; theTreesLotGoes e : Sem Unit).bind (fun _ => .raise e) = _; rw [Sem.bind_eq_wrap]))]
    exact h₂
theorem seg_forOut {c : Code} {K : Flow → Sem Fin} {H : Value → Sem Fin} {gd : Bool → Bool} {lv : List Value → List Value} {hd' : Option Value} {g : Bool} {l kp : List Value} {p : Pos} {en : Value → Sem Unit}
    (h : Seg (model prog w) A R Y n s₀ c (K .next) fs s) :
    Seg (model prog w) A R Y n s₀ (.block [] env) ((model prog w).den (.block [] env))
      (.ret (fun r => ((match r with | .ok f => (.pure f : Sem Flow) | .error e => .raise e).onRaise en).wrap K H gd lv) hd' g l c p kp :: fs) s :=
  seg_leaf (.ok .next) h
end
end Mine
namespace Mine
set_option maxRecDepth 100000
set_option linter.unusedVariables false
set_option linter.unusedSimpArgs false
section
variable {prog : Program} {w : World} {A : Around} {E : Value → Shared → Prop} {s : Shared} {R : Result → Shared → Prop} {I S : Addr} {n : Nat} {P : Nat → Value → Prop} {St : Nat → Shared → Prop} {Fin : Shared → Prop}
abbrev madeList (acc : Array Value) (c : Nat) : Obj := { cls := .type "list", dict := none, data := .seq acc c, slots := #[] }
/-- a generator drained into the list at S: what its turns keep -/
structure Drains (prog : Program) (w : World) (A : Around) (I S : Addr) (n : Nat) (P : Nat → Value → Prop) (St : Nat → Shared → Prop) (Fin : Shared → Prop) : Prop where
  typ : ∀ i s, St i s → s.TypeIs (.ref I) "generator"
  self : ∀ i (s : Shared) (Q : Value → Shared → Prop) (E : Value → Shared → Prop), St i s → Q (.ref I) s → wpAny (model prog w) A (pyIter (.ref I)) Q E s
  item : ∀ i (s : Shared) (o : Obj) (Q : Option Value → Shared → Prop) (E : Value → Shared → Prop), i < n → St i s → s.heap.get? S = some o → (∀ v s', P i v → St (i + 1) s' → s'.heap.get? S = some o → Q (some v) s') → wpAny (model prog w) A (pyNext (.ref I)) Q E s
  done : ∀ (s : Shared) (o : Obj) (Q : Option Value → Shared → Prop) (E : Value → Shared → Prop), St n s → s.heap.get? S = some o → (∀ s', Fin s' → s'.heap.get? S = some o → Q none s') → wpAny (model prog w) A (pyNext (.ref I)) Q E s
  upd : ∀ i (s : Shared) f, St i s → St i { s with heap := s.heap.update S f }
theorem drain_loop (W : Drains prog w A.in1 I S n P St Fin) (hn : n ≤ sizeLine) (res : Value) :
    ∀ (k i : Nat) (s : Shared) (acc : Array Value) (c : Nat), n - i = k → i ≤ n → St i s → s.heap.get? S = some (madeList acc c) → ItemsOf P acc i →
    (∀ s' acc' c', Fin s' → s'.heap.get? S = some (madeList acc' c') → ItemsOf P acc' n → R (.ok (.ret res)) s') →
    codeAny (model prog w) A (.builtin "list.extend.loop" ⟨[.ref S, .ref I, res], []⟩) R s := by
  intro k
  induction k with
  | zero =>
    intro i s acc c hk hi hst hS hacc hR
    have hin : i = n := by omega
    subst hin
    refine codeAny_builtin F.entry_extend_loop ?_
    rw [Around.under_plainId F.plain_extend_loop _]
    show wpAny _ A.in1 (pyNext (.ref I) >>= _) _ _ s
    exact wpAny_bind (W.done s _ _ _ hst hS fun s' hf hS' => wpAny_pure (hR s' acc c hf hS' hacc))
  | succ k ih =>
    intro i s acc c hk hi hst hS hacc hR
    refine codeAny_builtin F.entry_extend_loop ?_
    rw [Around.under_plainId F.plain_extend_loop _]
    show wpAny _ A.in1 (pyNext (.ref I) >>= _) _ _ s
    refine wpAny_bind (W.item i s _ _ _ (by omega) hst hS fun v s' hP hst' hS' => ?_)
    show wpAny _ A.in1 (updateSeq S (·.push v) >>= _) _ _ _
    refine wpAny_bind (wpAny_updateSeq hS' rfl (wpAny_pure ⟨plainId_quiet F.plain_extend_loop _, ih (i + 1) _ (acc.push v) _ (by omega) (by omega) (W.upd _ _ _ hst') (Heap.get?_update_self _ hS' rfl) (hacc.push hP) hR⟩) (by rw [hacc.1]; omega) (by show (acc.push v).size ≤ sizeLine + 1; rw [Array.size_push, hacc.1]; omega))
theorem drain_list {Q : Value → Shared → Prop} (W : Drains prog w A.in1.in1 I s.heap.objs.size n P St Fin) (hn : n ≤ sizeLine) (hI : I < s.heap.objs.size)
    (hst : St 0 { s with heap := s.heap.push (madeList #[] 0) })
    (hQ : ∀ s' acc' c', Fin s' → s'.heap.get? s.heap.objs.size = some (madeList acc' c') → ItemsOf P acc' n → Q (.ref s.heap.objs.size) s') :
    wpAny (model prog w) A (call (.type "list") [.ref I]) Q E s := by
  refine callType_codes (Q₁ := fun obj s₁ => obj = .ref s.heap.objs.size ∧ s₁ = { s with heap := s.heap.push (madeList #[] 0) }) F.called_list (F.typeCall_list_1 _) F.entry_list_init
    (code_list_new _ ⟨rfl, rfl⟩) fun obj s₁ h₁ => ?_
  obtain ⟨rfl, rfl⟩ := h₁
  have hS : (s.heap.push (madeList #[] 0)).get? s.heap.objs.size = some (madeList #[] 0) := Heap.get?_push_size _ rfl
  refine ⟨⟨_, hS, rfl⟩, F.args_list_init_2 _ _, ?_⟩
  generalize s.heap.objs.size = S at *
  generalize s.heap.push (madeList #[] 0) = h at *
  show wpAny _ A.in1.in1 (do let old ← Builtin.List.listItems (.ref S); Builtin.List.listUpdate (.ref S) (fun _ => #[]); letGo old.toList.reverse; Builtin.List.listExtendWith (.ref S) (.ref I) .none) _ _ _
  refine wpAny_bind ?_
  unfold Builtin.List.listItems
  refine wpAny_bind (wpAny_seqItems hS rfl (wpAny_pure ?_))
  show wpAny _ A.in1.in1 (updateSeq S (fun _ => #[]) >>= fun _ => letGo (#[] : Array Value).toList.reverse >>= fun _ => Builtin.List.listExtendWith (.ref S) (.ref I) .none) _ _ _
  refine wpAny_bind (wpAny_updateSeq hS rfl ?_)
  have hS₂ := Heap.get?_update_self (Obj.mapSeq (fun _ => (#[] : Array Value))) hS rfl
  have hst₂ := W.upd 0 _ (Obj.mapSeq (fun _ => (#[] : Array Value))) hst
  refine wpAny_bind (wpAny_letGo ?_)
  have hSI : S ≠ I := Nat.ne_of_gt hI
  unfold Builtin.List.listExtendWith
  refine wpAny_bind (wpAny_typeOf (W.typ 0 _ hst₂) ?_)
  have h1 : Builtin.List.listSameRef (.ref S) (.ref I) = false := by simp [Builtin.List.listSameRef, hSI]
  have h2 : (Value.type "generator" == Value.type "list") = false := by decide
  have h3 : (Value.type "generator" == Value.type "tuple") = false := by decide
  simp only [h1, h2, h3, Bool.or_false, Bool.false_eq_true, if_false]
  refine wpAny_bind (W.self 0 _ _ _ hst₂ ?_)
  refine wpAny_bind (wpAny_holding ?_)
  unfold Builtin.List.listLengthHint
  refine wpAny_bind (wpAny_specialOf (W.typ 0 _ hst₂) F.gen_no_len ?_)
  show wpAny _ _ (specialOf (Value.ref I) (Str.ofString "__length_hint__") >>= _) _ _ _
  refine wpAny_bind (wpAny_specialOf (W.typ 0 _ hst₂) F.gen_no_hint ?_)
  refine wpAny_pure ?_
  show wpAny _ _ (rule "list.extend.makes-room" >>= fun _ => Builtin.List.listTouch (.ref S) >>= fun _ =>
    again (.builtin "list.extend.loop" ⟨[.ref S, .ref I, .none], []⟩)) _ _ _
  refine wpAny_bind (wpAny_rule ?_)
  refine wpAny_bind ?_
  show wpAny _ _ (updateSeq S (·.push .none) >>= fun _ => updateSeq S (·.pop)) _ _ _
  refine wpAny_bind (wpAny_updateSeq hS₂ rfl ?_)
  have hS₃ := Heap.get?_update_self (Obj.mapSeq (·.push Value.none)) hS₂ rfl
  refine wpAny_updateSeq (hz := by seq_fits) hS₃ rfl ?_
  have hS₄ := Heap.get?_update_self (Obj.mapSeq (·.pop)) hS₃ rfl
  exact wpAny_pure ⟨plainId_quiet F.plain_extend_loop _, drain_loop W hn .none n 0 _ _ _ rfl (Nat.zero_le _) (W.upd 0 _ _ (W.upd 0 _ _ hst₂)) hS₄ (ItemsOf.nil P) fun s' acc' c' hf hS' hacc => ⟨rfl, hQ s' acc' c' hf hS' hacc⟩⟩
end
end Mine
namespace Mine
set_option maxRecDepth 100000
set_option linter.unusedVariables false
set_option linter.unusedSimpArgs false
def GKept (S : Addr) (h h' : Heap) : Prop := ∀ b o, b ≠ S → h.get? b = some o → h'.get? b = some o
def GFr (g : Heap) (L' I : Addr) (oI : Obj) (news : List (Addr × Obj)) (h : Heap) : Prop := (∃ m, Fr g L' h m) ∧ News g L' h ((I, oI) :: news)
def GEnd (g : Heap) (L' I S : Addr) (oI : Obj) (news : List (Addr × Obj)) : GenEnd := fun n s₀ r s₁ =>
  r = .ok (.ret .none) ∧ n = 0 ∧ (∃ h tk, s₁ = { s₀ with heap := h, toks := tk }) ∧ GFr g L' I oI news s₁.heap ∧ ∀ o, s₀.heap.get? S = some o → s₁.heap.get? S = some o
def GProto (g : Heap) (L' I S : Addr) (oI : Obj) (news : List (Addr × Obj)) (pcs : List Str) : Protocol := fun m s₀ v s₁ kap =>
  (∃ y t, pcs[pcs.length - 1 - m]? = some y ∧ v = .str y t) ∧ (∃ h tk, s₁ = { s₀ with heap := h, toks := tk }) ∧ GFr g L' I oI news s₁.heap ∧ (∀ o, s₀.heap.get? S = some o → s₁.heap.get? S = some o) ∧
    ∀ s₂ o, GKept S s₁.heap s₂.heap → s₂.heap.get? S = some o → kap (.send .none) s₂
def GenSt (prog : Program) (w : World) (A : Around) (g : Heap) (L' I S : Addr) (oI : Obj) (news : List (Addr × Obj)) (gi : Nat) (pcs : List Str) (st₀ : Shared) (j : Nat) (s' : Shared) : Prop :=
  GFr g L' I oI news s'.heap ∧ GenOnly gi st₀.gens s'.gens ∧ s'.drawn = st₀.drawn ∧ s'.os = st₀.os ∧ ∃ gs, s'.gens[gi]? = some gs ∧
    ∀ s₂ o, GKept S s'.heap s₂.heap → s₂.heap.get? S = some o → gs.Goes (model prog w) A.in1 (GEnd g L' I S oI news) (GProto g L' I S oI news pcs) (pcs.length - j) (.send .none) s₂
def GFin (g : Heap) (L' I S : Addr) (oI : Obj) (news : List (Addr × Obj)) (gi : Nat) (st₀ s' : Shared) : Prop :=
  GFr g L' I oI news s'.heap ∧ GenOnly gi st₀.gens s'.gens ∧ s'.drawn = st₀.drawn ∧ s'.os = st₀.os ∧ s'.gens[gi]? = some .finished
section
variable {prog : Program} {w : World} {A : Around} {g : Heap} {L' I S : Addr} {oI : Obj} {news : List (Addr × Obj)} {gi : Nat} {pcs : List Str} {st₀ : Shared}
theorem GFr.kept {h h' : Heap} (hS : g.objs.size ≤ S) (hL : L' < S) (hI : I < S) (hn : ∀ p ∈ news, p.1 < S) (x : GFr g L' I oI news h) (k : GKept S h h') : GFr g L' I oI news h' := by
  obtain ⟨⟨m, F⟩, N⟩ := x
  refine ⟨⟨m, F.ns.at' fun o e => k _ o (Nat.ne_of_lt hL) e, fun b o e => k b o (Nat.ne_of_lt (Nat.lt_of_lt_of_le (Heap.lt_size e) hS)) (F.keep b o e), F.above⟩, fun p hp => ⟨k _ _ ?_ (N p hp).1, (N p hp).2⟩⟩
  rcases List.mem_cons.mp hp with rfl | hp
  · exact Nat.ne_of_lt hI
  · exact Nat.ne_of_lt (hn p hp)
theorem GFr.isGen {h : Heap} (hoI : ∃ nm qn, oI.cls = .type "generator" ∧ oI.data = .fields #[.int gi 0, nm, qn] ∧ oI.slots = #[]) (x : GFr g L' I oI news h) : h.IsGen I gi :=
  let ⟨nm, qn, a, b, c⟩ := hoI
  ⟨oI, nm, qn, (x.2 _ (List.mem_cons_self ..)).1, a, b, c⟩
theorem gkept_upd {h : Heap} {f : Obj → Obj} : GKept S h (h.update S f) := fun b o hb e => (Heap.get?_update_other _ _ (Ne.symm hb)).trans e
theorem gkept_trans {h h₁ h₂ : Heap} (x : GKept S h h₁) (y : GKept S h₁ h₂) : GKept S h h₂ := fun b o hb e => y b o hb (x b o hb e)
theorem gen_drains (hh : A.handled = none) (hroom : A.depth < recursionLimit) (hlim : g.NoLimit) (hS : g.objs.size ≤ S) (hL : L' < S) (hI : I < S) (hn : ∀ p ∈ news, p.1 < S)
    (hoI : ∃ nm qn, oI.cls = .type "generator" ∧ oI.data = .fields #[.int gi 0, nm, qn] ∧ oI.slots = #[]) :
    Drains prog w A I S pcs.length (fun j v => ∃ y t, pcs[j]? = some y ∧ v = .str y t) (GenSt prog w A g L' I S oI news gi pcs st₀) (GFin g L' I S oI news gi st₀) where
  typ := fun i s st => (st.1.isGen hoI).typeIs
  self := fun i s Q E st hQ => wpAny_pyIter_gen (st.1.isGen hoI) hQ
  upd := fun i s f st => by
    obtain ⟨a, b, c, d, gs, hgs, hgo⟩ := st
    exact ⟨a.kept hS hL hI hn gkept_upd, b, c, d, gs, hgs, fun s₂ o k ho => hgo s₂ o (gkept_trans gkept_upd k) ho⟩
  item := fun j s o Q E hj st ho hQ => by
    obtain ⟨fr, go, dr, os, gs, hgs, hgo⟩ := st
    obtain ⟨m, hm⟩ : ∃ m, pcs.length - j = m + 1 := ⟨pcs.length - j - 1, by omega⟩
    rw [hm] at hgo
    refine wpAny_pyNext_gen (P := fun n s₀ s₁ => n = 0 ∧ (∃ h tk, s₁ = { s₀ with heap := h, toks := tk }) ∧ GFr g L' I oI news s₁.heap ∧ ∀ o, s₀.heap.get? S = some o → s₁.heap.get? S = some o) hh
      (hlim.keeps (let ⟨⟨_, F⟩, _⟩ := fr; F.keep)) hroom (fr.isGen hoI) hgs (hgo _ o (fun _ _ _ e => e) ho) (fun v s₁ gs' hv => ?_) (fun s₁ hp h' hk => ?_)
    · obtain ⟨⟨y, t, hi, rfl⟩, ⟨h₁, tk₁, rfl⟩, fr₁, ho₁, hkap⟩ := hv
      have hidx : pcs.length - 1 - (m + 1 - 1) = j := by omega
      rw [hidx] at hi
      refine hQ _ _ ⟨y, t, hi, rfl⟩ ⟨fr₁, go.trans ((GenOnly.setGen s gi .running).trans (GenOnly.setGen _ gi gs')), dr, os, gs', setGen_self (gs := .running) (setGen_self hgs), fun s₂ o₂ k ho₂ => ?_⟩ (ho₁ _ ho)
      have e : pcs.length - (j + 1) = m := by omega
      rw [e]
      exact hkap s₂ o₂ k ho₂
    · exact absurd hp.1 (Nat.succ_ne_zero m)
  done := fun s o Q E st ho hQ => by
    obtain ⟨fr, go, dr, os, gs, hgs, hgo⟩ := st
    rw [Nat.sub_self] at hgo
    refine wpAny_pyNext_gen (P := fun n s₀ s₁ => n = 0 ∧ (∃ h tk, s₁ = { s₀ with heap := h, toks := tk }) ∧ GFr g L' I oI news s₁.heap ∧ ∀ o, s₀.heap.get? S = some o → s₁.heap.get? S = some o) hh
      (hlim.keeps (let ⟨⟨_, F⟩, _⟩ := fr; F.keep)) hroom (fr.isGen hoI) hgs (hgo _ o (fun _ _ _ e => e) ho) (fun v s₁ gs' hv => ?_) (fun s₁ hp h' hk => ?_)
    · exact (hv.2.2.2.2 s₁ o (fun _ _ _ e => e) (hv.2.2.2.1 _ ho)).elim
    · obtain ⟨_, ⟨h₁, tk₁, rfl⟩, fr₁, ho₁⟩ := hp
      exact hQ _ ⟨fr₁.kept hS hL hI hn fun b o _ e => hk b o e, go.trans ((GenOnly.setGen s gi .running).trans (GenOnly.setGen _ gi .finished)), dr, os, setGen_self (gs := .running) (setGen_self hgs)⟩ (hk _ _ (ho₁ _ ho))
theorem GFin.bare {s' : Shared} (h : AllBare st₀.gens) (x : GFin g L' I S oI news gi st₀ s') : AllBare s'.gens :=
  AllBare.moved h (.inr ⟨x.2.1, fun z hz => by rw [x.2.2.2.2] at hz; cases hz; rfl⟩)
end
end Mine
namespace Mine
set_option maxRecDepth 100000
set_option linter.unusedVariables false
set_option linter.unusedSimpArgs false
section
variable {prog : Program} {w : World} {A A₀ : Around} {E : Value → Shared → Prop} {s : Shared} {K : Frag} {C L : Addr} {h₀ base : Heap} {m mg mb : Str → Option Value} {news : List (Addr × Obj)} {p : Program} {loose : List Str} {mean : ExcName → Option Value} {Q : Value → Shared → Prop}
/-- a call of a generator function: the generator object, and the ground on which its body runs -/
theorem gen_def {env : Env} {outer : List Env} {R : Result → Shared → Prop} {name qual : Str} {params : Arguments} {body : List Stmt} {scope : Scope} {dV kV doc pm cdv ct oc : Value} {an od : Option Addr} {osl : Array (Option Value)} {f : Addr} {args : Args} {binds : List (Str × Value)}
    (B : Below A₀ base outer h₀) (F : Fr h₀ L s.heap m) (X₀ : K.In h₀) (N : News h₀ L s.heap news) (T : Top p loose mean mg mb h₀) (hA : A.frames = some (env :: outer)) (hf : env.frame = some L) (hke : env.scope.kind = .function)
    (ho : K.lookup f = some ⟨oc, od, .func (fnOf name qual params body scope dV kV doc pm an cdv ct), osl⟩) (hcd : codeIn K cdv qual = true) (hroom : A.depth < recursionLimit)
    (hbind : BindsTo s (fnOf name qual params body scope dV kV doc pm an cdv ct) args binds) (hloc : ∀ y ∈ binds, scope.names.lookup y.1 = some .local)
    (h : ∀ g L' I oI h₁ tk, Fr h₀ L g m → Fr g L' h₁ (fun y => binds.reverse.lookup y) → News g L' h₁ ((I, oI) :: news) → Below A base (env :: outer) g → K.In g → Top p loose mean mg mb g → (∀ R v s', LeaveK h₀ L m g R v s' → R (.ok (.ret v)) s') →
      g.objs.size ≤ L' → L' < I → h₁.objs.size = I + 1 → (∀ p ∈ news, p.1 < L') → (∃ nm qn, oI.cls = .type "generator" ∧ oI.data = .fields #[.int s.gens.size 0, nm, qn] ∧ oI.slots = #[]) →
      R (.ok (.ret (.ref I))) { s with heap := h₁, gens := s.gens.push (.fresh (.func body (envOf qual scope L' f cdv))), toks := tk })
    (hco : scope.isCoroutine = false) (hgen : scope.isGenerator = true) (hk : scope.kind = .function)
    (hcell : ∀ x ∈ scope.names, x.2 ≠ .cell) : codeAny (model prog w) A (.call (.ref f) args) R s := by
  have ho' := (X₀.keeps F.keep) _ _ ho
  obtain ⟨FG, BG, st, lv⟩ := groundX (R := R) B F N hA hf hke
  refine codeAny_call_generator hroom ho' rfl hco hgen rfl (codeRec_of (X₀.keeps F.keep) hcd) (hbind _ _ _ _ ?_)
  refine wpAny_newFunctionEnv hcell hloc (fun h₁ hns hsb => ⟨(T.nolimit.keeps F.keep).fresh _ hsb, ?_⟩) hk
  have keep : ∀ b o, s.heap.get? b = some o → h₁.get? b = some o := fun b o e => hsb.extBut b o (Nat.ne_of_lt (Heap.lt_size e)) (Heap.get?_push_of_some _ e)
  have hlt : s.heap.objs.size < h₁.objs.size := hns.lt
  refine h _ s.heap.objs.size h₁.objs.size { cls := .type "generator", data := .fields #[.int s.gens.size 0, .str name (s.toks + binds.length), .str qual (s.toks + binds.length + 1)] } _ _ FG ⟨hns.keeps fun b o e => Heap.get?_push_of_some _ e, fun b o e => Heap.get?_push_of_some _ (keep b o (of_hideAll _ e)), Nat.le_of_eq (hideAll_size _ _)⟩ (fun q hq => ?_)
    BG (X₀.keeps st) (T.keeps st) (fun R' v s' => (groundX (R := R') B F N hA hf hke).2.2.2 v s') (Nat.le_of_eq (hideAll_size _ _)) hlt (Heap.size_push ..) (fun p hp => Heap.lt_size (N p hp).1) ⟨_, _, rfl, rfl, rfl⟩
  rcases List.mem_cons.mp hq with rfl | hq
  · refine ⟨Heap.get?_push_size _ rfl, Nat.ne_of_gt hlt, ?_⟩
    cases q : (hideAll s.heap (news.map (·.1))).get? h₁.objs.size with
    | none => rfl
    | some o =>
      have := Heap.lt_size q
      rw [hideAll_size] at this
      exact absurd this (Nat.not_lt.mpr (Nat.le_of_lt hlt))
  · exact ⟨Heap.get?_push_of_some _ (keep _ _ (N q hq).1), Nat.ne_of_lt (Heap.lt_size (N q hq).1), hideAll_none _ (List.mem_map_of_mem hq)⟩
end
end Mine
namespace Mine
set_option maxRecDepth 100000
set_option linter.unusedVariables false
set_option linter.unusedSimpArgs false
local macro_rules | `(tactic| walk_at "call ref") => `(tactic| (k_here; (with_reducible show wpAny _ _ (call (Value.ref 247) [Value.int _ _]) _ _ _); k_dflt (refine' ct_gcb ?k1 ?k2 ?k3 ?k4 ?k5 ?kK ?kd ?ku ?_; (case k1 => k_asm); (case k2 => k_asm); (case k3 => k_asm); (case k4 => k_asm); (case k5 => k_asm); (case kK => first | exact rfl | assumption); (case kd => ktr_room); (case ku => ktr_units); k_whole); intro t' h' tk' F' N'; (try dsimp only); (try k_fold)))
local macro_rules | `(tactic| walk_at "call ref") => `(tactic| (k_here; (with_reducible show wpAny _ _ (call (Value.ref 361) _ _) _ _ _); k_dflt (refine' ct_should ?k1 ?k2 ?k3 ?k4 ?k5 ?kK ?kd ?ku ?kw ?h0 ?h1 ?h2 ?h3 ?_; (case k1 => k_asm); (case k2 => k_asm); (case k3 => k_asm); (case k4 => k_asm); (case k5 => k_asm); (case kK => first | exact rfl | assumption); (case kd => ktr_room); (case ku => ktr_units); (case kw => first | exact Or.inl ⟨rfl, rfl, rfl⟩ | exact Or.inr rfl); (case h0 => first | decide | omega); (case h1 => omega); (case h2 => omega); (case h3 => omega); k_whole); intro q' dx' t' h' tk' F' N' l1 l2; (try dsimp only); (try k_fold)))
local macro_rules | `(tactic| walk_at "getAttr ref") => `(tactic| (k_here; (with_reducible show wpAny _ _ (getAttr (Value.ref _) (Str.ofString "ri_count") _) _ _ _); k_dflt (refine' ct_ri ?k1 ?k2 ?k3 ?k4 ?k5 ?kK ?kd ?h0 ?h1 ?_; (case k1 => k_asm); (case k2 => k_asm); (case k3 => k_asm); (case k4 => k_asm); (case k5 => k_asm); (case kK => first | exact rfl | assumption); (case kd => ktr_room); (case h0 => k_mem); (case h1 => k_mem); k_whole); intro h' tk' F' N'; (try dsimp only); (try k_fold)))
local macro_rules | `(tactic| walk_at "getAttr ref") => `(tactic| (k_here; (with_reducible show wpAny _ _ (getAttr (Value.ref _) (Str.ofString "should_break") _) _ _ _); k_dflt (refine' ct_sb ?k1 ?k2 ?k3 ?k4 ?k5 ?kK ?kd ?h0 ?h1 ?_; (case k1 => k_asm); (case k2 => k_asm); (case k3 => k_asm); (case k4 => k_asm); (case k5 => k_asm); (case kK => first | exact rfl | assumption); (case kd => ktr_room); (case h0 => k_mem); (case h1 => k_mem); k_whole); intro h' tk' F' N'; (try dsimp only); (try k_fold)))
local macro_rules | `(tactic| walk_at "exec If Compare") => `(tactic| (k_here; (with_reducible show wpAny _ _ (exec (Stmt.If (Expr.Compare (Expr.Name (Str.ofString "prev_gcb") _) _ _ _) _ _ _) _) _ _ _); refine stop_out ?_))
local macro_rules | `(tactic| walk_at "pyIter ref") => `(tactic| (k_here; refine stop_out ?_))
local macro_rules | `(tactic| walk_at "JPost") => `(tactic| (dsimp only [JPost]))
local macro_rules | `(tactic| walk_at "JEnd") => `(tactic| (refine stop_out ?_))
theorem genOnly_fresh {gs : Array GenState} {x y : GenState} : GenOnly gs.size (gs.push x) (gs.push y) :=
  ⟨by simp, fun k hk => by
    rw [Array.getElem?_push, Array.getElem?_push, if_neg hk, if_neg hk]⟩
theorem g_none {g : Heap} {S : Addr} (h : g.objs.size ≤ S) : g.get? S = none := by
  cases q : g.get? S with
  | none => rfl
  | some o => exact absurd (Heap.lt_size q) (Nat.not_lt.mpr h)
def piecesF (x : Str) : Nat → Int → (Int × Int × Int) → List Str
  | 0, _, c => [Txt.slice x (some c.2.2) (some (x.length : Int))]
  | n+1, i, c => if (shouldF x c.1 (gcbF (cpAt x i)) i c.2.1 0).1 = true then Txt.slice x (some c.2.2) (some i) :: piecesF x n (i + 1) (stepF x i c) else piecesF x n (i + 1) (stepF x i c)
def textsOf (x : Str) : List Str := piecesF x (x.length - 1) 1 (startF x 0)
/-- what holds when the generator's loop starts a turn -/
def GInv (x : Str) (g : Heap) (L' I S Ra : Addr) (oI : Obj) (news : List (Addr × Obj)) (m₀ : Str → Option Value) (i : Nat) (c : (Int × Int × Int) × (Tok × Tok × Tok)) (s₀ s : Shared) : Prop :=
  (∃ m, Fr g L' s.heap m ∧ (∀ p ∈ ([(Str.ofString "prev_gcb", .int c.1.1 c.2.1), (Str.ofString "ri_count", .int c.1.2.1 c.2.2.1), (Str.ofString "cluster_start", .int c.1.2.2 c.2.2.2)] : List (Str × Value)), m p.1 = some p.2) ∧
    (∀ z, (∀ p ∈ ([(Str.ofString "prev_gcb", .int c.1.1 c.2.1), (Str.ofString "ri_count", .int c.1.2.1 c.2.2.1), (Str.ofString "cluster_start", .int c.1.2.2 c.2.2.2)] : List (Str × Value)), z ≠ p.1) → [Str.ofString "idx", Str.ofString "curr_gcb", Str.ofString "result"].contains z = false → m z = m₀ z)) ∧
  News g L' s.heap ((I, oI) :: news) ∧ IsRangeIter s.heap Ra (1 + (i : Int) * 1) (((x.length - 1 : Nat) : Int) - (i : Int)) 1 ∧ (∃ h tk, s = { s₀ with heap := h, toks := tk }) ∧ (∃ o, s₀.heap.get? S = some o ∧ s.heap.get? S = some o) ∧
  0 ≤ c.1.2.2 ∧ c.1.2.2 < 1 + (i : Int) ∧ ∃ pre, textsOf x = pre ++ piecesF x (x.length - 1 - i) (1 + (i : Int)) c.1
theorem ginv_init {x : Str} {g : Heap} {L' I S : Addr} {oI o : Obj} {news : List (Addr × Obj)} {m₀ : Str → Option Value} {h : Heap} {s₀ : Shared} {tk : Nat} {ta tb tc : Tok} (h0 : 0 < x.length) (F : Fr g L' h m₀) (N : News g L' h ((S, o) :: (I, oI) :: news)) (ho : s₀.heap.get? S = some o)
    (hk : ∀ p ∈ ([(Str.ofString "prev_gcb", .int (startF x 0).1 ta), (Str.ofString "ri_count", .int (startF x 0).2.1 tb), (Str.ofString "cluster_start", .int (startF x 0).2.2 tc)] : List (Str × Value)), m₀ p.1 = some p.2) :
    GInv x g L' I S h.objs.size oI news m₀ 0 (startF x 0, ta, tb, tc) s₀ { s₀ with heap := h.push { cls := .type "range_iterator", data := .fields #[rawInt (0 + 1), rawInt (Builtin.Range.rangeSize (0 + 1) x.length 1), rawInt 1] }, toks := tk } := by
  refine ⟨⟨m₀, F.push _, hk, fun _ _ _ => rfl⟩, fun p hp => ⟨Heap.get?_push_of_some _ (N p (.tail _ hp)).1, (N p (.tail _ hp)).2⟩, ?_, ⟨_, _, rfl⟩, ⟨o, ho, Heap.get?_push_of_some _ (N _ (.head _)).1⟩, Int.le_refl _, (by show (0 : Int) < 1 + ((0 : Nat) : Int); decide), [], rfl⟩
  have e : Builtin.Range.rangeSize (0 + 1) x.length 1 = ((x.length - 1 : Nat) : Int) - ((0 : Nat) : Int) := by rw [rangeSize_nat]; omega
  rw [e]
  exact Heap.get?_push_size _ rfl
theorem Fr.moved_but {g h h' : Heap} {L' S Ra : Addr} {m : Str → Option Value} (gg : g.objs.size ≤ S) (gL : L' < S) (hRa : S < Ra) (hk : ∀ b o, b ≠ Ra → h.get? b = some o → h'.get? b = some o) (F : Fr g L' h m) : Fr g L' h' m :=
  ⟨F.ns.at' fun o e => hk _ o (Nat.ne_of_lt (Nat.lt_trans gL hRa)) e, fun b o e => hk b o (Nat.ne_of_lt (Nat.lt_trans (Nat.lt_of_lt_of_le (Heap.lt_size e) gg) hRa)) (F.keep b o e), F.above⟩
theorem turn_news {g h h' : Heap} {L' I S Ra : Addr} {oI oS oR : Obj} {news : List (Addr × Obj)} (gg : g.objs.size ≤ S) (gL : L' < S) (gI : I < S) (gn : ∀ p ∈ news, p.1 < S) (hRa : S < Ra) (hk : ∀ b o, b ≠ Ra → h.get? b = some o → h'.get? b = some o)
    (N : News g L' h ((I, oI) :: news)) (hS : h.get? S = some oS) (hR : h'.get? Ra = some oR) : News g L' h' ((Ra, oR) :: (S, oS) :: (I, oI) :: news) := by
  intro p hp
  rcases List.mem_cons.mp hp with rfl | hp
  · exact ⟨hR, Nat.ne_of_gt (Nat.lt_trans gL hRa), g_none (Nat.le_of_lt (Nat.lt_of_le_of_lt gg hRa))⟩
  rcases List.mem_cons.mp hp with rfl | hp
  · exact ⟨hk _ _ (Nat.ne_of_lt hRa) hS, Nat.ne_of_gt gL, g_none gg⟩
  · refine ⟨hk _ _ ?_ (N p hp).1, (N p hp).2⟩
    rcases List.mem_cons.mp hp with rfl | hp
    · exact Nat.ne_of_lt (Nat.lt_trans gI hRa)
    · exact Nat.ne_of_lt (Nat.lt_trans (gn p hp) hRa)
theorem Fr.kept {g h h' : Heap} {L' S : Addr} {m : Str → Option Value} (gg : g.objs.size ≤ S) (gL : L' < S) (k : GKept S h h') (F : Fr g L' h m) : Fr g L' h' m :=
  ⟨F.ns.at' fun o e => k _ o (Nat.ne_of_lt gL) e, fun b o e => k b o (Nat.ne_of_lt (Nat.lt_of_lt_of_le (Heap.lt_size e) gg)) (F.keep b o e), F.above⟩
theorem resume_news {g h h' : Heap} {L' I S Ra : Addr} {oI o oR : Obj} {news nn : List (Addr × Obj)} (gI : I < S) (gn : ∀ p ∈ news, p.1 < S) (gL : L' < S) (gg : g.objs.size ≤ S) (hRa : S < Ra)
    (N : News g L' h nn) (hR : (Ra, oR) ∈ nn) (hm : ∀ p ∈ (I, oI) :: news, p ∈ nn) (k : GKept S h h') (ho : h'.get? S = some o) : News g L' h' ((Ra, oR) :: (S, o) :: (I, oI) :: news) := by
  intro p hp
  rcases List.mem_cons.mp hp with rfl | hp
  · exact ⟨k _ _ (Nat.ne_of_gt hRa) (N _ hR).1, (N _ hR).2⟩
  rcases List.mem_cons.mp hp with rfl | hp
  · exact ⟨ho, Nat.ne_of_gt gL, g_none gg⟩
  · refine ⟨k _ _ ?_ (N p (hm p hp)).1, (N p (hm p hp)).2⟩
    rcases List.mem_cons.mp hp with rfl | hp
    · exact Nat.ne_of_lt gI
    · exact Nat.ne_of_lt (gn p hp)
theorem ginv_next {x : Str} {g h : Heap} {L' I S Ra : Addr} {oI o : Obj} {news nn : List (Addr × Obj)} {m m₀ : Str → Option Value} {i : Nat} {c : (Int × Int × Int) × (Tok × Tok × Tok)} {s₀ : Shared} {tk : Nat} {pre : List Str} {y : List Str}
    (F : Fr g L' h m) (N : News g L' h nn) (hm : ∀ p ∈ (I, oI) :: news, p ∈ nn)
    (hR : (Ra, ({ cls := .type "range_iterator", data := .fields #[rawInt (1 + ((i + 1 : Nat) : Int) * 1), rawInt (((x.length - 1 : Nat) : Int) - ((i + 1 : Nat) : Int)), rawInt 1] } : Obj)) ∈ nn) (hS : (S, o) ∈ nn) (hS0 : s₀.heap.get? S = some o)
    (h1 : ∀ p ∈ ([(Str.ofString "prev_gcb", .int c.1.1 c.2.1), (Str.ofString "ri_count", .int c.1.2.1 c.2.2.1), (Str.ofString "cluster_start", .int c.1.2.2 c.2.2.2)] : List (Str × Value)), m p.1 = some p.2)
    (h2 : ∀ z, (∀ p ∈ ([(Str.ofString "prev_gcb", .int c.1.1 c.2.1), (Str.ofString "ri_count", .int c.1.2.1 c.2.2.1), (Str.ofString "cluster_start", .int c.1.2.2 c.2.2.2)] : List (Str × Value)), z ≠ p.1) → [Str.ofString "idx", Str.ofString "curr_gcb", Str.ofString "result"].contains z = false → m z = m₀ z)
    (hb0 : 0 ≤ c.1.2.2) (hb1 : c.1.2.2 < 1 + ((i + 1 : Nat) : Int)) (hpre : textsOf x = pre ++ (y ++ piecesF x (x.length - 1 - (i + 1)) (1 + ((i + 1 : Nat) : Int)) c.1)) :
    GInv x g L' I S Ra oI news m₀ (i + 1) c s₀ { s₀ with heap := h, toks := tk } :=
  ⟨⟨m, F, h1, h2⟩, fun p hp => N p (hm p hp), (N _ hR).1, ⟨_, _, rfl⟩, ⟨o, hS0, (N _ hS).1⟩, hb0, hb1, pre ++ y, by rw [List.append_assoc]; exact hpre⟩
theorem done_news {g h h' : Heap} {L' I S Ra : Addr} {oI oS : Obj} {news : List (Addr × Obj)} (gg : g.objs.size ≤ S) (gL : L' < S) (gI : I < S) (gn : ∀ p ∈ news, p.1 < S) (hRa : S < Ra) (hk : ∀ b o, b ≠ Ra → h.get? b = some o → h'.get? b = some o)
    (N : News g L' h ((I, oI) :: news)) (hS : h.get? S = some oS) : News g L' h' ((S, oS) :: (I, oI) :: news) := by
  intro p hp
  rcases List.mem_cons.mp hp with rfl | hp
  · exact ⟨hk _ _ (Nat.ne_of_lt hRa) hS, Nat.ne_of_gt gL, g_none gg⟩
  · refine ⟨hk _ _ ?_ (N p hp).1, (N p hp).2⟩
    rcases List.mem_cons.mp hp with rfl | hp
    · exact Nat.ne_of_lt (Nat.lt_trans gI hRa)
    · exact Nat.ne_of_lt (Nat.lt_trans (gn p hp) hRa)
theorem piecesF_len {x : Str} : ∀ {n : Nat} {i : Int} {c : Int × Int × Int}, (piecesF x n i c).length ≤ n + 1
  | 0, _, _ => Nat.le_refl _
  | n+1, i, c => by
    unfold piecesF
    have := @piecesF_len x n (i + 1) (stepF x i c)
    split
    · rw [List.length_cons]; omega
    · omega
theorem strsAre_of : ∀ {vs : List Value} {ys : List Str}, vs.length = ys.length → (∀ (j : Nat) (v : Value), vs[j]? = some v → ∃ y t, ys[j]? = some y ∧ v = Value.str y t) → StrsAre vs ys
  | [], [], _, _ => .nil
  | v :: vs, y :: ys, hl, h => by
    obtain ⟨y', t, e, rfl⟩ := h 0 v rfl
    cases (Option.some.inj e : y = y')
    exact .cons _ _ (strsAre_of (Nat.succ.inj hl) fun j v hv => h (j + 1) v hv)
theorem piecesF_t {x : Str} {n i : Nat} {c c' : Int × Int × Int} (hi : i < n) (h : (shouldF x c.1 (gcbF (cpAt x (1 + (i : Int)))) (1 + (i : Int)) c.2.1 0).1 = true) (hc : stepF x (1 + (i : Int)) c = c') :
    piecesF x (n - i) (1 + (i : Int)) c = Txt.slice x (some c.2.2) (some (1 + (i : Int))) :: piecesF x (n - (i + 1)) (1 + ((i + 1 : Nat) : Int)) c' := by
  rw [show n - i = (n - (i + 1)) + 1 by omega, piecesF, if_pos h, hc, show (1 + (i : Int)) + 1 = 1 + ((i + 1 : Nat) : Int) by omega]
theorem piecesF_f {x : Str} {n i : Nat} {c c' : Int × Int × Int} (hi : i < n) (h : (shouldF x c.1 (gcbF (cpAt x (1 + (i : Int)))) (1 + (i : Int)) c.2.1 0).1 = false) (hc : stepF x (1 + (i : Int)) c = c') :
    piecesF x (n - i) (1 + (i : Int)) c = piecesF x (n - (i + 1)) (1 + ((i + 1 : Nat) : Int)) c' := by
  rw [show n - i = (n - (i + 1)) + 1 by omega, piecesF, if_neg (by rw [h]; exact Bool.false_ne_true), hc, show (1 + (i : Int)) + 1 = 1 + ((i + 1 : Nat) : Int) by omega]
theorem suffix_at {pre l pcs : List Str} {y : Str} (h : pcs = pre ++ y :: l) : pcs[pcs.length - 1 - l.length]? = some y := by
  subst h
  rw [List.length_append, List.length_cons, show pre.length + (l.length + 1) - 1 - l.length = pre.length by omega, List.getElem?_append_right (Nat.le_refl _), Nat.sub_self]
  rfl
set_option maxHeartbeats 8000000 in
theorem ct_iter {w : World} {p : Program} {loose : List Str} {mean : ExcName → Option Value} {mg mb : Str → Option Value}
    {dp un : Nat} {gd : Option (List Code)} {cn : Str} {cs : Scope} {a : Addr} {ccd : Value} {cl : List (Str × Addr)} {outer : List Env} {A₀ : Around} {base h₀ : Heap} {L : Addr} {m : Str → Option Value} {news : List (Addr × Obj)} {s : Shared} {Q E : Value → Shared → Prop} {x : Str} {tx : Tok}
    (B : Below A₀ base outer h₀) (F : Fr h₀ L s.heap m) (X : (hd.heap_39 w.params).In h₀) (N : News h₀ L s.heap news) (T : Top p loose mean mg mb h₀) (hk : cs.kind = .function) (hdp : dp + 9 < recursionLimit) (hun : un + 100 < cLine) (h0 : 0 < x.length) (hx : x.length ≤ 100) (hg : AllBare s.gens)
    (hret : ∀ I h' g' tk', Fr h₀ L h' m → News h₀ L h' news →
      (∀ (Q' E' : Value → Shared → Prop), (∀ l vs nn h'' g'' tk'', Fr h₀ L h'' m → News h₀ L h'' ((l, listOf vs nn) :: news) → (∀ p ∈ news, p.1 < l) → StrsAre vs.toList (textsOf x) → AllBare g'' → Q' (.ref l) { s with heap := h'', gens := g'', toks := tk'' }) →
        wpAny (model PySem.Challenge.rw_ax6034_01.row.prog w) (ktrTop dp un gd cn cs L a ccd cl outer) (call (.type "list") [.ref I]) Q' E' { s with heap := h', gens := g', toks := tk' }) →
      Q (.ref I) { s with heap := h', gens := g', toks := tk' }) :
    wpAny (model PySem.Challenge.rw_ax6034_01.row.prog w) (ktrTop dp un gd cn cs L a ccd cl outer) (call (.ref 369) [.str x tx]) Q E s := by
  revert X
  k_fill
  intro X
  refine wpAny_call ?_
  k_dflt (refine' gen_def (binds := [(Str.ofString "unistr", .str x tx), (Str.ofString "start", .int 0 799), (Str.ofString "end", .none)]) ?k1 ?k2 ?k3 ?k4 ?k5 ?kA ?kF ?kK ?k6 ?k7 ?k8 ?k9 ?kB ?_ ?c2 ?c3 ?c4 ?c5; (case kA => exact rfl); (case kF => exact rfl); (case kK => assumption); (case k1 => k_asm); (case k2 => k_asm); (case k3 => k_asm); (case k4 => k_asm); (case k5 => k_asm); (case k6 => k_is); (case k7 => k_is); (case k8 => ktr_room); (case k9 => exact binds_peek (by k_in) (fun _ => by kernel_rfl)); (case c5 => decide); (case kB => exact locs rfl); (case c2 => exact rfl); (case c3 => exact rfl); (case c4 => exact rfl); k_whole)
  intro g' L' I oI h₁ tk₁ FG' F' N' B' X' T' lv g1 g2 g3 g4 hoI
  have lv' := lv (fun _ s' => Fr h₀ L s'.heap m ∧ News h₀ L s'.heap news)
  refine hret I h₁ _ _ (lv' .none { s with heap := h₁ } ⟨L', _, _, F', N', fun a b => ⟨a, fun p hp => b p (.tail _ hp)⟩⟩).1 (lv' .none { s with heap := h₁ } ⟨L', _, _, F', N', fun a b => ⟨a, fun p hp => b p (.tail _ hp)⟩⟩).2 ?_
  intro Q' E' hQ'
  have gI : I < h₁.objs.size := by rw [g3]; exact Nat.lt_succ_self _
  have gL : L' < h₁.objs.size := Nat.lt_trans g2 gI
  have gn : ∀ p ∈ news, p.1 < h₁.objs.size := fun p hp => Nat.lt_trans (g4 p hp) gL
  have gg : g'.objs.size ≤ h₁.objs.size := Nat.le_of_lt (Nat.lt_of_le_of_lt g1 gL)
  have W := gen_drains (prog := PySem.Challenge.rw_ax6034_01.row.prog) (w := w) (A := (ktrTop dp un gd cn cs L a ccd cl outer).in1.in1) (g := g') (L' := L') (I := I) (S := h₁.objs.size) (oI := oI) (news := news) (gi := s.gens.size) (pcs := textsOf x)
    (st₀ := { s with heap := h₁, gens := s.gens.push .finished, toks := tk₁ }) rfl (by show dp < _; omega) T'.nolimit gg gL gI gn hoI
  refine drain_list W ?_ gI ?_ ?_
  · refine Nat.le_trans (piecesF_len (n := x.length - 1)) ?_
    rw [PySem.sizeLine_eq]; omega
  · refine ⟨⟨⟨_, F'.push _⟩, fun p hp => ⟨Heap.get?_push_of_some _ (N' p hp).1, (N' p hp).2⟩⟩, genOnly_fresh, rfl, rfl, _, Array.getElem?_push_size, fun s₂ o kp ho => ⟨rfl, ?_⟩⟩
    have kq : GKept h₁.objs.size h₁ s₂.heap := fun b o hb e => kp b o hb (Heap.get?_push_of_some _ e)
    have F₂ : Fr g' L' s₂.heap _ := ⟨F'.ns.at' fun o e => kq _ o (Nat.ne_of_lt gL) e, fun b o e => kq b o (Nat.ne_of_lt (Heap.lt_size (F'.keep b o e))) (F'.keep b o e), F'.above⟩
    have N₂ : News g' L' s₂.heap ((h₁.objs.size, o) :: (I, oI) :: news) := by
      intro q hq
      rcases List.mem_cons.mp hq with rfl | hq
      · exact ⟨ho, Nat.ne_of_gt gL, g_none gg⟩
      · exact ⟨kq _ _ (Nat.ne_of_lt (Heap.lt_size (N' q hq).1)) (N' q hq).1, (N' q hq).2⟩
    clear F' N' hret kp kq FG' lv lv' W B F N X T
    generalize h₁.objs.size = S at *
    refine seg_func (seg_first 11 ?_)
    rw [over_func]
    dsimp only [List.take, List.drop]
    obtain ⟨h₂, gs₂, dr₂, tk₂, os₂⟩ := s₂
    k_steps
    · unfold Stopped
      rename Fr _ _ _ _ => F3
      rename News _ _ _ _ => N3
      refine stmt_join (σ := Tok) (fun t => [(Str.ofString "ri_count", .int (startF x 0).2.1 t)]) [] (fun _ => True) F3 N3 ?cR ?rR
      case cR =>
        refine wpAny_If ?_
        k_steps
        · unfold Stopped
          exact jend _ ‹_› ‹_› (fun _ h => h) (by refine mem1 ?_; rw [startF_1 (show gcbF (cpAt x 0) = 6 from ‹_›)]; rfl) (by ksw_same) trivial
        · unfold Stopped
          exact jend _ ‹_› ‹_› (fun _ h => h) (by refine mem1 ?_; rw [startF_0 (show ¬ gcbF (cpAt x 0) = 6 from ‹_›)]; rfl) (by ksw_same) trivial
      case rR =>
        intro t8 uu h9 tk9 _ F9 N9
        dsimp only [kstB] at *
        k_steps
        refine seg_execs_cons ?_
        refine seg_For ?_
        rw [over_func]
        k_steps
        unfold Stopped
        clear F3 N3
        rename Fr _ _ _ _ => F4
        rename News _ _ _ _ => N4
        rename IsRange _ _ _ _ _ _ _ _ => rg
        simp only [ite_self, gt_iff_lt, Int.lt_irrefl, if_false] at F4 rg
        refine wpAny_pyIter_range rg (small_one (by omega) (by omega) (by omega) (by omega)) ?_
        intro p₅
        dsimp only
        have hRa : S < Array.size (Heap.objs _) := Heap.lt_size (N4 _ (.head _)).1
        refine' seg_turns (N := x.length - 1) (GInv x g' L' I S (Array.size (Heap.objs _)) oI news _) (fun i c => (piecesF x (x.length - 1 - i) (1 + (i : Int)) c.1).length) ?turn ?done (x.length - 1) 0 (startF x 0, ?ta, ?tb, ?tc) _ _ rfl (Nat.zero_le _) (ginv_init (s₀ := { heap := h₂, gens := gs₂, drawn := dr₂, toks := tk₂, os := os₂ }) h0 F4 N4 ho ?hk)
        case hk => refine mem3 ?_ ?_ ?_ <;> rfl
        case turn =>
          clear rg N4
          generalize Array.size (Heap.objs _) = Ra at hRa ⊢
          rintro i ⟨⟨lg, ri, cl0⟩, ta, tb, tc⟩ s₀ s₁ hi ⟨⟨m₁, F, h1, h2⟩, N, hR, ⟨h, tk, rfl⟩, ⟨oS, hS0, hS⟩, hb0, hb1, ⟨pre, hpre⟩⟩ next
          have Fk := ksw_fr h1 h2 F
          clear F h1 h2 F4
          dsimp only at Fk N hR hS hb0 hb1 hpre ⊢
          refine seg_forTurn ?_
          rw [over_loop]
          refine (Walks.range rfl Ra 1 1 (x.length - 1)).item i _ _ _ hi hR fun v h₃ tk₃ hPv hst₃ hk₃ => ?_
          obtain ⟨t₃, rfl⟩ := hPv
          have hk' : ∀ b o, b ≠ Ra → h.get? b = some o → h₃.get? b = some o := fun b o hb e => hk₃ b o (fun hm => hb (List.mem_singleton.mp hm)) e
          have F1 := Fr.moved_but gg gL hRa hk' Fk
          have N1 := turn_news gg gL gI gn hRa hk' N hS hst₃
          clear Fk N hk₃ hk'
          refine stN F1 N1 (fun h₄ F₄ N₄ => ?_)
          clear F1 N1
          dsimp only [kstB] at F₄ ⊢
          refine seg_first 3 ?_
          rw [over_loop]
          dsimp only [List.take, List.drop]
          rw [Int.mul_one] at F₄
          have hidx : (1 : Int) + (i : Int) < x.length := by omega
          generalize hix : (1 : Int) + (i : Int) = ix at *
          k_steps
          refine seg_execs_cons ?_
          refine seg_If ?_
          rw [over_loop]
          k_steps
          · rename _ = true => hsb
            subst hix
            have e := piecesF_t (n := x.length - 1) (c := (lg, ri, cl0)) hi hsb (step_t hsb)
            rw [e] at hpre
            rw [e, List.length_cons]
            refine seg_execs_cons ?_
            refine seg_Expr_Yield rfl rfl rfl ?_
            rw [over_loop]
            refine wpAny_mono (E := fun _ _ => False) ?_ (fun _ _ h => h) fun _ _ h => h.elim
            k_steps
            rename Fr _ _ _ _ => F8
            rename News _ _ _ _ => N8
            rename_i kap hkap
            refine ⟨⟨_, _, suffix_at hpre, rfl⟩, ⟨_, _, rfl⟩, ⟨⟨_, F8⟩, fun q hq => N8 q (.tail _ (.tail _ (.tail _ (.tail _ hq))))⟩, (fun o₂ e₂ => by rw [hS0] at e₂; cases e₂; exact (N8 _ (.tail _ (.tail _ (.tail _ (.head _))))).1), fun s₂ o₂ kq ho₂ => hkap .none s₂ ?_⟩
            have F10 := Fr.kept gg gL kq F8
            have N10 := resume_news gI gn gL gg hRa N8 (.tail _ (.tail _ (.head _))) (fun q hq => .tail _ (.tail _ (.tail _ (.tail _ hq)))) kq ho₂
            clear F8 N8 kq
            obtain ⟨h₂, gs₂, dr₂, tk₂, os₂⟩ := s₂
            dsimp only
            refine seg_first 1 ?_
            rw [over_loop]
            dsimp only [List.take, List.drop]
            k_steps
            refine seg_done ?_
            dsimp only
            refine seg_first 1 ?_
            rw [over_loop]
            dsimp only [List.take, List.drop]
            k_steps
            refine seg_done ?_
            dsimp only
            rename Fr _ _ _ _ => F11
            rename News _ _ _ _ => N11
            refine seg_again rfl ?_
            refine' next ((gcbF (cpAt x (1 + (i : Int))), (shouldF x lg (gcbF (cpAt x (1 + (i : Int)))) (1 + (i : Int)) ri 0).2, 1 + (i : Int)), ?ua, ?ub, ?uc) _ _ (ginv_next (s₀ := { heap := h₂, gens := gs₂, drawn := dr₂, toks := tk₂, os := os₂ }) (y := [_]) F11 N11 (fun q hq => .tail _ (.tail _ hq)) (.head _) (.tail _ (.head _)) ho₂ ?h1 ?h2 ?b0 ?b1 hpre)
            case h1 => refine mem3 ?_ ?_ ?_ <;> rfl
            case h2 => ksw_same
            case b0 => (try dsimp only); omega
            case b1 => (try dsimp only); omega
          · rename _ = false => hsb
            subst hix
            have e := piecesF_f (n := x.length - 1) (c := (lg, ri, cl0)) hi hsb (step_f hsb)
            rw [e] at hpre
            rw [e]
            refine seg_done ?_
            dsimp only
            refine seg_first 1 ?_
            rw [over_loop]
            dsimp only [List.take, List.drop]
            k_steps
            refine seg_done ?_
            dsimp only
            rename Fr _ _ _ _ => F11
            rename News _ _ _ _ => N11
            refine seg_again rfl ?_
            refine' next ((gcbF (cpAt x (1 + (i : Int))), (shouldF x lg (gcbF (cpAt x (1 + (i : Int)))) (1 + (i : Int)) ri 0).2, cl0), ?va, ?vb, ?vc) _ _ (ginv_next (s₀ := s₀) (y := []) F11 N11 (fun q hq => .tail _ (.tail _ (.tail _ (.tail _ hq)))) (.tail _ (.tail _ (.head _))) (.tail _ (.tail _ (.tail _ (.head _)))) hS0 ?h1 ?h2 ?b0 ?b1 hpre)
            case h1 => refine mem3 ?_ ?_ ?_ <;> rfl
            case h2 => ksw_same
            case b0 => (try dsimp only); omega
            case b1 => (try dsimp only); omega
        case done =>
          clear rg N4
          generalize Array.size (Heap.objs _) = Ra at hRa ⊢
          rintro ⟨⟨lg, ri, cl0⟩, ta, tb, tc⟩ s₀ s₁ ⟨⟨m₁, F, h1, h2⟩, N, hR, ⟨h, tk, rfl⟩, ⟨oS, hS0, hS⟩, hb0, hb1, ⟨pre, hpre⟩⟩
          have Fk := ksw_fr h1 h2 F
          clear F h1 h2 F4
          dsimp only at Fk N hR hS hb0 hb1 hpre ⊢
          have e : piecesF x (x.length - 1 - (x.length - 1)) (1 + ((x.length - 1 : Nat) : Int)) (lg, ri, cl0) = [Txt.slice x (some cl0) (some (x.length : Int))] := by rw [Nat.sub_self]; rfl
          rw [e] at hpre
          rw [e, List.length_cons, List.length_nil]
          refine seg_forTurn ?_
          rw [over_loop]
          refine (Walks.range rfl Ra 1 1 (x.length - 1)).done _ _ _ hR fun h₃ tk₃ hk₃ => ?_
          have hk' : ∀ b o, b ≠ Ra → h.get? b = some o → h₃.get? b = some o := fun b o hb e => hk₃ b o (fun hm => hb (List.mem_singleton.mp hm)) e
          have F1 := Fr.moved_but gg gL hRa hk' Fk
          have N1 := done_news gg gL gI gn hRa hk' N hS
          clear Fk N hk₃ hk'
          dsimp only [kstB] at F1
          refine seg_forOut ?_
          dsimp only
          refine seg_execs_cons ?_
          refine seg_Expr_Yield rfl rfl rfl ?_
          rw [over_func]
          refine wpAny_mono (E := fun _ _ => False) ?_ (fun _ _ h => h) fun _ _ h => h.elim
          k_steps
          rename Fr _ _ _ _ => F8
          rename News _ _ _ _ => N8
          rename_i kap hkap
          refine ⟨⟨_, _, suffix_at (l := []) hpre, rfl⟩, ⟨_, _, rfl⟩, ⟨⟨_, F8⟩, fun q hq => N8 q (.tail _ hq)⟩, (fun o₂ e₂ => by rw [hS0] at e₂; cases e₂; exact (N8 _ (.head _)).1), fun s₂ o₂ kq ho₂ => hkap .none s₂ ?_⟩
          refine seg_done ?_
          exact seg_end (.ok (.ret .none)) ⟨rfl, rfl, ⟨s₂.heap, s₂.toks, rfl⟩, GFr.kept gg gL gI gn ⟨⟨_, F8⟩, fun q hq => N8 q (.tail _ hq)⟩ kq, fun o e => e⟩
    · exact absurd ‹_› (show ¬ (x.length : Int) = 0 by omega)
  · rintro ⟨h₉, gs₉, dr₉, tk₉, os₉⟩ acc c₉ fin hl items
    have hb := fin.bare (AllBare.push hg rfl)
    obtain ⟨⟨⟨m₉, F9⟩, N9⟩, -, hdr, hos, -⟩ := fin
    cases (show dr₉ = s.drawn from hdr)
    cases (show os₉ = s.os from hos)
    have lv9 := lv (fun _ s' => Fr h₀ L s'.heap m ∧ News h₀ L s'.heap ((h₁.objs.size, listOf acc c₉) :: news)) .none { heap := h₉, gens := gs₉, drawn := s.drawn, toks := tk₉, os := s.os }
      ⟨L', _, (h₁.objs.size, listOf acc c₉) :: news, F9, (fun q hq => by
        rcases List.mem_cons.mp hq with rfl | hq
        · exact ⟨hl, Nat.ne_of_gt gL, g_none gg⟩
        · exact N9 q (.tail _ hq)), fun a b => ⟨a, b⟩⟩
    exact hQ' _ acc c₉ h₉ gs₉ tk₉ lv9.1 lv9.2 gn (strsAre_of (by rw [Array.length_toList]; exact items.1) fun j v hv => items.2 j v (by rw [← Array.getElem?_toList]; exact hv)) hb
end Mine
namespace Mine
set_option maxRecDepth 100000
set_option linter.unusedVariables false
set_option linter.unusedSimpArgs false
local macro_rules | `(tactic| walk_at "InvEndN") => `(tactic| (refine stop_out ?_))
local macro_rules | `(tactic| walk_at "execs nil") => `(tactic| (k_here; (with_reducible show wpAny _ _ (execs [] _) (InvPostN _ _ _ _ _ _ _) _ _); refine stop_out ?_))
theorem nameG_B {M : Model} {A : Around} {E : Value → Shared → Prop} {s : Shared} {h₀ : Heap} {L : Addr} {m : Str → Option Value} {env : Env} {K : Frag} {mg mb : Str → Option Value} {p : Program} {loose : List Str} {x : Str} {pos : Pos} {v : Value} {Q : Value → Shared → Prop} (F : Fr h₀ L s.heap m) (X : K.In h₀) (T : TopRead p loose mg mb h₀)
    (e : nsIn K mainGlobals x = some none) (hv : bootBuiltins x = some v) (hn : x ≠ "__name__") (h : Q v s) (hg : env.globals = mainGlobals) (hb : env.builtins = builtinsNs) (hk : env.scope.kind = .function) (hx : env.kindOf x = some .globalImplicit) (hd : (x == ("__debug__" : Str)) = false) :
    wpAny M A (eval (.Name x pos) env) Q E s :=
  Name_function_global hk hx (loadGlobal_builtin (env := env) (by rw [hg]; exact T.g.keeps F.keep) (mg_none_of X T.g e) (by rw [hb]; exact T.b.keeps F.keep) ((T.builtins x hn).trans hv) h) hd
local macro_rules | `(tactic| walk_at "eval Name") => `(tactic| (k_here; k_inBlock; (with_reducible rename Fr _ _ _ _ => kF); k_dflt (refine' nameG_B kF ?k1 ?k2 ?k3 ?kv ?kn ?_ ?k4 ?k8 ?k5 ?k6 ?k7; (case k4 => rfl); (case k8 => rfl); (case k5 => rfl); (case k6 => rfl); (case k7 => decide); (case k1 => k_asm); (case k2 => k_asm); (case k3 => k_is); (case kv => boot_by_name); (case kn => decide); k_whole)))
theorem allLt_mem {d : Addr} {l : List (Addr × Obj)} (h : AllLt d l) : ∀ p ∈ l, @LT.lt Nat _ p.1 d := by
  induction l with
  | nil => intro p hp; cases hp
  | cons q l ih =>
    intro p hp
    cases hp with
    | head => exact h.1
    | tail _ hp => exact ih h.2 p hp
theorem newsDrop2 {h₀ h : Heap} {L : Addr} {a b c : Addr × Obj} {l : List (Addr × Obj)} (N : News h₀ L h (a :: b :: c :: l)) : News h₀ L h (a :: b :: l) := fun p hp => N p (by
  rcases List.mem_cons.mp hp with rfl | hp
  · exact .head _
  rcases List.mem_cons.mp hp with rfl | hp
  · exact .tail _ (.head _)
  · exact .tail _ (.tail _ (.tail _ hp)))
theorem ints_mem : ∀ {vs : List Value} {ns : List Int} {v : Value}, IntsAre vs ns → v ∈ vs → ∃ i t, v = .int i t
  | _, _, v, .cons n t h, hv => by
    rcases List.mem_cons.mp hv with rfl | hv
    · exact ⟨n, t, rfl⟩
    · exact ints_mem h hv
theorem ints_paired : ∀ {vs ys : List Value}, Paired (fun _ y => ∃ i t, y = Value.int i t) vs ys → ∃ ms, IntsAre ys ms
  | _, _, .nil => ⟨[], .nil⟩
  | _, _, .cons ⟨i, t, e⟩ h => by
    obtain ⟨ms, hm⟩ := ints_paired h
    subst e
    exact ⟨i :: ms, .cons i t hm⟩
theorem paired_length {F : Value → Value → Prop} : ∀ {vs ys : List Value}, Paired F vs ys → vs.length = ys.length
  | _, _, .nil => rfl
  | _, _, .cons _ h => by rw [List.length_cons, List.length_cons, paired_length h]
section
variable {prog : Program} {w : World} {A : Around} {E : Value → Shared → Prop} {s₁ : Shared} {h₀ : Heap} {L : Addr} {m : Str → Option Value} {news : List (Addr × Obj)}
theorem src_map {env : Env} {elt : Expr} {x : Str} {scope : Scope} {Q : Value → Shared → Prop} {l : Addr} {vs : List Value} (G : Value → Value → Prop)
    (hh : A.handled = none) (hl : s₁.heap.IsList l vs.toArray) (F : Fr h₀ L s₁.heap m) (N : News h₀ L s₁.heap news) (hsz : vs.length ≤ sizeLine)
    (helt : ∀ C v s₂ m₂ E', v ∈ vs → s₂.heap.Ns (compEnv scope C env).locals m₂ → m₂ x = some v → (∀ b o, s₁.heap.get? b = some o → s₂.heap.get? b = some o) → wpAny (model prog w) A (eval elt (compEnv scope C env)) (fun y s₄ => G v y ∧ Keeps s₂ s₄) E' s₂)
    (hfin : ∀ D ys n h' tk, Fr h₀ L h' m → News h₀ L h' ((D, listOf ys n) :: news) → Paired G vs ys.toList → Q (.ref D) { s₁ with heap := h', toks := tk }) :
    wpAny (model prog w) A (pyIter (.ref l)) (CompPost prog w A env scope x [] elt Q) E s₁ := by
  have hlt : l < s₁.heap.objs.size := by obtain ⟨_, e, _⟩ := hl; exact Heap.lt_size e
  refine wpAny_pyIter_list hl ?_
  have up : ∀ (h' : Heap), (∀ b o', b ∉ [s₁.heap.objs.size] → (s₁.heap.push { cls := .type "list_iterator", data := .fields #[.ref l, .int 0 0] }).get? b = some o' → h'.get? b = some o') → ∀ b o', s₁.heap.get? b = some o' → h'.get? b = some o' :=
    fun h' hk b o' e => hk b o' (not_iter_of_old e) (Heap.get?_push_of_some _ e)
  refine ⟨fun _ => true, G, s₁.heap.objs.size, [s₁.heap.objs.size, l], [s₁.heap.objs.size], vs.toArray.size, _, _, rfl, Walks.list hh _ l (Nat.ne_of_lt hlt) vs.toArray, (by rw [List.size_toArray]; exact hsz),
    ⟨⟨_, Heap.get?_push_size _ rfl, rfl, rfl⟩, hl.at fun o e => Heap.get?_push_of_some _ e⟩, ?_, ⟨?_, ?_⟩, ?_⟩
  · intro b hb
    show b < (s₁.heap.push _).objs.size
    rw [Heap.size_push]
    rcases List.mem_cons.mp hb with rfl | hb
    · exact Nat.lt_succ_self _
    · rw [List.mem_singleton.mp hb]; exact Nat.lt_succ_of_lt hlt
  · intro C i v s₃ m₃ E' hP hn hm _ htk
    exact wpAny_pure ⟨rfl, s₃.heap, s₃.toks, rfl, fun _ _ e => e⟩
  · intro C i v s₃ m₃ E' hP hp hn hm hk htk
    exact helt C v s₃ m₃ E' (List.mem_of_getElem? (by simpa using hP)) hn hm (up _ hk)
  · intro D h' tk ys vs' hnew hlD hplD hlen hP hF hk
    have e' : vs' = vs := by simpa using walked_is hlen hP
    subst e'
    obtain ⟨n, hD⟩ := hplD
    have hF' : Paired G vs' ys.toList := by
      have : vs'.filter (fun _ => true) = vs' := List.filter_eq_self.mpr fun _ _ => rfl
      rwa [this] at hF
    refine hfin D ys n h' tk (F.keeps (up h' hk)) (fun p hp => ?_) hF'
    have F' := F.push { cls := .type "list_iterator", data := .fields #[.ref l, .int 0 0] }
    rcases List.mem_cons.mp hp with rfl | hp
    · refine ⟨hD, fun e => ?_, ?_⟩
      · obtain ⟨o, _, _, ho, _⟩ := F'.ns
        subst e
        rw [ho] at hnew; cases hnew
      · cases e : h₀.get? D with
        | none => rfl
        | some o' => rw [F'.keep _ _ e] at hnew; cases hnew
    · exact ⟨up h' hk _ _ (N p hp).1, (N p hp).2⟩
end
local macro_rules | `(tactic| walk_at "pyIter ref") => `(tactic| (k_here; (with_reducible show wpAny _ _ (pyIter (Value.ref _)) (CompPost _ _ _ _ _ _ _ _ _) _ _); refine stop_out ?_))
set_option maxHeartbeats 8000000 in
theorem ct_draw {w : World} {p : Program} {loose : List Str} {mean : ExcName → Option Value} {mg mb : Str → Option Value}
    {dp un : Nat} {gd : Option (List Code)} {cn : Str} {cs : Scope} {a : Addr} {ccd : Value} {cl : List (Str × Addr)} {outer : List Env} {A₀ : Around} {base h₀ : Heap} {L : Addr} {m : Str → Option Value} {news : List (Addr × Obj)} {s : Shared} {Q E : Value → Shared → Prop} {sc : Addr} {vs : List Value} {ns : List Int}
    (B : Below A₀ base outer h₀) (F : Fr h₀ L s.heap m) (X : (hd.heap_39 w.params).In h₀) (N : News h₀ L s.heap news) (T : Top p loose mean mg mb h₀) (hk : cs.kind = .function) (hdp : dp + 3 < recursionLimit) (hun : un + 40 < cLine) (hL : h₀.IsList sc vs.toArray) (hI : IntsAre vs ns) (hlen : ns.length ≤ 63)
    (hret : ∀ d q seed t n1 n2 cells ms h' tk', Fr h₀ L h' m → News h₀ L h' ((d, listOf #[.ref q, .int seed t] n1) :: (q, listOf cells n2) :: news) → IntsAre cells.toList ms → cells.size ≤ 63 → (∀ p ∈ news, p.1 < q) → q < d → Q (.ref d) { s with heap := h', toks := tk' }) :
    wpAny (model PySem.Challenge.rw_ax6034_01.row.prog w) (ktrTop dp un gd cn cs L a ccd cl outer) (call (.ref 403) [.ref sc]) Q E s := by
  revert X
  k_fill
  intro X
  refine wpAny_call ?_
  k_dflt (refine' code_def (binds := [(Str.ofString "script", .ref sc)]) ?k1 ?k2 ?k3 ?k4 ?k5 ?kA ?kF ?kK ?k6 ?k7 ?k8 ?k9 ?kB ?_ ?c2 ?c3 ?c4 ?c5; (case kA => exact rfl); (case kF => exact rfl); (case kK => assumption); (case k1 => k_asm); (case k2 => k_asm); (case k3 => k_asm); (case k4 => k_asm); (case k5 => k_asm); (case k6 => k_is); (case k7 => k_is); (case k8 => ktr_room); (case k9 => exact BindsTo.of_eq rfl); (case c5 => decide); (case kB => exact locs rfl); (case c2 => exact rfl); (case c3 => exact rfl); (case c4 => exact rfl); k_whole; intro g' L' h' FG' F' N' B' X' T'; (try dsimp only); (try k_fold))
  k_steps
  rename Fr _ _ _ _ => F1
  with_unfolding_all refine' For_invVF F1 ?k1 ?k2 ?_
  case k1 => exact rfl
  case k2 => exact rfl
  k_steps
  have hLg : g'.IsList sc vs.toArray := Heap.IsList.at hL fun o e => FG'.keep _ _ e
  clear hL
  rename Fr _ _ _ _ => F2
  rename News _ _ _ _ => N2
  with_unfolding_all refine' kst_list (σ := Int × Tok) (fun _ => news) (fun c => [(Str.ofString "seed", .int c.1 c.2)]) (fun _ => True) [] (fun _ _ => True) (29, _) (by rfl) hLg hI F2 N2 trivial ?kk trivial ?kt ?kd
  case kk => refine mem1 ?_; rfl
  case kt =>
    rintro ⟨sd, t1⟩ pre post n t uu h9 tk9 own - - hoff - - F9 N9
    dsimp only [kstB] at *
    k_steps
    unfold Stopped
    refine wpAny_pure ?_
    exact kst_end (_, _) ‹_› ‹_› (fun _ h => List.mem_append.mpr (.inl h)) (fun _ h => List.mem_append.mpr (.inr h)) rfl trivial (by refine mem1 ?_; rfl) (by kst_same) trivial
  case kd =>
    rintro ⟨sd, t1⟩ uu h9 tk9 - - F9 N9
    dsimp only [kstB] at *
    k_steps
    unfold Stopped
    rename Fr _ _ _ _ => F3
    rename News _ _ _ _ => N3
    refine src_map (fun v y => ∃ i t, y = .int i t) (by rfl) (Heap.IsList.at hLg fun o e => F3.keep _ _ e) F3 N3 ?hs ?he ?hf
    case hs => rw [← hI.length] at hlen; rw [PySem.sizeLine_eq]; omega
    case he =>
      intro C v s₂ m₂ E' hv hns hm hk
      have F4 := F3.keeps hk
      clear F3 N3 hLg
      obtain ⟨iv, tv, rfl⟩ := ints_mem hI hv
      k_steps
      exact ⟨_, _, rfl, fun _ _ e => e⟩
    case hf =>
      rintro D ⟨zs⟩ n h' tk F5 N5 hp
      obtain ⟨ms, hms⟩ := ints_paired hp
      have hz : zs.length ≤ 63 := by rw [← paired_length hp, hI.length]; exact hlen
      clear F3 N3 hLg hI hp
      k_steps
      rename Fr _ _ _ _ => F9
      rename News _ _ _ _ => N9
      rename _ ∧ _ ∧ _ => l2
      rename D < _ ∧ _ => l3
      rename IntsAre _ (List.take 40 ms) => hi9
      exact hret _ _ _ _ _ _ _ _ _ _ F9 (newsDrop2 N9) hi9 (by rw [List.size_toArray, hi9.length, List.length_take]; exact Nat.le_trans (Nat.min_le_left _ _) (by decide)) (allLt_mem l3.2) l2.1
end Mine
namespace Mine
set_option maxRecDepth 100000
set_option linter.unusedVariables false
set_option linter.unusedSimpArgs false
theorem newsDrop1 {h₀ h : Heap} {L : Addr} {a : Addr × Obj} {l : List (Addr × Obj)} (N : News h₀ L h (a :: l)) : News h₀ L h l := fun p hp => N p (.tail _ hp)
theorem cmp_rcne {prog : Program} {w : World} {A : Around} {E : Value → Shared → Prop} {s : Shared} {Q : Value → Shared → Prop} {a b : Value} {k : Bool} (h : SeqAt.RcNeAt A s a b k) (hq : Q (.bool k) s) : wpAny (model prog w) A (compareOp .NotEq a b) Q E s := h prog w E Q hq
theorem isList_of {h₀ h : Heap} {L a : Addr} {its : Array Value} {n : Nat} {news : List (Addr × Obj)} (N : News h₀ L h news) (hm : (a, listOf its n) ∈ news) : h.IsList a its := ⟨_, (N _ hm).1, rfl, n, rfl⟩
set_option maxHeartbeats 8000000 in
theorem ct_take {w : World} {p : Program} {loose : List Str} {mean : ExcName → Option Value} {mg mb : Str → Option Value}
    {dp un : Nat} {gd : Option (List Code)} {cn : Str} {cs : Scope} {a : Addr} {ccd : Value} {cl : List (Str × Addr)} {outer : List Env} {A₀ : Around} {base h₀ : Heap} {L : Addr} {m : Str → Option Value} {news : List (Addr × Obj)} {s : Shared} {Q E : Value → Shared → Prop} {d q : Addr} {seed many : Int} {ts tm : Tok} {n1 n2 : Nat} {cells : List Value} {ms : List Int}
    (B : Below A₀ base outer h₀) (F : Fr h₀ L s.heap m) (X : (hd.heap_39 w.params).In h₀) (N : News h₀ L s.heap ((d, listOf #[.ref q, .int seed ts] n1) :: (q, listOf cells.toArray n2) :: news)) (T : Top p loose mean mg mb h₀) (hk : cs.kind = .function)
    (hdp : dp + 3 < recursionLimit) (hun : un + 40 < cLine) (hI : IntsAre cells ms) (hc : cells.length ≤ 63) (hqd : q < d) (hnd : ∀ p ∈ news, p.1 ≠ d) (hnq : ∀ p ∈ news, p.1 ≠ q) (hm0 : 0 < many) (hm1 : many ≤ 100)
    (hret : ∀ r t seed' ts' n1' n2' cells' ms' h' tk', 0 ≤ r → r < many → Fr h₀ L h' m → News h₀ L h' ((d, listOf #[.ref q, .int seed' ts'] n1') :: (q, listOf (List.toArray cells') n2') :: news) → IntsAre cells' ms' → cells'.length ≤ 63 → Q (.int r t) { s with heap := h', toks := tk' }) :
    wpAny (model PySem.Challenge.rw_ax6034_01.row.prog w) (ktrTop dp un gd cn cs L a ccd cl outer) (call (.ref 410) [.ref d, .int many tm]) Q E s := by
  revert X
  k_fill
  intro X
  refine wpAny_call ?_
  k_dflt (refine' code_def (binds := [(Str.ofString "draw", .ref d), (Str.ofString "many", .int many tm)]) ?k1 ?k2 ?k3 ?k4 ?k5 ?kA ?kF ?kK ?k6 ?k7 ?k8 ?k9 ?kB ?_ ?c2 ?c3 ?c4 ?c5; (case kA => exact rfl); (case kF => exact rfl); (case kK => assumption); (case k1 => k_asm); (case k2 => k_asm); (case k3 => k_asm); (case k4 => k_asm); (case k5 => k_asm); (case k6 => k_is); (case k7 => k_is); (case k8 => ktr_room); (case k9 => exact BindsTo.of_eq rfl); (case c5 => decide); (case kB => exact locs rfl); (case c2 => exact rfl); (case c3 => exact rfl); (case c4 => exact rfl); k_whole; intro g' L' h' FG' F' N' B' X' T'; (try dsimp only); (try k_fold))
  cases hI with
  | nil =>
    k_steps
    rename News _ _ _ _ => N9
    rename _ ∧ _ ∧ _ => l1
    refine cmp_rcne (SeqAt.RcNeAt.lists (e := fun _ => true) (isList_of N9 (.tail _ (.tail _ (.head _)))) (isList_of N9 (.head _)) rfl ?hu (fun j h1 _ => absurd h1 (Nat.not_lt_zero j))) ?_
    case hu => ktr_units
    k_steps
    rename Fr _ _ _ _ => F9
    refine ki_set F9 N9 (by decide) (by decide) (q := [.ref q, _]) rfl (Upd.tail (Nat.ne_of_gt l1.1) (Upd.head (List.forall_mem_cons.mpr ⟨Nat.ne_of_lt hqd, hnd⟩))) ?_
    intro h9 F10 N10
    clear F9 N9
    k_steps
    rename Fr _ _ _ _ => F9
    rename News _ _ _ _ => N9
    exact hret _ _ _ _ _ _ [] [] _ _ (Int.fmod_nonneg_of_pos _ hm0) (Int.fmod_lt_of_pos _ hm0) F9 (newsDrop1 N9) .nil (by decide)
  | cons n t hI =>
    k_steps
    rename News _ _ _ _ => N9
    rename _ ∧ _ ∧ _ => l1
    refine cmp_rcne (SeqAt.RcNeAt.lists_lengths (isList_of N9 (.tail _ (.tail _ (.head _)))) (isList_of N9 (.head _)) (by simp) ?hu) ?_
    case hu => ktr_units
    k_steps
    rename Fr _ _ _ _ => F9
    refine kl_popAt (p := []) (k := 0) F9 N9 rfl ?hk rfl (Upd.tail (Nat.ne_of_gt l1.2.1) (Upd.tail (Nat.ne_of_gt hqd) (Upd.head hnq))) ?hz ?_
    case hk => rw [List.size_toArray]; unfold seqIndex?; simp
    case hz => rw [PySem.sizeLine_eq]; exact Nat.le_trans hc (by decide)
    intro h9 F10 N10
    clear F9 N9
    k_steps
    rename Fr _ _ _ _ => F9
    rename News _ _ _ _ => N9
    exact hret _ _ _ _ _ _ _ _ _ _ (Int.fmod_nonneg_of_pos _ hm0) (Int.fmod_lt_of_pos _ hm0) F9 (newsDrop1 N9) hI (by rw [List.length_cons] at hc; exact Nat.le_of_succ_le hc)
end Mine
namespace Mine
set_option maxRecDepth 100000
set_option linter.unusedVariables false
set_option linter.unusedSimpArgs false
theorem newsDrop4 {h₀ h : Heap} {L : Addr} {a b c d e f : Addr × Obj} {l : List (Addr × Obj)} (N : News h₀ L h (a :: b :: c :: d :: e :: f :: l)) : News h₀ L h (a :: b :: l) := fun p hp => N p (by
  rcases List.mem_cons.mp hp with rfl | hp
  · exact .head _
  rcases List.mem_cons.mp hp with rfl | hp
  · exact .tail _ (.head _)
  · exact .tail _ (.tail _ (.tail _ (.tail _ (.tail _ (.tail _ hp))))))
def runT (kind many : Int) : Str :=
  if kind = 0 then Txt.slice (Txt.mul (Str.ofString "🇦🇧") many) none (some many)
  else if kind = 1 then Str.ofString "e" ++ Txt.mul (Str.ofString "\u0301") (many - 1)
  else if kind = 2 then Str.ofString "\u4e2d" ++ Txt.slice (Txt.mul (Str.ofString "\u0301\ufe0f") many) none (some (many - 1))
  else if kind = 3 then Txt.mul (Str.ofString "\u1100") (many.fdiv 3) ++ Txt.mul (Str.ofString "\u1160") (many.fdiv 3) ++ Txt.mul (Str.ofString "\u11a8") (many - 2 * many.fdiv 3)
  else if kind = 4 then Str.ofString "\u2764" ++ Txt.mul (Str.ofString "\u200d🏴") (many.fdiv 2)
  else if kind = 5 then Str.ofString "\u0915" ++ Txt.mul (Str.ofString "\u094d\u0915") (many.fdiv 2)
  else Txt.mul (Str.ofString "\u0600") (many - 1) ++ Str.ofString "a"
def runL (kind many : Int) : List Int :=
  if kind = 0 then (List.replicate (many.fdiv 2).toNat [2]).flatten ++ (List.replicate (many.fmod 2).toNat [1]).flatten
  else if kind = 4 then [1 + many.fdiv 2 * 2] else if kind = 5 then [1 + many.fdiv 2 * 2] else [many]
set_option maxHeartbeats 8000000 in
theorem ct_run {w : World} {p : Program} {loose : List Str} {mean : ExcName → Option Value} {mg mb : Str → Option Value}
    {dp un : Nat} {gd : Option (List Code)} {cn : Str} {cs : Scope} {a : Addr} {ccd : Value} {cl : List (Str × Addr)} {outer : List Env} {A₀ : Around} {base h₀ : Heap} {L : Addr} {m : Str → Option Value} {news : List (Addr × Obj)} {s : Shared} {Q E : Value → Shared → Prop} {kind many : Int} {tk tm : Tok}
    (B : Below A₀ base outer h₀) (F : Fr h₀ L s.heap m) (X : (hd.heap_39 w.params).In h₀) (N : News h₀ L s.heap news) (T : Top p loose mean mg mb h₀) (hk : cs.kind = .function) (hdp : dp + 3 < recursionLimit) (hun : un + 40 < cLine) (hk0 : 0 ≤ kind) (hk1 : kind < 7) (hm0 : 17 ≤ many) (hm1 : many < 23)
    (hret : ∀ D l vs n t h' tk', Fr h₀ L h' m → News h₀ L h' ((D, { cls := .type "tuple", data := .seq #[.str (runT kind many) t, .ref l] }) :: (l, listOf (List.toArray vs) n) :: news) → IntsAre vs (runL kind many) → (∀ p ∈ news, p.1 < l) → l < D → Q (.ref D) { s with heap := h', toks := tk' }) :
    wpAny (model PySem.Challenge.rw_ax6034_01.row.prog w) (ktrTop dp un gd cn cs L a ccd cl outer) (call (.ref 417) [.int kind tk, .int many tm]) Q E s := by
  revert X
  k_fill
  intro X
  refine wpAny_call ?_
  k_dflt (refine' code_def (binds := [(Str.ofString "kind", .int kind tk), (Str.ofString "many", .int many tm)]) ?k1 ?k2 ?k3 ?k4 ?k5 ?kA ?kF ?kK ?k6 ?k7 ?k8 ?k9 ?kB ?_ ?c2 ?c3 ?c4 ?c5; (case kA => exact rfl); (case kF => exact rfl); (case kK => assumption); (case k1 => k_asm); (case k2 => k_asm); (case k3 => k_asm); (case k4 => k_asm); (case k5 => k_asm); (case k6 => k_is); (case k7 => k_is); (case k8 => ktr_room); (case k9 => exact BindsTo.of_eq rfl); (case c5 => decide); (case kB => exact locs rfl); (case c2 => exact rfl); (case c3 => exact rfl); (case c4 => exact rfl); k_whole; intro g' L' h' FG' F' N' B' X' T'; (try dsimp only); (try k_fold))
  have hd3 : 0 ≤ many.fdiv 3 ∧ many.fdiv 3 ≤ 7 := by rw [Int.fdiv_eq_ediv_of_nonneg _ (by decide)]; omega
  have hd2 : 0 ≤ many.fdiv 2 ∧ many.fdiv 2 ≤ 11 := by rw [Int.fdiv_eq_ediv_of_nonneg _ (by decide)]; omega
  have fin : ∀ (x : Str) (ns : List Int) D l vs n t h' tk', runT kind many = x → runL kind many = ns → Fr h₀ L h' m → News h₀ L h' ((D, { cls := .type "tuple", data := .seq #[.str x t, .ref l] }) :: (l, listOf (List.toArray vs) n) :: news) → IntsAre vs ns → (∀ p ∈ news, p.1 < l) → l < D → Q (.ref D) { s with heap := h', toks := tk' } := by
    rintro _ _ D l vs n t h' tk' rfl rfl
    exact hret D l vs n t h' tk'
  clear hret
  k_steps
  · rename Fr _ _ _ _ => F9
    rename News _ _ _ _ => N9
    subst kind
    rename _ ∧ _ ∧ _ ∧ _ ∧ _ ∧ _ => l6
    rename _ < _ ∧ _ < _ ∧ _ < _ ∧ _ < _ ∧ AllLt _ news => l5
    exact fin _ _ _ _ _ _ _ _ _ rfl rfl F9 (newsDrop4 N9) ‹_› (allLt_mem l5.2.2.2.2) l6.1
  · rename Fr _ _ _ _ => F9
    rename News _ _ _ _ => N9
    subst kind
    rename _ ∧ AllLt _ news => l1
    exact fin _ _ _ _ [_] _ _ _ _ rfl rfl F9 (newsDrop0 N9) (.cons _ _ .nil) ‹_› l1.1
  · rename Fr _ _ _ _ => F9
    rename News _ _ _ _ => N9
    subst kind
    rename _ ∧ AllLt _ news => l1
    exact fin _ _ _ _ [_] _ _ _ _ rfl rfl F9 (newsDrop0 N9) (.cons _ _ .nil) ‹_› l1.1
  · rename Fr _ _ _ _ => F9
    rename News _ _ _ _ => N9
    subst kind
    rename _ ∧ AllLt _ news => l1
    exact fin _ _ _ _ [_] _ _ _ _ rfl rfl F9 (newsDrop0 N9) (.cons _ _ .nil) ‹_› l1.1
  · rename Fr _ _ _ _ => F9
    rename News _ _ _ _ => N9
    subst kind
    rename _ ∧ AllLt _ news => l1
    exact fin _ _ _ _ [_] _ _ _ _ rfl rfl F9 (newsDrop0 N9) (.cons _ _ .nil) ‹_› l1.1
  · rename Fr _ _ _ _ => F9
    rename News _ _ _ _ => N9
    subst kind
    rename _ ∧ AllLt _ news => l1
    exact fin _ _ _ _ [_] _ _ _ _ rfl rfl F9 (newsDrop0 N9) (.cons _ _ .nil) ‹_› l1.1
  · have hk6 : kind = 6 := by omega
    rename Fr _ _ _ _ => F9
    rename News _ _ _ _ => N9
    subst hk6
    rename _ ∧ AllLt _ news => l1
    exact fin _ _ _ _ [_] _ _ _ _ rfl rfl F9 (newsDrop0 N9) (.cons _ _ .nil) ‹_› l1.1
end Mine
namespace Mine
set_option maxRecDepth 100000
set_option linter.unusedVariables false
set_option linter.unusedSimpArgs false
local macro_rules | `(tactic| walk_at "InvEndN") => `(tactic| (refine stop_out ?_))
local macro_rules | `(tactic| walk_at "pyIter ref") => `(tactic| (k_here; refine stop_out ?_))
def startL : List Int → Int → Int → Int
  | [], _, at' => at'
  | m :: r, place, at' => if place ≤ at' + m then at' else startL r place (at' + m)
theorem startL_app {place : Int} : ∀ {pre post : List Int} {n a : Int}, startL (n :: post) place a = if place ≤ a + n then a else startL post place (a + n) := fun {_ _ _ _} => rfl
set_option maxHeartbeats 8000000 in
theorem ct_start {w : World} {p : Program} {loose : List Str} {mean : ExcName → Option Value} {mg mb : Str → Option Value}
    {dp un : Nat} {gd : Option (List Code)} {cn : Str} {cs : Scope} {a : Addr} {ccd : Value} {cl : List (Str × Addr)} {outer : List Env} {A₀ : Around} {base h₀ : Heap} {L : Addr} {m : Str → Option Value} {news : List (Addr × Obj)} {s : Shared} {Q E : Value → Shared → Prop} {l : Addr} {vs : List Value} {ns : List Int} {nn : Nat} {place : Int} {tp : Tok}
    (B : Below A₀ base outer h₀) (F : Fr h₀ L s.heap m) (X : (hd.heap_39 w.params).In h₀) (N : News h₀ L s.heap news) (T : Top p loose mean mg mb h₀) (hk : cs.kind = .function) (hdp : dp + 3 < recursionLimit) (hun : un + 40 < cLine) (hl : (l, listOf vs.toArray nn) ∈ news) (hI : IntsAre vs ns)
    (hret : ∀ t h' tk', Fr h₀ L h' m → News h₀ L h' news → Q (.int (startL ns place 0) t) { s with heap := h', toks := tk' }) :
    wpAny (model PySem.Challenge.rw_ax6034_01.row.prog w) (ktrTop dp un gd cn cs L a ccd cl outer) (call (.ref 424) [.ref l, .int place tp]) Q E s := by
  revert X
  k_fill
  intro X
  refine wpAny_call ?_
  k_dflt (refine' code_def (binds := [(Str.ofString "lengths", .ref l), (Str.ofString "place", .int place tp)]) ?k1 ?k2 ?k3 ?k4 ?k5 ?kA ?kF ?kK ?k6 ?k7 ?k8 ?k9 ?kB ?_ ?c2 ?c3 ?c4 ?c5; (case kA => exact rfl); (case kF => exact rfl); (case kK => assumption); (case k1 => k_asm); (case k2 => k_asm); (case k3 => k_asm); (case k4 => k_asm); (case k5 => k_asm); (case k6 => k_is); (case k7 => k_is); (case k8 => ktr_room); (case k9 => exact BindsTo.of_eq rfl); (case c5 => decide); (case kB => exact locs rfl); (case c2 => exact rfl); (case c3 => exact rfl); (case c4 => exact rfl); k_whole; intro g' L' h' FG' F' N' B' X' T'; (try dsimp only); (try k_fold))
  k_steps
  rename Fr _ _ _ _ => F1
  with_unfolding_all refine' For_invVF F1 ?k1 ?k2 ?_
  case k1 => exact rfl
  case k2 => exact rfl
  k_steps
  unfold Stopped
  rename Fr _ _ _ _ => F2
  rename News _ _ _ _ => N2
  with_unfolding_all refine' kst_listL (σ := Int × Tok) (l := l) (vs := vs) (nn := nn) (fun _ => news) (fun c => [(Str.ofString "at", .int c.1 c.2)]) (fun _ => True) [] (fun pre c => ∀ post, ns = pre ++ post → startL ns place 0 = startL post place c.1) (0, _) (by rfl) (fun _ => hl) hI F2 N2 trivial ?kk (fun post h => by rw [h]; rfl) ?kt ?kd
  case kk => refine mem1 ?_; rfl
  case kt =>
    rintro ⟨at0, t1⟩ pre post n t uu h9 tk9 own hns - hoff - hP F9 N9
    dsimp only [kstB] at *
    have hS := hP (n :: post) hns
    k_steps
    · rename Fr _ _ _ _ => F8
      rename News _ _ _ _ => N8
      exact ret_int hret F8 (fun p hp => N8 p (List.mem_append.mpr (.inl hp))) (hS.trans (if_pos ‹_›))
    · unfold Stopped
      exact kst_end (at0 + n, _) ‹_› ‹_› (fun _ h => List.mem_append.mpr (.inl h)) (fun _ h => List.mem_append.mpr (.inr h)) rfl trivial (by refine mem1 ?_; rfl) (by kst_same) (fun post' h => by
        have e : n :: post = n :: post' := List.append_cancel_left (as := pre) (by rw [← hns, h, List.append_assoc]; rfl)
        cases e
        exact hS.trans (if_neg ‹_›))
  case kd =>
    rintro ⟨at0, t1⟩ uu h9 tk9 - hP F9 N9
    dsimp only [kstB] at *
    have hS := hP [] (by simp)
    k_steps
    rename Fr _ _ _ _ => F9
    rename News _ _ _ _ => N9
    exact ret_int hret F9 N9 hS
end Mine
namespace Mine
set_option maxRecDepth 100000
set_option linter.unusedVariables false
set_option linter.unusedSimpArgs false
section
variable {M : Model} {A : Around} {E : Value → Shared → Prop} {s : Shared} {env : Env}
theorem execs_cons_w (st : Stmt) (rest : List Stmt) {K : Flow → Sem Flow} {H : Value → Sem Flow} {gd : Bool → Bool} {lv : List Value → List Value} : (execs (st :: rest) env).wrap K H gd lv =
    (exec st env).wrap (fun f => match f with | .next => (execs rest env).wrap K H gd lv | f => K f) H gd lv := by
  rw [execs_cons, Sem.bind_eq_wrap', Sem.wrap_wrap]
  exact Sem.wrap_congr _ _ _ (fun f => by cases f <;> rfl) (fun _ => rfl)
theorem execs_append_w (rest : List Stmt) {K : Flow → Sem Flow} {H : Value → Sem Flow} {gd : Bool → Bool} {lv : List Value → List Value} : ∀ (pre : List Stmt), (execs (pre ++ rest) env).wrap K H gd lv =
    (execs pre env).wrap (fun f => match f with | .next => (execs rest env).wrap K H gd lv | f => K f) H gd lv
  | [] => rfl
  | st :: pre => by
    rw [List.cons_append, execs_cons_w, execs_cons_w]
    refine Sem.wrap_congr _ _ _ (fun f => ?_) (fun _ => rfl)
    cases f <;> first | exact execs_append_w rest pre | rfl
theorem execs_split (rest : List Stmt) (pre : List Stmt) {Q : Flow → Shared → Prop}
    (h : wpAny M A (execs pre env) (fun f s' => match f with | .next => wpAny M A (execs rest env) Q E s' | f => Q f s') E s) : wpAny M A (execs (pre ++ rest) env) Q E s := by
  have h' : wpAny M A (execs (pre ++ rest) env >>= fun f => (pure f : Sem Flow)) Q E s := by
    rw [Sem.bind_eq_wrap', execs_append_w, ← Sem.bind_eq_wrap']
    refine wpAny_bind (wpAny_mono h (fun f s' hf => ?_) fun _ _ h => h)
    cases f with
    | next => 
      show wpAny M A ((execs rest env).wrap pure .raise id id) Q E s'
      rw [← Sem.bind_eq_wrap']
      exact wpAny_bind (wpAny_mono hf (fun f s'' hq => wpAny_pure hq) fun _ _ h => h)
    | ret v => exact wpAny_pure hf
    | brk => exact wpAny_pure hf
    | cont => exact wpAny_pure hf
  intro Γ p hΓ
  have := h' Γ p hΓ
  simpa only [Sem.wp_bind', Sem.wp_pure'] using this
theorem execs_first (k : Nat) {body : List Stmt} {Q : Flow → Shared → Prop}
    (h : wpAny M A (execs (body.take k) env) (fun f s' => match f with | .next => wpAny M A (execs (body.drop k) env) Q E s' | f => Q f s') E s) : wpAny M A (execs body env) Q E s := by
  have e := execs_split (M := M) (A := A) (E := E) (env := env) (body.drop k) (body.take k) h
  rwa [List.take_append_drop] at e
end
theorem execs_cut {M : Model} {A : Around} {E : Value → Shared → Prop} {s : Shared} {env : Env} {h₀ : Heap} {L : Addr} {m : Str → Option Value} (k : Nat) (P : Heap → Addr → Shared → Shared → Prop) {body : List Stmt} {Q : Flow → Shared → Prop} (_F : Fr h₀ L s.heap m)
    (hA : wpAny M A (execs (body.take k) env) (fun f s' => f = .next ∧ P h₀ L s s') E s) (hr : ∀ s', P h₀ L s s' → wpAny M A (execs (body.drop k) env) Q E s') : wpAny M A (execs body env) Q E s :=
  execs_first k (wpAny_mono hA (fun f s' h => by obtain ⟨rfl, h⟩ := h; exact hr s' h) fun _ _ h => h)
theorem fr_said {h₀ h : Heap} {L : Addr} {m : Str → Option Value} {ps : List (Str × Value)} (F : Fr h₀ L h m) (h1 : ∀ p ∈ ps, m p.1 = some p.2) : Fr h₀ L h (kstB m ps) := by
  have e : kstB m ps = m := by
    funext y
    exact kstB_eq h1 fun _ => rfl
  rw [e]
  exact F
theorem mem2' {α : Type} {P : α → Prop} {a b : α} (h1 : P a) (h2 : P b) : ∀ p ∈ [a, b], P p := by
  intro p hp
  rcases List.mem_cons.mp hp with rfl | hp
  · exact h1
  rcases List.mem_cons.mp hp with rfl | hp
  · exact h2
  nomatch hp
theorem memc {α : Type} {P : α → Prop} {a : α} {l : List α} (h1 : P a) (h2 : ∀ p ∈ l, P p) : ∀ p ∈ a :: l, P p := by
  intro p hp
  rcases List.mem_cons.mp hp with rfl | hp
  · exact h1
  · exact h2 p hp
/-- after `head = ..`: where it stands -/
def headA (i : Int) : Addr := if i = 0 then 385 else if i = 1 then 387 else if i = 2 then 389 else if i = 3 then 391 else if i = 4 then 393 else if i = 5 then 395 else 397
def PostA (h₀ : Heap) (L : Addr) (s s' : Shared) : Prop :=
  ∃ (kind hi : Int) (d q : Addr) (seed : Int) (tk1 ts : Tok) (n1 n2 : Nat) (cells : List Value) (ms : List Int) (h : Heap) (tk : Nat) (m : Str → Option Value), s' = { s with heap := h, toks := tk } ∧ 0 ≤ kind ∧ kind < 7 ∧ 0 ≤ hi ∧ hi < 7 ∧ IntsAre cells ms ∧ cells.length ≤ 63 ∧ q < d ∧
    Fr h₀ L h m ∧ News h₀ L h [(d, listOf #[.ref q, .int seed ts] n1), (q, listOf (List.toArray cells) n2)] ∧
    (∀ p ∈ ([(Str.ofString "draw", .ref d), (Str.ofString "kind", .int kind tk1), (Str.ofString "head", .ref (headA hi))] : List (Str × Value)), m p.1 = some p.2)
def tailT (i : Int) : Str := if i = 0 then Str.ofString "z" else Str.ofString "\u4e2d"
abbrev runObj (x : Str) (t : Tok) (l : Addr) : Obj := { cls := .type "tuple", data := .seq #[.str x t, .ref l] }
def PostB (h₀ : Heap) (L : Addr) (s s' : Shared) : Prop :=
  ∃ (kind hi mm tl : Int) (d q D l : Addr) (seed : Int) (tt ts tr : Tok) (n1 n2 n3 : Nat) (cells : List Value) (ms : List Int) (vs : List Value) (h : Heap) (tk : Nat) (m : Str → Option Value), s' = { s with heap := h, toks := tk } ∧ 0 ≤ kind ∧ kind < 7 ∧ 0 ≤ hi ∧ hi < 7 ∧ 0 ≤ mm ∧ mm < 6 ∧ 0 ≤ tl ∧ tl < 2 ∧
    IntsAre cells ms ∧ cells.length ≤ 63 ∧ IntsAre vs (runL kind (17 + mm)) ∧ @LT.lt Nat _ q d ∧ @LT.lt Nat _ d l ∧ @LT.lt Nat _ l D ∧
    Fr h₀ L h m ∧ News h₀ L h [(d, listOf #[.ref q, .int seed ts] n1), (q, listOf (List.toArray cells) n2), (D, runObj (runT kind (17 + mm)) tr l), (l, listOf (List.toArray vs) n3)] ∧
    (∀ p ∈ ([(Str.ofString "draw", .ref d), (Str.ofString "head", .ref (headA hi)), (Str.ofString "run", .ref D), (Str.ofString "tail", .str (tailT tl) tt)] : List (Str × Value)), m p.1 = some p.2)
theorem nlt {a b : Nat} (h : a < b) : a < b := h
theorem cases7 {k : Int} (h0 : 0 ≤ k) (h1 : k < 7) : k = 0 ∨ k = 1 ∨ k = 2 ∨ k = 3 ∨ k = 4 ∨ k = 5 ∨ k = 6 := by omega
theorem cases6 {k : Int} (h0 : 0 ≤ k) (h1 : k < 6) : k = 0 ∨ k = 1 ∨ k = 2 ∨ k = 3 ∨ k = 4 ∨ k = 5 := by omega
theorem runT_len {k mm : Int} (k0 : 0 ≤ k) (k1 : k < 7) (m0 : 0 ≤ mm) (m1 : mm < 6) : 17 ≤ (runT k (17 + mm)).length ∧ (runT k (17 + mm)).length ≤ 23 := by
  rcases cases7 k0 k1 with rfl | rfl | rfl | rfl | rfl | rfl | rfl <;> rcases cases6 m0 m1 with rfl | rfl | rfl | rfl | rfl | rfl <;> decide +kernel
def headT (i : Int) : Str := if i = 0 then Str.ofString "" else if i = 1 then Str.ofString "x" else if i = 2 then Str.ofString "ab" else if i = 3 then Str.ofString "\n" else if i = 4 then Str.ofString "\r\n" else if i = 5 then Str.ofString "\u4e2d" else Str.ofString "\x01"
def headL (i : Int) : List Int := if i = 0 then [] else if i = 1 then [1] else if i = 2 then [1, 1] else if i = 3 then [1] else if i = 4 then [2] else [1]
def textF (kind hi mm tl : Int) : Str := headT hi ++ runT kind (17 + mm) ++ tailT tl
def lensF (kind hi mm : Int) : List Int := headL hi ++ runL kind (17 + mm) ++ [1]
def PostC (h₀ : Heap) (L : Addr) (s s' : Shared) : Prop :=
  ∃ (kind hi mm tl : Int) (d q D l e : Addr) (seed : Int) (ts tr tw tb : Tok) (n1 n2 n3 n4 : Nat) (cells : List Value) (ms : List Int) (vs us : List Value) (h : Heap) (tk : Nat) (m : Str → Option Value), s' = { s with heap := h, toks := tk } ∧ 0 ≤ kind ∧ kind < 7 ∧ 0 ≤ hi ∧ hi < 7 ∧ 0 ≤ mm ∧ mm < 6 ∧ 0 ≤ tl ∧ tl < 2 ∧
    IntsAre cells ms ∧ cells.length ≤ 63 ∧ IntsAre us (lensF kind hi mm) ∧ @LT.lt Nat _ q d ∧ @LT.lt Nat _ d l ∧ @LT.lt Nat _ l D ∧ @LT.lt Nat _ D e ∧
    Fr h₀ L h m ∧ News h₀ L h [(d, listOf #[.ref q, .int seed ts] n1), (q, listOf (List.toArray cells) n2), (D, runObj (runT kind (17 + mm)) tr l), (l, listOf (List.toArray vs) n3), (e, listOf (List.toArray us) n4)] ∧
    (∀ p ∈ ([(Str.ofString "draw", .ref d), (Str.ofString "run", .ref D), (Str.ofString "written", .str (textF kind hi mm tl) tw), (Str.ofString "lengths", .ref e), (Str.ofString "begin", .int (headT hi).length tb)] : List (Str × Value)), m p.1 = some p.2)
theorem tailT_len {tl : Int} (t0 : 0 ≤ tl) (t1 : tl < 2) : (tailT tl).length = 1 := by
  rcases (show tl = 0 ∨ tl = 1 by omega) with rfl | rfl <;> decide +kernel
theorem isList_K {K : Frag} {h : Heap} {a : Addr} {vs : List Value} {n : Nat} {od : Option Addr} {sl : Array (Option Value)} (X : K.In h) (e : K.lookup a = some ⟨.type "list", od, .seq vs.toArray n, sl⟩) : h.IsList a vs.toArray := ⟨_, X _ _ e, rfl, n, rfl⟩
theorem runL_len {k mm : Int} (k0 : 0 ≤ k) (k1 : k < 7) (m0 : 0 ≤ mm) (m1 : mm < 6) : (runL k (17 + mm)).length ≤ 12 := by
  rcases cases7 k0 k1 with rfl | rfl | rfl | rfl | rfl | rfl | rfl <;> rcases cases6 m0 m1 with rfl | rfl | rfl | rfl | rfl | rfl <;> decide +kernel
def PostD (h₀ : Heap) (L : Addr) (s s' : Shared) : Prop :=
  ∃ (kind hi mm tl : Int) (e : Addr) (tw : Tok) (n4 : Nat) (us : List Value) (h : Heap) (tk : Nat) (m : Str → Option Value), s' = { s with heap := h, toks := tk } ∧ 0 ≤ kind ∧ kind < 7 ∧ 0 ≤ hi ∧ hi < 7 ∧ 0 ≤ mm ∧ mm < 6 ∧ 0 ≤ tl ∧ tl < 2 ∧
    IntsAre us (lensF kind hi mm) ∧ Fr h₀ L h m ∧ News h₀ L h [(e, listOf (List.toArray us) n4)] ∧
    (∀ p ∈ ([(Str.ofString "written", .str (textF kind hi mm tl) tw), (Str.ofString "lengths", .ref e)] : List (Str × Value)), m p.1 = some p.2)
theorem strs_mem : ∀ {vs : List Value} {ns : List Str} {v : Value}, StrsAre vs ns → v ∈ vs → ∃ i t, v = .str i t
  | _, _, v, .cons n t h, hv => by
    rcases List.mem_cons.mp hv with rfl | hv
    · exact ⟨n, t, rfl⟩
    · exact strs_mem h hv
theorem strs_len : ∀ {vs : List Value} {ns : List Str}, StrsAre vs ns → vs.length = ns.length
  | _, _, .nil => rfl
  | _, _, .cons n t h => by rw [List.length_cons, List.length_cons, strs_len h]
theorem lens_paired : ∀ {vs ys : List Value} {ns : List Str}, StrsAre vs ns → Paired (fun v y => ∃ x t t', v = Value.str x t ∧ y = Value.int (x.length : Int) t') vs ys → IntsAre ys (ns.map fun y => (y.length : Int))
  | _, _, _, .nil, .nil => .nil
  | _, _, _, .cons n t h, .cons ⟨x, t1, t', e1, e2⟩ hp => by
    cases e1
    subst e2
    exact .cons _ _ (lens_paired h hp)
theorem ints_get : ∀ {vs : List Value} {ns : List Int} {i : Nat} {v : Value}, IntsAre vs ns → vs[i]? = some v → ∃ n, ns[i]? = some n ∧ ∃ t, v = .int n t
  | _, _, 0, v, .cons n t h, e => ⟨n, rfl, t, (Option.some.inj e).symm⟩
  | _, _, i+1, v, .cons n t h, e => ints_get h (i := i) e
theorem ne_ints {A : Around} {s : Shared} {l b : Addr} {us zs : List Value} {ns : List Int} (hl : s.heap.IsList l us.toArray) (hb : s.heap.IsList b zs.toArray) (hu : IntsAre us ns) (hz : IntsAre zs ns) (hA : A.units < cLine) : SeqAt.RcNeAt A s (.ref l) (.ref b) false := by
  have h := SeqAt.RcNeAt.lists (e := fun _ => true) hl hb (by rw [List.size_toArray, List.size_toArray, hu.length, hz.length]) hA (fun j h1 h2 => by
    obtain ⟨n1, t1, a1, b1⟩ : ∃ n t, us[j]? = some (Value.int n t) ∧ ns[j]? = some n := by
      obtain ⟨n, hn, t, e⟩ := ints_get hu (i := j) (v := us.toArray[j]) (by simp)
      exact ⟨n, t, by rw [← e]; simp, hn⟩
    obtain ⟨n2, t2, a2, b2⟩ : ∃ n t, zs[j]? = some (Value.int n t) ∧ ns[j]? = some n := by
      obtain ⟨n, hn, t, e⟩ := ints_get hz (i := j) (v := zs.toArray[j]) (by simp)
      exact ⟨n, t, by rw [← e]; simp, hn⟩
    have e1 : us.toArray[j] = Value.int n1 t1 := by simpa using (List.getElem?_eq_some_iff.mp a1).2
    have e2 : zs.toArray[j] = Value.int n2 t2 := by simpa using (List.getElem?_eq_some_iff.mp a2).2
    rw [e1, e2]
    rw [b1] at b2
    cases b2
    have := SeqAt.EqAt.int_int (A := A.in1) (s := s) n1 t1 n1 t2
    rwa [beq_self_eq_true] at this)
  have e : (!(List.range us.toArray.size).all fun _ => true) = false := by simp
  rwa [e] at h
theorem strs_mem2 : ∀ {vs : List Value} {ns : List Str} {v : Value}, StrsAre vs ns → v ∈ vs → ∃ i t, v = .str i t ∧ i ∈ ns
  | _, _, v, .cons n t h, hv => by
    rcases List.mem_cons.mp hv with rfl | hv
    · exact ⟨n, t, rfl, .head _⟩
    · obtain ⟨i, t', e, hi⟩ := strs_mem2 h hv
      exact ⟨i, t', e, .tail _ hi⟩
theorem piecesF_le {x : Str} : ∀ {n : Nat} {i : Int} {c : Int × Int × Int} {y : Str}, y ∈ piecesF x n i c → y.length ≤ x.length
  | 0, i, c, y, h => by
    rcases List.mem_cons.mp h with rfl | h
    · exact Txt.slice_le _ _ _
    · nomatch h
  | n+1, i, c, y, h => by
    unfold piecesF at h
    split at h
    · rcases List.mem_cons.mp h with rfl | h
      · exact Txt.slice_le _ _ _
      · exact piecesF_le h
    · exact piecesF_le h
theorem sum_le {B : Nat} : ∀ {ys : List Str}, (∀ y ∈ ys, y.length ≤ B) → (ys.map (·.length)).sum ≤ ys.length * B
  | [], _ => Nat.zero_le _
  | y :: ys, h => by
    have h1 := h y (.head _)
    have h2 := sum_le (ys := ys) fun z hz => h z (.tail _ hz)
    rw [List.map_cons, List.sum_cons, List.length_cons, Nat.succ_mul]
    omega
theorem law_raises {args : List WData} (cls : ExcName) : PySem.Challenge.rw_ax6034_01.row.claim.raises args cls = false := rfl
theorem law_post {ns : List Int} : PySem.Challenge.rw_ax6034_01.row.claim.post [ofPy (PyData.list (List.map PyData.int ns))] (.bool true) [ofPy (PyData.list (List.map PyData.int ns))] = true := by wrow_post
theorem end_G {ns : List Int} {cl : Str → Option Addr} {mean : ExcName → Option Value} {s₁ : Shared} {L : Addr} {h' : Heap} {m : Str → Option Value} {g : Array GenState} {d : Drawn} {t : Nat} {x : Int}
    (F : Fr s₁.heap L h' m) (hb : AllBare g) (hv : x = 0) : GoodWG PySem.Challenge.rw_ax6034_01.row.claim cl mean [ofPy (PyData.list (List.map PyData.int ns))] s₁ (.ok (.ret (.bool (x == 0)))) ⟨h', g, d, t, s₁.os⟩ := by
  subst hv
  exact ⟨.inl ⟨_, _, [], rfl, law_raises, ReadsW.bool true, law_post, fun _ => ⟨List.nodup_nil, fun _ hm => (nomatch hm)⟩⟩, .of_keep F.keep, rfl, hb⟩
theorem ne_same {prog : Program} {w : World} {A : Around} {E : Value → Shared → Prop} {s : Shared} {x : Str} {t u : Tok} {Q : Value → Shared → Prop} (h : Q (.bool false) s) : wpAny (model prog w) A (compareOp .NotEq (.str x t) (.str x u)) Q E s :=
  ne_str (by rw [bne_self_eq_false]; exact h)
def PostE (h₀ : Heap) (L : Addr) (s s' : Shared) : Prop :=
  ∃ (kind hi mm tl : Int) (tw : Tok) (h : Heap) (g : Array GenState) (tk : Nat) (m : Str → Option Value), s' = { s with heap := h, gens := g, toks := tk } ∧ 0 ≤ kind ∧ kind < 7 ∧ 0 ≤ hi ∧ hi < 7 ∧ 0 ≤ mm ∧ mm < 6 ∧ 0 ≤ tl ∧ tl < 2 ∧ AllBare g ∧
    Fr h₀ L h m ∧ News h₀ L h [] ∧ m (Str.ofString "written") = some (.str (textF kind hi mm tl) tw)
end Mine
namespace Mine
set_option maxRecDepth 100000
set_option linter.unusedVariables false
set_option linter.unusedSimpArgs false
set_option linter.constructorNameAsVariable false
inductive Gc where
  | other | cr | lf | ctl | ext | zwj | ri | pre | sm | l | v | t | lv | lvt
def Gc.val : Gc → Int
  | .other => 0 | .cr => 1 | .lf => 2 | .ctl => 3 | .ext => 4 | .zwj => 5 | .ri => 6 | .pre => 7 | .sm => 8 | .l => 9 | .v => 10 | .t => 11 | .lv => 12 | .lvt => 13
/-- the signs of the law's texts -/
inductive Sy where
  | a | b | e | x | z | lf | cr | so | zh | ra | rb | ac | vs | hl | hv | ht | he | zw | fl | ka | vi | pp
def Sy.code : Sy → Nat
  | .a => 97 | .b => 98 | .e => 101 | .x => 120 | .z => 122 | .lf => 10 | .cr => 13 | .so => 1 | .zh => 20013 | .ra => 127462 | .rb => 127463 | .ac => 769 | .vs => 65039
  | .hl => 4352 | .hv => 4448 | .ht => 4520 | .he => 10084 | .zw => 8205 | .fl => 127988 | .ka => 2325 | .vi => 2381 | .pp => 1536
def Sy.gc : Sy → Gc
  | .lf => .lf | .cr => .cr | .so => .ctl | .ra => .ri | .rb => .ri | .ac => .ext | .vs => .ext | .hl => .l | .hv => .v | .ht => .t | .zw => .zwj | .vi => .ext | .pp => .pre | _ => .other
def Sy.asc : Sy → Bool
  | .a => true | .b => true | .e => true | .x => true | .z => true | _ => false
def Sy.low : Sy → Bool
  | .a => true | .b => true | .e => true | .x => true | .z => true | .lf => true | .cr => true | .so => true | _ => false
def Sy.isLf : Sy → Bool
  | .lf => true | _ => false
def Sy.isCr : Sy → Bool
  | .cr => true | _ => false
def Sy.cons : Sy → Bool
  | .ka => true | _ => false
def Sy.iext : Sy → Bool
  | .ac => true | .vs => true | .zw => true | _ => false
def Sy.link : Sy → Bool
  | .vi => true | _ => false
def Sy.pict : Sy → Bool
  | .he => true | .fl => true | _ => false
theorem sy_gc (c : Sy) : gcbF c.code = c.gc.val := by cases c <;> decide +kernel
theorem sy_asc (c : Sy) : (32 ≤ (c.code : Int) ∧ (c.code : Int) < 128) ↔ c.asc = true := by cases c <;> decide
theorem sy_low (c : Sy) : ((c.code : Int) < 128) ↔ c.low = true := by cases c <;> decide
theorem sy_lf (c : Sy) : ((c.code : Int) = 10) ↔ c.isLf = true := by cases c <;> decide
theorem sy_cr (c : Sy) : (c.code = 13) ↔ c.isCr = true := by cases c <;> decide
theorem sy_cons (c : Sy) : consF c.code = c.cons := by cases c <;> decide +kernel
theorem sy_iext (c : Sy) : iextF c.code = c.iext := by cases c <;> decide +kernel
theorem sy_link (c : Sy) : linkerF c.code = c.link := by cases c <;> decide +kernel
theorem sy_pict (c : Sy) : pictF c.code = c.pict := by cases c <;> decide +kernel
def Gc.stop : Gc → Bool
  | .cr => true | .lf => true | .ctl => true | _ => false
def Gc.isCtl : Gc → Bool
  | .ctl => true | _ => false
def Gc.isRi : Gc → Bool
  | .ri => true | _ => false
def Gc.isZ : Gc → Bool
  | .zwj => true | _ => false
def Gc.isPre : Gc → Bool
  | .pre => true | _ => false
def Gc.isExt : Gc → Bool
  | .ext => true | _ => false
theorem gc_ctl (g : Gc) : (g.val = 3) ↔ g.isCtl = true := by cases g <;> decide
theorem gc_ri (g : Gc) : (g.val = 6) ↔ g.isRi = true := by cases g <;> decide
theorem gc_z (g : Gc) : (g.val = 5) ↔ g.isZ = true := by cases g <;> decide
theorem gc_pre (g : Gc) : (g.val = 7) ↔ g.isPre = true := by cases g <;> decide
theorem gc_ext (g : Gc) : (g.val = 4) ↔ g.isExt = true := by cases g <;> decide
def simpleS (p c : Gc) : Option (Bool × Nat) :=
  match c with
  | .ext => some (p.stop, 0)
  | .sm => some (p.stop, 0)
  | .ctl => some (true, 0)
  | .cr => some (true, 0)
  | .lf => match p with
    | .cr => some (false, 0)
    | _ => some (true, 0)
  | .ri => bif p.stop then some (true, 1) else match p with
    | .pre => some (false, 1)
    | _ => none
  | .l => bif p.stop then some (true, 0) else match p with
    | .pre => some (false, 0)
    | .l => some (false, 0)
    | _ => none
  | .v => bif p.stop then some (true, 0) else match p with
    | .pre => some (false, 0)
    | .l => some (false, 0)
    | .lv => some (false, 0)
    | .v => some (false, 0)
    | _ => none
  | .t => bif p.stop then some (true, 0) else match p with
    | .pre => some (false, 0)
    | .lv => some (false, 0)
    | .v => some (false, 0)
    | .lvt => some (false, 0)
    | .t => some (false, 0)
    | _ => none
  | .lv => bif p.stop then some (true, 0) else match p with
    | .pre => some (false, 0)
    | .l => some (false, 0)
    | _ => none
  | .lvt => bif p.stop then some (true, 0) else match p with
    | .pre => some (false, 0)
    | .l => some (false, 0)
    | _ => none
  | _ => bif p.stop then some (true, 0) else match p with
    | .pre => some (false, 0)
    | _ => none
theorem simple_eq (p c : Gc) : simpleF p.val c.val = (simpleS p c).map fun y => (y.1, (y.2 : Int)) := by
  cases p <;> cases c <;> decide
def lookC : List Sy → Bool
  | [] => false
  | c :: r => bif c.iext then lookC r else c.link
def lookP : List Sy → Bool
  | [] => false
  | c :: r => bif c.gc.isExt then lookP r else c.pict
def shouldS (p : Gc) (c : Sy) (r : List Sy) (ri : Nat) : Bool × Nat :=
  match simpleS p c.gc with
  | some br => br
  | none =>
    bif c.gc.isZ then (false, 0) else
    bif c.cons && lookC r then (false, 0) else
    bif p.isZ && (c.pict && lookP r.tail) then (false, 0) else
    bif p.isRi && c.gc.isRi then (bif Nat.beq (ri % 2) 1 then (false, ri + 1) else (true, 1)) else
    (true, bif c.gc.isRi then 1 else 0)
def stepS (c : Sy) (r : List Sy) (st : Gc × Nat × Nat) : Gc × Nat × Nat :=
  match shouldS st.1 c r st.2.1 with
  | (b, ri) => (c.gc, ri, bif b then 1 else st.2.2 + 1)
def firstS (c : Sy) : Gc × Nat × Nat := (c.gc, bif c.gc.isRi then 1 else 0, 1)
def loopS : List Sy → Nat → Gc × Nat × Nat
  | [], _ => (.other, 0, 0)
  | c :: _, 0 => firstS c
  | c :: r, n + 1 => stepS c r (loopS r n)
def safeS : List Sy → Nat → Nat
  | [], k => k
  | c :: r, k => match r with
    | [] => k
    | _ :: _ => bif c.asc || c.gc.isCtl then k else bif Nat.ble 16 (k + 1) then k + r.length else safeS r (k + 1)
def turnS (l : List Sy) : Nat := (loopS l (safeS l 0)).2.2
def headCr : List Sy → Bool
  | [] => false
  | c :: _ => c.isCr
def headPre : List Sy → Bool
  | [] => false
  | c :: _ => c.gc.isPre
def fcsS : List Sy → Nat
  | [] => 0
  | c :: r => bif c.isLf && headCr r then 2 else bif c.low then (bif c.asc && headPre r then 1 + turnS r else 1) else turnS (c :: r)
def chkS : List Sy → List Sy → Nat → List Nat → Bool
  | rp, [], off, ls => Nat.beq off 0 && (ls.isEmpty && (Nat.beq (fcsS (.z :: rp)) 1 && Nat.beq (fcsS (.zh :: rp)) 1))
  | rp, c :: rest, off, ls => match ls with
    | [] => false
    | m :: ls' => Nat.ble (off + 1) m && (Nat.beq (fcsS (c :: rp)) (off + 1) && (bif Nat.beq (off + 1) m then chkS (c :: rp) rest 0 ls' else chkS (c :: rp) rest (off + 1) ls))
def lensS : List Sy → List Sy → Gc × Nat × Nat → List Nat
  | _, [], st => [st.2.2]
  | rp, c :: rest, st => match shouldS st.1 c rp st.2.1 with
    | (b, ri) => bif b then st.2.2 :: lensS (c :: rp) rest (c.gc, ri, 1) else lensS (c :: rp) rest (c.gc, ri, st.2.2 + 1)
def syHead : Nat → List Sy
  | 0 => [] | 1 => [.x] | 2 => [.a, .b] | 3 => [.lf] | 4 => [.cr, .lf] | 5 => [.zh] | _ => [.so]
def lsHead : Nat → List Nat
  | 0 => [] | 1 => [1] | 2 => [1, 1] | 3 => [1] | 4 => [2] | _ => [1]
def altS (a b : Sy) : Nat → List Sy
  | 0 => []
  | n + 1 => a :: altS b a n
def syRun (kind n : Nat) : List Sy :=
  match kind with
  | 0 => altS .ra .rb n
  | 1 => .e :: List.replicate (n - 1) .ac
  | 2 => .zh :: altS .ac .vs (n - 1)
  | 3 => List.replicate (n / 3) .hl ++ (List.replicate (n / 3) .hv ++ List.replicate (n - 2 * (n / 3)) .ht)
  | 4 => .he :: altS .zw .fl (2 * (n / 2))
  | 5 => .ka :: altS .vi .ka (2 * (n / 2))
  | _ => List.replicate (n - 1) .pp ++ [.a]
def lsRun (kind n : Nat) : List Nat :=
  match kind with
  | 0 => List.replicate (n / 2) 2 ++ List.replicate (n % 2) 1
  | 4 => [1 + 2 * (n / 2)]
  | 5 => [1 + 2 * (n / 2)]
  | _ => [n]
def syTail : Nat → Sy
  | 0 => .z | _ => .zh
theorem run_sy : ∀ k, k < 7 → ∀ m, m < 6 → (runT (k : Nat) (17 + (m : Nat))).cps.toList = (syRun k (17 + m)).map Sy.code := by decide +kernel
theorem run_ls : ∀ k, k < 7 → ∀ m, m < 6 → runL (k : Nat) (17 + (m : Nat)) = (lsRun k (17 + m)).map Int.ofNat := by decide +kernel
theorem head_sy : ∀ k, k < 7 → (headT (k : Nat)).cps.toList = (syHead k).map Sy.code := by decide +kernel
theorem head_ls : ∀ k, k < 7 → headL (k : Nat) = (lsHead k).map Int.ofNat := by decide +kernel
theorem tail_sy : ∀ k, k < 2 → (tailT (k : Nat)).cps.toList = [(syTail k).code] := by decide +kernel
theorem chk_0 : ∀ h, h < 7 → ∀ m, m < 6 → chkS [] (syHead h ++ syRun 0 (17 + m)) 0 (lsHead h ++ lsRun 0 (17 + m)) = true := by decide +kernel
theorem chk_1 : ∀ h, h < 7 → ∀ m, m < 6 → chkS [] (syHead h ++ syRun 1 (17 + m)) 0 (lsHead h ++ lsRun 1 (17 + m)) = true := by decide +kernel
theorem chk_2 : ∀ h, h < 7 → ∀ m, m < 6 → chkS [] (syHead h ++ syRun 2 (17 + m)) 0 (lsHead h ++ lsRun 2 (17 + m)) = true := by decide +kernel
theorem chk_3 : ∀ h, h < 7 → ∀ m, m < 6 → chkS [] (syHead h ++ syRun 3 (17 + m)) 0 (lsHead h ++ lsRun 3 (17 + m)) = true := by decide +kernel
theorem chk_4 : ∀ h, h < 7 → ∀ m, m < 6 → chkS [] (syHead h ++ syRun 4 (17 + m)) 0 (lsHead h ++ lsRun 4 (17 + m)) = true := by decide +kernel
theorem chk_5 : ∀ h, h < 7 → ∀ m, m < 6 → chkS [] (syHead h ++ syRun 5 (17 + m)) 0 (lsHead h ++ lsRun 5 (17 + m)) = true := by decide +kernel
theorem chk_6 : ∀ h, h < 7 → ∀ m, m < 6 → chkS [] (syHead h ++ syRun 6 (17 + m)) 0 (lsHead h ++ lsRun 6 (17 + m)) = true := by decide +kernel
def pieceOk (k h m t : Nat) : Bool :=
  match syHead h ++ syRun k (17 + m) ++ [syTail t] with
  | [] => false
  | c :: r => lensS [c] r (firstS c) == lsHead h ++ lsRun k (17 + m) ++ [1]
theorem pcs_0 : ∀ h, h < 7 → ∀ m, m < 6 → ∀ t, t < 2 → pieceOk 0 h m t = true := by decide +kernel
theorem pcs_1 : ∀ h, h < 7 → ∀ m, m < 6 → ∀ t, t < 2 → pieceOk 1 h m t = true := by decide +kernel
theorem pcs_2 : ∀ h, h < 7 → ∀ m, m < 6 → ∀ t, t < 2 → pieceOk 2 h m t = true := by decide +kernel
theorem pcs_3 : ∀ h, h < 7 → ∀ m, m < 6 → ∀ t, t < 2 → pieceOk 3 h m t = true := by decide +kernel
theorem pcs_4 : ∀ h, h < 7 → ∀ m, m < 6 → ∀ t, t < 2 → pieceOk 4 h m t = true := by decide +kernel
theorem pcs_5 : ∀ h, h < 7 → ∀ m, m < 6 → ∀ t, t < 2 → pieceOk 5 h m t = true := by decide +kernel
theorem pcs_6 : ∀ h, h < 7 → ∀ m, m < 6 → ∀ t, t < 2 → pieceOk 6 h m t = true := by decide +kernel
end Mine
namespace Mine
set_option maxRecDepth 100000
set_option linter.unusedVariables false
set_option linter.unusedSimpArgs false
set_option linter.constructorNameAsVariable false
section
variable {x : Str} {ys : List Sy}
abbrev Spells (x : Str) (ys : List Sy) : Prop := x.cps.toList = ys.map Sy.code
/-- the first k signs, the last ahead -/
def rpS (ys : List Sy) (k : Nat) : List Sy := (ys.take k).reverse
theorem rp_zero : rpS ys 0 = [] := by unfold rpS; rw [List.take_zero]; rfl
theorem rp_succ {k : Nat} {c : Sy} (h : ys[k]? = some c) : rpS ys (k + 1) = c :: rpS ys k := by
  unfold rpS
  rw [List.take_add_one, h]
  simp
theorem rp_len {k : Nat} (h : k ≤ ys.length) : (rpS ys k).length = k := by
  unfold rpS; rw [List.length_reverse, List.length_take]; omega
theorem sp_len (h : Spells x ys) : x.length = ys.length := by
  have e := congrArg List.length h
  rw [List.length_map, Array.length_toList] at e
  exact e
theorem sp_item {k : Nat} {c : Sy} (h : Spells x ys) (hc : ys[k]? = some c) : Txt.item x (k : Int) = ⟨#[c.code]⟩ := by
  have hk : k < ys.length := (List.getElem?_eq_some_iff.mp hc).1
  have e : x.cps[k]? = some c.code := by
    rw [← Array.getElem?_toList, h, List.getElem?_map, hc]; rfl
  have hl := sp_len h
  unfold Txt.item Txt.charAt seqIndex?
  have e1 : (if (k : Int) < 0 then (k : Int) + (x.length : Int) else (k : Int)) = k := if_neg (by omega)
  dsimp only
  rw [e1]
  have e2 : (decide (0 ≤ (k : Int)) && decide ((k : Int) < (x.length : Int))) = true := by simp only [Bool.and_eq_true, decide_eq_true_eq]; omega
  rw [if_pos e2, Option.bind_some, Int.toNat_natCast, e]
  rfl
theorem sp_cp {k : Nat} {c : Sy} (h : Spells x ys) (hc : ys[k]? = some c) : cpAt x (k : Int) = c.code := by
  unfold cpAt; rw [sp_item h hc]; rfl
theorem sp_get {k : Nat} (h : k < ys.length) : ∃ c, ys[k]? = some c := ⟨ys[k], List.getElem?_eq_getElem h⟩
theorem look_c (h : Spells x ys) : ∀ (k m : Nat), k ≤ ys.length → k ≤ m → (decide (0 ≤ scanE x 0 m ((k : Int) - 1)) && linkerF (cpAt x (scanE x 0 m ((k : Int) - 1)))) = lookC (rpS ys k)
  | 0, m, _, _ => by
    have e : scanE x 0 m (((0 : Nat) : Int) - 1) = -1 := by
      cases m with
      | zero => rfl
      | succ m => unfold scanE; rw [if_neg (by omega)]; rfl
    rw [e, rp_zero]; rfl
  | k + 1, m, hk, hm => by
    obtain ⟨m, rfl⟩ : ∃ m', m = m' + 1 := ⟨m - 1, by omega⟩
    obtain ⟨c, hc⟩ := sp_get (ys := ys) (k := k) (by omega)
    rw [rp_succ hc, show ((k + 1 : Nat) : Int) - 1 = (k : Int) by omega]
    unfold scanE lookC
    rw [sp_cp h hc, sy_iext]
    cases hi : c.iext with
    | true => rw [if_pos ⟨by omega, rfl⟩]; exact look_c h k m (by omega) (by omega)
    | false =>
      rw [if_neg (fun e => Bool.false_ne_true e.2), sp_cp h hc, sy_link, decide_eq_true (show (0 : Int) ≤ k by omega)]
      rfl
theorem look_p (h : Spells x ys) : ∀ (k m : Nat), k ≤ ys.length → k ≤ m → scanP x 0 m ((k : Int) - 1) = lookP (rpS ys k)
  | 0, m, _, _ => by
    rw [rp_zero]
    cases m with
    | zero => rfl
    | succ m => unfold scanP; rw [if_neg (by omega)]; rfl
  | k + 1, m, hk, hm => by
    obtain ⟨m, rfl⟩ : ∃ m', m = m' + 1 := ⟨m - 1, by omega⟩
    obtain ⟨c, hc⟩ := sp_get (ys := ys) (k := k) (by omega)
    rw [rp_succ hc, show ((k + 1 : Nat) : Int) - 1 = (k : Int) by omega]
    unfold scanP lookP
    rw [if_pos (by omega), sp_cp h hc, sy_gc, sy_pict]
    cases hi : c.gc.isExt with
    | true => rw [if_pos ((gc_ext _).mpr hi)]; exact look_p h k m (by omega) (by omega)
    | false => rw [if_neg (fun e => Bool.false_ne_true (hi.symm.trans ((gc_ext _).mp e)))]; rfl
theorem cons_look (h : Spells x ys) {k : Nat} (hk : k ≤ ys.length) : consLook x 0 (k : Int) = lookC (rpS ys k) := by
  unfold consLook
  rw [show ((k : Int) - 0).toNat = k by omega]
  exact look_c h k k hk (Nat.le_refl _)
theorem pict_look (h : Spells x ys) {k : Nat} (hk : k + 1 ≤ ys.length) : pictLook x 0 ((k + 1 : Nat) : Int) = lookP (rpS ys k) := by
  unfold pictLook
  rw [show (((k + 1 : Nat) : Int) - 0).toNat = k + 1 by omega, show ((k + 1 : Nat) : Int) - 2 = (k : Int) - 1 by omega]
  exact look_p h k (k + 1) (by omega) (by omega)
theorem fmod2 (n : Nat) : Int.fmod (n : Int) 2 = 1 ↔ Nat.beq (n % 2) 1 = true := by
  rw [Int.fmod_eq_emod_of_nonneg _ (by decide), Nat.beq_eq]; omega
theorem should_eq (h : Spells x ys) {k ri : Nat} {p : Gc} {c : Sy} (hc : ys[k + 1]? = some c) :
    shouldF x p.val (gcbF (cpAt x ((k + 1 : Nat) : Int))) ((k + 1 : Nat) : Int) (ri : Int) 0 = ((shouldS p c (rpS ys (k + 1)) ri).1, ((shouldS p c (rpS ys (k + 1)) ri).2 : Int)) := by
  have hk : k + 1 < ys.length := (List.getElem?_eq_some_iff.mp hc).1
  obtain ⟨d, hd⟩ := sp_get (ys := ys) (k := k) (by omega)
  unfold shouldF shouldS
  rw [cons_look h (by omega), pict_look h (by omega), sp_cp h hc, sy_gc, sy_cons, sy_pict, simple_eq, rp_succ hd, List.tail_cons]
  cases simpleS p c.gc with
  | some br => rfl
  | none =>
    dsimp only [Option.map_none]
    cases hz : c.gc.isZ with
    | true => rw [if_pos ((gc_z _).mpr hz)]; rfl
    | false =>
      rw [if_neg (fun e => Bool.false_ne_true (hz.symm.trans ((gc_z _).mp e))), cond_false]
      cases hl : (c.cons && lookC (d :: rpS ys k)) with
      | true =>
        rw [if_pos ((Bool.and_eq_true _ _).mp hl)]; rfl
      | false =>
        rw [if_neg (fun e => by rw [e.1, e.2] at hl; exact Bool.noConfusion hl), cond_false]
        cases hp : (p.isZ && (c.pict && lookP (rpS ys k))) with
        | true =>
          have h1 := (Bool.and_eq_true _ _).mp hp
          have h2 := (Bool.and_eq_true _ _).mp h1.2
          rw [if_pos ⟨⟨(gc_z _).mpr h1.1, h2.1⟩, h2.2⟩]; rfl
        | false =>
          rw [if_neg (fun e => by rw [(gc_z _).mp e.1.1, e.1.2, e.2] at hp; exact Bool.noConfusion hp), cond_false]
          cases hq : (p.isRi && c.gc.isRi) with
          | true =>
            have h1 := (Bool.and_eq_true _ _).mp hq
            rw [if_pos ⟨(gc_ri _).mpr h1.1, (gc_ri _).mpr h1.2⟩, cond_true]
            cases hr : Nat.beq (ri % 2) 1 with
            | true => rw [if_pos ((fmod2 ri).mpr hr)]; rfl
            | false => rw [if_neg (fun e => Bool.false_ne_true (hr.symm.trans ((fmod2 ri).mp e)))]; rfl
          | false =>
            rw [if_neg (fun e => by rw [(gc_ri _).mp e.1, (gc_ri _).mp e.2] at hq; exact Bool.noConfusion hq), cond_false]
            cases hr : c.gc.isRi with
            | true => rw [if_pos ((gc_ri _).mpr hr)]; rfl
            | false => rw [if_neg (fun e => Bool.false_ne_true (hr.symm.trans ((gc_ri _).mp e)))]; rfl
/-- what a state of signs says -/
def stF (q : Int) (st : Gc × Nat × Nat) : Int × Int × Int := (st.1.val, (st.2.1 : Int), q - (st.2.2 : Int))
theorem first_eq (h : Spells x ys) {k : Nat} {c : Sy} (hc : ys[k]? = some c) : startF x (k : Int) = stF ((k : Int) + 1) (firstS c) := by
  unfold startF stF firstS
  rw [sp_cp h hc, sy_gc]
  have e : (if c.gc.val = 6 then (1 : Int) else 0) = ((bif c.gc.isRi then 1 else 0 : Nat) : Int) := by
    cases hr : c.gc.isRi with
    | true => rw [if_pos ((gc_ri _).mpr hr)]; rfl
    | false => rw [if_neg (fun e => Bool.false_ne_true (hr.symm.trans ((gc_ri _).mp e)))]; rfl
  rw [e]
  dsimp only
  rw [show (k : Int) + 1 - ((1 : Nat) : Int) = (k : Int) by omega]
theorem step_eq (h : Spells x ys) {k : Nat} {c : Sy} {st : Gc × Nat × Nat} (hc : ys[k + 1]? = some c) :
    stepF x ((k + 1 : Nat) : Int) (stF ((k + 1 : Nat) : Int) st) = stF ((k + 1 : Nat) + 1) (stepS c (rpS ys (k + 1)) st) := by
  obtain ⟨p, ri, d⟩ := st
  unfold stepF stF stepS
  dsimp only
  rw [should_eq h hc, sp_cp h hc, sy_gc]
  obtain ⟨b, r'⟩ := shouldS p c (rpS ys (k + 1)) ri
  cases b with
  | true =>
    dsimp only [cond_true]
    rw [if_pos rfl, show ((k + 1 : Nat) : Int) + 1 - ((1 : Nat) : Int) = ((k + 1 : Nat) : Int) by omega]
  | false =>
    dsimp only [cond_false]
    rw [if_neg Bool.false_ne_true, show ((k + 1 : Nat) : Int) + 1 - ((d + 1 : Nat) : Int) = ((k + 1 : Nat) : Int) - (d : Int) by omega]
theorem loop_eq (h : Spells x ys) {ss : Nat} : ∀ (n : Nat), ss + n < ys.length → loopF x ((ss : Int) + 1) (startF x ss) n = stF ((ss + n : Nat) + 1) (loopS (rpS ys (ss + n + 1)) n)
  | 0, hn => by
    obtain ⟨c, hc⟩ := sp_get (ys := ys) (k := ss) (by omega)
    rw [Nat.add_zero, rp_succ hc]
    exact first_eq h hc
  | n + 1, hn => by
    obtain ⟨c, hc⟩ := sp_get (ys := ys) (k := ss + n + 1) (by omega)
    have ih := loop_eq h (ss := ss) n (by omega)
    have e := step_eq h (st := loopS (rpS ys (ss + n + 1)) n) hc
    rw [show ss + (n + 1) = ss + n + 1 from rfl, rp_succ hc]
    show stepF x ((ss : Int) + 1 + (n : Int)) (loopF x ((ss : Int) + 1) (startF x ss) n) = _
    rw [ih, show (ss : Int) + 1 + (n : Int) = ((ss + n + 1 : Nat) : Int) by omega, show ((ss + n : Nat) : Int) + 1 = ((ss + n + 1 : Nat) : Int) by omega]
    exact e
theorem safe_eq (h : Spells x ys) {p : Nat} : ∀ (j n : Nat), j < p → p ≤ ys.length → j ≤ n → ∃ k, safeS (rpS ys (j + 1)) (p - 1 - j) = k ∧ k ≤ p - 1 ∧ safeF x p n j = (p - 1 - k : Nat)
  | 0, n, hj, hp, hn => by
    obtain ⟨c, hc⟩ := sp_get (ys := ys) (k := 0) (by omega)
    refine ⟨p - 1, ?_, Nat.le_refl _, ?_⟩
    · rw [rp_succ hc, rp_zero]; rfl
    · rw [Nat.sub_self]
      cases n with
      | zero => rfl
      | succ n => unfold safeF; rw [if_neg (by omega)]
  | j + 1, n, hj, hp, hn => by
    obtain ⟨n, rfl⟩ : ∃ n', n = n' + 1 := ⟨n - 1, by omega⟩
    obtain ⟨c, hc⟩ := sp_get (ys := ys) (k := j + 1) (by omega)
    obtain ⟨d, hd⟩ := sp_get (ys := ys) (k := j) (by omega)
    obtain ⟨k', e1, e2, e3⟩ := safe_eq h (p := p) j n (by omega) hp (by omega)
    have hlen := rp_len (ys := ys) (k := j + 1) (by omega)
    have eS : safeS (rpS ys (j + 1 + 1)) (p - 1 - (j + 1)) = bif c.asc || c.gc.isCtl then p - 1 - (j + 1) else bif Nat.ble 16 (p - 1 - (j + 1) + 1) then p - 1 - (j + 1) + (j + 1) else k' := by
      rw [rp_succ hc]
      rw [rp_succ hd] at hlen e1 ⊢
      unfold safeS
      dsimp only
      rw [hlen, show p - 1 - (j + 1) + 1 = p - 1 - j by omega, e1]
    rw [eS]
    unfold safeF
    rw [if_pos (by omega), sp_cp h hc, sy_gc]
    cases ha : c.asc with
    | true =>
      rw [if_pos ((sy_asc c).mpr ha), Bool.true_or, cond_true]
      exact ⟨_, rfl, by omega, by omega⟩
    | false =>
      rw [if_neg (fun e => Bool.false_ne_true (ha.symm.trans ((sy_asc c).mp e))), Bool.false_or]
      cases hg : c.gc.isCtl with
      | true =>
        rw [if_pos ((gc_ctl _).mpr hg), cond_true]
        exact ⟨_, rfl, by omega, by omega⟩
      | false =>
        rw [if_neg (fun e => Bool.false_ne_true (hg.symm.trans ((gc_ctl _).mp e))), cond_false]
        cases hb : Nat.ble 16 (p - 1 - (j + 1) + 1) with
        | true =>
          have := Nat.le_of_ble_eq_true hb
          rw [if_pos (by omega)]
          exact ⟨_, rfl, by rw [cond_true]; omega, by rw [cond_true]; omega⟩
        | false =>
          have : ¬ 16 ≤ p - 1 - (j + 1) + 1 := fun e => Bool.false_ne_true (hb.symm.trans (Nat.ble_eq_true_of_le e))
          rw [if_neg (by omega), show ((j + 1 : Nat) : Int) - 1 = (j : Int) by omega]
          exact ⟨k', rfl, e2, e3⟩
theorem turn_eq (h : Spells x ys) {p : Nat} (h0 : 1 ≤ p) (h1 : p ≤ ys.length) : fcsT x p = (p : Int) - (turnS (rpS ys p) : Int) := by
  obtain ⟨k, e1, e2, e3⟩ := safe_eq h (p := p) (p - 1) p (by omega) h1 (by omega)
  have es : safe0 x p = ((p - 1 - k : Nat) : Int) := by
    unfold safe0
    rw [Int.toNat_natCast, show (p : Int) - 1 = ((p - 1 : Nat) : Int) by omega]
    exact e3
  rw [show p - 1 + 1 = p by omega, Nat.sub_self] at e1
  have el := loop_eq h (ss := p - 1 - k) k (by omega)
  unfold fcsT turnS
  rw [es, e1, show ((p : Int) - (((p - 1 - k : Nat) : Int) + 1)).toNat = k by omega, el, show p - 1 - k + k + 1 = p by omega]
  unfold stF
  dsimp only
  rw [show ((p - 1 - k + k : Nat) : Int) + 1 = p by omega]
theorem fcs_eq (h : Spells x ys) {p : Nat} (h0 : 1 ≤ p) (h1 : p ≤ ys.length) : fcsF x p = (p : Int) - (fcsS (rpS ys p) : Int) := by
  obtain ⟨p, rfl⟩ : ∃ p', p = p' + 1 := ⟨p - 1, by omega⟩
  obtain ⟨c, hc⟩ := sp_get (ys := ys) (k := p) (by omega)
  have e1 : ((p + 1 : Nat) : Int) - 1 = (p : Int) := by omega
  have hcp := sp_cp h hc
  have hT := turn_eq h (p := p + 1) (by omega) h1
  rw [rp_succ hc] at hT ⊢
  unfold fcsF fcsS
  rw [e1, hcp]
  cases p with
  | zero =>
    rw [rp_zero] at hT ⊢
    have en : ¬ (2 : Int) ≤ ((0 + 1 : Nat) : Int) := by omega
    rw [if_neg (fun e => en e.1.2)]
    show _ = (((0 + 1 : Nat) : Int) - ((bif c.isLf && false then 2 else bif c.low then (bif c.asc && false then 1 + turnS [] else 1) else turnS [c] : Nat) : Int))
    rw [Bool.and_false, cond_false, Bool.and_false, cond_false]
    cases hl : c.low with
    | true => rw [if_pos ((sy_low c).mpr hl), if_neg (fun e => en e.1.1)]; rfl
    | false => rw [if_neg (fun e => Bool.false_ne_true (hl.symm.trans ((sy_low c).mp e)))]; exact hT
  | succ p =>
    obtain ⟨d, hd⟩ := sp_get (ys := ys) (k := p) (by omega)
    have hdp := sp_cp h hd
    have e2 : ((p + 1 + 1 : Nat) : Int) - 2 = (p : Int) := by omega
    have ep : (2 : Int) ≤ ((p + 1 + 1 : Nat) : Int) := by omega
    have hT' := turn_eq h (p := p + 1) (by omega) (by omega)
    rw [rp_succ hd] at hT hT' ⊢
    rw [e2, hdp, sy_gc]
    have hcr : crAt x (p : Int) = d.isCr := by
      unfold crAt
      rw [sp_item h hd]
      cases d <;> decide +kernel
    rw [hcr]
    show _ = (((p + 1 + 1 : Nat) : Int) - ((bif c.isLf && d.isCr then 2 else bif c.low then (bif c.asc && d.gc.isPre then 1 + turnS (d :: rpS ys p) else 1) else turnS (c :: d :: rpS ys p) : Nat) : Int))
    cases hlf : (c.isLf && d.isCr) with
    | true =>
      have h1 := (Bool.and_eq_true _ _).mp hlf
      rw [if_pos ⟨⟨(sy_lf c).mpr h1.1, ep⟩, h1.2⟩, cond_true]; omega
    | false =>
      rw [if_neg (fun e => by rw [(sy_lf c).mp e.1.1, e.2] at hlf; exact Bool.noConfusion hlf), cond_false]
      cases hl : c.low with
      | false => rw [if_neg (fun e => Bool.false_ne_true (hl.symm.trans ((sy_low c).mp e)))]; exact hT
      | true =>
        rw [if_pos ((sy_low c).mpr hl), cond_true]
        cases ha : (c.asc && d.gc.isPre) with
        | true =>
          have h1 := (Bool.and_eq_true _ _).mp ha
          have h2 : (128 : Int) ≤ d.code := by
            have := h1.2
            cases d <;> first | (cases this; done) | decide
          rw [if_pos ⟨⟨ep, ((sy_asc c).mpr h1.1).1⟩, ⟨h2, (gc_pre _).mpr h1.2⟩⟩, cond_true, hT']
          omega
        | false =>
          rw [if_neg (fun e => by rw [(sy_asc c).mp ⟨e.1.2, (sy_low c).mpr hl⟩, (gc_pre _).mp e.2.2] at ha; exact Bool.noConfusion ha), cond_false]
          omega
end
end Mine
namespace Mine
set_option maxRecDepth 100000
set_option linter.unusedVariables false
set_option linter.unusedSimpArgs false
set_option linter.constructorNameAsVariable false
theorem rp_full {rp rest : List Sy} {c : Sy} : rpS (rp.reverse ++ c :: rest) (rp.length + 1) = c :: rp := by
  have e : (rp.reverse ++ c :: rest)[rp.length]? = some c := by
    rw [List.getElem?_append_right (by rw [List.length_reverse]; exact Nat.le_refl _), List.length_reverse, Nat.sub_self]; rfl
  rw [rp_succ e]
  unfold rpS
  rw [List.take_left' (List.length_reverse ..), List.reverse_reverse]
theorem rev_cons {rp rest : List Sy} {c : Sy} : rp.reverse ++ c :: rest = (c :: rp).reverse ++ rest := by
  rw [List.reverse_cons, List.append_assoc]; rfl
theorem tail_one {t : Nat} {rp : List Sy} (h1 : Nat.beq (fcsS (.z :: rp)) 1 = true) (h2 : Nat.beq (fcsS (.zh :: rp)) 1 = true) : fcsS (syTail t :: rp) = 1 := by
  cases t with
  | zero => exact Nat.eq_of_beq_eq_true h1
  | succ t => exact Nat.eq_of_beq_eq_true h2
theorem chk_ok {t : Nat} : ∀ (rest rp : List Sy) (off : Nat) (ls : List Nat) (b p : Nat), chkS rp rest off ls = true → rp.length = b + off → rp.length < p → p ≤ rp.length + rest.length + 1 →
    startL ((ls ++ [1]).map Int.ofNat) p b = (p : Int) - (fcsS (rpS (rp.reverse ++ (rest ++ [syTail t])) p) : Int)
  | [], rp, off, ls, b, p, h, hb, h1, h2 => by
    unfold chkS at h
    obtain ⟨ho, h⟩ := (Bool.and_eq_true _ _).mp h
    obtain ⟨hl, h⟩ := (Bool.and_eq_true _ _).mp h
    obtain ⟨hz, hw⟩ := (Bool.and_eq_true _ _).mp h
    have ho := Nat.eq_of_beq_eq_true ho
    rw [List.isEmpty_iff] at hl
    subst hl
    rw [List.length_nil] at h2
    have hp : p = rp.length + 1 := by omega
    subst hp
    rw [show rp.reverse ++ ([] ++ [syTail t]) = rp.reverse ++ syTail t :: [] from rfl, rp_full, tail_one hz hw]
    show (if ((rp.length + 1 : Nat) : Int) ≤ (b : Int) + Int.ofNat 1 then (b : Int) else _) = _
    rw [if_pos (by show _ ≤ (b : Int) + 1; omega)]; omega
  | c :: rest, rp, off, [], b, p, h, hb, h1, h2 => by
    unfold chkS at h
    exact Bool.noConfusion h
  | c :: rest, rp, off, m :: ls, b, p, h, hb, h1, h2 => by
    unfold chkS at h
    dsimp only at h
    obtain ⟨hm, h⟩ := (Bool.and_eq_true _ _).mp h
    obtain ⟨hf, h⟩ := (Bool.and_eq_true _ _).mp h
    have hm := Nat.le_of_ble_eq_true hm
    have hf := Nat.eq_of_beq_eq_true hf
    rw [List.length_cons] at h2
    by_cases hp : p = rp.length + 1
    · subst hp
      rw [show rp.reverse ++ (c :: rest ++ [syTail t]) = rp.reverse ++ c :: (rest ++ [syTail t]) from rfl, rp_full, hf]
      show (if ((rp.length + 1 : Nat) : Int) ≤ (b : Int) + Int.ofNat m then (b : Int) else _) = _
      rw [if_pos (by show _ ≤ (b : Int) + (m : Int); omega)]; omega
    · rw [show rp.reverse ++ (c :: rest ++ [syTail t]) = rp.reverse ++ c :: (rest ++ [syTail t]) from rfl, rev_cons]
      cases he : Nat.beq (off + 1) m with
      | true =>
        have := Nat.eq_of_beq_eq_true he
        rw [he, cond_true] at h
        have ih := chk_ok (t := t) rest (c :: rp) 0 ls (b + m) p h (by rw [List.length_cons]; omega) (by rw [List.length_cons]; omega) (by rw [List.length_cons]; omega)
        rw [← ih]
        show (if (p : Int) ≤ (b : Int) + Int.ofNat m then (b : Int) else startL _ (p : Int) ((b : Int) + Int.ofNat m)) = _
        rw [if_neg (by show ¬ _ ≤ (b : Int) + (m : Int); omega)]
        rfl
      | false =>
        have : off + 1 ≠ m := fun e => by rw [← e, Nat.beq_refl] at he; exact Bool.noConfusion he
        rw [he, cond_false] at h
        exact chk_ok rest (c :: rp) (off + 1) (m :: ls) b p h (by rw [List.length_cons]; omega) (by rw [List.length_cons]; omega) (by rw [List.length_cons]; omega)
theorem chk_end : ∀ (rest rp : List Sy) (off : Nat) (ls : List Nat) (b : Nat), chkS rp rest off ls = true → rp.length = b + off →
    startL ((ls ++ [1]).map Int.ofNat) ((rp.length + rest.length + 1 : Nat) : Int) b = ((rp.length + rest.length : Nat) : Int)
  | [], rp, off, ls, b, h, hb => by
    unfold chkS at h
    obtain ⟨ho, h⟩ := (Bool.and_eq_true _ _).mp h
    obtain ⟨hl, h⟩ := (Bool.and_eq_true _ _).mp h
    have ho := Nat.eq_of_beq_eq_true ho
    rw [List.isEmpty_iff] at hl
    subst hl
    show (if ((rp.length + 0 + 1 : Nat) : Int) ≤ (b : Int) + Int.ofNat 1 then (b : Int) else _) = ((rp.length + 0 : Nat) : Int)
    rw [if_pos (by show _ ≤ (b : Int) + 1; omega)]; omega
  | c :: rest, rp, off, [], b, h, hb => by
    unfold chkS at h
    exact Bool.noConfusion h
  | c :: rest, rp, off, m :: ls, b, h, hb => by
    unfold chkS at h
    dsimp only at h
    obtain ⟨hm, h⟩ := (Bool.and_eq_true _ _).mp h
    obtain ⟨hf, h⟩ := (Bool.and_eq_true _ _).mp h
    have hm := Nat.le_of_ble_eq_true hm
    rw [List.length_cons, show rp.length + (rest.length + 1) = (c :: rp).length + rest.length by rw [List.length_cons]; omega]
    cases he : Nat.beq (off + 1) m with
    | true =>
      have := Nat.eq_of_beq_eq_true he
      rw [he, cond_true] at h
      have ih := chk_end rest (c :: rp) 0 ls (b + m) h (by rw [List.length_cons]; omega)
      rw [← ih]
      show (if (_ : Int) ≤ (b : Int) + Int.ofNat m then (b : Int) else startL _ _ ((b : Int) + Int.ofNat m)) = _
      rw [if_neg (by show ¬ _ ≤ (b : Int) + (m : Int); rw [List.length_cons]; omega)]
      rfl
    | false =>
      rw [he, cond_false] at h
      exact chk_end rest (c :: rp) (off + 1) (m :: ls) b h (by rw [List.length_cons]; omega)
theorem slice_list {x : Str} {a b : Nat} (hab : a ≤ b) (hb : b ≤ x.length) : (Txt.slice x (some (a : Int)) (some (b : Int))).cps.toList = (x.cps.toList.drop a).take (b - a) := by
  unfold Txt.slice
  rw [StrLaws.strSliceIndices_plain hab hb]
  split
  · rename_i e
    have e := e
    rw [beq_self_eq_true, Bool.true_and, beq_iff_eq, List.length_map, List.length_range] at e
    have hl : x.cps.toList.length = x.length := Array.length_toList
    obtain ⟨rfl, rfl⟩ : a = 0 ∧ b = x.length := by omega
    rw [List.drop_zero, Nat.sub_zero, List.take_of_length_le (by omega)]
  · rw [← StrLaws.strSliceIndices_plain hab hb, StrLaws.sliced_plain x hab hb]
theorem str_len (x : Str) : x.length = x.cps.toList.length := Array.length_toList.symm
theorem slice_len {x : Str} {a b : Nat} (hab : a ≤ b) (hb : b ≤ x.length) : (Txt.slice x (some (a : Int)) (some (b : Int))).length = b - a := by
  rw [str_len, slice_list hab hb, List.length_take, List.length_drop, ← str_len]; omega
theorem pieces_eq {x : Str} {ys : List Sy} (h : Spells x ys) : ∀ (rest rp : List Sy) (st : Gc × Nat × Nat), ys = rp.reverse ++ rest → 1 ≤ st.2.2 → st.2.2 ≤ rp.length →
    (piecesF x rest.length (rp.length : Int) (stF rp.length st)).map (·.length) = lensS rp rest st ∧
    ((piecesF x rest.length (rp.length : Int) (stF rp.length st)).map (·.cps.toList)).flatten = x.cps.toList.drop (rp.length - st.2.2)
  | [], rp, (p, ri, d), hy, h1, h2 => by
    dsimp only at h1 h2 ⊢
    have hl : x.length = rp.length := by rw [sp_len h, hy, List.append_nil, List.length_reverse]
    have e : (rp.length : Int) - (d : Int) = ((rp.length - d : Nat) : Int) := by omega
    unfold piecesF stF lensS
    dsimp only [List.length_nil]
    rw [e, List.map_cons, List.map_nil, List.map_cons, List.map_nil, slice_len (by omega) (Nat.le_refl _), slice_list (by omega) (Nat.le_refl _)]
    refine ⟨by rw [hl]; congr 1; omega, ?_⟩
    rw [List.flatten_cons, List.flatten_nil, List.append_nil, List.take_of_length_le (by rw [List.length_drop, ← str_len]; omega)]
  | c :: rest, rp, (p, ri, d), hy, h1, h2 => by
    dsimp only at h1 h2 ⊢
    obtain ⟨k, hk⟩ : ∃ k, rp.length = k + 1 := ⟨rp.length - 1, by omega⟩
    have hl : x.length = rp.length + (rest.length + 1) := by rw [sp_len h, hy, List.length_append, List.length_reverse, List.length_cons]
    have hc : ys[k + 1]? = some c := by
      rw [hy, ← hk, List.getElem?_append_right (by rw [List.length_reverse]; exact Nat.le_refl _), List.length_reverse, Nat.sub_self]; rfl
    have hr : rpS ys (k + 1) = rp := by
      unfold rpS
      rw [hy, ← hk, List.take_left' (List.length_reverse ..), List.reverse_reverse]
    have es := should_eq h (p := p) (ri := ri) hc
    have ep := step_eq h (st := (p, ri, d)) hc
    rw [hr, ← hk] at es ep
    have e : (rp.length : Int) - (d : Int) = ((rp.length - d : Nat) : Int) := by omega
    have hy' : ys = (c :: rp).reverse ++ rest := by rw [hy, rev_cons]
    rw [List.length_cons, piecesF, lensS]
    rw [show (stF (rp.length : Int) (p, ri, d)).1 = p.val from rfl, show (stF (rp.length : Int) (p, ri, d)).2.1 = (ri : Int) from rfl, es, ep]
    unfold stepS
    dsimp only [stF]
    have ec : (rp.length : Int) + 1 = ((c :: rp).length : Int) := by rw [List.length_cons]; omega
    cases hs : shouldS p c rp ri with
    | mk b r' =>
      cases b with
      | true =>
        have ih := pieces_eq h rest (c :: rp) (c.gc, r', 1) hy' (Nat.le_refl _) (by show 1 ≤ _; rw [List.length_cons]; omega)
        unfold stF at ih
        dsimp only at ih
        rw [if_pos rfl, cond_true]
        dsimp only [cond_true]
        rw [ec, List.map_cons, List.map_cons, List.flatten_cons, ih.1, ih.2, e, slice_len (by omega) (by omega), slice_list (by omega) (by omega)]
        refine ⟨by congr 1; omega, ?_⟩
        rw [List.length_cons, Nat.add_sub_cancel]
        have := List.take_append_drop d (x.cps.toList.drop (rp.length - d))
        rw [List.drop_drop, show rp.length - d + d = rp.length by omega] at this
        rw [show rp.length - (rp.length - d) = d by omega]
        exact this
      | false =>
        have ih := pieces_eq h rest (c :: rp) (c.gc, r', d + 1) hy' (by show 1 ≤ d + 1; omega) (by show d + 1 ≤ _; rw [List.length_cons]; omega)
        unfold stF at ih
        dsimp only at ih
        rw [if_neg Bool.false_ne_true, cond_false]
        dsimp only [cond_false]
        rw [ec, ih.1, ih.2]
        refine ⟨rfl, ?_⟩
        rw [List.length_cons, Nat.add_sub_add_right]
theorem join_flat {sep : Str} (hs : sep.cps = #[]) : ∀ (ys : List Str), (Str.join sep ys).cps.toList = (ys.map (·.cps.toList)).flatten
  | [] => rfl
  | [y] => by
    show y.cps.toList = _
    rw [List.map_cons, List.map_nil, List.flatten_cons, List.flatten_nil, List.append_nil]
  | y :: z :: r => by
    show (y ++ sep ++ Str.join sep (z :: r)).cps.toList = _
    rw [Str.cps_append, Str.cps_append, hs, Array.append_empty, Array.toList_append, join_flat hs (z :: r)]
    rfl
theorem chk_all {k h m : Nat} (hk : k < 7) (hh : h < 7) (hm : m < 6) : chkS [] (syHead h ++ syRun k (17 + m)) 0 (lsHead h ++ lsRun k (17 + m)) = true := by
  rcases (show k = 0 ∨ k = 1 ∨ k = 2 ∨ k = 3 ∨ k = 4 ∨ k = 5 ∨ k = 6 by omega) with rfl | rfl | rfl | rfl | rfl | rfl | rfl
  · exact chk_0 h hh m hm
  · exact chk_1 h hh m hm
  · exact chk_2 h hh m hm
  · exact chk_3 h hh m hm
  · exact chk_4 h hh m hm
  · exact chk_5 h hh m hm
  · exact chk_6 h hh m hm
theorem pcs_all {k h m t : Nat} (hk : k < 7) (hh : h < 7) (hm : m < 6) (ht : t < 2) : pieceOk k h m t = true := by
  rcases (show k = 0 ∨ k = 1 ∨ k = 2 ∨ k = 3 ∨ k = 4 ∨ k = 5 ∨ k = 6 by omega) with rfl | rfl | rfl | rfl | rfl | rfl | rfl
  · exact pcs_0 h hh m hm t ht
  · exact pcs_1 h hh m hm t ht
  · exact pcs_2 h hh m hm t ht
  · exact pcs_3 h hh m hm t ht
  · exact pcs_4 h hh m hm t ht
  · exact pcs_5 h hh m hm t ht
  · exact pcs_6 h hh m hm t ht
theorem nat_of {k : Int} {n : Nat} (h0 : 0 ≤ k) (h1 : k < n) : ∃ j : Nat, k = j ∧ j < n := ⟨k.toNat, by omega, by omega⟩
theorem text_sy {k h m t : Nat} (hk : k < 7) (hh : h < 7) (hm : m < 6) (ht : t < 2) : Spells (textF k h m t) (syHead h ++ syRun k (17 + m) ++ [syTail t]) := by
  unfold Spells textF
  rw [Str.cps_append, Str.cps_append, Array.toList_append, Array.toList_append, head_sy h hh, run_sy k hk m hm, tail_sy t ht, List.map_append, List.map_append]
  rfl
theorem lens_ls {k h m : Nat} (hk : k < 7) (hh : h < 7) (hm : m < 6) : lensF k h m = (lsHead h ++ lsRun k (17 + m) ++ [1]).map Int.ofNat := by
  unfold lensF
  rw [head_ls h hh, run_ls k hk m hm, List.map_append, List.map_append]
  rfl
theorem law1 {kind hi mm tl p : Int} (k0 : 0 ≤ kind) (k1 : kind < 7) (i0 : 0 ≤ hi) (i1 : hi < 7) (m0 : 0 ≤ mm) (m1 : mm < 6) (t0 : 0 ≤ tl) (t1 : tl < 2) (p0 : 1 ≤ p) (p1 : p ≤ (textF kind hi mm tl).length) :
    fcsF (textF kind hi mm tl) p = startL (lensF kind hi mm) p 0 := by
  obtain ⟨k, rfl, hk⟩ := nat_of (n := 7) k0 k1
  obtain ⟨h, rfl, hh⟩ := nat_of (n := 7) i0 i1
  obtain ⟨m, rfl, hm⟩ := nat_of (n := 6) m0 m1
  obtain ⟨t, rfl, ht⟩ := nat_of (n := 2) t0 t1
  obtain ⟨q, rfl⟩ : ∃ q : Nat, p = q := ⟨p.toNat, by omega⟩
  have hs := text_sy hk hh hm ht
  have hl := sp_len hs
  have e := chk_ok (t := t) _ [] 0 _ 0 q (chk_all hk hh hm) rfl (by show 0 < q; omega) (by rw [List.length_append, List.length_singleton] at hl; rw [List.length_nil]; omega)
  rw [lens_ls hk hh hm, fcs_eq hs (by omega) (by omega)]
  rw [List.reverse_nil, List.nil_append] at e
  exact e.symm
theorem law3 {kind hi mm tl : Int} (k0 : 0 ≤ kind) (k1 : kind < 7) (i0 : 0 ≤ hi) (i1 : hi < 7) (m0 : 0 ≤ mm) (m1 : mm < 6) (t0 : 0 ≤ tl) (t1 : tl < 2) :
    startL (lensF kind hi mm) (textF kind hi mm tl).length 0 = (textF kind hi mm tl).length - 1 := by
  obtain ⟨k, rfl, hk⟩ := nat_of (n := 7) k0 k1
  obtain ⟨h, rfl, hh⟩ := nat_of (n := 7) i0 i1
  obtain ⟨m, rfl, hm⟩ := nat_of (n := 6) m0 m1
  obtain ⟨t, rfl, ht⟩ := nat_of (n := 2) t0 t1
  have hl := sp_len (text_sy hk hh hm ht)
  rw [List.length_append, List.length_singleton] at hl
  have e := chk_end _ [] 0 _ 0 (chk_all hk hh hm) rfl
  rw [List.length_nil, Nat.zero_add] at e
  rw [lens_ls hk hh hm, hl]
  refine e.trans ?_
  omega
theorem law4 {kind hi mm tl : Int} (k0 : 0 ≤ kind) (k1 : kind < 7) (i0 : 0 ≤ hi) (i1 : hi < 7) (m0 : 0 ≤ mm) (m1 : mm < 6) (t0 : 0 ≤ tl) (t1 : tl < 2) :
    (textsOf (textF kind hi mm tl)).map (fun y => (y.length : Int)) = lensF kind hi mm ∧ Txt.join (Str.ofString "") (textsOf (textF kind hi mm tl)) = textF kind hi mm tl := by
  obtain ⟨k, rfl, hk⟩ := nat_of (n := 7) k0 k1
  obtain ⟨h, rfl, hh⟩ := nat_of (n := 7) i0 i1
  obtain ⟨m, rfl, hm⟩ := nat_of (n := 6) m0 m1
  obtain ⟨t, rfl, ht⟩ := nat_of (n := 2) t0 t1
  have hs := text_sy hk hh hm ht
  have hl := sp_len hs
  have hp := pcs_all hk hh hm ht
  rw [lens_ls hk hh hm]
  generalize textF k h m t = x at hs hl ⊢
  unfold pieceOk at hp
  revert hl hs hp
  cases syHead h ++ syRun k (17 + m) ++ [syTail t] with
  | nil => intro hp; exact Bool.noConfusion hp
  | cons c r =>
    intro hp hs hl
    have hp := eq_of_beq hp
    have e := pieces_eq hs r [c] (firstS c) rfl (Nat.le_refl _) (Nat.le_refl _)
    have ef := first_eq hs (k := 0) (c := c) rfl
    have et : textsOf x = piecesF x r.length ((([c] : List Sy).length : Nat) : Int) (stF (([c] : List Sy).length : Nat) (firstS c)) := by
      unfold textsOf
      rw [hl, List.length_cons, Nat.add_sub_cancel]
      exact congrArg _ ef
    rw [← et] at e
    refine ⟨?_, ?_⟩
    · have e1 := congrArg (List.map Int.ofNat) e.1
      rw [List.map_map, hp] at e1
      exact e1
    · refine Str.ext' (Array.toList_inj.mp ?_)
      unfold Txt.join
      rw [StrLaws.glued_eq_join, join_flat (by decide), e.2]
      rfl
theorem law5 {kind hi mm tl : Int} (k0 : 0 ≤ kind) (k1 : kind < 7) (i0 : 0 ≤ hi) (i1 : hi < 7) (m0 : 0 ≤ mm) (m1 : mm < 6) (t0 : 0 ≤ tl) (t1 : tl < 2) :
    (textF kind hi mm tl).length = (headT hi).length + (runT kind (17 + mm)).length + 1 ∧ (headT hi).length ≤ 2 := by
  obtain ⟨h, rfl, hh⟩ := nat_of (n := 7) i0 i1
  obtain ⟨t, rfl, ht⟩ := nat_of (n := 2) t0 t1
  have e : ∀ k, k < 7 → (headT (k : Nat)).length ≤ 2 := by decide +kernel
  refine ⟨?_, e h hh⟩
  unfold textF
  rw [Str.length_append, Str.length_append, str_len (tailT t), tail_sy t ht]
  rfl
end Mine
namespace Mine
set_option maxRecDepth 100000
set_option linter.unusedVariables false
set_option linter.unusedSimpArgs false
theorem bnd_in {x : Str} {p : Int} (p0 : 1 ≤ p) (p1 : p ≤ x.length) : bndF x p = fcsF x p := by
  unfold bndF; rw [if_neg (by omega), if_neg (by omega), if_neg (by omega)]
theorem bnd_past {x : Str} {p : Int} (h : 0 < x.length) (p1 : (x.length : Int) < p) : bndF x p = fcsF x x.length := by
  unfold bndF; rw [if_neg (by omega), if_neg (by omega), if_pos p1]
theorem bnd_e {x : Str} {p : Int} (h : x.length = 0) : bndF x p = 0 := by
  unfold bndF
  by_cases hp : p ≤ 0
  · rw [if_pos hp]
  · rw [if_neg hp, if_pos h]
theorem bnd_0 {x : Str} {p : Int} (p1 : p ≤ 0) : bndF x p = 0 := if_pos p1
end Mine
namespace Mine
set_option maxRecDepth 100000
set_option linter.unusedVariables false
set_option linter.unusedSimpArgs false
local macro_rules | `(tactic| walk_at "call ref") => `(tactic| (k_here; (with_reducible show wpAny _ _ (call (Value.ref 410) _ _) _ _ _); refine stop_out ?_))
local macro_rules | `(tactic| walk_at "call ref") => `(tactic| (k_here; (with_reducible show wpAny _ _ (call (Value.ref 410) [Value.ref _, Value.int _ _]) _ _ _); k_dflt (refine' ct_take ?k1 ?k2 ?k3 ?k4 ?k5 ?kK ?kd ?ku ?kI ?kc ?kq ?k6 ?k7 ?km ?kn ?_; (case k4 => k_asm); (case k1 => k_asm); (case k2 => k_asm); (case k3 => k_asm); (case k5 => k_asm); (case kK => first | exact rfl | assumption); (case kd => ktr_room); (case ku => ktr_units); (case kI => assumption); (case kc => assumption); (case kq => assumption); (case k6 => exact List.forall_mem_nil _); (case k7 => exact List.forall_mem_nil _); (case km => omega); (case kn => omega); k_whole); intro r' t' seed' ts' n1' n2' cells' ms' h' tk' hr0 hr1 F' N' hI' hC'; (try dsimp only); (try k_fold)))
local macro_rules | `(tactic| walk_at "call ref") => `(tactic| (k_here; (with_reducible show wpAny _ _ (call (Value.ref 403) [Value.ref _]) _ _ _); k_dflt (refine' ct_draw ?k1 ?k2 ?k3 ?k4 ?k5 ?kK ?kd ?ku ?hL ?hI ?hn ?_; (case k1 => k_asm); (case k2 => k_asm); (case k3 => k_asm); (case k4 => k_asm); (case k5 => k_asm); (case kK => first | exact rfl | assumption); (case kd => ktr_room); (case ku => ktr_units); (case hL => assumption); (case hI => assumption); (case hn => omega); k_whole); rintro d' q' seed' t' n1' n2' ⟨cells'⟩ ms' h' tk' F' N' hI' hC' l1 l2; (dsimp only at hI' hC'); (rw [List.size_toArray] at hC'); (try dsimp only); (try k_fold)))
local macro_rules | `(tactic| walk_at "call ref") => `(tactic| (k_here; (with_reducible show wpAny _ _ (call (Value.ref 417) [Value.int _ _, Value.int _ _]) _ _ _); k_dflt (refine' ct_run ?k1 ?k2 ?k3 ?k4 ?k5 ?kK ?kd ?ku ?h0 ?h1 ?h2 ?h3 ?_; (case k1 => k_asm); (case k2 => k_asm); (case k3 => k_asm); (case k4 => k_asm); (case k5 => k_asm); (case kK => first | exact rfl | assumption); (case kd => ktr_room); (case ku => ktr_units); (case h0 => omega); (case h1 => omega); (case h2 => omega); (case h3 => omega); k_whole); intro D' l' vs' n' t' h' tk' F' N' hI' l1 l2; (k_lt l1); (try dsimp only); (try k_fold)))
local macro_rules | `(tactic| walk_at "call ref") => `(tactic| (k_here; (with_reducible show wpAny _ _ (call (Value.ref 376) [Value.str _ _, Value.int _ _]) _ _ _); k_dflt (refine' ct_fcs ?k1 ?k2 ?k3 ?k4 ?k5 ?kK ?kd ?ku ?h1 ?h2 ?h3 ?_; (case k1 => k_asm); (case k2 => k_asm); (case k3 => k_asm); (case k4 => k_asm); (case k5 => k_asm); (case kK => first | exact rfl | assumption); (case kd => ktr_room); (case ku => ktr_units); (case h1 => omega); (case h2 => omega); (case h3 => omega); k_whole); intro t' h' tk' F' N'; (try dsimp only); (try k_fold)))
local macro_rules | `(tactic| walk_at "call ref") => `(tactic| (k_here; (with_reducible show wpAny _ _ (call (Value.ref 383) [Value.str _ _, Value.int _ _]) _ _ _); k_dflt (refine' ct_bnd ?k1 ?k2 ?k3 ?k4 ?k5 ?kK ?kd ?ku ?h1 ?_; (case k1 => k_asm); (case k2 => k_asm); (case k3 => k_asm); (case k4 => k_asm); (case k5 => k_asm); (case kK => first | exact rfl | assumption); (case kd => ktr_room); (case ku => ktr_units); (case h1 => first | omega | decide); k_whole); intro t' h' tk' F' N'; (try dsimp only); (try k_fold)))
local macro_rules | `(tactic| walk_at "call ref") => `(tactic| (k_here; (with_reducible show wpAny _ _ (call (Value.ref 424) [Value.ref _, Value.int _ _]) _ _ _); k_dflt (refine' ct_start ?k1 ?k2 ?k3 ?k4 ?k5 ?kK ?kd ?ku ?h1 ?h2 ?_; (case k1 => k_asm); (case k2 => k_asm); (case k3 => k_asm); (case k4 => k_asm); (case k5 => k_asm); (case kK => first | exact rfl | assumption); (case kd => ktr_room); (case ku => ktr_units); (case h1 => k_mem); (case h2 => assumption); k_whole); intro t' h' tk' F' N'; (try dsimp only); (try k_fold)))
local macro_rules | `(tactic| walk_at "pyIter ref") => `(tactic| (k_here; (with_reducible show wpAny _ _ (pyIter (Value.ref _)) (CompPost _ _ _ _ _ _ _ _ _) _ _); refine stop_out ?_))
local macro_rules | `(tactic| walk_at "eval Name") => `(tactic| (k_here; k_inBlock; (with_reducible rename Fr _ _ _ _ => kF); k_dflt (refine' nameG_B kF ?k1 ?k2 ?k3 ?kv ?kn ?_ ?k4 ?k8 ?k5 ?k6 ?k7; (case k4 => rfl); (case k8 => rfl); (case k5 => rfl); (case k6 => rfl); (case k7 => decide); (case k1 => k_asm); (case k2 => k_asm); (case k3 => k_is); (case kv => boot_by_name); (case kn => decide); k_whole)))
local macro_rules | `(tactic| walk_at "call ref") => `(tactic| (k_here; (with_reducible show wpAny _ _ (call (Value.ref 369) _ _) _ _ _); refine stop_out ?_))
local macro_rules | `(tactic| walk_at "compareOp NotEq str") => `(tactic| (k_here; (with_reducible show wpAny _ _ (compareOp CmpOp.NotEq (Value.str _ _) (Value.str _ _)) _ _ _); refine ne_same ?_; (try dsimp only)))
local macro_rules | `(tactic| walk_at "compareOp NotEq str str") => `(tactic| (k_here; (with_reducible show wpAny _ _ (compareOp CmpOp.NotEq (Value.str _ _) (Value.str _ _)) _ _ _); refine ne_same ?_; (try dsimp only)))
set_option maxHeartbeats 8000000 in
theorem law_walk : PySem.Challenge.rw_ax6034_01.Holds := hd (by
  k_fill
  intro w s₀ s₁ mg mb G Y fa o pm cd doc dV kV ho hdd hcd hD hmg hg args vals as hpre hlay hrd hwl hlo
  have KX := kIn_of Y
  have X := (Ground.X G).1
  have V := (Ground.X G).2
  try w_nolog (first | (have GL := glob_more (Ground.glob G (by first | k_qdec | decide +kernel) (by first | k_qdec | decide +kernel)) V) | (have GL := glob_more (Ground.glob G (by decide +kernel)) V))
  refine Ground.open G ?_
  intro T B D TE TW
  try (refine guard_noD D (by decide +kernel) ?_; clear D)
  obtain ⟨_, _, M⟩ := bmod_of_top T
  have TA := at_of_top T
  try (obtain ⟨_, _, he, B0⟩ := based_of_top T rfl hmg ho hdd; have he' : cd = _ := he; subst he'; clear he)
  clear hmg
  wrow_args hpre hlay hrd hwl hlo
  all_goals (
    first | refine callC_kw (enter_call ?_) | refine enter_call ?_ | refine callC_kw (enter_callW ?_) | refine enter_callW ?_ | w_how
    w_top on
    have K0 := below_caller (Top.heap T)
    w_call any ho hdd hcd hD T F
    clear hdd TA
    k_drop
    skip)
  all_goals try k_fold
  clear GL V TE TW M hD hcd
  rename IntsAre _ _ => hI0
  rename Heap.IsList _ _ _ => hL0
  rename Fr _ _ _ _ => F0
  refine execs_cut 3 PostA F0 ?segA ?rest
  case segA =>
    dsimp only [List.take, List.drop]
    k_steps
    all_goals (rename Fr _ _ _ _ => F9; rename News _ _ _ _ => N9)
    all_goals first
      | (refine' ⟨_, 0, _, _, _, _, _, _, _, _, _, _, _, _, rfl, ?_, ?_, by decide, by decide, ?_, ?_, ?_, F9, N9, memc rfl (memc rfl (memc rfl (List.forall_mem_nil _)))⟩ <;> assumption)
      | (refine' ⟨_, 1, _, _, _, _, _, _, _, _, _, _, _, _, rfl, ?_, ?_, by decide, by decide, ?_, ?_, ?_, F9, N9, memc rfl (memc rfl (memc rfl (List.forall_mem_nil _)))⟩ <;> assumption)
      | (refine' ⟨_, 2, _, _, _, _, _, _, _, _, _, _, _, _, rfl, ?_, ?_, by decide, by decide, ?_, ?_, ?_, F9, N9, memc rfl (memc rfl (memc rfl (List.forall_mem_nil _)))⟩ <;> assumption)
      | (refine' ⟨_, 3, _, _, _, _, _, _, _, _, _, _, _, _, rfl, ?_, ?_, by decide, by decide, ?_, ?_, ?_, F9, N9, memc rfl (memc rfl (memc rfl (List.forall_mem_nil _)))⟩ <;> assumption)
      | (refine' ⟨_, 4, _, _, _, _, _, _, _, _, _, _, _, _, rfl, ?_, ?_, by decide, by decide, ?_, ?_, ?_, F9, N9, memc rfl (memc rfl (memc rfl (List.forall_mem_nil _)))⟩ <;> assumption)
      | (refine' ⟨_, 5, _, _, _, _, _, _, _, _, _, _, _, _, rfl, ?_, ?_, by decide, by decide, ?_, ?_, ?_, F9, N9, memc rfl (memc rfl (memc rfl (List.forall_mem_nil _)))⟩ <;> assumption)
      | (refine' ⟨_, 6, _, _, _, _, _, _, _, _, _, _, _, _, rfl, ?_, ?_, by decide, by decide, ?_, ?_, ?_, F9, N9, memc rfl (memc rfl (memc rfl (List.forall_mem_nil _)))⟩ <;> assumption)
  case rest =>
    rintro _ ⟨kind, hi, d, q, seed, tk1, ts, n1, n2, cells, ms, h, tk, m, rfl, k0, k1, i0, i1, hI, hc, hqd, F, N, hm⟩
    replace F := fr_said F hm
    clear hm
    dsimp only [kstB, List.drop] at *
    clear F0
    refine execs_cut 2 PostB F ?segB ?rest2
    case segB =>
      dsimp only [List.take, List.drop]
      k_steps
      unfold Stopped
      rename Fr _ _ _ _ => F9
      rename News _ _ _ _ => N9
      rename _ ∧ _ ∧ _ ∧ _ => lt
      rename d < _ ∧ q < _ => lr
      rename _ < (_ : Addr) => l2
      have N8 := kst_newsOf N9 (memc (.tail _ (.tail _ (.tail _ (.head _)))) (memc (.tail _ (.tail _ (.tail _ (.tail _ (.head _))))) (memc (.head _) (memc (.tail _ (.head _)) (memc (.tail _ (.tail _ (.head _))) (List.forall_mem_nil _))))))
      clear N9
      (k_dflt (refine' ct_take ?k1 ?k2 ?k3 N8 ?k5 ?kK ?kd ?ku ?kI ?kc hqd ?k6 ?k7 ?km ?kn ?_; (case k1 => k_asm); (case k2 => k_asm); (case k3 => k_asm); (case k5 => k_asm); (case kK => first | exact rfl | assumption); (case kd => ktr_room); (case ku => ktr_units); (case kI => assumption); (case kc => assumption); (case km => omega); (case kn => omega); k_whole))
      case k6 => exact memc (Nat.ne_of_gt lt.2.2.1) (memc (Nat.ne_of_gt (Nat.lt_trans lr.1 l2)) (memc (Nat.ne_of_gt lr.1) (List.forall_mem_nil _)))
      case k7 => exact memc (Nat.ne_of_gt lt.2.2.2) (memc (Nat.ne_of_gt (Nat.lt_trans lr.2 l2)) (memc (Nat.ne_of_gt lr.2) (List.forall_mem_nil _)))
      intro r' t' seed' ts' n1' n2' cells' ms' h' tk' hr0 hr1 F' N' hI' hC'
      (try dsimp only)
      (try k_fold)
      clear N8
      k_steps
      all_goals (rename Fr _ _ _ _ => F9; rename News _ _ _ _ => N9)
      all_goals (have N10 := kst_newsOf N9 (memc (.head _) (memc (.tail _ (.head _)) (memc (.tail _ (.tail _ (.tail _ (.head _)))) (memc (.tail _ (.tail _ (.tail _ (.tail _ (.head _))))) (List.forall_mem_nil _))))))
      all_goals first
        | (refine' ⟨kind, hi, _, 0, d, q, _, _, _, _, _, _, _, _, _, _, _, _, _, _, _, rfl, k0, k1, i0, i1, ?_, ?_, by decide, by decide, hI', hC', ?_, hqd, lr.1, l2, F9, N10, memc rfl (memc rfl (memc rfl (memc rfl (List.forall_mem_nil _))))⟩ <;> assumption)
        | (refine' ⟨kind, hi, _, 1, d, q, _, _, _, _, _, _, _, _, _, _, _, _, _, _, _, rfl, k0, k1, i0, i1, ?_, ?_, by decide, by decide, hI', hC', ?_, hqd, lr.1, l2, F9, N10, memc rfl (memc rfl (memc rfl (memc rfl (List.forall_mem_nil _))))⟩ <;> assumption)
    case rest2 =>
      clear F N hqd hI hc
      rintro _ ⟨kind, hi, mm, tl, d, q, D, l, seed, tt, ts, tr, n1, n2, n3, cells, ms, vs, h, tk, m, rfl, k0, k1, i0, i1, m0, m1, t0, t1, hI, hc, hv, hqd, hdl, hlD, F, N, hm⟩
      replace F := fr_said F hm
      clear hm
      dsimp only [kstB, List.drop] at *
      have hR := runT_len k0 k1 m0 m1
      have hT := tailT_len t0 t1
      have hRL := runL_len k0 k1 m0 m1
      refine execs_cut 3 PostC F ?segC ?rest3
      case segC =>
        dsimp only [List.take, List.drop]
        rcases cases7 i0 i1 with rfl | rfl | rfl | rfl | rfl | rfl | rfl
        · rw [show headA 0 = 385 from rfl] at F
          obtain ⟨ws, hws, hls⟩ : ∃ ws : List Value, IntsAre ws (headL 0) ∧ Heap.IsList _ 384 ws.toArray := by
            refine' ⟨_, ?y0a, isList_K KX ?y0b⟩
            case y0b => k_is
            case y0a => exact .nil
          have hHL : (headL 0).length ≤ 2 := by decide
          k_steps
          rename Fr _ _ _ _ => F9
          rename News _ _ _ _ => N9
          rename IntsAre _ (_ ++ _ ++ _) => hus
          rename _ ∧ _ ∧ _ ∧ _ ∧ _ ∧ _ => l6
          have N10 := kst_newsOf N9 (memc (.tail _ (.tail _ (.tail _ (.head _)))) (memc (.tail _ (.tail _ (.tail _ (.tail _ (.head _))))) (memc (.tail _ (.tail _ (.tail _ (.tail _ (.tail _ (.head _)))))) (memc (.tail _ (.tail _ (.tail _ (.tail _ (.tail _ (.tail _ (.head _))))))) (memc (.head _) (List.forall_mem_nil _))))))
          exact ⟨kind, 0, mm, tl, d, q, D, l, _, seed, ts, tr, _, _, n1, n2, n3, _, cells, ms, vs, _, _, _, _, rfl, k0, k1, by decide, by decide, m0, m1, t0, t1, hI, hc, hus, hqd, hdl, hlD, l6.2.2.2.2.1, F9, N10, memc rfl (memc rfl (memc rfl (memc rfl (memc rfl (List.forall_mem_nil _)))))⟩
        · rw [show headA 1 = 387 from rfl] at F
          obtain ⟨ws, hws, hls⟩ : ∃ ws : List Value, IntsAre ws (headL 1) ∧ Heap.IsList _ 386 ws.toArray := by
            refine' ⟨_, ?y1a, isList_K KX ?y1b⟩
            case y1b => k_is
            case y1a => exact .cons _ _ .nil
          have hHL : (headL 1).length ≤ 2 := by decide
          k_steps
          rename Fr _ _ _ _ => F9
          rename News _ _ _ _ => N9
          rename IntsAre _ (_ ++ _ ++ _) => hus
          rename _ ∧ _ ∧ _ ∧ _ ∧ _ ∧ _ => l6
          have N10 := kst_newsOf N9 (memc (.tail _ (.tail _ (.tail _ (.head _)))) (memc (.tail _ (.tail _ (.tail _ (.tail _ (.head _))))) (memc (.tail _ (.tail _ (.tail _ (.tail _ (.tail _ (.head _)))))) (memc (.tail _ (.tail _ (.tail _ (.tail _ (.tail _ (.tail _ (.head _))))))) (memc (.head _) (List.forall_mem_nil _))))))
          exact ⟨kind, 1, mm, tl, d, q, D, l, _, seed, ts, tr, _, _, n1, n2, n3, _, cells, ms, vs, _, _, _, _, rfl, k0, k1, by decide, by decide, m0, m1, t0, t1, hI, hc, hus, hqd, hdl, hlD, l6.2.2.2.2.1, F9, N10, memc rfl (memc rfl (memc rfl (memc rfl (memc rfl (List.forall_mem_nil _)))))⟩
        · rw [show headA 2 = 389 from rfl] at F
          obtain ⟨ws, hws, hls⟩ : ∃ ws : List Value, IntsAre ws (headL 2) ∧ Heap.IsList _ 388 ws.toArray := by
            refine' ⟨_, ?y2a, isList_K KX ?y2b⟩
            case y2b => k_is
            case y2a => exact .cons _ _ (.cons _ _ .nil)
          have hHL : (headL 2).length ≤ 2 := by decide
          k_steps
          rename Fr _ _ _ _ => F9
          rename News _ _ _ _ => N9
          rename IntsAre _ (_ ++ _ ++ _) => hus
          rename _ ∧ _ ∧ _ ∧ _ ∧ _ ∧ _ => l6
          have N10 := kst_newsOf N9 (memc (.tail _ (.tail _ (.tail _ (.head _)))) (memc (.tail _ (.tail _ (.tail _ (.tail _ (.head _))))) (memc (.tail _ (.tail _ (.tail _ (.tail _ (.tail _ (.head _)))))) (memc (.tail _ (.tail _ (.tail _ (.tail _ (.tail _ (.tail _ (.head _))))))) (memc (.head _) (List.forall_mem_nil _))))))
          exact ⟨kind, 2, mm, tl, d, q, D, l, _, seed, ts, tr, _, _, n1, n2, n3, _, cells, ms, vs, _, _, _, _, rfl, k0, k1, by decide, by decide, m0, m1, t0, t1, hI, hc, hus, hqd, hdl, hlD, l6.2.2.2.2.1, F9, N10, memc rfl (memc rfl (memc rfl (memc rfl (memc rfl (List.forall_mem_nil _)))))⟩
        · rw [show headA 3 = 391 from rfl] at F
          obtain ⟨ws, hws, hls⟩ : ∃ ws : List Value, IntsAre ws (headL 3) ∧ Heap.IsList _ 390 ws.toArray := by
            refine' ⟨_, ?y3a, isList_K KX ?y3b⟩
            case y3b => k_is
            case y3a => exact .cons _ _ .nil
          have hHL : (headL 3).length ≤ 2 := by decide
          k_steps
          rename Fr _ _ _ _ => F9
          rename News _ _ _ _ => N9
          rename IntsAre _ (_ ++ _ ++ _) => hus
          rename _ ∧ _ ∧ _ ∧ _ ∧ _ ∧ _ => l6
          have N10 := kst_newsOf N9 (memc (.tail _ (.tail _ (.tail _ (.head _)))) (memc (.tail _ (.tail _ (.tail _ (.tail _ (.head _))))) (memc (.tail _ (.tail _ (.tail _ (.tail _ (.tail _ (.head _)))))) (memc (.tail _ (.tail _ (.tail _ (.tail _ (.tail _ (.tail _ (.head _))))))) (memc (.head _) (List.forall_mem_nil _))))))
          exact ⟨kind, 3, mm, tl, d, q, D, l, _, seed, ts, tr, _, _, n1, n2, n3, _, cells, ms, vs, _, _, _, _, rfl, k0, k1, by decide, by decide, m0, m1, t0, t1, hI, hc, hus, hqd, hdl, hlD, l6.2.2.2.2.1, F9, N10, memc rfl (memc rfl (memc rfl (memc rfl (memc rfl (List.forall_mem_nil _)))))⟩
        · rw [show headA 4 = 393 from rfl] at F
          obtain ⟨ws, hws, hls⟩ : ∃ ws : List Value, IntsAre ws (headL 4) ∧ Heap.IsList _ 392 ws.toArray := by
            refine' ⟨_, ?y4a, isList_K KX ?y4b⟩
            case y4b => k_is
            case y4a => exact .cons _ _ .nil
          have hHL : (headL 4).length ≤ 2 := by decide
          k_steps
          rename Fr _ _ _ _ => F9
          rename News _ _ _ _ => N9
          rename IntsAre _ (_ ++ _ ++ _) => hus
          rename _ ∧ _ ∧ _ ∧ _ ∧ _ ∧ _ => l6
          have N10 := kst_newsOf N9 (memc (.tail _ (.tail _ (.tail _ (.head _)))) (memc (.tail _ (.tail _ (.tail _ (.tail _ (.head _))))) (memc (.tail _ (.tail _ (.tail _ (.tail _ (.tail _ (.head _)))))) (memc (.tail _ (.tail _ (.tail _ (.tail _ (.tail _ (.tail _ (.head _))))))) (memc (.head _) (List.forall_mem_nil _))))))
          exact ⟨kind, 4, mm, tl, d, q, D, l, _, seed, ts, tr, _, _, n1, n2, n3, _, cells, ms, vs, _, _, _, _, rfl, k0, k1, by decide, by decide, m0, m1, t0, t1, hI, hc, hus, hqd, hdl, hlD, l6.2.2.2.2.1, F9, N10, memc rfl (memc rfl (memc rfl (memc rfl (memc rfl (List.forall_mem_nil _)))))⟩
        · rw [show headA 5 = 395 from rfl] at F
          obtain ⟨ws, hws, hls⟩ : ∃ ws : List Value, IntsAre ws (headL 5) ∧ Heap.IsList _ 394 ws.toArray := by
            refine' ⟨_, ?y5a, isList_K KX ?y5b⟩
            case y5b => k_is
            case y5a => exact .cons _ _ .nil
          have hHL : (headL 5).length ≤ 2 := by decide
          k_steps
          rename Fr _ _ _ _ => F9
          rename News _ _ _ _ => N9
          rename IntsAre _ (_ ++ _ ++ _) => hus
          rename _ ∧ _ ∧ _ ∧ _ ∧ _ ∧ _ => l6
          have N10 := kst_newsOf N9 (memc (.tail _ (.tail _ (.tail _ (.head _)))) (memc (.tail _ (.tail _ (.tail _ (.tail _ (.head _))))) (memc (.tail _ (.tail _ (.tail _ (.tail _ (.tail _ (.head _)))))) (memc (.tail _ (.tail _ (.tail _ (.tail _ (.tail _ (.tail _ (.head _))))))) (memc (.head _) (List.forall_mem_nil _))))))
          exact ⟨kind, 5, mm, tl, d, q, D, l, _, seed, ts, tr, _, _, n1, n2, n3, _, cells, ms, vs, _, _, _, _, rfl, k0, k1, by decide, by decide, m0, m1, t0, t1, hI, hc, hus, hqd, hdl, hlD, l6.2.2.2.2.1, F9, N10, memc rfl (memc rfl (memc rfl (memc rfl (memc rfl (List.forall_mem_nil _)))))⟩
        · rw [show headA 6 = 397 from rfl] at F
          obtain ⟨ws, hws, hls⟩ : ∃ ws : List Value, IntsAre ws (headL 6) ∧ Heap.IsList _ 396 ws.toArray := by
            refine' ⟨_, ?y6a, isList_K KX ?y6b⟩
            case y6b => k_is
            case y6a => exact .cons _ _ .nil
          have hHL : (headL 6).length ≤ 2 := by decide
          k_steps
          rename Fr _ _ _ _ => F9
          rename News _ _ _ _ => N9
          rename IntsAre _ (_ ++ _ ++ _) => hus
          rename _ ∧ _ ∧ _ ∧ _ ∧ _ ∧ _ => l6
          have N10 := kst_newsOf N9 (memc (.tail _ (.tail _ (.tail _ (.head _)))) (memc (.tail _ (.tail _ (.tail _ (.tail _ (.head _))))) (memc (.tail _ (.tail _ (.tail _ (.tail _ (.tail _ (.head _)))))) (memc (.tail _ (.tail _ (.tail _ (.tail _ (.tail _ (.tail _ (.head _))))))) (memc (.head _) (List.forall_mem_nil _))))))
          exact ⟨kind, 6, mm, tl, d, q, D, l, _, seed, ts, tr, _, _, n1, n2, n3, _, cells, ms, vs, _, _, _, _, rfl, k0, k1, by decide, by decide, m0, m1, t0, t1, hI, hc, hus, hqd, hdl, hlD, l6.2.2.2.2.1, F9, N10, memc rfl (memc rfl (memc rfl (memc rfl (memc rfl (List.forall_mem_nil _)))))⟩
      case rest3 =>
        clear F N hI hc hv hqd hdl hlD hR hT hRL i0 i1 k0 k1 m0 m1 t0 t1
        rintro _ ⟨kind, hi, mm, tl, d, q, D, l, e, seed, ts, tr, tw, tb, n1, n2, n3, n4, cells, ms, vs, us, h, tk, m, rfl, k0, k1, i0, i1, m0, m1, t0, t1, hI, hc, hus, hqd, hdl, hlD, hDe, F, N, hm⟩
        replace F := fr_said F hm
        clear hm
        dsimp only [kstB, List.drop] at *
        have hR := runT_len k0 k1 m0 m1
        have hX := law5 k0 k1 i0 i1 m0 m1 t0 t1
        refine execs_cut 5 PostD F ?segD ?rest4
        case segD =>
          dsimp only [List.take, List.drop]
          k_steps
          unfold Stopped
          rename Fr _ _ _ _ => F9
          rename News _ _ _ _ => N9
          (k_dflt (refine' ct_take ?a1 ?a2 ?a3 N9 ?a5 ?aK ?ad ?au ?aI ?ac hqd ?a6 ?a7 ?am ?an ?_; (case a1 => k_asm); (case a2 => k_asm); (case a3 => k_asm); (case a5 => k_asm); (case aK => first | exact rfl | assumption); (case ad => ktr_room); (case au => ktr_units); (case aI => assumption); (case ac => assumption); (case am => omega); (case an => omega); k_whole))
          case a6 => exact memc (Nat.ne_of_gt (Nat.lt_trans hdl hlD)) (memc (Nat.ne_of_gt hdl) (memc (Nat.ne_of_gt (Nat.lt_trans (Nat.lt_trans hdl hlD) hDe)) (List.forall_mem_nil _)))
          case a7 => exact memc (Nat.ne_of_gt (Nat.lt_trans hqd (Nat.lt_trans hdl hlD))) (memc (Nat.ne_of_gt (Nat.lt_trans hqd hdl)) (memc (Nat.ne_of_gt (Nat.lt_trans hqd (Nat.lt_trans (Nat.lt_trans hdl hlD) hDe))) (List.forall_mem_nil _)))
          clear hI hc F9 N9
          intro r1 t' seed' ts' n1' n2' cells' ms' h' tk' hr0 hr1 F' N' hI hc
          (try dsimp only)
          (try k_fold)
          have e1 := law1 (p := ((headT hi).length : Int) + 16 + r1) k0 k1 i0 i1 m0 m1 t0 t1 (by omega) (by omega)
          k_steps
          all_goals (try exact absurd e1 (by assumption))
          unfold Stopped
          clear e1
          rename Fr _ _ _ _ => F9
          rename News _ _ _ _ => N9
          (k_dflt (refine' ct_take ?b1 ?b2 ?b3 N9 ?b5 ?bK ?bd ?bu ?bI ?bc hqd ?b6 ?b7 ?bm ?bn ?_; (case b1 => k_asm); (case b2 => k_asm); (case b3 => k_asm); (case b5 => k_asm); (case bK => first | exact rfl | assumption); (case bd => ktr_room); (case bu => ktr_units); (case bI => assumption); (case bc => assumption); (case bm => omega); (case bn => omega); k_whole))
          case b6 => exact memc (Nat.ne_of_gt (Nat.lt_trans hdl hlD)) (memc (Nat.ne_of_gt hdl) (memc (Nat.ne_of_gt (Nat.lt_trans (Nat.lt_trans hdl hlD) hDe)) (List.forall_mem_nil _)))
          case b7 => exact memc (Nat.ne_of_gt (Nat.lt_trans hqd (Nat.lt_trans hdl hlD))) (memc (Nat.ne_of_gt (Nat.lt_trans hqd hdl)) (memc (Nat.ne_of_gt (Nat.lt_trans hqd (Nat.lt_trans (Nat.lt_trans hdl hlD) hDe))) (List.forall_mem_nil _)))
          clear hI hc F9 N9
          intro r2 t' seed' ts' n1' n2' cells' ms' h' tk' hs0 hs1 F' N' hI hc
          (try dsimp only)
          (try k_fold)
          have e1 := law1 (p := 1 + r2) k0 k1 i0 i1 m0 m1 t0 t1 (by omega) (by omega)
          have e2 := (bnd_in (x := textF kind hi mm tl) (p := 1 + r2) (by omega) (by omega)).trans e1
          k_steps
          all_goals first | exact absurd e1 (by assumption) | exact absurd e2 (by assumption) | skip
          clear e1 e2
          rename Fr _ _ _ _ => F9
          rename News _ _ _ _ => N9
          exact ⟨kind, hi, mm, tl, e, tw, n4, us, _, _, _, rfl, k0, k1, i0, i1, m0, m1, t0, t1, hus, F9, kst_newsOf N9 (memc (.tail _ (.tail _ (.tail _ (.tail _ (.head _))))) (List.forall_mem_nil _)), memc rfl (memc rfl (List.forall_mem_nil _))⟩
        case rest4 =>
          clear F N hI hc hus hqd hdl hlD hDe hR hX i0 i1 k0 k1 m0 m1 t0 t1
          rintro _ ⟨kind, hi, mm, tl, e, tw, n4, us, h, tk, m, rfl, k0, k1, i0, i1, m0, m1, t0, t1, hus, F, N, hm⟩
          replace F := fr_said F hm
          clear hm
          dsimp only [kstB, List.drop] at *
          have hR := runT_len k0 k1 m0 m1
          have hX := law5 k0 k1 i0 i1 m0 m1 t0 t1
          refine execs_cut 2 PostE F ?segE ?rest5
          case segE =>
            dsimp only [List.take, List.drop]
            k_steps
            unfold Stopped
            rename Fr _ _ _ _ => F9
            rename News _ _ _ _ => N9
            (k_dflt (refine' ct_iter ?c1 ?c2 ?c3 ?c4 ?c5 ?cK ?cd ?cu ?c6 ?c7 ?c8 ?_; (case c1 => k_asm); (case c2 => k_asm); (case c3 => k_asm); (case c4 => k_asm); (case c5 => k_asm); (case cK => first | exact rfl | assumption); (case cd => ktr_room); (case cu => ktr_units); (case c6 => omega); (case c7 => omega); (case c8 => exact AllBare.of_eq hg); k_whole))
            intro I h' g' tk' F' N' hlist
            (try dsimp only)
            (try k_fold)
            k_steps
            refine hlist _ _ ?_
            clear hlist F9 N9 F' N'
            rintro p9 ⟨ps⟩ np h' g' tk' F' N' l1 hps hgb
            k_lt l1
            (try dsimp only)
            (try k_fold)
            k_steps
            unfold Stopped
            rename Fr _ _ _ _ => F3
            rename News _ _ _ _ => N3
            replace hps : StrsAre ps (textsOf (textF kind hi mm tl)) := hps
            have hpl : ps.length ≤ 26 := by
              rw [strs_len hps]
              exact Nat.le_trans (piecesF_len (n := (textF kind hi mm tl).length - 1)) (by omega)
            refine src_map (vs := ps) (fun v y => ∃ x t t', v = Value.str x t ∧ y = Value.int (x.length : Int) t') (by rfl) (isList_of N3 (.head _)) F3 N3 (by rw [PySem.sizeLine_eq]; omega) ?de ?df
            case de =>
              intro C v s₂ m₂ E' hv hns hm hk
              have F4 := F3.keeps hk
              clear F3 N3
              obtain ⟨xv, tv, rfl, hxm⟩ := strs_mem2 hps hv
              have hxl : xv.length ≤ 26 := Nat.le_trans (piecesF_le hxm) (by omega)
              clear hps hpl hR hX hus hgb hxm
              k_steps
              exact ⟨_, _, rfl, fun _ _ e => e⟩
            case df =>
              rintro Dc ⟨zs⟩ nz h' tk' F5 N5 hp
              have hl4 := law4 k0 k1 i0 i1 m0 m1 t0 t1
              have hzi := lens_paired hps hp
              rw [hl4.1] at hzi
              clear F3 N3 hp
              k_steps
              rename Fr _ _ _ _ => F7
              rename News _ _ _ _ => N7
              refine join_list (items := ps.toArray) (ys := textsOf (textF kind hi mm tl)) (isList_of N7 (.tail _ (.head _))) hps ?hjk ?_
              case hjk =>
                have hjs := sum_le (B := 26) (ys := textsOf (textF kind hi mm tl)) fun y hy => Nat.le_trans (piecesF_le hy) (by omega)
                rw [← strs_len hps] at hjs ⊢
                have : (Str.ofString "").length = 0 := by decide
                rw [this]; omega
              intro tj kj
              rw [hl4.2]
              clear hl4 hps hpl hzi hus hR
              k_steps
              rename Fr _ _ _ _ => F9
              exact ⟨kind, hi, mm, tl, tw, _, _, _, _, rfl, k0, k1, i0, i1, m0, m1, t0, t1, hgb, F9, (fun _ h => nomatch h), rfl⟩
          case rest5 =>
            clear F N hus hR hX i0 i1 k0 k1 m0 m1 t0 t1
            rintro _ ⟨kind, hi, mm, tl, tw, h, g, tk, m, rfl, k0, k1, i0, i1, m0, m1, t0, t1, hgb, F, N, hm⟩
            replace F := fr_said F (mem1 (P := fun p : Str × Value => m p.1 = some p.2) (a := (Str.ofString "written", .str (textF kind hi mm tl) tw)) hm)
            clear hm
            dsimp only [kstB, List.drop] at *
            have hR := runT_len k0 k1 m0 m1
            have hX := law5 k0 k1 i0 i1 m0 m1 t0 t1
            have b1 : bndF (textF kind hi mm tl) ((textF kind hi mm tl).length + 3) = (textF kind hi mm tl).length - 1 :=
              (bnd_past (by omega) (by omega)).trans ((law1 k0 k1 i0 i1 m0 m1 t0 t1 (by omega) (by omega)).trans (law3 k0 k1 i0 i1 m0 m1 t0 t1))
            have b2 : bndF (textF kind hi mm tl) 0 = 0 := bnd_0 (by decide)
            have b3 : bndF (textF kind hi mm tl) (-5) = 0 := bnd_0 (by decide)
            have b4 : bndF (Str.ofString "") 3 = 0 := bnd_e (by decide)
            have hl : (textF kind hi mm tl).length ≤ 26 := by omega
            have hl1 : 1 ≤ (textF kind hi mm tl).length := by omega
            clear hR hX i0 i1 k0 k1 m0 m1 t0 t1
            generalize textF kind hi mm tl = W at *
            k_steps
            · exact absurd b1 (by assumption)
            all_goals
              (rename Fr _ _ _ _ => F9
               first
               | exact end_G F9 hgb b4
               | exact end_G F9 hgb b3
               | exact end_G F9 hgb b2))
end Mine
theorem PySem.Challenge.cw_ax6034_01_holds : PySem.Challenge.rw_ax6034_01.Holds := by
  exact Mine.law_walk
#print axioms PySem.Challenge.cw_ax6034_01_holds
