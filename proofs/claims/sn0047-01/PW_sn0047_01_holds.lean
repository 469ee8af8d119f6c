import PyProof.Rows.All
import Wide.All
import OpenK.AllK
import Wide.FinOn
import PySem.Challenge.RW_sn0047_01
set_option Elab.async false
set_option rowWalk.seconds 0
section
open PySem PySem.W PyProof.Rows
namespace Mine
/-- the head's rule, by a name of mine -/
def headRule := @PySem.W.holds_open
/-- a premise that says little: an empty text's top runs to its end. «open_top» runs it at once; what is asked of the law's own top stands in the last premise of the wrapper below, and is proved behind «open_top» -/
def LeftX : Prop := LeftO (plainProg []) (plainProg []) [] (fun _ => true) (fun _ => ()) (fun _ => ()) 600
end Mine
/-- the head's rule with its first premise moved into its last one: «open_top» takes this one by its name -/
theorem Mine.PySem.W.holds_open {r : OpenRow} {q : Program} {loose : List Str} {Xt : Shared → Bool} {XP : (Str → Option Value) → Heap → Prop} {α : Type} {Yf : Shared → α} {Ya : World → α} {YP : World → Heap → Prop} {d : DefRec} {kwd : List (Str × Expr)} {N : Nat}
    (_ : LeftX) (hY : ∀ w s, Yf s = Ya w → YP w s.heap) (hYk : ∀ w h h', YP w h → (∀ b o, h.get? b = some o → h'.get? b = some o) → YP w h')
    (hX : ∀ s, Xt s = true → XP (s.heap.nsMap mainGlobals) s.heap) (hXk : ∀ mg h h', XP mg h → (∀ b o, h.get? b = some o → h'.get? b = some o) → XP mg h')
    (hdef : defOf q r.name = some (d, kwd)) (hp : r.prog.theDef r.name = some (d.params, d.body, d.scope)) (hk : kwWritten? d.params.kwonlyargs d.params.kw_defaults = some kwd)
    (hRf : ∀ s, Xt s = true → RecFacts r.records s.heap) (hwr : (!r.writes || r.records.isEmpty) = true) (k1 : r.wellSaid = true) (ok : (chainsOk q && opensWell r.prog && (frees r.toRowW && r.within.isEmpty)) = true)
    (hb : r.prog.bare) (hw : r.toRowW.promised) (call : LeftO r.prog q loose Xt Yf Ya N ∧ WalkO q loose XP YP r.toRowW d kwd fun f vs => PySem.call f vs) : r.Holds :=
  headRule call.1 hY hYk hX hXk hdef hp hk hRf hwr k1 ok hb hw call.2
namespace Mine
set_option maxRecDepth 100000 in
set_option maxHeartbeats 8000000 in
open_top hd for PySem.Challenge.rw_sn0047_01
/-- one of the two ways of the law's top: the world's row «special-get-raises» is held at b -/
def Branch {p q : Program} {loose : List Str} {Xt : Shared → Bool} {α : Type} {Yf : Shared → α} {Ya : World → α} {N : Nat} {W R : Prop} (_ : LeftO p q loose Xt Yf Ya N ∧ W → R) (b : Bool) (w : World) : Prop :=
  (openEnds treeTable p (w.withFollow "special-get-raises" b) N).map (fun s => (openSeen q loose (importedModules p.main.body) Xt true s, Yf s)) = some (openGood q loose, Ya (w.withFollow "special-get-raises" b))
theorem of_branches {p q : Program} {loose : List Str} {Xt : Shared → Bool} {α : Type} {Yf : Shared → α} {Ya : World → α} {N : Nat} {W R : Prop} (h : LeftO p q loose Xt Yf Ya N ∧ W → R) (hf : ∀ w, Branch h false w) (ht : ∀ w, Branch h true w) : W → R :=
  fun x => h ⟨byRow2 "special-get-raises" hf ht, x⟩
set_option maxRecDepth 100000 in
set_option maxHeartbeats 80000000 in
theorem topF : ∀ w, Branch Mine.hd false w := by
  intro w
  unfold Branch openEnds fencedOpening topFrom
  first
    | rewrite [PySem.W.Fast.te10274390034422433532, PySem.W.Fast.te14082659384304107361, PySem.W.Fast.te14364793385576792824, PySem.W.Fast.te14289696077712309145, PySem.W.Fast.te1435165496053646825, PySem.W.Fast.te4187177175401517315, PySem.W.Fast.te8920871248978507458]
    | skip
  kernel_rfl
set_option maxRecDepth 100000 in
set_option maxHeartbeats 80000000 in
theorem topT : ∀ w, Branch Mine.hd true w := by
  intro w
  unfold Branch openEnds fencedOpening topFrom
  first
    | rewrite [PySem.W.Fast.te10274390034422433532, PySem.W.Fast.te14082659384304107361, PySem.W.Fast.te14364793385576792824, PySem.W.Fast.te14289696077712309145, PySem.W.Fast.te1435165496053646825, PySem.W.Fast.te4187177175401517315, PySem.W.Fast.te8920871248978507458]
    | skip
  kernel_rfl
end Mine
end
open PySem PySem.W PySem.Calls PyProof.Rows
set_option maxRecDepth 100000
set_option genInjectivity false
set_option genSizeOfSpec false
namespace Mine
noncomputable section
theorem walkFresh0 : True := by
  w_top off
  trivial
abbrev Led := List (Addr × Obj)
/-- the contract of a call of the def at f: the ledger may be turned, the answer is told by R -/
noncomputable def Spec (w : World) (loose : List Str) (mean : ExcName → Option Value) (mg mb : Str → Option Value) (f : Addr) (k : Nat) (vs : List Value) (news : Led) (R : Value → Led → Prop) : Prop :=
  ∀ (dp un : Nat) (gd : Option (List Code)) (cn : Str) (csn : List (Str × NameKind)) (csg csc : Bool) (csm : List (Str × Const)) (a : Addr) (ccd : Value) (cl : List (Str × Addr)) (outer : List Env) (A₀ : Around) (base h₀ : Heap) (L : Addr) (m : Str → Option Value) (s : Shared) (Q E : Value → Shared → Prop),
    Below A₀ base outer h₀ → Fr h₀ L s.heap m → (Mine.hd.heap_39 w.params).In h₀ → News h₀ L s.heap news → Top Mine.hd.view_39 loose mean mg mb h₀ → dp + k < recursionLimit → un + 8 * k < cLine →
    (∀ v tl h' tk', Fr h₀ L h' m → News h₀ L h' tl → R v tl → Q v { s with heap := h', toks := tk' }) →
    wpAny (model PySem.Challenge.rw_sn0047_01.row.prog w) (ktrTop dp un gd cn ⟨.function, csn, csg, csc, csm⟩ L a ccd cl outer) (call (.ref f) vs) Q E s
noncomputable def Hold (P : Prop) : Prop := P
theorem Hold.on {P : Prop} (h : Hold P) : P := h
theorem Hold.off {P : Prop} (h : P) : Hold P := h
theorem m_len {prog : Program} {w : World} {A : Around} {E : Value → Shared → Prop} {s : Shared} {h₀ : Heap} {L l : Addr} {news : Led} {us : List Value} {ns : List Int} {c : Nat} {Q : Value → Shared → Prop} (N : News h₀ L s.heap news) (hm : (l, listOf us.toArray c) ∈ news) (e : IntsAre us ns) (hfit : (ns.length : Int) < 2 ^ 63)
    (h : Q (.int (ns.length : Int) (s.toks + 1)) { s with toks := s.toks + 1 + 1 }) : wpAny (model prog w) A (call (.builtin "len") [.ref l]) Q E s := kst_len N hm e.length hfit h
theorem room1 {dp k n : Nat} (h : dp + n < recursionLimit) (hk : Nat.ble (1 + k) n = true) : dp + 1 + k < recursionLimit := by
  have := Nat.le_of_ble_eq_true hk; omega
theorem room0 {dp k n : Nat} (h : dp + n < recursionLimit) (hk : Nat.ble k n = true) : dp + k < recursionLimit := by
  have := Nat.le_of_ble_eq_true hk; omega
theorem roomD {dp n : Nat} (h : dp + n < recursionLimit) : dp < recursionLimit := by omega
theorem units2 {un a b n : Nat} (h : un + 8 * n < cLine) (hk : Nat.ble (a + b) (8 * n) = true) : un + a + b < cLine := by
  have := Nat.le_of_ble_eq_true hk; omega
theorem units1 {un b n : Nat} (h : un + 8 * n < cLine) (hk : Nat.ble b (8 * n) = true) : un + b < cLine := by
  have := Nat.le_of_ble_eq_true hk; omega
local macro_rules | `(tactic| ktr_room) => `(tactic| first | exact room1 (by assumption) rfl | exact room0 (by assumption) rfl | exact roomD (by assumption))
local macro_rules | `(tactic| ktr_units) => `(tactic| first | exact units2 (by assumption) rfl | exact units2 (a := 3) (by assumption) rfl | exact units1 (by assumption) rfl)
local macro_rules | `(tactic| units_room) => `(tactic| first | exact units2 (by assumption) rfl | exact units2 (a := 3) (by assumption) rfl | exact units1 (by assumption) rfl)
local macro_rules | `(tactic| walk_at "execs cons") => `(tactic| k_fold)
local macro_rules | `(tactic| walk_at "call ref") => `(tactic| (with_reducible show wpAny _ _ (call (Value.ref _) _ _) _ _ _; refine Hold.on ?_))
local macro_rules | `(tactic| k_mem) => `(tactic| first | exact List.Mem.head _ | with_reducible assumption | (refine List.mem_cons_of_mem _ ?_; k_mem) | (refine List.mem_append.mpr (Or.inl ?_); k_mem) | (refine List.mem_append.mpr (Or.inr ?_); k_mem))
local macro_rules | `(tactic| k_room) => `(tactic| ktr_room)
local macro_rules | `(tactic| walk_at "exec While") => `(tactic| (refine Hold.on ?_))
local macro_rules | `(tactic| walk_at "KswEnd") => `(tactic| (refine Hold.on ?_))
local macro_rules | `(tactic| walk_at "InvEndN") => `(tactic| (refine Hold.on ?_))
local macro_rules | `(tactic| walk_at "call builtin:len") => `(tactic| ((with_reducible show wpAny _ _ (call (Value.builtin "len") [Value.ref _]) _ _ _); k_dflt (refine' m_len ?k1 ?k2 ?k3 ?k4 ?_; (case k1 => k_asm); (case k2 => k_mem); (case k3 => assumption); (case k4 => omega); k_whole)))
theorem Spec.use {w : World} {loose : List Str} {mean : ExcName → Option Value} {mg mb : Str → Option Value} {f : Addr} {k : Nat} {vs : List Value} {news : Led} {R : Value → Led → Prop} (S : Spec w loose mean mg mb f k vs news R)
    {dp un : Nat} {gd : Option (List Code)} {cn : Str} {csn : List (Str × NameKind)} {csg csc : Bool} {csm : List (Str × Const)} {a : Addr} {ccd : Value} {cl : List (Str × Addr)} {outer : List Env} {A₀ : Around} {base h₀ : Heap} {L : Addr} {m : Str → Option Value} {s : Shared} {Q E : Value → Shared → Prop}
    (h : ∀ v tl h' tk', Fr h₀ L h' m → News h₀ L h' tl → R v tl → Q v { s with heap := h', toks := tk' })
    (B : Below A₀ base outer h₀ := by k_asm) (F : Fr h₀ L s.heap m := by k_asm) (X : (Mine.hd.heap_39 w.params).In h₀ := by k_asm) (T : Top Mine.hd.view_39 loose mean mg mb h₀ := by k_asm) (N : News h₀ L s.heap news := by k_asm) (hd : dp + k < recursionLimit := by ktr_room) (hu : un + 8 * k < cLine := by ktr_units) :
    wpAny (model PySem.Challenge.rw_sn0047_01.row.prog w) (ktrTop dp un gd cn ⟨.function, csn, csg, csc, csm⟩ L a ccd cl outer) (call (.ref f) vs) Q E s :=
  S dp un gd cn csn csg csc csm a ccd cl outer A₀ base h₀ L m s Q E B F X N T hd hu h
theorem walkFresh1 : True := by
  w_top off
  trivial
/- bisect -/
noncomputable def blF (ns : List Int) (x : Int) : Nat → Int → Int → Int
  | 0, lo, _ => lo
  | f + 1, lo, hi => if lo < hi then (if ns.getD ((lo + hi).fdiv 2).toNat 0 < x then blF ns x f ((lo + hi).fdiv 2 + 1) hi else blF ns x f lo ((lo + hi).fdiv 2)) else lo
theorem blF_turn {ns : List Int} {x lo hi r : Int} {f : Nat} (h : lo < hi) (h0 : 0 ≤ lo) (hn : hi ≤ ns.length) (hf : hi - lo ≤ (f : Int)) (he : blF ns x f lo hi = r) :
    (ns.getD ((lo + hi).fdiv 2).toNat 0 < x → (0 ≤ (lo + hi).fdiv 2 + 1 ∧ hi ≤ (ns.length : Int) ∧ ∃ f : Nat, hi - ((lo + hi).fdiv 2 + 1) ≤ (f : Int) ∧ blF ns x f ((lo + hi).fdiv 2 + 1) hi = r) ∧ (hi - ((lo + hi).fdiv 2 + 1)).toNat < (hi - lo).toNat) ∧
    (¬ ns.getD ((lo + hi).fdiv 2).toNat 0 < x → (0 ≤ lo ∧ (lo + hi).fdiv 2 ≤ (ns.length : Int) ∧ ∃ f : Nat, (lo + hi).fdiv 2 - lo ≤ (f : Int) ∧ blF ns x f lo ((lo + hi).fdiv 2) = r) ∧ ((lo + hi).fdiv 2 - lo).toNat < (hi - lo).toNat) := by
  have e := Int.fdiv_eq_ediv_of_nonneg (lo + hi) (b := 2) (by omega)
  cases f with
  | zero => omega
  | succ f =>
    simp only [blF, if_pos h] at he
    rw [e] at he ⊢
    refine ⟨fun hx => ⟨⟨by omega, hn, f, by omega, ?_⟩, by omega⟩, fun hx => ⟨⟨by omega, by omega, f, by omega, ?_⟩, by omega⟩⟩
    · rw [if_pos hx] at he; exact he
    · rw [if_neg hx] at he; exact he
theorem blF_end {ns : List Int} {x lo hi r : Int} {f : Nat} (h : ¬ lo < hi) (he : blF ns x f lo hi = r) : lo = r := by
  cases f with
  | zero => exact he
  | succ f => simp only [blF, if_neg h] at he; exact he
theorem blF_ge {ns : List Int} {x : Int} : ∀ (f : Nat) (lo hi : Int), lo ≤ hi → 0 ≤ lo → lo ≤ blF ns x f lo hi ∧ blF ns x f lo hi ≤ hi
  | 0, lo, hi, h, _ => ⟨Int.le_refl _, h⟩
  | f + 1, lo, hi, h, h0 => by
    have e := Int.fdiv_eq_ediv_of_nonneg (lo + hi) (b := 2) (by omega)
    simp only [blF]
    rw [e]
    split
    · have h1 := blF_ge (ns := ns) (x := x) f ((lo + hi) / 2 + 1) hi (by omega) (by omega)
      have h2 := blF_ge (ns := ns) (x := x) f lo ((lo + hi) / 2) (by omega) (by omega)
      split <;> omega
    · omega
noncomputable def brF (ns : List Int) (x : Int) : Nat → Int → Int → Int
  | 0, lo, _ => lo
  | f + 1, lo, hi => if lo < hi then (if x < ns.getD ((lo + hi).fdiv 2).toNat 0 then brF ns x f lo ((lo + hi).fdiv 2) else brF ns x f ((lo + hi).fdiv 2 + 1) hi) else lo
theorem brF_turn {ns : List Int} {x lo hi r : Int} {f : Nat} (h : lo < hi) (h0 : 0 ≤ lo) (hn : hi ≤ ns.length) (hf : hi - lo ≤ (f : Int)) (he : brF ns x f lo hi = r) :
    (x < ns.getD ((lo + hi).fdiv 2).toNat 0 → (0 ≤ lo ∧ (lo + hi).fdiv 2 ≤ (ns.length : Int) ∧ ∃ f : Nat, (lo + hi).fdiv 2 - lo ≤ (f : Int) ∧ brF ns x f lo ((lo + hi).fdiv 2) = r) ∧ ((lo + hi).fdiv 2 - lo).toNat < (hi - lo).toNat) ∧
    (¬ x < ns.getD ((lo + hi).fdiv 2).toNat 0 → (0 ≤ (lo + hi).fdiv 2 + 1 ∧ hi ≤ (ns.length : Int) ∧ ∃ f : Nat, hi - ((lo + hi).fdiv 2 + 1) ≤ (f : Int) ∧ brF ns x f ((lo + hi).fdiv 2 + 1) hi = r) ∧ (hi - ((lo + hi).fdiv 2 + 1)).toNat < (hi - lo).toNat) := by
  have e := Int.fdiv_eq_ediv_of_nonneg (lo + hi) (b := 2) (by omega)
  cases f with
  | zero => omega
  | succ f =>
    simp only [brF, if_pos h] at he
    rw [e] at he ⊢
    refine ⟨fun hx => ⟨⟨by omega, by omega, f, by omega, ?_⟩, by omega⟩, fun hx => ⟨⟨by omega, hn, f, by omega, ?_⟩, by omega⟩⟩
    · rw [if_pos hx] at he; exact he
    · rw [if_neg hx] at he; exact he
theorem brF_end {ns : List Int} {x lo hi r : Int} {f : Nat} (h : ¬ lo < hi) (he : brF ns x f lo hi = r) : lo = r := by
  cases f with
  | zero => exact he
  | succ f => simp only [brF, if_neg h] at he; exact he
theorem brF_ge {ns : List Int} {x : Int} : ∀ (f : Nat) (lo hi : Int), lo ≤ hi → 0 ≤ lo → lo ≤ brF ns x f lo hi ∧ brF ns x f lo hi ≤ hi
  | 0, lo, hi, h, _ => ⟨Int.le_refl _, h⟩
  | f + 1, lo, hi, h, h0 => by
    have e := Int.fdiv_eq_ediv_of_nonneg (lo + hi) (b := 2) (by omega)
    simp only [brF]
    rw [e]
    split
    · have h1 := brF_ge (ns := ns) (x := x) f ((lo + hi) / 2 + 1) hi (by omega) (by omega)
      have h2 := brF_ge (ns := ns) (x := x) f lo ((lo + hi) / 2) (by omega) (by omega)
      split <;> omega
    · omega
set_option maxHeartbeats 8000000 in
theorem c_bl2 {w : World} {loose : List Str} {mean : ExcName → Option Value} {mg mb : Str → Option Value} {news : Led} {l : Addr} {vs : List Value} {ns : List Int} {n : Nat} {x : Int} {t : Tok}
   (hm : (l, listOf vs.toArray n) ∈ news) (hi : IntsAre vs ns) (hl : ns.length < 1000) :
   Spec w loose mean mg mb 57 1 [.ref l, .int x t] news (fun v tl => (∃ t, v = .int (blF ns x ns.length 0 ns.length) t) ∧ tl = news) := by
  unfold Spec
  k_fill
  intro dp un gd cn csn csg csc csm a ccd cl outer A₀ base h₀ L m s Q E B F X N T hdp hun hret
  have kMark := kstMark
  refine wpAny_call ?_
  k_dflt k_enter
  change (let A1 := _; wpAny _ A1 _ _ _ _)
  intro A1
  k_steps
  refine Hold.off ?_
  (rename Fr _ _ _ _ => lF'); (rename News _ _ _ _ => lN')
  refine' ksw_while (σ := Int × Tok × Int × Tok) (fun _ => news) (fun c => [(Str.ofString "lo", .int c.1 c.2.1), (Str.ofString "hi", .int c.2.2.1 c.2.2.2)]) (fun _ => True) [Str.ofString "mid"]
    (fun c => 0 ≤ c.1 ∧ c.2.2.1 ≤ (ns.length : Int) ∧ ∃ f : Nat, c.2.2.1 - c.1 ≤ (f : Int) ∧ blF ns x f c.1 c.2.2.1 = blF ns x ns.length 0 ns.length) (fun c => (c.2.2.1 - c.1).toNat) (0, _, ns.length, _) lF' lN' True.intro ?hk ?hp ?ht
  case hk => kst_all
  case hp => exact ⟨by omega, by simp, _, by simp, rfl⟩
  clear lF' lN'
  rintro ⟨lo, t1, hi, t2⟩ u h tk - ⟨h0, hn, f, hf, he⟩ F1 N1
  dsimp only [kstB] at h0 hn hf he F1 N1 ⊢
  k_fold
  k_steps
  · have ht := (blF_turn (by assumption) h0 hn hf he).1 (by assumption)
    refine Hold.off ?_
    (rename News _ _ _ _ => nE')
    exact ksw_end ((lo + hi).fdiv 2 + 1, _, hi, _) (by assumption) nE' (by kst_in) True.intro (by kst_all) (by ksw_same) ht.1 ht.2
  · have ht := (blF_turn (by assumption) h0 hn hf he).2 (by assumption)
    refine Hold.off ?_
    (rename News _ _ _ _ => nE')
    exact ksw_end (lo, _, (lo + hi).fdiv 2, _) (by assumption) nE' (by kst_in) True.intro (by kst_all) (by ksw_same) ht.1 ht.2
  · have ht := blF_end (by assumption) he
    exact hret _ _ _ _ (by assumption) (by assumption) ⟨⟨_, by rw [ht]⟩, rfl⟩
set_option maxHeartbeats 8000000 in
theorem c_bl4 {w : World} {loose : List Str} {mean : ExcName → Option Value} {mg mb : Str → Option Value} {news : Led} {l : Addr} {vs : List Value} {ns : List Int} {n : Nat} {x : Int} {t : Tok} {t0 : Tok}
   (hm : (l, listOf vs.toArray n) ∈ news) (hi : IntsAre vs ns) (hl : ns.length < 1000) :
   Spec w loose mean mg mb 57 1 [.ref l, .int x t, .int 0 t0, .none] news (fun v tl => (∃ t, v = .int (blF ns x ns.length 0 ns.length) t) ∧ tl = news) := by
  unfold Spec
  k_fill
  intro dp un gd cn csn csg csc csm a ccd cl outer A₀ base h₀ L m s Q E B F X N T hdp hun hret
  have kMark := kstMark
  refine wpAny_call ?_
  k_dflt k_enter
  change (let A1 := _; wpAny _ A1 _ _ _ _)
  intro A1
  k_steps
  refine Hold.off ?_
  (rename Fr _ _ _ _ => lF'); (rename News _ _ _ _ => lN')
  refine' ksw_while (σ := Int × Tok × Int × Tok) (fun _ => news) (fun c => [(Str.ofString "lo", .int c.1 c.2.1), (Str.ofString "hi", .int c.2.2.1 c.2.2.2)]) (fun _ => True) [Str.ofString "mid"]
    (fun c => 0 ≤ c.1 ∧ c.2.2.1 ≤ (ns.length : Int) ∧ ∃ f : Nat, c.2.2.1 - c.1 ≤ (f : Int) ∧ blF ns x f c.1 c.2.2.1 = blF ns x ns.length 0 ns.length) (fun c => (c.2.2.1 - c.1).toNat) (0, _, ns.length, _) lF' lN' True.intro ?hk ?hp ?ht
  case hk => kst_all
  case hp => exact ⟨by omega, by simp, _, by simp, rfl⟩
  clear lF' lN'
  rintro ⟨lo, t1, hi, t2⟩ u h tk - ⟨h0, hn, f, hf, he⟩ F1 N1
  dsimp only [kstB] at h0 hn hf he F1 N1 ⊢
  k_fold
  k_steps
  · have ht := (blF_turn (by assumption) h0 hn hf he).1 (by assumption)
    refine Hold.off ?_
    (rename News _ _ _ _ => nE')
    exact ksw_end ((lo + hi).fdiv 2 + 1, _, hi, _) (by assumption) nE' (by kst_in) True.intro (by kst_all) (by ksw_same) ht.1 ht.2
  · have ht := (blF_turn (by assumption) h0 hn hf he).2 (by assumption)
    refine Hold.off ?_
    (rename News _ _ _ _ => nE')
    exact ksw_end (lo, _, (lo + hi).fdiv 2, _) (by assumption) nE' (by kst_in) True.intro (by kst_all) (by ksw_same) ht.1 ht.2
  · have ht := blF_end (by assumption) he
    exact hret _ _ _ _ (by assumption) (by assumption) ⟨⟨_, by rw [ht]⟩, rfl⟩
set_option maxHeartbeats 8000000 in
theorem c_br4 {w : World} {loose : List Str} {mean : ExcName → Option Value} {mg mb : Str → Option Value} {news : Led} {l : Addr} {vs : List Value} {ns : List Int} {n : Nat} {x : Int} {t : Tok} {t0 : Tok}
   (hm : (l, listOf vs.toArray n) ∈ news) (hi : IntsAre vs ns) (hl : ns.length < 1000) :
   Spec w loose mean mg mb 39 1 [.ref l, .int x t, .int 0 t0, .none] news (fun v tl => (∃ t, v = .int (brF ns x ns.length 0 ns.length) t) ∧ tl = news) := by
  unfold Spec
  k_fill
  intro dp un gd cn csn csg csc csm a ccd cl outer A₀ base h₀ L m s Q E B F X N T hdp hun hret
  have kMark := kstMark
  refine wpAny_call ?_
  k_dflt k_enter
  change (let A1 := _; wpAny _ A1 _ _ _ _)
  intro A1
  k_steps
  refine Hold.off ?_
  (rename Fr _ _ _ _ => lF'); (rename News _ _ _ _ => lN')
  refine' ksw_while (σ := Int × Tok × Int × Tok) (fun _ => news) (fun c => [(Str.ofString "lo", .int c.1 c.2.1), (Str.ofString "hi", .int c.2.2.1 c.2.2.2)]) (fun _ => True) [Str.ofString "mid"]
    (fun c => 0 ≤ c.1 ∧ c.2.2.1 ≤ (ns.length : Int) ∧ ∃ f : Nat, c.2.2.1 - c.1 ≤ (f : Int) ∧ brF ns x f c.1 c.2.2.1 = brF ns x ns.length 0 ns.length) (fun c => (c.2.2.1 - c.1).toNat) (0, _, ns.length, _) lF' lN' True.intro ?hk ?hp ?ht
  case hk => kst_all
  case hp => exact ⟨by omega, by simp, _, by simp, rfl⟩
  clear lF' lN'
  rintro ⟨lo, t1, hi, t2⟩ u h tk - ⟨h0, hn, f, hf, he⟩ F1 N1
  dsimp only [kstB] at h0 hn hf he F1 N1 ⊢
  k_fold
  k_steps
  · have ht := (brF_turn (by assumption) h0 hn hf he).1 (by assumption)
    refine Hold.off ?_
    (rename News _ _ _ _ => nE')
    exact ksw_end (lo, _, (lo + hi).fdiv 2, _) (by assumption) nE' (by kst_in) True.intro (by kst_all) (by ksw_same) ht.1 ht.2
  · have ht := (brF_turn (by assumption) h0 hn hf he).2 (by assumption)
    refine Hold.off ?_
    (rename News _ _ _ _ => nE')
    exact ksw_end ((lo + hi).fdiv 2 + 1, _, hi, _) (by assumption) nE' (by kst_in) True.intro (by kst_all) (by ksw_same) ht.1 ht.2
  · have ht := brF_end (by assumption) he
    exact hret _ _ _ _ (by assumption) (by assumption) ⟨⟨_, by rw [ht]⟩, rfl⟩
theorem walkFresh2 : True := by
  w_top off
  trivial
noncomputable def insAt (ns : List Int) (k x : Int) : List Int := ns.take k.toNat ++ x :: ns.drop k.toNat
theorem insAt_length (ns : List Int) (k x : Int) : (insAt ns k x).length = ns.length + 1 := by
  simp only [insAt, List.length_append, List.length_cons, List.length_take, List.length_drop]
  omega
theorem kl_ins_ints {vs : List Value} {ns : List Int} {k x : Int} {t : Tok} (hi : IntsAre vs ns) (h0 : 0 ≤ k) (h1 : k ≤ ns.length) : IntsAre (kl_ins vs k (.int x t)) (insAt ns k x) := by
  have e : (if k < 0 then (k + (vs.length : Int)).toNat else min k.toNat vs.length) = k.toNat := by
    rw [if_neg (by omega), hi.length]; omega
  unfold kl_ins insAt
  rw [e]
  exact (IntsAre.take hi _).append (.cons _ _ (IntsAre.drop hi _))
theorem m_insert {prog : Program} {w : World} {A : Around} {E : Value → Shared → Prop} {s : Shared} {h₀ : Heap} {L l : Addr} {m : Str → Option Value} {rest : Led} {vs : List Value} {ns : List Int} {n : Nat} {k x : Int} {u t : Tok} {Q : Value → Shared → Prop}
    (F : Fr h₀ L s.heap m) (N : News h₀ L s.heap ((l, listOf vs.toArray n) :: rest)) (hne : ∀ p ∈ rest, p.1 ≠ l) (hi : IntsAre vs ns) (h0 : 0 ≤ k) (h1 : k ≤ ns.length) (hl : ns.length < 1000)
    (h : ∀ h' vs', IntsAre vs' (insAt ns k x) → Fr h₀ L h' m → News h₀ L h' ((l, listOf vs'.toArray (n + 1)) :: rest) → Q .none { s with heap := h' }) :
    wpAny (model prog w) A (call (.builtin "list.insert") [.ref l, .int k u, .int x t]) Q E s := by
  have hvl := hi.length
  refine kl_insert F N (l := kl_ins vs k (.int x t)) ?_ rfl (Upd.head hne) (by show vs.length ≤ sizeLine; rw [PySem.sizeLine_eq]; omega) fun h' F' N' => h h' _ (kl_ins_ints hi h0 h1) F' N'
  · simp only [Builtin.List.listFitsIndex, decide_eq_true_eq, Bool.and_eq_true]; omega
set_option maxHeartbeats 8000000 in
theorem c_il {w : World} {loose : List Str} {mean : ExcName → Option Value} {mg mb : Str → Option Value} {rest : Led} {l : Addr} {vs : List Value} {ns : List Int} {n : Nat} {x : Int} {t : Tok}
   (hne : ∀ p ∈ rest, p.1 ≠ l) (hi : IntsAre vs ns) (hl : ns.length < 1000) :
   Spec w loose mean mg mb 48 2 [.ref l, .int x t] ((l, listOf vs.toArray n) :: rest) (fun v tl => v = .none ∧ ∃ vs' n', IntsAre vs' (insAt ns (blF ns x ns.length 0 ns.length) x) ∧ tl = (l, listOf vs'.toArray n') :: rest) := by
  unfold Spec
  k_fill
  intro dp un gd cn csn csg csc csm a ccd cl outer A₀ base h₀ L m s Q E B F X N T hdp hun hret
  have kMark := kstMark
  refine wpAny_call ?_
  k_dflt k_enter
  change (let A1 := _; wpAny _ A1 _ _ _ _)
  intro A1
  k_steps
  refine Hold.off ?_
  refine Spec.use (c_bl4 (.head _) hi hl) ?_
  rintro v tl h1 tk1 F1 N1 ⟨⟨t1, rfl⟩, rfl⟩
  k_sweep
  dsimp only
  k_steps
  have hb := blF_ge (ns := ns) (x := x) ns.length 0 ns.length (by omega) (by omega)
  refine m_insert (by k_asm) (by k_asm) hne hi hb.1 hb.2 hl fun h2 vs2 hi2 F2 N2 => ?_
  k_sweep
  dsimp only
  k_steps
  exact hret _ _ _ _ (by assumption) (by assumption) ⟨rfl, _, _, hi2, rfl⟩
set_option maxHeartbeats 8000000 in
theorem c_ir {w : World} {loose : List Str} {mean : ExcName → Option Value} {mg mb : Str → Option Value} {rest : Led} {l : Addr} {vs : List Value} {ns : List Int} {n : Nat} {x : Int} {t : Tok}
   (hne : ∀ p ∈ rest, p.1 ≠ l) (hi : IntsAre vs ns) (hl : ns.length < 1000) :
   Spec w loose mean mg mb 30 2 [.ref l, .int x t] ((l, listOf vs.toArray n) :: rest) (fun v tl => v = .none ∧ ∃ vs' n', IntsAre vs' (insAt ns (brF ns x ns.length 0 ns.length) x) ∧ tl = (l, listOf vs'.toArray n') :: rest) := by
  unfold Spec
  k_fill
  intro dp un gd cn csn csg csc csm a ccd cl outer A₀ base h₀ L m s Q E B F X N T hdp hun hret
  have kMark := kstMark
  refine wpAny_call ?_
  k_dflt k_enter
  change (let A1 := _; wpAny _ A1 _ _ _ _)
  intro A1
  k_steps
  refine Hold.off ?_
  refine Spec.use (c_br4 (.head _) hi hl) ?_
  rintro v tl h1 tk1 F1 N1 ⟨⟨t1, rfl⟩, rfl⟩
  k_sweep
  dsimp only
  k_steps
  have hb := brF_ge (ns := ns) (x := x) ns.length 0 ns.length (by omega) (by omega)
  refine m_insert (by k_asm) (by k_asm) hne hi hb.1 hb.2 hl fun h2 vs2 hi2 F2 N2 => ?_
  k_sweep
  dsimp only
  k_steps
  exact hret _ _ _ _ (by assumption) (by assumption) ⟨rfl, _, _, hi2, rfl⟩
theorem walkFresh3 : True := by
  w_top off
  trivial
/-- Int2AP's loop -/
noncomputable def apF : Nat → Int → List UInt8 → List UInt8
  | 0, _, v => v
  | f + 1, n, v => if n = 0 then v else apF f (n.fdiv 16) (UInt8.ofNat (65 + (n.fmod 16).toNat) :: v)
theorem apF_turn {n : Int} {v : List UInt8} {r : List UInt8} {f : Nat} (hne : n ≠ 0) (h0 : 0 ≤ n) (hf : n < 16 ^ f) (hv : f + v.length ≤ 6) (he : apF f n v = r) :
    (0 ≤ n.fdiv 16 ∧ ∃ f' : Nat, n.fdiv 16 < 16 ^ f' ∧ f' + (UInt8.ofNat (65 + (n.fmod 16).toNat) :: v).length ≤ 6 ∧ apF f' (n.fdiv 16) (UInt8.ofNat (65 + (n.fmod 16).toNat) :: v) = r) ∧ (n.fdiv 16).toNat < n.toNat := by
  have e := Int.fdiv_eq_ediv_of_nonneg n (b := 16) (by omega)
  cases f with
  | zero => exfalso; simp only [Int.pow_zero] at hf; omega
  | succ f =>
    simp only [apF, if_neg hne] at he
    have hp : (16 : Int) ^ (f + 1) = 16 ^ f * 16 := Int.pow_succ ..
    generalize (16 : Int) ^ f = y at *
    rw [List.length_cons]
    rw [e] at he ⊢
    rw [hp] at hf
    exact ⟨⟨by omega, f, by omega, by omega, he⟩, by omega⟩
theorem apF_end {n : Int} {v : List UInt8} {r : List UInt8} {f : Nat} (hz : n = 0) (he : apF f n v = r) : v = r := by
  cases f with
  | zero => exact he
  | succ f => simp only [apF, if_pos hz] at he; exact he
theorem apF_len : ∀ (f : Nat) (n : Int) (v : List UInt8), (apF f n v).length ≤ f + v.length
  | 0, _, v => by simp [apF]
  | f + 1, n, v => by
    simp only [apF]
    split
    · omega
    · have := apF_len f (n.fdiv 16) (UInt8.ofNat (65 + (n.fmod 16).toNat) :: v)
      simp only [List.length_cons] at this
      omega
theorem ap_pickedN : ∀ n : Nat, n < 16 → KBy.picked #[65, 66, 67, 68, 69, 70, 71, 72, 73, 74, 75, 76, 77, 78, 79, 80] (some (n : Int)) (some ((n : Int) + 1)) = #[UInt8.ofNat (65 + n)] := by decide +kernel
theorem ap_picked {k : Int} (h0 : 0 ≤ k) (h1 : k < 16) : KBy.picked #[65, 66, 67, 68, 69, 70, 71, 72, 73, 74, 75, 76, 77, 78, 79, 80] (some k) (some (k + 1)) = #[UInt8.ofNat (65 + k.toNat)] := by
  obtain ⟨n, rfl⟩ := Int.eq_ofNat_of_zero_le h0
  exact ap_pickedN n (Int.ofNat_lt.mp h1)
theorem m_ap {prog : Program} {w : World} {A : Around} {E : Value → Shared → Prop} {s : Shared} {value l u : PySem.Expr} {sp : Pos} {t tl tu : Tok} {h₀ : Heap} {L : Addr} {m : Str → Option Value} {news : Led} {k : Int} {Q : Value → Shared → Prop}
    (F : Fr h₀ L s.heap m) (N : News h₀ L s.heap news) (h0 : 0 ≤ k) (h1 : k < 16)
    (h : ∀ h' t' tk, Fr h₀ L h' m → News h₀ L h' news → Q (.bytes #[UInt8.ofNat (65 + k.toNat)] t') { s with heap := h', toks := tk })
    (ht : ∀ r, letTemporaryGo value (.bytes #[65, 66, 67, 68, 69, 70, 71, 72, 73, 74, 75, 76, 77, 78, 79, 80] t) r = pure () := by intro _; with_unfolding_all rfl) :
    wpAny (model prog w) A (subscriptTail value (Expr.Slice (some l) (some u) none sp) (.bytes #[65, 66, 67, 68, 69, 70, 71, 72, 73, 74, 75, 76, 77, 78, 79, 80] t) (.ref s.heap.objs.size)) Q E { s with heap := s.heap.push { cls := .type "slice", data := .fields #[.int k tl, .int (k + 1) tu, .none] } } := by
  refine KBc.slice_K (lo := some k) (hi := some (k + 1)) F N rfl (by constructor) (by constructor) (by decide +kernel) (fun h' t' tk F' N' _ => ?_) (by with_unfolding_all rfl) ht
  rw [ap_picked h0 h1]
  exact h _ _ _ F' N'
set_option maxHeartbeats 8000000 in
theorem c_ap {w : World} {loose : List Str} {mean : ExcName → Option Value} {mg mb : Str → Option Value} {news : Led} {x : Int} {t : Tok}
   (hx : x ≤ 0) (hx2 : -x < 16 ^ 6) :
   Spec w loose mean mg mb 64 1 [.int x t] news (fun v tl => (∃ t, v = .bytes (apF 6 (-x) []).toArray t) ∧ tl = news) := by
  unfold Spec
  k_fill
  intro dp un gd cn csn csg csc csm a ccd cl outer A₀ base h₀ L m s Q E B F X N T hdp hun hret
  have kMark := kstMark
  refine wpAny_call ?_
  k_dflt k_enter
  change (let A1 := _; wpAny _ A1 _ _ _ _)
  intro A1
  k_steps
  refine Hold.off ?_
  have ex : (if x < 0 then -x else x) = -x := by split <;> omega
  (rename Fr _ _ _ _ => lF'); (rename News _ _ _ _ => lN')
  refine' ksw_while (σ := Int × Tok × List UInt8 × Tok) (fun _ => news) (fun c => [(Str.ofString "num", .int c.1 c.2.1), (Str.ofString "val", .bytes c.2.2.1.toArray c.2.2.2)]) (fun _ => True) [Str.ofString "mod"]
    (fun c => 0 ≤ c.1 ∧ ∃ f : Nat, c.1 < 16 ^ f ∧ f + c.2.2.1.length ≤ 6 ∧ apF f c.1 c.2.2.1 = apF 6 (-x) []) (fun c => c.1.toNat) (if x < 0 then -x else x, _, [], _) lF' lN' True.intro ?hk ?hp ?ht
  case hk => kst_all
  case hp => dsimp only; rw [ex]; exact ⟨by omega, 6, by omega, by simp, rfl⟩
  clear lF' lN'
  rintro ⟨n, t1, v, t2⟩ u h tk - ⟨h0, f, hf, hv, he⟩ F1 N1
  dsimp only [kstB] at h0 hf hv he F1 N1 ⊢
  k_fold
  k_steps
  · have e16 := Int.fmod_eq_emod_of_nonneg n (b := 16) (by omega)
    with_unfolding_all refine' m_ap (s := ⟨_, _, _, _, _⟩) ?k1 ?k2 ?k3 ?k4 ?_
    case k1 => k_asm
    case k2 => k_asm
    case k3 => omega
    case k4 => omega
    intro h2 t3 tk2 F2 N2
    k_sweep
    k_steps
    have ht := apF_turn (by assumption) h0 hf hv he
    refine Hold.off ?_
    (rename News _ _ _ _ => nE')
    exact ksw_end (n.fdiv 16, _, UInt8.ofNat (65 + (n.fmod 16).toNat) :: v, _) (by assumption) nE' (by intro p hp; exact List.mem_cons_of_mem _ hp) True.intro (by kst_all) (by ksw_same) ht.1 ht.2
  · have ht := apF_end (by assumption) he
    exact hret _ _ _ _ (by assumption) (by assumption) ⟨⟨_, by rw [ht]⟩, rfl⟩
theorem walkFresh4 : True := by
  w_top off
  trivial
/-- the forms' inner and outer loop -/
noncomputable def foI (p m : Int) : Nat → Int → Int → Int
  | 0, _, c => c
  | f + 1, o, c => if o * o ≤ p then foI p m f (o + 1) (if p.fmod o = 0 then c + (if o = m ∨ o * o = p then 1 else 2) else c) else c
noncomputable def foO (lower : Int) : Nat → Int → Int → Int
  | 0, _, c => c
  | f + 1, m, c => if 3 * m * m ≤ lower then foO lower f (m + 2) (foI ((m * m + lower).fdiv 4) m 40 m c) else c
theorem foI_turn {p m o c r : Int} {f : Nat} (h : o * o ≤ p) (_hp : p ≤ 35) (h1 : 1 ≤ o) (hf : p + 1 - o ≤ (f : Int)) (he : foI p m f o c = r) :
    (1 ≤ o + 1 ∧ o + 1 ≤ p + 2 ∧ ∃ f : Nat, p + 1 - (o + 1) ≤ (f : Int) ∧ foI p m f (o + 1) (if p.fmod o = 0 then c + (if o = m ∨ o * o = p then 1 else 2) else c) = r) ∧ (p + 1 - (o + 1)).toNat < (p + 1 - o).toNat := by
  have ho : o ≤ o * o := by
    have := Int.mul_le_mul_of_nonneg_right h1 (show 0 ≤ o by omega)
    omega
  cases f with
  | zero => exfalso; omega
  | succ f =>
    simp only [foI, if_pos h] at he
    exact ⟨⟨by omega, by omega, f, by omega, he⟩, by omega⟩
theorem foI_end {p m o c r : Int} {f : Nat} (h : ¬ o * o ≤ p) (he : foI p m f o c = r) : c = r := by
  cases f with
  | zero => exact he
  | succ f => simp only [foI, if_neg h] at he; exact he
theorem foO_turn {lower m c r : Int} {f : Nat} (h : 3 * m * m ≤ lower) (h1 : 1 ≤ m) (hx2 : lower < 100) (hf : lower - m < (f : Int)) (he : foO lower f m c = r) :
    m ≤ lower ∧ (m * m + lower).fdiv 4 ≤ 35 ∧ m * m ≤ 33 ∧ m ≤ 33 ∧ 0 ≤ (m * m + lower).fdiv 4 ∧ (1 ≤ m + 2 ∧ m + 2 ≤ lower + 2 ∧ ∃ f : Nat, lower - (m + 2) < (f : Int) ∧ foO lower f (m + 2) (foI ((m * m + lower).fdiv 4) m 40 m c) = r) ∧ (lower + 1 - (m + 2)).toNat < (lower + 1 - m).toNat := by
  have ho : m ≤ m * m := by
    have := Int.mul_le_mul_of_nonneg_right h1 (show 0 ≤ m by omega)
    omega
  have e3 : 3 * m * m = 3 * (m * m) := Int.mul_assoc ..
  have e := Int.fdiv_eq_ediv_of_nonneg (m * m + lower) (b := 4) (by omega)
  cases f with
  | zero => exfalso; omega
  | succ f =>
    simp only [foO, if_pos h] at he
    refine ⟨by omega, by omega, by omega, by omega, by omega, ⟨by omega, by omega, f, by omega, he⟩, by omega⟩
theorem foO_end {lower m c r : Int} {f : Nat} (h : ¬ 3 * m * m ≤ lower) (he : foO lower f m c = r) : c = r := by
  cases f with
  | zero => exact he
  | succ f => simp only [foO, if_neg h] at he; exact he
theorem m_ifJ {prog : Program} {w : World} {A : Around} {E : Value → Shared → Prop} {s : Shared} {env : Env} {test : Expr} {k1 k2 : Nat} {p1 p2 p4 : Pos} {c : Prop} [Decidable c] {Q : Value → Shared → Prop}
    (h : wpAny (model prog w) A (isTrue test env (eval test env)) (fun b s₁ => (b = true ↔ c) ∧ ∃ tk, s₁ = { s with toks := tk }) E s) (h2 : ∀ x t tk, x = (if c then (1 : Int) else 2) → Q (.int x t) { s with toks := tk }) :
    wpAny (model prog w) A (eval (.IfExp test (.Constant (.int 1) k1 p1) (.Constant (.int 2) k2 p2) p4) env) Q E s := by
  refine IfExp_ (wpAny_mono h (fun b s₁ h₁ => ?_) fun _ _ e => e)
  obtain ⟨hb, tk, rfl⟩ := h₁
  cases b with
  | true => exact wpAny_Constant_int (h2 _ _ _ (if_pos (hb.mp rfl)).symm)
  | false => exact wpAny_Constant_int (h2 _ _ _ (if_neg fun hc => nomatch hb.mpr hc).symm)
section
local macro_rules | `(tactic| walk_at "eval IfExp") => `(tactic| (refine Hold.on ?_))
set_option maxHeartbeats 8000000 in
theorem c_fo {w : World} {loose : List Str} {mean : ExcName → Option Value} {mg mb : Str → Option Value} {news : Led} {lower : Int} {t : Tok}
   (hx : 1 ≤ lower) (hx2 : lower < 100) :
   Spec w loose mean mg mb 144 1 [.int lower t] news (fun v tl => (∃ t, v = .int (foO lower 100 1 0) t) ∧ tl = news) := by
  unfold Spec
  k_fill
  intro dp un gd cn csn csg csc csm a ccd cl outer A₀ base h₀ L m s Q E B F X N T hdp hun hret
  refine wpAny_call ?_
  k_dflt k_enter
  change (let A1 := _; wpAny _ A1 _ _ _ _)
  intro A1
  k_steps
  refine Hold.off ?_
  (rename Fr _ _ _ _ => lF'); (rename News _ _ _ _ => lN')
  refine' ksw_while (σ := Int × Tok × Int × Tok) (fun _ => news) (fun c => [(Str.ofString "count", .int c.1 c.2.1), (Str.ofString "middle", .int c.2.2.1 c.2.2.2)]) (fun _ => True) [Str.ofString "product", Str.ofString "outer"]
    (fun c => 1 ≤ c.2.2.1 ∧ c.2.2.1 ≤ lower + 2 ∧ ∃ f : Nat, lower - c.2.2.1 < (f : Int) ∧ foO lower f c.2.2.1 c.1 = foO lower 100 1 0) (fun c => (lower + 1 - c.2.2.1).toNat) (0, _, 1, _) lF' lN' True.intro ?hk ?hp ?ht
  case hk => kst_all
  case hp => exact ⟨Int.le_refl 1, by show (1 : Int) ≤ lower + 2; omega, 100, by show lower - 1 < ((100 : Nat) : Int); omega, rfl⟩
  clear lF' lN'
  rintro ⟨c, t1, mi, t2⟩ u h tk - ⟨h0, h1, f, hf, he⟩ F1 N1
  dsimp only [kstB] at h0 h1 hf he F1 N1 ⊢
  k_fold
  k_steps
  · refine Hold.off ?_
    obtain ⟨g1, g2, g3, g4, g5, ht⟩ := foO_turn (by assumption) h0 hx2 hf he
    (rename Fr _ _ _ _ => lF'); (rename News _ _ _ _ => lN')
    refine' ksw_while (σ := Int × Tok × Int × Tok) (fun _ => news) (fun c => [(Str.ofString "count", .int c.1 c.2.1), (Str.ofString "outer", .int c.2.2.1 c.2.2.2)]) (fun _ => True) []
      (fun d => 1 ≤ d.2.2.1 ∧ d.2.2.1 ≤ 100 ∧ ∃ f : Nat, (mi * mi + lower).fdiv 4 + 1 - d.2.2.1 ≤ (f : Int) ∧ foI ((mi * mi + lower).fdiv 4) mi f d.2.2.1 d.1 = foI ((mi * mi + lower).fdiv 4) mi 40 mi c) (fun d => ((mi * mi + lower).fdiv 4 + 1 - d.2.2.1).toNat) (c, _, mi, _) lF' lN' True.intro ?ik ?ip ?it
    case ik => kst_all
    case ip => exact ⟨h0, by dsimp only; omega, 40, by dsimp only; omega, rfl⟩
    clear lF' lN'
    rintro ⟨c1, t3, o, t4⟩ u2 h2 tk2 - ⟨k0, k1, f2, hf2, he2⟩ F2 N2
    dsimp only [kstB] at k0 k1 hf2 he2 F2 N2 ⊢
    k_fold
    k_steps
    · refine Hold.off ?_
      refine m_ifJ (c := o = mi ∨ o * o = (mi * mi + lower).fdiv 4) ?_ fun x tx tk3 hx3 => ?_
      · k_steps
        all_goals first
          | exact ⟨fun _ => .inl (by assumption), fun _ => rfl⟩
          | exact ⟨fun _ => .inr (by assumption), fun _ => rfl⟩
          | exact ⟨fun e => absurd e (by decide), fun e => by rcases e with e | e <;> exact absurd e (by assumption)⟩
          | exact ⟨_, rfl⟩
      have it := foI_turn (by assumption) g2 k0 hf2 he2
      rw [if_pos (by assumption), ← hx3] at it
      have hx4 : 1 ≤ x ∧ x ≤ 2 := by rw [hx3]; split <;> exact ⟨by decide, by decide⟩
      clear hx3
      k_steps
      refine Hold.off ?_
      (rename News _ _ _ _ => nE')
      exact ksw_end (c1 + x, _, o + 1, _) (by assumption) nE' (by kst_in) True.intro (by kst_all) (by ksw_same) ⟨it.1.1, by dsimp only; omega, it.1.2.2⟩ it.2
    · have it := foI_turn (by assumption) g2 k0 hf2 he2
      rw [if_neg (by assumption)] at it
      refine Hold.off ?_
      (rename News _ _ _ _ => nE')
      exact ksw_end (c1, _, o + 1, _) (by assumption) nE' (by kst_in) True.intro (by kst_all) (by ksw_same) ⟨it.1.1, by dsimp only; omega, it.1.2.2⟩ it.2
    · have it := foI_end (by assumption) he2
      rw [← it] at ht
      refine Hold.off ?_
      (rename News _ _ _ _ => nE')
      exact ksw_end (c1, _, mi + 2, _) (by assumption) nE' (by kst_in) True.intro (by kst_all) (by ksw_same) ht.1 ht.2
  · have ht := foO_end (by assumption) he
    exact hret _ _ _ _ (by assumption) (by assumption) ⟨⟨_, by rw [ht]⟩, rfl⟩
end
theorem walkFresh5 : True := by
  w_top off
  trivial
noncomputable def wdPiece (size : Int) (wd : List UInt8) : Int := if size - (wd.toArray.size : Int) < 6 then size - (wd.toArray.size : Int) else 6
noncomputable def wdTold (lower size : Int) (wd : List UInt8) (r : Int) : List UInt8 := apF 6 ((r * 16 ^ (wdPiece size wd).toNat).fdiv lower) []
noncomputable def wdNext (lower size : Int) (wd : List UInt8) (r : Int) : List UInt8 :=
  wd ++ List.replicate (wdPiece size wd - ((wdTold lower size wd r).length : Int)).toNat 65 ++ wdTold lower size wd r
/-- the word's loop -/
noncomputable def wdF (lower size : Int) : Nat → List UInt8 → Int → List UInt8
  | 0, wd, _ => wd
  | f + 1, wd, r => if (wd.length : Int) < size then wdF lower size f (wdNext lower size wd r) ((r * 16 ^ (wdPiece size wd).toNat).fmod lower) else wd
theorem flat_rep (n : Nat) (b : UInt8) : (List.replicate n [b]).flatten = List.replicate n b := by
  induction n with
  | zero => rfl
  | succ n ih => rw [List.replicate_succ, List.flatten_cons, ih]; rfl
theorem wd_whole {lower r p : Int} (h0 : 0 ≤ r) (h1 : r < lower) (hp : p ≤ 6) : 0 ≤ (r * 16 ^ p.toNat).fdiv lower ∧ (r * 16 ^ p.toNat).fdiv lower < 16 ^ 6 ∧ 0 ≤ (r * 16 ^ p.toNat).fmod lower ∧ (r * 16 ^ p.toNat).fmod lower < lower := by
  have hl : 0 < lower := by omega
  rw [Int.fdiv_eq_ediv_of_nonneg _ (by omega), Int.fmod_eq_emod_of_nonneg _ (by omega)]
  have hy : (0 : Int) ≤ 16 ^ p.toNat := Int.pow_nonneg (by omega)
  have hy2 : (16 : Int) ^ p.toNat ≤ 16 ^ 6 := by
    have := Nat.pow_le_pow_right (n := 16) (by decide) (show p.toNat ≤ 6 by omega)
    exact_mod_cast this
  refine ⟨Int.ediv_nonneg (Int.mul_nonneg h0 hy) (by omega), ?_, Int.emod_nonneg _ (by omega), Int.emod_lt_of_pos _ hl⟩
  refine Int.ediv_lt_of_lt_mul hl (Int.lt_of_le_of_lt (Int.mul_le_mul_of_nonneg_left hy2 h0) ?_)
  rw [Int.mul_comm]
  exact Int.mul_lt_mul_of_pos_left h1 (by decide)
theorem wdF_turn {lower size r : Int} {wd res : List UInt8} {f : Nat} (h : (wd.length : Int) < size) (h5 : size < 24) (k0 : 0 ≤ r) (k1 : r < lower) (hf : size - wd.length ≤ (f : Int)) (he : wdF lower size f wd r = res) :
    (0 ≤ (r * 16 ^ (wdPiece size wd).toNat).fmod lower ∧ (r * 16 ^ (wdPiece size wd).toNat).fmod lower < lower ∧ (wdNext lower size wd r).length ≤ 40 ∧ ∃ f : Nat, size - (wdNext lower size wd r).length ≤ (f : Int) ∧ wdF lower size f (wdNext lower size wd r) ((r * 16 ^ (wdPiece size wd).toNat).fmod lower) = res) ∧
    (size - (wdNext lower size wd r).length).toNat < (size - wd.length).toNat := by
  have hp : wdPiece size wd ≤ 6 ∧ 1 ≤ wdPiece size wd := by simp only [wdPiece, List.size_toArray]; split <;> omega
  have hw := wd_whole k0 k1 hp.1
  have ht : (wdTold lower size wd r).length ≤ 6 := by have := apF_len 6 ((r * 16 ^ (wdPiece size wd).toNat).fdiv lower) []; simpa [wdTold] using this
  have hn : (wdNext lower size wd r).length = wd.length + (wdPiece size wd - ((wdTold lower size wd r).length : Int)).toNat + (wdTold lower size wd r).length := by
    simp only [wdNext, List.length_append, List.length_replicate]
  cases f with
  | zero => exfalso; omega
  | succ f =>
    simp only [wdF, if_pos h] at he
    exact ⟨⟨hw.2.2.1, hw.2.2.2, by omega, f, by omega, he⟩, by omega⟩
theorem wdF_end {lower size r : Int} {wd res : List UInt8} {f : Nat} (h : ¬ (wd.length : Int) < size) (he : wdF lower size f wd r = res) : wd = res := by
  cases f with
  | zero => exact he
  | succ f => simp only [wdF, if_neg h] at he; exact he
set_option maxHeartbeats 8000000 in
theorem c_wd {w : World} {loose : List Str} {mean : ExcName → Option Value} {mg mb : Str → Option Value} {news : Led} {upper lower size : Int} {t tl ts : Tok}
   (h1 : 0 ≤ upper) (h2 : upper < lower) (h3 : lower < 100) (h4 : 0 ≤ size) (h5 : size < 24) :
   Spec w loose mean mg mb 151 2 [.int upper t, .int lower tl, .int size ts] news (fun v tl => (∃ t, v = .bytes (wdF lower size 24 [] upper).toArray t) ∧ tl = news) := by
  unfold Spec
  k_fill
  intro dp un gd cn csn csg csc csm a ccd cl outer A₀ base h₀ L m s Q E B F X N T hdp hun hret
  refine wpAny_call ?_
  k_dflt k_enter
  change (let A1 := _; wpAny _ A1 _ _ _ _)
  intro A1
  k_steps
  refine Hold.off ?_
  (rename Fr _ _ _ _ => lF'); (rename News _ _ _ _ => lN')
  refine' ksw_while (σ := List UInt8 × Tok × Int × Tok) (fun _ => news) (fun c => [(Str.ofString "word", .bytes c.1.toArray c.2.1), (Str.ofString "rest", .int c.2.2.1 c.2.2.2)]) (fun _ => True) [Str.ofString "piece", Str.ofString "whole", Str.ofString "told"]
    (fun c => 0 ≤ c.2.2.1 ∧ c.2.2.1 < lower ∧ c.1.length ≤ 40 ∧ ∃ f : Nat, size - c.1.length ≤ (f : Int) ∧ wdF lower size f c.1 c.2.2.1 = wdF lower size 24 [] upper) (fun c => (size - c.1.length).toNat) ([], _, upper, _) lF' lN' True.intro ?hk ?hp ?ht
  case hk => kst_all
  case hp => exact ⟨h1, h2, by simp, 24, by simp; omega, rfl⟩
  clear lF' lN'
  rintro ⟨wd, t1, r, t2⟩ u h tk - ⟨k0, k1, k2, f, hf, he⟩ F1 N1
  dsimp only [kstB] at k0 k1 k2 hf he F1 N1 ⊢
  k_fold
  k_steps
  · have hp : wdPiece size wd ≤ 6 ∧ 1 ≤ wdPiece size wd := by simp only [wdPiece, List.size_toArray] at *; split <;> omega
    have hw := wd_whole k0 k1 hp.1
    refine Hold.off ?_
    refine Spec.use (c_ap ?_ ?_) ?_
    · have := hw.1; unfold wdPiece at this; omega
    · have := hw.2.1; unfold wdPiece at this; omega
    rintro v tl h1 tk1 F1 N1 ⟨⟨t1, hv⟩, rfl⟩
    rw [Int.neg_neg] at hv
    generalize htd : apF 6 _ [] = td at hv
    have hL : td.length ≤ 6 := by rw [← htd]; have := apF_len 6 ((r * 16 ^ (wdPiece size wd).toNat).fdiv lower) []; simpa [wdPiece] using this
    subst hv
    k_sweep
    dsimp only
    k_steps
    refine bytes_mul_any (b := [65]) (List.cons_ne_nil _ _) (by simp only [List.size_toArray]; split <;> omega) (by simp only [List.size_toArray]; split <;> omega) (by decide) fun t3 k3 => ?_
    rw [flat_rep]
    generalize hg : (List.replicate _ (65 : UInt8)) = pad
    have hP : pad.length ≤ 6 := by rw [← hg, List.length_replicate, List.size_toArray]; split <;> omega
    refine bytes_add_K (by simp only [List.size_toArray]; omega) rfl fun t4 k4 => ?_
    have hQ : (wd ++ pad).length ≤ 46 := by rw [List.length_append]; omega
    k_steps
    refine bytes_add_K (by simp only [List.size_toArray]; omega) rfl fun t5 k5 => ?_
    k_steps
    have ht := wdF_turn (by simpa using ‹_›) h5 k0 k1 hf he
    have hnx : wdNext lower size wd r = wd ++ pad ++ td := by
      unfold wdNext wdTold wdPiece
      rw [htd, ← hg, List.size_toArray, List.size_toArray]
    rw [hnx] at ht
    refine Hold.off ?_
    (rename News _ _ _ _ => nE')
    exact ksw_end (wd ++ pad ++ td, _, (r * 16 ^ (wdPiece size wd).toNat).fmod lower, _) (by assumption) nE' (by intro p hp; exact List.mem_cons_of_mem _ hp) True.intro (by kst_all) (by ksw_same) ht.1 ht.2
  · have ht := wdF_end (by assumption) he
    exact hret _ _ _ _ (by assumption) (by assumption) ⟨⟨_, by rw [ht]⟩, rfl⟩
theorem walkFresh6 : True := by
  w_top off
  trivial
local macro_rules | `(tactic| walk_at "pyIter ref") => `(tactic| (refine Hold.on ?_))
local macro_rules | `(tactic| walk_at "eval ListComp") => `(tactic| (refine Hold.on ?_))
local macro_rules | `(tactic| walk_at "exec Assign cons ListComp") => `(tactic| (k_dflt (refine LCg.Assign_ListComp_U (F₀ := by k_asm) (by rfl) (by with_unfolding_all rfl) (by with_unfolding_all rfl) (by decide) (by rfl) (by decide) (by rfl) (by rfl) (by rfl) ?_)))
local macro_rules | `(tactic| walk_at "CompSrc") => `(tactic| (refine Hold.on ?_))
local macro_rules | `(tactic| walk_at "CompEnd") => `(tactic| (refine Hold.on ?_))
section
variable {prog : Program} {w : World} {A : Around} {E : Value → Shared → Prop} {s : Shared} {h₀ : Heap} {L : Addr} {news : Led}
theorem m_eqL {a b : Addr} {vs us : List Value} {ns ms : List Int} {n k : Nat} {Q : Value → Shared → Prop} (N : News h₀ L s.heap news) (h1 : (a, listOf vs.toArray n) ∈ news) (h2 : (b, listOf us.toArray k) ∈ news) (hi : IntsAre vs ns) (hi' : IntsAre us ms) (hu : A.units + 64 < cLine)
    (h : Q (.bool (decide (ns = ms))) s) : wpAny (model prog w) A (compareOp .Eq (.ref a) (.ref b)) Q E s :=
  eq_intsK ⟨_, (N _ h1).1, rfl, _, rfl⟩ hi ⟨_, (N _ h2).1, rfl, _, rfl⟩ hi' hu h
theorem m_neL {a b : Addr} {vs us : List Value} {ns ms : List Int} {n k : Nat} {Q : Value → Shared → Prop} (N : News h₀ L s.heap news) (h1 : (a, listOf vs.toArray n) ∈ news) (h2 : (b, listOf us.toArray k) ∈ news) (hi : IntsAre vs ns) (hi' : IntsAre us ms) (hu : A.units + 64 < cLine)
    (h : Q (.bool (!decide (ns = ms))) s) : wpAny (model prog w) A (compareOp .NotEq (.ref a) (.ref b)) Q E s :=
  ne_intsK ⟨_, (N _ h1).1, rfl, _, rfl⟩ hi ⟨_, (N _ h2).1, rfl, _, rfl⟩ hi' hu h
end
local macro_rules | `(tactic| walk_at "compareOp Eq ref ref") => `(tactic| ((with_reducible show wpAny _ _ (compareOp CmpOp.Eq (Value.ref _) (Value.ref _)) _ _ _); k_dflt (refine' m_eqL ?k1 ?k2 ?k3 ?k4 ?k5 ?k6 ?_; (case k1 => k_asm); (case k2 => k_mem); (case k3 => k_mem); (case k4 => first | assumption | exact IntsAre.nil); (case k5 => first | assumption | exact IntsAre.nil); (case k6 => ktr_units); k_whole)))
local macro_rules | `(tactic| walk_at "compareOp NotEq ref ref") => `(tactic| ((with_reducible show wpAny _ _ (compareOp CmpOp.NotEq (Value.ref _) (Value.ref _)) _ _ _); k_dflt (refine' m_neL ?k1 ?k2 ?k3 ?k4 ?k5 ?k6 ?_; (case k1 => k_asm); (case k2 => k_mem); (case k3 => k_mem); (case k4 => first | assumption | exact IntsAre.nil); (case k5 => first | assumption | exact IntsAre.nil); (case k6 => ktr_units); k_whole)))
abbrev tupObj (its : Array Value) : Obj := { cls := .type "tuple", data := .seq its }
theorem news_drop2 {h₀ h : Heap} {L : Addr} {a b : Addr × Obj} {r : Led} (N : News h₀ L h (a :: b :: r)) : News h₀ L h (a :: r) := kst_newsOf N fun p hp => by
  rcases List.mem_cons.mp hp with rfl | hp
  · exact .head _
  · exact .tail _ (.tail _ hp)
theorem news_drop3 {h₀ h : Heap} {L : Addr} {a b c d : Addr × Obj} {r : Led} (N : News h₀ L h (a :: b :: c :: d :: r)) : News h₀ L h (a :: b :: r) := kst_newsOf N fun p hp => by
  rcases List.mem_cons.mp hp with rfl | hp
  · exact .head _
  · rcases List.mem_cons.mp hp with rfl | hp
    · exact .tail _ (.head _)
    · exact .tail _ (.tail _ (.tail _ (.tail _ hp)))
theorem sub_nil {l' : Led} : ∀ p ∈ ([] : Led), p ∈ l' := fun _ h => nomatch h
theorem sub_cons {a : Addr × Obj} {l l' : Led} (h : a ∈ l') (k : ∀ p ∈ l, p ∈ l') : ∀ p ∈ a :: l, p ∈ l' := List.forall_mem_cons.mpr ⟨h, k⟩
theorem ne_nil {c : Addr} : ∀ p ∈ ([] : Led), p.1 ≠ c := fun _ h => nomatch h
theorem ne_cons {c : Addr} {a : Addr × Obj} {l : Led} (h : a.1 ≠ c) (k : ∀ p ∈ l, p.1 ≠ c) : ∀ p ∈ a :: l, p.1 ≠ c := List.forall_mem_cons.mpr ⟨h, k⟩
theorem sub_app {l1 l2 l' : Led} (h : ∀ p ∈ l1, p ∈ l') (k : ∀ p ∈ l2, p ∈ l') : ∀ p ∈ l1 ++ l2, p ∈ l' := fun p hp => (List.mem_append.mp hp).elim (h p) (k p)
theorem ne_app {c : Addr} {l1 l2 : Led} (h : ∀ p ∈ l1, p.1 ≠ c) (k : ∀ p ∈ l2, p.1 ≠ c) : ∀ p ∈ l1 ++ l2, p.1 ≠ c := fun p hp => (List.mem_append.mp hp).elim (h p) (k p)
theorem off1_mem {D : Addr} {l : Led} (h : LCg.Off1 D l) : ∀ p ∈ l, p.1 ≠ D := by
  induction l with
  | nil => intro p hp; cases hp
  | cons q r ih =>
    intro p hp
    rcases List.mem_cons.mp hp with rfl | hp
    · exact h.1
    · exact ih h.2 p hp
theorem m_append {prog : Program} {w : World} {A : Around} {E : Value → Shared → Prop} {s : Shared} {h₀ : Heap} {L l : Addr} {m : Str → Option Value} {rest : Led} {vs : List Value} {ns : List Int} {n : Nat} {x : Int} {t : Tok} {Q : Value → Shared → Prop}
    (F : Fr h₀ L s.heap m) (N : News h₀ L s.heap ((l, listOf vs.toArray n) :: rest)) (hne : ∀ p ∈ rest, p.1 ≠ l) (hi : IntsAre vs ns) (hl : ns.length < 1000)
    (h : ∀ h' vs', IntsAre vs' (ns ++ [x]) → Fr h₀ L h' m → News h₀ L h' ((l, listOf vs'.toArray (n + 1)) :: rest) → Q .none { s with heap := h' }) :
    wpAny (model prog w) A (call (.builtin "list.append") [.ref l, .int x t]) Q E s := by
  have hvl := hi.length
  refine append_K F N (Upd.head hne) (fun h' F' N' => h h' (vs ++ [.int x t]) (hi.append (.cons _ _ .nil)) F' (by simpa using N')) (by show vs.length ≤ sizeLine; rw [PySem.sizeLine_eq]; omega)
theorem paired_items {α : Type} {enc : α → Value → Prop} {G : α → Value → Prop} (inj : ∀ a b v, enc a v → enc b v → a = b) : ∀ (items : List α) (vs ys : List Value), vs.length = items.length → (∀ (j : Nat) v, vs[j]? = some v → ∃ a, items[j]? = some a ∧ enc a v) →
    Paired (fun v y => ∃ a, enc a v ∧ G a y) vs ys → Paired G items ys := by
  intro items
  induction items with
  | nil =>
    intro vs ys hl _ hp
    cases hp with
    | nil => exact .nil
    | cons => cases hl
  | cons a r ih =>
    intro vs ys hl hP hp
    cases hp with
    | nil => cases hl
    | cons h t =>
      obtain ⟨b, hb, hg⟩ := h
      obtain ⟨c, hc, hc2⟩ := hP 0 _ rfl
      cases hc
      rw [inj _ _ _ hb hc2] at hg
      exact .cons hg (ih _ _ (Nat.succ.inj hl) (fun j v hj => hP (j + 1) v hj) t)
theorem filter_all {α : Type} (l : List α) : l.filter (fun _ => true) = l := by simp
theorem u8_inj {a b : UInt8} {t u : Tok} {v : Value} (h : v = .int a.toNat t) (k : v = .int b.toNat u) : a = b := by
  rw [h] at k
  injection k with k1 _
  exact UInt8.toNat_inj.mp (by omega)
section
variable {prog : Program} {w : World} {A : Around} {E : Value → Shared → Prop} {s : Shared} {env : Env} {scope : Scope} {x : Str} {elt : Expr} {h₀ : Heap} {L : Addr} {m : Str → Option Value} {news : Led} {Q : Value → Shared → Prop}
/-- what a comprehension gives, from its source's walk, told item by item -/
theorem comp_post2 {α : Type} {items : List α} {enc : α → Value → Prop} {G : α → Value → Prop} {I : Addr} {fp : List Addr} {St : Nat → Heap → Prop} {o : Obj} (inj : ∀ a b v, enc a v → enc b v → a = b)
    (hI : I = s.heap.objs.size) (hfp : ∀ b ∈ fp, b < s.heap.objs.size + 1) (W : Walks prog w A I fp [I] items.length (fun i v => ∃ a, items[i]? = some a ∧ enc a v) St) (hsz : items.length ≤ 1000) (hst : St 0 (s.heap.push o))
    (F : Fr h₀ L s.heap m) (N : News h₀ L s.heap news)
    (helt : ∀ C a v s₃ m₃ E', a ∈ items → enc a v → s₃.heap.Ns C m₃ → m₃ x = some v → Fr h₀ L s₃.heap m → News h₀ L s₃.heap news →
      wpAny (model prog w) A (eval elt (compEnv scope C env)) (fun y s₄ => G a y ∧ Keeps s₃ s₄) E' s₃)
    (hQ : ∀ D k h' tk ys, Paired G items ys → Fr h₀ L h' m → News h₀ L h' ((D, listOf ys.toArray k) :: news) → (∀ p ∈ news, p.1 ≠ D) → Q (.ref D) { s with heap := h', toks := tk }) :
    CompPost prog w A env scope x [] elt Q (.ref I) { s with heap := s.heap.push o } := by
  subst hI
  have up : ∀ (h : Heap), (∀ b o', b ∉ [s.heap.objs.size] → (s.heap.push o).get? b = some o' → h.get? b = some o') → ∀ b o', s.heap.get? b = some o' → h.get? b = some o' := fun h hk b o' e =>
    hk b o' (by rw [List.mem_singleton]; exact Nat.ne_of_lt (Heap.lt_size e)) (Heap.get?_push_of_some _ e)
  refine ⟨fun _ => true, fun v y => ∃ a, (a ∈ items ∧ enc a v) ∧ G a y, s.heap.objs.size, fp, [s.heap.objs.size], items.length, _, St, rfl, W, by rw [PySem.sizeLine_eq]; omega, hst, ?_, ⟨?_, ?_⟩, ?_⟩
  · intro b hb
    show b < (s.heap.push o).objs.size
    rw [Heap.size_push]
    exact hfp b hb
  · intro C i v s₃ m₃ E' _ _ _ _ _
    exact wpAny_tests_nil ⟨rfl, s₃.heap, s₃.toks, rfl, fun _ _ e => e⟩
  · rintro C i v s₃ m₃ E' ⟨a, ha, hv⟩ _ hn hm hk _
    have hk' := up _ hk
    exact wpAny_mono (helt C a v s₃ m₃ E' (List.mem_of_getElem? ha) hv hn hm (F.keeps hk') (News.grown N hk')) (fun y s₄ h => ⟨⟨a, ⟨List.mem_of_getElem? ha, hv⟩, h.1⟩, h.2⟩) fun _ _ e => e
  · intro D h' tk ys vs hD hl hpl hlen hP hF hk
    have hk' := up _ hk
    obtain ⟨k, hk2⟩ := hpl
    rw [filter_all] at hF
    have hF' := paired_items (enc := fun a v => a ∈ items ∧ enc a v) (fun a b v h1 h2 => inj a b v h1.2 h2.2) items vs ys.toList hlen (fun j v hj => by
      obtain ⟨a, ha, hv⟩ := hP j v hj
      exact ⟨a, ha, List.mem_of_getElem? ha, hv⟩) hF
    have hDs : s.heap.get? D = none := by
      cases e : s.heap.get? D with
      | none => rfl
      | some o' =>
        have h2 : (s.heap.push o).get? D = some o' := Heap.get?_push_of_some _ e
        have hD' : (s.heap.push o).get? D = none := hD
        rw [h2] at hD'; cases hD'
    obtain ⟨oL, _, _, hL, _⟩ := F.ns
    refine hQ D k h' tk ys.toList hF' (F.keeps hk') (fun p hp => ?_) fun p hp e => ?_
    · rcases List.mem_cons.mp hp with rfl | hp
      · refine ⟨hk2, fun e => ?_, ?_⟩
        · have e' : D = L := e
          rw [e', hL] at hDs; cases hDs
        · cases e : h₀.get? D with
          | none => rfl
          | some o' => rw [F.keep _ _ e] at hDs; cases hDs
      · exact News.grown N hk' p hp
    · have := (N p hp).1
      rw [e, hDs] at this; cases this
theorem comp_bytes {wd : List UInt8} {tb : Tok} (G : UInt8 → Value → Prop) (hh : A.handled = none) (hsz : wd.length ≤ 1000) (F : Fr h₀ L s.heap m) (N : News h₀ L s.heap news)
    (helt : ∀ C (a : UInt8) t s₃ m₃ E', a ∈ wd → s₃.heap.Ns C m₃ → m₃ x = some (.int a.toNat t) → Fr h₀ L s₃.heap m → News h₀ L s₃.heap news →
      wpAny (model prog w) A (eval elt (compEnv scope C env)) (fun y s₄ => G a y ∧ Keeps s₃ s₄) E' s₃)
    (hQ : ∀ D k h' tk ys, Paired G wd ys → Fr h₀ L h' m → News h₀ L h' ((D, listOf ys.toArray k) :: news) → (∀ p ∈ news, p.1 ≠ D) → Q (.ref D) { s with heap := h', toks := tk }) :
    wpAny (model prog w) A (pyIter (.bytes wd.toArray tb)) (CompPost prog w A env scope x [] elt Q) E s := by
  refine KBw.pyIter_bytes ?_
  have W := KBw.walks (prog := prog) (w := w) hh s.heap.objs.size wd.toArray tb
  have e : wd.toArray.size = wd.length := by simp
  rw [e] at W
  refine comp_post2 (fp := [s.heap.objs.size]) (items := wd) (enc := fun a v => ∃ u, v = .int a.toNat u) (G := G) (fun a b v h k => ?_) rfl (fun b hb => by rw [List.mem_singleton.mp hb]; exact Nat.lt_succ_self _) (St := fun i h => KBw.IsBytesIter h s.heap.objs.size wd.toArray tb i) ⟨W.sub, W.frame, fun i s Q E hi st hQ => W.item i s Q E hi st fun v h' tk hP => hQ v h' tk ?_, W.done, W.self⟩ hsz ⟨_, Heap.get?_push_size _ rfl, rfl, rfl⟩ F N (fun C a v s₃ m₃ E' ha hv hn hm F N => ?_) hQ
  · obtain ⟨t, h⟩ := h
    obtain ⟨u, k⟩ := k
    exact u8_inj h k
  · obtain ⟨c, u, hc, hv⟩ := hP
    exact ⟨c, by simpa using hc, u, hv⟩
  · obtain ⟨u, rfl⟩ := hv
    exact helt C a u s₃ m₃ E' ha hn hm F N
end
noncomputable def IsStr (z : Str) (y : Value) : Prop := ∃ t, y = .str z t
noncomputable def IsInt (z : Int) (y : Value) : Prop := ∃ t, y = .int z t
theorem paired_strs {α : Type} {f : α → Str} {wd : List α} {ys : List Value} (h : Paired (fun a y => IsStr (f a) y) wd ys) : StrsAre ys (wd.map f) := by
  induction h with
  | nil => exact .nil
  | cons e _ ih => obtain ⟨t, rfl⟩ := e; exact .cons _ t ih
theorem paired_ints {α : Type} {f : α → Int} {wd : List α} {ys : List Value} (h : Paired (fun a y => IsInt (f a) y) wd ys) : IntsAre ys (wd.map f) := by
  induction h with
  | nil => exact .nil
  | cons e _ ih => obtain ⟨t, rfl⟩ := e; exact .cons _ t ih
theorem walkFresh7 : True := by
  w_top off
  trivial
noncomputable def plL (ns : List Int) (lower : Int) : List Int := (rangeKs 0 17).map fun f => blF ns ((f * lower + 15).fdiv 16) ns.length 0 ns.length
noncomputable def ctL (p : List Int) : List Int := (rangeKs 0 16).map fun f => p.getD (f + 1).toNat 0 - p.getD f.toNat 0
noncomputable def popF : Nat → List Int → List Int
  | 0, c => c
  | f + 1, c => if c = [] then [] else if c.getD (-1 + (c.length : Int)).toNat 0 = 0 then popF f c.dropLast else c
theorem popF_end {f : Nat} {c r : List Int} (h : c = [] ∨ c.getD (-1 + (c.length : Int)).toNat 0 ≠ 0) (he : popF f c = r) : c = r := by
  cases f with
  | zero => exact he
  | succ f =>
    by_cases hc : c = []
    · subst hc; exact he
    · have h2 := h.resolve_left hc
      unfold popF at he
      rw [if_neg hc, if_neg h2] at he
      exact he
theorem popF_turn {f : Nat} {c r : List Int} (h0 : c ≠ []) (h : c.getD (-1 + (c.length : Int)).toNat 0 = 0) (hf : c.length ≤ f) (he : popF f c = r) : ∃ f : Nat, c.dropLast.length ≤ f ∧ popF f c.dropLast = r := by
  have := List.length_pos_iff.mpr h0
  cases f with
  | zero => omega
  | succ f =>
    simp only [popF, if_neg h0, if_pos h] at he
    exact ⟨f, by rw [List.length_dropLast]; omega, he⟩
set_option maxHeartbeats 8000000 in
theorem c_nm {w : World} {loose : List Str} {mean : ExcName → Option Value} {mg mb : Str → Option Value} {news : Led} {l : Addr} {vs : List Value} {ns : List Int} {n : Nat} {lower : Int} {t : Tok}
   (hm : (l, listOf vs.toArray n) ∈ news) (hi : IntsAre vs ns) (hl : ns.length < 1000) (h1 : 1 ≤ lower) (h2 : lower < 100) :
   Spec w loose mean mg mb 168 20 [.ref l, .int lower t] news (fun v tl => ∃ T D us t0, v = .ref T ∧ IntsAre us (popF 17 (ctL (plL ns lower))) ∧ tl = (T, tupObj #[.ref D, .int 0 t0]) :: (D, tupObj us.toArray) :: news) := by
  unfold Spec
  k_fill
  intro dp un gd cn csn csg csc csm a ccd cl outer A₀ base h₀ L m s Q E B F X N T hdp hun hret
  refine wpAny_call ?_
  k_dflt k_enter
  change (let A1 := _; wpAny _ A1 _ _ _ _)
  intro A1
  rename_i gX LX hX tX FG F1 B1 X1 T1 l1 o1 o2 o3 d1 d2 d3 N1
  have kMark := kstMark
  have lc1 : AllLt (LX + 1) news := allLt_of fun p hp => Nat.lt_of_lt_of_le (l1 p hp) (by omega)
  have lc2 : AllLt (LX + 1 + 1) news := allLt_of fun p hp => Nat.lt_of_lt_of_le (l1 p hp) (by omega)
  have lc3 : AllLt (LX + 1 + 1 + 1) news := allLt_of fun p hp => Nat.lt_of_lt_of_le (l1 p hp) (by omega)
  k_steps
  refine Hold.off ?_
  (refine LCg.ListComp_U (F₀ := by k_asm) (by with_unfolding_all rfl) (by decide) (by rfl) (by decide) (by rfl) ?_)
  k_steps
  refine Hold.off ?_
  rename_i IR F3 N3 _
  refine LCg.CompSrc.range (n := 17) (by rfl) F3 N3 IR (by decide) (by rfl) (by rw [PySem.sizeLine_eq]; decide) ?_
  intro g
  refine' kcf_range (n := 17) (a := 0) (fun f => blF ns ((f * lower + 15).fdiv 16) ns.length 0 ns.length) (fun f tf I oI C oC D m2 ys h tk E' hlo hhi hC hx F4 N4 off ne mk => ?_) ?_
  · have off0 := off
    k_steps
    refine Hold.off ?_
    refine Spec.use (N := N4) (c_bl2 (n := n) (by (repeat (refine List.Mem.tail _ ?_)); exact hm) hi hl) ?_
    rintro v tl h1 tk1 F1 N1 ⟨⟨t1, rfl⟩, rfl⟩
    dsimp only
    exact LCg.CompEnd.intro F1 N1 _ (fun p hp => hp) off0 True.intro ⟨rfl, _, rfl⟩
  · unfold KPfDone
    intro ys hys D h tk F5 N5 off5
    simp only [LCg.Off1, and_true] at off5
    k_sweep
    dsimp only
    have hys : IntsAre ys (plL ns lower) := hys
    have hyl : (plL ns lower).length = 17 := by unfold plL; rw [List.length_map, rangeKs_length]
    generalize plL ns lower = pl at hys hyl hret
    have N5 : News gX LX h ((D, listOf ys.toArray ys.length) :: (LX + 1 + 1 + 1, o1) :: (LX + 1 + 1, o2) :: (LX + 1, o3) :: news) := N5
    k_sweep
    k_steps
    refine Hold.off ?_
    rename_i IR2 F6 N6 _
    refine LCg.CompSrc.range (n := 16) (by rfl) F6 N6 IR2 (by decide) (by rfl) (by rw [PySem.sizeLine_eq]; decide) ?_
    intro g
    refine' kcf_range (n := 16) (a := 0) (fun f => pl.getD (f + 1).toNat 0 - pl.getD f.toNat 0) (fun f tf I oI C oC D2 m2 ys2 h tk E' hlo hhi hC hx F4 N4 off ne mk => ?_) ?_
    · have off0 := off
      k_steps
      refine Hold.off ?_
      exact LCg.CompEnd.intro F4 N4 _ (fun p hp => hp) off0 True.intro ⟨rfl, _, rfl⟩
    · unfold KPfDone
      intro ys2 hys2 D2 h tk F7 N7 off7
      simp only [LCg.Off1, and_true] at off7
      k_sweep
      dsimp only
      have hys2 : IntsAre ys2 (ctL pl) := hys2
      have hcl : (ctL pl).length = 16 := by unfold ctL; rw [List.length_map, rangeKs_length]
      generalize ctL pl = c0 at hys2 hcl hret
      have N7 : News gX LX h ((D2, listOf ys2.toArray ys2.length) :: news) := kst_newsOf N7 (by
        intro p hp
        simp only [List.mem_cons] at hp ⊢
        rcases hp with hp | hp <;> simp only [hp, true_or, or_true])
      k_sweep
      k_steps
      refine Hold.off ?_
      have lc4 : ∀ p ∈ news, p.1 ≠ D2 := off1_mem off7.2.2.2.2
      refine' ksw_while (σ := List Value × List Int × Nat) (fun c => (D2, listOf c.1.toArray c.2.2) :: news) (fun _ => []) (fun c => IntsAre c.1 c.2.1) []
        (fun c => c.2.1.length ≤ 16 ∧ ∃ f : Nat, c.2.1.length ≤ f ∧ popF f c.2.1 = popF 17 c0) (fun c => c.2.1.length) (ys2, c0, _) F7 N7 hys2 (fun _ h => nomatch h) ?hp ?ht
      case hp => exact ⟨by dsimp only; omega, 17, by dsimp only; omega, rfl⟩
      rintro ⟨cv, cn, k⟩ u h tk hi2 ⟨hP, f, hf, he⟩ F8 N8
      dsimp only [kstB] at hi2 hP hf he F8 N8 ⊢
      k_fold
      k_steps
      · have hcn : cn = [] := of_decide_eq_true (by assumption)
        have hc := popF_end (.inl hcn) he
        (rename News _ _ _ _ => N10)
        exact hret _ _ _ _ (by assumption) (news_drop3 N10) ⟨_, _, cv, _, rfl, by rw [← hc]; exact hi2, rfl⟩
      · have hcn : cn ≠ [] := of_decide_eq_false (by assumption)
        have hcp : 0 < cn.length := List.length_pos_iff.mpr hcn
        (rename News _ _ _ _ => N9)
        refine item_list_ints_neg ⟨_, (N9 _ (.tail _ (.head _))).1, rfl, _, rfl⟩ hi2 (by decide) (by omega) (by decide) (fun t9 => ?_)
        k_steps
        · have ht := popF_turn hcn (by assumption) hf he
          have N10 : News gX LX _ ((D2, listOf cv.toArray k) :: news) := kst_newsOf N9 (fun p hp => .tail _ hp)
          refine kpa_pop (by k_asm) N10 (Upd.head lc4) hi2 (by rw [hi2.length]; exact hcp) (by rw [PySem.sizeLine_eq, hi2.length]; omega) fun h9 t9 F9 N9 hi9 => ?_
          k_sweep
          dsimp only
          k_steps
          refine Hold.off ?_
          exact ksw_end (cv.dropLast, cn.dropLast, k + 1) (by assumption) N9 (by kst_in) hi9 (fun _ h => nomatch h) (by ksw_same) ⟨by dsimp only; rw [List.length_dropLast]; omega, ht⟩ (by dsimp only; rw [List.length_dropLast]; omega)
        · have hc := popF_end (.inr (by assumption)) he
          (rename News _ _ _ _ => N10)
          exact hret _ _ _ _ (by assumption) (news_drop3 N10) ⟨_, _, cv, _, rfl, by rw [← hc]; exact hi2, rfl⟩
theorem walkFresh8 : True := by
  w_top off
  trivial
noncomputable def colF (size forms side two tab : Int) : Int :=
  tab * (Int.fdiv 16 tab * (size - side * forms).fdiv 2 - (size - (if tab = 2 ∨ tab = 8 then side * two else side) * forms).fdiv 2 + size)
set_option maxHeartbeats 8000000 in
theorem c_co {w : World} {loose : List Str} {mean : ExcName → Option Value} {mg mb : Str → Option Value} {news : Led} {size forms side two : Int} {t1 t2 t3 t4 : Tok}
   (h1 : 0 ≤ size) (h2 : size < 100) (h3 : -1 ≤ side) (h4 : side ≤ 1) (h5 : -1 ≤ two) (h6 : two ≤ 1) (h7 : 0 ≤ forms) (h8 : forms < 1000) :
   Spec w loose mean mg mb 175 20 [.int size t1, .int forms t2, .int side t3, .int two t4] news (fun v tl => ∃ D vs k, v = .ref D ∧ IntsAre vs ([1, 2, 4, 8, 16].map (colF size forms side two)) ∧ tl = (D, listOf vs.toArray k) :: news ∧ ∀ p ∈ news, p.1 < D) := by
  unfold Spec
  k_fill
  intro dp un gd cn csn csg csc csm a ccd cl outer A₀ base h₀ L m s Q E B F X N T hdp hun hret
  refine wpAny_call ?_
  k_dflt k_enter
  change (let A1 := _; wpAny _ A1 _ _ _ _)
  intro A1
  k_steps
  refine Hold.off ?_
  rename_i lT _ l1 _ lI _ F3 N3 l2
  k_sweep
  obtain ⟨vI, hvI, N4⟩ : ∃ vI : List Value, IntsAre vI [1, 2, 4, 8, 16] ∧ News _ _ _ ((lI, listOf vI.toArray 0) :: (lT, listOf [].toArray 0) :: news) := ⟨_, .cons _ _ (.cons _ _ (.cons _ _ (.cons _ _ (.cons _ _ .nil)))), N3⟩
  refine' kst_listL (nn := 0) (ns := [1, 2, 4, 8, 16]) (σ := List Value × List Int × Nat) (fun c => (lI, listOf vI.toArray 0) :: (lT, listOf c.1.toArray c.2.2) :: news) (fun _ => []) (fun c => IntsAre c.1 c.2.1) [Str.ofString "turned", Str.ofString "own"]
    (fun pre c => c.2.1 = pre.map (colF size forms side two)) ([], [], 0) rfl (fun _ => .head _) hvI F3 N4 .nil (fun _ h => nomatch h) rfl ?ht ?hd
  case ht =>
    rintro ⟨vs, cn, k⟩ pre post tab tt u h tk own he hmem hoff hi hP F4 N4
    dsimp only [kstB, envOf, List.map] at hi hP hoff F4 N4 ⊢
    k_fold
    have htb : 1 ≤ tab ∧ tab ≤ 16 ∧ 0 ≤ Int.fdiv 16 tab ∧ Int.fdiv 16 tab ≤ 16 := by
      simp only [List.mem_cons, List.not_mem_nil, or_false] at hmem
      rcases hmem with rfl | rfl | rfl | rfl | rfl <;> decide
    have hneT : ∀ vI, ∀ p ∈ ((lI, listOf vI 0) :: (news ++ own)), p.1 ≠ lT := by
      exact fun vI => ne_cons (Nat.ne_of_gt l2.1) (ne_app (fun p hp => Nat.ne_of_lt (l1 p hp)) fun p hp => hoff p hp lT (.tail _ (.head _)))
    k_steps
    · have ht : tab = 2 ∨ tab = 8 := by
        have hc : ([2, 8].any fun x => x == tab) = true := by assumption
        simp only [List.any_cons, List.any_nil, Bool.or_false, Bool.or_eq_true, beq_iff_eq] at hc
        omega
      (rename News _ _ _ _ => N6)
      have N7 : News _ _ _ ((lT, listOf vs.toArray k) :: (lI, listOf vI.toArray 0) :: (news ++ own)) := kst_newsOf N6 (sub_cons (.tail _ (.tail _ (.head _))) (sub_cons (.tail _ (.head _)) fun p hp => .tail _ (.tail _ (.tail _ hp))))
      have hlen : cn.length < 1000 := by
        have e1 := congrArg List.length he
        rw [List.length_append] at e1
        have e2 : ([1, 2, 4, 8, 16] : List Int).length = 5 := rfl
        rw [hP, List.length_map]; omega
      refine m_append (by k_asm) N7 (hneT _) hi hlen fun h8 vs8 hi8 F8 N8 => ?_
      k_sweep
      dsimp only
      k_steps
      refine Hold.off ?_
      refine kst_end (vs8, _, k + 1) F8 N8 ?_ ?_ rfl hi8 (fun _ h => nomatch h) (by kst_same) ?_
      · exact sub_cons (.tail _ (.head _)) (sub_cons (.head _) fun p hp => .tail _ (.tail _ (List.mem_append_left _ hp)))
      · exact fun p hp => .tail _ (.tail _ (List.mem_append_right _ hp))
      · dsimp only
        rw [hP, List.map_append, List.map_cons, List.map_nil]
        unfold colF
        rw [if_pos ht]
    · have ht : ¬ (tab = 2 ∨ tab = 8) := by
        have hc : ([2, 8].any fun x => x == tab) = false := by assumption
        simp only [List.any_cons, List.any_nil, Bool.or_false, Bool.or_eq_false_iff, beq_eq_false_iff_ne] at hc
        omega
      (rename News _ _ _ _ => N6)
      have N7 : News _ _ _ ((lT, listOf vs.toArray k) :: (lI, listOf vI.toArray 0) :: (news ++ own)) := kst_newsOf N6 (sub_cons (.tail _ (.tail _ (.head _))) (sub_cons (.tail _ (.head _)) fun p hp => .tail _ (.tail _ (.tail _ hp))))
      have hlen : cn.length < 1000 := by
        have e1 := congrArg List.length he
        rw [List.length_append] at e1
        have e2 : ([1, 2, 4, 8, 16] : List Int).length = 5 := rfl
        rw [hP, List.length_map]; omega
      refine m_append (by k_asm) N7 (hneT _) hi hlen fun h8 vs8 hi8 F8 N8 => ?_
      k_sweep
      dsimp only
      k_steps
      refine Hold.off ?_
      refine kst_end (vs8, _, k + 1) F8 N8 ?_ ?_ rfl hi8 (fun _ h => nomatch h) (by kst_same) ?_
      · exact sub_cons (.tail _ (.head _)) (sub_cons (.head _) fun p hp => .tail _ (.tail _ (List.mem_append_left _ hp)))
      · exact fun p hp => .tail _ (.tail _ (List.mem_append_right _ hp))
      · dsimp only
        rw [hP, List.map_append, List.map_cons, List.map_nil]
        unfold colF
        rw [if_neg ht]
  case hd => 
    rintro ⟨vs, cn, k⟩ u h tk hi hP F4 N4
    dsimp only [kstB, envOf] at hi hP F4 N4 ⊢
    k_steps
    (rename News _ _ _ _ => N6)
    exact hret _ _ _ _ (by assumption) (kst_newsOf N6 fun p hp => .tail _ hp) ⟨lT, vs, k, rfl, by rw [← hP]; exact hi, rfl, l1⟩
theorem walkFresh9 : True := by
  w_top off
  trivial
section
local macro_rules | `(tactic| walk_at "pyIter ref") => `(tactic| (refine Hold.on ?_))

noncomputable def dvStep (lower : Int) (i : Nat) (s : List Int × List Int × Int) : List Int × List Int × Int :=
  (if i % 2 = 0 then insAt s.1 (blF s.1 s.2.2 s.1.length 0 s.1.length) s.2.2 else insAt s.1 (brF s.1 s.2.2 s.1.length 0 s.1.length) s.2.2, s.2.1 ++ [(16 * s.2.2).fdiv lower], (16 * s.2.2).fmod lower)
noncomputable def dvN (lower upper : Int) : Nat → List Int × List Int × Int
  | 0 => ([], [], upper)
  | i + 1 => dvStep lower i (dvN lower upper i)
theorem dvN_facts {lower upper : Int} (h1 : 0 ≤ upper) (h2 : upper < lower) : ∀ i, (dvN lower upper i).1.length = i ∧ (dvN lower upper i).2.1.length = i ∧ 0 ≤ (dvN lower upper i).2.2 ∧ (dvN lower upper i).2.2 < lower
  | 0 => ⟨rfl, rfl, h1, h2⟩
  | i + 1 => by
    obtain ⟨a, b, c, d⟩ := dvN_facts h1 h2 i
    refine ⟨?_, ?_, ?_, ?_⟩
    · simp only [dvN, dvStep]; split <;> rw [insAt_length, a]
    · simp only [dvN, dvStep, List.length_append, List.length_cons, List.length_nil, b]
    · simp only [dvN, dvStep]; rw [Int.fmod_eq_emod_of_nonneg _ (by omega)]; exact Int.emod_nonneg _ (by omega)
    · simp only [dvN, dvStep]; rw [Int.fmod_eq_emod_of_nonneg _ (by omega)]; exact Int.emod_lt_of_pos _ (by omega)
set_option maxHeartbeats 8000000 in
theorem c_dv {w : World} {loose : List Str} {mean : ExcName → Option Value} {mg mb : Str → Option Value} {news : Led} {upper lower size : Int} {t tl ts : Tok}
   (h1 : 0 ≤ upper) (h2 : upper < lower) (h3 : lower < 100) (h4 : 0 ≤ size) (h5 : size < 24) :
   Spec w loose mean mg mb 163 3 [.int upper t, .int lower tl, .int size ts] news (fun v tl => ∃ D lR lF rv fv rc fc, v = .ref D ∧ IntsAre rv (dvN lower upper size.toNat).1 ∧ IntsAre fv (dvN lower upper size.toNat).2.1 ∧
      tl = (D, tupObj #[.ref lR, .ref lF]) :: (lF, listOf fv.toArray fc) :: (lR, listOf rv.toArray rc) :: news ∧ (∀ p ∈ news, p.1 < lR) ∧ lR < lF ∧ lF < D) := by
  unfold Spec
  k_fill
  intro dp un gd cn csn csg csc csm a ccd cl outer A₀ base h₀ L m s Q E B F X N T hdp hun hret
  refine wpAny_call ?_
  k_dflt k_enter
  change (let A1 := _; wpAny _ A1 _ _ _ _)
  intro A1
  k_steps
  refine Hold.off ?_
  rename_i lR _ l1 _ _ lF _ l2 _ _ _ _ _ _ _ _ _ IR F3 N3 _
  k_sweep
  refine' kst_range (n := size.toNat) (σ := (Int × Tok) × (List Value × List Int × Nat) × (List Value × List Int × Nat)) (fun c => (lF, listOf c.2.2.1.toArray c.2.2.2.2) :: (lR, listOf c.2.1.1.toArray c.2.1.2.2) :: news)
    (fun c => [(Str.ofString "rest", .int c.1.1 c.1.2)]) (fun c => IntsAre c.2.1.1 c.2.1.2.1 ∧ IntsAre c.2.2.1 c.2.2.2.1) [Str.ofString "figure"]
    (fun pre c => (c.2.1.2.1, c.2.2.2.1, c.1.1) = dvN lower upper pre.length) ((upper, t), ([], [], 0), ([], [], 0)) rfl IR (small_one (by omega) (by omega) (by omega) (by omega)) ?hn F3 N3 ⟨.nil, .nil⟩ ?hk rfl ?ht ?hd
  case hn => have := rangeSize_nat 0 size; rw [this]; omega
  case hk => kst_all
  case ht =>
    rintro ⟨⟨r, tr⟩, ⟨rv, rn, rc⟩, fv, fn, fc⟩ pre k tk1 u h tk own hk1 hk2 hoff ⟨hi1, hi2⟩ hP F4 N4
    dsimp only [kstB, envOf, List.map] at hi1 hi2 hP hoff F4 N4 ⊢
    k_fold
    have hd := dvN_facts h1 h2 pre.length
    rw [← hP] at hd
    obtain ⟨d1, d2, d3, d4⟩ := hd
    dsimp only at d1 d2 d3 d4
    have hneR : ∀ p ∈ ((lF, listOf fv.toArray fc) :: (news ++ own)), p.1 ≠ lR := by
      exact ne_cons (Nat.ne_of_gt l2.1) (ne_app (fun p hp => Nat.ne_of_lt (l1 p hp)) fun p hp => hoff p hp lR (.tail _ (.head _)))
    have hneF : ∀ rv rc, ∀ p ∈ ((lR, listOf rv rc) :: (news ++ own)), p.1 ≠ lF := by
      exact fun rv rc => ne_cons (Nat.ne_of_lt l2.1) (ne_app (fun p hp => Nat.ne_of_lt (kst_ltOf l2.2 p hp)) fun p hp => hoff p hp lF (.head _))
    have N5 : News _ _ _ ((lR, listOf rv.toArray rc) :: (lF, listOf fv.toArray fc) :: (news ++ own)) := kst_newsOf N4 (sub_cons (.tail _ (.head _)) (sub_cons (.head _) fun p hp => .tail _ (.tail _ hp)))
    k_steps
    · refine Hold.off ?_
      refine Spec.use (c_il hneR hi1 (by omega)) ?_
      rintro v tl h1 tk1 F1 N1 ⟨rfl, rv2, rc2, hi3, rfl⟩
      k_sweep
      dsimp only
      k_steps
      (rename News _ _ _ _ => N6)
      have N7 : News _ _ _ ((lF, listOf fv.toArray fc) :: (lR, listOf rv2.toArray rc2) :: (news ++ own)) := kst_newsOf N6 (sub_cons (.tail _ (.tail _ (.head _))) (sub_cons (.tail _ (.head _)) fun p hp => .tail _ (.tail _ (.tail _ hp))))
      refine m_append (by k_asm) N7 (hneF _ _) hi2 (by omega) fun h2 fv2 hi4 F8 N8 => ?_
      k_sweep
      dsimp only
      k_steps
      refine Hold.off ?_
      refine kst_end (((16 * r).fmod lower, _), (rv2, _, rc2), fv2, _, fc + 1) F8 N8 ?_ ?_ rfl ⟨hi3, hi4⟩ (by kst_all) (by kst_same) ?_
      · exact sub_cons (.head _) (sub_cons (.tail _ (.head _)) fun p hp => .tail _ (.tail _ (List.mem_append_left _ hp)))
      · exact fun p hp => .tail _ (.tail _ (List.mem_append_right _ hp))
      · have hk2 : k.fmod 2 = k % 2 := Int.fmod_eq_emod_of_nonneg k (by omega)
        rw [List.length_append, List.length_cons, List.length_nil, dvN, dvStep, ← hP]
        dsimp only
        rw [if_pos (by omega)]
        rfl
    · refine Hold.off ?_
      refine Spec.use (c_ir hneR hi1 (by omega)) ?_
      rintro v tl h1 tk1 F1 N1 ⟨rfl, rv2, rc2, hi3, rfl⟩
      k_sweep
      dsimp only
      k_steps
      (rename News _ _ _ _ => N6)
      have N7 : News _ _ _ ((lF, listOf fv.toArray fc) :: (lR, listOf rv2.toArray rc2) :: (news ++ own)) := kst_newsOf N6 (sub_cons (.tail _ (.tail _ (.head _))) (sub_cons (.tail _ (.head _)) fun p hp => .tail _ (.tail _ (.tail _ hp))))
      refine m_append (by k_asm) N7 (hneF _ _) hi2 (by omega) fun h2 fv2 hi4 F8 N8 => ?_
      k_sweep
      dsimp only
      k_steps
      refine Hold.off ?_
      refine kst_end (((16 * r).fmod lower, _), (rv2, _, rc2), fv2, _, fc + 1) F8 N8 ?_ ?_ rfl ⟨hi3, hi4⟩ (by kst_all) (by kst_same) ?_
      · exact sub_cons (.head _) (sub_cons (.tail _ (.head _)) fun p hp => .tail _ (.tail _ (List.mem_append_left _ hp)))
      · exact fun p hp => .tail _ (.tail _ (List.mem_append_right _ hp))
      · have hk2 : k.fmod 2 = k % 2 := Int.fmod_eq_emod_of_nonneg k (by omega)
        rw [List.length_append, List.length_cons, List.length_nil, dvN, dvStep, ← hP]
        dsimp only
        rw [if_neg (by omega)]
        rfl
  case hd =>
    rintro ⟨⟨r, tr⟩, ⟨rv, rn, rc⟩, fv, fn, fc⟩ u h tk ⟨hi1, hi2⟩ hP F4 N4
    dsimp only [kstB, envOf] at hi1 hi2 hP F4 N4 ⊢
    rw [rangeKs_length] at hP
    k_steps
    exact hret _ _ _ _ (by assumption) (by assumption) ⟨_, lR, lF, rv, fv, rc, fc, rfl, by rw [← hP]; exact hi1, by rw [← hP]; exact hi2, rfl, l1, l2.1, And.left (by assumption)⟩
end
theorem walkFresh10 : True := by
  w_top off
  trivial
local macro_rules | `(tactic| walk_at "pyIter str") => `(tactic| (refine Hold.on ?_))
local macro_rules | `(tactic| walk_at "UnrEnd") => `(tactic| (refine Hold.on ?_))
section
variable {prog : Program} {w : World} {A : Around} {E : Value → Shared → Prop} {s : Shared} {env : Env} {h₀ : Heap} {x : Str} {body : List Stmt} {Q : Flow → Shared → Prop}
theorem m_pyIter_str {xt : Str} {t : Tok} {Q : Value → Shared → Prop}
    (hQ : ∀ (o : Obj) (St : Nat → Heap → Prop), (∀ A' : Around, A'.handled = none → Walks prog w A' s.heap.objs.size [s.heap.objs.size] [s.heap.objs.size] xt.cps.size (SignAt xt) St) → (∀ i h, St i h → ∃ o, h.get? s.heap.objs.size = some o) → St 0 (s.heap.push o) →
      Q (.ref s.heap.objs.size) { s with heap := s.heap.push o }) : wpAny (model prog w) A (pyIter (.str xt t)) Q E s := by
  cases ha : xt.cps.all (· < 128)
  · exact wpAny_pyIter_wide ha (hQ _ _ (fun A' hA => Walks.strWide hA _ xt t) (fun i h st => let ⟨o, ho, _⟩ := st; ⟨o, ho⟩) ⟨_, Heap.get?_push_size _ rfl, rfl, rfl⟩)
  · exact wpAny_pyIter_ascii ha (hQ _ _ (fun A' hA => Walks.strAscii hA _ xt t) (fun i h st => let ⟨o, ho, _⟩ := st; ⟨o, ho⟩) ⟨_, Heap.get?_push_size _ rfl, rfl, rfl⟩)
/-- a loop over a text whose turn may leave other objects in the ledger -/
theorem m_text {σ : Type} {xt : Str} {tx : Tok} {m₀ : Str → Option Value} (Ld : σ → Led) (ps : σ → List (Str × Value)) (Facts : σ → Prop) (stored : List Str) (P : List Int → σ → Prop) (c₀ : σ)
    (hh : A.handled = none) (F : Fr h₀ env.locals s.heap m₀) (N : News h₀ env.locals s.heap (Ld c₀)) (hf : Facts c₀) (hk : ∀ p ∈ ps c₀, m₀ p.1 = some p.2) (hp : P [] c₀)
    (turn : ∀ (c : σ) (I : Addr) (o : Obj) (pre post : List Int) (n : Nat) t (u : Str → Option Value) h tk, KStt.codes xt = pre ++ (n : Int) :: post → (∀ p ∈ Ld c, p.1 ≠ I) → Facts c → P pre c →
      Fr h₀ env.locals h (fun y => if y = x then some (.str ⟨#[n]⟩ t) else kstB (fun z => if stored.contains z then u z else m₀ z) (ps c) y) → News h₀ env.locals h ((I, o) :: Ld c) →
      wpAny (model prog w) A (execs body env) (UnrPost h₀ env.locals { s with heap := h, toks := tk } I o (KstS Ld ps Facts x stored m₀ P (pre ++ [(n : Int)])) Q) E { s with heap := h, toks := tk })
    (done : ∀ (c : σ) (u : Str → Option Value) h tk, Facts c → P (KStt.codes xt) c → Fr h₀ env.locals h (fun y => if y = x then u y else kstB (fun z => if stored.contains z then u z else m₀ z) (ps c) y) → News h₀ env.locals h (Ld c) → Q .next { s with heap := h, toks := tk }) :
    wpAny (model prog w) A (pyIter (.str xt tx)) (fun it s₂ => LoopAtV prog w A h₀ env x body Q E it s₂) E s := by
  refine m_pyIter_str fun o St hW hSt hst => ?_
  have W := hW A hh
  have hnew := next_is_new F
  have hL : env.locals ∉ [s.heap.objs.size] := fun hm => absurd F.ns.lt ((List.mem_singleton.mp hm) ▸ Nat.lt_irrefl _)
  refine ⟨_, _, _, _, _, _, m₀, Ld c₀, fun i m nx => KstS Ld ps Facts x stored m₀ P ((KStt.codes xt).take i) m nx, rfl, W, hL, ?_, ?_, hst, F.push _, (fun p hp => ⟨Heap.get?_push_of_some _ (N p hp).1, (N p hp).2⟩), ⟨c₀, rfl, hf, hk, fun _ _ _ _ => rfl, by simpa using hp⟩, ?_, ?_⟩
  · intro b hb
    rw [List.mem_singleton.mp hb]
    exact hnew
  · intro p hp hI
    exact absurd (Heap.lt_size (N p hp).1) ((List.mem_singleton.mp hI) ▸ Nat.lt_irrefl _)
  · rintro i v m₁ nx s₁ own ⟨hh', tk', rfl⟩ hi ⟨n, u, hn, rfl⟩ ⟨c, rfl, hf', h1, h2, hp'⟩ hoff hown hget hall hst' F₁ N₁
    obtain ⟨oI, hoI⟩ := hSt _ _ hst'
    have hmem := hall s.heap.objs.size (List.mem_singleton.mpr rfl) hnew _ hoI
    have hn' := KStt.code_at hn
    have hs : (KStt.codes xt).take (i + 1) = (KStt.codes xt).take i ++ [(n : Int)] := by simp [List.take_add_one, hn']
    have e : KStt.codes xt = (KStt.codes xt).take i ++ (n : Int) :: (KStt.codes xt).drop (i + 1) := by
      have ht := List.take_append_drop (i + 1) (KStt.codes xt)
      rw [hs, List.append_assoc] at ht
      exact ht.symm
    have N₂ : News h₀ env.locals hh' ((s.heap.objs.size, oI) :: Ld c) := fun p hp => by
      rcases List.mem_cons.mp hp with rfl | hp
      · exact N₁ _ (List.mem_append_left _ hmem)
      · exact N₁ _ (List.mem_append_right _ hp)
    refine wpAny_mono (turn c s.heap.objs.size oI _ _ n u m₁ hh' tk' e (fun p hp q => hoff p hp (List.mem_singleton.mpr q)) hf' hp' (kst_fr h1 h2 F₁) N₂) (fun f s₂ p => ?_) fun _ _ e => e
    rw [← hs] at p
    have fin : UnrEnd h₀ env.locals { s with heap := hh', toks := tk' } s.heap.objs.size oI (KstS Ld ps Facts x stored m₀ P ((KStt.codes xt).take (i + 1))) s₂ →
        LoopStepU h₀ env.locals [s.heap.objs.size] own (fun m nx => KstS Ld ps Facts x stored m₀ P ((KStt.codes xt).take (i + 1)) m nx) { s with heap := hh', toks := tk' } .next s₂ := by
      rintro ⟨h', tk, m', news', e, F', N', ho, r⟩
      refine ⟨rfl, h', tk, m', news', e, F', fun p hp => ?_, fun p hp hI => ho p hp (List.mem_singleton.mp hI), r⟩
      rcases List.mem_append.mp hp with hp | hp
      · have h1 : p.1 = s.heap.objs.size := List.mem_singleton.mp (hown p hp)
        have h2 : hh'.get? p.1 = some p.2 := hget p hp
        have h3 : p = (s.heap.objs.size, oI) := by
          rw [h1, hoI] at h2
          exact Prod.ext h1 (Option.some.inj h2).symm
        rw [h3]; exact N' _ (List.mem_cons_self ..)
      · exact N' _ (List.mem_cons_of_mem _ hp)
    cases f with
    | ret v => exact .ret p
    | brk => exact .brk p
    | next => exact .next (fin p)
    | cont => exact .cont (fin p)
  · rintro h' tk m' news' F' N' _ ⟨c, rfl, hf', h1, h2, hp'⟩
    have hl : xt.cps.size = (KStt.codes xt).length := (KStt.codes_length xt).symm
    rw [hl, List.take_length] at hp'
    exact done c m' h' tk hf' hp' (kst_frOut h1 h2 F') N'
end
theorem m_unr {σ : Type} {Ld : σ → Led} {ps : σ → List (Str × Value)} {Facts : σ → Prop} {x : Str} {stored : List Str} {m₀ : Str → Option Value} {P : List Int → σ → Prop} {pre : List Int} (c : σ) {h₀ h' : Heap} {L I : Addr} {o : Obj} {m' : Str → Option Value} {all : Led} {s₁ : Shared} {tk : Nat}
    (F : Fr h₀ L h' m') (N : News h₀ L h' all) (hI : (I, o) ∈ all) (hn : ∀ p ∈ Ld c, p ∈ all) (off : ∀ p ∈ Ld c, p.1 ≠ I) (hf : Facts c) (hk : ∀ p ∈ ps c, m' p.1 = some p.2) (hr : ∀ z, z ≠ x → (∀ p ∈ ps c, z ≠ p.1) → stored.contains z = false → m' z = m₀ z) (hp : P pre c) :
    UnrEnd h₀ L s₁ I o (KstS Ld ps Facts x stored m₀ P pre) { s₁ with heap := h', toks := tk } :=
  ⟨h', tk, m', Ld c, rfl, F, fun p hp => by
    rcases List.mem_cons.mp hp with rfl | hp
    · exact N _ hI
    · exact N _ (hn p hp), off, c, rfl, hf, hk, hr, hp⟩
theorem walkFresh11 : True := by
  w_top off
  trivial
noncomputable def MEnd (h₀ : Heap) (L : Addr) (s₁ : Shared) (I : Addr) (o : Obj) (J : (Str → Option Value) → Led → Prop) (f : Flow) (s₂ : Shared) : Prop := f = .next ∧ UnrEnd h₀ L s₁ I o J s₂
section
variable {prog : Program} {w : World} {A : Around} {E : Value → Shared → Prop} {s : Shared} {env : Env} {h₀ : Heap} {target : Expr} {body : List Stmt} {Q : Flow → Shared → Prop}
/-- a loop over a range, for any target, whose turn may leave other objects in the ledger -/
theorem m_rangeT {σ : Type} {r : Addr} {a b : Int} {t₀ u₀ v₀ : Tok} {n : Nat} {x : Str} {m₀ : Str → Option Value} (Ld : σ → Led) (ps : σ → List (Str × Value)) (Facts : σ → Prop) (stored : List Str) (P : List Int → σ → Prop) (c₀ : σ)
    (hh : A.handled = none) (hr : IsRange s.heap r a b 1 t₀ u₀ v₀) (hsmall : Builtin.Range.small a b 1 = true) (hn : Builtin.Range.rangeSize a b 1 = (n : Int)) (F : Fr h₀ env.locals s.heap m₀) (N : News h₀ env.locals s.heap (Ld c₀)) (hf : Facts c₀) (hk : ∀ p ∈ ps c₀, m₀ p.1 = some p.2) (hp : P [] c₀)
    (hgo : ∀ it v, letOwnedTupleGo target it v = pure ())
    (turn : ∀ (c : σ) (I : Addr) (o : Obj) (pre : List Int) t (u : Str → Option Value) (s₁ : Shared), pre.length < n → (∀ p ∈ Ld c, p.1 ≠ I) → Facts c → P pre c →
      Fr h₀ env.locals s₁.heap (fun y => if y = x then u y else kstB (fun z => if stored.contains z then u z else m₀ z) (ps c) y) → News h₀ env.locals s₁.heap ((I, o) :: Ld c) →
      wpAny (model prog w) A (assign target env (.int (a + (pre.length : Int)) t)) (fun _ s₃ => wpAny (model prog w) A (execs body env) (MEnd h₀ env.locals s₁ I o (KstS Ld ps Facts x stored m₀ P (pre ++ [a + (pre.length : Int)]))) E s₃) E s₁)
    (done : ∀ (c : σ) (u : Str → Option Value) h tk, Facts c → P (rangeKs a n) c → Fr h₀ env.locals h (fun y => if y = x then u y else kstB (fun z => if stored.contains z then u z else m₀ z) (ps c) y) → News h₀ env.locals h (Ld c) → Q .next { s with heap := h, toks := tk }) :
    wpAny (model prog w) A (pyIter (.ref r)) (fun it s₂ => LoopAtT prog w A h₀ env target body Q E it s₂) E s := by
  refine wpAny_pyIter_range hr hsmall ?_
  have W : Walks prog w A s.heap.objs.size [s.heap.objs.size] [s.heap.objs.size] n (fun i v => i < n ∧ ∃ t, v = .int (a + i * 1) t)
      (fun i h => IsRangeIter h s.heap.objs.size (a + (i : Nat) * 1) ((n : Int) - (i : Nat)) 1) := (Walks.range hh _ a 1 n).bound
  have hnew := next_is_new F
  have hL : env.locals ∉ [s.heap.objs.size] := fun hm => absurd F.ns.lt ((List.mem_singleton.mp hm) ▸ Nat.lt_irrefl _)
  have J0 : KstS Ld ps Facts x stored m₀ P ((rangeKs a n).take 0) m₀ (Ld c₀) := ⟨c₀, rfl, hf, hk, fun _ _ _ _ => rfl, by simpa using hp⟩
  refine ⟨_, _, _, n, _, _, m₀, Ld c₀, fun i m nx => KstS Ld ps Facts x stored m₀ P ((rangeKs a n).take i) m nx, rfl, W, hL, ?_, ?_, (by show IsRangeIter _ _ _ _ _; rw [hn]; simpa using Heap.get?_push_size _ rfl), F.push _, (fun p hp => ⟨Heap.get?_push_of_some _ (N p hp).1, (N p hp).2⟩), ?_, J0, ?_, ?_⟩
  · intro b hb
    rw [List.mem_singleton.mp hb]
    exact hnew
  · intro p hp hI
    exact absurd (Heap.lt_size (N p hp).1) ((List.mem_singleton.mp hI) ▸ Nat.lt_irrefl _)
  · intro i s' v Q' _ hq
    rw [hgo]
    exact wpAny_pure hq
  · rintro i v m₁ nx s₁ own hi ⟨_, t, rfl⟩ ⟨c, rfl, hf', h1, h2, hp'⟩ hoff hown hget hall hst' F₁ N₁
    rw [Int.mul_one]
    have hoI : s₁.heap.get? s.heap.objs.size = some _ := hst'
    have hmem := hall s.heap.objs.size (List.mem_singleton.mpr rfl) hnew _ hoI
    have hk' : (rangeKs a n)[i]? = some (a + (i : Int)) := by simp [rangeKs, hi]
    have hs : (rangeKs a n).take (i + 1) = (rangeKs a n).take i ++ [a + (i : Int)] := by simp [List.take_add_one, hk']
    have hlen : ((rangeKs a n).take i).length = i := by rw [List.length_take, rangeKs_length]; omega
    have N₂ : News h₀ env.locals s₁.heap ((s.heap.objs.size, _) :: Ld c) := fun p hp => by
      rcases List.mem_cons.mp hp with rfl | hp
      · exact N₁ _ (List.mem_append_left _ hmem)
      · exact N₁ _ (List.mem_append_right _ hp)
    have ht := turn c s.heap.objs.size _ ((rangeKs a n).take i) t m₁ s₁ (by rw [hlen]; exact hi) (fun p hp q => hoff p hp (List.mem_singleton.mpr q)) hf' hp' (kst_frOut h1 h2 F₁) N₂
    rw [hlen, ← hs] at ht
    refine wpAny_mono ht (fun _ s₃ h₃ => wpAny_mono h₃ (fun f s₄ p => ?_) fun _ _ e => e) fun _ _ e => e
    obtain ⟨rfl, h', tk, m', news', e, F', N', ho, r⟩ := p
    refine ⟨rfl, h', tk, m', news', e, F', fun p hp => ?_, fun p hp hI => ho p hp (List.mem_singleton.mp hI), r⟩
    rcases List.mem_append.mp hp with hp | hp
    · have e1 : p.1 = s.heap.objs.size := List.mem_singleton.mp (hown p hp)
      have e2 : s₁.heap.get? p.1 = some p.2 := hget p hp
      rw [e1, hoI] at e2
      have e3 : p = (s.heap.objs.size, _) := Prod.ext e1 (Option.some.inj e2).symm
      rw [e3]; exact N' _ (List.mem_cons_self ..)
    · exact N' _ (List.mem_cons_of_mem _ hp)
  · rintro h' tk m' news' F' N' _ ⟨c, rfl, hf', h1, h2, hp'⟩
    have hl : (rangeKs a n).take n = rangeKs a n := List.take_of_length_le (Nat.le_of_eq (rangeKs_length _ _))
    rw [hl] at hp'
    exact done c m' h' tk hf' hp' (kst_frOut h1 h2 F') N'
end
theorem m_mend {σ : Type} {Ld : σ → Led} {ps : σ → List (Str × Value)} {Facts : σ → Prop} {x : Str} {stored : List Str} {m₀ : Str → Option Value} {P : List Int → σ → Prop} {pre : List Int} (c : σ) {h₀ h' : Heap} {L I : Addr} {o : Obj} {m' : Str → Option Value} {all : Led} {s₁ : Shared} {tk : Nat}
    (F : Fr h₀ L h' m') (N : News h₀ L h' all) (hI : (I, o) ∈ all) (hn : ∀ p ∈ Ld c, p ∈ all) (off : ∀ p ∈ Ld c, p.1 ≠ I) (hf : Facts c) (hk : ∀ p ∈ ps c, m' p.1 = some p.2) (hr : ∀ z, z ≠ x → (∀ p ∈ ps c, z ≠ p.1) → stored.contains z = false → m' z = m₀ z) (hp : P pre c) :
    MEnd h₀ L s₁ I o (KstS Ld ps Facts x stored m₀ P pre) .next { s₁ with heap := h', toks := tk } := ⟨rfl, m_unr c F N hI hn off hf hk hr hp⟩
theorem news_swap3 {h₀ h : Heap} {L : Addr} {a b c : Addr × Obj} {r : Led} (N : News h₀ L h (a :: b :: c :: r)) : News h₀ L h (c :: a :: b :: r) := kst_newsOf N fun p hp => by
  simp only [List.mem_cons] at hp ⊢
  rcases hp with hp | hp | hp | hp <;> simp only [hp, true_or, or_true]
/-- tuples of three ints, in the ledger -/
inductive TupsIn (news : Led) : List Value → List (Int × Int × Int) → Prop
  | nil : TupsIn news [] []
  | snoc {vs : List Value} {xs : List (Int × Int × Int)} {a : Addr} {x y z : Int} {t u v : Tok} : TupsIn news vs xs → (a, tupObj #[.int x t, .int y u, .int z v]) ∈ news → TupsIn news (vs ++ [.ref a]) (xs ++ [(x, y, z)])
theorem TupsIn.mono {news news' : Led} {vs : List Value} {xs : List (Int × Int × Int)} (h : TupsIn news vs xs) (k : ∀ p ∈ news, p ∈ news') : TupsIn news' vs xs := by
  induction h with
  | nil => exact .nil
  | snoc _ hm ih => exact .snoc ih (k _ hm)
theorem TupsIn.length {news : Led} {vs : List Value} {xs : List (Int × Int × Int)} (h : TupsIn news vs xs) : vs.length = xs.length := by
  induction h with
  | nil => rfl
  | snoc _ _ ih => rw [List.length_append, List.length_append, ih]; rfl
theorem walkFresh12 : True := by
  w_top off
  trivial
local macro_rules | `(tactic| walk_at "call type:tuple") => `(tactic| (refine Hold.on ?_))
noncomputable def wsPad (c : List Int) (b : Int) : List Int := if (c.length : Int) ≤ b then c ++ List.replicate (b - c.length + 1).toNat 0 else c
noncomputable def wsCnt (c : List Int) (b : Int) : List Int := (wsPad c b).set b.toNat ((wsPad c b).getD b.toNat 0 + 1)
/-- the loop of Whitespace.__init__ -/
noncomputable def wsF : List Int → List Int → Int → Int → Int → List Int × Int × Int × Int
  | [], c, b, n, nt => (c, b, n, nt)
  | ch :: r, c, b, n, nt => if ch = 32 then wsF r c (b + 1) (n + 1) nt else if ch = 9 then wsF r (wsCnt c b) 0 (n + 1) (nt + 1) else (c, b, n, nt)
structure WsS where
  l : Addr
  vs : List Value
  cn : List Int
  k : Nat
  b : Int
  tb : Tok
  n : Int
  tn : Tok
  nt : Int
  tt : Tok
theorem flat_repI (n : Nat) (b : Int) : (List.replicate n [b]).flatten = List.replicate n b := by
  induction n with
  | zero => rfl
  | succ n ih => rw [List.replicate_succ, List.flatten_cons, ih]; rfl
theorem sp_eq {ch : Nat} : (({ cps := #[ch] } : Str) == Str.ofString " ") = true ↔ ch = 32 := by
  rw [beq_iff_eq, show Str.ofString " " = (⟨#[32]⟩ : Str) from by decide +kernel]
  constructor
  · intro h; injection h with h; simpa using h
  · rintro rfl; rfl
theorem tb_eq {ch : Nat} : (({ cps := #[ch] } : Str) == Str.ofString "\t") = true ↔ ch = 9 := by
  rw [beq_iff_eq, show Str.ofString "\t" = (⟨#[9]⟩ : Str) from by decide +kernel]
  constructor
  · intro h; injection h with h; simpa using h
  · rintro rfl; rfl
/-- the object's dict, as __init__ leaves it -/
abbrev wsDict (w : World) (x : Str) (t : Tok) (n : Int) (tn : Tok) (nt : Int) (tt : Tok) (DN : Addr) (sim : Value) (k1 k2 k3 k4 k5 : Tok) : Obj :=
  dictOf [⟨PyData.keyHash w.params (Str.ofString "raw"), .str (Str.ofString "raw") k1, .str x t⟩, ⟨PyData.keyHash w.params (Str.ofString "n"), .str (Str.ofString "n") k2, .int n tn⟩,
    ⟨PyData.keyHash w.params (Str.ofString "nt"), .str (Str.ofString "nt") k3, .int nt tt⟩, ⟨PyData.keyHash w.params (Str.ofString "norm"), .str (Str.ofString "norm") k4, .ref DN⟩,
    ⟨PyData.keyHash w.params (Str.ofString "is_simple"), .str (Str.ofString "is_simple") k5, sim⟩] 5
/-- what Whitespace(x) gives: the object, its dict, the norm's two tuples -/
noncomputable def WsR (w : World) (x : Str) (r : List Int × Int × Int × Int) (news : Led) (v : Value) (tl : Led) : Prop :=
  ∃ (ob od DC DN : Addr) (vs : List Value) (t tb tn tt k1 k2 k3 k4 k5 : Tok) (sim : Value), v = .ref ob ∧ IntsAre vs r.1 ∧
    tl = (DN, tupObj #[.ref DC, .int r.2.1 tb]) :: (DC, tupObj vs.toArray) :: (ob, instObj 126 od) :: (od, wsDict w x t r.2.2.1 tn r.2.2.2 tt DN sim k1 k2 k3 k4 k5) :: news ∧
    (∀ p ∈ news, p.1 < od) ∧ @LT.lt Nat _ od ob ∧ @LT.lt Nat _ ob DC ∧ @LT.lt Nat _ DC DN
set_option maxHeartbeats 8000000 in
theorem c_ws {w : World} {loose : List Str} {mean : ExcName → Option Value} {mg mb : Str → Option Value} {news : Led} {x : Str} {t : Tok}
   (h1 : x.length < 500) (hx : ∃ c ∈ KStt.codes x, c ≠ 32 ∧ c ≠ 9) :
   Spec w loose mean mg mb 126 2 [.str x t] news (WsR w x (wsF (KStt.codes x) [] 0 0 0) news) := by
  unfold Spec
  k_fill
  intro dp un gd cn csn csg csc csm a ccd cl outer A₀ base h₀ L m s Q E B F X N T hdp hun hret
  k_dflt (refine' call_cls ?k1 ?k2 ?k3 ?k4 ?k5 ?k6 ?_; (case k1 => k_asm); (case k2 => k_asm); (case k3 => k_asm); (case k4 => k_is); (case k5 => k_is); (case k6 => k_is))
  intro ob od h' F' N' l1 l2
  have kMark := kstMark
  k_lt2 l2
  k_sweep
  k_dflt k_enter
  change (let A1 := _; wpAny _ A1 _ _ _ _)
  intro A1
  k_steps
  refine Hold.off ?_
  rename_i lC _ l3 _ _ _ _ F3 N3
  obtain ⟨tkR, N4⟩ : ∃ tkR, News _ _ _ ((lC, listOf #[] 0) :: (ob, instObj 126 od) :: (od, dictOf [⟨PyData.keyHash w.params (Str.ofString "raw"), .str (Str.ofString "raw") tkR, .str x t⟩] 1) :: news) := ⟨_, news_drop2 N3⟩
  refine' m_text (σ := WsS) (fun c => (c.l, listOf c.vs.toArray c.k) :: (ob, instObj 126 od) :: (od, dictOf [⟨PyData.keyHash w.params (Str.ofString "raw"), .str (Str.ofString "raw") tkR, .str x t⟩] 1) :: news)
    (fun c => [(Str.ofString "b", .int c.b c.tb), (Str.ofString "n", .int c.n c.tn), (Str.ofString "nt", .int c.nt c.tt), (Str.ofString "count", .ref c.l)])
    (fun c => IntsAre c.vs c.cn ∧ @LT.lt Nat _ od c.l ∧ @LT.lt Nat _ ob c.l ∧ AllLt c.l news) []
    (fun pre c => wsF ((KStt.codes x).drop pre.length) c.cn c.b c.n c.nt = wsF (KStt.codes x) [] 0 0 0 ∧ 0 ≤ c.b ∧ c.b ≤ pre.length ∧ c.cn.length ≤ pre.length + 1 ∧ ∀ c ∈ pre, c = 32 ∨ c = 9)
    ⟨lC, [], [], 0, 0, _, 0, _, 0, _⟩ rfl F3 N4 ⟨.nil, l3.2.2.1, l3.2.1, l3.2.2.2⟩ ?hk ⟨rfl, Int.le_refl 0, Int.le_refl 0, Nat.zero_le _, fun _ h => nomatch h⟩ ?ht ?hd
  case hk => kst_all
  case ht =>
    rintro ⟨l, vs, cn, k, b, tb, n, tn, nt, tt⟩ I o pre post ch tch u h tk he hI ⟨hi, g1, g2, g3⟩ ⟨hp1, hp2, hp3, hp4, hp5⟩ F4 N5
    dsimp only [kstB, envOf] at he hI hi g1 g2 g3 hp1 hp2 hp3 hp4 F4 N5 ⊢
    k_fold
    have hpl : pre.length < 500 := by
      have e1 := congrArg List.length he
      rw [KStt.codes_length, List.length_append, List.length_cons] at e1
      omega
    have hI1 : @Ne Nat l I := hI _ (.head _)
    have hI2 : @Ne Nat ob I := hI _ (.tail _ (.head _))
    have hI3 : @Ne Nat od I := hI _ (.tail _ (.tail _ (.head _)))
    have hI4 : ∀ p ∈ news, p.1 ≠ I := fun p hp => hI p (.tail _ (.tail _ (.tail _ hp)))
    have hdr : (KStt.codes x).drop pre.length = (ch : Int) :: post := by rw [he, List.drop_left]
    rw [hdr] at hp1
    have hdr2 : (KStt.codes x).drop (pre ++ [(ch : Int)]).length = post := by
      rw [he, show pre ++ (ch : Int) :: post = (pre ++ [(ch : Int)]) ++ post by simp, List.drop_left]
    k_steps
    · have hc := sp_eq.mp (by assumption)
      refine Hold.off ?_
      (rename News _ _ _ _ => N6)
      refine m_unr ⟨l, vs, cn, k, b + 1, _, n + 1, _, nt, tt⟩ (by k_asm) N6 (.head _) (fun p hp => .tail _ hp) hI ⟨hi, g1, g2, g3⟩ (by kst_all) (by kst_same) ?_
      dsimp only
      rw [hdr2, ← hp1, List.length_append, List.length_cons, List.length_nil]
      refine ⟨?_, by omega, by omega, by omega, ?_⟩
      · rw [hc]; rfl
      · intro c hc'
        rcases List.mem_append.mp hc' with h | h
        · exact hp5 c h
        · left; rw [List.mem_singleton.mp h, hc]; rfl
    · have hc := tb_eq.mp (by assumption)
      have hle : (cn.length : Int) ≤ b := by assumption
      rename_i lN wsN _ hI2 l5 _ _ tN _ hiN hlN hsN _ F6 N6
      have hw : wsCnt cn b = (cn ++ (List.replicate (b - cn.length + 1).toNat [0]).flatten).set b.toNat ((cn ++ (List.replicate (b - cn.length + 1).toNat [0]).flatten).getD b.toNat 0 + 1) := by
        unfold wsCnt wsPad; rw [if_pos hle, flat_repI]
      have hiW := hiN
      rw [← hw] at hiW
      refine Hold.off ?_
      refine m_unr ⟨lN, _, wsCnt cn b, 0, 0, _, n + 1, _, nt + 1, _⟩ F6 N6 (.tail _ (.tail _ (.tail _ (.head _)))) (fun p hp => ?_) (fun p hp => ?_) ⟨hiW, l5.2.2.2.2.2.1, l5.2.2.2.2.1, l5.2.2.2.2.2.2⟩ (by kst_all) (by kst_same) ?_
      · simp only [List.mem_cons] at hp ⊢
        rcases hp with hp | hp | hp | hp <;> simp only [hp, true_or, or_true]
      · rcases List.mem_cons.mp hp with rfl | hp
        · exact Ne.symm (Nat.ne_of_lt l5.2.2.1)
        · exact hI p (.tail _ hp)
      · dsimp only
        rw [hdr2, ← hp1, List.length_append, List.length_cons, List.length_nil]
        refine ⟨?_, by omega, by omega, ?_, ?_⟩
        · rw [hc]; rfl
        · rw [hw, flat_repI, List.length_set, List.length_append, List.length_replicate]; omega
        · intro c hc'
          rcases List.mem_append.mp hc' with h | h
          · exact hp5 c h
          · right; rw [List.mem_singleton.mp h, hc]; rfl
    · have hc := tb_eq.mp (by assumption)
      rename_i hnb _ tN _ hiN hlN hsN _ F6 N6
      have hw : wsCnt cn b = cn.set b.toNat (cn.getD b.toNat 0 + 1) := by
        unfold wsCnt wsPad; rw [if_neg hnb]
      have hiW := hiN
      rw [← hw] at hiW
      refine Hold.off ?_
      refine m_unr ⟨l, _, wsCnt cn b, k, 0, _, n + 1, _, nt + 1, _⟩ F6 N6 (.head _) (fun p hp => .tail _ hp) (fun p hp => ?_) ⟨hiW, g1, g2, g3⟩ (by kst_all) (by kst_same) ?_
      · rcases List.mem_cons.mp hp with rfl | hp
        · exact hI1
        · exact hI p (.tail _ hp)
      · dsimp only
        rw [hdr2, ← hp1, List.length_append, List.length_cons, List.length_nil]
        refine ⟨?_, by omega, by omega, ?_, ?_⟩
        · rw [hc]; rfl
        · rw [hw, List.length_set]; omega
        · intro c hc'
          rcases List.mem_append.mp hc' with h | h
          · exact hp5 c h
          · right; rw [List.mem_singleton.mp h, hc]; rfl
    · refine Hold.off ?_
      (rename News _ _ _ _ => N6)
      refine kde_tupleOf (items := vs.toArray) (zs := vs) (by k_asm) N6 ⟨_, (N6 _ (.tail _ (.head _))).1, rfl, _, rfl⟩ (by rw [List.size_toArray, hi.length]; omega) (by simp) fun D h' F' N' l4 => ?_
      k_lt l4
      k_sweep
      dsimp only
      k_steps
      have hc1 : ch ≠ 32 := fun e => by rw [sp_eq.mpr e] at *; contradiction
      have hc2 : ch ≠ 9 := fun e => by rw [tb_eq.mpr e] at *; contradiction
      have hr : wsF (KStt.codes x) [] 0 0 0 = (cn, b, n, nt) := by
        rw [← hp1, wsF, if_neg (by omega), if_neg (by omega)]
      rw [hr] at hret
      (rename News _ _ _ _ => N7)
      exact hret _ _ _ _ (by assumption) (news_drop3 N7) ⟨ob, od, D, _, vs, _, _, _, _, _, _, _, _, _, _, rfl, hi, rfl, l1, l2, l4.2.2.1, And.left (by assumption)⟩
  case hd =>
    rintro ⟨l, vs, cn, k, b, tb, n, tn, nt, tt⟩ u h tk - ⟨-, -, -, -, hp5⟩
    exfalso
    obtain ⟨c, hc, h1, h2⟩ := hx
    rcases hp5 c hc with h | h
    · exact h1 h
    · exact h2 h
theorem walkFresh13 : True := by
  w_top off
  trivial
noncomputable def ldOne (a : UInt8) : Str := Txt.mul (Str.ofString " ") ((a.toNat : Int) - 65) ++ Str.ofString "\t"
theorem ldOne_nat : ∀ n : Nat, n < 16 → Txt.mul (Str.ofString " ") (n : Int) ++ Str.ofString "\t" = ⟨(List.replicate n 32 ++ [9]).toArray⟩ := by decide +kernel
theorem ldOne_eq {a : UInt8} (h0 : 65 ≤ a.toNat) (h1 : a.toNat < 81) : ldOne a = ⟨(List.replicate (a.toNat - 65) 32 ++ [9]).toArray⟩ := by
  unfold ldOne
  rw [show ((a.toNat : Int) - 65) = ((a.toNat - 65 : Nat) : Int) by omega]
  exact ldOne_nat _ (by omega)
theorem ldOne_len {a : UInt8} (h0 : 65 ≤ a.toNat) (h1 : a.toNat < 81) : (ldOne a).length ≤ 16 := by
  rw [ldOne_eq h0 h1]
  show (List.replicate (a.toNat - 65) 32 ++ [9]).toArray.size ≤ 16
  rw [List.size_toArray, List.length_append, List.length_replicate]
  simp only [List.length_cons, List.length_nil]
  omega
theorem ld_sum : ∀ {wd : List UInt8}, (∀ c ∈ wd, 65 ≤ c.toNat ∧ c.toNat < 81) → ((wd.map ldOne).map (·.length)).sum ≤ 16 * wd.length
  | [], _ => by simp
  | a :: r, h => by
    have h1 := ldOne_len (h a (.head _)).1 (h a (.head _)).2
    have h2 := ld_sum (wd := r) fun c hc => h c (.tail _ hc)
    simp only [List.map_cons, List.sum_cons, List.length_cons]
    omega
noncomputable def ldS (wd : List UInt8) : Str := Txt.join (Str.ofString "") (wd.map ldOne) ++ Str.ofString "x \t"
noncomputable def ldC (wd : List UInt8) : List Int := (wd.flatMap fun a => List.replicate (a.toNat - 65) 32 ++ [9]) ++ [120, 32, 9]
theorem join_cps {e : Str} (he : e.cps = #[]) : ∀ l : List Str, (Str.join e l).cps.toList = l.flatMap fun s => s.cps.toList
  | [] => rfl
  | [x] => by simp [Str.join]
  | x :: y :: r => by
    have ih := join_cps he (y :: r)
    show (x ++ e ++ Str.join e (y :: r)).cps.toList = _
    rw [Str.cps_append, Str.cps_append, he, Array.append_empty, Array.toList_append, ih]
    rfl
theorem ldS_codes {wd : List UInt8} (h2 : ∀ c ∈ wd, 65 ≤ c.toNat ∧ c.toNat < 81) : KStt.codes (ldS wd) = ldC wd := by
  have hj : (Txt.join (Str.ofString "") (wd.map ldOne)).cps.toList = wd.flatMap fun a => List.replicate (a.toNat - 65) 32 ++ [9] := by
    unfold Txt.join
    rw [StrLaws.glued_eq_join, join_cps (by decide +kernel)]
    induction wd with
    | nil => rfl
    | cons a r ih =>
      rw [List.map_cons, List.flatMap_cons, List.flatMap_cons, ih fun c hc => h2 c (.tail _ hc), ldOne_eq (h2 a (.head _)).1 (h2 a (.head _)).2]
  unfold KStt.codes ldS ldC
  rw [Str.cps_append, Array.toList_append, hj, List.map_append]
  congr 1
  clear hj h2
  induction wd with
  | nil => rfl
  | cons a r ih => rw [List.flatMap_cons, List.flatMap_cons, List.map_append, ih, List.map_append, List.map_replicate]; rfl
theorem ldC_len : ∀ {wd : List UInt8}, (∀ c ∈ wd, 65 ≤ c.toNat ∧ c.toNat < 81) → (ldC wd).length ≤ 16 * wd.length + 3
  | [], _ => Nat.le_refl _
  | a :: r, h => by
    have h1 := h a (.head _)
    have h2 := ldC_len (wd := r) fun c hc => h c (.tail _ hc)
    unfold ldC at h2 ⊢
    rw [List.flatMap_cons]
    simp only [List.length_append, List.length_cons, List.length_nil, List.length_replicate] at h2 ⊢
    omega
set_option maxHeartbeats 8000000 in
theorem c_ld {w : World} {loose : List Str} {mean : ExcName → Option Value} {mg mb : Str → Option Value} {news : Led} {wd : List UInt8} {t : Tok}
   (h1 : wd.length < 24) (h2 : ∀ c ∈ wd, 65 ≤ c.toNat ∧ c.toNat < 81) :
   Spec w loose mean mg mb 156 3 [.bytes wd.toArray t] news (WsR w (ldS wd) (wsF (ldC wd) [] 0 0 0) news) := by
  unfold Spec
  k_fill
  intro dp un gd cn csn csg csc csm a ccd cl outer A₀ base h₀ L m s Q E B F X N T hdp hun hret
  refine wpAny_call ?_
  k_dflt k_enter
  change (let A1 := _; wpAny _ A1 _ _ _ _)
  intro A1
  k_steps
  refine Hold.off ?_
  refine ListComp_rowsP (by decide) (by decide) rfl (by decide) rfl ?_
  k_steps
  refine comp_bytes (fun a y => IsStr (ldOne a) y) rfl (by omega) (by k_asm) (by k_asm) ?_ ?_
  · intro C a t s₃ m₃ E' ha hn hm F3 N3
    have ha2 := h2 a ha
    k_steps
    · exact ⟨_, rfl⟩
    · exact ⟨_, _, rfl, fun _ _ e => e⟩
  · intro D k h' tk ys hP F3 N3 hD
    have hS := paired_strs hP
    k_sweep
    k_steps
    refine join_list (ys := wd.map ldOne) ⟨_, (N3 _ (.head _)).1, rfl, _, rfl⟩ (by simpa using hS) ?_ fun t2 k2 => ?_
    · have := ld_sum h2
      rw [show (Str.ofString "").length = 0 from rfl]
      omega
    have hcd := ldS_codes h2
    have hlen : (ldS wd).length ≤ 400 := by
      have := ldC_len h2
      rw [← KStt.codes_length, hcd]; omega
    have hw : (Txt.join (Str.ofString "") (wd.map ldOne)).length ≤ 400 := by
      have e : (ldS wd).length = (Txt.join (Str.ofString "") (wd.map ldOne)).length + (Str.ofString "x \t").length := Str.length_append _ _
      omega
    k_steps
    refine Hold.off ?_
    refine Spec.use (c_ws (x := ldS wd) (by omega) ⟨120, by rw [hcd]; simp [ldC], by decide, by decide⟩) ?_
    rw [hcd]
    rintro v tl h5 tk5 F5 N5 ⟨ob, od, DC, DN, vs, t5, tb, tn, tt, k1, k2, k3, k4, k5, sim, rfl, hi, rfl, g1, g2, g3, g4⟩
    k_sweep
    dsimp only
    k_steps
    (rename News _ _ _ _ => N6)
    exact hret _ _ _ _ (by assumption) (kst_newsOf N6 fun p hp => by
      simp only [List.mem_cons] at hp ⊢
      rcases hp with hp | hp | hp | hp | hp <;> simp only [hp, true_or, or_true]) ⟨ob, od, DC, DN, vs, t5, tb, tn, tt, k1, k2, k3, k4, k5, sim, rfl, hi, rfl, fun p hp => g1 p (.tail _ hp), g2, g3, g4⟩
theorem walkFresh14 : True := by
  w_top off
  trivial
/-- the ledger bears a Whitespace at ob -/
noncomputable def WsIn (w : World) (ob : Addr) (r : List Int × Int × Int × Int) (news : Led) : Prop :=
  ∃ (od DC DN : Addr) (vs : List Value) (x : Str) (t tb tn tt k1 k2 k3 k4 k5 : Tok) (sim : Value), IntsAre vs r.1 ∧
    (ob, instObj 126 od) ∈ news ∧ (od, wsDict w x t r.2.2.1 tn r.2.2.2 tt DN sim k1 k2 k3 k4 k5) ∈ news ∧ (DN, tupObj #[.ref DC, .int r.2.1 tb]) ∈ news ∧ (DC, tupObj vs.toArray) ∈ news
theorem WsIn.mono {w : World} {ob : Addr} {r : List Int × Int × Int × Int} {news news' : Led} (h : WsIn w ob r news) (k : ∀ p ∈ news, p ∈ news') : WsIn w ob r news' := by
  obtain ⟨od, DC, DN, vs, x, t, tb, tn, tt, k1, k2, k3, k4, k5, sim, hi, h1, h2, h3, h4⟩ := h
  exact ⟨od, DC, DN, vs, x, t, tb, tn, tt, k1, k2, k3, k4, k5, sim, hi, k _ h1, k _ h2, k _ h3, k _ h4⟩
theorem m_lenT {prog : Program} {w : World} {A : Around} {E : Value → Shared → Prop} {s : Shared} {h₀ : Heap} {L l : Addr} {news : Led} {us : List Value} {ns : List Int} {Q : Value → Shared → Prop} (N : News h₀ L s.heap news) (hm : (l, tupObj us.toArray) ∈ news) (e : IntsAre us ns) (hfit : (ns.length : Int) < 2 ^ 63)
    (h : Q (.int (ns.length : Int) (s.toks + 1)) { s with toks := s.toks + 1 + 1 }) : wpAny (model prog w) A (call (.builtin "len") [.ref l]) Q E s := by
  have e2 : us.toArray.size = ns.length := by rw [List.size_toArray, e.length]
  exact len_tuple ⟨_, (N _ hm).1, rfl, _, rfl⟩ (by rw [e2]; exact hfit) (by rw [e2]; exact h)
local macro_rules | `(tactic| walk_at "call builtin:len") => `(tactic| ((with_reducible show wpAny _ _ (call (Value.builtin "len") [Value.ref _]) _ _ _); k_dflt (refine' m_lenT ?k1 ?k2 ?k3 ?k4 ?_; (case k1 => k_asm); (case k2 => k_mem); (case k3 => assumption); (case k4 => omega); k_whole)))
/-- indent_level -/
noncomputable def indS (cnt : List Int) (ts : Int) (pre : List Int) : Int := pre.foldl (fun a i => a + i.fdiv ts * cnt.getD i.toNat 0) 0
noncomputable def indL (r : List Int × Int × Int × Int) (ts : Int) : Int := r.2.1 + ts * (indS r.1 ts (rangeKs ts ((r.1.length : Int) - ts).toNat) + r.2.2.2)
set_option maxHeartbeats 8000000 in
theorem c_in {w : World} {loose : List Str} {mean : ExcName → Option Value} {mg mb : Str → Option Value} {news : Led} {ob : Addr} {r : List Int × Int × Int × Int} {ts : Int} {t : Tok}
   (hW : WsIn w ob r news) (hl : r.1.length < 1000) (h1 : 1 ≤ ts) (h2 : ts < 1000) :
   Spec w loose mean mg mb 95 1 [.ref ob, .int ts t] news (fun v tl => IsInt (indL r ts) v ∧ tl = news) := by
  obtain ⟨cnt, b, n, nt⟩ := r
  obtain ⟨od, DC, DN, vs, x, t0, tb, tn, tt, k1, k2, k3, k4, k5, sim, hi, m1, m2, m3, m4⟩ := hW
  dsimp only at hi m1 m2 m3 m4 hl
  unfold Spec
  k_fill
  intro dp un gd cn csn csg csc csm a ccd cl outer A₀ base h₀ L m s Q E B F X N T hdp hun hret
  refine wpAny_call ?_
  k_dflt k_enter
  change (let A1 := _; wpAny _ A1 _ _ _ _)
  intro A1
  k_steps
  refine Hold.off ?_
  rename_i IR F3 N3 _
  k_sweep
  refine' kst_range (n := ((cnt.length : Int) - ts).toNat) (σ := Int × Tok) (fun _ => news) (fun c => [(Str.ofString "il", .int c.1 c.2)]) (fun _ => True) []
    (fun pre c => c.1 = indS cnt ts pre) (0, _) rfl IR (small_one (by omega) (by omega) (by omega) (by omega)) (rangeSize_nat _ _) F3 N3 True.intro ?hk rfl ?ht ?hd
  case hk => kst_all
  case ht =>
    rintro ⟨il, ti⟩ pre i tk1 u h tk own hk1 hk2 hoff - hP F4 N4
    dsimp only [kstB, envOf] at hP hoff F4 N4 ⊢
    k_fold
    have hi0 : ts ≤ i := by omega
    have hi1 : i < (cnt.length : Int) := by omega
    have hdv : 0 ≤ i.fdiv ts ∧ i.fdiv ts ≤ i := by
      rw [Int.fdiv_eq_ediv_of_nonneg _ (by omega)]
      exact ⟨Int.ediv_nonneg (by omega) (by omega), Int.ediv_le_self _ (by omega)⟩
    k_steps
    refine Hold.off ?_
    (rename News _ _ _ _ => N6)
    exact kst_end (il + i.fdiv ts * cnt.getD i.toNat 0, _) (by k_asm) N6 (fun p hp => List.mem_append_left _ hp) (fun p hp => List.mem_append_right _ hp) rfl True.intro (by kst_all) (by kst_same) (by rw [hP]; simp [indS])
  case hd =>
    rintro ⟨il, ti⟩ u h tk - hP F4 N4
    dsimp only [kstB, envOf] at hP F4 N4 ⊢
    k_steps
    exact hret _ _ _ _ (by assumption) (by assumption) ⟨⟨_, by rw [hP]; rfl⟩, rfl⟩
noncomputable def lngL (r : List Int × Int × Int × Int) : Int := if r.2.1 > (r.1.length : Int) - 1 then r.2.1 else (r.1.length : Int) - 1
set_option maxHeartbeats 8000000 in
theorem c_lr {w : World} {loose : List Str} {mean : ExcName → Option Value} {mg mb : Str → Option Value} {news : Led} {ob : Addr} {r : List Int × Int × Int × Int}
   (hW : WsIn w ob r news) (hl : r.1.length < 1000) :
   Spec w loose mean mg mb 88 1 [.ref ob] news (fun v tl => IsInt (lngL r) v ∧ tl = news) := by
  obtain ⟨cnt, b, n, nt⟩ := r
  obtain ⟨od, DC, DN, vs, x, t0, tb, tn, tt, k1, k2, k3, k4, k5, sim, hi, m1, m2, m3, m4⟩ := hW
  dsimp only at hi m1 m2 m3 m4 hl
  unfold Spec
  k_fill
  intro dp un gd cn csn csg csc csm a ccd cl outer A₀ base h₀ L m s Q E B F X N T hdp hun hret
  refine wpAny_call ?_
  k_dflt k_enter
  change (let A1 := _; wpAny _ A1 _ _ _ _)
  intro A1
  k_steps
  exact hret _ _ _ _ (by assumption) (by assumption) ⟨⟨_, rfl⟩, rfl⟩
theorem walkFresh15 : True := by
  w_top off
  trivial
local macro_rules | `(tactic| walk_at "exec For Name Call cons nil") => `(tactic| (refine Hold.on ?_))
noncomputable def nlS (r1 r2 : List Int × Int × Int × Int) (pre : List Int) : List (Int × Int × Int) := pre.foldl (fun acc ts => if indL r1 ts ≥ indL r2 ts then acc ++ [(ts, indL r1 ts, indL r2 ts)] else acc) []
noncomputable def nlN (r1 r2 : List Int × Int × Int × Int) : Int := (if lngL r2 > lngL r1 then lngL r2 else lngL r1) + 1
noncomputable def nlL (r1 r2 : List Int × Int × Int × Int) : List (Int × Int × Int) := nlS r1 r2 (rangeKs 1 (nlN r1 r2).toNat)
structure TupS where
  vs : List Value
  xs : List (Int × Int × Int)
  k : Nat
  tups : Led
set_option maxHeartbeats 8000000 in
theorem c_nl {w : World} {loose : List Str} {mean : ExcName → Option Value} {mg mb : Str → Option Value} {news : Led} {ob1 ob2 : Addr} {r1 r2 : List Int × Int × Int × Int}
   (hW1 : WsIn w ob1 r1 news) (hW2 : WsIn w ob2 r2 news) (hl1 : r1.1.length < 100) (hl2 : r2.1.length < 100) (hb1 : 0 ≤ r1.2.1) (hb2 : 0 ≤ r2.2.1) (hb3 : r1.2.1 < 100) (hb4 : r2.2.1 < 100) :
   Spec w loose mean mg mb 123 20 [.ref ob1, .ref ob2] news (fun v tl => ∃ lA vs k tups, v = .ref lA ∧ TupsIn tups vs (nlL r1 r2) ∧ tl = (lA, listOf vs.toArray k) :: (tups ++ news)) := by
  obtain ⟨od1, DC1, DN1, vs1, x1, ta1, tb1, tn1, tt1, _, _, _, _, _, _, -, m11, m12, -, -⟩ := id hW1
  obtain ⟨od2, DC2, DN2, vs2, x2, ta2, tb2, tn2, tt2, _, _, _, _, _, _, -, m21, m22, -, -⟩ := id hW2
  unfold Spec
  k_fill
  intro dp un gd cn csn csg csc csm a ccd cl outer A₀ base h₀ L m s Q E B F X N T hdp hun hret
  refine wpAny_call ?_
  k_dflt k_enter
  change (let A1 := _; wpAny _ A1 _ _ _ _)
  intro A1
  have hn1 : -1 ≤ lngL r1 ∧ lngL r1 < 100 := by unfold lngL; split <;> omega
  have hn2 : -1 ≤ lngL r2 ∧ lngL r2 < 100 := by unfold lngL; split <;> omega
  have hn3 : 0 ≤ nlN r1 r2 ∧ nlN r1 r2 < 200 := by unfold nlN; split <;> omega
  k_steps
  refine Hold.off ?_
  refine Spec.use (c_lr hW1 (by omega)) ?_
  rintro v tl h1 tk1 F1 N1 ⟨⟨t1, rfl⟩, htl⟩
  rw [htl] at N1
  k_sweep
  dsimp only
  k_steps
  refine Hold.off ?_
  refine Spec.use (c_lr hW2 (by omega)) ?_
  rintro v tl h1 tk1 F1 N1 ⟨⟨t1, rfl⟩, htl⟩
  rw [htl] at N1
  k_sweep
  dsimp only
  k_steps
  refine Hold.off ?_
  (rename Fr _ _ _ _ => lF')
  refine For_invTF lF' ?_ (by intro _; rfl)
  k_steps
  refine Hold.off ?_
  rename_i lA _ l1 _ _ _ _ _ _ _ _ IR F3 N3 _
  k_sweep
  have hn4 : (nlN r1 r2) + 1 = (if lngL r2 > lngL r1 then lngL r2 else lngL r1) + 1 + 1 := rfl
  rw [← hn4] at IR
  (with_reducible show wpAny _ _ _ (fun it s₂ => LoopAtT _ _ _ _ _ _ _ _ _ it s₂) _ _)
  refine' m_rangeT (x := Str.ofString "ts") (n := (nlN r1 r2).toNat) (σ := TupS) (fun c => (lA, listOf c.vs.toArray c.k) :: (c.tups ++ news)) (fun _ => []) (fun c => TupsIn c.tups c.vs c.xs ∧ ∀ p ∈ c.tups, p.1 ≠ lA) []
    (fun pre c => c.xs = nlS r1 r2 pre ∧ c.xs.length ≤ pre.length) ⟨[], [], 0, []⟩ rfl IR (small_one (by omega) (by omega) (by omega) (by omega)) ?hn F3 N3 ⟨.nil, fun _ h => nomatch h⟩ (fun _ h => nomatch h) ⟨rfl, Nat.le_refl 0⟩ (fun _ _ => rfl) ?ht ?hd
  case hn => have := rangeSize_nat 1 (nlN r1 r2 + 1); rw [this]; omega
  case ht =>
    rintro ⟨vs, xs, k, tups⟩ I o pre t u ⟨h, gens, drawn, tk, os⟩ hpre hI ⟨hT, hne⟩ ⟨hP, hP2⟩ F4 N4
    dsimp only [kstB, envOf] at hI hT hne hP hP2 F4 N4 ⊢
    k_fold
    have hnl : nlS r1 r2 (pre ++ [(1 : Int) + (pre.length : Int)]) = if indL r1 (1 + (pre.length : Int)) ≥ indL r2 (1 + (pre.length : Int)) then nlS r1 r2 pre ++ [((1 : Int) + (pre.length : Int), indL r1 (1 + (pre.length : Int)), indL r2 (1 + (pre.length : Int)))] else nlS r1 r2 pre := by
      rw [nlS, List.foldl_append]; rfl
    generalize hts : (1 : Int) + (pre.length : Int) = ts at hnl ⊢
    have hts1 : 1 ≤ ts ∧ ts < 300 := by omega
    have hup : ∀ p ∈ news, p ∈ (I, o) :: (lA, listOf vs.toArray k) :: (tups ++ news) := fun p hp => .tail _ (.tail _ (List.mem_append_right _ hp))
    k_steps
    refine Hold.off ?_
    refine Spec.use (c_in (hW1.mono hup) (by omega) hts1.1 (by omega)) ?_
    rintro v tl h1 tk1 F1 N1 ⟨⟨t1, rfl⟩, htl⟩
    rw [htl] at N1
    k_sweep
    dsimp only
    k_steps
    refine Hold.off ?_
    refine Spec.use (c_in (hW2.mono hup) (by omega) hts1.1 (by omega)) ?_
    rintro v tl h1 tk1 F1 N1 ⟨⟨t1, rfl⟩, htl⟩
    rw [htl] at N1
    k_sweep
    dsimp only
    k_steps
    · refine Hold.off ?_
      refine Spec.use (c_in (hW1.mono hup) (by omega) hts1.1 (by omega)) ?_
      rintro v tl h1 tk1 F1 N1 ⟨⟨t1, rfl⟩, htl⟩
      rw [htl] at N1
      k_sweep
      dsimp only
      k_steps
      refine Hold.off ?_
      refine Spec.use (c_in (hW2.mono hup) (by omega) hts1.1 (by omega)) ?_
      rintro v tl h1 tk1 F1 N1 ⟨⟨t1, rfl⟩, htl⟩
      rw [htl] at N1
      k_sweep
      dsimp only
      k_steps
      rename_i D _ F9 N9 l9
      have hge : indL r1 ts ≥ indL r2 ts := by assumption
      have hneA : ∀ tu : Obj, ∀ p ∈ ((D, tu) :: (I, o) :: (tups ++ news)), p.1 ≠ lA := by
        exact fun tu => ne_cons (Nat.ne_of_gt l9.2.1) (ne_cons (Ne.symm (hI _ (.head _))) (ne_app hne fun p hp => Nat.ne_of_lt (l1 p hp)))
      obtain ⟨ta, tb, tc, N10⟩ : ∃ ta tb tc, News _ _ _ ((lA, listOf vs.toArray k) :: (D, tupObj #[.int ts ta, .int (indL r1 ts) tb, .int (indL r2 ts) tc]) :: (I, o) :: (tups ++ news)) := ⟨_, _, _, news_swap3 N9⟩
      refine append_K F9 N10 (Upd.head (hneA _)) (fun h8 F8 N8 => ?_) (by have := hT.length; rw [List.size_toArray, PySem.sizeLine_eq]; omega)
      k_sweep
      dsimp only
      k_steps
      rw [List.push_toArray] at N8
      refine m_mend ⟨vs ++ [.ref D], xs ++ [(ts, indL r1 ts, indL r2 ts)], k + 1, (D, tupObj #[.int ts ta, .int (indL r1 ts) tb, .int (indL r2 ts) tc]) :: tups⟩ F8 N8 (.tail _ (.tail _ (.head _))) ?_ ?_ ⟨.snoc (hT.mono fun p hp => .tail _ hp) (.head _), ?_⟩ (fun _ h => nomatch h) (by kst_same) ⟨?_, by dsimp only; rw [List.length_append, List.length_append]; simp only [List.length_cons, List.length_nil]; omega⟩
      · exact sub_cons (.head _) (sub_app (sub_cons (.tail _ (.head _)) fun p hp => .tail _ (.tail _ (.tail _ (List.mem_append_left _ hp)))) fun p hp => .tail _ (.tail _ (.tail _ (List.mem_append_right _ hp))))
      · exact ne_cons (hI (lA, listOf vs.toArray k) (.head _)) (ne_app (ne_cons (Nat.ne_of_gt l9.1) fun p hp => hI p (.tail _ (List.mem_append_left _ hp))) fun p hp => hI p (.tail _ (List.mem_append_right _ hp)))
      · exact ne_cons (Nat.ne_of_gt l9.2.1) hne
      · dsimp only
        rw [hP, hts, hnl, if_pos hge]
    · have hle : ¬ indL r2 ts ≤ indL r1 ts := by assumption
      refine m_mend ⟨vs, xs, k, tups⟩ F1 N1 (.head _) (fun p hp => .tail _ hp) hI ⟨hT, hne⟩ (fun _ h => nomatch h) (by kst_same) ⟨?_, by dsimp only; rw [List.length_append]; omega⟩
      dsimp only
      rw [hP, hts, hnl, if_neg hle]
  case hd =>
    rintro ⟨vs, xs, k, tups⟩ u h tk ⟨hT, hne⟩ ⟨hP, hP2⟩ F4 N4
    dsimp only [kstB, envOf] at hT hne hP hP2 F4 N4 ⊢
    k_steps
    (rename News _ _ _ _ => N6)
    exact hret _ _ _ _ (by assumption) N6 ⟨lA, vs, k, tups, rfl, by show TupsIn tups vs (nlS r1 r2 (rangeKs 1 (nlN r1 r2).toNat)); rw [← hP]; exact hT, rfl⟩
theorem walkFresh16 : True := by
  w_top off
  trivial
section
variable {prog : Program} {w : World} {A : Around} {E : Value → Shared → Prop} {s : Shared} {h₀ : Heap} {L : Addr} {m : Str → Option Value} {news : Led}
theorem m_sum {l : Addr} {vs : List Value} {ns : List Int} {n : Nat} {Q : Value → Shared → Prop} (hh : A.handled = none) (F : Fr h₀ L s.heap m) (N : News h₀ L s.heap news) (hm : (l, listOf vs.toArray n) ∈ news) (hi : IntsAre vs ns)
    (h : ∀ h' (t : Tok) tk, Fr h₀ L h' m → News h₀ L h' news → Q (.int ns.sum t) { s with heap := h', toks := tk }) : wpAny (model prog w) A (call (.builtin "sum") [.ref l]) Q E s := by
  obtain ⟨xs, hx⟩ := hi.allInts.items
  have hl : s.heap.IsList l vs.toArray := ⟨_, (N _ hm).1, rfl, _, rfl⟩
  rw [hx] at hl
  have hn : numsOf vs = ns := hi.numsOf
  refine sum_intListG hh hl fun h' tk t' hk => ?_
  have e : preSum (numAt xs) xs.size = ns.sum := by
    have h1 := nums_intItems (xs := xs)
    rw [← hx] at h1
    rw [show vs.toArray.toList = vs from rfl, hn] at h1
    rw [preSum_eq, List.take_of_length_le (by simp), h1]
  rw [e]
  exact h h' t' tk (F.keeps hk) (News.grown N hk)
end
local macro_rules | `(tactic| walk_at "call builtin:sum") => `(tactic| ((with_reducible show wpAny _ _ (call (Value.builtin "sum") [Value.ref _]) _ _ _); k_dflt (refine' m_sum (hh := by rfl) ?k1 ?k2 ?k3 ?k4 ?_; (case k1 => k_asm); (case k2 => k_asm); (case k3 => k_mem); (case k4 => first | assumption | exact IntsAre.nil); refine fun hS tS tkS FS NS => ?_; k_whole)))
noncomputable def maxL (l : List Int) : Int := l.foldl (fun a b => if b > a then b else a) (l.headD 0)
theorem maxL_fold : ∀ (l : List Int) (a : Int), a ≤ l.foldl (fun a b => if b > a then b else a) a ∧ (∀ b ∈ l, b ≤ l.foldl (fun a b => if b > a then b else a) a) ∧ (l.foldl (fun a b => if b > a then b else a) a = a ∨ l.foldl (fun a b => if b > a then b else a) a ∈ l)
  | [], a => ⟨Int.le_refl a, (fun _ h => nomatch h), .inl rfl⟩
  | c :: r, a => by
    have h := maxL_fold r (if c > a then c else a)
    rw [List.foldl_cons]
    refine ⟨?_, fun b hb => ?_, ?_⟩
    · refine Int.le_trans ?_ h.1; split <;> omega
    · rcases List.mem_cons.mp hb with rfl | hb
      · refine Int.le_trans ?_ h.1; split <;> omega
      · exact h.2.1 b hb
    · rcases h.2.2 with e | e
      · rw [e]; split
        · exact .inr (.head _)
        · exact .inl rfl
      · exact .inr (.tail _ e)
theorem maxL_eq {l : List Int} {M : Int} (h1 : M ∈ l) (h2 : ∀ a ∈ l, a ≤ M) : M = maxL l := by
  cases l with
  | nil => cases h1
  | cons c r =>
    have h := maxL_fold (c :: r) c
    have e : maxL (c :: r) = (c :: r).foldl (fun a b => if b > a then b else a) c := rfl
    rw [e]
    refine Int.le_antisymm (h.2.1 M h1) (h2 _ ?_)
    rcases h.2.2 with e | e
    · rw [e]; exact .head _
    · exact e
/-- the plain witness -/
noncomputable def wiS (fs os pre : List Int) : List (Int × Int × Int) := pre.foldl (fun acc t => if t * ((fs.map fun f => f.fdiv t).sum + fs.length) ≥ t * ((os.map fun f => f.fdiv t).sum + os.length) then acc ++ [(t, t * ((fs.map fun f => f.fdiv t).sum + fs.length), t * ((os.map fun f => f.fdiv t).sum + os.length))] else acc) []
noncomputable def wiL (fs os : List Int) : List (Int × Int × Int) := wiS fs os (rangeKs 1 (maxL (fs ++ os) + 1).toNat)
local macro_rules | `(tactic| walk_at "exec For Name Call cons nil") => `(tactic| (refine Hold.on ?_))
structure WiS where
  o : Obj
  vs : List Value
  xs : List (Int × Int × Int)
  k : Nat
  tups : Led
set_option maxHeartbeats 8000000 in
theorem c_wi {w : World} {loose : List Str} {mean : ExcName → Option Value} {mg mb : Str → Option Value} {news : Led} {lf lo : Addr} {vf vo : List Value} {fs os : List Int} {n1 n2 : Nat}
   (hm1 : (lf, listOf vf.toArray n1) ∈ news) (hm2 : (lo, listOf vo.toArray n2) ∈ news) (hi1 : IntsAre vf fs) (hi2 : IntsAre vo os) (hl1 : fs.length < 100) (hl2 : os.length < 100) (hl3 : 0 < fs.length) (hb1 : ∀ f ∈ fs, 0 ≤ f ∧ f < 100) (hb2 : ∀ f ∈ os, 0 ≤ f ∧ f < 100) :
   Spec w loose mean mg mb 180 20 [.ref lf, .ref lo] news (fun v tl => ∃ lA vs k tups, v = .ref lA ∧ TupsIn tups vs (wiL fs os) ∧ tl = (lA, listOf vs.toArray k) :: (tups ++ news)) := by
  unfold Spec
  k_fill
  intro dp un gd cn csn csg csc csm a ccd cl outer A₀ base h₀ L m s Q E B F X N T hdp hun hret
  refine wpAny_call ?_
  k_dflt k_enter
  change (let A1 := _; wpAny _ A1 _ _ _ _)
  intro A1
  rename_i gX LX hX tX FG F1 B1 X1 T1 l1 o1 d1 N1
  have kMark := kstMark
  have lc1 : AllLt (LX + 1) news := allLt_of fun p hp => Nat.lt_of_lt_of_le (l1 p hp) (by omega)
  k_steps
  refine Hold.off ?_
  (rename Fr _ _ _ _ => lF')
  refine For_invTF lF' ?_ (by intro _; rfl)
  k_steps
  refine Hold.off ?_
  rename_i lA _ l2 _ D1 ws _ hI2 l3 _ M _ _ _ _ hM1 hM2 _ _ _ _ _ IR F3 N3 _
  k_sweep
  have hM := maxL_eq hM1 hM2
  have hMb : 0 ≤ M ∧ M < 100 := by
    rcases List.mem_append.mp hM1 with h | h
    · exact hb1 M h
    · exact hb2 M h
  have hvl1 := hi1.length
  have hvl2 := hi2.length
  (with_reducible show wpAny _ _ _ (fun it s₂ => LoopAtT _ _ _ _ _ _ _ _ _ it s₂) _ _)
  refine' m_rangeT (x := Str.ofString "tab") (n := (M + 1).toNat) (σ := WiS) (fun c => (lA, listOf c.vs.toArray c.k) :: (LX + 1, c.o) :: (c.tups ++ news)) (fun _ => []) (fun c => TupsIn c.tups c.vs c.xs ∧ (∀ p ∈ c.tups, p.1 ≠ lA) ∧ (∀ p ∈ c.tups, LX + 1 < p.1) ∧ ∃ v0, c.o.data = .cell v0) [Str.ofString "left", Str.ofString "right"]
    (fun pre c => c.xs = wiS fs os pre ∧ c.xs.length ≤ pre.length) ⟨o1, [], [], 0, []⟩ rfl IR (small_one (by omega) (by omega) (by omega) (by omega)) ?hn F3 (kst_newsOf N3 fun p hp => .tail _ hp) ⟨.nil, (fun _ h => nomatch h), (fun _ h => nomatch h), _, d1⟩ (fun _ h => nomatch h) ⟨rfl, Nat.le_refl 0⟩ (fun _ _ => rfl) ?ht ?hd
  case hn => have := rangeSize_nat 1 (M + 1 + 1); rw [show M + 2 = M + 1 + 1 by omega, this]; omega
  case ht =>
    rintro ⟨o, vs, xs, k, tups⟩ I oI pre t u ⟨h, gens, drawn, tk, os'⟩ hpre hI ⟨hT, hne, hlt, v0, hv0⟩ ⟨hP, hP2⟩ F4 N4
    dsimp only [kstB, envOf] at hI hT hne hlt hv0 hP hP2 F4 N4 ⊢
    change Fr gX LX h _ at F4
    change News gX LX h _ at N4
    k_fold
    have hnl : wiS fs os (pre ++ [(1 : Int) + (pre.length : Int)]) = if (1 + (pre.length : Int)) * ((fs.map fun f => f.fdiv (1 + (pre.length : Int))).sum + fs.length) ≥ (1 + (pre.length : Int)) * ((os.map fun f => f.fdiv (1 + (pre.length : Int))).sum + os.length) then wiS fs os pre ++ [((1 : Int) + (pre.length : Int), (1 + (pre.length : Int)) * ((fs.map fun f => f.fdiv (1 + (pre.length : Int))).sum + fs.length), (1 + (pre.length : Int)) * ((os.map fun f => f.fdiv (1 + (pre.length : Int))).sum + os.length))] else wiS fs os pre := by
      rw [wiS, List.foldl_append]; rfl
    generalize hts : (1 : Int) + (pre.length : Int) = ts at hnl ⊢
    have hts1 : 1 ≤ ts ∧ ts < 300 := by omega
    have lcT : AllLt (LX + 1) news := lc1
    k_steps
    refine stCN (c := LX + 1) (own := [(I, oI), (lA, listOf vs.toArray k)]) (rest := tups ++ news) F4 N4 (by rfl) hv0 ?_ ?_ fun h5 o5 F5 N5 d5 => ?_
    · exact ne_cons (Ne.symm (hI (LX + 1, o) (.tail _ (.head _)))) (ne_cons (Nat.ne_of_gt l2.1) ne_nil)
    · intro p hp
      rcases List.mem_append.mp hp with hp | hp
      · exact Nat.ne_of_gt (hlt p hp)
      · exact Nat.ne_of_lt (Nat.lt_succ_of_lt (l1 p hp))
    dsimp only [List.cons_append, List.nil_append] at F5 N5
    k_sweep
    dsimp only
    have hup : ∀ (p : Addr × Obj), p ∈ news → p ∈ (I, oI) :: (lA, listOf vs.toArray k) :: (LX + 1, o5) :: (tups ++ news) := fun p hp => .tail _ (.tail _ (.tail _ (List.mem_append_right _ hp)))
    k_steps
    refine Hold.off ?_
    (refine LCg.ListComp_U (F₀ := by k_asm) (by with_unfolding_all rfl) (by decide) (by rfl) (by decide) (by rfl) ?_)
    k_steps
    refine Hold.off ?_
    refine LCg.CompSrc.ledger (by rfl) F5 N5 (hup _ hm1) (by rw [PySem.sizeLine_eq, List.size_toArray]; omega) ?_
    intro g
    refine' kcf_list (fun f => f.fdiv ts) hi1 (fun f tf I2 oI2 C oC D m2 ys h tk E' hmem hC hx F4 N4 off ne mk => ?_) ?_
    · have off0 := off
      k_steps
      refine Hold.off ?_
      exact LCg.CompEnd.intro (by k_asm) N4 _ (fun p hp => hp) off0 (.inr ⟨_, hup _ hm1, rfl, _, rfl⟩) ⟨rfl, _, rfl⟩
    unfold KPfDone
    intro ys1 hys1 D h tk F6 N6 off6
    have N6 : News gX LX h ((D, listOf ys1.toArray ys1.length) :: (I, oI) :: (lA, listOf vs.toArray k) :: (LX + 1, o5) :: (tups ++ news)) := N6
    k_sweep
    dsimp only
    k_steps
    refine Hold.off ?_
    (refine LCg.ListComp_U (F₀ := by k_asm) (by with_unfolding_all rfl) (by decide) (by rfl) (by decide) (by rfl) ?_)
    k_steps
    refine Hold.off ?_
    rename_i F7 N7
    refine LCg.CompSrc.ledger (by rfl) F7 N7 (.tail _ (hup _ hm2)) (by rw [PySem.sizeLine_eq, List.size_toArray]; omega) ?_
    intro g2
    refine' kcf_list (fun f => f.fdiv ts) hi2 (fun f tf I2 oI2 C oC D2 m2 ys h tk E' hmem hC hx F4 N4 off ne mk => ?_) ?_
    · have off0 := off
      k_steps
      refine Hold.off ?_
      exact LCg.CompEnd.intro (by k_asm) N4 _ (fun p hp => hp) off0 (.inr ⟨_, .tail _ (hup _ hm2), rfl, _, rfl⟩) ⟨rfl, _, rfl⟩
    unfold KPfDone
    intro ys2 hys2 D2 h2 tk2 F8 N8 off8
    have N8 : News gX LX h2 ((D2, listOf ys2.toArray ys2.length) :: (D, listOf ys1.toArray ys1.length) :: (I, oI) :: (lA, listOf vs.toArray k) :: (LX + 1, o5) :: (tups ++ news)) := N8
    k_sweep
    dsimp only
    k_steps
    · rename_i DT hTT F9 N9 l9
      have hge : ts * ((os.map fun f => f.fdiv ts).sum + os.length) ≤ ts * ((fs.map fun f => f.fdiv ts).sum + fs.length) := by assumption
      have hneA : ∀ tu : Obj, ∀ p ∈ ((DT, tu) :: (I, oI) :: (LX + 1, o5) :: (tups ++ news)), p.1 ≠ lA := by
        exact fun tu => ne_cons (Nat.ne_of_gt l9.2.2.2.1) (ne_cons (Ne.symm (hI (lA, listOf vs.toArray k) (.head _))) (ne_cons (Nat.ne_of_lt l2.1) (ne_app hne fun p hp => Nat.ne_of_lt (Nat.lt_trans (Nat.lt_succ_of_lt (l1 p hp)) l2.1))))
      obtain ⟨ta, tb, tc, N10⟩ : ∃ ta tb tc, News _ _ _ ((lA, listOf vs.toArray k) :: (DT, tupObj #[.int ts ta, .int (ts * ((fs.map fun f => f.fdiv ts).sum + fs.length)) tb, .int (ts * ((os.map fun f => f.fdiv ts).sum + os.length)) tc]) :: (I, oI) :: (LX + 1, o5) :: (tups ++ news)) := ⟨_, _, _, kst_newsOf N9 (sub_cons (.tail _ (.tail _ (.tail _ (.tail _ (.head _))))) (sub_cons (.head _) (sub_cons (.tail _ (.tail _ (.tail _ (.head _)))) fun p hp => .tail _ (.tail _ (.tail _ (.tail _ (.tail _ hp)))))))⟩
      refine append_K F9 N10 (Upd.head (hneA _)) (fun h8 F8 N8 => ?_) (by have := hT.length; rw [List.size_toArray, PySem.sizeLine_eq]; omega)
      k_sweep
      dsimp only
      k_steps
      rw [List.push_toArray] at N8
      refine m_mend ⟨o5, vs ++ [.ref DT], xs ++ [(ts, ts * ((fs.map fun f => f.fdiv ts).sum + fs.length), ts * ((os.map fun f => f.fdiv ts).sum + os.length))], k + 1, (DT, tupObj #[.int ts ta, .int (ts * ((fs.map fun f => f.fdiv ts).sum + fs.length)) tb, .int (ts * ((os.map fun f => f.fdiv ts).sum + os.length)) tc]) :: tups⟩ F8 N8 (.tail _ (.tail _ (.head _))) ?_ ?_ ⟨.snoc (hT.mono fun p hp => .tail _ hp) (.head _), ?_, ?_, _, d5⟩ (fun _ h => nomatch h) (by kst_same) ⟨?_, by dsimp only; rw [List.length_append, List.length_append]; simp only [List.length_cons, List.length_nil]; omega⟩
      · exact sub_cons (.head _) (sub_cons (.tail _ (.tail _ (.tail _ (.head _)))) (sub_app (sub_cons (.tail _ (.head _)) fun p hp => .tail _ (.tail _ (.tail _ (.tail _ (List.mem_append_left _ hp))))) fun p hp => .tail _ (.tail _ (.tail _ (.tail _ (List.mem_append_right _ hp))))))
      · exact ne_cons (hI (lA, listOf vs.toArray k) (.head _)) (ne_cons (hI (LX + 1, o) (.tail _ (.head _))) (ne_app (ne_cons (Nat.ne_of_gt l9.2.2.1) fun p hp => hI p (.tail _ (.tail _ (List.mem_append_left _ hp)))) fun p hp => hI p (.tail _ (.tail _ (List.mem_append_right _ hp)))))
      · exact ne_cons (Nat.ne_of_gt l9.2.2.2.1) hne
      · exact List.forall_mem_cons.mpr ⟨l9.2.2.2.2.1, hlt⟩
      · dsimp only
        rw [hP, hts, hnl, if_pos hge]
    · have hle : ¬ ts * ((os.map fun f => f.fdiv ts).sum + os.length) ≤ ts * ((fs.map fun f => f.fdiv ts).sum + fs.length) := by assumption
      rename_i F9 N9 _
      refine m_mend ⟨o5, vs, xs, k, tups⟩ F9 N9 (.tail _ (.tail _ (.head _))) (fun p hp => .tail _ (.tail _ (.tail _ hp))) ?_ ⟨hT, hne, hlt, _, d5⟩ (fun _ h => nomatch h) (by kst_same) ⟨?_, by dsimp only; rw [List.length_append]; omega⟩
      · exact ne_cons (hI (lA, listOf vs.toArray k) (.head _)) (ne_cons (hI (LX + 1, o) (.tail _ (.head _))) fun p hp => hI p (.tail _ (.tail _ hp)))
      dsimp only
      rw [hP, hts, hnl, if_neg hle]
  case hd =>
    rintro ⟨o, vs, xs, k, tups⟩ u h tk ⟨hT, hne, hlt, v0, hv0⟩ ⟨hP, hP2⟩ F4 N4
    dsimp only [kstB, envOf] at hT hne hP hP2 F4 N4 ⊢
    change Fr gX LX h _ at F4
    change News gX LX h _ at N4
    try k_fold
    k_steps
    (rename News _ _ _ _ => N6)
    have N7 : News _ _ _ ((lA, listOf vs.toArray k) :: (tups ++ news)) := kst_newsOf N6 (sub_cons (.head _) fun p hp => .tail _ (.tail _ hp))
    exact hret _ _ _ _ (by assumption) N7 ⟨lA, vs, k, tups, rfl, by show TupsIn tups vs (wiS fs os (rangeKs 1 (maxL (fs ++ os) + 1).toNat)); rw [← hM, ← hP]; exact hT, rfl⟩
theorem walkFresh17 : True := by
  w_top off
  trivial
section
variable {prog : Program} {w : World} {A A₀ : Around} {s : Shared} {K : Frag} {L : Addr} {h₀ base : Heap} {m mg mb : Str → Option Value} {news : Led} {p : Program} {loose : List Str} {mean : ExcName → Option Value}
theorem codeR_def {env : Env} {outer : List Env} {R : Result → Shared → Prop} {name qual : Str} {params : Arguments} {body : List Stmt} {scope : Scope} {dV kV doc pm cdv ct oc : Value} {an od : Option Addr} {osl : Array (Option Value)} {f : Addr} {args : Args} {binds : List (Str × Value)}
    (B : Below A₀ base outer h₀) (F : Fr h₀ L s.heap m) (X₀ : K.In h₀) (N : News h₀ L s.heap news) (T : Top p loose mean mg mb h₀) (hA : A.frames = some (env :: outer)) (hf : env.frame = some L) (hke : env.scope.kind = .function)
    (ho : K.lookup f = some ⟨oc, od, .func (fnOf name qual params body scope dV kV doc pm an cdv ct), osl⟩) (hcd : codeIn K cdv qual = true) (hroom : A.depth < recursionLimit)
    (hbind : BindsTo s (fnOf name qual params body scope dV kV doc pm an cdv ct) args binds) (hloc : ∀ y ∈ binds, scope.names.lookup y.1 = some .local)
    (h : ∀ g L' h₁, Fr h₀ L g m → Fr g L' h₁ (fun y => binds.reverse.lookup y) → News g L' h₁ news → Below A base (env :: outer) g → K.In g → Top p loose mean mg mb g →
      wpAny (model prog w) (A.deeper (envOf qual scope L' f cdv)) (execs body (envOf qual scope L' f cdv))
        (fun fl s' => R (.ok (.ret (match fl with | .ret v => v | _ => .none))) s')
        (fun e s' => wpAny (model prog w) (A.deeper (envOf qual scope L' f cdv)) (leaving (envOf qual scope L' f cdv) e) (fun _ s'' => R (.error e) s'') (fun e' s'' => R (.error e') s'') s')
        { s with heap := h₁, toks := s.toks + binds.length })
    (hco : scope.isCoroutine = false) (hgen : scope.isGenerator = false) (hk : scope.kind = .function)
    (hcell : ∀ x ∈ scope.names, x.2 ≠ .cell) : codeAny (model prog w) A (.call (.ref f) args) R s := by
  obtain ⟨FG, BG, st, _⟩ := groundX (R := R) B F N hA hf hke
  refine codeAny_call_def (fd := fnOf name qual params body scope dV kV doc pm an cdv ct) (body := body) (binds := binds) hroom ((X₀.keeps F.keep) _ _ ho) rfl (T.nolimit.keeps F.keep) (codeRec_of (X₀.keeps F.keep) hcd) rfl hbind hcell hloc (fun h₁ hns hk₁ => ?_) hco hgen hk
  exact h _ s.heap.objs.size h₁ FG ⟨hns, fun b o e => hk₁ b o (of_hideAll _ e), Nat.le_of_eq (hideAll_size _ _)⟩
    (fun p hp => ⟨hk₁ _ _ (N p hp).1, Nat.ne_of_lt (Heap.lt_size (N p hp).1), hideAll_none _ (List.mem_map_of_mem hp)⟩) BG (X₀.keeps st) (T.keeps st)
theorem codeR_defC {env : Env} {outer : List Env} {R : Result → Shared → Prop} {name qual : Str} {params : Arguments} {body : List Stmt} {scope : Scope} {dV kV doc pm cdv ct oc : Value} {an od : Option Addr} {osl : Array (Option Value)} {f : Addr} {args : Args} {binds : List (Str × Value)}
    (B : Below A₀ base outer h₀) (F : Fr h₀ L s.heap m) (X₀ : K.In h₀) (N : News h₀ L s.heap news) (T : Top p loose mean mg mb h₀) (hA : A.frames = some (env :: outer)) (hf : env.frame = some L) (hke : env.scope.kind = .function)
    (ho : K.lookup f = some ⟨oc, od, .func (fnOf name qual params body scope dV kV doc pm an cdv ct), osl⟩) (hcd : codeIn K cdv qual = true) (hroom : A.depth < recursionLimit)
    (hbind : BindsTo s (fnOf name qual params body scope dV kV doc pm an cdv ct) args binds) (hkind : (binds.all fun y => scope.names.lookup y.1 == some .local || scope.names.lookup y.1 == some .cell) = true)
    (hnd : ((cellsFrom 0 scope.names []).map (·.1)).Nodup)
    (h : ∀ g L' h₁ tk cells, Fr h₀ L g m → Fr g L' h₁ (bindL (envOfC qual scope L' f cdv).kindOf binds fun _ => none) → News g L' h₁ (cells ++ news) →
      CellsAre (bindC (envOfC qual scope L' f cdv).kindOf binds fun _ => none) (cellsFrom (L' + 1) scope.names []) cells → Below A base (env :: outer) g → K.In g → Top p loose mean mg mb g → (∀ p ∈ news, p.1 < L') →
      wpAny (model prog w) (A.deeper (envOfC qual scope L' f cdv)) (execs body (envOfC qual scope L' f cdv))
        (fun fl s' => R (.ok (.ret (match fl with | .ret v => v | _ => .none))) s')
        (fun e s' => wpAny (model prog w) (A.deeper (envOfC qual scope L' f cdv)) (leaving (envOfC qual scope L' f cdv) e) (fun _ s'' => R (.error e) s'') (fun e' s'' => R (.error e') s'') s')
        { s with heap := h₁, toks := tk })
    (hco : scope.isCoroutine = false) (hgen : scope.isGenerator = false) (hk : scope.kind = .function) : codeAny (model prog w) A (.call (.ref f) args) R s := by
  obtain ⟨FG, BG, st, _⟩ := groundX (R := R) B F N hA hf hke
  refine codeAny_call_function (fd := fnOf name qual params body scope dV kV doc pm an cdv ct) hroom ((X₀.keeps F.keep) _ _ ho) rfl hco hgen rfl (codeRec_of (X₀.keeps F.keep) hcd) (hbind _ _ _ _ ?_)
  refine wpAny_newFunctionEnv_cells hk (kindsX hkind _) fun env' he s' x => ?_
  subst he
  refine ⟨(T.nolimit.keeps F.keep).keeps x.toInCall.keep, codeAny_func ?_⟩
  obtain ⟨h₁, tk, rfl, _⟩ := x.done
  have hk₁ := x.toInCall.keep
  obtain ⟨cells, NC, Y⟩ := Cl.news (h₀ := s.heap) (Nat.le_refl _) fun n c hm => ⟨x.cell n c (lookup_of_mem_nodup (cellsFrom_names scope.names 0 (s.heap.objs.size + 1) [] [] rfl ▸ hnd) hm), x.above n c hm⟩
  refine h _ s.heap.objs.size h₁ tk cells FG ⟨x.toInCall.ns, fun b o e => hk₁ b o (of_hideAll _ e), Nat.le_of_eq (hideAll_size _ _)⟩ (fun p hp => ?_) Y BG (X₀.keeps st) (T.keeps st) (fun p hp => Heap.lt_size (N p hp).1)
  rcases List.mem_append.mp hp with hp | hp
  · refine ⟨(NC p hp).1, (NC p hp).2.1, ?_⟩
    cases q : (hideAll s.heap (news.map (·.1))).get? p.1 with
    | none => rfl
    | some o => have := of_hideAll _ q; rw [(NC p hp).2.2] at this; cases this
  · exact ⟨hk₁ _ _ (N p hp).1, Nat.ne_of_lt (Heap.lt_size (N p hp).1), hideAll_none _ (List.mem_map_of_mem hp)⟩
end
/-- as Spec, of a call that leaves a generator behind: the base may have a longer table of codes -/
noncomputable def SpecG (w : World) (loose : List Str) (mean : ExcName → Option Value) (mg mb : Str → Option Value) (f : Addr) (k : Nat) (vs : List Value) (news : Led) (R : Value → Prop) : Prop :=
  ∀ (dp un : Nat) (gd : Option (List Code)) (cn : Str) (csn : List (Str × NameKind)) (csg csc : Bool) (csm : List (Str × Const)) (a : Addr) (ccd : Value) (cl : List (Str × Addr)) (outer : List Env) (A₀ : Around) (base h₀ : Heap) (L : Addr) (m : Str → Option Value) (s : Shared) (Q E : Value → Shared → Prop),
    Below A₀ base outer h₀ → Fr h₀ L s.heap m → (Mine.hd.heap_39 w.params).In h₀ → News h₀ L s.heap news → Top Mine.hd.view_39 loose mean mg mb h₀ → dp + k < recursionLimit → un + 8 * k < cLine → AllBare s.gens →
    (∀ v s', (∀ hb, (∀ b o, hb.get? b = some o → h₀.get? b = some o) → (Mine.hd.heap_39 w.params).In hb → Top Mine.hd.view_39 loose mean mg mb hb → OldK hb s'.heap) → s'.os = s.os → AllBare s'.gens → R v → Q v s') →
    wpAny (model PySem.Challenge.rw_sn0047_01.row.prog w) (ktrTop dp un gd cn ⟨.function, csn, csg, csc, csm⟩ L a ccd cl outer) (call (.ref f) vs) Q E s
/-- as SpecG; the caller's names are kept -/
noncomputable def SpecN (w : World) (loose : List Str) (mean : ExcName → Option Value) (mg mb : Str → Option Value) (f : Addr) (k : Nat) (vs : List Value) (news : Led) (R : Value → Prop) : Prop :=
  ∀ (dp un : Nat) (gd : Option (List Code)) (cn : Str) (csn : List (Str × NameKind)) (csg csc : Bool) (csm : List (Str × Const)) (a : Addr) (ccd : Value) (cl : List (Str × Addr)) (outer : List Env) (A₀ : Around) (base h₀ : Heap) (L : Addr) (m : Str → Option Value) (s : Shared) (Q E : Value → Shared → Prop),
    Below A₀ base outer h₀ → Fr h₀ L s.heap m → (Mine.hd.heap_39 w.params).In h₀ → News h₀ L s.heap news → Top Mine.hd.view_39 loose mean mg mb h₀ → dp + k < recursionLimit → un + 8 * k < cLine → AllBare s.gens →
    (∀ v s', (∀ hb, (∀ b o, hb.get? b = some o → h₀.get? b = some o) → (Mine.hd.heap_39 w.params).In hb → Top Mine.hd.view_39 loose mean mg mb hb → OldK hb s'.heap) → s'.heap.Ns L m → s'.os = s.os → AllBare s'.gens → R v → Q v s') →
    wpAny (model PySem.Challenge.rw_sn0047_01.row.prog w) (ktrTop dp un gd cn ⟨.function, csn, csg, csc, csm⟩ L a ccd cl outer) (call (.ref f) vs) Q E s
theorem SpecN.use {w : World} {loose : List Str} {mean : ExcName → Option Value} {mg mb : Str → Option Value} {f : Addr} {k : Nat} {vs : List Value} {news : Led} {R : Value → Prop} (S : SpecN w loose mean mg mb f k vs news R)
    {dp un : Nat} {gd : Option (List Code)} {cn : Str} {csn : List (Str × NameKind)} {csg csc : Bool} {csm : List (Str × Const)} {a : Addr} {ccd : Value} {cl : List (Str × Addr)} {outer : List Env} {A₀ : Around} {base h₀ : Heap} {L : Addr} {m : Str → Option Value} {s : Shared} {Q E : Value → Shared → Prop}
    (h : ∀ v s', (∀ hb, (∀ b o, hb.get? b = some o → h₀.get? b = some o) → (Mine.hd.heap_39 w.params).In hb → Top Mine.hd.view_39 loose mean mg mb hb → OldK hb s'.heap) → s'.heap.Ns L m → s'.os = s.os → AllBare s'.gens → R v → Q v s')
    (N : News h₀ L s.heap news) (hbare : AllBare s.gens)
    (B : Below A₀ base outer h₀ := by k_asm) (F : Fr h₀ L s.heap m := by k_asm) (X : (Mine.hd.heap_39 w.params).In h₀ := by k_asm) (T : Top Mine.hd.view_39 loose mean mg mb h₀ := by k_asm) (hd : dp + k < recursionLimit := by ktr_room) (hu : un + 8 * k < cLine := by ktr_units) :
    wpAny (model PySem.Challenge.rw_sn0047_01.row.prog w) (ktrTop dp un gd cn ⟨.function, csn, csg, csc, csm⟩ L a ccd cl outer) (call (.ref f) vs) Q E s :=
  S dp un gd cn csn csg csc csm a ccd cl outer A₀ base h₀ L m s Q E B F X N T hd hu hbare h
theorem SpecG.use {w : World} {loose : List Str} {mean : ExcName → Option Value} {mg mb : Str → Option Value} {f : Addr} {k : Nat} {vs : List Value} {news : Led} {R : Value → Prop} (S : SpecG w loose mean mg mb f k vs news R)
    {dp un : Nat} {gd : Option (List Code)} {cn : Str} {csn : List (Str × NameKind)} {csg csc : Bool} {csm : List (Str × Const)} {a : Addr} {ccd : Value} {cl : List (Str × Addr)} {outer : List Env} {A₀ : Around} {base h₀ : Heap} {L : Addr} {m : Str → Option Value} {s : Shared} {Q E : Value → Shared → Prop}
    (h : ∀ v s', (∀ hb, (∀ b o, hb.get? b = some o → h₀.get? b = some o) → (Mine.hd.heap_39 w.params).In hb → Top Mine.hd.view_39 loose mean mg mb hb → OldK hb s'.heap) → s'.os = s.os → AllBare s'.gens → R v → Q v s')
    (N : News h₀ L s.heap news) (hbare : AllBare s.gens)
    (B : Below A₀ base outer h₀ := by k_asm) (F : Fr h₀ L s.heap m := by k_asm) (X : (Mine.hd.heap_39 w.params).In h₀ := by k_asm) (T : Top Mine.hd.view_39 loose mean mg mb h₀ := by k_asm) (hd : dp + k < recursionLimit := by ktr_room) (hu : un + 8 * k < cLine := by ktr_units) :
    wpAny (model PySem.Challenge.rw_sn0047_01.row.prog w) (ktrTop dp un gd cn ⟨.function, csn, csg, csc, csm⟩ L a ccd cl outer) (call (.ref f) vs) Q E s :=
  S dp un gd cn csn csg csc csm a ccd cl outer A₀ base h₀ L m s Q E B F X N T hd hu hbare h
theorem walkFresh18 : True := by
  w_top off
  trivial
/-- a generator that does not lean on the frame L -/
noncomputable def GenL (prog : Program) (w : World) (A : Around) (L a : Addr) (n : Nat) (F : Nat → Value → Prop) (s : Shared) : Prop :=
  ∃ fp wr g St, WalksS prog w A.in4 a fp wr (GenOnlyQ g) n F St ∧ St 0 s ∧ (∀ i s', St i s' → s'.TypeIs (.ref a) "generator") ∧ a ∈ fp ∧ (∀ b ∈ fp, b < s.heap.objs.size) ∧ (∀ b ∈ wr, L < b) ∧ L ∉ fp
section
variable {prog : Program} {w : World} {A : Around} {E : Value → Shared → Prop} {s : Shared} {h₁ h₀ : Heap} {c P L : Addr} {ps : Array Value} {m mg : Str → Option Value} {bm : Addr} {ob : Obj}
theorem GenL.step {a : Addr} {n : Nat} {F : Nat → Value → Prop} (X : GenL prog w A L a n F s) (h' : Heap) (tk : Nat) (htk : s.toks ≤ tk) (hsz : s.heap.objs.size ≤ h'.objs.size) (hk : ∀ b o, b ≠ L → s.heap.get? b = some o → h'.get? b = some o) :
    GenL prog w A L a n F { s with heap := h', toks := tk } := by
  obtain ⟨fp, wr, g, St, W, hst, hT, ha, hfp, hwr, hL⟩ := X
  exact ⟨fp, wr, g, St, W, W.frame 0 s h' tk hst htk (fun b hb o e => hk b o (fun q => hL (q ▸ hb)) e), hT, ha, fun b hb => Nat.lt_of_lt_of_le (hfp b hb) hsz, hwr, hL⟩
theorem GenL.gen {a : Addr} {n : Nat} {F : Nat → Value → Prop} (X : GenL prog w A L a n F s) : Gen prog w A L a n F s := by
  obtain ⟨fp, wr, g, St, W, hst, hT, ha, hfp, hwr, hL⟩ := X
  exact ⟨fp, wr, g, St, W, hst, hT, ha, hfp, hwr⟩
theorem GenL.store {a : Addr} {n : Nat} {F : Nat → Value → Prop} (X : GenL prog w A L a n F s) {h' : Heap} (tk : Nat) (htk : s.toks ≤ tk) (hs : Heap.SameBut L s.heap h') : GenL prog w A L a n F { s with heap := h', toks := tk } :=
  X.step h' tk htk (Nat.le_of_eq hs.1.symm) fun b o hb e => (hs.2 b hb).trans e
/-- a generator expression with no test over a list -/
theorem m_gen {env : Env} {elt iter : Expr} {x : Str} {px : Pos} {scope : Scope} {cl : List (Str × Addr)} {pos : Pos} {Q : Value → Shared → Prop} (_F : Fr h₀ L s.heap m) (hlim₀ : h₀.NoLimit)
    (B : Based h₁ h₀ c P ps) (M : BMod h₀ env.globals mg bm ob) (hcode : env.code = .ref c) (hnf : codeAmong pos ps.toList = none)
    (hh : A.handled = none) (hco : scope.isCoroutine = false) (hclos : closureFor scope env = pure cl) (hcell : ∀ y ∈ scope.names, y.2 ≠ .cell) (h0 : scope.names.lookup (".0" : Str) = some NameKind.local)
    (hx : scope.names.lookup x = some .local) (hkind : scope.kind = .function) (hroom : A.depth < recursionLimit)
    (hs : ∀ x, genFold iter env x = pure x)
    (h : wpAny (model prog w) A (eval iter env) (fun xv s₁ => ∃ l items, xv = .ref l ∧ s₁.heap.IsList l items ∧ Fr h₀ L s₁.heap m ∧ AllBare s₁.gens ∧ s₁.heap.NoLimit ∧ l ≠ L ∧ ∃ (F : Nat → Value → Prop),
        (∀ (c' C : Addr) (A' : Around) E' i v (t : Shared) m₂, A'.handled = none → A'.depth ≤ A.depth + 1 → A'.units ≤ A.units + 8 → items[i]? = some v → Fr (regrown h₀ P (ps ++ #[rawInt pos.line, rawInt pos.col, .ref c'])) C t.heap m₂ → m₂ x = some v → L < C →
          (∀ b o, b ≠ P → b ≠ L → s₁.heap.get? b = some o → t.heap.get? b = some o) →
          wpAny (model prog w) A' (eval elt (genEnv scope cl C (.ref c') builtinsNs env)) (fun y s₃ => F i y ∧ Keeps t s₃) E' t) ∧
        (∀ (c' a : Addr) (s₅ : Shared), Fr (regrown h₀ P (ps ++ #[rawInt pos.line, rawInt pos.col, .ref c'])) L s₅.heap m → AllBare s₅.gens → s₅.os = s₁.os → (∀ b o, b ≠ P → s₁.heap.get? b = some o → s₅.heap.get? b = some o) →
          s₅.heap.TableAt c P (ps ++ #[rawInt pos.line, rawInt pos.col, .ref c']) →
          GenL prog w A L a items.size F s₅ → Q (.ref a) s₅)) E s) :
    wpAny (model prog w) A (eval (.GeneratorExp elt [⟨.Name x px, iter, [], 0⟩] scope pos) env) Q E s := by
  refine wpAny_GeneratorExp_make hco hclos hcell h0 hkind hroom (wpAny_mono h (fun xv s₁ r => ?_) fun _ _ e => e) hs
  obtain ⟨l, items, rfl, hl, F₁, G₁, hlim, hlL, Fy, hq2, hQ⟩ := r
  have hllt : l < s₁.heap.objs.size := by obtain ⟨_, e, _⟩ := hl; exact Heap.lt_size e
  have hPlt : P < s₁.heap.objs.size := Heap.lt_size (B.tabAt F₁).2
  have hlP : l ≠ P := fun e => by
    obtain ⟨o, ho, hc, _⟩ := hl
    rw [e, (B.tabAt F₁).2] at ho; cases ho; exact absurd hc (by simp)
  refine wpAny_pyIter_list hl ⟨hlim.push _, ?_⟩
  have hI2 : (s₁.heap.push { cls := .type "list_iterator", data := .fields #[.ref l, .int 0 0] }).get? s₁.heap.objs.size = some { cls := .type "list_iterator", data := .fields #[.ref l, .int 0 0] } := Heap.get?_push_size _ rfl
  have up1 : ∀ b o, s₁.heap.get? b = some o → (s₁.heap.push { cls := .type "list_iterator", data := .fields #[.ref l, .int 0 0] }).get? b = some o := fun b o e => Heap.get?_push_of_some _ e
  have hsz2 : (s₁.heap.push { cls := .type "list_iterator", data := .fields #[.ref l, .int 0 0] }).objs.size = s₁.heap.objs.size + 1 := Heap.size_push ..
  have F₂ := F₁.keeps up1
  refine wpAny_genexprCodeX hcode (B.codeAt F₂) (B.tabAt F₂) hnf fun c' h₃ tk₃ hx₃ hge hlt hcode₃ _ htab₃ _ => ?_
  obtain ⟨B₃, F₃⟩ := B.grow F₂ hx₃ hcode₃ htab₃
  have M₃ : BMod h₃ env.globals mg bm ob := (M.keeps F₂.keep).extBut (B.tabAt F₂) hx₃
  have hcP : cStatics ≠ P := fun e => by
    obtain ⟨_, hns, _⟩ := hlim
    obtain ⟨o, es, ep, ho, hd, _⟩ := hns
    rw [e, (B.tabAt F₁).2] at ho; cases ho; cases hd
  have hl₃ : h₃.NoLimit := (hlim.push _).extBut hx₃ hcP
  have hsz3 : s₁.heap.objs.size + 1 ≤ h₃.objs.size := by
    have hge' : (s₁.heap.push { cls := .type "list_iterator", data := .fields #[.ref l, .int 0 0] }).objs.size ≤ c' := hge
    rw [hsz2] at hge'
    exact Nat.le_trans hge' (Nat.le_of_lt hlt)
  have hLlt : L < s₁.heap.objs.size := F₁.ns.lt
  have hcL : cStatics ≠ L := fun e => by
    obtain ⟨_, hns, _⟩ := hlim₀
    exact Nat.lt_irrefl _ (e ▸ Nat.lt_of_lt_of_le hns.lt F₁.above)
  refine wpAny_builtinsFor M₃.ns M₃.name M₃.ne M₃.obj M₃.cls M₃.dict M₃.data ?_
  intro h' hn' hs'
  have hsz : h'.objs.size = h₃.objs.size + 1 := by
    have := hs'.1
    rw [this, Heap.size_push]
  have keep' : ∀ b o, h₃.get? b = some o → h'.get? b = some o := fun b o e => hs'.extBut b o (Nat.ne_of_lt (Heap.lt_size e)) (Heap.get?_push_of_some _ e)
  have memf : ∀ b, b ∈ (List.range h₃.objs.size).filter (fun b => b != L) ↔ b < h₃.objs.size ∧ b ≠ L := fun b => by
    rw [List.mem_filter, List.mem_range]; simp
  generalize hfp : (List.range h₃.objs.size).filter (fun b => b != L) = fp at memf
  have hcI : cStatics ≠ s₁.heap.objs.size := fun e => by
    obtain ⟨_, hns, _⟩ := hlim
    exact Nat.lt_irrefl _ (e ▸ hns.lt)
  have hclt : cStatics < h₃.objs.size := let ⟨_, hn, _⟩ := hl₃; hn.lt
  have haC : h'.objs.size ≠ h₃.objs.size := by rw [hsz]; exact Nat.succ_ne_self _
  have haf : h'.objs.size ∉ fp := fun hm => by have h9 := ((memf _).mp hm).1; rw [hsz] at h9; exact Nat.lt_irrefl _ (Nat.lt_of_succ_lt h9)
  have hCf : h₃.objs.size ∉ fp := fun hm => Nat.lt_irrefl _ ((memf _).mp hm).1
  have hIL : s₁.heap.objs.size ≠ L := Nat.ne_of_gt hLlt
  have hIf : s₁.heap.objs.size ∈ fp := (memf _).mpr ⟨hsz3, hIL⟩
  have hlf : l ∈ fp := (memf _).mpr ⟨Nat.lt_of_lt_of_le hllt (Nat.le_of_succ_le hsz3), hlL⟩
  have keep₅ : ∀ (og : Obj) b o, h₃.get? b = some o → (h'.push og).get? b = some o := fun og b o e => Heap.get?_push_of_some _ (keep' b o e)
  have hst3 : h₃.IsListIter s₁.heap.objs.size l 0 ∧ h₃.IsList l items := by
    obtain ⟨o, e1, e2⟩ := hl.push { cls := .type "list_iterator", data := .fields #[.ref l, .int 0 0] }
    exact ⟨⟨_, hx₃ _ _ (fun e => Nat.lt_irrefl _ (e ▸ hPlt)) hI2, rfl, rfl⟩, ⟨o, hx₃ _ _ hlP e1, e2⟩⟩
  have hp : passing (fun _ => true) items.size 0 = List.range items.size := by unfold passing; simp
  have hW := WalksS.genexpQ (prog := prog) (w := w) (A := A.in4) hh h'.objs.size s₁.gens.size h₃.objs.size fp [s₁.heap.objs.size] (fun _ => true) items.size Fy haC haf (fun b hb => by rw [List.mem_singleton.mp hb]; exact hIf) hroom ((memf _).mpr ⟨hclt, hcL⟩) (Nat.ne_of_lt hclt) (fun hm => hcI (List.mem_singleton.mp hm))
  rw [hp, List.length_range] at hW
  refine hQ c' _ _ (F₃.keeps (keep₅ _)) (G₁.push rfl) rfl (fun b o hb e => keep₅ _ b o (hx₃ b o hb (up1 b o e))) (htab₃.keeps (keep₅ _)) ⟨_, _, _, _, hW.imp (P' := Fy) (fun j y hy => ?_), GenAt.freshD (A := A.in4) (cenv := genEnv scope cl h₃.objs.size (.ref c') builtinsNs env) (m := fun y => if y = ".0" then some (.ref s₁.heap.objs.size) else none) hh
    (fun A' hA => (Walks.list hA s₁.heap.objs.size l (Nat.ne_of_lt hllt) items).mono_fp fun b hb => ?_) (fun _ => true) Fy hx (by simp [genEnv, hkind]) hco hCf ?_ ⟨_, _, _, Heap.get?_push_size _ rfl, rfl, rfl, rfl⟩ (Array.getElem?_push_size ..) ?_ (hn'.push _) (hl₃.keeps (keep₅ _)), (fun i s' st => st.1.typeIs), List.mem_cons_self, ?_, ?_, ?_⟩
  · obtain ⟨i, hi, hf⟩ := hy
    have hj : j < items.size := by
      by_cases hj : j < items.size
      · exact hj
      · rw [List.getElem?_eq_none (by simpa using hj)] at hi; cases hi
    rw [List.getElem?_range hj] at hi
    cases hi
    exact hf
  · rcases List.mem_cons.mp hb with rfl | hb
    · exact hIf
    · rcases List.mem_cons.mp hb with rfl | hb
      · exact hlf
      · cases hb
  · have inB : ∀ (t : Shared) m₂, t.heap.Ns h₃.objs.size m₂ → (∀ b ∈ fp, b ∉ [s₁.heap.objs.size] → ∀ o, (h'.push { cls := .type "generator", data := .fields #[.int s₁.gens.size 0, .str "<genexpr>" (tk₃ + 1), .str (env.qual ++ "<genexpr>") (tk₃ + 1 + 1)] }).get? b = some o → t.heap.get? b = some o) →
        Fr (regrown h₀ P (ps ++ #[rawInt pos.line, rawInt pos.col, .ref c'])) h₃.objs.size t.heap m₂ ∧ ∀ b o, b ≠ P → b ≠ L → s₁.heap.get? b = some o → t.heap.get? b = some o := fun t m₂ hn hkp =>
      ⟨⟨hn, fun b o e => hkp b ((memf b).mpr ⟨Heap.lt_size (F₃.keep b o e), Nat.ne_of_lt (Nat.lt_of_lt_of_le (Heap.lt_size e) F₃.above)⟩) (fun hm => Nat.lt_irrefl _ ((List.mem_singleton.mp hm) ▸ Nat.lt_trans (Nat.lt_of_lt_of_le (Heap.lt_size e) F₃.above) hLlt)) o (keep₅ _ b o (F₃.keep b o e)),
          Nat.le_trans F₃.above (Nat.le_of_lt (Nat.lt_of_lt_of_le hLlt (Nat.le_of_succ_le hsz3)))⟩,
        fun b o hbP hbL e => hkp b ((memf b).mpr ⟨Heap.lt_size (hx₃ b o hbP (up1 b o e)), hbL⟩) (fun hm => Nat.lt_irrefl _ ((List.mem_singleton.mp hm) ▸ Heap.lt_size e)) o (keep₅ _ b o (hx₃ b o hbP (up1 b o e)))⟩
    refine ⟨fun A' E' i v t m₂ _ _ _ _ _ _ _ => wpAny_tests_nil ⟨rfl, t.heap, t.toks, rfl, fun _ _ e => e⟩, fun A' E' i v t m₂ hA hD hU hP _ hn hm hkp => ?_⟩
    exact hq2 c' _ A' E' i v t m₂ hA hD hU hP (inB t m₂ hn hkp).1 hm (Nat.lt_of_lt_of_le hLlt (Nat.le_of_succ_le hsz3)) (inB t m₂ hn hkp).2
  · exact ⟨hst3.1.at fun o e => keep₅ _ _ o e, hst3.2.at fun o e => keep₅ _ _ o e⟩
  · intro b hb
    show b < (h'.push _).objs.size
    rw [Heap.size_push, hsz]
    rcases List.mem_cons.mp hb with rfl | hb
    · rw [hsz]; exact Nat.lt_succ_self _
    · rcases List.mem_cons.mp hb with rfl | hb
      · exact Nat.lt_succ_of_lt (Nat.lt_succ_self _)
      · exact Nat.lt_succ_of_lt (Nat.lt_succ_of_lt ((memf b).mp hb).1)
  · intro b hb
    rcases List.mem_cons.mp hb with rfl | hb
    · exact Nat.lt_of_lt_of_le hLlt (Nat.le_of_succ_le hsz3)
    · rw [List.mem_singleton.mp hb]; exact hLlt
  · intro hm
    rcases List.mem_cons.mp hm with e | hm
    · exact Nat.lt_irrefl _ (Nat.lt_of_lt_of_le (e ▸ hLlt : h'.objs.size < s₁.heap.objs.size) (by rw [hsz]; omega))
    · rcases List.mem_cons.mp hm with e | hm
      · exact Nat.lt_irrefl _ (Nat.lt_of_lt_of_le (e ▸ hLlt : h₃.objs.size < s₁.heap.objs.size) (by omega))
      · exact ((memf L).mp hm).2 rfl
end
theorem walkFresh19 : True := by
  w_top off
  trivial
/-- the text of a tuple's first int, in a generator's frame -/
theorem m_elt {prog : Program} {w : World} {A : Around} {E : Value → Shared → Prop} {s : Shared} {scope : Scope} {cl : List (Str × Addr)} {C : Addr} {cd : Value} {env : Env} {mg mb m : Str → Option Value} {hG : Heap} {p1 p2 p3 p4 p5 : Pos} {kd : Nat} {x : Str} {T : Addr} {a b c : Int} {t u v : Tok} {Q : Value → Shared → Prop}
    (F : Fr hG C s.heap m) (hg : env.globals = mainGlobals) (h1 : hG.Ns mainGlobals mg) (h2 : hG.Ns builtinsNs mb) (h3 : mg (Str.ofString "str") = none) (h4 : mb (Str.ofString "str") = some (.type "str"))
    (hk : scope.kind = .function) (hk1 : (genEnv scope cl C cd builtinsNs env).kindOf (Str.ofString "str") = some .globalImplicit) (hk2 : (genEnv scope cl C cd builtinsNs env).kindOf x = some .local) (hx : (x == ("__debug__" : Str)) = false)
    (hm : m x = some (.ref T)) (hT : s.heap.get? T = some (tupObj #[.int a t, .int b u, .int c v])) (ha : 0 ≤ a) (hb : a < 1000)
    (h : ∀ tk tk', Q (.str (toString a) tk) { s with toks := tk' }) :
    wpAny (model prog w) A (eval (.Call (.Name (Str.ofString "str") p1) [.Subscript (.Name x p2) (.Constant (.int 0) kd p3) p4] [] p5) (genEnv scope cl C cd builtinsNs env)) Q E s := by
  refine Call_ ?_
  refine Name_function_global hk hk1 (loadGlobal_builtin (mg := mg) (mb := mb) ?_ h3 ?_ h4 ?_) (by decide)
  · show s.heap.Ns env.globals mg
    rw [hg]; exact h1.keeps F.keep
  · exact h2.keeps F.keep
  refine Pv.callWith_type1 (spliced_more (Subscript_ (ldVarG F hm ?_ hk hk2 hx)))
  refine wpAny_Constant_int ?_
  refine item_tuple (j := 0) (items := #[.int a t, .int b u, .int c v]) ⟨_, hT, rfl, _, rfl⟩ (by decide) (by decide) (by rfl) (by rfl) ?_
  refine spliced_none ?_
  refine P.str_of_int (shown (N := 1000) (by omega) (by omega) (by decide +kernel)) ?_
  exact h _ _
theorem TupsIn.at {news : Led} {vs : List Value} {xs : List (Int × Int × Int)} (h : TupsIn news vs xs) : ∀ (i : Nat) (v : Value), vs[i]? = some v → ∃ a x y z t u w, v = .ref a ∧ xs[i]? = some (x, y, z) ∧ (a, tupObj #[.int x t, .int y u, .int z w]) ∈ news := by
  induction h with
  | nil => intro i v e; simp at e
  | @snoc vs xs a x y z t u w' h hm ih =>
    intro i v e
    have hl := h.length
    by_cases hi : i < vs.length
    · rw [List.getElem?_append_left hi] at e
      obtain ⟨a', x', y', z', t', u', w2, e1, e2, e3⟩ := ih i v e
      exact ⟨a', x', y', z', t', u', w2, e1, by rw [List.getElem?_append_left (by omega)]; exact e2, e3⟩
    · rw [List.getElem?_append_right (by omega)] at e
      have h0 : i - vs.length = 0 := by
        by_cases h0 : i - vs.length = 0
        · exact h0
        · rw [List.getElem?_eq_none (by simp; omega)] at e; cases e
      rw [h0] at e
      refine ⟨a, x, y, z, t, u, w', (Option.some.inj e).symm, ?_, hm⟩
      rw [List.getElem?_append_right (by omega), ← hl, h0]; rfl
noncomputable def fwT (xs : List (Int × Int × Int)) (i : Nat) : Str := match xs[i]? with | some t => Str.ofString (toString t.1) | none => Str.ofString ""
theorem fwT_len {xs : List (Int × Int × Int)} (hb1 : ∀ t ∈ xs, 0 ≤ t.1 ∧ t.1 < 1000) (i : Nat) : (fwT xs i).length ≤ 1002 := by
  unfold fwT
  split
  · rename_i t ht
    have h := hb1 t (List.mem_of_getElem? ht)
    have h2 := len_str_of_int t.1
    omega
  · decide
theorem fwT_sum {xs : List (Int × Int × Int)} (hl : xs.length < 300) (hb1 : ∀ t ∈ xs, 0 ≤ t.1 ∧ t.1 < 1000) : ((((List.range xs.length).map (fwT xs)).map (·.length)).sum + ((List.range xs.length).map (fwT xs)).length * (Str.ofString ", ").length) ≤ 400000 := by
  have h1 := sumLen_le_of_bound (fwT xs) 1002 (List.range xs.length) fun a _ => fwT_len hb1 a
  have h2 : (Str.ofString ", ").length = 2 := by decide
  rw [h2, List.length_map]
  rw [List.length_range] at h1 ⊢
  omega
noncomputable def fwJ (xs : List (Int × Int × Int)) : Str := Txt.join (Str.ofString ", ") ((List.range xs.length).map (fwT xs))
theorem fwJ_len {xs : List (Int × Int × Int)} (hl : xs.length < 300) (hb1 : ∀ t ∈ xs, 0 ≤ t.1 ∧ t.1 < 1000) : (fwJ xs).length ≤ 400000 := by
  have e : fwJ xs = Str.join (Str.ofString ", ") ((List.range xs.length).map (fwT xs)) := StrLaws.glued_eq_join _ _
  rw [e]
  exact Nat.le_trans (StrLaws.join_length_le _ _) (fwT_sum hl hb1)
noncomputable def fwS (xs : List (Int × Int × Int)) : Str := (if 1 < (xs.length : Int) then Str.ofString "at tab size" ++ Str.ofString "s" else Str.ofString "at tab size") ++ Str.ofString " " ++ fwJ xs
theorem m_tok {M : Model} {A : Around} {α : Type} {t : Sem α} {Q : α → Shared → Prop} {E : Value → Shared → Prop} {h : Heap} {g : Array GenState} {d : Drawn} {X : Nat} {o : OsState} (k : ∀ k, X ≤ k → wpAny M A t Q E ⟨h, g, d, k, o⟩) : wpAny M A t Q E ⟨h, g, d, X, o⟩ := k X (Nat.le_refl X)
theorem m_cat {prog : Program} {w : World} {A : Around} {E : Value → Shared → Prop} {s : Shared} {x y : Str} {t u : Tok} {Q : Value → Shared → Prop} (h : ∀ t' k, s.toks ≤ k → Q (.str (x ++ y) t') { s with toks := k }) (hsz : x.length + y.length ≤ sizeLine) :
    wpAny (model prog w) A (binaryOp .Add (.str x t) (.str y u)) Q E s := by
  refine P.add_str ?_
  by_cases hx : (x.length == 0) = true
  · rw [if_pos hx]; have h' := h u s.toks (Nat.le_refl _); rw [Str.append_left_empty hx] at h'; exact h'
  · rw [if_neg hx]
    by_cases hy : (y.length == 0) = true
    · rw [if_pos hy]; have h' := h t s.toks (Nat.le_refl _); rw [Str.append_right_empty hy] at h'; exact h'
    · rw [if_neg hy]; exact ⟨by have e : (x ++ y).length = x.length + y.length := (by show (x.cps ++ y.cps).size = _; simp [Str.length]); rw [e]; exact hsz, h _ _ (Nat.le_succ _)⟩
section
local macro_rules | `(tactic| walk_at "binaryOp Add str str") => `(tactic| (refine Hold.on ?_))
local macro_rules | `(tactic| walk_at "execs cons") => `(tactic| ((with_reducible refine wpAny_execs_cons ?_); try dsimp only))
local macro_rules | `(tactic| walk_at "execs nil") => `(tactic| refine wpAny_execs_nil ?_)
local macro_rules | `(tactic| walk_at "storeName") => `(tactic| (refine Hold.on ?_))
set_option maxHeartbeats 8000000 in
theorem c_fw {w : World} {loose : List Str} {mean : ExcName → Option Value} {mg mb : Str → Option Value} {news : Led} {lw : Addr} {vw : List Value} {xs : List (Int × Int × Int)} {n : Nat} 
   (hm : (lw, listOf vw.toArray n) ∈ news) (hT : TupsIn news vw xs) (hl : xs.length < 300) (hb1 : ∀ t ∈ xs, 0 ≤ t.1 ∧ t.1 < 1000) :
   SpecN w loose mean mg mb 137 20 [.ref lw] news (fun v => ∃ t, v = .str (fwS xs) t) := by
  have hvl := hT.length
  unfold SpecN
  k_fill
  intro dp un gd cn csn csg csc csm a ccd cl outer A₀ base h₀ L m s Q E B F X N T hdp hun hbare hret
  refine wpAny_call ?_
  k_dflt (refine' codeR_def ?k1 ?k2 ?k3 ?k4 ?k5 ?kA ?kF ?kK ?k6 ?k7 ?k8 ?k9 ?kB ?_ ?c2 ?c3 ?c4 ?c5; (case kA => exact rfl); (case kF => exact rfl); (case kK => exact rfl); (case k1 => k_asm); (case k2 => k_asm); (case k3 => k_asm); (case k4 => k_asm); (case k5 => k_asm); (case k6 => k_is); (case k7 => k_is); (case k8 => k_room); (case k9 => exact BindsTo.of_eq rfl); (case c5 => decide); (case kB => exact locs rfl); (case c2 => exact rfl); (case c3 => exact rfl); (case c4 => exact rfl); k_whole; intro g' L' h' FG' F' N' B' X' T'; (try dsimp only); (try k_lift B'); (try k_fold))
  have fwB : ∀ hb : Heap, (Mine.hd.heap_39 w.params).In hb → Top Mine.hd.view_39 loose mean mg mb hb → Based hb hb 136 132 #[] := fun hb X' T' => by
    have hmg : mg (Str.ofString "format_witnesses") = some (.ref 137) := mg_of X' (topRead_of T').g (by k_is)
    obtain ⟨of, cf, hof, hdf, hcf⟩ : ∃ (o : Obj) (fd : FuncData), hb.get? 137 = some o ∧ o.data = .func fd ∧ fd.code = .ref 136 := ⟨_, _, X' 137 _ (by k_is), rfl, rfl⟩
    obtain ⟨c, P, hc, B0⟩ := based_of_top (d := ⟨Str.ofString "format_witnesses", _, _, _, _⟩) T' (by rfl) hmg hof hdf
    rw [hcf] at hc
    injection hc with hc
    subst hc
    have hP : P = 132 := by
      obtain ⟨o, vs, e1, _, e3, e4⟩ := B0.tab.1
      obtain ⟨oc, e5, e6⟩ : ∃ o vs, hb.get? 136 = some o ∧ o.data = .fields vs ∧ vs[11]? = some (Value.ref 132) := ⟨_, _, X' 136 _ (by k_is), rfl, rfl⟩
      obtain ⟨e7, e8, e9⟩ := e6
      rw [e1] at e7; cases e7
      rw [e3] at e8; cases e8
      rw [e4] at e9
      injection (Option.some.inj e9)
    subst hP
    exact B0
  have B0 := fwB g' X' T'
  have hL : L ≠ 132 := fun e => by
    have h1 := Heap.lt_size (fwB h₀ X T).tab.2
    have h2 := F.above
    rw [e] at h2
    exact absurd h1 (Nat.not_lt.mpr h2)
  obtain ⟨bm, ob, M0⟩ := bmod_of_top T'
  k_steps
  have kF := F'
  k_dflt (refine' m_gen (cl := []) F' T'.nolimit B0 M0 ?g1 ?g2 ?g3 ?g4 ?g5 ?g6 ?g7 ?g8 ?g9 ?g10 ?g11 ?_)
  case g1 => with_unfolding_all rfl
  case g2 => with_unfolding_all rfl
  case g3 => with_unfolding_all rfl
  case g4 => with_unfolding_all rfl
  case g5 => with_unfolding_all rfl
  case g6 => decide
  case g7 => with_unfolding_all rfl
  case g8 => with_unfolding_all rfl
  case g9 => with_unfolding_all rfl
  case g10 => ktr_room
  case g11 => intro _; with_unfolding_all rfl
  walk1
  have hLK : L' < h'.objs.size := F'.ns.lt
  refine ⟨lw, vw.toArray, rfl, ⟨_, (N' _ hm).1, rfl, _, rfl⟩, F', hbare, T'.nolimit.keeps F'.keep, (N' _ hm).2.1, fun i y => ∃ u, y = .str (fwT xs i) u, ?_, ?_⟩
  · intro c' C A' E' i v t m₂ hA hD hU hi Ft hx hLC hk
    rw [List.getElem?_toArray] at hi
    obtain ⟨T, x, y, z, t1, t2, t3, rfl, hxi, hmem⟩ := hT.at i v hi
    have hmb := hb1 _ (List.mem_of_getElem? hxi)
    have hTR := LGe.top_regrown Ft (topRead_of T') B0
    have hPT : T ≠ 132 := fun e => by
      have h1 := (N' _ hmem).2.2
      rw [e] at h1
      have h1 : g'.get? 132 = none := h1
      rw [B0.tab.2] at h1; cases h1
    refine m_elt Ft rfl hTR.g hTR.b (mg_none_of X' T'.g (by k_is)) ((T'.builtins _ (by decide)).trans (by boot_by_name)) (by rfl) (by rfl) (by rfl) (by decide) hx (hk _ _ hPT (N' _ hmem).2.1 (N' _ hmem).1) hmb.1 hmb.2 ?_
    intro tk tk'
    refine ⟨⟨tk, ?_⟩, ?_⟩
    · unfold fwT; rw [hxi]
    · exact ⟨_, _, rfl, fun _ _ e => e⟩
  · intro c' ag s₅ F5 G5 hos hk5 hT5 Z5
    have nP : ∀ p ∈ news, p.1 ≠ 132 := fun p hp e => by
      have h1 := (N' p hp).2.2
      rw [e, B0.tab.2] at h1; cases h1
    obtain ⟨h5, g5, d5, t5, o5⟩ := s₅
    dsimp only at F5 G5 hos hk5 hT5
    subst hos
    have T5 := LGe.top_regrown F5 (topRead_of T') B0
    have X5 : (Mine.hd.heap_39 w.params).In (regrown g' 132 (#[] ++ #[rawInt (121 : Nat), rawInt (13 : Nat), .ref c'])) := fun b o e => by
      have hb : b ≠ 132 := fun e2 => by
        rw [e2] at e
        have e3 : List.lookup 132 (Mine.hd.heap_39 w.params) = none := by rfl
        rw [e3] at e; cases e
      exact (Heap.get?_update_other _ _ (Ne.symm hb)).trans (X' b o e)
    have N5 : News (regrown g' 132 (#[] ++ #[rawInt (121 : Nat), rawInt (13 : Nat), .ref c'])) L' h5 news := fun p hp => ⟨hk5 _ _ (nP p hp) (N' p hp).1, (N' p hp).2.1, (Heap.get?_update_other _ _ (Ne.symm (nP p hp))).trans (N' p hp).2.2⟩
    have hK5 : ∀ b o, b ≠ 132 → g'.get? b = some o → (regrown g' 132 (#[] ++ #[rawInt (121 : Nat), rawInt (13 : Nat), .ref c'])).get? b = some o := fun b o hb e => (Heap.get?_update_other _ _ (Ne.symm hb)).trans e
    have hT6 : (regrown g' 132 (#[] ++ #[rawInt (121 : Nat), rawInt (13 : Nat), .ref c'])).TableAt 136 132 (#[] ++ #[rawInt (121 : Nat), rawInt (13 : Nat), .ref c']) := by
      obtain ⟨⟨o, vs, e1, e2⟩, e3⟩ := B0.tab
      exact ⟨⟨o, vs, hK5 _ _ (by decide) e1, e2⟩, Heap.get?_update_self _ e3 rfl⟩
    generalize regrown g' 132 (#[] ++ #[rawInt (121 : Nat), rawInt (13 : Nat), .ref c']) = gR at *
    clear F' kF N'
    k_sweep
    k_steps
    refine Hold.off ?_
    k_dflt (refine' stNK F5 N5 ?_)
    intro h6 F6 N6 hs6 hn6
    have Z6 := Z5.store t5 (Nat.le_refl _) hs6
    dsimp only at F6 N6 Z6
    k_sweep
    dsimp only
    k_steps
    refine Hold.off ?_
    k_dflt (refine' stNK F6 N6 ?_)
    intro h7 F7 N7 hs7 hn7
    have Z7 := Z6.store (t5 + 1 + 1) (Nat.le_trans (Nat.le_succ _) (Nat.le_succ _)) hs7
    dsimp only at F7 N7 Z7
    k_sweep
    dsimp only
    k_steps
    k_dflt (refine' kst_len (k := xs.length) N7 hm hvl (by omega) ?_)
    dsimp only
    refine m_tok fun k7 hk7 => ?_
    k_steps
    · refine Hold.off ?_
      refine m_cat (fun t8 k8 hk8 => ?_) (by decide +kernel)
      dsimp only at hk8 ⊢
      k_steps
      refine Hold.off ?_
      k_dflt (refine' stNK F7 N7 ?_)
      intro h8 F8 N8 hs8 hn8
      have Z8 := Z7.store k8 (by dsimp only; omega) hs8
      dsimp only at F8 N8 Z8
      k_sweep
      dsimp only
      k_steps
      refine Hold.off ?_
      refine m_cat (fun t9 k9 hk9 => ?_) (by decide +kernel)
      dsimp only at hk9 ⊢
      k_steps
      refine join_rowsK (K := L') F8 G5 (Z8.step h8 (k9 + 1) (by dsimp only; omega) (Nat.le_refl _) fun _ _ _ e => e).gen (Nat.le_refl _) (fwT xs) (fun j v hv => hv) (by rw [List.size_toArray, hvl]; exact joinOk_of (Nat.le_trans (fwT_sum hl hb1) (by decide))) (fun s' t' Fj Gj hoj hkj => ?_) (by rw [List.size_toArray, PySem.sizeLine_eq]; omega)
      rw [List.size_toArray, hvl]
      show wpAny _ _ (binaryOp _ _ (.str (fwJ xs) t')) _ _ _
      have hjl := fwJ_len hl hb1
      refine m_cat (fun t10 k10 hk10 => ?_) (by rw [PySem.sizeLine_eq]; have h9 : ((Str.ofString "at tab size" ++ Str.ofString "s") ++ Str.ofString " ").length = 13 := (by decide +kernel); omega)
      k_steps
      have hold : ∀ hb : Heap, (∀ b o, hb.get? b = some o → h₀.get? b = some o) → (Mine.hd.heap_39 w.params).In hb → Top Mine.hd.view_39 loose mean mg mb hb → OldK hb s'.heap := fun hb hkb hXb hTb =>
        OldK.step_table (OldK.of_keep fun b o e => FG'.keep _ _ (hkb b o e)) (fwB hb hXb hTb).tab B0.tab (hT6.keeps Fj.keep) (fun b o hb2 e => Fj.keep _ _ (hK5 b o hb2 e)) (by decide)
      refine hret _ _ hold (FG'.ns.at fun o e => Fj.keep _ _ (hK5 _ _ hL e)) hoj Gj ⟨t10, ?_⟩
      unfold fwS
      rw [if_pos (by assumption)]
    · refine Hold.off ?_
      refine m_cat (fun t9 k9 hk9 => ?_) (by decide +kernel)
      dsimp only at hk9 ⊢
      k_steps
      refine join_rowsK (K := L') F7 G5 (Z7.step h7 (k9 + 1) (by dsimp only; omega) (Nat.le_refl _) fun _ _ _ e => e).gen (Nat.le_refl _) (fwT xs) (fun j v hv => hv) (by rw [List.size_toArray, hvl]; exact joinOk_of (Nat.le_trans (fwT_sum hl hb1) (by decide))) (fun s' t' Fj Gj hoj hkj => ?_) (by rw [List.size_toArray, PySem.sizeLine_eq]; omega)
      rw [List.size_toArray, hvl]
      show wpAny _ _ (binaryOp _ _ (.str (fwJ xs) t')) _ _ _
      have hjl := fwJ_len hl hb1
      refine m_cat (fun t10 k10 hk10 => ?_) (by rw [PySem.sizeLine_eq]; have h9 : (Str.ofString "at tab size" ++ Str.ofString " ").length = 12 := (by decide +kernel); omega)
      k_steps
      have hold : ∀ hb : Heap, (∀ b o, hb.get? b = some o → h₀.get? b = some o) → (Mine.hd.heap_39 w.params).In hb → Top Mine.hd.view_39 loose mean mg mb hb → OldK hb s'.heap := fun hb hkb hXb hTb =>
        OldK.step_table (OldK.of_keep fun b o e => FG'.keep _ _ (hkb b o e)) (fwB hb hXb hTb).tab B0.tab (hT6.keeps Fj.keep) (fun b o hb2 e => Fj.keep _ _ (hK5 b o hb2 e)) (by decide)
      refine hret _ _ hold (FG'.ns.at fun o e => Fj.keep _ _ (hK5 _ _ hL e)) hoj Gj ⟨t10, ?_⟩
      unfold fwS
      rw [if_neg (by assumption)]
end
theorem walkFresh20 : True := by
  w_top off
  trivial
noncomputable def triD (t : Int × Int × Int) : PyData := .tuple [.int t.1, .int t.2.1, .int t.2.2]
theorem triD_reads {h₀ h : Heap} {L : Addr} {news : Led} (N : News h₀ L h news) {vs : List Value} {xs : List (Int × Int × Int)} (T : TupsIn news vs xs) : ReadsAll h vs (xs.map triD) [] := by
  induction T with
  | nil => exact .nil
  | @snoc vs xs a x y z t u w' h5 hm ih =>
    have app : ∀ {vs us : List Value} {ds es : List PyData}, ReadsAll h vs ds [] → ReadsAll h us es [] → ReadsAll h (vs ++ us) (ds ++ es) [] := by
      intro vs
      induction vs with
      | nil => intro us ds es h1 h2; cases h1; exact h2
      | cons v r ih =>
        intro us ds es h1 h2
        generalize ea : ([] : List Addr) = as at h1
        cases h1 with
        | @cons _ _ d ds as bs r1 r2 =>
          have e1 : as = [] := by cases as with | nil => rfl | cons => cases ea
          have e2 : bs = [] := by subst e1; exact ea.symm
          subst e1 e2
          exact ReadsAll.cons (as := []) (bs := []) r1 (ih r2 h2)
    rw [List.map_append]
    refine app ih ?_
    exact ReadsAll.cons (as := []) (bs := []) (reads_tuple_at (News.get N hm) rfl rfl (ReadsAll.cons (as := []) (bs := []) (Reads.int _ _) (ReadsAll.cons (as := []) (bs := []) (Reads.int _ _) (ReadsAll.cons (as := []) (bs := []) (Reads.int _ _) .nil)))) .nil
theorem triD_eqv : ∀ xs : List (Int × Int × Int), PyData.eqvAll (xs.map triD) (xs.map triD) = true
  | [] => by simp [PyData.eqvAll]
  | x :: r => by simp [PyData.eqvAll, PyData.eqv, triD, triD_eqv r]
theorem triD_lay : ∀ xs : List (Int × Int × Int), PyData.canLayAll0 (xs.map triD) = true ∧ PyData.depthAll (xs.map triD) ≤ 2
  | [] => by simp [PyData.canLayAll0, PyData.depthAll]
  | x :: r => by
    have h := triD_lay r
    constructor
    · simp [PyData.canLayAll0, PyData.canLay0, triD, h.1]
    · have := h.2
      simp only [List.map_cons, PyData.depthAll, PyData.depth, triD]
      omega
theorem triD_shaped (xs : List (Int × Int × Int)) : SeqAt.shaped (.list (xs.map triD)) = true := by
  have h := triD_lay xs
  show (PyData.canLay0 (.list (xs.map triD)) && decide (PyData.depth (.list (xs.map triD)) ≤ 64)) = true
  rw [Bool.and_eq_true]
  exact ⟨by simp only [PyData.canLay0]; exact h.1, decide_eq_true (by simp only [PyData.depth]; omega)⟩
theorem intsD_eqv : ∀ ns : List Int, PyData.eqvAll (ns.map PyData.int) (ns.map PyData.int) = true
  | [] => by simp [PyData.eqvAll]
  | x :: r => by simp [PyData.eqvAll, PyData.eqv, intsD_eqv r]
section
variable {prog : Program} {w : World} {A : Around} {E : Value → Shared → Prop} {s : Shared} {h₀ : Heap} {L : Addr} {news : Led}
theorem m_eqTri {a b : Addr} {vs us : List Value} {xs ys : List (Int × Int × Int)} {n k : Nat} {Q : Value → Shared → Prop} (N : News h₀ L s.heap news) (h1 : (a, listOf vs.toArray n) ∈ news) (h2 : (b, listOf us.toArray k) ∈ news) (T1 : TupsIn news vs xs) (T2 : TupsIn news us ys) (e : xs = ys) (hu : A.units + 64 < cLine)
    (h : Q (.bool true) s) : wpAny (model prog w) A (compareOp .Eq (.ref a) (.ref b)) Q E s := by
  subst e
  refine eq_dataH (reads_list_at (News.get N h1) rfl rfl (triD_reads N T1)) (reads_list_at (News.get N h2) rfl rfl (triD_reads N T2)) (triD_shaped xs) (triD_shaped xs) hu ?_
  have e : PyData.eqv (.list (xs.map triD)) (.list (xs.map triD)) = true := by simp only [PyData.eqv]; exact triD_eqv xs
  rw [e]; exact h
theorem m_neNorm {a b c d : Addr} {vs us : List Value} {ns ms : List Int} {x y : Int} {t u : Tok} {Q : Value → Shared → Prop} (N : News h₀ L s.heap news) (h1 : (a, tupObj #[.ref c, .int x t]) ∈ news) (h2 : (b, tupObj #[.ref d, .int y u]) ∈ news)
    (h3 : (c, tupObj vs.toArray) ∈ news) (h4 : (d, tupObj us.toArray) ∈ news) (hi : IntsAre vs ns) (hi' : IntsAre us ms) (e : ns = ms) (e' : x = y) (hu : A.units + 64 < cLine)
    (h : Q (.bool false) s) : wpAny (model prog w) A (compareOp .NotEq (.ref a) (.ref b)) Q E s := by
  subst e e'
  have hs : SeqAt.shaped (.tuple [.tuple (ns.map PyData.int), .int x]) = true := by
    have h1 := W.depthAll_ints ns
    show (PyData.canLay0 (.tuple [.tuple (ns.map PyData.int), .int x]) && decide (PyData.depth (.tuple [.tuple (ns.map PyData.int), .int x]) ≤ 64)) = true
    rw [Bool.and_eq_true]
    exact ⟨by simp [PyData.canLay0, PyData.canLayAll0, canLayAll0_ints], decide_eq_true (by simp only [PyData.depth, PyData.depthAll]; omega)⟩
  refine ne_dataH (reads_tuple_at (News.get N h1) rfl rfl (ReadsAll.cons (as := []) (bs := []) (reads_tuple_at (News.get N h3) rfl rfl (by simpa using readsAll_of_ints hi)) (ReadsAll.cons (as := []) (bs := []) (Reads.int _ _) .nil)))
    (reads_tuple_at (News.get N h2) rfl rfl (ReadsAll.cons (as := []) (bs := []) (reads_tuple_at (News.get N h4) rfl rfl (by simpa using readsAll_of_ints hi')) (ReadsAll.cons (as := []) (bs := []) (Reads.int _ _) .nil))) hs hs hu ?_
  have e : PyData.eqv (.tuple [.tuple (ns.map PyData.int), .int x]) (.tuple [.tuple (ns.map PyData.int), .int x]) = true := by simp [PyData.eqv, PyData.eqvAll, intsD_eqv]
  rw [e]; exact h
theorem m_neT {a b : Addr} {vs us : List Value} {ns ms : List Int} {Q : Value → Shared → Prop} (N : News h₀ L s.heap news) (h3 : (a, tupObj vs.toArray) ∈ news) (h4 : (b, tupObj us.toArray) ∈ news) (hi : IntsAre vs ns) (hi' : IntsAre us ms) (e : ns = ms) (hu : A.units + 64 < cLine)
    (h : Q (.bool false) s) : wpAny (model prog w) A (compareOp .NotEq (.ref a) (.ref b)) Q E s := by
  subst e
  have hs : SeqAt.shaped (.tuple (ns.map PyData.int)) = true := by
    have h1 := W.depthAll_ints ns
    show (PyData.canLay0 (.tuple (ns.map PyData.int)) && decide (PyData.depth (.tuple (ns.map PyData.int)) ≤ 64)) = true
    rw [Bool.and_eq_true]
    exact ⟨by simp [PyData.canLay0, canLayAll0_ints], decide_eq_true (by simp only [PyData.depth]; omega)⟩
  refine ne_dataH (reads_tuple_at (News.get N h3) rfl rfl (by simpa using readsAll_of_ints hi)) (reads_tuple_at (News.get N h4) rfl rfl (by simpa using readsAll_of_ints hi')) hs hs hu ?_
  have e : PyData.eqv (.tuple (ns.map PyData.int)) (.tuple (ns.map PyData.int)) = true := by simp [PyData.eqv, intsD_eqv]
  rw [e]; exact h
end
section
variable {prog : Program} {w : World} {A : Around} {E : Value → Shared → Prop} {s : Shared} {env : Env} {scope : Scope} {x : Str} {elt : Expr} {h₀ : Heap} {L : Addr} {m : Str → Option Value} {news : Led} {Q : Value → Shared → Prop}
theorem comp_list {l : Addr} {vs : List Value} {n : Nat} (G : Value → Value → Prop) (hh : A.handled = none) (hsz : vs.length ≤ 1000) (F : Fr h₀ L s.heap m) (N : News h₀ L s.heap news) (hm : (l, listOf vs.toArray n) ∈ news)
    (helt : ∀ C a s₃ m₃ E', a ∈ vs → s₃.heap.Ns C m₃ → m₃ x = some a → Fr h₀ L s₃.heap m → News h₀ L s₃.heap news →
      wpAny (model prog w) A (eval elt (compEnv scope C env)) (fun y s₄ => G a y ∧ Keeps s₃ s₄) E' s₃)
    (hQ : ∀ D k h' tk ys, Paired G vs ys → Fr h₀ L h' m → News h₀ L h' ((D, listOf ys.toArray k) :: news) → (∀ p ∈ news, p.1 ≠ D) → Q (.ref D) { s with heap := h', toks := tk }) :
    wpAny (model prog w) A (pyIter (.ref l)) (CompPost prog w A env scope x [] elt Q) E s := by
  have hl : s.heap.IsList l vs.toArray := ⟨_, (N _ hm).1, rfl, _, rfl⟩
  have hlt : l < s.heap.objs.size := Heap.lt_size (N _ hm).1
  refine wpAny_pyIter_list hl ?_
  have W := Walks.list (prog := prog) (w := w) hh s.heap.objs.size l (Nat.ne_of_lt hlt) vs.toArray
  have e : vs.toArray.size = vs.length := by simp
  rw [e] at W
  refine comp_post2 (items := vs) (enc := fun a v => v = a) (G := G) (fun a b v h k => by rw [← h, ← k]) rfl (fp := [s.heap.objs.size, l]) (fun b hb => ?_) (St := fun i h => h.IsListIter s.heap.objs.size l i ∧ h.IsList l vs.toArray) ⟨W.sub, W.frame, fun i s Q E hi st hQ => W.item i s Q E hi st fun v h' tk hP => hQ v h' tk ?_, W.done, W.self⟩ hsz ⟨⟨_, Heap.get?_push_size _ rfl, rfl, rfl⟩, hl.push _⟩ F N (fun C a v s₃ m₃ E' ha hv hn hm F N => ?_) hQ
  · simp only [List.mem_cons, List.not_mem_nil, or_false] at hb
    rcases hb with rfl | rfl
    · exact Nat.lt_succ_self _
    · exact Nat.lt_succ_of_lt hlt
  · exact ⟨v, by simpa using hP, rfl⟩
  · subst hv
    exact helt C _ s₃ m₃ E' ha hn hm F N
end
theorem Paired.snocL {α β : Type} {G : α → β → Prop} : ∀ {l : List α} {a : α} {ys : List β}, Paired G (l ++ [a]) ys → ∃ zs y, ys = zs ++ [y] ∧ Paired G l zs ∧ G a y
  | [], a, _, .cons h .nil => ⟨[], _, rfl, .nil, h⟩
  | b :: r, a, _, .cons h t => by
    obtain ⟨zs, y, e, p, g⟩ := Paired.snocL (l := r) t
    exact ⟨_ :: zs, y, by rw [e]; rfl, .cons h p, g⟩
/-- the text of each tuple's first int -/
noncomputable def TupText (news : Led) (v y : Value) : Prop := ∀ a x z w t u q, v = .ref a → (a, tupObj #[.int x t, .int z u, .int w q]) ∈ news → IsStr (Str.ofString (toString x)) y
theorem tups_strs {news : Led} {vs : List Value} {xs : List (Int × Int × Int)} (T : TupsIn news vs xs) : ∀ {ys : List Value}, Paired (TupText news) vs ys → StrsAre ys (xs.map fun t => Str.ofString (toString t.1)) := by
  induction T with
  | nil => intro ys h; cases h; exact .nil
  | @snoc vs xs a x y z t u q h hm ih =>
    intro ys hp
    obtain ⟨zs, y', rfl, hp', hg⟩ := Paired.snocL hp
    obtain ⟨tt, rfl⟩ := hg a x y z t u q rfl hm
    rw [List.map_append]
    exact kct_snoc (ih hp')
theorem tx_eq (xs : List (Int × Int × Int)) : (List.range xs.length).map (fwT xs) = xs.map fun t => Str.ofString (toString t.1) := by
  apply List.ext_getElem
  · simp
  · intro i h1 h2
    simp only [List.getElem_map, List.getElem_range]
    unfold fwT
    simp only [List.length_map] at h2
    rw [List.getElem?_eq_getElem h2]
theorem txt_eq (xs : List (Int × Int × Int)) : (Str.ofString "at tab size" ++ (if decide (1 < (xs.length : Int)) = true then Str.ofString "s " else Str.ofString " ")) ++ fwJ xs = fwS xs := by
  unfold fwS
  by_cases h : 1 < (xs.length : Int)
  · rw [if_pos h, if_pos (decide_eq_true h)]; congr 1
  · rw [if_neg h, if_neg (by simpa using h)]
theorem fwJ_eq (xs : List (Int × Int × Int)) : fwJ xs = Txt.join (Str.ofString ", ") (xs.map fun t => Str.ofString (toString t.1)) := by
  unfold fwJ; rw [tx_eq]
theorem m_ifS {prog : Program} {w : World} {A : Around} {E : Value → Shared → Prop} {s : Shared} {env : Env} {test : Expr} {k1 k2 : Nat} {p1 p2 p4 : Pos} {x y : Str} {Q : Value → Shared → Prop}
    (h : wpAny (model prog w) A (isTrue test env (eval test env)) (fun b s₁ => ∀ t tk, Q (.str (if b = true then x else y) t) { s₁ with toks := tk }) E s) :
    wpAny (model prog w) A (eval (.IfExp test (.Constant (.str x) k1 p1) (.Constant (.str y) k2 p2) p4) env) Q E s := by
  refine IfExp_ (wpAny_mono h (fun b s₁ h₁ => ?_) fun _ _ e => e)
  cases b with
  | true => exact wpAny_Constant_str (h₁ _ _)
  | false => exact wpAny_Constant_str (h₁ _ _)
theorem walkFresh21 : True := by
  w_top off
  trivial
theorem m_side {prog : Program} {w : World} {A : Around} {E : Value → Shared → Prop} {s : Shared} {env : Env} {test : Expr} {k1 k2 : Nat} {p1 p2 p3 p4 : Pos} {Q : Value → Shared → Prop}
    (h : wpAny (model prog w) A (isTrue test env (eval test env)) (fun b s₁ => ∀ x t tk, x = (if b = true then (1 : Int) else -1) → Q (.int x t) { s₁ with toks := tk }) E s) :
    wpAny (model prog w) A (eval (.IfExp test (.Constant (.int 1) k1 p1) (.UnaryOp .USub (.Constant (.int 1) k2 p2) p3) p4) env) Q E s := by
  refine IfExp_ (wpAny_mono h (fun b s₁ h₁ => ?_) fun _ _ e => e)
  cases b with
  | true => exact wpAny_Constant_int (h₁ _ _ _ rfl)
  | false => exact UnaryOp_ (wpAny_Constant_int (P.neg_int (h₁ _ _ _ rfl)))
noncomputable def sqL (lower : Int) : List Int := (rangeKs 1 ((lower - 1).fdiv 2).toNat).map fun k => (k * k).fmod lower
theorem news_skip3 {h₀ h : Heap} {L : Addr} {a b c d : Addr × Obj} {r : Led} (N : News h₀ L h (a :: b :: c :: d :: r)) : News h₀ L h (a :: r) := kst_newsOf N fun p hp => by
  rcases List.mem_cons.mp hp with rfl | hp
  · exact .head _
  · exact .tail _ (.tail _ (.tail _ (.tail _ hp)))
theorem gt_cons {c : Nat} {a : Addr × Obj} {l : Led} (h : @LT.lt Nat _ c a.1) (k : ∀ p ∈ l, @LT.lt Nat _ c p.1) : ∀ p ∈ a :: l, @LT.lt Nat _ c p.1 := List.forall_mem_cons.mpr ⟨h, k⟩
theorem gt_nil {c : Nat} : ∀ p ∈ ([] : Led), @LT.lt Nat _ c p.1 := fun _ h => nomatch h
theorem news_as {h₀ h : Heap} {L : Addr} {a b c : Led} (N : News h₀ L h (a ++ (b ++ c))) : News h₀ L h ((a ++ b) ++ c) := (List.append_assoc a b c).symm ▸ N
theorem news_sa {h₀ h : Heap} {L : Addr} {a b c : Led} (N : News h₀ L h ((a ++ b) ++ c)) : News h₀ L h (a ++ (b ++ c)) := List.append_assoc a b c ▸ N
/-- four entries hidden behind a ledger of their own -/
theorem hide4 {h₀ h : Heap} {L : Addr} {c : Nat} {a1 a2 a3 a4 : Addr × Obj} {r r' : Led} (N : News h₀ L h (a1 :: a2 :: a3 :: a4 :: r)) (k : ∀ p ∈ r', p ∈ r) (g1 : @LT.lt Nat _ c a1.1) (g2 : @LT.lt Nat _ c a2.1) (g3 : @LT.lt Nat _ c a3.1) (g4 : @LT.lt Nat _ c a4.1) :
    ∃ LW : Led, News h₀ L h (LW ++ r') ∧ (∀ p ∈ LW, @LT.lt Nat _ c p.1) ∧ a1 ∈ LW ∧ a2 ∈ LW ∧ a3 ∈ LW ∧ a4 ∈ LW :=
  ⟨[a1, a2, a3, a4], kst_newsOf N (sub_cons (.head _) (sub_cons (.tail _ (.head _)) (sub_cons (.tail _ (.tail _ (.head _))) (sub_cons (.tail _ (.tail _ (.tail _ (.head _)))) fun p hp => .tail _ (.tail _ (.tail _ (.tail _ (k p hp)))))))), gt_cons g1 (gt_cons g2 (gt_cons g3 (gt_cons g4 gt_nil))), .head _, .tail _ (.head _), .tail _ (.tail _ (.head _)), .tail _ (.tail _ (.tail _ (.head _)))⟩
theorem len_lt {l : Nat} {a : Int} (h : l = a.toNat) (h2 : a ≤ 23) : l < 24 := by omega
theorem len_pos {l : Nat} {a : Int} (h : l = a.toNat) (h2 : 3 ≤ a) : 0 < l := by omega
theorem sz_le {l : List Value} {n : Nat} (h : l.length = n) (h2 : n < 24) : l.toArray.size ≤ sizeLine := by
  rw [PySem.sizeLine_eq, List.size_toArray]; omega
theorem bd_fig {fs : List Int} (h : ∀ f ∈ fs, 0 ≤ f ∧ f < 16) : ∀ f ∈ fs, 0 ≤ f ∧ f < 100 := fun f hf => by
  have := h f hf; omega
theorem bd_oth {fs os : List Int} (e : fs.map (fun f => 15 - f) = os) (h : ∀ f ∈ fs, 0 ≤ f ∧ f < 16) : ∀ f ∈ os, 0 ≤ f ∧ f < 100 := fun f hf => by
  rw [← e] at hf
  obtain ⟨f0, hf0, rfl⟩ := List.mem_map.mp hf
  have := h f0 hf0
  omega
theorem bd_tab {f : Int} (h : f ∈ ([1, 2, 4, 8, 16] : List Int)) : 1 ≤ f ∧ f < 1000 := by
  simp only [List.mem_cons, List.not_mem_nil, or_false] at h
  omega
theorem zero_bd {x : Int} (h : x = 0) : 0 ≤ x ∧ x < 100 := by omega
theorem side_neg {x : Int} (h : -1 ≤ x ∧ x ≤ 1) : -1 ≤ -x ∧ -x ≤ 1 := by omega
theorem side_bd {x : Int} {b : Bool} (h : x = if b = true then 1 else -1) : -1 ≤ x ∧ x ≤ 1 := by
  cases b <;> simp at h <;> omega
theorem side_mul {x y : Int} {b c : Bool} (h : x = if b = true then 1 else -1) (k : y = if c = true then 1 else -1) : -3 ≤ x * (2 - y) ∧ x * (2 - y) ≤ 3 := by
  cases b <;> cases c <;> simp at h k <;> subst h <;> subst k <;> decide
section
local macro_rules | `(tactic| walk_at "eval IfExp") => `(tactic| (refine Hold.on ?_))
local macro_rules | `(tactic| walk_at "binaryOp Add ref ref") => `(tactic| (refine Hold.on ?_))
local macro_rules | `(tactic| walk_at "compareOp NotEq ref ref") => `(tactic| (refine Hold.on ?_))
local macro_rules | `(tactic| walk_at "compareOp Eq ref ref") => `(tactic| (refine Hold.on ?_))
local macro_rules | `(tactic| walk_at "binaryOp Add str str") => `(tactic| (refine Hold.on ?_))
local macro_rules | `(tactic| walk_at "call builtin:len") => `(tactic| (refine Hold.on ?_))
local macro_rules | `(tactic| walk_at "call builtin:str.join") => `(tactic| (refine Hold.on ?_))
local macro_rules | `(tactic| walk_at "call builtin:sorted") => `(tactic| (refine Hold.on ?_))
set_option maxHeartbeats 8000000 in
theorem c_lh {w : World} {loose : List Str} {mean : ExcName → Option Value} {mg mb : Str → Option Value} {news : Led} {lower upper : Int} {t1 t2 : Tok}
   (h1 : 7 ≤ lower) (h2 : lower ≤ 47) (h3 : 1 ≤ upper) (h4 : upper < lower)
   (g1 : (dvN lower upper ((lower - 1).fdiv 2).toNat).1.length = ((lower - 1).fdiv 2).toNat) (g2 : (dvN lower upper ((lower - 1).fdiv 2).toNat).2.1.length = ((lower - 1).fdiv 2).toNat)
   (g3 : (wdF lower ((lower - 1).fdiv 2) 24 [] upper).length = ((lower - 1).fdiv 2).toNat) (g4 : (wdF lower ((lower - 1).fdiv 2) 24 [] (lower - upper)).length = ((lower - 1).fdiv 2).toNat)
   (g5 : (wdF lower ((lower - 1).fdiv 2) 24 [] upper ++ wdF lower ((lower - 1).fdiv 2) 24 [] (lower - upper)).map (fun a => (a.toNat : Int) - 65) = (dvN lower upper ((lower - 1).fdiv 2).toNat).2.1 ++ (dvN lower upper ((lower - 1).fdiv 2).toNat).2.1.map (fun f => 15 - f))
   (g6 : sortI (((rangeKs 1 ((lower - 1).fdiv 2).toNat).map (fun k => (k * k).fmod lower)).map (fun q => (upper * q).fmod lower)) = (dvN lower upper ((lower - 1).fdiv 2).toNat).1)
   (g7 : 2 * blF (dvN lower upper ((lower - 1).fdiv 2).toNat).1 ((lower + 1).fdiv 2) (dvN lower upper ((lower - 1).fdiv 2).toNat).1.length 0 (dvN lower upper ((lower - 1).fdiv 2).toNat).1.length - (lower - 1).fdiv 2 =
     (if (((rangeKs 1 ((lower - 1).fdiv 2).toNat).map (fun k => (k * k).fmod lower)).any fun x => x == upper) = true then 1 else -1) * (2 - (if (((rangeKs 1 ((lower - 1).fdiv 2).toNat).map (fun k => (k * k).fmod lower)).any fun x => x == 2) = true then 1 else -1)) * foO lower 100 1 0)
   (g8 : 0 ≤ foO lower 100 1 0 ∧ foO lower 100 1 0 < 1000)
   (g9 : ∀ c ∈ wdF lower ((lower - 1).fdiv 2) 24 [] upper ++ wdF lower ((lower - 1).fdiv 2) 24 [] (lower - upper), 65 ≤ c.toNat ∧ c.toNat < 81)
   (g11 : ([1, 2, 4, 8, 16] : List Int).map (indL (wsF (ldC (wdF lower ((lower - 1).fdiv 2) 24 [] upper)) [] 0 0 0)) = ([1, 2, 4, 8, 16] : List Int).map (colF ((lower - 1).fdiv 2) (foO lower 100 1 0) (if (((rangeKs 1 ((lower - 1).fdiv 2).toNat).map (fun k => (k * k).fmod lower)).any fun x => x == upper) = true then 1 else -1) (if (((rangeKs 1 ((lower - 1).fdiv 2).toNat).map (fun k => (k * k).fmod lower)).any fun x => x == 2) = true then 1 else -1)))
   (g12 : ([1, 2, 4, 8, 16] : List Int).map (indL (wsF (ldC (wdF lower ((lower - 1).fdiv 2) 24 [] (lower - upper))) [] 0 0 0)) = ([1, 2, 4, 8, 16] : List Int).map (colF ((lower - 1).fdiv 2) (foO lower 100 1 0) (-(if (((rangeKs 1 ((lower - 1).fdiv 2).toNat).map (fun k => (k * k).fmod lower)).any fun x => x == upper) = true then 1 else -1)) (if (((rangeKs 1 ((lower - 1).fdiv 2).toNat).map (fun k => (k * k).fmod lower)).any fun x => x == 2) = true then 1 else -1)))
   (g14 : (wsF (ldC (wdF lower ((lower - 1).fdiv 2) 24 [] upper)) [] 0 0 0).1.length < 100 ∧ (wsF (ldC (wdF lower ((lower - 1).fdiv 2) 24 [] (lower - upper))) [] 0 0 0).1.length < 100 ∧ (wsF (ldC (wdF lower ((lower - 1).fdiv 2) 24 [] (lower - upper))) [] 0 0 0).2.1 = 0)
   (g13 : [(wsF (ldC (wdF lower ((lower - 1).fdiv 2) 24 [] upper)) [] 0 0 0).2.2.1, (wsF (ldC (wdF lower ((lower - 1).fdiv 2) 24 [] upper)) [] 0 0 0).2.2.2, (wsF (ldC (wdF lower ((lower - 1).fdiv 2) 24 [] (lower - upper))) [] 0 0 0).2.2.1, (wsF (ldC (wdF lower ((lower - 1).fdiv 2) 24 [] (lower - upper))) [] 0 0 0).2.2.2] =
     [(([1, 2, 4, 8, 16] : List Int).map (colF ((lower - 1).fdiv 2) (foO lower 100 1 0) (if (((rangeKs 1 ((lower - 1).fdiv 2).toNat).map (fun k => (k * k).fmod lower)).any fun x => x == upper) = true then 1 else -1) (if (((rangeKs 1 ((lower - 1).fdiv 2).toNat).map (fun k => (k * k).fmod lower)).any fun x => x == 2) = true then 1 else -1))).getD (Int.toNat 0) 0, (lower - 1).fdiv 2,
      (([1, 2, 4, 8, 16] : List Int).map (colF ((lower - 1).fdiv 2) (foO lower 100 1 0) (-(if (((rangeKs 1 ((lower - 1).fdiv 2).toNat).map (fun k => (k * k).fmod lower)).any fun x => x == upper) = true then 1 else -1)) (if (((rangeKs 1 ((lower - 1).fdiv 2).toNat).map (fun k => (k * k).fmod lower)).any fun x => x == 2) = true then 1 else -1))).getD (Int.toNat 0) 0, (lower - 1).fdiv 2])
   (g15 : ∀ f ∈ (dvN lower upper ((lower - 1).fdiv 2).toNat).2.1, 0 ≤ f ∧ f < 16)
   (g16 : nlL (wsF (ldC (wdF lower ((lower - 1).fdiv 2) 24 [] upper)) [] 0 0 0) (wsF (ldC (wdF lower ((lower - 1).fdiv 2) 24 [] (lower - upper))) [] 0 0 0) = wiL (dvN lower upper ((lower - 1).fdiv 2).toNat).2.1 ((dvN lower upper ((lower - 1).fdiv 2).toNat).2.1.map (fun f => 15 - f)))
   (g17 : (wiL (dvN lower upper ((lower - 1).fdiv 2).toNat).2.1 ((dvN lower upper ((lower - 1).fdiv 2).toNat).2.1.map (fun f => 15 - f))).length < 300 ∧ ∀ t ∈ wiL (dvN lower upper ((lower - 1).fdiv 2).toNat).2.1 ((dvN lower upper ((lower - 1).fdiv 2).toNat).2.1.map (fun f => 15 - f)), 0 ≤ t.1 ∧ t.1 < 1000)
   (g10 : (wsF (ldC (wdF lower ((lower - 1).fdiv 2) 24 [] upper)) [] 0 0 0).1 = popF 17 (ctL (plL (dvN lower upper ((lower - 1).fdiv 2).toNat).1 lower)) ∧ (wsF (ldC (wdF lower ((lower - 1).fdiv 2) 24 [] upper)) [] 0 0 0).2.1 = 0) :
   SpecG w loose mean mg mb 185 30 [.int lower t1, .int upper t2] news (fun v => v = .bool true) := by
  unfold SpecG
  k_fill
  intro dp un gd cn csn csg csc csm a ccd cl outer A₀ base h₀ L m s Q E B F X N T hdp hun hbare hret
  refine wpAny_call ?_
  k_dflt (refine' codeR_defC ?k1 ?k2 ?k3 ?k4 ?k5 ?kA ?kF ?kK ?k6 ?k7 ?k8 ?k9 ?kB ?kD ?_ ?c2 ?c3 ?c4; (case kA => exact rfl); (case kF => exact rfl); (case kK => exact rfl); (case k1 => k_asm); (case k2 => k_asm); (case k3 => k_asm); (case k4 => k_asm); (case k5 => k_asm); (case k6 => k_is); (case k7 => k_is); (case k8 => k_room); (case k9 => exact BindsTo.of_eq rfl); (case kB => exact rfl); (case kD => decide +kernel); (case c2 => exact rfl); (case c3 => exact rfl); (case c4 => exact rfl); k_whole; intro g' L' h' tk' cells' FG' F' N' Y' B' X' T' l1; (try k_lt l1); k_cells Y'; (try simp only [List.cons_append, List.nil_append] at N'); (try dsimp only); (try k_lift B'); (try k_fold))
  change (let A1 := _; wpAny _ A1 _ _ _ _)
  intro A1
  rename_i o1 o2 o3 o4 d1 d2 d3 d4
  have kMark := kstMark
  have lc1 : AllLt (L' + 1) news := allLt_of fun p hp => Nat.lt_of_lt_of_le (l1 p hp) (by omega)
  have lc2 : AllLt (L' + 1 + 1) news := allLt_of fun p hp => Nat.lt_of_lt_of_le (l1 p hp) (by omega)
  have lc3 : AllLt (L' + 1 + 1 + 1) news := allLt_of fun p hp => Nat.lt_of_lt_of_le (l1 p hp) (by omega)
  have lc4 : AllLt (L' + 1 + 1 + 1 + 1) news := allLt_of fun p hp => Nat.lt_of_lt_of_le (l1 p hp) (by omega)
  k_steps
  refine Hold.off ?_
  rename_i IR F3 N3 _
  have hsz : 3 ≤ (lower - 1).fdiv 2 ∧ (lower - 1).fdiv 2 ≤ 23 := by
    rw [Int.fdiv_eq_ediv_of_nonneg _ (by omega)]; omega
  generalize hsize : (lower - 1).fdiv 2 = size at *
  have b1 : 1 ≤ lower := Int.le_trans (by decide) h1
  have b2 : lower < 100 := Int.lt_of_le_of_lt h2 (by decide)
  have b3 : 0 ≤ upper := Int.le_trans (by decide) h3
  have b4 : 0 ≤ size := Int.le_trans (by decide) hsz.1
  have b5 : size < 24 := Int.lt_of_le_of_lt hsz.2 (by decide)
  have b6 : size < 100 := Int.lt_of_le_of_lt hsz.2 (by decide)
  have b7 : 0 ≤ lower - upper := Int.sub_nonneg_of_le (Int.le_of_lt h4)
  have b8 : lower - upper < lower := Int.sub_lt_self lower (Int.lt_of_lt_of_le (by decide) h3)
  have lg1 := len_lt g1 hsz.2
  have lg2 := len_lt g2 hsz.2
  have lg3 := len_lt g3 hsz.2
  have lg4 := len_lt g4 hsz.2
  have lp2 := len_pos g2 hsz.1
  refine LCg.CompSrc.range (n := size.toNat) (by rfl) F3 N3 IR (small_one (by omega) (by omega) (by omega) (by omega)) (by have := rangeSize_nat 1 (size + 1); rw [this]; omega) (by rw [PySem.sizeLine_eq]; omega) ?_
  intro g
  refine' kcf_range (n := size.toNat) (a := 1) (fun k => (k * k).fmod lower) (fun f tf I oI C oC D m2 ys h tk E' hlo hhi hC hx F4 N4 off ne mk => ?_) ?_
  · have off0 := off
    k_steps
    refine Hold.off ?_
    exact LCg.CompEnd.intro F4 N4 _ (fun p hp => hp) off0 True.intro ⟨rfl, _, rfl⟩
  unfold KPfDone
  intro ysq hysq Dsq h tk F5 N5 off5
  k_sweep
  dsimp only
  generalize hsqL : (rangeKs 1 size.toNat).map (fun k => (k * k).fmod lower) = sqs at hysq g6 g7 g11 g12 g13
  have hyl := hysq.length
  have hsl : sqs.length = size.toNat := by rw [← hsqL, List.length_map, rangeKs_length]
  have N5 : News g' L' h ((Dsq, listOf ysq.toArray ysq.length) :: (L' + 1 + 1 + 1 + 1, o1) :: (L' + 1 + 1 + 1, o2) :: (L' + 1 + 1, o3) :: (L' + 1, o4) :: news) := N5
  k_sweep
  k_steps
  refine Hold.off ?_
  refine m_side ?_
  k_steps
  refine Hold.off ?_
  rename (_ = if (List.any sqs fun x => x == upper) = true then (1 : Int) else -1) => hsd
  rw [← hsd] at g7 g11 g12 g13
  refine m_side ?_
  k_steps
  refine Hold.off ?_
  rename (_ = if (List.any sqs fun x => x == 2) = true then (1 : Int) else -1) => htw
  rw [← htw] at g7 g11 g12 g13
  have hsb := side_bd hsd
  have htb := side_bd htw
  have hstb := side_mul hsd htw
  refine Spec.use (c_fo b1 b2) ?_
  rintro v tl h1 tk1 F1 N1 ⟨⟨t1, rfl⟩, htl⟩
  rw [htl] at N1
  k_sweep
  dsimp only
  k_steps
  refine Hold.off ?_
  refine Spec.use (c_dv b3 h4 b2 b4 b5) ?_
  rintro v tl h1 tk1 F1 N1 ⟨DT, lR, lF, rv, fv, rc, fc, rfl, hrv, hfv, htl, hlt1, hlt2, hlt3⟩
  rw [htl] at N1
  k_sweep
  dsimp only
  k_steps
  refine Hold.off ?_
  generalize hrow : (dvN lower upper size.toNat).1 = row at *
  generalize hfig : (dvN lower upper size.toNat).2.1 = figs at *
  have hvl1 := hrv.length
  have hvl2 := hfv.length
  rename_i F7 N7
  refine LCg.CompSrc.ledger (by rfl) F7 N7 (.tail _ (.head _)) (sz_le hvl2 lg2) ?_
  intro g
  refine' kcf_list (fun f => 15 - f) hfv (fun f tf I2 oI2 C oC D2 m2 ys h tk E' hmem hC hx F4 N4 off ne mk => ?_) ?_
  · have off0 := off
    k_steps
    refine Hold.off ?_
    exact LCg.CompEnd.intro (by k_asm) N4 _ (fun p hp => hp) off0 (.inr ⟨_, .tail _ (.head _), rfl, _, rfl⟩) ⟨rfl, _, rfl⟩
  unfold KPfDone
  intro yo hyo DO hO tkO FO NO offO
  replace NO : News g' L' hO ((DO, listOf yo.toArray yo.length) :: _) := NO
  generalize hoth : figs.map (fun f => 15 - f) = oths at hyo g5 g16 g17
  k_sweep
  dsimp only
  k_steps
  refine Hold.off ?_
  refine Spec.use (c_wd b3 h4 b2 b4 b5) ?_
  rintro v tl h1 tk1 F1 N1 ⟨⟨tw1, rfl⟩, htl⟩
  rw [htl] at N1
  k_sweep
  dsimp only
  generalize hwd : wdF lower size 24 [] upper = wd at *
  k_steps
  refine Hold.off ?_
  refine Spec.use (c_wd b7 b8 b2 b4 b5) ?_
  rintro v tl h1 tk1 F1 N1 ⟨⟨tw2, rfl⟩, htl⟩
  rw [htl] at N1
  k_sweep
  dsimp only
  generalize hod : wdF lower size 24 [] (lower - upper) = od at *
  k_steps
  refine Hold.off ?_
  refine ListComp_rowsP (by decide) (by decide) rfl (by decide) rfl ?_
  k_steps
  refine comp_bytes (wd := wd ++ od) (fun a y => IsInt ((a.toNat : Int) - 65) y) rfl (by rw [List.length_append]; omega) (by k_asm) (by k_asm) ?_ ?_
  · intro C a t s₃ m₃ E' ha hn hm F3 N3
    walk1
    refine wpAny_Name (wpAny_loadName_local (by rfl) (by rfl) hn hm ?_) (by decide)
    k_steps
    · exact ⟨_, rfl⟩
    · exact ⟨_, _, rfl, fun _ _ e => e⟩
  intro DL kL hL tkL yl hPL FL NL hDL
  have hIL := paired_ints hPL
  generalize hlet : (wd ++ od).map (fun a => (a.toNat : Int) - 65) = lets at hIL g5
  have hyl2 := hIL.length
  k_sweep
  k_steps
  have hol : oths.length = figs.length := by rw [← hoth, List.length_map]
  refine Hold.off ?_
  refine kmk_add_ints (by k_asm) NL ⟨_, (NL (lF, listOf fv.toArray fc) (by k_mem)).1, rfl, _, rfl⟩ ⟨_, (NL (DO, listOf yo.toArray yo.length) (by k_mem)).1, rfl, _, rfl⟩ hfv hyo (fun DA us hA FA NA lA hiA => ?_) (by rw [PySem.sizeLine_eq]; omega)
  k_sweep
  dsimp only
  k_steps
  refine Hold.off ?_
  refine m_neL (a := DL) (b := DA) (by k_asm) (by k_mem) (by k_mem) hIL hiA (by ktr_units) ?_
  rw [g5]
  simp only [decide_true, Bool.not_true]
  k_steps
  refine Hold.off ?_
  (refine LCg.ListComp_U (F₀ := by k_asm) (by with_unfolding_all rfl) (by decide) (by rfl) (by decide) (by rfl) ?_)
  k_steps
  refine Hold.off ?_
  refine LCg.CompSrc.ledger (by rfl) (by k_asm) NA (by k_mem : (Dsq, listOf ysq.toArray ysq.length) ∈ _) (sz_le hyl (len_lt hsl hsz.2)) ?_
  intro g
  refine' kcf_list (fun q => (upper * q).fmod lower) hysq (fun f tf I2 oI2 C oC D2 m2 ys h tk E' hmem hC hx F4 N4 off ne mk => ?_) ?_
  · have off0 := off
    k_steps
    refine Hold.off ?_
    exact LCg.CompEnd.intro (by k_asm) N4 _ (fun p hp => hp) off0 (.inr ⟨_, (by k_mem : (Dsq, listOf ysq.toArray ysq.length) ∈ _), rfl, _, rfl⟩) ⟨rfl, _, rfl⟩
  unfold KPfDone
  intro ym hym DM hM tkM FM NM offM
  replace NM : News g' L' hM ((DM, listOf ym.toArray ym.length) :: _) := NM
  generalize hmul : sqs.map (fun q => (upper * q).fmod lower) = muls at hym g6
  have hml : muls.length = size.toNat := by rw [← hmul, List.length_map, ← hsqL, List.length_map, rangeKs_length]
  k_sweep
  dsimp only
  k_steps
  refine Hold.off ?_
  refine kso_sorted FM NM ⟨_, (NM (DM, listOf ym.toArray ym.length) (.head _)).1, rfl, _, rfl⟩ hym (by omega) fun DS ys2 srt kS hS FS NS hltS hiS hlS hpS hsS _ => ?_
  have hsr : srt = row := (eq_sortI hpS hsS).trans g6
  rw [hsr] at hiS
  replace NS := news_skip3 NS
  clear NM hltS hlS hpS hsS
  k_sweep
  dsimp only
  k_steps
  refine Hold.off ?_
  refine m_neL (a := lR) (b := DS) (by k_asm) (by k_mem) (by k_mem) hrv hiS (by ktr_units) ?_
  simp only [decide_true, Bool.not_true]
  k_steps
  refine Hold.off ?_
  refine Spec.use (c_bl2 (n := rc) (by k_mem) hrv (Nat.lt_trans lg1 (by decide))) (N := NS) ?_
  rintro v tl h1 tk1 F1 N1 ⟨⟨tb1, rfl⟩, htl⟩
  rw [htl] at N1
  clear htl
  k_sweep
  dsimp only
  k_steps
  · exact absurd g7 (by assumption)
  refine Hold.off ?_
  have hbw : ∀ c ∈ wd, 65 ≤ c.toNat ∧ c.toNat < 81 := fun c hc => g9 c (List.mem_append_left _ hc)
  have hbo : ∀ c ∈ od, 65 ≤ c.toNat ∧ c.toNat < 81 := fun c hc => g9 c (List.mem_append_right _ hc)
  refine Spec.use (c_ld lg3 hbw) (N := N1) ?_
  rintro v tl h1 tk1 F1 N1 ⟨ob, od1, DC, DN, wv, ta, tb, tn, tt, k1, k2, k3, k4, k5, sim, rfl, hwi, htl, z1, z2, z3, z4⟩
  rw [htl] at N1
  clear htl
  k_sweep
  dsimp only
  k_steps
  generalize hr1 : wsF (ldC wd) [] 0 0 0 = r1 at *
  have cF : @LT.lt Nat _ lR lF := hlt2
  have cR : @LT.lt Nat _ (L' + 1 + 1 + 1 + 1) lR := hlt1 (L' + 1 + 1 + 1 + 1, o1) (.tail _ (.head _))
  have cO3 : L' + 1 + 1 + 1 ≠ DO := off1_mem offO (L' + 1 + 1 + 1, o2) (by k_mem)
  have cO4 : L' + 1 + 1 + 1 + 1 ≠ DO := off1_mem offO (L' + 1 + 1 + 1 + 1, o1) (by k_mem)
  have cz1 : @LT.lt Nat _ (L' + 1 + 1 + 1 + 1) od1 := z1 (L' + 1 + 1 + 1 + 1, o1) (by k_mem)
  have cz2 := Nat.lt_trans cz1 z2
  have cz3 := Nat.lt_trans cz2 z3
  have cz4 := Nat.lt_trans cz3 z4
  have cRF := Nat.lt_trans cR cF
  obtain ⟨LW1, N2, gW1, wN1, wC1, wo1, wd1⟩ := hide4 (r' := [(DO, listOf yo.toArray yo.length), (lF, listOf fv.toArray fc), (lR, listOf rv.toArray rc), (L' + 1 + 1 + 1 + 1, o1)] ++ (L' + 1 + 1 + 1, o2) :: (L' + 1 + 1, o3) :: (L' + 1, o4) :: news) N1 (sub_cons (.tail _ (.head _)) (sub_cons (.tail _ (.tail _ (.tail _ (.head _)))) (sub_cons (.tail _ (.tail _ (.tail _ (.tail _ (.head _))))) fun p hp => .tail _ (.tail _ (.tail _ (.tail _ (.tail _ (.tail _ hp)))))))) cz4 cz3 cz2 cz1
  have W1 : WsIn w ob r1 LW1 := ⟨od1, DC, DN, wv, _, ta, tb, tn, tt, k1, k2, k3, k4, k5, sim, hwi, wo1, wd1, wN1, wC1⟩
  clear N1
  refine stCN (c := L' + 1 + 1 + 1) F1 (news_as N2) (by rfl) d2 ?_ ?_ fun h5 o5 F5 N5 d5 => ?_
  · exact ne_app (fun p hp => Nat.ne_of_gt (Nat.lt_of_succ_lt (gW1 p hp))) (ne_cons (Ne.symm cO3) (ne_cons (Nat.ne_of_gt (Nat.lt_of_succ_lt cRF)) (ne_cons (Nat.ne_of_gt (Nat.lt_of_succ_lt cR)) (ne_cons (Nat.ne_of_gt (Nat.lt_succ_self _)) ne_nil))))
  · exact ne_cons (Nat.ne_of_lt (Nat.lt_succ_self _)) (ne_cons (Nat.ne_of_lt (Nat.lt_succ_of_lt (Nat.lt_succ_self _))) fun p hp => Nat.ne_of_lt (Nat.lt_succ_of_lt (Nat.lt_succ_of_lt (Nat.lt_succ_of_lt (l1 p hp)))))
  clear N2
  replace N5 := news_sa N5
  dsimp only [List.cons_append, List.nil_append] at F5 N5
  k_sweep
  dsimp only
  k_steps
  refine Hold.off ?_
  refine Spec.use (c_ld lg4 hbo) (N := N5) ?_
  rintro v tl h1 tk1 F1 N1 ⟨ob2, od2, DC2, DN2, wv2, ta2, tb2, tn2, tt2, q1, q2, q3, q4, q5, sim2, rfl, hwi2, htl, y1, y2, y3, y4⟩
  rw [htl] at N1
  clear htl
  generalize hr2 : wsF (ldC od) [] 0 0 0 = r2 at *
  have cy1 : @LT.lt Nat _ (L' + 1 + 1 + 1 + 1) od2 := y1 (L' + 1 + 1 + 1 + 1, o1) (by k_mem)
  have cy2 := Nat.lt_trans cy1 y2
  have cy3 := Nat.lt_trans cy2 y3
  have cy4 := Nat.lt_trans cy3 y4
  obtain ⟨LW2, N2, gW2, wN2, wC2, wo2, wd2⟩ := hide4 N1 (fun p hp => hp) cy4 cy3 cy2 cy1
  have W2 : WsIn w ob2 r2 LW2 := ⟨od2, DC2, DN2, wv2, _, ta2, tb2, tn2, tt2, q1, q2, q3, q4, q5, sim2, hwi2, wo2, wd2, wN2, wC2⟩
  clear N1
  k_sweep
  dsimp only
  k_steps
  refine stCN (c := L' + 1 + 1 + 1 + 1) (own := LW2 ++ (LW1 ++ [(DO, listOf yo.toArray yo.length), (lF, listOf fv.toArray fc), (lR, listOf rv.toArray rc)])) (rest := (L' + 1 + 1 + 1, o5) :: (L' + 1 + 1, o3) :: (L' + 1, o4) :: news) F1 (news_as (c := (L' + 1 + 1 + 1 + 1, o1) :: _) (kst_newsOf N2 (sub_app (fun p hp => List.mem_append_left _ hp) (fun p hp => List.mem_append_right _ (by rw [List.append_assoc] at hp; exact hp))))) (by rfl) d1 ?_ ?_ fun h6 o6 F6 N6 d6 => ?_
  · exact ne_app (fun p hp => Nat.ne_of_gt (gW2 p hp)) (ne_app (fun p hp => Nat.ne_of_gt (gW1 p hp)) (ne_cons (Ne.symm cO4) (ne_cons (Nat.ne_of_gt cRF) (ne_cons (Nat.ne_of_gt cR) ne_nil))))
  · exact ne_cons (Nat.ne_of_lt (Nat.lt_succ_self _)) (ne_cons (Nat.ne_of_lt (Nat.lt_succ_of_lt (Nat.lt_succ_self _))) (ne_cons (Nat.ne_of_lt (Nat.lt_succ_of_lt (Nat.lt_succ_of_lt (Nat.lt_succ_self _)))) fun p hp => Nat.ne_of_lt (Nat.lt_succ_of_lt (Nat.lt_succ_of_lt (Nat.lt_succ_of_lt (Nat.lt_succ_of_lt (l1 p hp)))))))
  clear N2
  replace N6 := news_sa N6
  rw [List.append_assoc] at N6
  dsimp only [List.cons_append, List.nil_append] at F6 N6
  k_sweep
  dsimp only
  k_steps
  refine Hold.off ?_
  refine Spec.use (c_nm (n := rc) (by k_mem) hrv (Nat.lt_trans lg1 (by decide)) b1 b2) (N := N6) ?_
  rintro v tl h1 tk1 F1 N1 ⟨TN, TD, tv, t0, rfl, htv, htl⟩
  rw [htl] at N1
  clear htl
  k_sweep
  dsimp only
  k_steps
  refine Hold.off ?_
  refine m_neNorm (a := DN) (b := TN) (by k_asm) (by k_mem) (by k_mem) (by k_mem) (by k_mem) hwi htv g10.1 g10.2 (by ktr_units) ?_
  k_steps
  replace N1 := kst_newsOf N1 (fun p hp => .tail _ (.tail _ hp))
  refine Hold.off ?_
  refine Spec.use (c_co b4 b6 hsb.1 hsb.2 htb.1 htb.2 g8.1 g8.2) (N := N1) ?_
  rintro v tl h1 tk1 F1 N1 ⟨Ddue, dv, kd, rfl, hdv, htl, hld⟩
  rw [htl] at N1
  clear htl
  k_sweep
  dsimp only
  k_steps
  refine Hold.off ?_
  (rename News _ _ _ _ => NX)
  refine Spec.use (c_co b4 b6 (side_neg hsb).1 (side_neg hsb).2 htb.1 htb.2 g8.1 g8.2) (N := NX) ?_
  clear NX
  rintro v tl h1 tk1 F1 N1 ⟨Dtur, uv, ku, rfl, huv, htl, hlu⟩
  rw [htl] at N1
  clear htl
  k_sweep
  dsimp only
  k_steps
  refine Hold.off ?_
  (refine LCg.ListComp_U (F₀ := by k_asm) (by with_unfolding_all rfl) (by decide) (by rfl) (by decide) (by rfl) ?_)
  k_steps
  refine Hold.off ?_
  (rename News _ _ _ _ => NX)
  refine LCg.CompSrc.ledger (by rfl) (by k_asm) NX (.head _) (Nat.le_of_ble_eq_true rfl) ?_
  intro g
  refine' kcf_list (indL r1) (.cons _ _ (.cons _ _ (.cons _ _ (.cons _ _ (.cons _ _ .nil))))) (fun f tf I2 oI2 C oC D2 m2 ys h tk E' hmem hC hx F4 N4 off ne mk => ?_) ?_
  · have off0 := off
    have hf := bd_tab hmem
    k_steps
    refine Hold.off ?_
    refine Spec.use (N := N4) (c_in (W1.mono fun p hp => by k_mem) (Nat.lt_trans g14.1 (by decide)) hf.1 hf.2) ?_
    rintro v tl h1 tk1 F1 N1 ⟨⟨t1, rfl⟩, rfl⟩
    dsimp only
    exact LCg.CompEnd.intro F1 N1 _ (fun p hp => hp) off0 (.inr ⟨_, (.head _), rfl, _, rfl⟩) ⟨rfl, _, rfl⟩
  unfold KPfDone
  intro yc1 hyc1 Dc1 hc1 tkC1 FC1 NC1 offC1
  replace NC1 : News g' L' hc1 ((Dc1, listOf yc1.toArray yc1.length) :: _) := NC1
  k_sweep
  dsimp only
  k_steps

  refine Hold.off ?_
  refine m_neL (a := Dc1) (b := Ddue) (by k_asm) (by k_mem) (by k_mem) hyc1 hdv (by ktr_units) ?_
  rw [g11]
  simp only [decide_true, Bool.not_true]
  replace NC1 := kst_newsOf NC1 (fun p hp => .tail _ (.tail _ hp))
  k_steps
  refine Hold.off ?_
  (refine LCg.ListComp_U (F₀ := by k_asm) (by with_unfolding_all rfl) (by decide) (by rfl) (by decide) (by rfl) ?_)
  k_steps
  refine Hold.off ?_
  (rename News _ _ _ _ => NX)
  refine LCg.CompSrc.ledger (by rfl) (by k_asm) NX (.head _) (Nat.le_of_ble_eq_true rfl) ?_
  intro g
  refine' kcf_list (indL r2) (.cons _ _ (.cons _ _ (.cons _ _ (.cons _ _ (.cons _ _ .nil))))) (fun f tf I2 oI2 C oC D2 m2 ys h tk E' hmem hC hx F4 N4 off ne mk => ?_) ?_
  · have off0 := off
    have hf := bd_tab hmem
    k_steps
    refine Hold.off ?_
    refine Spec.use (N := N4) (c_in (W2.mono fun p hp => by k_mem) (Nat.lt_trans g14.2.1 (by decide)) hf.1 hf.2) ?_
    rintro v tl h1 tk1 F1 N1 ⟨⟨t1, rfl⟩, rfl⟩
    dsimp only
    exact LCg.CompEnd.intro F1 N1 _ (fun p hp => hp) off0 (.inr ⟨_, (.head _), rfl, _, rfl⟩) ⟨rfl, _, rfl⟩
  unfold KPfDone
  intro yc2 hyc2 Dc2 hc2 tkC2 FC2 NC2 offC2
  replace NC2 : News g' L' hc2 ((Dc2, listOf yc2.toArray yc2.length) :: _) := NC2
  k_sweep
  dsimp only
  k_steps
  refine Hold.off ?_
  refine m_neL (a := Dc2) (b := Dtur) (by k_asm) (by k_mem) (by k_mem) hyc2 huv (by ktr_units) ?_
  rw [g12]
  simp only [decide_true, Bool.not_true]
  replace NC2 := kst_newsOf NC2 (fun p hp => .tail _ (.tail _ hp))
  k_steps
  refine Hold.off ?_
  (rename News _ _ _ _ => NX)
  refine m_neT NX (.tail _ (.head _)) (.head _) (.cons _ _ (.cons _ _ (.cons _ _ (.cons _ _ .nil)))) (.cons _ _ (.cons _ _ (.cons _ _ (.cons _ _ .nil)))) g13 (by ktr_units) ?_
  replace NX := kst_newsOf NX (fun p hp => .tail _ (.tail _ (.tail _ (.tail _ hp))))
  k_steps
  refine Hold.off ?_
  refine Spec.use (N := NX) (c_nl (r1 := r1) (r2 := r2) (W1.mono fun p hp => by k_mem) (W2.mono fun p hp => by k_mem) g14.1 g14.2.1 (zero_bd g10.2).1 (zero_bd g14.2.2).1 (zero_bd g10.2).2 (zero_bd g14.2.2).2) ?_
  clear NX
  rintro v tl h1 tk1 F1 N1 ⟨lN, vn, kn, tupn, rfl, hTn, htl⟩
  rw [htl] at N1
  clear htl
  k_sweep
  dsimp only
  k_steps
  refine Hold.off ?_
  (rename News _ _ _ _ => NX)
  refine Spec.use (N := NX) (c_wi (n1 := fc) (by k_mem) (by k_mem) hfv hyo (Nat.lt_trans lg2 (by decide)) (Nat.lt_trans (hol ▸ lg2) (by decide)) lp2 (bd_fig g15) (bd_oth hoth g15)) ?_
  clear NX
  rintro v tl h1 tk1 F1 N1 ⟨lP, vp, kp, tupp, rfl, hTp, htl⟩
  rw [htl] at N1
  clear htl
  k_sweep
  dsimp only
  k_steps
  refine Hold.off ?_
  (rename News _ _ _ _ => NX)
  refine m_ifS ?_
  k_steps
  refine Hold.off ?_
  refine kst_len (k := (wiL figs oths).length) NX (.head _) hTp.length (by omega) ?_
  dsimp only
  k_steps
  refine Hold.off ?_
  have hzl : (if decide (1 < ((wiL figs oths).length : Int)) = true then Str.ofString "s " else Str.ofString " ").length ≤ 2 := by split <;> decide
  generalize hz : (if decide (1 < ((wiL figs oths).length : Int)) = true then Str.ofString "s " else Str.ofString " ") = zs at *
  have hal : (Str.ofString "at tab size").length = 11 := by decide
  refine m_cat (fun t8 k8 _ => ?_) (by rw [PySem.sizeLine_eq]; omega)
  k_steps
  refine Hold.off ?_
  refine ListComp_rowsP (by decide) (by decide) rfl (by decide) rfl ?_
  k_steps
  refine Hold.off ?_
  refine comp_list (TupText tupp) rfl (by rw [hTp.length]; omega) (by k_asm) NX (.head _) ?_ ?_
  · intro C a s₃ m₃ E' ha hn hm F3 N3
    obtain ⟨i, hi, hia⟩ := List.getElem_of_mem ha
    obtain ⟨T, x, y, z, t, u, q, rfl, hxi, hmem⟩ := hTp.at i a (by rw [List.getElem?_eq_getElem hi, hia])
    have hb := g17.2 _ (List.mem_of_getElem? hxi)
    have hg1 : mg (Str.ofString "str") = none := mg_none_of X' T'.g (by k_is)
    have hg2 : mb (Str.ofString "str") = some (.type "str") := (T'.builtins _ (by decide)).trans (by boot_by_name)
    refine Call_ ?_
    refine Name_function_global (by rfl) (by rfl) (loadGlobal_builtin (mg := mg) (mb := mb) (T'.g.keeps F3.keep) hg1 (T'.b.keeps F3.keep) hg2 ?_) (by decide)
    refine Pv.callWith_type1 (spliced_more (Subscript_ (wpAny_Name (wpAny_loadName_local (by rfl) (by rfl) hn hm ?_) (by decide))))
    refine wpAny_Constant_int ?_
    refine item_tuple (j := 0) (items := #[.int x t, .int y u, .int z q]) ⟨_, (N3 (T, tupObj #[.int x t, .int y u, .int z q]) (by k_mem)).1, rfl, _, rfl⟩ (by decide) (by decide) (by rfl) (by rfl) ?_
    refine spliced_none ?_
    refine P.str_of_int (shown (N := 1000) (by omega) (by omega) (by decide +kernel)) ?_
    refine ⟨?_, _, _, rfl, fun _ _ e => e⟩
    intro a' x' z' w' t' u' q' e hm'
    cases e
    have e1 := (N3 (T, tupObj #[.int x t, .int y u, .int z q]) (by k_mem)).1
    have e2 := (N3 (T, tupObj #[.int x' t', .int z' u', .int w' q']) (by k_mem)).1
    rw [e1] at e2
    have e3 : x = x' := by
      simp only [Option.some.injEq, Obj.mk.injEq, Data.seq.injEq, List.toArray_inj, Array.mk.injEq, List.cons.injEq, Value.int.injEq, true_and, and_true] at e2
      exact e2.1.1
    subst e3
    exact ⟨_, rfl⟩
  intro DJ kJ hJ tkJ yj hPJ FJ NJ hDJ
  have hSJ := tups_strs hTp hPJ
  k_sweep
  k_steps
  refine Hold.off ?_
  refine join_list (ys := (wiL figs oths).map fun t => Str.ofString (toString t.1)) ⟨_, (NJ (DJ, listOf yj.toArray kJ) (.head _)).1, rfl, _, rfl⟩ (by simpa using hSJ) ?_ fun t2 k2 => ?_
  · rw [← tx_eq]; exact Nat.le_trans (fwT_sum g17.1 g17.2) (by decide)
  rw [← fwJ_eq]
  dsimp only
  k_steps
  refine Hold.off ?_
  have hjl := fwJ_len g17.1 g17.2
  refine m_cat (fun t9 k9 _ => ?_) (by rw [PySem.sizeLine_eq, Str.length_append]; omega)
  rw [← hz, txt_eq]
  k_steps
  refine Hold.off ?_
  (rename News _ _ _ _ => NZ)
  refine m_eqTri (a := lN) (b := lP) NZ (by k_mem) (by k_mem) (hTn.mono fun p hp => by k_mem) (hTp.mono fun p hp => by k_mem) g16 (by ktr_units) ?_
  k_steps
  refine Hold.off ?_
  refine SpecN.use (N := NZ) (c_fw (lw := lN) (n := kn) (by k_mem) (hTn.mono fun p hp => by k_mem) (by rw [g16]; exact g17.1) (by rw [g16]; exact g17.2)) ?_ hbare
  intro v s' hold hns hos hb hv
  obtain ⟨tv, rfl⟩ := hv
  rw [g16]
  refine wpAny_Name (wpAny_loadName_local (by rfl) (by rfl) hns (by rfl) ?_) (by decide)
  refine eq_str ?_
  rw [beq_self_eq_true]
  clear NZ
  k_steps
  exact hret _ _ (fun hb' k X T => hold hb' (fun b o e => FG'.keep _ _ (k b o e)) X T) hos hb rfl
end
theorem walkFresh22 : True := by
  w_top off
  trivial
abbrev pg1 (lower upper : Int) : Prop := (dvN lower upper ((lower - 1).fdiv 2).toNat).1.length = ((lower - 1).fdiv 2).toNat
abbrev pg2 (lower upper : Int) : Prop := (dvN lower upper ((lower - 1).fdiv 2).toNat).2.1.length = ((lower - 1).fdiv 2).toNat
abbrev pg3 (lower upper : Int) : Prop := (wdF lower ((lower - 1).fdiv 2) 24 [] upper).length = ((lower - 1).fdiv 2).toNat
abbrev pg4 (lower upper : Int) : Prop := (wdF lower ((lower - 1).fdiv 2) 24 [] (lower - upper)).length = ((lower - 1).fdiv 2).toNat
abbrev pg5 (lower upper : Int) : Prop := (wdF lower ((lower - 1).fdiv 2) 24 [] upper ++ wdF lower ((lower - 1).fdiv 2) 24 [] (lower - upper)).map (fun a => (a.toNat : Int) - 65) = (dvN lower upper ((lower - 1).fdiv 2).toNat).2.1 ++ (dvN lower upper ((lower - 1).fdiv 2).toNat).2.1.map (fun f => 15 - f)
abbrev pg6 (lower upper : Int) : Prop := sortI (((rangeKs 1 ((lower - 1).fdiv 2).toNat).map (fun k => (k * k).fmod lower)).map (fun q => (upper * q).fmod lower)) = (dvN lower upper ((lower - 1).fdiv 2).toNat).1
abbrev pg7 (lower upper : Int) : Prop := 2 * blF (dvN lower upper ((lower - 1).fdiv 2).toNat).1 ((lower + 1).fdiv 2) (dvN lower upper ((lower - 1).fdiv 2).toNat).1.length 0 (dvN lower upper ((lower - 1).fdiv 2).toNat).1.length - (lower - 1).fdiv 2 = (if (((rangeKs 1 ((lower - 1).fdiv 2).toNat).map (fun k => (k * k).fmod lower)).any fun x => x == upper) = true then 1 else -1) * (2 - (if (((rangeKs 1 ((lower - 1).fdiv 2).toNat).map (fun k => (k * k).fmod lower)).any fun x => x == 2) = true then 1 else -1)) * foO lower 100 1 0
abbrev pg8 (lower upper : Int) : Prop := 0 ≤ foO lower 100 1 0 ∧ foO lower 100 1 0 < 1000
abbrev pg9 (lower upper : Int) : Prop := ∀ c ∈ wdF lower ((lower - 1).fdiv 2) 24 [] upper ++ wdF lower ((lower - 1).fdiv 2) 24 [] (lower - upper), 65 ≤ c.toNat ∧ c.toNat < 81
abbrev pg11 (lower upper : Int) : Prop := ([1, 2, 4, 8, 16] : List Int).map (indL (wsF (ldC (wdF lower ((lower - 1).fdiv 2) 24 [] upper)) [] 0 0 0)) = ([1, 2, 4, 8, 16] : List Int).map (colF ((lower - 1).fdiv 2) (foO lower 100 1 0) (if (((rangeKs 1 ((lower - 1).fdiv 2).toNat).map (fun k => (k * k).fmod lower)).any fun x => x == upper) = true then 1 else -1) (if (((rangeKs 1 ((lower - 1).fdiv 2).toNat).map (fun k => (k * k).fmod lower)).any fun x => x == 2) = true then 1 else -1))
abbrev pg12 (lower upper : Int) : Prop := ([1, 2, 4, 8, 16] : List Int).map (indL (wsF (ldC (wdF lower ((lower - 1).fdiv 2) 24 [] (lower - upper))) [] 0 0 0)) = ([1, 2, 4, 8, 16] : List Int).map (colF ((lower - 1).fdiv 2) (foO lower 100 1 0) (-(if (((rangeKs 1 ((lower - 1).fdiv 2).toNat).map (fun k => (k * k).fmod lower)).any fun x => x == upper) = true then 1 else -1)) (if (((rangeKs 1 ((lower - 1).fdiv 2).toNat).map (fun k => (k * k).fmod lower)).any fun x => x == 2) = true then 1 else -1))
abbrev pg14 (lower upper : Int) : Prop := (wsF (ldC (wdF lower ((lower - 1).fdiv 2) 24 [] upper)) [] 0 0 0).1.length < 100 ∧ (wsF (ldC (wdF lower ((lower - 1).fdiv 2) 24 [] (lower - upper))) [] 0 0 0).1.length < 100 ∧ (wsF (ldC (wdF lower ((lower - 1).fdiv 2) 24 [] (lower - upper))) [] 0 0 0).2.1 = 0
abbrev pg13 (lower upper : Int) : Prop := [(wsF (ldC (wdF lower ((lower - 1).fdiv 2) 24 [] upper)) [] 0 0 0).2.2.1, (wsF (ldC (wdF lower ((lower - 1).fdiv 2) 24 [] upper)) [] 0 0 0).2.2.2, (wsF (ldC (wdF lower ((lower - 1).fdiv 2) 24 [] (lower - upper))) [] 0 0 0).2.2.1, (wsF (ldC (wdF lower ((lower - 1).fdiv 2) 24 [] (lower - upper))) [] 0 0 0).2.2.2] = [(([1, 2, 4, 8, 16] : List Int).map (colF ((lower - 1).fdiv 2) (foO lower 100 1 0) (if (((rangeKs 1 ((lower - 1).fdiv 2).toNat).map (fun k => (k * k).fmod lower)).any fun x => x == upper) = true then 1 else -1) (if (((rangeKs 1 ((lower - 1).fdiv 2).toNat).map (fun k => (k * k).fmod lower)).any fun x => x == 2) = true then 1 else -1))).getD (Int.toNat 0) 0, (lower - 1).fdiv 2, (([1, 2, 4, 8, 16] : List Int).map (colF ((lower - 1).fdiv 2) (foO lower 100 1 0) (-(if (((rangeKs 1 ((lower - 1).fdiv 2).toNat).map (fun k => (k * k).fmod lower)).any fun x => x == upper) = true then 1 else -1)) (if (((rangeKs 1 ((lower - 1).fdiv 2).toNat).map (fun k => (k * k).fmod lower)).any fun x => x == 2) = true then 1 else -1))).getD (Int.toNat 0) 0, (lower - 1).fdiv 2]
abbrev pg15 (lower upper : Int) : Prop := ∀ f ∈ (dvN lower upper ((lower - 1).fdiv 2).toNat).2.1, 0 ≤ f ∧ f < 16
abbrev pg16 (lower upper : Int) : Prop := nlL (wsF (ldC (wdF lower ((lower - 1).fdiv 2) 24 [] upper)) [] 0 0 0) (wsF (ldC (wdF lower ((lower - 1).fdiv 2) 24 [] (lower - upper))) [] 0 0 0) = wiL (dvN lower upper ((lower - 1).fdiv 2).toNat).2.1 ((dvN lower upper ((lower - 1).fdiv 2).toNat).2.1.map (fun f => 15 - f))
abbrev pg17 (lower upper : Int) : Prop := (wiL (dvN lower upper ((lower - 1).fdiv 2).toNat).2.1 ((dvN lower upper ((lower - 1).fdiv 2).toNat).2.1.map (fun f => 15 - f))).length < 300 ∧ ∀ t ∈ wiL (dvN lower upper ((lower - 1).fdiv 2).toNat).2.1 ((dvN lower upper ((lower - 1).fdiv 2).toNat).2.1.map (fun f => 15 - f)), 0 ≤ t.1 ∧ t.1 < 1000
abbrev pg10 (lower upper : Int) : Prop := (wsF (ldC (wdF lower ((lower - 1).fdiv 2) 24 [] upper)) [] 0 0 0).1 = popF 17 (ctL (plL (dvN lower upper ((lower - 1).fdiv 2).toNat).1 lower)) ∧ (wsF (ldC (wdF lower ((lower - 1).fdiv 2) 24 [] upper)) [] 0 0 0).2.1 = 0
abbrev OkP (lower upper : Int) : Prop := pg1 lower upper ∧ pg2 lower upper ∧ pg3 lower upper ∧ pg4 lower upper ∧ pg5 lower upper ∧ pg6 lower upper ∧ pg7 lower upper ∧ pg8 lower upper ∧ pg9 lower upper ∧ pg11 lower upper ∧ pg12 lower upper ∧ pg14 lower upper ∧ pg13 lower upper ∧ pg15 lower upper ∧ pg16 lower upper ∧ pg17 lower upper ∧ pg10 lower upper
theorem okShift {P : Int → Prop} {c : Nat} {k d u : Int} (h : ∀ n : Nat, n < c → P ((n : Int) + k)) (hd : k + c = d) (h1 : k ≤ u) (h2 : u < d) : P u := by
  have h3 := h (u - k).toNat (by omega)
  have e : (((u - k).toNat : Int)) + k = u := by omega
  rwa [e] at h3
section
set_option synthInstance.maxHeartbeats 400000
set_option synthInstance.maxSize 4000
theorem ok7_0 : ∀ n : Nat, n < 6 → OkP 7 ((n : Int) + 1) := by decide +kernel
theorem ok7 {u : Int} (h0 : 1 ≤ u) (e0 : u < 7) : OkP 7 u :=
  okShift (P := OkP 7) ok7_0 rfl h0 e0
theorem ok11_0 : ∀ n : Nat, n < 6 → OkP 11 ((n : Int) + 1) := by decide +kernel
theorem ok11_6 : ∀ n : Nat, n < 4 → OkP 11 ((n : Int) + 7) := by decide +kernel
theorem ok11 {u : Int} (h0 : 1 ≤ u) (e0 : u < 11) : OkP 11 u :=
  if h1 : u < 7 then okShift (P := OkP 11) ok11_0 rfl h0 h1 else
  okShift (P := OkP 11) ok11_6 rfl (Int.not_lt.mp h1) e0
theorem ok19_0 : ∀ n : Nat, n < 6 → OkP 19 ((n : Int) + 1) := by decide +kernel
theorem ok19_6 : ∀ n : Nat, n < 6 → OkP 19 ((n : Int) + 7) := by decide +kernel
theorem ok19_12 : ∀ n : Nat, n < 6 → OkP 19 ((n : Int) + 13) := by decide +kernel
theorem ok19 {u : Int} (h0 : 1 ≤ u) (e0 : u < 19) : OkP 19 u :=
  if h1 : u < 7 then okShift (P := OkP 19) ok19_0 rfl h0 h1 else
  if h2 : u < 13 then okShift (P := OkP 19) ok19_6 rfl (Int.not_lt.mp h1) h2 else
  okShift (P := OkP 19) ok19_12 rfl (Int.not_lt.mp h2) e0
theorem ok23_0 : ∀ n : Nat, n < 6 → OkP 23 ((n : Int) + 1) := by decide +kernel
theorem ok23_6 : ∀ n : Nat, n < 6 → OkP 23 ((n : Int) + 7) := by decide +kernel
theorem ok23_12 : ∀ n : Nat, n < 6 → OkP 23 ((n : Int) + 13) := by decide +kernel
theorem ok23_18 : ∀ n : Nat, n < 4 → OkP 23 ((n : Int) + 19) := by decide +kernel
theorem ok23 {u : Int} (h0 : 1 ≤ u) (e0 : u < 23) : OkP 23 u :=
  if h1 : u < 7 then okShift (P := OkP 23) ok23_0 rfl h0 h1 else
  if h2 : u < 13 then okShift (P := OkP 23) ok23_6 rfl (Int.not_lt.mp h1) h2 else
  if h3 : u < 19 then okShift (P := OkP 23) ok23_12 rfl (Int.not_lt.mp h2) h3 else
  okShift (P := OkP 23) ok23_18 rfl (Int.not_lt.mp h3) e0
theorem ok47_0 : ∀ n : Nat, n < 6 → OkP 47 ((n : Int) + 1) := by decide +kernel
theorem ok47_6 : ∀ n : Nat, n < 6 → OkP 47 ((n : Int) + 7) := by decide +kernel
theorem ok47_12 : ∀ n : Nat, n < 6 → OkP 47 ((n : Int) + 13) := by decide +kernel
theorem ok47_18 : ∀ n : Nat, n < 6 → OkP 47 ((n : Int) + 19) := by decide +kernel
theorem ok47_24 : ∀ n : Nat, n < 6 → OkP 47 ((n : Int) + 25) := by decide +kernel
theorem ok47_30 : ∀ n : Nat, n < 6 → OkP 47 ((n : Int) + 31) := by decide +kernel
theorem ok47_36 : ∀ n : Nat, n < 6 → OkP 47 ((n : Int) + 37) := by decide +kernel
theorem ok47_42 : ∀ n : Nat, n < 4 → OkP 47 ((n : Int) + 43) := by decide +kernel
theorem ok47 {u : Int} (h0 : 1 ≤ u) (e0 : u < 47) : OkP 47 u :=
  if h1 : u < 7 then okShift (P := OkP 47) ok47_0 rfl h0 h1 else
  if h2 : u < 13 then okShift (P := OkP 47) ok47_6 rfl (Int.not_lt.mp h1) h2 else
  if h3 : u < 19 then okShift (P := OkP 47) ok47_12 rfl (Int.not_lt.mp h2) h3 else
  if h4 : u < 25 then okShift (P := OkP 47) ok47_18 rfl (Int.not_lt.mp h3) h4 else
  if h5 : u < 31 then okShift (P := OkP 47) ok47_24 rfl (Int.not_lt.mp h4) h5 else
  if h6 : u < 37 then okShift (P := OkP 47) ok47_30 rfl (Int.not_lt.mp h5) h6 else
  if h7 : u < 43 then okShift (P := OkP 47) ok47_36 rfl (Int.not_lt.mp h6) h7 else
  okShift (P := OkP 47) ok47_42 rfl (Int.not_lt.mp h7) e0
end
theorem walkFresh23 : True := by
  w_top off
  trivial
theorem c_lhOk {w : World} {loose : List Str} {mean : ExcName → Option Value} {mg mb : Str → Option Value} {news : Led} {lower upper : Int} {t1 t2 : Tok}
   (h1 : 7 ≤ lower) (h2 : lower ≤ 47) (h3 : 1 ≤ upper) (h4 : upper < lower) (ok : OkP lower upper) :
   SpecG w loose mean mg mb 185 30 [.int lower t1, .int upper t2] news (fun v => v = .bool true) := by
  obtain ⟨g1, g2, g3, g4, g5, g6, g7, g8, g9, g11, g12, g14, g13, g15, g16, g17, g10⟩ := ok
  exact c_lh h1 h2 h3 h4 g1 g2 g3 g4 g5 g6 g7 g8 g9 g11 g12 g14 g13 g15 g16 g17 g10
theorem postOk (ns : List Int) : PySem.Challenge.rw_sn0047_01.row.claim.post [ofPy (PyData.list (List.map PyData.int ns))] (WData.bool true) [ofPy (PyData.list (List.map PyData.int ns))] = true := by wrow_post
theorem up_bd {S p : Int} (hp : 1 < p) : 1 ≤ 1 + (1 + S).fmod (p - 1) ∧ 1 + (1 + S).fmod (p - 1) < p := by
  have h1 := Int.fmod_nonneg_of_pos (1 + S) (b := p - 1) (by omega)
  have h2 := Int.fmod_lt_of_pos (1 + S) (b := p - 1) (by omega)
  omega
theorem low_mem : ∀ k : Nat, k < 5 → ([7, 11, 19, 23, 47] : List Int).getD k 0 ∈ ([7, 11, 19, 23, 47] : List Int) := by decide
theorem okAll {lo u : Int} (h : lo ∈ ([7, 11, 19, 23, 47] : List Int)) (h1 : 1 ≤ u) (h2 : u < lo) : OkP lo u := by
  simp only [List.mem_cons, List.not_mem_nil, or_false] at h
  rcases h with rfl | rfl | rfl | rfl | rfl
  · exact ok7 h1 h2
  · exact ok11 h1 h2
  · exact ok19 h1 h2
  · exact ok23 h1 h2
  · exact ok47 h1 h2
theorem low_bd {lo : Int} (h : lo ∈ ([7, 11, 19, 23, 47] : List Int)) : 7 ≤ lo ∧ lo ≤ 47 := by
  simp only [List.mem_cons, List.not_mem_nil, or_false] at h
  omega
section
local macro_rules | `(tactic| walk_at "subscriptTail") => `(tactic| ((with_reducible show wpAny _ _ (subscriptTail _ _ (Value.ref _) (Value.int _ _)) _ _ _); refine Hold.on ?_))
set_option maxHeartbeats 8000000 in
theorem lawT : PySem.Challenge.rw_sn0047_01.Holds := by
  refine of_branches Mine.hd topF topT ?_
  lgec_go0
  rename LGe.Mark => lgeM
  clear lgeM
  all_goals try k_fold
  k_steps
  refine Hold.off ?_
  (rename News _ _ _ _ => NX)
  (rename IntsAre _ (List.take _ _) => hws)
  refine LCg.CompSrc.ledger (by rfl) (by k_asm) NX (.head _) (by rw [PySem.sizeLine_eq, List.size_toArray, hws.length, List.length_take]; omega) ?_
  intro g
  refine' kcf_list (fun x => x.fmod 1000) hws (fun f tf I2 oI2 C oC D2 m2 ys h tk E' hmem hC hx F4 N4 off ne mk => ?_) ?_
  · have off0 := off
    k_steps
    refine Hold.off ?_
    exact LCg.CompEnd.intro (by k_asm) N4 _ (fun p hp => hp) off0 (.inr ⟨_, (.head _), rfl, _, rfl⟩) ⟨rfl, _, rfl⟩
  unfold KPfDone
  intro yd hyd Dd hd tkd Fd Nd offd
  k_sweep
  dsimp only
  k_steps
  (rename News _ _ _ _ => NS)
  dsimp only at NS
  refine m_sum (vs := (slicePick yd.toArray (some 0) none (some 2)).toList) (n := 0) (hh := rfl) (by k_asm) NS (.head _) (hyd.pick _ _ _) fun hS1 tS1 tkS1 FS1 NS1 => ?_
  generalize (pickNums _ _ _ _).sum = S1
  clear NS
  k_sweep
  dsimp only
  k_steps
  refine Hold.off ?_
  have hk : 0 ≤ (3 + S1).fmod 5 ∧ (3 + S1).fmod 5 < 5 := ⟨Int.fmod_nonneg_of_pos _ (by decide), Int.fmod_lt_of_pos _ (by decide)⟩
  have hlo := low_mem ((3 + S1).fmod 5).toNat (by omega)
  generalize hki : (3 + S1).fmod 5 = ki at *
  refine item_list_intsT (vs := [_, _, _, _, _]) (ns := [7, 11, 19, 23, 47]) ⟨_, (NS1 (_, listOf #[_, _, _, _, _] 0) (by k_mem)).1, rfl, _, rfl⟩ (.cons _ _ (.cons _ _ (.cons _ _ (.cons _ _ (.cons _ _ .nil))))) hk.1 hk.2 (by omega) (fun tlo => ?_)
  generalize ([7, 11, 19, 23, 47] : List Int).getD ki.toNat 0 = lo at *
  have hlb := low_bd hlo
  k_steps
  (rename News _ _ _ _ => NS2)
  dsimp only at NS2
  refine m_sum (vs := (slicePick yd.toArray (some 1) none (some 2)).toList) (n := 0) (hh := rfl) (by k_asm) NS2 (.head _) (hyd.pick _ _ _) fun hS2 tS2 tkS2 FS2 NS3 => ?_
  generalize (pickNums _ _ _ _).sum = S2
  clear NS2
  k_sweep
  dsimp only
  k_steps
  (rename News _ _ _ _ => NZ)
  refine Hold.off ?_
  have hub := up_bd (S := S2) (p := lo) (by omega)
  refine SpecG.use (N := NZ) (c_lhOk hlb.1 hlb.2 hub.1 hub.2 (okAll hlo hub.1 hub.2)) ?_ (.of_eq (by assumption))
  intro v s' hold hos hb hv
  subst hv
  exact ⟨.inl ⟨_, .bool true, [], rfl, fun _ => rfl, ReadsW.bool true, postOk _, fun _ => ⟨List.nodup_nil, fun _ hm => nomatch hm⟩⟩, hold _ (fun _ _ e => e) (by k_asm) (by k_asm), hos, hb⟩
end
end
end Mine
set_option maxRecDepth 100000 in
set_option maxHeartbeats 8000000 in
theorem PySem.Challenge.cw_sn0047_01_holds : PySem.Challenge.rw_sn0047_01.Holds := by
  exact Mine.lawT
