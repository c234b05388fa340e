import PyProof.Rows.All
import Wide.All
import OpenK.AllK
import Wide.FinOn
import PySem.Challenge.RW_pg0170_01
open PySem PySem.W PyProof.Rows PySem.Calls PySem.Spec
set_option Elab.async false
set_option maxRecDepth 100000
set_option compiler.extract_closed false
namespace Mine
set_option maxHeartbeats 8000000 in
open_top hd for PySem.Challenge.rw_pg0170_01
end Mine
section

namespace Mine
def Hold (P : Prop) : Prop := P
theorem Hold.out {P : Prop} (h : Hold P) : P := h
theorem Hold.mk {P : Prop} (h : P) : Hold P := h
theorem room1 {a b c n : Nat} (h : a + b < n) (hc : 1 + c ≤ b) : a + 1 + c < n := by lia
theorem room3 {a b c n : Nat} (h : a + b < n) (hc : 3 + c ≤ b) : a + 3 + c < n := by lia
theorem le_20 {n : Nat} (h : n ≤ 8) : n ≤ 20 := by lia
theorem lt_ne_add {a b : Nat} (k : Nat) (h : a < b) : a ≠ b + k := by lia
theorem m_isList {h₀ h : Heap} {L l : Addr} {news : List (Addr × Obj)} {its : Array Value} {n : Nat} (N : News h₀ L h news) (hm : (l, W.listOf its n) ∈ news) : h.IsList l its := ⟨_, (N _ hm).1, rfl, n, rfl⟩
theorem m_tail {h₀ h : Heap} {L : Addr} {p : Addr × Obj} {l : List (Addr × Obj)} (N : News h₀ L h (p :: l)) : News h₀ L h l := fun q hq => N q (List.mem_cons_of_mem _ hq)
theorem m_allne {d x : Addr} : ∀ {l : List (Addr × Obj)}, AllLt d l → d ≤ x → ∀ p ∈ l, p.1 ≠ x
  | [], _, _, _, h => nomatch h
  | _ :: _, h, hl, p, hp => by
    rcases List.mem_cons.mp hp with rfl | hp
    · exact Nat.ne_of_lt (Nat.lt_of_lt_of_le h.1 hl)
    · exact m_allne h.2 hl p hp
section
variable {prog : Program} {w : World} {A : Around} {E : Value → Shared → Prop} {s : Shared} {h₀ : Heap} {L l : Addr} {news : List (Addr × Obj)} {vs : List Value} {n : Nat} {Q : Value → Shared → Prop}
theorem m_len (N : News h₀ L s.heap news) (hm : (l, W.listOf vs.toArray n) ∈ news) (hf : vs.length < 100000)
  (h : Q (.int vs.length (s.toks + 1)) { s with toks := s.toks + 1 + 1 }) : wpAny (model prog w) A (call (.builtin "len") [.ref l]) Q E s :=
  Calls.call_len_list (m_isList N hm) (by rw [List.size_toArray]; lia) (by rw [List.size_toArray]; exact h)
theorem m_item {value slice : Expr} {k : Int} {u : Tok} {v : Value} (N : News h₀ L s.heap news) (hm : (l, W.listOf vs.toArray n) ∈ news) (h0 : 0 ≤ k) (hf : k < 100000) (hx : vs[k.toNat]? = some v) (h : Q v s)
    (hs : subscripted slice false (.ref l) (.int k u) = operate [.ref l, .int k u] (getItem (.ref l) (.int k u)) := by with_unfolding_all rfl) :
    wpAny (model prog w) A (subscriptTail value slice (.ref l) (.int k u)) Q E s :=
  tail_any (m_isList N hm).typeIs slot_list_getitem.lookup (wpAny_getItem_list (m_isList N hm) h0 (by lia) (by simpa using hx) h) hs
end
end Mine
end
local macro_rules | `(tactic| k_all) => `(tactic| (refine' Mine.m_allne ?h ?l; (case h => assumption); (case l => (show (_ : Nat) ≤ _; lia))))
local macro_rules | `(tactic| k_all) => `(tactic| assumption)
local macro_rules | `(tactic| k_room) => `(tactic| ((try simp only [depth_under_make, depth_under_kw, depth_in1, depth_deeper, depth_caller]); (try dsimp only [ktrTop]); lia))
section

namespace Mine
def bisRgo (ns : List Int) (x : Int) : Nat → Int → Int → Int
  | 0, lo, _ => lo
  | f+1, lo, hi => if lo < hi then
      if x < ns.getD (Int.fdiv (lo + hi) 2).toNat 0 then bisRgo ns x f lo (Int.fdiv (lo + hi) 2) else bisRgo ns x f (Int.fdiv (lo + hi) 2 + 1) hi
    else lo
def bisR (ns : List Int) (x : Int) : Int := bisRgo ns x ns.length 0 ns.length
theorem mid_facts (lo hi : Int) : 2 * Int.fdiv (lo + hi) 2 ≤ lo + hi ∧ lo + hi < 2 * Int.fdiv (lo + hi) 2 + 2 := by
  rw [Int.fdiv_eq_ediv_of_nonneg _ (by lia)]; lia
set_option maxHeartbeats 4000000 in
theorem bisR_tells {prog : Program} {w : World} {p : Program} {loose : List Str} {mean : ExcName → Option Value} {mg mb : Str → Option Value}
  (dp un : Nat) (gd : Option (List Code)) (cn : Str) (cs : Scope) (a : Addr) (ccd : Value) (cl : List (Str × Addr)) (outer : List Env) (A₀ : Around) (base h₀ : Heap) (L : Addr) (m : Str → Option Value) (news : List (Addr × Obj)) (s : Shared)
  (Q E : Value → Shared → Prop)
  (B : Below A₀ base outer h₀) (F : Fr h₀ L s.heap m) (X : (Mine.hd.heap_39 w.params).In h₀) (N : News h₀ L s.heap news) (T : Top p loose mean mg mb h₀) (hk : cs.kind = .function)
  (l : Addr) (n : Nat) (vs : List Value) (ns : List Int) (x : Int) (t : Tok)
  (hl : (l, listOf vs.toArray n) ∈ news) (hi : IntsAre vs ns) (hlen : vs.length < 1000)
  (hd : dp + 20 < recursionLimit) (hu : un + 100 < cLine)
  (hret : ∀ t h' tk', Fr h₀ L h' m → News h₀ L h' news → Q (.int (bisR ns x) t) { s with heap := h', toks := tk' }) :
  wpAny (model prog w) (ktrTop dp un gd cn cs L a ccd cl outer) (call (.ref 72) [.ref l, .int x t]) Q E s := by
  w_top off
  refine wpAny_call ?_
  k_dflt ((refine' code_def (binds := [(Str.ofString "a", .ref l), (Str.ofString "x", .int x t), (Str.ofString "lo", .int 0 256), (Str.ofString "hi", .none), (Str.ofString "key", .none)]) ?k1 ?k2 ?k3 ?k4 ?k5 ?kA ?kF ?kK ?k6 ?k7 ?k8 ?k9 ?kB ?_ ?c2 ?c3 ?c4 ?c5; (case kA => exact rfl); (case kF => exact rfl); (case kK => first | exact rfl | assumption); (case k1 => k_asm); (case k2 => k_asm); (case k3 => k_asm); (case k4 => k_asm); (case k5 => k_asm); (case k6 => k_is); (case k7 => k_is); (case k8 => k_room); (case k9 => first | exact BindsTo.of_eq rfl | (refine' kp_binds ?kx ?ke; (case kx => k_in); (case ke => exact fun _ => rfl))); (case c5 => decide); (case kB => exact locs rfl); (case c2 => exact rfl); (case c3 => exact rfl); (case c4 => exact rfl); k_whole; intro g' L' h' FG' F' N' B' X' T'; (try dsimp only [List.reverse_cons, List.reverse_nil, List.nil_append, List.cons_append, List.length_cons, List.length_nil] at F'); (try dsimp only); (try k_fold)))
  clear F N
  (repeat' (first | (k_unfold; (try dsimp only)) | ((with_reducible show wpAny _ _ (exec (Stmt.While _ _ _ _) _) _ _ _); refine Mine.Hold.out ?_) | ((with_reducible show wpAny _ _ (storeName _ _ _) _ _ _); refine' storeX_L ?zzF ?zzN ?_ ?zza ?zzb; (case zzF => k_asm); (case zzN => k_asm); (case zza => rfl); (case zzb => rfl); k_whole; intro _ zF zN; (try dsimp only at zF); (try k_sweep); (revert zF zN; intro _ _)) | ((with_reducible show wpAny _ _ (call (Value.builtin "len") [Value.ref _]) _ _ _); refine' Mine.m_len ?zzk1 ?zzk2 ?zzk3 ?_; (case zzk1 => k_asm); (case zzk2 => k_mem); (case zzk3 => first | lia | (simp only [List.length_cons, List.length_nil, List.length_map, PySem.strValues]; omega))) | (k_end; kc_close) | (walk1; (try dsimp only)) | (dsimp only; walk1) | (leave1; (try dsimp only)) | fail "no step"))
  rename Fr _ _ _ _ => FF
  rename News _ _ _ _ => NN
  refine Hold.mk ?_
  refine' ksw_while (σ := Int × Int × Tok × Tok) (fun _ => news) (fun c => [(Str.ofString "lo", Value.int c.1 c.2.2.1), (Str.ofString "hi", Value.int c.2.1 c.2.2.2)]) (fun _ => True) [Str.ofString "mid"] (fun c => 0 ≤ c.1 ∧ c.2.1 ≤ vs.length ∧ ∃ f : Nat, c.2.1 - c.1 ≤ f ∧ bisRgo ns x f c.1 c.2.1 = bisR ns x) (fun c => (c.2.1 - c.1).toNat) (0, vs.length, ?t1, ?t2) FF NN trivial ?hk ?hp ?turn
  case hk => kst_all
  case hp => 
    refine ⟨by dsimp; lia, by dsimp; lia, vs.length, by dsimp; lia, ?_⟩
    rw [IntsAre.length hi]; rfl
  case turn =>
    intro c u h tk _ hP FF NN
    obtain ⟨lo, hi', t1, t2⟩ := c
    obtain ⟨h1, h2, f, h3, h4⟩ := hP
    dsimp only at h1 h2 h3 h4 FF ⊢
    have hmid := mid_facts lo hi'
    (repeat' (first | (k_unfold; (try dsimp only)) | ((with_reducible show wpAny _ _ (exec (Stmt.While _ _ _ _) _) _ _ _); refine Mine.Hold.out ?_) | ((with_reducible show wpAny _ _ (storeName _ _ _) _ _ _); refine' storeX_L ?zzF ?zzN ?_ ?zza ?zzb; (case zzF => k_asm); (case zzN => k_asm); (case zza => rfl); (case zzb => rfl); k_whole; intro _ zF zN; (try dsimp only at zF); (try k_sweep); (revert zF zN; intro _ _)) | ((with_reducible show wpAny _ _ (call (Value.builtin "len") [Value.ref _]) _ _ _); refine' Mine.m_len ?zzk1 ?zzk2 ?zzk3 ?_; (case zzk1 => k_asm); (case zzk2 => k_mem); (case zzk3 => first | lia | (simp only [List.length_cons, List.length_nil, List.length_map, PySem.strValues]; omega))) | (k_end; kc_close) | (walk1; (try dsimp only)) | (dsimp only; walk1) | (leave1; (try dsimp only)) | fail "no step"))
    all_goals (try (dsimp only; (repeat' (first | (k_unfold; (try dsimp only)) | ((with_reducible show wpAny _ _ (exec (Stmt.While _ _ _ _) _) _ _ _); refine Mine.Hold.out ?_) | ((with_reducible show wpAny _ _ (storeName _ _ _) _ _ _); refine' storeX_L ?zzF ?zzN ?_ ?zza ?zzb; (case zzF => k_asm); (case zzN => k_asm); (case zza => rfl); (case zzb => rfl); k_whole; intro _ zF zN; (try dsimp only at zF); (try k_sweep); (revert zF zN; intro _ _)) | ((with_reducible show wpAny _ _ (call (Value.builtin "len") [Value.ref _]) _ _ _); refine' Mine.m_len ?zzk1 ?zzk2 ?zzk3 ?_; (case zzk1 => k_asm); (case zzk2 => k_mem); (case zzk3 => first | lia | (simp only [List.length_cons, List.length_nil, List.length_map, PySem.strValues]; omega))) | (k_end; kc_close) | (walk1; (try dsimp only)) | (dsimp only; walk1) | (leave1; (try dsimp only)) | fail "no step"))))
    all_goals first
      | (have e : bisR ns x = lo := by
          rw [← h4]
          cases f with
          | zero => rfl
          | succ f => rw [bisRgo, if_neg (by assumption)]
         rw [e] at hret
         exact hret _ _ _ (by assumption) (by assumption))
      | (rename Fr _ _ _ _ => FE
         rename News _ _ _ _ => NE
         refine ksw_end (c' := (lo, Int.fdiv (lo + hi') 2, _, _)) FE NE (fun _ h => h) trivial (by kst_all) (by (intro z h2 h3; (simp only [List.forall_mem_cons, List.not_mem_nil, false_implies, implies_true, and_true, ne_eq] at h2); (simp only [List.contains_cons, List.contains_nil, Bool.or_false, Bool.or_eq_false_iff, beq_eq_false_iff_ne, ne_eq] at h3); (simp [kstB, h2, h3]; done))) ?_ ?_
         · cases f with
           | zero => lia
           | succ f => 
             rw [bisRgo, if_pos (by assumption), if_pos (by assumption)] at h4
             exact ⟨h1, by dsimp only; lia, f, by dsimp only; lia, h4⟩
         · dsimp only; lia)
      | (rename Fr _ _ _ _ => FE
         rename News _ _ _ _ => NE
         refine ksw_end (c' := (Int.fdiv (lo + hi') 2 + 1, hi', _, _)) FE NE (fun _ h => h) trivial (by kst_all) (by (intro z h2 h3; (simp only [List.forall_mem_cons, List.not_mem_nil, false_implies, implies_true, and_true, ne_eq] at h2); (simp only [List.contains_cons, List.contains_nil, Bool.or_false, Bool.or_eq_false_iff, beq_eq_false_iff_ne, ne_eq] at h3); (simp [kstB, h2, h3]; done))) ?_ ?_
         · cases f with
           | zero => lia
           | succ f => 
             rw [bisRgo, if_pos (by assumption), if_neg (by assumption)] at h4
             exact ⟨by dsimp only; lia, by dsimp only; lia, f, by dsimp only; lia, h4⟩
         · dsimp only; lia)
end Mine
end
section

namespace Mine
def bisLgo (ns : List Int) (x : Int) : Nat → Int → Int → Int
  | 0, lo, _ => lo
  | f+1, lo, hi => if lo < hi then
      if ns.getD (Int.fdiv (lo + hi) 2).toNat 0 < x then bisLgo ns x f (Int.fdiv (lo + hi) 2 + 1) hi else bisLgo ns x f lo (Int.fdiv (lo + hi) 2)
    else lo
def bisL (ns : List Int) (x : Int) : Int := bisLgo ns x ns.length 0 ns.length
set_option maxHeartbeats 4000000 in
theorem bisL_tells {prog : Program} {w : World} {p : Program} {loose : List Str} {mean : ExcName → Option Value} {mg mb : Str → Option Value}
  (dp un : Nat) (gd : Option (List Code)) (cn : Str) (cs : Scope) (a : Addr) (ccd : Value) (cl : List (Str × Addr)) (outer : List Env) (A₀ : Around) (base h₀ : Heap) (L : Addr) (m : Str → Option Value) (news : List (Addr × Obj)) (s : Shared)
  (Q E : Value → Shared → Prop)
  (B : Below A₀ base outer h₀) (F : Fr h₀ L s.heap m) (X : (Mine.hd.heap_39 w.params).In h₀) (N : News h₀ L s.heap news) (T : Top p loose mean mg mb h₀) (hk : cs.kind = .function)
  (l : Addr) (n : Nat) (vs : List Value) (ns : List Int) (x : Int) (t : Tok)
  (hl : (l, listOf vs.toArray n) ∈ news) (hi : IntsAre vs ns) (hlen : vs.length < 1000)
  (hd : dp + 20 < recursionLimit) (hu : un + 100 < cLine)
  (hret : ∀ t h' tk', Fr h₀ L h' m → News h₀ L h' news → Q (.int (bisL ns x) t) { s with heap := h', toks := tk' }) :
  wpAny (model prog w) (ktrTop dp un gd cn cs L a ccd cl outer) (call (.ref 81) [.ref l, .int x t]) Q E s := by
  w_top off
  refine wpAny_call ?_
  k_dflt ((refine' code_def (binds := [(Str.ofString "a", .ref l), (Str.ofString "x", .int x t), (Str.ofString "lo", .int 0 270), (Str.ofString "hi", .none), (Str.ofString "key", .none)]) ?k1 ?k2 ?k3 ?k4 ?k5 ?kA ?kF ?kK ?k6 ?k7 ?k8 ?k9 ?kB ?_ ?c2 ?c3 ?c4 ?c5; (case kA => exact rfl); (case kF => exact rfl); (case kK => first | exact rfl | assumption); (case k1 => k_asm); (case k2 => k_asm); (case k3 => k_asm); (case k4 => k_asm); (case k5 => k_asm); (case k6 => k_is); (case k7 => k_is); (case k8 => k_room); (case k9 => first | exact BindsTo.of_eq rfl | (refine' kp_binds ?kx ?ke; (case kx => k_in); (case ke => exact fun _ => rfl))); (case c5 => decide); (case kB => exact locs rfl); (case c2 => exact rfl); (case c3 => exact rfl); (case c4 => exact rfl); k_whole; intro g' L' h' FG' F' N' B' X' T'; (try dsimp only [List.reverse_cons, List.reverse_nil, List.nil_append, List.cons_append, List.length_cons, List.length_nil] at F'); (try dsimp only); (try k_fold)))
  clear F N
  (repeat' (first | (k_unfold; (try dsimp only)) | ((with_reducible show wpAny _ _ (exec (Stmt.While _ _ _ _) _) _ _ _); refine Mine.Hold.out ?_) | ((with_reducible show wpAny _ _ (storeName _ _ _) _ _ _); refine' storeX_L ?zzF ?zzN ?_ ?zza ?zzb; (case zzF => k_asm); (case zzN => k_asm); (case zza => rfl); (case zzb => rfl); k_whole; intro _ zF zN; (try dsimp only at zF); (try k_sweep); (revert zF zN; intro _ _)) | ((with_reducible show wpAny _ _ (call (Value.builtin "len") [Value.ref _]) _ _ _); refine' Mine.m_len ?zzk1 ?zzk2 ?zzk3 ?_; (case zzk1 => k_asm); (case zzk2 => k_mem); (case zzk3 => first | lia | (simp only [List.length_cons, List.length_nil, List.length_map, PySem.strValues]; omega))) | (k_end; kc_close) | (walk1; (try dsimp only)) | (dsimp only; walk1) | (leave1; (try dsimp only)) | fail "no step"))
  rename Fr _ _ _ _ => FF
  rename News _ _ _ _ => NN
  refine Hold.mk ?_
  refine' ksw_while (σ := Int × Int × Tok × Tok) (fun _ => news) (fun c => [(Str.ofString "lo", Value.int c.1 c.2.2.1), (Str.ofString "hi", Value.int c.2.1 c.2.2.2)]) (fun _ => True) [Str.ofString "mid"] (fun c => 0 ≤ c.1 ∧ c.2.1 ≤ vs.length ∧ ∃ f : Nat, c.2.1 - c.1 ≤ f ∧ bisLgo ns x f c.1 c.2.1 = bisL ns x) (fun c => (c.2.1 - c.1).toNat) (0, vs.length, ?t1, ?t2) FF NN trivial ?hk ?hp ?turn
  case hk => kst_all
  case hp => 
    refine ⟨by dsimp; lia, by dsimp; lia, vs.length, by dsimp; lia, ?_⟩
    rw [IntsAre.length hi]; rfl
  case turn =>
    intro c u h tk _ hP FF NN
    obtain ⟨lo, hi', t1, t2⟩ := c
    obtain ⟨h1, h2, f, h3, h4⟩ := hP
    dsimp only at h1 h2 h3 h4 FF ⊢
    have hmid := mid_facts lo hi'
    (repeat' (first | (k_unfold; (try dsimp only)) | ((with_reducible show wpAny _ _ (exec (Stmt.While _ _ _ _) _) _ _ _); refine Mine.Hold.out ?_) | ((with_reducible show wpAny _ _ (storeName _ _ _) _ _ _); refine' storeX_L ?zzF ?zzN ?_ ?zza ?zzb; (case zzF => k_asm); (case zzN => k_asm); (case zza => rfl); (case zzb => rfl); k_whole; intro _ zF zN; (try dsimp only at zF); (try k_sweep); (revert zF zN; intro _ _)) | ((with_reducible show wpAny _ _ (call (Value.builtin "len") [Value.ref _]) _ _ _); refine' Mine.m_len ?zzk1 ?zzk2 ?zzk3 ?_; (case zzk1 => k_asm); (case zzk2 => k_mem); (case zzk3 => first | lia | (simp only [List.length_cons, List.length_nil, List.length_map, PySem.strValues]; omega))) | (k_end; kc_close) | (walk1; (try dsimp only)) | (dsimp only; walk1) | (leave1; (try dsimp only)) | fail "no step"))
    all_goals (try (dsimp only; (repeat' (first | (k_unfold; (try dsimp only)) | ((with_reducible show wpAny _ _ (exec (Stmt.While _ _ _ _) _) _ _ _); refine Mine.Hold.out ?_) | ((with_reducible show wpAny _ _ (storeName _ _ _) _ _ _); refine' storeX_L ?zzF ?zzN ?_ ?zza ?zzb; (case zzF => k_asm); (case zzN => k_asm); (case zza => rfl); (case zzb => rfl); k_whole; intro _ zF zN; (try dsimp only at zF); (try k_sweep); (revert zF zN; intro _ _)) | ((with_reducible show wpAny _ _ (call (Value.builtin "len") [Value.ref _]) _ _ _); refine' Mine.m_len ?zzk1 ?zzk2 ?zzk3 ?_; (case zzk1 => k_asm); (case zzk2 => k_mem); (case zzk3 => first | lia | (simp only [List.length_cons, List.length_nil, List.length_map, PySem.strValues]; omega))) | (k_end; kc_close) | (walk1; (try dsimp only)) | (dsimp only; walk1) | (leave1; (try dsimp only)) | fail "no step"))))
    all_goals first
      | (have e : bisL ns x = lo := by
          rw [← h4]
          cases f with
          | zero => rfl
          | succ f => rw [bisLgo, if_neg (by assumption)]
         rw [e] at hret
         exact hret _ _ _ (by assumption) (by assumption))
      | (rename Fr _ _ _ _ => FE
         rename News _ _ _ _ => NE
         refine ksw_end (c' := (lo, Int.fdiv (lo + hi') 2, _, _)) FE NE (fun _ h => h) trivial (by kst_all) (by (intro z h2 h3; (simp only [List.forall_mem_cons, List.not_mem_nil, false_implies, implies_true, and_true, ne_eq] at h2); (simp only [List.contains_cons, List.contains_nil, Bool.or_false, Bool.or_eq_false_iff, beq_eq_false_iff_ne, ne_eq] at h3); (simp [kstB, h2, h3]; done))) ?_ ?_
         · cases f with
           | zero => lia
           | succ f => 
             rw [bisLgo, if_pos (by assumption), if_neg (by assumption)] at h4
             exact ⟨h1, by dsimp only; lia, f, by dsimp only; lia, h4⟩
         · dsimp only; lia)
      | (rename Fr _ _ _ _ => FE
         rename News _ _ _ _ => NE
         refine ksw_end (c' := (Int.fdiv (lo + hi') 2 + 1, hi', _, _)) FE NE (fun _ h => h) trivial (by kst_all) (by (intro z h2 h3; (simp only [List.forall_mem_cons, List.not_mem_nil, false_implies, implies_true, and_true, ne_eq] at h2); (simp only [List.contains_cons, List.contains_nil, Bool.or_false, Bool.or_eq_false_iff, beq_eq_false_iff_ne, ne_eq] at h3); (simp [kstB, h2, h3]; done))) ?_ ?_
         · cases f with
           | zero => lia
           | succ f => 
             rw [bisLgo, if_pos (by assumption), if_pos (by assumption)] at h4
             exact ⟨by dsimp only; lia, by dsimp only; lia, f, by dsimp only; lia, h4⟩
         · dsimp only; lia)
end Mine
end
section

namespace Mine
def leapV (ns : List Int) (x b : Int) : Int := if bisR ns x < ns.length then ns.getD (bisR ns x).toNat 0 else b
theorem bisRgo_ge (ns : List Int) (x : Int) : ∀ (f : Nat) (lo hi : Int), 0 ≤ lo → 0 ≤ bisRgo ns x f lo hi
  | 0, lo, _, h => h
  | f+1, lo, hi, h => by
    have := mid_facts lo hi
    rw [bisRgo]
    split
    · split
      · exact bisRgo_ge ns x f _ _ h
      · exact bisRgo_ge ns x f _ _ (by lia)
    · exact h
theorem bisR_ge (ns : List Int) (x : Int) : 0 ≤ bisR ns x := bisRgo_ge _ _ _ _ _ (Int.le_refl 0)
set_option maxHeartbeats 4000000 in
theorem leap_tells {prog : Program} {w : World} {p : Program} {loose : List Str} {mean : ExcName → Option Value} {mg mb : Str → Option Value}
  (dp un : Nat) (gd : Option (List Code)) (cn : Str) (cs : Scope) (a : Addr) (ccd : Value) (cl : List (Str × Addr)) (outer : List Env) (A₀ : Around) (base h₀ : Heap) (L : Addr) (m : Str → Option Value) (news : List (Addr × Obj)) (s : Shared)
  (Q E : Value → Shared → Prop)
  (B : Below A₀ base outer h₀) (F : Fr h₀ L s.heap m) (X : (Mine.hd.heap_39 w.params).In h₀) (N : News h₀ L s.heap news) (T : Top p loose mean mg mb h₀) (hk : cs.kind = .function)
  (rest : List (Addr × Obj)) (l : Addr) (n : Nat) (vs : List Value) (ns : List Int) (x b : Int) (t u : Tok)
  (hl : news = (l, listOf vs.toArray n) :: rest) (hi : IntsAre vs ns) (hlen : vs.length < 1000)
  (hd : dp + 30 < recursionLimit) (hu : un + 150 < cLine)
  (hret : ∀ t h' tk', Fr h₀ L h' m → News h₀ L h' news → Q (.int (leapV ns x b) t) { s with heap := h', toks := tk' }) :
  wpAny (model prog w) (ktrTop dp un gd cn cs L a ccd cl outer) (call (.ref 114) [.ref l, .int x t, .int b u]) Q E s := by
  w_top off
  obtain ⟨hp, gn, dr, tk0, os⟩ := s
  dsimp only at *
  subst hl
  refine wpAny_call ?_
  k_dflt ((refine' code_def (binds := [(Str.ofString "places", .ref l), (Str.ofString "place", .int x t), (Str.ofString "beyond", .int b u)]) ?k1 ?k2 ?k3 ?k4 ?k5 ?kA ?kF ?kK ?k6 ?k7 ?k8 ?k9 ?kB ?_ ?c2 ?c3 ?c4 ?c5; (case kA => exact rfl); (case kF => exact rfl); (case kK => first | exact rfl | assumption); (case k1 => k_asm); (case k2 => k_asm); (case k3 => k_asm); (case k4 => k_asm); (case k5 => k_asm); (case k6 => k_is); (case k7 => k_is); (case k8 => k_room); (case k9 => first | exact BindsTo.of_eq rfl | (refine' kp_binds ?kx ?ke; (case kx => k_in); (case ke => exact fun _ => rfl))); (case c5 => decide); (case kB => exact locs rfl); (case c2 => exact rfl); (case c3 => exact rfl); (case c4 => exact rfl); k_whole; intro g' L' h' FG' F' N' B' X' T'; (try dsimp only [List.reverse_cons, List.reverse_nil, List.nil_append, List.cons_append, List.length_cons, List.length_nil] at F'); (try dsimp only); (try k_fold)))
  clear F N
  have hge := bisR_ge ns x
  have hl2 := IntsAre.length hi
  (repeat' (first | (k_unfold; (try dsimp only)) | ((with_reducible show wpAny _ _ (storeName _ _ _) _ _ _); refine' storeX_L ?zzF ?zzN ?_ ?zza ?zzb; (case zzF => k_asm); (case zzN => k_asm); (case zza => rfl); (case zzb => rfl); k_whole; intro _ zF zN; (try dsimp only at zF); (try k_sweep); (revert zF zN; intro _ _)) | ((with_reducible show wpAny _ _ (call (Value.builtin "len") [Value.ref _]) _ _ _); refine' Mine.m_len ?zzk1 ?zzk2 ?zzk3 ?_; (case zzk1 => k_asm); (case zzk2 => k_mem); (case zzk3 => first | lia | (simp only [List.length_cons, List.length_nil, List.length_map, PySem.strValues]; omega))) | ((with_reducible show wpAny _ _ (subscriptTail (Expr.Name _ _) (Expr.Name _ _) (Value.ref _) (Value.int _ _)) _ _ _); (refine' Mine.m_item ?zzk1 ?zzk2 ?zzk3 ?zzk4 ?zzk5 ?_ ?zzk6; (case zzk1 => k_asm); (case zzk2 => k_mem); (case zzk3 => first | (with_reducible assumption) | lia); (case zzk4 => first | (with_reducible assumption) | lia); (case zzk5 => assumption); (case zzk6 => with_unfolding_all rfl))) | ((with_reducible show wpAny _ _ (call (Value.ref 72) _) _ _ _); refine' Mine.bisR_tells _ _ _ _ _ _ _ _ _ _ _ _ _ _ _ _ _ _ ?zzB ?zzF ?zzX ?zzN ?zzT ?zzhk _ _ _ _ _ _ ?zzhl ?zzhi ?zzhlen ?zzhd ?zzhu ?_; (case zzB => k_asm); (case zzF => k_asm); (case zzX => k_asm); (case zzN => k_asm); (case zzT => k_asm); (case zzhk => first | rfl | assumption); (case zzhl => k_mem); (case zzhi => assumption); (case zzhlen => lia); (case zzhd => k_room); (case zzhu => k_room); intro _ _ _ _ zN; (try dsimp only at zN); (try k_sweep); (revert zN; intro _)) | (k_end; kc_close) | (walk1; (try dsimp only)) | (dsimp only; walk1) | (leave1; (try dsimp only)) | fail "no step"))
  all_goals (rename Fr _ _ _ _ => FZ; rename News _ _ _ _ => NZ)
  · have e : leapV ns x b = ns.getD (bisR ns x).toNat 0 := if_pos (by lia)
    rw [e] at hret
    exact hret _ _ _ FZ NZ
  · have e : leapV ns x b = b := if_neg (by lia)
    rw [e] at hret
    exact hret _ _ _ FZ NZ
end Mine
end
section
open Sem (wp)
open Builtin Builtin.ObjectAttr
namespace Mine
theorem lk_fn_ga : typeLookup (.type "function") "__getattribute__" = pure (some (.builtin "object.__getattribute__")) := by rw [typeLookup_type, builtinLookup_eq_fast]; kernel_rfl
theorem lk_fn_gattr : typeLookup (.type "function") "__getattr__" = pure none := by rw [typeLookup_type, builtinLookup_eq_fast]; kernel_rfl
theorem lk_fn_read : typeLookup (.type "function") "read" = pure none := by rw [typeLookup_type, builtinLookup_eq_fast]; kernel_rfl
theorem slot_fn_ga : Slot "function" "__getattribute__" "object.__getattribute__" :=
  .of (owner := "object") (n := "__getattribute__") lk_fn_ga (by decide +kernel) (by decide +kernel) (by decide +kernel)
    (by first | exact .inl (by decide +kernel) | exact .inr (by decide +kernel)) (by rw [isSubtype_type]; kernel_rfl)
theorem slot_fn_sa : Slot "function" "__setattr__" "object.__setattr__" :=
  .of (owner := "object") (n := "__setattr__") (by rw [typeLookup_type, builtinLookup_eq_fast]; kernel_rfl) (by decide +kernel) (by decide +kernel) (by decide +kernel)
    (by first | exact .inl (by decide +kernel) | exact .inr (by decide +kernel)) (by rw [isSubtype_type]; kernel_rfl)
theorem entry_obj_ga : entryFor table "object.__getattribute__" = some Builtin.«object.__getattribute__» := by first | exact entryFor_of_fast (by kernel_rfl) | exact entryFor_of_tree (by kernel_rfl)
theorem entry_obj_sa : entryFor table "object.__setattr__" = some Builtin.«object.__setattr__» := by first | exact entryFor_of_fast (by kernel_rfl) | exact entryFor_of_tree (by kernel_rfl)
theorem own_object : Manifest.owners.lookup (String.ofList ['t', 'c', 'e', 'j', 'b', 'o'].reverse) = some Manifest.sig_object := by kernel_rfl
theorem args_obj_ga (a b : Value) : argsOk "object.__getattribute__" ⟨[a, b], []⟩ := by
  unfold argsOk; rw [signature?_of (id := "object.__getattribute__") (n := ['_', '_', 'e', 't', 'u', 'b', 'i', 'r', 't', 't', 'a', 't', 'e', 'g', '_', '_']) (o := ['t', 'c', 'e', 'j', 'b', 'o']) (by kernel_rfl) own_object]; kernel_rfl
theorem args_obj_sa (a b c : Value) : argsOk "object.__setattr__" ⟨[a, b, c], []⟩ := by
  unfold argsOk; rw [signature?_of (id := "object.__setattr__") (n := ['_', '_', 'r', 't', 't', 'a', 't', 'e', 's', '_', '_']) (o := ['t', 'c', 'e', 'j', 'b', 'o']) (by kernel_rfl) own_object]; kernel_rfl
theorem canon_obj_ga : (Manifest.canonical "object.__getattribute__" != "object.__getattribute__") = false := by decide +kernel
section
variable {prog : Program} {w : World} {A : Around} {E : Value → Shared → Prop} {s : Shared}
theorem fn_ga_entry {f fd : Addr} {fdat : FuncData} {sl : Array (Option Value)} {mA : Str → Option Value} {v : Value} {tk : Tok} {Q : Fin → Shared → Prop} (hx : s.heap.get? f = some ⟨.type "function", some fd, .func fdat, sl⟩) (hns : s.heap.Ns fd mA) (hv : mA "read" = some v) (hq : Q (.done (.ret v)) s) :
    wpAny (model prog w) A (Builtin.«object.__getattribute__» ⟨[.ref f, .str "read" tk], []⟩) Q E s := by
  obtain ⟨hp, g, d, t, os⟩ := s
  have hT : (⟨hp, g, d, t, os⟩ : Shared).TypeIs (.ref f) "function" := ⟨_, hx, rfl⟩
  have f4 := lk_fn_read
  unfold Builtin.«object.__getattribute__»
  repeat (any_goals (first | assumption | ((with_reducible refine wpAny_nsGet hns ?_); rw [hv]) | wp_step))
theorem fn_getAttr {f fd : Addr} {fdat : FuncData} {sl : Array (Option Value)} {mA : Str → Option Value} {v : Value} {expr : Bool} {Q : Value → Shared → Prop} (hx : s.heap.get? f = some ⟨.type "function", some fd, .func fdat, sl⟩) (hns : s.heap.Ns fd mA) (hv : mA "read" = some v) (hh : handedOut v = pure v) (hq : Q v { s with toks := s.toks + 1 }) :
    wpAny (model prog w) A (getAttr (.ref f) "read" expr) Q E s := by
  obtain ⟨hp, g, d, t, os⟩ := s
  have hT : ∀ t, (⟨hp, g, d, t, os⟩ : Shared).TypeIs (.ref f) "function" := fun _ => ⟨_, hx, rfl⟩
  have f1 := slot_fn_ga.lookup
  have f2 := slot_fn_ga.bind (.ref f)
  have fx : (expr && onTheHeap (Value.builtin "object.__getattribute__")) = false := by cases expr <;> rfl
  unfold getAttr getAttrBy
  repeat (any_goals (first | assumption | exact hT _ | wp_step | (refine codeAny_call_builtin slot_fn_ga.plain entry_obj_ga (slot_fn_ga.check _ _ _ _ _ _ _ _ (hT _) (args_obj_ga _ _) (fn_ga_entry hx hns hv ?_)))))

theorem fn_getMethod {f fd : Addr} {fdat : FuncData} {sl : Array (Option Value)} {mA : Str → Option Value} {v : Value} {pl : Sem Bool} {Q : Value × List Value → Shared → Prop} (hx : s.heap.get? f = some ⟨.type "function", some fd, .func fdat, sl⟩) (hns : s.heap.Ns fd mA) (hv : mA "read" = some v) (hh : handedOut v = pure v) (hq : Q (v, []) { s with toks := s.toks + 1 }) :
    wpAny (model prog w) A (getMethod (.ref f) "read" pl) Q E s := by
  obtain ⟨hp, g, d, t, os⟩ := s
  have hT : ∀ t, (⟨hp, g, d, t, os⟩ : Shared).TypeIs (.ref f) "function" := fun _ => ⟨_, hx, rfl⟩
  have f1 := lk_fn_ga
  have f2 := lk_fn_gattr
  have f3 := lk_fn_read
  have hcan := canon_obj_ga
  unfold getMethod
  refine wpAny_bind (wpAny_specialOf (hT _) f1 ?_)
  dsimp only
  rw [if_neg (by rw [hcan]; decide)]
  refine wpAny_bind (wpAny_specialOf (hT _) f2 ?_)
  rw [if_neg (by decide)]
  refine wpAny_bind (wpAny_specialOf (hT _) f3 ?_)
  dsimp only
  exact wpAny_bind (fn_getAttr (s := ⟨_,_,_,_,_⟩) hx hns hv hh (wpAny_pure hq))
end
end Mine
end
section
open Sem (wp)
open Builtin Builtin.ObjectAttr
namespace Mine
theorem mro_fn : mroOf (.type "function") = pure [.type "function", .type "object"] := by rw [mroOf_type]; kernel_rfl
theorem fn_refuse (self : Value) : refuseLoop self "__setattr__" [.type "function", .type "object"] = pure () := by
  unfold refuseLoop
  kernel_rfl
section
variable {prog : Program} {w : World} {A : Around} {E : Value → Shared → Prop} {s : Shared} {h₀ : Heap} {L : Addr} {m : Str → Option Value} {news : List (Addr × Obj)} {g : Obj → List (Addr × Obj)}
theorem fn_sa_entry {f : Addr} {fdat : FuncData} {sl : Array (Option Value)} {v : Value} {tk : Tok} {Q : Fin → Shared → Prop} (F : Fr h₀ L s.heap m) (N : News h₀ L s.heap news) (U : UpdF f ⟨.type "function", none, .func fdat, sl⟩ news g)
    (hq : ∀ d h' tk t, Fr h₀ L h' m → News h₀ L h' ((d, dictOf [⟨PyData.keyHash w.params "read", .str "read" t, v⟩] 1) :: g ⟨.type "function", some d, .func fdat, sl⟩) → (∀ p ∈ news, p.1 < d) → Q (.done (.ret .none)) { s with heap := h', toks := tk }) :
    wpAny (model prog w) A (Builtin.«object.__setattr__» ⟨[.ref f, .str "read" tk, v], []⟩) Q E s := by
  obtain ⟨pre, post, rfl, hg, h1, h2⟩ := U.split
  have hm : (f, (⟨.type "function", none, .func fdat, sl⟩ : Obj)) ∈ pre ++ (f, (⟨.type "function", none, .func fdat, sl⟩ : Obj)) :: post := List.mem_append_right _ List.mem_cons_self
  have hx := (N _ hm).1
  obtain ⟨hp, g', d, t, os⟩ := s
  have hT : ∀ t, (⟨hp, g', d, t, os⟩ : Shared).TypeIs (.ref f) "function" := fun _ => ⟨_, hx, rfl⟩
  have f4 := lk_fn_read
  have f5 := mro_fn
  have f6 := fn_refuse (.ref f)
  unfold Builtin.«object.__setattr__»
  repeat (any_goals (first | assumption | exact hT _ | rw [refuse_eq] | ((with_reducible show wpAny _ _ (nsSet _ _ _) _ _ _); refine Hold.out ?_) | wp_step))
  refine Hold.mk ?_
  have F1 := F.push { cls := .type "dict", data := .dict #[] }
  have N1 := News.push F N { cls := .type "dict", data := .dict #[] } rfl
  have l1 : ∀ p ∈ pre ++ (f, (⟨.type "function", none, .func fdat, sl⟩ : Obj)) :: post, p.1 < hp.objs.size := fun p hp => Heap.lt_size (N p hp).1
  have U1 := news_upd (pre := (hp.objs.size, _) :: pre) (f := fun o => { cls := o.cls, dict := some hp.objs.size, data := o.data, slots := o.slots }) F1 N1 (fun p hp => by
    rcases List.mem_cons.mp hp with rfl | hp
    · exact Nat.ne_of_gt (l1 _ hm)
    · exact h1 p hp) h2 rfl rfl
  refine kp_nsSet (news := pre ++ (f, (⟨.type "function", some hp.objs.size, .func fdat, sl⟩ : Obj)) :: post) (es := []) (n := 0) U1.1 U1.2 (fun p hp => ?_) (fun _ h => nomatch h) (fun _ h => nomatch h) fun h' F' N' => ?_
  · rcases List.mem_append.mp hp with hp | hp
    · exact Nat.ne_of_lt (l1 p (List.mem_append_left _ hp))
    · rcases List.mem_cons.mp hp with rfl | hp
      · exact Nat.ne_of_lt (l1 (f, (⟨.type "function", none, .func fdat, sl⟩ : Obj)) hm)
      · exact Nat.ne_of_lt (l1 p (List.mem_append_right _ (List.mem_cons_of_mem _ hp)))
  · refine wpAny_bind (wpAny_lookBehind (N' _ List.mem_cons_self).1 (pastItsLine_dict (by rw [sizeLine_eq]; show 1 ≤ _; lia)) ?_)
    refine wpAny_pure (hq _ _ _ _ F' (by rw [hg]; exact N') l1)
theorem fn_setAttr {f : Addr} {fdat : FuncData} {sl : Array (Option Value)} {v : Value} {Q : Unit → Shared → Prop} (F : Fr h₀ L s.heap m) (N : News h₀ L s.heap news) (U : UpdF f ⟨.type "function", none, .func fdat, sl⟩ news g)
    (hq : ∀ d h' tk t, Fr h₀ L h' m → News h₀ L h' ((d, dictOf [⟨PyData.keyHash w.params "read", .str "read" t, v⟩] 1) :: g ⟨.type "function", some d, .func fdat, sl⟩) → (∀ p ∈ news, p.1 < d) → Q () { s with heap := h', toks := tk }) :
    wpAny (model prog w) A (setAttr (.ref f) "read" v) Q E s := by
  have hm : (f, (⟨.type "function", none, .func fdat, sl⟩ : Obj)) ∈ news := by
    obtain ⟨pre, post, rfl, hg, h1, h2⟩ := U.split
    exact List.mem_append_right _ List.mem_cons_self
  have hx := (N _ hm).1
  obtain ⟨hp, g', d, t, os⟩ := s
  have hT : ∀ t, (⟨hp, g', d, t, os⟩ : Shared).TypeIs (.ref f) "function" := fun _ => ⟨_, hx, rfl⟩
  have f1 := slot_fn_sa.lookup
  have f2 := slot_fn_sa.bind (.ref f)
  unfold setAttr callSpecial? specialOf
  repeat (any_goals (first | assumption | exact hT _ | (refine codeAny_call_builtin slot_fn_sa.plain entry_obj_sa (slot_fn_sa.check _ _ _ _ _ _ _ _ (hT _) (args_obj_sa _ _ _) (fn_sa_entry F N U fun d' h' tk t F' N' l' => ?_))) | wp_step))
  exact hq _ _ _ _ F' N' l'
end
end Mine
end
section
open PyProof.Rows.LCg
namespace Mine
def CSrc (prog : Program) (w : World) (A : Around) (h₀ : Heap) (L : Addr) (m : Str → Option Value) (env : Env) (elt : Expr) (x : Str) (scope : Scope) (cl : List (Str × Addr)) (Fin : Shared → List Value → List (Addr × Obj) → Prop) (it : Value) (s₂ : Shared) : Prop :=
  ∃ (I : Addr) (fp : List Addr) (n : Nat) (P : Nat → Value → Prop) (St : Nat → Heap → Prop) (S : List (Addr × Obj) → Prop) (news : List (Addr × Obj)), it = .ref I ∧ Walks prog w A I fp [I] n P St ∧ n ≤ sizeLine ∧ (∀ i h, St i h → ∃ o, h.get? I = some o) ∧
    (∀ i h h' o nw, St i h → h.get? I = some o → h'.get? I = some o → (∀ b o, h₀.get? b = some o → h'.get? b = some o) → News h₀ L h' nw → S nw → St i h') ∧ St 0 s₂.heap ∧ (∀ b ∈ fp, b < s₂.heap.objs.size) ∧
    Fr h₀ L s₂.heap m ∧ News h₀ L s₂.heap news ∧ L ≠ I ∧ h₀.get? I = none ∧ (∀ p ∈ news, p.1 ≠ I) ∧ S news ∧ CompRest prog w A h₀ L m env elt x scope cl s₂ S P (Fin s₂) n 0 [] news
section
variable {prog : Program} {w : World} {A : Around} {E : Value → Shared → Prop} {s : Shared} {h₀ : Heap} {L : Addr} {m : Str → Option Value} {env : Env} {news : List (Addr × Obj)}
theorem comp_G {elt iter : Expr} {x : Str} {px : Pos} {scope : Scope} {cl : List (Str × Addr)} {pos : Pos} {Q : Value → Shared → Prop} (_F₀ : Fr h₀ L s.heap m)
    (hclos : closureFor scope env = pure cl) (hcell : ∀ y ∈ scope.names, y.2 ≠ .cell) (hkind : scope.kind = .function)
    (hnames : ∀ y ∈ scope.names, y.2 = .local → scope.names.lookup y.1 = some .local) (hx : scope.names.lookup x = some .local)
    (h : wpAny (model prog w) A (eval iter env) (fun xv s₁ => wpAny (model prog w) A (pyIter xv) (CSrc prog w A h₀ L m env elt x scope cl (fun s₂ => FinE h₀ L m s₂ Q)) E s₁) E s)
    (hs : ∀ x, foldedSetIterable iter env x = pure x := by intro _; rfl) :
    wpAny (model prog w) A (eval (.ListComp elt [⟨.Name x px, iter, [], 0⟩] scope pos) env) Q E s := by
  rw [eval_ListComp]
  refine wpAny_comprehension_free (use := none) rfl hs hclos hkind hnames (wpAny_mono h (fun xv s₁ h₁ => wpAny_mono h₁ (fun it s₂ h₂ => ?_) fun _ _ e => e) fun _ _ e => e)
  obtain ⟨I, fp, n, P, St, S, news, rfl, W, hsz, hIo, hSt, hst, hfp, F, N, hIL, hI₀, off, hS, R⟩ := h₂
  refine block_U W hsz hIo hSt hcell hkind hx hst hfp F N hIL hI₀ off hS R ?_
  intro D C h tk m' ys news' F' N' o1 hn hC₀ hD₀ hCL hDL hCD offC fin
  refine ⟨m', hn, fun h'' hs'' => fin D h'' tk (F'.change hs'' hCL hC₀) (fun p hp => ?_) o1⟩
  refine ⟨hs''.extBut _ _ ?_ (N' p hp).1, (N' p hp).2⟩
  rcases List.mem_cons.mp hp with rfl | hp
  · exact Ne.symm hCD
  · exact offC p hp

theorem striter_st {I : Addr} {T : String} {x : Str} {t : Tok} : ∀ i (h h' : Heap) (o : Obj) (nw : List (Addr × Obj)), h.IsStrIter I T x t i → h.get? I = some o → h'.get? I = some o → (∀ b o, h₀.get? b = some o → h'.get? b = some o) → News h₀ L h' nw → True → h'.IsStrIter I T x t i :=
  fun i h h' o nw st e e' _ _ _ => by obtain ⟨o', q, r⟩ := st; rw [e] at q; cases q; exact ⟨o, e', r⟩
theorem src_str {elt : Expr} {x : Str} {scope : Scope} {cl : List (Str × Addr)} {Fin : Shared → List Value → List (Addr × Obj) → Prop} {tx : Str} {t : Tok} (hh : A.handled = none) (F : Fr h₀ L s.heap m) (N : News h₀ L s.heap news) (hsz : tx.cps.size ≤ sizeLine)
    (R : ∀ g, CompRest prog w A h₀ L m env elt x scope cl { s with heap := g } (fun _ => True) (SignAt tx) (Fin { s with heap := g }) tx.cps.size 0 [] news) :
    wpAny (model prog w) A (pyIter (.str tx t)) (CSrc prog w A h₀ L m env elt x scope cl Fin) E s := by
  have main : ∀ (T : String) (o : Obj), (s.heap.push o).IsStrIter s.heap.objs.size T tx t 0 → Walks prog w A s.heap.objs.size [s.heap.objs.size] [s.heap.objs.size] tx.cps.size (SignAt tx) (fun i h => h.IsStrIter s.heap.objs.size T tx t i) →
      CSrc prog w A h₀ L m env elt x scope cl Fin (.ref s.heap.objs.size) { s with heap := s.heap.push o } := fun T o st W =>
    ⟨_, _, _, _, _, fun _ => True, news, rfl, W, hsz, fun i h st => by obtain ⟨o, e, _⟩ := st; exact ⟨o, e⟩, striter_st, st,
      fun b hb => by rw [List.mem_singleton.mp hb]; show _ < (s.heap.push _).objs.size; rw [Heap.size_push]; exact Nat.lt_succ_self _,
      F.keeps fun _ _ e => Heap.get?_push_of_some _ e, N.grown fun _ _ e => Heap.get?_push_of_some _ e, Nat.ne_of_lt F.ns.lt, next_is_new F, fun p hp => Nat.ne_of_lt (Heap.lt_size (N p hp).1), trivial, R _⟩
  cases ha : tx.cps.all (· < 128)
  · exact wpAny_pyIter_wide ha (main _ _ ⟨_, Heap.get?_push_size _ rfl, rfl, rfl⟩ (Walks.strWide hh _ tx t))
  · exact wpAny_pyIter_ascii ha (main _ _ ⟨_, Heap.get?_push_size _ rfl, rfl, rfl⟩ (Walks.strAscii hh _ tx t))
theorem src_list {elt : Expr} {x : Str} {scope : Scope} {cl : List (Str × Addr)} {Fin : Shared → List Value → List (Addr × Obj) → Prop} {ax : Addr} {its : List Value} {n : Nat} (hh : A.handled = none) (F : Fr h₀ L s.heap m) (N : News h₀ L s.heap news) (hm : (ax, W.listOf its.toArray n) ∈ news) (hsz : its.length ≤ sizeLine)
    (R : ∀ g, CompRest prog w A h₀ L m env elt x scope cl { s with heap := g } (SrcAt h₀ ax its.toArray) (fun i v => its[i]? = some v) (Fin { s with heap := g }) its.length 0 [] news) :
    wpAny (model prog w) A (pyIter (.ref ax)) (CSrc prog w A h₀ L m env elt x scope cl Fin) E s := by
  have S : SrcAt h₀ ax its.toArray news := .inr ⟨_, hm, rfl, _, rfl⟩
  have hl := S.list F.keep N
  have hlt : ax < s.heap.objs.size := by obtain ⟨_, e, _⟩ := hl; exact Heap.lt_size e
  refine wpAny_pyIter_list hl ?_
  have up : ∀ b o, s.heap.get? b = some o → (s.heap.push { cls := .type "list_iterator", data := .fields #[.ref ax, .int 0 0] }).get? b = some o := fun b o e => Heap.get?_push_of_some _ e
  refine ⟨_, _, _, _, _, _, news, rfl, Walks.list hh s.heap.objs.size ax (Nat.ne_of_lt hlt) its.toArray, ?_, fun i h st => by obtain ⟨o, e, _⟩ := st.1; exact ⟨o, e⟩, list_st, ⟨⟨_, Heap.get?_push_size _ rfl, rfl, rfl⟩, hl.push _⟩, ?_,
    F.keeps up, N.grown up, Nat.ne_of_lt F.ns.lt, next_is_new F, fun p hp => Nat.ne_of_lt (Heap.lt_size (N p hp).1), S, ?_⟩
  · rw [List.size_toArray]; exact hsz
  · intro b hb
    show b < (s.heap.push _).objs.size
    rw [Heap.size_push]
    rcases List.mem_cons.mp hb with rfl | hb
    · exact Nat.lt_succ_self _
    · rw [List.mem_singleton.mp hb]; exact Nat.lt_succ_of_lt hlt
  · have := R (s.heap.push { cls := .type "list_iterator", data := .fields #[.ref ax, .int 0 0] })
    simpa only [List.size_toArray, List.getElem?_toArray] using this
theorem src_range {elt : Expr} {x : Str} {scope : Scope} {cl : List (Str × Addr)} {Fin : Shared → List Value → List (Addr × Obj) → Prop} {r : Addr} {a b : Int} {t u v : Tok} {n : Nat} (hh : A.handled = none) (F : Fr h₀ L s.heap m) (N : News h₀ L s.heap news) (hr : IsRange s.heap r a b 1 t u v) (hsm : Builtin.Range.small a b 1 = true) (hn : Builtin.Range.rangeSize a b 1 = ((n : Nat) : Int)) (hsz : n ≤ sizeLine)
    (R : ∀ g, CompRest prog w A h₀ L m env elt x scope cl { s with heap := g } (fun _ => True) (fun i v => ∃ t, v = .int (a + (i : Int)) t) (Fin { s with heap := g }) n 0 [] news) :
    wpAny (model prog w) A (pyIter (.ref r)) (CSrc prog w A h₀ L m env elt x scope cl Fin) E s := by
  refine wpAny_pyIter_range hr hsm ?_
  refine ⟨_, _, _, _, _, fun _ => True, news, rfl, range_walks hh a n, hsz, fun i h st => ⟨_, st⟩, range_st, (by show IsRangeIter _ _ _ _ _; rw [hn]; simpa using Heap.get?_push_size _ rfl), ?_,
    F.keeps fun _ _ e => Heap.get?_push_of_some _ e, N.grown fun _ _ e => Heap.get?_push_of_some _ e, Nat.ne_of_lt F.ns.lt, next_is_new F, fun p hp => Nat.ne_of_lt (Heap.lt_size (N p hp).1), trivial, R _⟩
  intro b hb
  rw [List.mem_singleton.mp hb]
  show s.heap.objs.size < (s.heap.push _).objs.size
  rw [Heap.size_push]; exact Nat.lt_succ_self _
end
end Mine
namespace Mine
section
variable {prog : Program} {w : World} {A : Around} {E : Value → Shared → Prop} {s : Shared} {h₀ : Heap} {L : Addr} {m : Str → Option Value} {env : Env} {news : List (Addr × Obj)}
theorem CompEnd_mono {s₁ : Shared} {I : Addr} {oI : Obj} {C : Addr} {oC : Obj} {D : Addr} {oD : Obj} {S : List (Addr × Obj) → Prop} {rest rest' : Value → List (Addr × Obj) → Prop} {y : Value} {s₂ : Shared} (h : CompEnd h₀ L m s₁ I oI C oC D oD S rest y s₂) (hr : ∀ y n, S n → rest y n → rest' y n) : CompEnd h₀ L m s₁ I oI C oC D oD S rest' y s₂ := by
  obtain ⟨h', tk, n, a, b, c, d, e, f⟩ := h
  exact ⟨h', tk, n, a, b, c, d, e, hr _ _ e f⟩
theorem rest_induct {elt : Expr} {x : Str} {scope : Scope} {cl : List (Str × Addr)} {S : List (Addr × Obj) → Prop} {P : Nat → Value → Prop} {Fin : List Value → List (Addr × Obj) → Prop} {n : Nat} (J : Nat → List Value → List (Addr × Obj) → Prop)
    (h0 : J 0 [] news)
    (step : ∀ i ys news v I oI C oC D m₂ h tk (E' : Value → Shared → Prop), i < n → J i ys news → P i v → NsObj oC m₂ → m₂ x = some v → Fr h₀ L h m → News h₀ L h ((I, oI) :: (C, oC) :: (D, lst ys) :: news) → Off3 I C D news → ((@Ne Nat I C) ∧ (@Ne Nat I D) ∧ (@Ne Nat C D)) →
      wpAny (model prog w) A (eval elt (compEnvC scope cl C env)) (CompEnd h₀ L m { s with heap := h, toks := tk } I oI C oC D (lst ys) S (fun y news' => J (i + 1) (ys ++ [y]) news')) E' { s with heap := h, toks := tk })
    (fin : ∀ ys news, J n ys news → Fin ys news) : CompRest prog w A h₀ L m env elt x scope cl s S P Fin n 0 [] news := by
  have main : ∀ k i ys news, i + k = n → J i ys news → CompRest prog w A h₀ L m env elt x scope cl s S P Fin k i ys news := by
    intro k
    induction k with
    | zero => intro i ys news hi hJ; obtain rfl : i = n := by lia
              exact fin _ _ hJ
    | succ k ih =>
      intro i ys news hi hJ v I oI C oC D m₂ h tk E' hP hC hx F N off ne
      exact wpAny_mono (step i ys news v I oI C oC D m₂ h tk E' (by lia) hJ hP hC hx F N off ne) (fun y s₂ h₂ => CompEnd_mono h₂ fun y n _ hJ' => ih _ _ _ (by lia) hJ') fun _ _ e => e
  exact main n 0 [] news (by lia) h0
end
end Mine
end
section
open PyProof.Rows.LCg
namespace Mine
/-- one-sign text -/
abbrev ch (c : Nat) : Str := ⟨#[c]⟩
theorem strsAre_vals : ∀ {vs : List Value} {ys : List Str}, StrsAre vs ys → ∃ l : List (Str × Tok), vs = strValues l ∧ l.map (·.1) = ys
  | _, _, .nil => ⟨[], rfl, rfl⟩
  | _, _, .cons y t h => by
    obtain ⟨l, rfl, rfl⟩ := strsAre_vals h
    exact ⟨(y, t) :: l, rfl, rfl⟩
theorem strsAre_append : ∀ {vs vs' : List Value} {ys ys' : List Str}, StrsAre vs ys → StrsAre vs' ys' → StrsAre (vs ++ vs') (ys ++ ys')
  | _, _, _, _, .nil, h => h
  | _, _, _, _, .cons y t h, h' => .cons y t (strsAre_append h h')
theorem strsAre_snoc {vs : List Value} {ys : List Str} (h : StrsAre vs ys) (y : Str) (t : Tok) : StrsAre (vs ++ [.str y t]) (ys ++ [y]) := strsAre_append h (.cons y t .nil)
theorem join0 : ∀ l : List Str, Str.join (Str.ofString "") l = ⟨((l.map fun s => s.cps.toList).flatten).toArray⟩
  | [] => rfl
  | [x] => by simp [Str.join]
  | x :: y :: r => by
    have ih := join0 (y :: r)
    show x ++ Str.ofString "" ++ Str.join (Str.ofString "") (y :: r) = _
    rw [ih]
    apply Str.ext'
    have e : (Str.ofString "").cps = #[] := by decide +kernel
    simp [Str.cps_append, e]
theorem joinOk0 {l : List Str} {B : Nat} (hB : ∀ y ∈ l, y.length ≤ B) (h : l.length * B ≤ 16777216) : JoinOk (Str.ofString "") l = true := by
  unfold JoinOk
  have e : (Str.ofString "").length = 0 := by decide +kernel
  rw [StrLaws.joinFits hB (by rw [e]; lia)]
  rfl
/-- the signs with a blank behind each -/
def sg (ts : List Nat) : List Nat := ts.flatMap fun c => [c, 32]
theorem sg_length : ∀ ts : List Nat, (sg ts).length = 2 * ts.length
  | [] => rfl
  | c :: r => by
    show ([c, 32] ++ sg r).length = _
    rw [List.length_append, sg_length r]; simp only [List.length_cons, List.length_nil]; lia
theorem sg_of {l : List (Str × Tok)} {ts : List Nat} (hl : l.map (·.1) = ts.map fun c => (⟨#[c, 32]⟩ : Str)) : (l.map fun p => p.1.cps.toList).flatten = sg ts ∧ l.length = ts.length ∧ ∀ p ∈ l, p.1.length ≤ 2 := by
  refine ⟨?_, ?_, ?_⟩
  · have : l.map (fun p => p.1.cps.toList) = (l.map (·.1)).map fun s => s.cps.toList := by rw [List.map_map]; rfl
    rw [this, hl, List.map_map, sg, List.flatMap_def]; rfl
  · have := congrArg List.length hl; simpa using this
  · intro p hp
    have : p.1 ∈ l.map (·.1) := List.mem_map_of_mem hp
    rw [hl] at this
    obtain ⟨c, _, e⟩ := List.mem_map.mp this
    rw [← e]; exact Nat.le_refl 2
section
variable {prog : Program} {w : World} {A : Around} {E : Value → Shared → Prop} {s : Shared} {h₀ : Heap} {L D : Addr} {m : Str → Option Value} {news : List (Addr × Obj)} {n : Nat} {Q : Value → Shared → Prop}
theorem m_join {l : List (Str × Tok)} {t : Tok} {B : Nat} (N : News h₀ L s.heap news) (hm : (D, W.listOf (strValues l).toArray n) ∈ news) (hB : ∀ p ∈ l, p.1.length ≤ B) (hl : l.length * B ≤ 16777216)
    (hq : ∀ t' k, Q (.str ⟨((l.map fun p => p.1.cps.toList).flatten).toArray⟩ t') { s with toks := k }) : wpAny (model prog w) A (call (.builtin "str.join") [.str "" t, .ref D]) Q E s := by
  refine SC.join (m_isList N hm) rfl (joinOk0 (B := B) (by intro y hy; obtain ⟨p, hp, rfl⟩ := List.mem_map.mp hy; exact hB p hp) (by rw [List.length_map]; exact hl)) fun t' k => ?_
  have e : Txt.join (Str.ofString "") (l.map (·.1)) = ⟨((l.map fun p => p.1.cps.toList).flatten).toArray⟩ := by
    show Builtin.Str.glued _ _ = _
    rw [StrLaws.glued_eq_join, join0, List.map_map]
    rfl
  rw [e]
  exact hq t' k
theorem m_list_str {ts : List Nat} {t : Tok} (hh : A.handled = none) (F : Fr h₀ L s.heap m) (N : News h₀ L s.heap news) (hsz : ts.length ≤ 10000)
    (hq : ∀ D h' tk c' (cs : List (Str × Tok)), cs.map (·.1) = ts.map ch → (∀ p ∈ news, p.1 < D) → Fr h₀ L h' m → News h₀ L h' ((D, W.listOf (strValues cs).toArray c') :: news) → Q (.ref D) { s with heap := h', toks := tk }) :
    wpAny (model prog w) A (call (.type "list") [.str ⟨ts.toArray⟩ t]) Q E s := by
  refine call_list_str hh ⟨ts.toArray⟩ t (hn := by rw [sizeLine_eq]; simp only [List.size_toArray]; lia) fun h' tk acc' c' hk hS' hacc => ?_
  have ex : ∃ cs : List (Str × Tok), acc' = (strValues cs).toArray ∧ cs.map (·.1) = ts.map ch := by
    have : ∀ (us : List Nat) (vs : List Value), vs.length = us.length → (∀ (j : Nat) (v : Value), vs[j]? = some v → ∃ (c : Nat) (u : Tok), us[j]? = some c ∧ v = Value.str ⟨#[c]⟩ u) → ∃ cs : List (Str × Tok), vs = strValues cs ∧ cs.map (·.1) = us.map ch := by
      intro us
      induction us with
      | nil => intro vs h _; rw [List.length_nil] at h; rw [List.length_eq_zero_iff.mp h]; exact ⟨[], rfl, rfl⟩
      | cons u us ih =>
        intro vs h hj
        cases vs with
        | nil => simp at h
        | cons v vs =>
          obtain ⟨cs, e1, e2⟩ := ih vs (by simpa using h) (fun j v hv => by simpa using hj (j + 1) v (by simpa using hv))
          obtain ⟨c, tk, hc, rfl⟩ := hj 0 v rfl
          simp only [List.getElem?_cons_zero, Option.some.injEq] at hc
          subst hc
          exact ⟨(⟨#[u]⟩, tk) :: cs, by rw [e1]; rfl, by rw [List.map_cons, e2]; rfl⟩
    obtain ⟨cs, e1, e2⟩ := this ts acc'.toList (by simpa using hacc.1) (fun j v hv => by
      obtain ⟨c, u, hc, rfl⟩ := hacc.2 j v (by simpa using hv)
      exact ⟨c, u, by simpa using hc, rfl⟩)
    exact ⟨cs, by rw [← e1, Array.toArray_toList], e2⟩
  obtain ⟨cs, rfl, e2⟩ := ex
  refine hq _ h' tk c' cs e2 (fun p hp => Heap.lt_size (N p hp).1) (F.keeps hk) fun p hp => ?_
  rcases List.mem_cons.mp hp with rfl | hp
  · refine ⟨hS', Nat.ne_of_gt F.ns.lt, ?_⟩
    cases e : h₀.get? s.heap.objs.size with
    | none => rfl
    | some o => exact absurd (Heap.lt_size (F.keep _ _ e)) (Nat.lt_irrefl _)
  · exact ⟨hk _ _ (N p hp).1, (N p hp).2⟩
end
end Mine
namespace Mine
section
variable {prog : Program} {w : World} {A : Around} {E : Value → Shared → Prop} {s : Shared} {h₀ : Heap} {L D : Addr} {m : Str → Option Value} {news news' : List (Addr × Obj)} {n : Nat} {Q : Value → Shared → Prop}
theorem m_pop0 {v : Value} {vs : List Value} {u : Tok} (F : Fr h₀ L s.heap m) (N : News h₀ L s.heap news) (U : Upd D (W.listOf (v :: vs).toArray n) (W.listOf vs.toArray (n + 1)) news news') (hz : vs.length < 1000000)
    (h : ∀ h', Fr h₀ L h' m → News h₀ L h' news' → Q v { s with heap := h' }) : wpAny (model prog w) A (call (.builtin "list.pop") [.ref D, .int 0 u]) Q E s :=
  kl_popAt (k := 0) (p := []) (q := vs) F N rfl (by simp [seqIndex?]) rfl U (by rw [sizeLine_eq]; simp only [List.length_cons]; lia) h
end
end Mine
end
section
open PyProof.Rows.LCg
namespace Mine
/-- the lexer's dict -/
abbrev lexD (P : Params) (ln : Int) (tl : Tok) (F : Addr) (ws : Str) (tw : Tok) (PB : Addr) (k1 k2 k3 k4 : Tok) : Obj :=
  dictOf [⟨PyData.keyHash P "lineno", .str "lineno" k1, .int ln tl⟩, ⟨PyData.keyHash P "instream", .str "instream" k2, .ref F⟩, ⟨PyData.keyHash P "whitespace", .str "whitespace" k3, .str ws tw⟩, ⟨PyData.keyHash P "pushback", .str "pushback" k4, .ref PB⟩] 4
abbrev readD (P : Params) (R : Addr) (k : Tok) : Obj := dictOf [⟨PyData.keyHash P "read", .str "read" k, .ref R⟩] 1
/-- the addresses of a machine: cell, signs, read, stream, its dict, lexer's dict, lexer, pushback -/
structure MA where
  C : Addr
  S : Addr
  R : Addr
  F : Addr
  FD : Addr
  D : Addr
  X : Addr
  PB : Addr
def MA.ord (a : MA) : Prop := (@LT.lt Nat _ a.C a.S) ∧ (@LT.lt Nat _ a.S a.R) ∧ (@LT.lt Nat _ a.R a.F) ∧ (@LT.lt Nat _ a.F a.FD) ∧ (@LT.lt Nat _ a.FD a.D) ∧ (@LT.lt Nat _ a.D a.X) ∧ (@LT.lt Nat _ a.X a.PB)
/-- a function's object -/
abbrev fnO (fd : FuncData) : Obj := { cls := .type "function", data := .func fd }
def hdS : List (Str × Tok) → Str
  | [] => ""
  | (c, _) :: _ => c
/-- what does not turn -/
structure MK where
  oC : Obj
  fR : FuncData
  fdat : FuncData
  tw : Tok
  k1 : Tok
  k2 : Tok
  k3 : Tok
  k4 : Tok
  kr : Tok
/-- the table of _law_machine's code -/
def TabOK (tb : List (Addr × Obj)) : Prop := tb = [(90, tabObj #[])] ∨
  ∃ c1 c2 oc vs t, tb = [(90, tabObj #[rawInt 123, rawInt 4, .ref c1, rawInt 125, rawInt 13, .ref c2]), (c1, oc)] ∧ oc.data = .fields vs ∧ vs[1]? = some (.str "_law_machine.<locals>.read" t)
/-- what read does -/
def RdSpec (prog : Program) (w : World) (p : Program) (loose : List Str) (mean : ExcName → Option Value) (mg mb : Str → Option Value) (a : MA) (oR oC : Obj) (tb : List (Addr × Obj)) : Prop :=
  ∀ (dp un : Nat) (gd : Option (List Code)) (cn : Str) (cs : Scope) (x : Addr) (ccd : Value) (cl : List (Str × Addr)) (outer : List Env) (A₀ : Around) (base h₀ : Heap) (L : Addr) (m : Str → Option Value) (rest : List (Addr × Obj)) (s : Shared)
  (Q E : Value → Shared → Prop) (us : List (Str × Tok)) (n : Nat) (t : Tok),
  Below A₀ base outer h₀ → Fr h₀ L s.heap m → (Mine.hd.heap_39 w.params).In h₀ → News h₀ L s.heap ((a.S, W.listOf (strValues us).toArray n) :: rest) → Top p loose mean mg mb h₀ → cs.kind = .function → CodeHd base 92 90 →
  (∀ q ∈ rest, q.1 ≠ a.S) → (a.R, oR) ∈ rest → (a.C, oC) ∈ rest → (∀ q ∈ tb, q ∈ rest) → us.length < 100000 → dp + 20 < recursionLimit → un + 100 < cLine →
  (∀ h' tk', (us = [] → ∀ tk, Fr h₀ L h' m → News h₀ L h' ((a.S, W.listOf (strValues us).toArray n) :: rest) → Q (.str "" tk) { s with heap := h', toks := tk' })) →
  (∀ h' tk' c tc us', us = (c, tc) :: us' → Fr h₀ L h' m → News h₀ L h' ((a.S, W.listOf (strValues us').toArray (n + 1)) :: rest) → Q (.str c tc) { s with heap := h', toks := tk' }) →
  wpAny (model prog w) (ktrTop dp un gd cn cs L x ccd cl outer) (call (.ref a.R) [.int 1 t]) Q E s
end Mine
namespace Mine
abbrev MLed (w : World) (a : MA) (k : MK) (us : List (Str × Tok)) (n : Nat) (ln : Int) (tl : Tok) (ws : Str) : List (Addr × Obj) :=
  [(a.S, W.listOf (strValues us).toArray n), (a.D, lexD w.params ln tl a.F ws k.tw a.PB k.k1 k.k2 k.k3 k.k4), (a.X, instObj 59 a.D), (a.PB, W.listOf #[] 0),
   (a.F, ⟨.type "function", some a.FD, .func k.fdat, #[]⟩), (a.FD, readD w.params a.R k.kr), (a.R, fnO k.fR), (a.C, k.oC)]
end Mine
namespace Mine
theorem mach_pack {h₀ h : Heap} {L : Addr} {e1 e2 e3 e4 e5 e6 e7 e8 e9 e10 e11 e12 : Addr × Obj} {rest : List (Addr × Obj)} (N : News h₀ L h (e1 :: e2 :: e3 :: e4 :: e5 :: e6 :: e7 :: e8 :: e9 :: e10 :: e11 :: e12 :: rest)) :
    News h₀ L h (e1 :: ([e10, e4, e3, e2, e6, e5, e8, e11] ++ [e12, e9] ++ rest)) := fun q hq => N q (by
  simp only [List.mem_cons, List.mem_append, List.not_mem_nil, or_false] at hq ⊢
  rcases hq with h | (h | h) | h
  · exact .inl h
  · rcases h with h | h | h | h | h | h | h | h <;> simp only [eq_true h, true_or, or_true]
  · rcases h with h | h <;> simp only [eq_true h, true_or, or_true]
  · simp [h])
theorem allLt_mem {d : Addr} : ∀ {l : List (Addr × Obj)}, AllLt d l → ∀ p ∈ l, @LT.lt Nat _ p.1 d
  | [], _, _, h => nomatch h
  | _ :: _, h, p, hp => by
    rcases List.mem_cons.mp hp with rfl | hp
    · exact h.1
    · exact allLt_mem h.2 p hp
end Mine
namespace Mine
theorem rd_pack {h₀ h : Heap} {L : Addr} {e e1 e2 e3 : Addr × Obj} {rest : List (Addr × Obj)} (N : News h₀ L h (e :: rest)) (h1 : e1 ∈ rest) (h2 : e2 ∈ rest) (h3 : e3 ∈ rest) : News h₀ L h (e :: e1 :: e2 :: e3 :: rest) := fun q hq => N q (by
  simp only [List.mem_cons] at hq ⊢
  rcases hq with h | h | h | h | h
  · exact .inl h
  · exact .inr (h ▸ h1)
  · exact .inr (h ▸ h2)
  · exact .inr (h ▸ h3)
  · exact .inr h)
theorem rd_unpack {h₀ h : Heap} {L : Addr} {e e1 e2 e3 : Addr × Obj} {rest : List (Addr × Obj)} (N : News h₀ L h (e :: e1 :: e2 :: e3 :: rest)) : News h₀ L h (e :: rest) := fun q hq => N q (by
  simp only [List.mem_cons] at hq ⊢
  rcases hq with h | h
  · exact .inl h
  · exact .inr (.inr (.inr (.inr h))))
end Mine
namespace Mine
theorem mach_pack2 {h₀ h : Heap} {L : Addr} {e1 e2 e3 e4 e5 e6 e8 e10 e11 e12 e13 : Addr × Obj} {rest : List (Addr × Obj)} (N : News h₀ L h (e1 :: e2 :: e3 :: e4 :: e5 :: e6 :: e8 :: e10 :: e11 :: e12 :: e13 :: rest)) :
    News h₀ L h (e1 :: ([e10, e4, e3, e2, e6, e5, e8, e11] ++ [e12, e13] ++ rest)) := fun q hq => N q (by
  simp only [List.mem_cons, List.mem_append, List.not_mem_nil, or_false] at hq ⊢
  rcases hq with h | (h | h) | h
  · exact .inl h
  · rcases h with h | h | h | h | h | h | h | h <;> simp only [eq_true h, true_or, or_true]
  · rcases h with h | h <;> simp only [eq_true h, true_or, or_true]
  · simp [h])
end Mine

namespace Mine
theorem fn_methodN {prog : Program} {w : World} {A : Around} {E : Value → Shared → Prop} {s : Shared} {h₀ : Heap} {L f fd R : Addr} {news : List (Addr × Obj)} {P : Params} {fdat : FuncData} {sl : Array (Option Value)} {k : Tok} {pl : Sem Bool} {Q : Value × List Value → Shared → Prop} (N : News h₀ L s.heap news)
    (hx : (f, (⟨.type "function", some fd, .func fdat, sl⟩ : Obj)) ∈ news) (hd : (fd, readD P R k) ∈ news) (hq : Q (.ref R, []) { s with toks := s.toks + 1 }) :
    wpAny (model prog w) A (getMethod (.ref f) "read" pl) Q E s :=
  fn_getMethod (mA := fun x => nsFind #[⟨PyData.keyHash P "read", .str "read" k, .ref R⟩] x) (N _ hx).1 ⟨_, _, _, (N _ hd).1, rfl, by intro e he; simp at he; subst he; exact ⟨_, _, rfl⟩, fun _ => rfl⟩ (by first | rfl | with_unfolding_all rfl | (simp [nsFind, findBy, Value.isStr])) rfl hq
end Mine
end
section
open PyProof.Rows.LCg
namespace Mine
set_option maxHeartbeats 4000000 in
theorem mach_fresh {prog : Program} {w : World} {p : Program} {loose : List Str} {mean : ExcName → Option Value} {mg mb : Str → Option Value}
  (dp un : Nat) (gd : Option (List Code)) (cn : Str) (cs : Scope) (a : Addr) (ccd : Value) (cl : List (Str × Addr)) (outer : List Env) (A₀ : Around) (base h₀ : Heap) (L : Addr) (m : Str → Option Value) (news : List (Addr × Obj)) (s : Shared)
  (Q E : Value → Shared → Prop)
  (B : Below A₀ base outer h₀) (F : Fr h₀ L s.heap m) (X : (Mine.hd.heap_39 w.params).In h₀) (N : News h₀ L s.heap news) (T : Top p loose mean mg mb h₀) (hk : cs.kind = .function) (CH : CodeHd base 92 90)
  (ts : List Nat) (t tw : Tok) (ws : Str) (rest : List (Addr × Obj)) (hn : news = (90, tabObj #[]) :: rest) (hr : ∀ p ∈ rest, p.1 ≠ 90)
  (hts : ts.length < 1000) (hd : dp + 20 < recursionLimit) (hu : un + 100 < cLine)
  (hret : ∀ (a : MA) (k : MK) (tb' : List (Addr × Obj)) (Tp : Addr) (tl : Tok) (us : List (Str × Tok)) (n : Nat) h' tk', us.map (·.1) = (sg ts).map ch → a.ord → (∀ q ∈ rest, @LT.lt Nat _ q.1 a.C) → @LT.lt Nat _ 90 a.C → @LT.lt Nat _ a.PB Tp → TabOK tb' →
    (∀ q ∈ tb', q.1 ≠ a.S ∧ q.1 ≠ a.D ∧ @LT.lt Nat _ q.1 Tp ∧ ∀ p ∈ rest, q.1 ≠ p.1) → RdSpec prog w p loose mean mg mb a (fnO k.fR) k.oC tb' → Fr h₀ L h' m → News h₀ L h' ((Tp, { cls := .type "tuple", data := .seq #[.ref a.X, .ref a.S] }) :: (MLed w a k us n 1 tl ws ++ tb' ++ rest)) → Q (.ref Tp) { s with heap := h', toks := tk' }) :
  wpAny (model prog w) (ktrTop dp un gd cn cs L a ccd cl outer) (call (.ref 93) [.str ⟨ts.toArray⟩ t, .str ws tw]) Q E s := by
  w_top off
  subst hn
  obtain ⟨hp, gn, dr, tk0, os⟩ := s
  dsimp only at *
  refine wpAny_call ?_
  k_dflt ((refine' code_defC (binds := [(Str.ofString "text", .str ⟨ts.toArray⟩ t), (Str.ofString "blanks", .str ws tw)]) ?k1 ?k2 ?k3 ?k4 ?k5 ?kA ?kF ?kK ?k6 ?k7 ?k8 ?k9 ?kB ?kD ?_ ?c2 ?c3 ?c4; (case kA => exact rfl); (case kF => exact rfl); (case kK => first | exact rfl | assumption); (case k1 => k_asm); (case k2 => k_asm); (case k3 => k_asm); (case k4 => k_asm); (case k5 => k_asm); (case k6 => k_is); (case k7 => k_is); (case k8 => k_room); (case k9 => first | exact BindsTo.of_eq rfl | exact binds_K (by k_in) rfl (by k_is) rfl rfl rfl); (case kB => exact rfl); (case kD => decide +kernel); (case c2 => exact rfl); (case c3 => exact rfl); (case c4 => exact rfl); k_whole; intro g' L' h' tk' cells' FG' F' N' Y' B' X' T' l1; obtain ⟨o0', hE', d0'⟩ := CellsAre.one Y'; subst hE'; clear Y'; (try simp only [List.cons_append, List.nil_append] at N'); (try dsimp only); (try k_fold)))
  replace F' : Fr g' L' h' (kstB (fun _ => none) [(Str.ofString "blanks", .str ws tw), (Str.ofString "text", .str ⟨ts.toArray⟩ t)]) := F'
  have hL : AllLt L' rest := allLt_of fun p hp => l1 p (List.mem_cons_of_mem _ hp)
  k_lt l1
  replace d0' : o0'.data = .cell none := d0'
  (repeat' (first | (k_unfold; (try dsimp only)) | ((with_reducible show wpAny _ _ (eval (Expr.ListComp _ _ _ _) _) _ _ _); refine Mine.Hold.out ?_) | ((with_reducible show wpAny _ _ (storeName _ _ _) _ _ _); refine' storeX_L ?zzF ?zzN ?_ ?zza ?zzb; (case zzF => k_asm); (case zzN => k_asm); (case zza => rfl); (case zzb => rfl); k_whole; intro _ zF zN; (try dsimp only at zF); (try k_sweep); (revert zF zN; intro _ _)) | ((with_reducible show wpAny _ _ (call (Value.builtin "len") [Value.ref _]) _ _ _); refine' Mine.m_len ?zzk1 ?zzk2 ?zzk3 ?_; (case zzk1 => k_asm); (case zzk2 => k_mem); (case zzk3 => first | lia | (simp only [List.length_cons, List.length_nil, List.length_map, PySem.strValues]; omega))) | ((with_reducible show wpAny _ _ (setAttr (Value.ref _) (PySem.Str.ofString "read") _) _ _ _); refine' Mine.fn_setAttr ?zzF ?zzN ?zzU ?_; (case zzF => k_asm); (case zzN => k_asm); (case zzU => k_updF); intro _ _ _ _ _ zN zl; (try dsimp only at zN); (try k_lt zl); (try k_sweep); (revert zN zl; intro _ _)) | ((with_reducible show wpAny _ _ (call (Value.builtin "list.pop") _) _ _ _); refine' Mine.m_pop0 ?zzF ?zzN ?zzU ?zzz ?_; (case zzF => k_asm); (case zzN => k_asm); (case zzU => k_upd); (case zzz => omega); intro _ _ zN; (try dsimp only at zN); (try k_sweep); (revert zN; intro _)) | ((with_reducible show wpAny _ _ (call (Value.builtin "str.join") _) _ _ _); refine' m_join (B := 2) ?zzk1 ?zzk2 ?zzk3 ?zzk4 ?_; (case zzk1 => k_asm); (case zzk2 => k_mem); (case zzk3 => assumption); (case zzk4 => omega); intro _ _) | ((with_reducible show wpAny _ _ (call (Value.type "list") [Value.str _ _]) _ _ _); refine' m_list_str ?zzk0 ?zzk1 ?zzk2 ?zzk3 ?_; (case zzk0 => rfl); (case zzk1 => k_asm); (case zzk2 => k_asm); (case zzk3 => omega); intro _ _ _ _ _ _ zl _ _; (try k_lt zl); (try k_sweep); (revert zl; intro _)) | (k_end; kc_close) | (walk1; (try dsimp only)) | (dsimp only; walk1) | (leave1; (try dsimp only)) | fail "no step"))
  refine Hold.mk ?_
  refine comp_G F' (by with_unfolding_all rfl) (by decide) (by rfl) (by decide) (by rfl) ?_
  (repeat' (first | (k_unfold; (try dsimp only)) | ((with_reducible show wpAny _ _ (eval (Expr.ListComp _ _ _ _) _) _ _ _); refine Mine.Hold.out ?_) | ((with_reducible show wpAny _ _ (storeName _ _ _) _ _ _); refine' storeX_L ?zzF ?zzN ?_ ?zza ?zzb; (case zzF => k_asm); (case zzN => k_asm); (case zza => rfl); (case zzb => rfl); k_whole; intro _ zF zN; (try dsimp only at zF); (try k_sweep); (revert zF zN; intro _ _)) | ((with_reducible show wpAny _ _ (call (Value.builtin "len") [Value.ref _]) _ _ _); refine' Mine.m_len ?zzk1 ?zzk2 ?zzk3 ?_; (case zzk1 => k_asm); (case zzk2 => k_mem); (case zzk3 => first | lia | (simp only [List.length_cons, List.length_nil, List.length_map, PySem.strValues]; omega))) | ((with_reducible show wpAny _ _ (setAttr (Value.ref _) (PySem.Str.ofString "read") _) _ _ _); refine' Mine.fn_setAttr ?zzF ?zzN ?zzU ?_; (case zzF => k_asm); (case zzN => k_asm); (case zzU => k_updF); intro _ _ _ _ _ zN zl; (try dsimp only at zN); (try k_lt zl); (try k_sweep); (revert zN zl; intro _ _)) | ((with_reducible show wpAny _ _ (call (Value.builtin "list.pop") _) _ _ _); refine' Mine.m_pop0 ?zzF ?zzN ?zzU ?zzz ?_; (case zzF => k_asm); (case zzN => k_asm); (case zzU => k_upd); (case zzz => omega); intro _ _ zN; (try dsimp only at zN); (try k_sweep); (revert zN; intro _)) | ((with_reducible show wpAny _ _ (call (Value.builtin "str.join") _) _ _ _); refine' m_join (B := 2) ?zzk1 ?zzk2 ?zzk3 ?zzk4 ?_; (case zzk1 => k_asm); (case zzk2 => k_mem); (case zzk3 => assumption); (case zzk4 => omega); intro _ _) | ((with_reducible show wpAny _ _ (call (Value.type "list") [Value.str _ _]) _ _ _); refine' m_list_str ?zzk0 ?zzk1 ?zzk2 ?zzk3 ?_; (case zzk0 => rfl); (case zzk1 => k_asm); (case zzk2 => k_asm); (case zzk3 => omega); intro _ _ _ _ _ _ zl _ _; (try k_lt zl); (try k_sweep); (revert zl; intro _)) | (k_end; kc_close) | (walk1; (try dsimp only)) | (dsimp only; walk1) | (leave1; (try dsimp only)) | fail "no step"))
  refine src_str (by rfl) (by assumption) (by assumption) ?_ fun g => rest_induct (fun i ys nw => nw = (L' + 1, o0') :: (90, tabObj #[]) :: rest ∧ StrsAre ys ((ts.take i).map fun c => (⟨#[c, 32]⟩ : Str))) ⟨rfl, .nil⟩ ?_ ?_
  case refine_1 => rw [sizeLine_eq]; simp only [List.size_toArray]; lia
  case refine_2 =>
    intro i ys nw v I oI C oC D m₂ h tk E' hi ⟨hnw, hys⟩ hP hC hx F1 N1 off ne
    obtain ⟨c, u, hc, rfl⟩ := hP
    subst hnw
    (repeat' (first | (k_unfold; (try dsimp only)) | ((with_reducible show wpAny _ _ (eval (Expr.ListComp _ _ _ _) _) _ _ _); refine Mine.Hold.out ?_) | ((with_reducible show wpAny _ _ (storeName _ _ _) _ _ _); refine' storeX_L ?zzF ?zzN ?_ ?zza ?zzb; (case zzF => k_asm); (case zzN => k_asm); (case zza => rfl); (case zzb => rfl); k_whole; intro _ zF zN; (try dsimp only at zF); (try k_sweep); (revert zF zN; intro _ _)) | ((with_reducible show wpAny _ _ (call (Value.builtin "len") [Value.ref _]) _ _ _); refine' Mine.m_len ?zzk1 ?zzk2 ?zzk3 ?_; (case zzk1 => k_asm); (case zzk2 => k_mem); (case zzk3 => first | lia | (simp only [List.length_cons, List.length_nil, List.length_map, PySem.strValues]; omega))) | ((with_reducible show wpAny _ _ (setAttr (Value.ref _) (PySem.Str.ofString "read") _) _ _ _); refine' Mine.fn_setAttr ?zzF ?zzN ?zzU ?_; (case zzF => k_asm); (case zzN => k_asm); (case zzU => k_updF); intro _ _ _ _ _ zN zl; (try dsimp only at zN); (try k_lt zl); (try k_sweep); (revert zN zl; intro _ _)) | ((with_reducible show wpAny _ _ (call (Value.builtin "list.pop") _) _ _ _); refine' Mine.m_pop0 ?zzF ?zzN ?zzU ?zzz ?_; (case zzF => k_asm); (case zzN => k_asm); (case zzU => k_upd); (case zzz => omega); intro _ _ zN; (try dsimp only at zN); (try k_sweep); (revert zN; intro _)) | ((with_reducible show wpAny _ _ (call (Value.builtin "str.join") _) _ _ _); refine' m_join (B := 2) ?zzk1 ?zzk2 ?zzk3 ?zzk4 ?_; (case zzk1 => k_asm); (case zzk2 => k_mem); (case zzk3 => assumption); (case zzk4 => omega); intro _ _) | ((with_reducible show wpAny _ _ (call (Value.type "list") [Value.str _ _]) _ _ _); refine' m_list_str ?zzk0 ?zzk1 ?zzk2 ?zzk3 ?_; (case zzk0 => rfl); (case zzk1 => k_asm); (case zzk2 => k_asm); (case zzk3 => omega); intro _ _ _ _ _ _ zl _ _; (try k_lt zl); (try k_sweep); (revert zl; intro _)) | (k_end; kc_close) | (walk1; (try dsimp only)) | (dsimp only; walk1) | (leave1; (try dsimp only)) | fail "no step"))
    refine CompEnd.intro F1 N1 _ (fun _ h => h) off trivial ⟨rfl, ?_⟩
    have hc' : ts[i]? = some c := by simpa using hc
    rw [List.take_add_one, hc', List.map_append]
    exact strsAre_snoc hys _ _
  case refine_3 =>
    intro ys nw ⟨hnw, hys⟩ D h tk F1 N1 off
    subst hnw
    simp only [List.size_toArray, List.take_length] at hys
    obtain ⟨l, rfl, hl⟩ := strsAre_vals hys
    obtain ⟨hl4, hl3, hl2⟩ := sg_of hl
    have hl5 := sg_length ts
    (repeat' (first | (k_unfold; (try dsimp only)) | ((with_reducible show wpAny _ _ (eval (Expr.ListComp _ _ _ _) _) _ _ _); refine Mine.Hold.out ?_) | ((with_reducible show wpAny _ _ (storeName _ _ _) _ _ _); refine' storeX_L ?zzF ?zzN ?_ ?zza ?zzb; (case zzF => k_asm); (case zzN => k_asm); (case zza => rfl); (case zzb => rfl); k_whole; intro _ zF zN; (try dsimp only at zF); (try k_sweep); (revert zF zN; intro _ _)) | ((with_reducible show wpAny _ _ (call (Value.builtin "len") [Value.ref _]) _ _ _); refine' Mine.m_len ?zzk1 ?zzk2 ?zzk3 ?_; (case zzk1 => k_asm); (case zzk2 => k_mem); (case zzk3 => first | lia | (simp only [List.length_cons, List.length_nil, List.length_map, PySem.strValues]; omega))) | ((with_reducible show wpAny _ _ (setAttr (Value.ref _) (PySem.Str.ofString "read") _) _ _ _); refine' Mine.fn_setAttr ?zzF ?zzN ?zzU ?_; (case zzF => k_asm); (case zzN => k_asm); (case zzU => k_updF); intro _ _ _ _ _ zN zl; (try dsimp only at zN); (try k_lt zl); (try k_sweep); (revert zN zl; intro _ _)) | ((with_reducible show wpAny _ _ (call (Value.builtin "list.pop") _) _ _ _); refine' Mine.m_pop0 ?zzF ?zzN ?zzU ?zzz ?_; (case zzF => k_asm); (case zzN => k_asm); (case zzU => k_upd); (case zzz => omega); intro _ _ zN; (try dsimp only at zN); (try k_sweep); (revert zN; intro _)) | ((with_reducible show wpAny _ _ (call (Value.builtin "str.join") _) _ _ _); refine' m_join (B := 2) ?zzk1 ?zzk2 ?zzk3 ?zzk4 ?_; (case zzk1 => k_asm); (case zzk2 => k_mem); (case zzk3 => assumption); (case zzk4 => omega); intro _ _) | ((with_reducible show wpAny _ _ (call (Value.type "list") [Value.str _ _]) _ _ _); refine' m_list_str ?zzk0 ?zzk1 ?zzk2 ?zzk3 ?_; (case zzk0 => rfl); (case zzk1 => k_asm); (case zzk2 => k_asm); (case zzk3 => omega); intro _ _ _ _ _ _ zl _ _; (try k_lt zl); (try k_sweep); (revert zl; intro _)) | (k_end; kc_close) | (walk1; (try dsimp only)) | (dsimp only; walk1) | (leave1; (try dsimp only)) | fail "no step"))
    rw [hl4]
    rename News _ _ _ _ => N2
    replace N2 := m_tail N2
    clear off
    (repeat' (first | (k_unfold; (try dsimp only)) | ((with_reducible show wpAny _ _ (eval (Expr.ListComp _ _ _ _) _) _ _ _); refine Mine.Hold.out ?_) | ((with_reducible show wpAny _ _ (storeName _ _ _) _ _ _); refine' storeX_L ?zzF ?zzN ?_ ?zza ?zzb; (case zzF => k_asm); (case zzN => k_asm); (case zza => rfl); (case zzb => rfl); k_whole; intro _ zF zN; (try dsimp only at zF); (try k_sweep); (revert zF zN; intro _ _)) | ((with_reducible show wpAny _ _ (call (Value.builtin "len") [Value.ref _]) _ _ _); refine' Mine.m_len ?zzk1 ?zzk2 ?zzk3 ?_; (case zzk1 => k_asm); (case zzk2 => k_mem); (case zzk3 => first | lia | (simp only [List.length_cons, List.length_nil, List.length_map, PySem.strValues]; omega))) | ((with_reducible show wpAny _ _ (setAttr (Value.ref _) (PySem.Str.ofString "read") _) _ _ _); refine' Mine.fn_setAttr ?zzF ?zzN ?zzU ?_; (case zzF => k_asm); (case zzN => k_asm); (case zzU => k_updF); intro _ _ _ _ _ zN zl; (try dsimp only at zN); (try k_lt zl); (try k_sweep); (revert zN zl; intro _ _)) | ((with_reducible show wpAny _ _ (call (Value.builtin "list.pop") _) _ _ _); refine' Mine.m_pop0 ?zzF ?zzN ?zzU ?zzz ?_; (case zzF => k_asm); (case zzN => k_asm); (case zzU => k_upd); (case zzz => omega); intro _ _ zN; (try dsimp only at zN); (try k_sweep); (revert zN; intro _)) | ((with_reducible show wpAny _ _ (call (Value.builtin "str.join") _) _ _ _); refine' m_join (B := 2) ?zzk1 ?zzk2 ?zzk3 ?zzk4 ?_; (case zzk1 => k_asm); (case zzk2 => k_mem); (case zzk3 => assumption); (case zzk4 => omega); intro _ _) | ((with_reducible show wpAny _ _ (call (Value.type "list") [Value.str _ _]) _ _ _); refine' m_list_str ?zzk0 ?zzk1 ?zzk2 ?zzk3 ?_; (case zzk0 => rfl); (case zzk1 => k_asm); (case zzk2 => k_asm); (case zzk3 => omega); intro _ _ _ _ _ _ zl _ _; (try k_lt zl); (try k_sweep); (revert zl; intro _)) | (k_end; kc_close) | (walk1; (try dsimp only)) | (dsimp only; walk1) | (leave1; (try dsimp only)) | fail "no step"))
    clear F N
    rename News _ _ _ _ => NZ
    rename Fr _ _ _ _ => FZ
    replace NZ := mach_pack NZ
    refine hret ⟨_, _, _, _, _, _, _, _⟩ ⟨_, _, _, _, _, _, _, _, _⟩ [_, _] _ _ _ _ _ _ (by assumption) ?ord ?lt ?l90 ?lTp ?tab ?apart ?rd FZ NZ
    case ord => dsimp only [MA.ord]; refine ⟨?_, ?_, ?_, ?_, ?_, ?_, ?_⟩ <;> lia
    case lt => intro q hq; exact Nat.lt_succ_of_lt (allLt_mem hL q hq)
    case l90 => dsimp only; lia
    case lTp => dsimp only; lia
    case tab => exact .inr ⟨_, _, _, _, _, rfl, by assumption, by assumption⟩
    case apart =>
      intro q hq
      simp only [List.mem_cons, List.not_mem_nil, or_false] at hq
      rcases hq with rfl | rfl <;> (dsimp only; refine ⟨neN (by lia), neN (by lia), ltN (by lia), fun p hp => ?_⟩; first | exact fun e => hr p hp e.symm | exact fun e => hr1 p hp e.symm | (have := allLt_mem hL p hp; exact neN (by lia)))
    case rd =>
      clear FZ NZ hret l1
      intro dp un gd cn cs x ccd cl outer A₀ base h₀ L m rest s Q E us n t B F X N T hk CH hS hR hC htb hlen hd hu hret1 hret2
      obtain ⟨hp, gn, dr, tk0, os⟩ := s
      dsimp only at *
      have htb2 := htb _ (List.mem_cons_of_mem _ List.mem_cons_self)
      have n1 := hS _ hR
      have n2 := hS _ hC
      have n3 := hS _ htb2
      dsimp only at n1 n2 n3
      replace N := rd_pack N hR hC htb2
      refine wpAny_call ?_
      k_dflt (refine' code_nest ?k1 ?k2 ?k3 ?k4 ?k5 ?kA ?kF ?kK ?k6 ?k7 ?k8 ?k9 ?kB ?_ ?c2 ?c3 ?c4 ?c5; (case kA => exact rfl); (case kF => exact rfl); (case kK => assumption); (case k1 => k_asm); (case k2 => k_asm); (case k3 => k_asm); (case k4 => k_asm); (case k5 => k_asm); (case k6 => k_mem); (case k7 => exact codeRec_news (by k_asm) (by k_mem) (by assumption) (by assumption)); (case k8 => k_room); (case k9 => exact BindsTo.of_eq rfl); (case c5 => decide); (case kB => exact locs rfl); (case c2 => exact rfl); (case c3 => exact rfl); (case c4 => exact rfl); k_whole; intro g' L' h' FG' F' N' B' X' T'; (try dsimp only); (try k_fold))
      cases us with
      | nil =>
        rename News _ _ _ _ => N1
        (repeat' (first | (k_unfold; (try dsimp only)) | ((with_reducible show wpAny _ _ (eval (Expr.ListComp _ _ _ _) _) _ _ _); refine Mine.Hold.out ?_) | ((with_reducible show wpAny _ _ (storeName _ _ _) _ _ _); refine' storeX_L ?zzF ?zzN ?_ ?zza ?zzb; (case zzF => k_asm); (case zzN => k_asm); (case zza => rfl); (case zzb => rfl); k_whole; intro _ zF zN; (try dsimp only at zF); (try k_sweep); (revert zF zN; intro _ _)) | ((with_reducible show wpAny _ _ (call (Value.builtin "len") [Value.ref _]) _ _ _); refine' Mine.m_len ?zzk1 ?zzk2 ?zzk3 ?_; (case zzk1 => k_asm); (case zzk2 => k_mem); (case zzk3 => first | lia | (simp only [List.length_cons, List.length_nil, List.length_map, PySem.strValues]; omega))) | ((with_reducible show wpAny _ _ (setAttr (Value.ref _) (PySem.Str.ofString "read") _) _ _ _); refine' Mine.fn_setAttr ?zzF ?zzN ?zzU ?_; (case zzF => k_asm); (case zzN => k_asm); (case zzU => k_updF); intro _ _ _ _ _ zN zl; (try dsimp only at zN); (try k_lt zl); (try k_sweep); (revert zN zl; intro _ _)) | ((with_reducible show wpAny _ _ (call (Value.builtin "list.pop") _) _ _ _); refine' Mine.m_pop0 ?zzF ?zzN ?zzU ?zzz ?_; (case zzF => k_asm); (case zzN => k_asm); (case zzU => k_upd); (case zzz => omega); intro _ _ zN; (try dsimp only at zN); (try k_sweep); (revert zN; intro _)) | ((with_reducible show wpAny _ _ (call (Value.builtin "str.join") _) _ _ _); refine' m_join (B := 2) ?zzk1 ?zzk2 ?zzk3 ?zzk4 ?_; (case zzk1 => k_asm); (case zzk2 => k_mem); (case zzk3 => assumption); (case zzk4 => omega); intro _ _) | ((with_reducible show wpAny _ _ (call (Value.type "list") [Value.str _ _]) _ _ _); refine' m_list_str ?zzk0 ?zzk1 ?zzk2 ?zzk3 ?_; (case zzk0 => rfl); (case zzk1 => k_asm); (case zzk2 => k_asm); (case zzk3 => omega); intro _ _ _ _ _ _ zl _ _; (try k_lt zl); (try k_sweep); (revert zl; intro _)) | (k_end; kc_close) | (walk1; (try dsimp only)) | (dsimp only; walk1) | (leave1; (try dsimp only)) | fail "no step"))
        rename News _ _ _ _ => N2
        exact hret1 _ _ rfl _ (by assumption) (rd_unpack N2)
      | cons p0 us' =>
        obtain ⟨c, tc⟩ := p0
        rename News _ _ _ _ => N1
        replace N1 : News g' L' h' ((_, W.listOf (Value.str c tc :: strValues us').toArray n) :: _) := N1
        have hl9 : (strValues us').length < 100000 := by simp only [strValues, List.length_map, List.length_cons] at hlen ⊢; lia
        (repeat' (first | (k_unfold; (try dsimp only)) | ((with_reducible show wpAny _ _ (eval (Expr.ListComp _ _ _ _) _) _ _ _); refine Mine.Hold.out ?_) | ((with_reducible show wpAny _ _ (storeName _ _ _) _ _ _); refine' storeX_L ?zzF ?zzN ?_ ?zza ?zzb; (case zzF => k_asm); (case zzN => k_asm); (case zza => rfl); (case zzb => rfl); k_whole; intro _ zF zN; (try dsimp only at zF); (try k_sweep); (revert zF zN; intro _ _)) | ((with_reducible show wpAny _ _ (call (Value.builtin "len") [Value.ref _]) _ _ _); refine' Mine.m_len ?zzk1 ?zzk2 ?zzk3 ?_; (case zzk1 => k_asm); (case zzk2 => k_mem); (case zzk3 => first | lia | (simp only [List.length_cons, List.length_nil, List.length_map, PySem.strValues]; omega))) | ((with_reducible show wpAny _ _ (setAttr (Value.ref _) (PySem.Str.ofString "read") _) _ _ _); refine' Mine.fn_setAttr ?zzF ?zzN ?zzU ?_; (case zzF => k_asm); (case zzN => k_asm); (case zzU => k_updF); intro _ _ _ _ _ zN zl; (try dsimp only at zN); (try k_lt zl); (try k_sweep); (revert zN zl; intro _ _)) | ((with_reducible show wpAny _ _ (call (Value.builtin "list.pop") _) _ _ _); refine' Mine.m_pop0 ?zzF ?zzN ?zzU ?zzz ?_; (case zzF => k_asm); (case zzN => k_asm); (case zzU => k_upd); (case zzz => omega); intro _ _ zN; (try dsimp only at zN); (try k_sweep); (revert zN; intro _)) | ((with_reducible show wpAny _ _ (call (Value.builtin "str.join") _) _ _ _); refine' m_join (B := 2) ?zzk1 ?zzk2 ?zzk3 ?zzk4 ?_; (case zzk1 => k_asm); (case zzk2 => k_mem); (case zzk3 => assumption); (case zzk4 => omega); intro _ _) | ((with_reducible show wpAny _ _ (call (Value.type "list") [Value.str _ _]) _ _ _); refine' m_list_str ?zzk0 ?zzk1 ?zzk2 ?zzk3 ?_; (case zzk0 => rfl); (case zzk1 => k_asm); (case zzk2 => k_asm); (case zzk3 => omega); intro _ _ _ _ _ _ zl _ _; (try k_lt zl); (try k_sweep); (revert zl; intro _)) | (k_end; kc_close) | (walk1; (try dsimp only)) | (dsimp only; walk1) | (leave1; (try dsimp only)) | fail "no step"))
        · rename News _ _ _ _ => N2
          exact hret2 _ _ _ _ _ rfl (by assumption) (rd_unpack N2)
        · exfalso
          rename ¬ ((0:Int) < _) => hc
          exact hc (by simp only [List.length_cons]; lia)
end Mine
end
section
open PyProof.Rows.LCg
namespace Mine
set_option maxHeartbeats 4000000 in
theorem mach_hit {prog : Program} {w : World} {p : Program} {loose : List Str} {mean : ExcName → Option Value} {mg mb : Str → Option Value}
  (dp un : Nat) (gd : Option (List Code)) (cn : Str) (cs : Scope) (a : Addr) (ccd : Value) (cl : List (Str × Addr)) (outer : List Env) (A₀ : Around) (base h₀ : Heap) (L : Addr) (m : Str → Option Value) (news : List (Addr × Obj)) (s : Shared)
  (Q E : Value → Shared → Prop)
  (B : Below A₀ base outer h₀) (F : Fr h₀ L s.heap m) (X : (Mine.hd.heap_39 w.params).In h₀) (N : News h₀ L s.heap news) (T : Top p loose mean mg mb h₀) (hk : cs.kind = .function) (CH : CodeHd base 92 90)
  (ts : List Nat) (t tw : Tok) (ws : Str) (rest : List (Addr × Obj)) (c1 c2 : Addr) (oc : Obj) (vs : Array Value) (tq : Tok) (hoc : oc.data = .fields vs) (hvs : vs[1]? = some (.str "_law_machine.<locals>.read" tq)) (hn : news = (90, tabObj #[rawInt 123, rawInt 4, .ref c1, rawInt 125, rawInt 13, .ref c2]) :: (c1, oc) :: rest) (hr : ∀ p ∈ rest, p.1 ≠ 90) (hr1 : ∀ p ∈ rest, p.1 ≠ c1)
  (hts : ts.length < 1000) (hd : dp + 20 < recursionLimit) (hu : un + 100 < cLine)
  (hret : ∀ (a : MA) (k : MK) (tb' : List (Addr × Obj)) (Tp : Addr) (tl : Tok) (us : List (Str × Tok)) (n : Nat) h' tk', us.map (·.1) = (sg ts).map ch → a.ord → (∀ q ∈ rest, @LT.lt Nat _ q.1 a.C) → @LT.lt Nat _ 90 a.C → @LT.lt Nat _ a.PB Tp → TabOK tb' →
    (∀ q ∈ tb', q.1 ≠ a.S ∧ q.1 ≠ a.D ∧ @LT.lt Nat _ q.1 Tp ∧ ∀ p ∈ rest, q.1 ≠ p.1) → RdSpec prog w p loose mean mg mb a (fnO k.fR) k.oC tb' → Fr h₀ L h' m → News h₀ L h' ((Tp, { cls := .type "tuple", data := .seq #[.ref a.X, .ref a.S] }) :: (MLed w a k us n 1 tl ws ++ tb' ++ rest)) → Q (.ref Tp) { s with heap := h', toks := tk' }) :
  wpAny (model prog w) (ktrTop dp un gd cn cs L a ccd cl outer) (call (.ref 93) [.str ⟨ts.toArray⟩ t, .str ws tw]) Q E s := by
  w_top off
  subst hn
  obtain ⟨hp, gn, dr, tk0, os⟩ := s
  dsimp only at *
  refine wpAny_call ?_
  k_dflt ((refine' code_defC (binds := [(Str.ofString "text", .str ⟨ts.toArray⟩ t), (Str.ofString "blanks", .str ws tw)]) ?k1 ?k2 ?k3 ?k4 ?k5 ?kA ?kF ?kK ?k6 ?k7 ?k8 ?k9 ?kB ?kD ?_ ?c2 ?c3 ?c4; (case kA => exact rfl); (case kF => exact rfl); (case kK => first | exact rfl | assumption); (case k1 => k_asm); (case k2 => k_asm); (case k3 => k_asm); (case k4 => k_asm); (case k5 => k_asm); (case k6 => k_is); (case k7 => k_is); (case k8 => k_room); (case k9 => first | exact BindsTo.of_eq rfl | exact binds_K (by k_in) rfl (by k_is) rfl rfl rfl); (case kB => exact rfl); (case kD => decide +kernel); (case c2 => exact rfl); (case c3 => exact rfl); (case c4 => exact rfl); k_whole; intro g' L' h' tk' cells' FG' F' N' Y' B' X' T' l1; obtain ⟨o0', hE', d0'⟩ := CellsAre.one Y'; subst hE'; clear Y'; (try simp only [List.cons_append, List.nil_append] at N'); (try dsimp only); (try k_fold)))
  replace F' : Fr g' L' h' (kstB (fun _ => none) [(Str.ofString "blanks", .str ws tw), (Str.ofString "text", .str ⟨ts.toArray⟩ t)]) := F'
  have hL : AllLt L' rest := allLt_of fun p hp => l1 p (List.mem_cons_of_mem _ (List.mem_cons_of_mem _ hp))
  k_lt l1
  replace d0' : o0'.data = .cell none := d0'
  (repeat' (first | (k_unfold; (try dsimp only)) | ((with_reducible show wpAny _ _ (eval (Expr.ListComp _ _ _ _) _) _ _ _); refine Mine.Hold.out ?_) | ((with_reducible show wpAny _ _ (storeName _ _ _) _ _ _); refine' storeX_L ?zzF ?zzN ?_ ?zza ?zzb; (case zzF => k_asm); (case zzN => k_asm); (case zza => rfl); (case zzb => rfl); k_whole; intro _ zF zN; (try dsimp only at zF); (try k_sweep); (revert zF zN; intro _ _)) | ((with_reducible show wpAny _ _ (call (Value.builtin "len") [Value.ref _]) _ _ _); refine' Mine.m_len ?zzk1 ?zzk2 ?zzk3 ?_; (case zzk1 => k_asm); (case zzk2 => k_mem); (case zzk3 => first | lia | (simp only [List.length_cons, List.length_nil, List.length_map, PySem.strValues]; omega))) | ((with_reducible show wpAny _ _ (setAttr (Value.ref _) (PySem.Str.ofString "read") _) _ _ _); refine' Mine.fn_setAttr ?zzF ?zzN ?zzU ?_; (case zzF => k_asm); (case zzN => k_asm); (case zzU => k_updF); intro _ _ _ _ _ zN zl; (try dsimp only at zN); (try k_lt zl); (try k_sweep); (revert zN zl; intro _ _)) | ((with_reducible show wpAny _ _ (call (Value.builtin "list.pop") _) _ _ _); refine' Mine.m_pop0 ?zzF ?zzN ?zzU ?zzz ?_; (case zzF => k_asm); (case zzN => k_asm); (case zzU => k_upd); (case zzz => omega); intro _ _ zN; (try dsimp only at zN); (try k_sweep); (revert zN; intro _)) | ((with_reducible show wpAny _ _ (call (Value.builtin "str.join") _) _ _ _); refine' m_join (B := 2) ?zzk1 ?zzk2 ?zzk3 ?zzk4 ?_; (case zzk1 => k_asm); (case zzk2 => k_mem); (case zzk3 => assumption); (case zzk4 => omega); intro _ _) | ((with_reducible show wpAny _ _ (call (Value.type "list") [Value.str _ _]) _ _ _); refine' m_list_str ?zzk0 ?zzk1 ?zzk2 ?zzk3 ?_; (case zzk0 => rfl); (case zzk1 => k_asm); (case zzk2 => k_asm); (case zzk3 => omega); intro _ _ _ _ _ _ zl _ _; (try k_lt zl); (try k_sweep); (revert zl; intro _)) | (k_end; kc_close) | (walk1; (try dsimp only)) | (dsimp only; walk1) | (leave1; (try dsimp only)) | fail "no step"))
  refine Hold.mk ?_
  refine comp_G F' (by with_unfolding_all rfl) (by decide) (by rfl) (by decide) (by rfl) ?_
  (repeat' (first | (k_unfold; (try dsimp only)) | ((with_reducible show wpAny _ _ (eval (Expr.ListComp _ _ _ _) _) _ _ _); refine Mine.Hold.out ?_) | ((with_reducible show wpAny _ _ (storeName _ _ _) _ _ _); refine' storeX_L ?zzF ?zzN ?_ ?zza ?zzb; (case zzF => k_asm); (case zzN => k_asm); (case zza => rfl); (case zzb => rfl); k_whole; intro _ zF zN; (try dsimp only at zF); (try k_sweep); (revert zF zN; intro _ _)) | ((with_reducible show wpAny _ _ (call (Value.builtin "len") [Value.ref _]) _ _ _); refine' Mine.m_len ?zzk1 ?zzk2 ?zzk3 ?_; (case zzk1 => k_asm); (case zzk2 => k_mem); (case zzk3 => first | lia | (simp only [List.length_cons, List.length_nil, List.length_map, PySem.strValues]; omega))) | ((with_reducible show wpAny _ _ (setAttr (Value.ref _) (PySem.Str.ofString "read") _) _ _ _); refine' Mine.fn_setAttr ?zzF ?zzN ?zzU ?_; (case zzF => k_asm); (case zzN => k_asm); (case zzU => k_updF); intro _ _ _ _ _ zN zl; (try dsimp only at zN); (try k_lt zl); (try k_sweep); (revert zN zl; intro _ _)) | ((with_reducible show wpAny _ _ (call (Value.builtin "list.pop") _) _ _ _); refine' Mine.m_pop0 ?zzF ?zzN ?zzU ?zzz ?_; (case zzF => k_asm); (case zzN => k_asm); (case zzU => k_upd); (case zzz => omega); intro _ _ zN; (try dsimp only at zN); (try k_sweep); (revert zN; intro _)) | ((with_reducible show wpAny _ _ (call (Value.builtin "str.join") _) _ _ _); refine' m_join (B := 2) ?zzk1 ?zzk2 ?zzk3 ?zzk4 ?_; (case zzk1 => k_asm); (case zzk2 => k_mem); (case zzk3 => assumption); (case zzk4 => omega); intro _ _) | ((with_reducible show wpAny _ _ (call (Value.type "list") [Value.str _ _]) _ _ _); refine' m_list_str ?zzk0 ?zzk1 ?zzk2 ?zzk3 ?_; (case zzk0 => rfl); (case zzk1 => k_asm); (case zzk2 => k_asm); (case zzk3 => omega); intro _ _ _ _ _ _ zl _ _; (try k_lt zl); (try k_sweep); (revert zl; intro _)) | (k_end; kc_close) | (walk1; (try dsimp only)) | (dsimp only; walk1) | (leave1; (try dsimp only)) | fail "no step"))
  refine src_str (by rfl) (by assumption) (by assumption) ?_ fun g => rest_induct (fun i ys nw => nw = (L' + 1, o0') :: (90, tabObj #[rawInt 123, rawInt 4, .ref c1, rawInt 125, rawInt 13, .ref c2]) :: (c1, oc) :: rest ∧ StrsAre ys ((ts.take i).map fun c => (⟨#[c, 32]⟩ : Str))) ⟨rfl, .nil⟩ ?_ ?_
  case refine_1 => rw [sizeLine_eq]; simp only [List.size_toArray]; lia
  case refine_2 =>
    intro i ys nw v I oI C oC D m₂ h tk E' hi ⟨hnw, hys⟩ hP hC hx F1 N1 off ne
    obtain ⟨c, u, hc, rfl⟩ := hP
    subst hnw
    (repeat' (first | (k_unfold; (try dsimp only)) | ((with_reducible show wpAny _ _ (eval (Expr.ListComp _ _ _ _) _) _ _ _); refine Mine.Hold.out ?_) | ((with_reducible show wpAny _ _ (storeName _ _ _) _ _ _); refine' storeX_L ?zzF ?zzN ?_ ?zza ?zzb; (case zzF => k_asm); (case zzN => k_asm); (case zza => rfl); (case zzb => rfl); k_whole; intro _ zF zN; (try dsimp only at zF); (try k_sweep); (revert zF zN; intro _ _)) | ((with_reducible show wpAny _ _ (call (Value.builtin "len") [Value.ref _]) _ _ _); refine' Mine.m_len ?zzk1 ?zzk2 ?zzk3 ?_; (case zzk1 => k_asm); (case zzk2 => k_mem); (case zzk3 => first | lia | (simp only [List.length_cons, List.length_nil, List.length_map, PySem.strValues]; omega))) | ((with_reducible show wpAny _ _ (setAttr (Value.ref _) (PySem.Str.ofString "read") _) _ _ _); refine' Mine.fn_setAttr ?zzF ?zzN ?zzU ?_; (case zzF => k_asm); (case zzN => k_asm); (case zzU => k_updF); intro _ _ _ _ _ zN zl; (try dsimp only at zN); (try k_lt zl); (try k_sweep); (revert zN zl; intro _ _)) | ((with_reducible show wpAny _ _ (call (Value.builtin "list.pop") _) _ _ _); refine' Mine.m_pop0 ?zzF ?zzN ?zzU ?zzz ?_; (case zzF => k_asm); (case zzN => k_asm); (case zzU => k_upd); (case zzz => omega); intro _ _ zN; (try dsimp only at zN); (try k_sweep); (revert zN; intro _)) | ((with_reducible show wpAny _ _ (call (Value.builtin "str.join") _) _ _ _); refine' m_join (B := 2) ?zzk1 ?zzk2 ?zzk3 ?zzk4 ?_; (case zzk1 => k_asm); (case zzk2 => k_mem); (case zzk3 => assumption); (case zzk4 => omega); intro _ _) | ((with_reducible show wpAny _ _ (call (Value.type "list") [Value.str _ _]) _ _ _); refine' m_list_str ?zzk0 ?zzk1 ?zzk2 ?zzk3 ?_; (case zzk0 => rfl); (case zzk1 => k_asm); (case zzk2 => k_asm); (case zzk3 => omega); intro _ _ _ _ _ _ zl _ _; (try k_lt zl); (try k_sweep); (revert zl; intro _)) | (k_end; kc_close) | (walk1; (try dsimp only)) | (dsimp only; walk1) | (leave1; (try dsimp only)) | fail "no step"))
    refine CompEnd.intro F1 N1 _ (fun _ h => h) off trivial ⟨rfl, ?_⟩
    have hc' : ts[i]? = some c := by simpa using hc
    rw [List.take_add_one, hc', List.map_append]
    exact strsAre_snoc hys _ _
  case refine_3 =>
    intro ys nw ⟨hnw, hys⟩ D h tk F1 N1 off
    subst hnw
    simp only [List.size_toArray, List.take_length] at hys
    obtain ⟨l, rfl, hl⟩ := strsAre_vals hys
    obtain ⟨hl4, hl3, hl2⟩ := sg_of hl
    have hl5 := sg_length ts
    (repeat' (first | (k_unfold; (try dsimp only)) | ((with_reducible show wpAny _ _ (eval (Expr.ListComp _ _ _ _) _) _ _ _); refine Mine.Hold.out ?_) | ((with_reducible show wpAny _ _ (storeName _ _ _) _ _ _); refine' storeX_L ?zzF ?zzN ?_ ?zza ?zzb; (case zzF => k_asm); (case zzN => k_asm); (case zza => rfl); (case zzb => rfl); k_whole; intro _ zF zN; (try dsimp only at zF); (try k_sweep); (revert zF zN; intro _ _)) | ((with_reducible show wpAny _ _ (call (Value.builtin "len") [Value.ref _]) _ _ _); refine' Mine.m_len ?zzk1 ?zzk2 ?zzk3 ?_; (case zzk1 => k_asm); (case zzk2 => k_mem); (case zzk3 => first | lia | (simp only [List.length_cons, List.length_nil, List.length_map, PySem.strValues]; omega))) | ((with_reducible show wpAny _ _ (setAttr (Value.ref _) (PySem.Str.ofString "read") _) _ _ _); refine' Mine.fn_setAttr ?zzF ?zzN ?zzU ?_; (case zzF => k_asm); (case zzN => k_asm); (case zzU => k_updF); intro _ _ _ _ _ zN zl; (try dsimp only at zN); (try k_lt zl); (try k_sweep); (revert zN zl; intro _ _)) | ((with_reducible show wpAny _ _ (call (Value.builtin "list.pop") _) _ _ _); refine' Mine.m_pop0 ?zzF ?zzN ?zzU ?zzz ?_; (case zzF => k_asm); (case zzN => k_asm); (case zzU => k_upd); (case zzz => omega); intro _ _ zN; (try dsimp only at zN); (try k_sweep); (revert zN; intro _)) | ((with_reducible show wpAny _ _ (call (Value.builtin "str.join") _) _ _ _); refine' m_join (B := 2) ?zzk1 ?zzk2 ?zzk3 ?zzk4 ?_; (case zzk1 => k_asm); (case zzk2 => k_mem); (case zzk3 => assumption); (case zzk4 => omega); intro _ _) | ((with_reducible show wpAny _ _ (call (Value.type "list") [Value.str _ _]) _ _ _); refine' m_list_str ?zzk0 ?zzk1 ?zzk2 ?zzk3 ?_; (case zzk0 => rfl); (case zzk1 => k_asm); (case zzk2 => k_asm); (case zzk3 => omega); intro _ _ _ _ _ _ zl _ _; (try k_lt zl); (try k_sweep); (revert zl; intro _)) | (k_end; kc_close) | (walk1; (try dsimp only)) | (dsimp only; walk1) | (leave1; (try dsimp only)) | fail "no step"))
    rw [hl4]
    rename News _ _ _ _ => N2
    replace N2 := m_tail N2
    clear off
    (repeat' (first | (k_unfold; (try dsimp only)) | ((with_reducible show wpAny _ _ (eval (Expr.ListComp _ _ _ _) _) _ _ _); refine Mine.Hold.out ?_) | ((with_reducible show wpAny _ _ (storeName _ _ _) _ _ _); refine' storeX_L ?zzF ?zzN ?_ ?zza ?zzb; (case zzF => k_asm); (case zzN => k_asm); (case zza => rfl); (case zzb => rfl); k_whole; intro _ zF zN; (try dsimp only at zF); (try k_sweep); (revert zF zN; intro _ _)) | ((with_reducible show wpAny _ _ (call (Value.builtin "len") [Value.ref _]) _ _ _); refine' Mine.m_len ?zzk1 ?zzk2 ?zzk3 ?_; (case zzk1 => k_asm); (case zzk2 => k_mem); (case zzk3 => first | lia | (simp only [List.length_cons, List.length_nil, List.length_map, PySem.strValues]; omega))) | ((with_reducible show wpAny _ _ (setAttr (Value.ref _) (PySem.Str.ofString "read") _) _ _ _); refine' Mine.fn_setAttr ?zzF ?zzN ?zzU ?_; (case zzF => k_asm); (case zzN => k_asm); (case zzU => k_updF); intro _ _ _ _ _ zN zl; (try dsimp only at zN); (try k_lt zl); (try k_sweep); (revert zN zl; intro _ _)) | ((with_reducible show wpAny _ _ (call (Value.builtin "list.pop") _) _ _ _); refine' Mine.m_pop0 ?zzF ?zzN ?zzU ?zzz ?_; (case zzF => k_asm); (case zzN => k_asm); (case zzU => k_upd); (case zzz => omega); intro _ _ zN; (try dsimp only at zN); (try k_sweep); (revert zN; intro _)) | ((with_reducible show wpAny _ _ (call (Value.builtin "str.join") _) _ _ _); refine' m_join (B := 2) ?zzk1 ?zzk2 ?zzk3 ?zzk4 ?_; (case zzk1 => k_asm); (case zzk2 => k_mem); (case zzk3 => assumption); (case zzk4 => omega); intro _ _) | ((with_reducible show wpAny _ _ (call (Value.type "list") [Value.str _ _]) _ _ _); refine' m_list_str ?zzk0 ?zzk1 ?zzk2 ?zzk3 ?_; (case zzk0 => rfl); (case zzk1 => k_asm); (case zzk2 => k_asm); (case zzk3 => omega); intro _ _ _ _ _ _ zl _ _; (try k_lt zl); (try k_sweep); (revert zl; intro _)) | (k_end; kc_close) | (walk1; (try dsimp only)) | (dsimp only; walk1) | (leave1; (try dsimp only)) | fail "no step"))
    clear F N
    rename News _ _ _ _ => NZ
    rename Fr _ _ _ _ => FZ
    replace NZ := mach_pack2 NZ
    refine hret ⟨_, _, _, _, _, _, _, _⟩ ⟨_, _, _, _, _, _, _, _, _⟩ [_, _] _ _ _ _ _ _ (by assumption) ?ord ?lt ?l90 ?lTp ?tab ?apart ?rd FZ NZ
    case ord => dsimp only [MA.ord]; refine ⟨?_, ?_, ?_, ?_, ?_, ?_, ?_⟩ <;> lia
    case lt => intro q hq; exact Nat.lt_succ_of_lt (allLt_mem hL q hq)
    case l90 => dsimp only; lia
    case lTp => dsimp only; lia
    case tab => exact .inr ⟨_, _, _, _, _, rfl, by assumption, by assumption⟩
    case apart =>
      intro q hq
      simp only [List.mem_cons, List.not_mem_nil, or_false] at hq
      rcases hq with rfl | rfl <;> (dsimp only; refine ⟨neN (by lia), neN (by lia), ltN (by lia), fun p hp => ?_⟩; first | exact fun e => hr p hp e.symm | exact fun e => hr1 p hp e.symm | (have := allLt_mem hL p hp; exact neN (by lia)))
    case rd =>
      clear FZ NZ hret l1
      intro dp un gd cn cs x ccd cl outer A₀ base h₀ L m rest s Q E us n t B F X N T hk CH hS hR hC htb hlen hd hu hret1 hret2
      obtain ⟨hp, gn, dr, tk0, os⟩ := s
      dsimp only at *
      have htb2 := htb _ (List.mem_cons_of_mem _ List.mem_cons_self)
      have n1 := hS _ hR
      have n2 := hS _ hC
      have n3 := hS _ htb2
      dsimp only at n1 n2 n3
      replace N := rd_pack N hR hC htb2
      refine wpAny_call ?_
      k_dflt (refine' code_nest ?k1 ?k2 ?k3 ?k4 ?k5 ?kA ?kF ?kK ?k6 ?k7 ?k8 ?k9 ?kB ?_ ?c2 ?c3 ?c4 ?c5; (case kA => exact rfl); (case kF => exact rfl); (case kK => assumption); (case k1 => k_asm); (case k2 => k_asm); (case k3 => k_asm); (case k4 => k_asm); (case k5 => k_asm); (case k6 => k_mem); (case k7 => exact codeRec_news (by k_asm) (by k_mem) (by assumption) (by assumption)); (case k8 => k_room); (case k9 => exact BindsTo.of_eq rfl); (case c5 => decide); (case kB => exact locs rfl); (case c2 => exact rfl); (case c3 => exact rfl); (case c4 => exact rfl); k_whole; intro g' L' h' FG' F' N' B' X' T'; (try dsimp only); (try k_fold))
      cases us with
      | nil =>
        rename News _ _ _ _ => N1
        (repeat' (first | (k_unfold; (try dsimp only)) | ((with_reducible show wpAny _ _ (eval (Expr.ListComp _ _ _ _) _) _ _ _); refine Mine.Hold.out ?_) | ((with_reducible show wpAny _ _ (storeName _ _ _) _ _ _); refine' storeX_L ?zzF ?zzN ?_ ?zza ?zzb; (case zzF => k_asm); (case zzN => k_asm); (case zza => rfl); (case zzb => rfl); k_whole; intro _ zF zN; (try dsimp only at zF); (try k_sweep); (revert zF zN; intro _ _)) | ((with_reducible show wpAny _ _ (call (Value.builtin "len") [Value.ref _]) _ _ _); refine' Mine.m_len ?zzk1 ?zzk2 ?zzk3 ?_; (case zzk1 => k_asm); (case zzk2 => k_mem); (case zzk3 => first | lia | (simp only [List.length_cons, List.length_nil, List.length_map, PySem.strValues]; omega))) | ((with_reducible show wpAny _ _ (setAttr (Value.ref _) (PySem.Str.ofString "read") _) _ _ _); refine' Mine.fn_setAttr ?zzF ?zzN ?zzU ?_; (case zzF => k_asm); (case zzN => k_asm); (case zzU => k_updF); intro _ _ _ _ _ zN zl; (try dsimp only at zN); (try k_lt zl); (try k_sweep); (revert zN zl; intro _ _)) | ((with_reducible show wpAny _ _ (call (Value.builtin "list.pop") _) _ _ _); refine' Mine.m_pop0 ?zzF ?zzN ?zzU ?zzz ?_; (case zzF => k_asm); (case zzN => k_asm); (case zzU => k_upd); (case zzz => omega); intro _ _ zN; (try dsimp only at zN); (try k_sweep); (revert zN; intro _)) | ((with_reducible show wpAny _ _ (call (Value.builtin "str.join") _) _ _ _); refine' m_join (B := 2) ?zzk1 ?zzk2 ?zzk3 ?zzk4 ?_; (case zzk1 => k_asm); (case zzk2 => k_mem); (case zzk3 => assumption); (case zzk4 => omega); intro _ _) | ((with_reducible show wpAny _ _ (call (Value.type "list") [Value.str _ _]) _ _ _); refine' m_list_str ?zzk0 ?zzk1 ?zzk2 ?zzk3 ?_; (case zzk0 => rfl); (case zzk1 => k_asm); (case zzk2 => k_asm); (case zzk3 => omega); intro _ _ _ _ _ _ zl _ _; (try k_lt zl); (try k_sweep); (revert zl; intro _)) | (k_end; kc_close) | (walk1; (try dsimp only)) | (dsimp only; walk1) | (leave1; (try dsimp only)) | fail "no step"))
        rename News _ _ _ _ => N2
        exact hret1 _ _ rfl _ (by assumption) (rd_unpack N2)
      | cons p0 us' =>
        obtain ⟨c, tc⟩ := p0
        rename News _ _ _ _ => N1
        replace N1 : News g' L' h' ((_, W.listOf (Value.str c tc :: strValues us').toArray n) :: _) := N1
        have hl9 : (strValues us').length < 100000 := by simp only [strValues, List.length_map, List.length_cons] at hlen ⊢; lia
        (repeat' (first | (k_unfold; (try dsimp only)) | ((with_reducible show wpAny _ _ (eval (Expr.ListComp _ _ _ _) _) _ _ _); refine Mine.Hold.out ?_) | ((with_reducible show wpAny _ _ (storeName _ _ _) _ _ _); refine' storeX_L ?zzF ?zzN ?_ ?zza ?zzb; (case zzF => k_asm); (case zzN => k_asm); (case zza => rfl); (case zzb => rfl); k_whole; intro _ zF zN; (try dsimp only at zF); (try k_sweep); (revert zF zN; intro _ _)) | ((with_reducible show wpAny _ _ (call (Value.builtin "len") [Value.ref _]) _ _ _); refine' Mine.m_len ?zzk1 ?zzk2 ?zzk3 ?_; (case zzk1 => k_asm); (case zzk2 => k_mem); (case zzk3 => first | lia | (simp only [List.length_cons, List.length_nil, List.length_map, PySem.strValues]; omega))) | ((with_reducible show wpAny _ _ (setAttr (Value.ref _) (PySem.Str.ofString "read") _) _ _ _); refine' Mine.fn_setAttr ?zzF ?zzN ?zzU ?_; (case zzF => k_asm); (case zzN => k_asm); (case zzU => k_updF); intro _ _ _ _ _ zN zl; (try dsimp only at zN); (try k_lt zl); (try k_sweep); (revert zN zl; intro _ _)) | ((with_reducible show wpAny _ _ (call (Value.builtin "list.pop") _) _ _ _); refine' Mine.m_pop0 ?zzF ?zzN ?zzU ?zzz ?_; (case zzF => k_asm); (case zzN => k_asm); (case zzU => k_upd); (case zzz => omega); intro _ _ zN; (try dsimp only at zN); (try k_sweep); (revert zN; intro _)) | ((with_reducible show wpAny _ _ (call (Value.builtin "str.join") _) _ _ _); refine' m_join (B := 2) ?zzk1 ?zzk2 ?zzk3 ?zzk4 ?_; (case zzk1 => k_asm); (case zzk2 => k_mem); (case zzk3 => assumption); (case zzk4 => omega); intro _ _) | ((with_reducible show wpAny _ _ (call (Value.type "list") [Value.str _ _]) _ _ _); refine' m_list_str ?zzk0 ?zzk1 ?zzk2 ?zzk3 ?_; (case zzk0 => rfl); (case zzk1 => k_asm); (case zzk2 => k_asm); (case zzk3 => omega); intro _ _ _ _ _ _ zl _ _; (try k_lt zl); (try k_sweep); (revert zl; intro _)) | (k_end; kc_close) | (walk1; (try dsimp only)) | (dsimp only; walk1) | (leave1; (try dsimp only)) | fail "no step"))
        · rename News _ _ _ _ => N2
          exact hret2 _ _ _ _ _ rfl (by assumption) (rd_unpack N2)
        · exfalso
          rename ¬ ((0:Int) < _) => hc
          exact hc (by simp only [List.length_cons]; lia)
end Mine
end
section
open PyProof.Rows.LCg
namespace Mine
set_option maxHeartbeats 4000000 in
theorem rc_code {prog : Program} {w : World} {p : Program} {loose : List Str} {mean : ExcName → Option Value} {mg mb : Str → Option Value}
  (dp un : Nat) (gd : Option (List Code)) (cn : Str) (cs : Scope) (x : Addr) (ccd : Value) (cl : List (Str × Addr)) (outer : List Env) (A₀ : Around) (base h₀ : Heap) (L : Addr) (m : Str → Option Value) (s : Shared)
  (RR : Result → Shared → Prop)
  (B : Below A₀ base outer h₀) (F : Fr h₀ L s.heap m) (X : (Mine.hd.heap_39 w.params).In h₀) (T : Top p loose mean mg mb h₀) (hk : cs.kind = .function) (CH : CodeHd base 92 90)
  (a : MA) (k : MK) (us : List (Str × Tok)) (n : Nat) (ln : Int) (tl : Tok) (ws : Str) (tb rest : List (Addr × Obj)) (hRd : RdSpec prog w p loose mean mg mb a (fnO k.fR) k.oC tb) (ho : a.ord) (htb : ∀ q ∈ tb, q ∈ rest)
  (hS : ∀ q ∈ rest, q.1 ≠ a.S) (hD : ∀ q ∈ rest, q.1 ≠ a.D) (N : News h₀ L s.heap (MLed w a k us n ln tl ws ++ rest)) (hlen : us.length < 100000) (hd : dp + 30 < recursionLimit) (hu : un + 120 < cLine)
  (hret : ∀ h' tk' tr n' ln' tl', Fr h₀ L h' m → News h₀ L h' (MLed w a k us.tail n' ln' tl' ws ++ rest) → RR (.ok (.ret (.str (hdS us) tr))) { s with heap := h', toks := tk' }) :
  codeAny (model prog w) (ktrTop dp un gd cn cs L x ccd cl outer) (.call (.ref 42) ⟨[.ref a.X], []⟩) RR s := by
  w_top off
  obtain ⟨hp, gn, dr, tk0, os⟩ := s
  obtain ⟨C, S, R, FF, FD, D, XX, PB⟩ := a
  obtain ⟨oC, fR, fdat, tw, k1, k2, k3, k4, kr⟩ := k
  dsimp only [MA.ord, List.cons_append, List.nil_append] at *
  k_dflt ((refine' code_def (binds := [(Str.ofString "self", .ref XX)]) ?k1 ?k2 ?k3 ?k4 ?k5 ?kA ?kF ?kK ?k6 ?k7 ?k8 ?k9 ?kB ?_ ?c2 ?c3 ?c4 ?c5; (case kA => exact rfl); (case kF => exact rfl); (case kK => first | exact rfl | assumption); (case k1 => k_asm); (case k2 => k_asm); (case k3 => k_asm); (case k4 => k_asm); (case k5 => k_asm); (case k6 => k_is); (case k7 => k_is); (case k8 => k_room); (case k9 => first | exact BindsTo.of_eq rfl | (refine' kp_binds ?kx ?ke; (case kx => k_in); (case ke => exact fun _ => rfl))); (case c5 => decide); (case kB => exact locs rfl); (case c2 => exact rfl); (case c3 => exact rfl); (case c4 => exact rfl); k_whole; intro g' L' h' FG' F' N' B' X' T'; (try dsimp only [List.reverse_cons, List.reverse_nil, List.nil_append, List.cons_append, List.length_cons, List.length_nil] at F'); (try dsimp only); (try k_fold)))
  clear F N
  (repeat' (first | (k_unfold; (try dsimp only)) | ((with_reducible show wpAny _ _ (storeName _ _ _) _ _ _); refine' storeX_L ?zzF ?zzN ?_ ?zza ?zzb; (case zzF => k_asm); (case zzN => k_asm); (case zza => rfl); (case zzb => rfl); k_whole; intro _ zF zN; (try dsimp only at zF); (try k_sweep); (revert zF zN; intro _ _)) | ((with_reducible show wpAny _ _ (getMethod (Value.ref _) (PySem.Str.ofString "read") _) _ _ _); refine' fn_methodN ?zzn ?zzx ?zzh ?_; (case zzn => k_asm); (case zzx => k_mem); (case zzh => k_mem)) | (k_end; kc_close) | (walk1; (try dsimp only)) | (dsimp only; walk1) | (leave1; (try dsimp only)) | fail "no step"))
  rename Fr _ _ _ _ => F1
  rename News _ _ _ _ => N1
  k_dflt (refine' hRd _ _ _ _ _ _ _ _ _ _ _ _ _ _ _ _ _ _ us n _ ?B F1 ?X N1 ?T ?hk CH ?hS ?hR ?hC ?htb ?hlen ?hd ?hu ?h1 ?h2)
  case B => exact B'
  case X => exact X'
  case T => exact T'
  case hk => rfl
  case hS =>
    intro q hq
    simp only [List.mem_cons] at hq
    rcases hq with rfl | rfl | rfl | rfl | rfl | rfl | rfl | hq
    iterate 7 (dsimp only; exact neN (by lia))
    exact hS q hq
  case hR => simp
  case hC => simp
  case htb => intro q hq; simp [htb q hq]
  case hlen => lia
  case hd => exact room1 hd (by decide)
  case hu => exact room3 hu (by decide)
  case h1 =>
    intro h2 tk2 he tk3 F2 N2
    clear F1 N1
    (repeat' (first | (k_unfold; (try dsimp only)) | ((with_reducible show wpAny _ _ (storeName _ _ _) _ _ _); refine' storeX_L ?zzF ?zzN ?_ ?zza ?zzb; (case zzF => k_asm); (case zzN => k_asm); (case zza => rfl); (case zzb => rfl); k_whole; intro _ zF zN; (try dsimp only at zF); (try k_sweep); (revert zF zN; intro _ _)) | ((with_reducible show wpAny _ _ (getMethod (Value.ref _) (PySem.Str.ofString "read") _) _ _ _); refine' fn_methodN ?zzn ?zzx ?zzh ?_; (case zzn => k_asm); (case zzx => k_mem); (case zzh => k_mem)) | (k_end; kc_close) | (walk1; (try dsimp only)) | (dsimp only; walk1) | (leave1; (try dsimp only)) | fail "no step"))
    rename Fr _ _ _ _ => FZ
    rename News _ _ _ _ => NZ
    subst he
    exact hret _ _ _ _ _ _ FZ NZ
  case h2 =>
    intro h2 tk2 c tc us2 he F2 N2
    clear F1 N1
    (repeat' (first | (k_unfold; (try dsimp only)) | ((with_reducible show wpAny _ _ (storeName _ _ _) _ _ _); refine' storeX_L ?zzF ?zzN ?_ ?zza ?zzb; (case zzF => k_asm); (case zzN => k_asm); (case zza => rfl); (case zzb => rfl); k_whole; intro _ zF zN; (try dsimp only at zF); (try k_sweep); (revert zF zN; intro _ _)) | ((with_reducible show wpAny _ _ (getMethod (Value.ref _) (PySem.Str.ofString "read") _) _ _ _); refine' fn_methodN ?zzn ?zzx ?zzh ?_; (case zzn => k_asm); (case zzx => k_mem); (case zzh => k_mem)) | (k_end; kc_close) | (walk1; (try dsimp only)) | (dsimp only; walk1) | (leave1; (try dsimp only)) | fail "no step"))
    all_goals (rename Fr _ _ _ _ => FZ; rename News _ _ _ _ => NZ; subst he; exact hret _ _ _ _ _ _ FZ NZ)
end Mine
end
section
open Sem (wp)
namespace Mine
theorem owner_fi : Manifest.owners.lookup (String.ofList ['r', 'o', 't', 'a', 'r', 'e', 't', 'i', '_', 'e', 'l', 'b', 'a', 'l', 'l', 'a', 'c'].reverse) = some Manifest.sig_callable_iterator := by kernel_rfl
theorem slot_fi_next : Slot "callable_iterator" "__next__" "callable_iterator.__next__" :=
  .of (owner := "callable_iterator") (n := "__next__") (by rw [typeLookup_type, builtinLookup_eq_fast]; kernel_rfl) (by decide +kernel) (by decide +kernel) (by decide +kernel)
    (by first | exact .inl (by decide +kernel) | exact .inr (by decide +kernel)) (by rw [isSubtype_type]; kernel_rfl)
theorem entry_fi_next : entryFor table "callable_iterator.__next__" = some Builtin.«callable_iterator.__next__» := entryFor_of_tree (by kernel_rfl)
theorem args_fi_next (a : Value) : argsOk "callable_iterator.__next__" ⟨[a], []⟩ := by
  unfold argsOk; rw [signature?_of (id := "callable_iterator.__next__") (n := ['_', '_', 't', 'x', 'e', 'n', '_', '_']) (o := ['r', 'o', 't', 'a', 'r', 'e', 't', 'i', '_', 'e', 'l', 'b', 'a', 'l', 'l', 'a', 'c']) (by kernel_rfl) owner_fi]; kernel_rfl
theorem slot_fi_iter : Slot "callable_iterator" "__iter__" "callable_iterator.__iter__" :=
  .of (owner := "callable_iterator") (n := "__iter__") (by rw [typeLookup_type, builtinLookup_eq_fast]; kernel_rfl) (by decide +kernel) (by decide +kernel) (by decide +kernel)
    (by first | exact .inl (by decide +kernel) | exact .inr (by decide +kernel)) (by rw [isSubtype_type]; kernel_rfl)
theorem args_fi_iter (a : Value) : argsOk "callable_iterator.__iter__" ⟨[a], []⟩ := by
  unfold argsOk; rw [signature?_of (id := "callable_iterator.__iter__") (n := ['_', '_', 'r', 'e', 't', 'i', '_', '_']) (o := ['r', 'o', 't', 'a', 'r', 'e', 't', 'i', '_', 'e', 'l', 'b', 'a', 'l', 'l', 'a', 'c']) (by kernel_rfl) owner_fi]; kernel_rfl
theorem entry_fi_iter : entryFor table "callable_iterator.__iter__" = some Builtin.«dict_keyiterator.__iter__» :=
  entryFor_alias (id' := "dict_keyiterator.__iter__") (by kernel_rfl) (by first | rfl | decide +kernel | (unfold String.splitOn; simp +decide [String.splitOnAux])) (by decide +kernel) (by kernel_rfl)
theorem plain_iter : plainId "iter" = true := by decide +kernel
theorem kind_iter : builtinKind "iter" = none := by decide +kernel
theorem entry_iter : entryFor table "iter" = some Builtin.«iter» := entryFor_of_tree (by kernel_rfl)
theorem args_iter (a b : Value) : argsOk "iter" ⟨[a, b], []⟩ := by unfold argsOk; kernel_rfl
theorem lk_meth_call : typeLookup (.type "method") "__call__" = pure (some (.builtin "method.__call__")) := by rw [typeLookup_type, builtinLookup_eq_fast]; kernel_rfl
abbrev fitObj (f : Value) (t : Tok) : Obj := { cls := .type "callable_iterator", data := .fields #[f, .str "" t, .bool false] }
section
variable {prog : Program} {w : World} {A : Around} {E : Value → Shared → Prop} {s : Shared}
theorem wp_callBorrowed {M : Model} {Γ : PySem.Ctx} {f : Value} {pos : List Value} {Q : Value → Pos → Shared → Prop} {E : Value → Pos → Shared → Prop} {p : Pos} :
    wp M Γ (callBorrowed f pos) Q E p s = wpCode M (Γ.enter (.call f ⟨pos, []⟩) none p) (fun r s' => match r with | .ok (.ret v) => Q v p s' | .ok _ => False | .error e => E e p s') p s := by
  unfold callBorrowed; rw [Sem.wp_call]; congr 1; funext r s'
  cases r with
  | error e => simp
  | ok f => cases f <;> simp
theorem wpAny_callBorrowed {M : Model} {f : Value} {pos : List Value} {Q : Value → Shared → Prop}
    (hc : codeAny M A (.call f ⟨pos, []⟩) (fun r s' => match r with | .ok (.ret v) => Q v s' | .ok _ => False | .error e => E e s') s) :
    wpAny M A (callBorrowed f pos) Q E s := fun Γ p hΓ => by
  rw [wp_callBorrowed]
  exact hc _ p rfl (hΓ.enter (.call f ⟨pos, []⟩) none p (by intro x; cases x))
theorem borrows_meth {q f x : Addr} {of : Obj} {fd : FuncData} {Q : Bool → Shared → Prop} (hq : s.heap.get? q = some (methodObj (.ref f) (.ref x))) (hf : s.heap.get? f = some of) (hd : of.data = .func fd) (h : Q true s) :
    wpAny (model prog w) A (borrowsExactly (.ref q)) Q E s := by
  unfold borrowsExactly
  refine wpAny_bind (wpAny_load hq ?_)
  dsimp only
  rw [if_pos (by decide +kernel)]
  refine wpAny_bind (wpAny_load hf ?_)
  rw [hd]
  exact wpAny_pure h
theorem fi_next {it q f x : Addr} {of : Obj} {fd : FuncData} {t : Tok} {Q : Option Value → Shared → Prop} (hh : A.handled = none) (hit : s.heap.get? it = some (fitObj (.ref q) t)) (hq : s.heap.get? q = some (methodObj (.ref f) (.ref x)))
    (hf : s.heap.get? f = some of) (hd : of.data = .func fd)
    (hc : codeAny (model prog w) A.in1 (.call (.ref f) ⟨[.ref x], []⟩) (fun r s' => match r with
      | .ok (.ret v) => ∃ u tu, v = .str u tu ∧ s'.heap.get? it = some (fitObj (.ref q) t) ∧ s'.heap.get? q = some (methodObj (.ref f) (.ref x)) ∧ s'.heap.get? f = some of ∧
        (u ≠ "" → Q (some (.str u tu)) s') ∧ (u = "" → ∀ h', Heap.ExtBut it s'.heap h' → Q none { s' with heap := h' })
      | _ => False) s) : wpAny (model prog w) A (pyNext (.ref it)) Q E s := by
  have hT : s.TypeIs (.ref it) "callable_iterator" := ⟨_, hit, rfl⟩
  unfold pyNext
  refine wpAny_bind (wpAny_attempt (wpAny_callSpecial?_slot (name := Str.ofString "__next__") hT slot_fi_next
    (wpAny_call_entry slot_fi_next hT entry_fi_next ?_ (args_fi_next _))))
  unfold Builtin.«callable_iterator.__next__»
  refine wpAny_bind (wpAny_of_eq (a := (Value.ref it, [])) rfl ?_)
  try dsimp only
  refine wpAny_bind (wpAny_field hit rfl (x := .bool false) rfl ?_)
  rw [if_neg (by decide)]
  refine wpAny_bind (wpAny_field hit rfl (x := .ref q) rfl ?_)
  refine wpAny_bind (wpAny_attempt ?_)
  unfold callOutOfASlot
  refine wpAny_bind (borrows_meth hq hf hd ?_)
  rw [if_pos rfl]
  refine wpAny_callBorrowed (method_call hq (codeAny_mono hc fun r s' hr => ?_))
  match r, hr with
  | .ok (.ret v), hr =>
    obtain ⟨u, tu, rfl, hit', hq', hf', h1, h2⟩ := hr
    dsimp only
    refine wpAny_bind (wpAny_field hit' rfl (x := .bool false) rfl ?_)
    rw [if_neg (by decide)]
    refine wpAny_bind (wpAny_field hit' rfl (x := .str "" t) rfl ?_)
    refine wpAny_bind (wpAny_holding (wpAny_eqBool_str ?_))
    by_cases hu : u = ""
    · rw [show (!(decide (("" : Str) = u))) = false by rw [hu]; decide, if_neg (by decide)]
      refine wpAny_bind (wpAny_rule ?_)
      refine wpAny_bind ?_
      change wpAny _ _ (field (.ref it) 0 >>= _) _ _ _
      refine wpAny_bind (wpAny_field hit' rfl (x := .ref q) rfl ?_)
      refine wpAny_bind ?_
      unfold slotLetsGo
      dsimp only
      refine wpAny_bind (borrows_meth hq' hf' hd ?_)
      rw [if_pos rfl]
      refine wpAny_pure ?_
      refine wpAny_bind (wpAny_setField hit' rfl (by simp) ?_)
      obtain ⟨hp', g', d', t', os'⟩ := s'
      dsimp only at hit' h2 ⊢
      have k1 := Heap.get?_update_self (Obj.mapFields fun x => x.setIfInBounds 0 Value.none) hit' (Obj.isFreed_of_fields (Obj.data_mapFields rfl _))
      refine wpAny_bind (wpAny_setField k1 rfl (by simp) ?_)
      have k2 := Heap.get?_update_self (Obj.mapFields fun x => x.setIfInBounds 1 Value.none) k1 (Obj.isFreed_of_fields (Obj.data_mapFields rfl _))
      refine wpAny_setField k2 rfl (by simp) ?_
      dsimp only
      unfold Builtin.SmallTypes.stopIteration
      show wpAny _ _ (newExc (.type "StopIteration") [] >>= _) _ _ _
      simp only [newExc, newTuple]
      refine wpAny_bind (wpAny_bind (wpAny_newObj_type ?_ (by size_fits)))
      refine wpAny_bind (m := firstArgMember _ _) (wpAny_of_eq (a := Value.none) (by first | rfl | (simp only [firstArgMember]; rfl)) ?_)
      refine wpAny_newObj_type ?_ (by size_fits)
      simp only [raiseNew]
      refine wpAny_bind (wpAny_handled ?_)
      rw [show A.in1.handled = none from hh]
      refine wpAny_bind (wpAny_pure (wpAny_throw ?_))
      refine wpAny_bind (wpAny_isInstance (T := "StopIteration") (b := true) ⟨_, Heap.get?_push_size _ rfl, rfl⟩ isSubtype_stop ?_)
      exact wpAny_pure (h2 hu _ (((((Heap.SameBut.update ..).extBut.trans (Heap.SameBut.update ..).extBut).trans (Heap.SameBut.update ..).extBut).push _).push _))
    · rw [show (!(decide (("" : Str) = u))) = true by rw [Bool.not_eq_true', decide_eq_false_iff_not]; exact fun h => hu h.symm, if_pos rfl]
      exact wpAny_pure ⟨_, rfl, wpAny_pure (h1 hu)⟩
  | .ok .next, hr => exact hr.elim
  | .ok .brk, hr => exact hr.elim
  | .ok .cont, hr => exact hr.elim
  | .error e, hr => exact hr.elim
theorem m_iter {h₀ : Heap} {L q f x : Addr} {m : Str → Option Value} {news : List (Addr × Obj)} {t : Tok} {Q : Value → Shared → Prop} (F : Fr h₀ L s.heap m) (N : News h₀ L s.heap news) (hq : (q, methodObj (.ref f) (.ref x)) ∈ news)
    (h : ∀ it h' tk, Fr h₀ L h' m → News h₀ L h' ((it, fitObj (.ref q) t) :: news) → (∀ p ∈ news, p.1 < it) → Q (.ref it) { s with heap := h', toks := tk }) : wpAny (model prog w) A (call (.builtin "iter") [.ref q, .str "" t]) Q E s := by
  have hT : s.TypeIs (.ref q) "method" := ⟨_, (N _ hq).1, rfl⟩
  refine call_function_entry kind_iter plain_iter entry_iter (args_iter _ _) ?_
  unfold Builtin.«iter»
  refine wpAny_bind (wpAny_of_eq (a := [Value.ref q, Value.str "" t]) (by first | rfl | kernel_rfl) ?_)
  dsimp only
  refine wpAny_bind (wpAny_specialOf hT lk_meth_call ?_)
  rw [if_neg (by decide)]
  refine wpAny_bind (wpAny_rule ?_)
  refine wpAny_bind (wpAny_newObj_type ?_ (by size_fits))
  exact wpAny_pure ⟨_, rfl, h _ _ _ (F.push _) (N.push F _) (fun p hp => Heap.lt_size (N p hp).1)⟩
theorem fi_iter {h₀ : Heap} {L q it : Addr} {news : List (Addr × Obj)} {t : Tok} {Q : Value → Shared → Prop} (N : News h₀ L s.heap news) (hq : (it, fitObj (.ref q) t) ∈ news)
    (h : Q (.ref it) s) : wpAny (model prog w) A (pyIter (.ref it)) Q E s := by
  have hT : s.TypeIs (.ref it) "callable_iterator" := ⟨_, (N _ hq).1, rfl⟩
  refine wpAny_pyIter_slot hT slot_fi_iter (wpAny_call_entry slot_fi_iter hT entry_fi_iter ?_ (args_fi_iter _))
  show wpAny _ _ (ret (.ref it)) _ _ s
  exact wpAny_pure ⟨_, rfl, "callable_iterator", _, hT, slot_fi_next.lookup, h⟩
theorem owit_ind {env : Env} {v : Str} {body : List Stmt} {Q : Flow → Shared → Prop} {I : Addr} {σ : Type} (St : σ → Shared → Prop) (μ : σ → Nat)
    (turn : ∀ c s, St c s → wpAny (model prog w) A (pyNext (.ref I)) (OwitTurn prog w A E env v body Q (fun s' => Hold (∃ c', St c' s' ∧ μ c' < μ c))) E s) : ∀ n c s, μ c < n → St c s → OwitRest prog w A E env v body Q I n s := by
  intro n
  induction n with
  | zero => intro c s h; lia
  | succ n ih =>
    intro c s hn hc
    refine OwitRest.succ (wpAny_mono (turn c s hc) (fun r s₁ hr => ?_) fun _ _ z => z)
    cases r with
    | none => exact hr
    | some y =>
      refine wpAny_mono hr (fun _ s₂ h₂ => wpAny_mono h₂ (fun f s₃ h₃ => ?_) fun _ _ z => z) fun _ _ z => z
      cases f with
      | next => obtain ⟨c', hc', hm⟩ := h₃; exact ih c' s₃ (by lia) hc'
      | cont => obtain ⟨c', hc', hm⟩ := h₃; exact ih c' s₃ (by lia) hc'
      | brk => exact h₃
      | ret _ => exact h₃
end
theorem occ_ch {ws : Str} {y : Nat} {b : Bool} (h : decide (y ∈ ws.cps.toList) = b) : (Builtin.Str.occurrences ws (ch y) 0 ws.length 1).isEmpty = !b := by
  have := StrLaws.found_one ws y
  rw [h] at this
  rw [← this, Bool.not_not]
theorem ch_ne {y c : Nat} {s : Str} (hs : s = ch c) (h : y ≠ c) : (ch y == s) = false := by
  rw [hs, beq_eq_false_iff_ne]; exact fun e => h (by simpa [ch] using e)
end Mine
end
section
open PyProof.Rows.LCg
namespace Mine
abbrev MLedR (w : World) (a : MA) (k : MK) (us : List (Str × Tok)) (n : Nat) (ln : Int) (tl : Tok) (ws : Str) (rest : List (Addr × Obj)) : List (Addr × Obj) := MLed w a k us n ln tl ws ++ rest
theorem fi_turn {prog : Program} {w : World} {p : Program} {loose : List Str} {mean : ExcName → Option Value} {mg mb : Str → Option Value}
  (dp un : Nat) (gd : Option (List Code)) (cn : Str) (cs : Scope) (x : Addr) (ccd : Value) (cl : List (Str × Addr)) (outer : List Env) (A₀ : Around) (base h₀ : Heap) (L : Addr) (m : Str → Option Value) (s : Shared)
  (Q : Option Value → Shared → Prop) (E : Value → Shared → Prop)
  (B : Below A₀ base outer h₀) (F : Fr h₀ L s.heap m) (X : (Mine.hd.heap_39 w.params).In h₀) (T : Top p loose mean mg mb h₀) (hk : cs.kind = .function) (CH : CodeHd base 92 90)
  (a : MA) (k : MK) (us : List (Str × Tok)) (n : Nat) (ln : Int) (tl : Tok) (ws : Str) (tb rest : List (Addr × Obj)) (hRd : RdSpec prog w p loose mean mg mb a (fnO k.fR) k.oC tb) (ho : a.ord) (htb : ∀ q ∈ tb, q ∈ rest)
  (it q : Addr) (t : Tok) (hit : @LT.lt Nat _ q it) (hq : @LT.lt Nat _ a.PB q)
  (hS : ∀ q ∈ rest, q.1 ≠ a.S) (hD : ∀ q ∈ rest, q.1 ≠ a.D) (hrit : ∀ q ∈ rest, q.1 ≠ it) (N : News h₀ L s.heap ((it, fitObj (.ref q) t) :: (q, methodObj (.ref 42) (.ref a.X)) :: (MLed w a k us n ln tl ws ++ rest))) (hlen : us.length < 1000) (hd : dp + 35 < recursionLimit) (hu : un + 130 < cLine)
  (hne : ∀ p ∈ us, p.1 ≠ "")
  (h1 : us = [] → ∀ h' tk' n' ln' tl', Fr h₀ L h' m → News h₀ L h' (MLed w a k [] n' ln' tl' ws ++ rest) → Q none { s with heap := h', toks := tk' })
  (h2 : ∀ c tc us', us = (c, tc) :: us' → ∀ h' tk' tr n' ln' tl', Fr h₀ L h' m → News h₀ L h' ((it, fitObj (.ref q) t) :: (q, methodObj (.ref 42) (.ref a.X)) :: (MLed w a k us' n' ln' tl' ws ++ rest)) → Q (some (.str c tr)) { s with heap := h', toks := tk' }) :
  wpAny (model prog w) (ktrTop dp un gd cn cs L x ccd cl outer) (pyNext (.ref it)) Q E s := by
  have ef : ∃ o fd, (Mine.hd.heap_39 w.params).lookup 42 = some o ∧ o.data = .func fd := ⟨_, _, rfl, rfl⟩
  obtain ⟨o, fd, e1, e2⟩ := ef
  have e3 := (X.keeps F.keep) _ _ e1
  have hswap : ∀ {us n ln tl h'}, News h₀ L h' ((it, fitObj (.ref q) t) :: (q, methodObj (.ref 42) (.ref a.X)) :: (MLed w a k us n ln tl ws ++ rest)) ↔ News h₀ L h' (MLed w a k us n ln tl ws ++ ((it, fitObj (.ref q) t) :: (q, methodObj (.ref 42) (.ref a.X)) :: rest)) := by
    intro us n ln tl h'
    constructor <;> intro N p hp <;> refine N p ?_ <;> (simp only [List.mem_append, List.mem_cons (a := p) (b := (it, fitObj (.ref q) t)), List.mem_cons (a := p) (b := (q, methodObj (.ref 42) (.ref a.X)))] at hp ⊢; first | (rcases hp with h | h | h | h <;> simp only [h, true_or, or_true]) )
  have hord := ho
  obtain ⟨C, S, R, FF, FD, D, XX, PB⟩ := a
  dsimp only [MA.ord] at hord hq
  refine fi_next (f := 42) (x := XX) (q := q) (t := t) (of := o) (fd := fd) rfl (N _ List.mem_cons_self).1 (N _ (List.mem_cons_of_mem _ List.mem_cons_self)).1 e3 e2 ?_
  refine rc_code dp (un+1) gd cn cs x ccd cl outer A₀ base h₀ L m s _ B F X T hk CH ⟨C, S, R, FF, FD, D, XX, PB⟩ k us n ln tl ws tb ((it, fitObj (.ref q) t) :: (q, methodObj (.ref 42) (.ref XX)) :: rest) hRd ho (fun z hz => List.mem_cons_of_mem _ (List.mem_cons_of_mem _ (htb z hz))) ?_ ?_ (hswap.mp N) (by lia) (by lia) (by lia) ?_
  · intro z hz
    rcases List.mem_cons.mp hz with rfl | hz
    · dsimp only; exact neN (by lia)
    · rcases List.mem_cons.mp hz with rfl | hz
      · dsimp only; exact neN (by lia)
      · exact hS z hz
  · intro z hz
    rcases List.mem_cons.mp hz with rfl | hz
    · dsimp only; exact neN (by lia)
    · rcases List.mem_cons.mp hz with rfl | hz
      · dsimp only; exact neN (by lia)
      · exact hD z hz
  · intro h' tk' tr n' ln' tl' F' N'
    have N2 := hswap.mpr N'
    dsimp only
    refine ⟨_, _, rfl, (N2 _ List.mem_cons_self).1, (N2 _ (List.mem_cons_of_mem _ List.mem_cons_self)).1, (X.keeps F'.keep) _ _ e1, ?_, ?_⟩
    · intro hne'
      cases us with
      | nil => exact absurd rfl hne'
      | cons p us' => exact h2 _ _ _ rfl _ _ _ _ _ _ F' N2
    · intro he h'' hb
      cases us with
      | cons p us' => exact absurd he (hne p List.mem_cons_self)
      | nil =>
        have hit2 := (N' (it, fitObj (.ref q) t) (by simp)).2
        have old : ∀ b o, h₀.get? b = some o → b ≠ it := fun b o e hb => by rw [hb, hit2.2] at e; cases e
        refine h1 rfl h'' _ n' ln' tl' ⟨F'.ns.at' fun o e => hb _ o (fun e' => hit2.1 e'.symm) e, fun b o e => hb b o (old b o e) (F'.keep b o e), F'.above⟩ fun z hz => ?_
        have hz' := N' z (List.mem_append.mpr ((List.mem_append.mp hz).imp id fun h => List.mem_cons_of_mem _ (List.mem_cons_of_mem _ h)))
        refine ⟨hb _ _ ?_ hz'.1, hz'.2⟩
        rcases List.mem_append.mp hz with hz | hz
        · simp only [List.mem_cons, List.not_mem_nil, or_false] at hz
          rcases hz with rfl | rfl | rfl | rfl | rfl | rfl | rfl | rfl <;> (dsimp only; exact neN (by lia))
        · exact hrit z hz
end Mine
end
section
open PyProof.Rows.LCg
namespace Mine
theorem nil_add (x : Str) : Str.ofString "" ++ x = x := by
  apply Str.ext'
  have e : (Str.ofString "").cps = #[] := by decide +kernel
  simp [Str.cps_append, e]
def gtTok : List Nat → Str
  | [] => ""
  | c :: _ => ch c
set_option maxHeartbeats 4000000 in
theorem gt_tells {prog : Program} {w : World} {p : Program} {loose : List Str} {mean : ExcName → Option Value} {mg mb : Str → Option Value}
  (dp un : Nat) (gd : Option (List Code)) (cn : Str) (cs : Scope) (x : Addr) (ccd : Value) (cl : List (Str × Addr)) (outer : List Env) (A₀ : Around) (base h₀ : Heap) (L : Addr) (m : Str → Option Value) (s : Shared)
  (Q E : Value → Shared → Prop)
  (B : Below A₀ base outer h₀) (F : Fr h₀ L s.heap m) (X : (Mine.hd.heap_39 w.params).In h₀) (T : Top p loose mean mg mb h₀) (hk : cs.kind = .function) (CH : CodeHd base 92 90)
  (a : MA) (k : MK) (us : List (Str × Tok)) (n : Nat) (ln : Int) (tl : Tok) (ws : Str) (tb rest : List (Addr × Obj)) (hRd : RdSpec prog w p loose mean mg mb a (fnO k.fR) k.oC tb) (ho : a.ord) (htb : ∀ q ∈ tb, q ∈ rest)
  (hS : ∀ q ∈ rest, q.1 ≠ a.S) (hD : ∀ q ∈ rest, q.1 ≠ a.D) (N : News h₀ L s.heap (MLed w a k us n ln tl ws ++ rest)) (hd : dp + 60 < recursionLimit) (hu : un + 200 < cLine)
  (ts : List Nat) (hus : us.map (·.1) = (sg ts).map ch) (hts : ts.length ≤ 20) (hok : ∀ c ∈ ts, c ≠ 34 ∧ c ≠ 92) (hsp : 32 ∈ ws.cps)
  (hret : ∀ h' tk' tr n' ln' tl' us' r, ts.dropWhile (ws.cps.contains ·) = r → us'.map (·.1) = (sg r.tail).map ch → Fr h₀ L h' m → News h₀ L h' (MLed w a k us' n' ln' tl' ws ++ rest) → Q (.str (gtTok r) tr) { s with heap := h', toks := tk' }) :
  wpAny (model prog w) (ktrTop dp un gd cn cs L x ccd cl outer) (call (.ref 49) [.ref a.X]) Q E s := by
  w_top off
  obtain ⟨hp, gn, dr, tk0, os⟩ := s
  obtain ⟨C, S, R, FF, FD, D, XX, PB⟩ := a
  obtain ⟨oC, fR, fdat, tw, k1, k2, k3, k4, kr⟩ := k
  dsimp only [MA.ord, List.cons_append, List.nil_append] at *
  refine wpAny_call ?_
  have ho9 : MA.ord ⟨C, S, R, FF, FD, D, XX, PB⟩ := ho
  k_dflt ((refine' code_def (binds := [(Str.ofString "self", .ref XX)]) ?k1 ?k2 ?k3 ?k4 ?k5 ?kA ?kF ?kK ?k6 ?k7 ?k8 ?k9 ?kB ?_ ?c2 ?c3 ?c4 ?c5; (case kA => exact rfl); (case kF => exact rfl); (case kK => first | exact rfl | assumption); (case k1 => k_asm); (case k2 => k_asm); (case k3 => k_asm); (case k4 => k_asm); (case k5 => k_asm); (case k6 => k_is); (case k7 => k_is); (case k8 => k_room); (case k9 => first | exact BindsTo.of_eq rfl | (refine' kp_binds ?kx ?ke; (case kx => k_in); (case ke => exact fun _ => rfl))); (case c5 => decide); (case kB => exact locs rfl); (case c2 => exact rfl); (case c3 => exact rfl); (case c4 => exact rfl); k_whole; intro g' L' h' FG' F' N' B' X' T'; (try dsimp only [List.reverse_cons, List.reverse_nil, List.nil_append, List.cons_append, List.length_cons, List.length_nil] at F'); (try dsimp only); (try k_fold)))
  clear F N
  (repeat' (first | (k_unfold; (try dsimp only)) | ((with_reducible show wpAny _ _ (storeName _ _ _) _ _ _); refine' storeX_L ?zzF ?zzN ?_ ?zza ?zzb; (case zzF => k_asm); (case zzN => k_asm); (case zza => rfl); (case zzb => rfl); k_whole; intro _ zF zN; (try dsimp only at zF); (try k_sweep); (revert zF zN; intro _ _)) | ((with_reducible show wpAny _ _ (exec (Stmt.For _ _ _ _ _) _) _ _ _); refine' owit_for ?_) | ((with_reducible show wpAny _ _ (pyIter (Value.ref _)) _ _ _); refine' fi_iter ?zzN ?zzq ?_; (case zzN => k_asm); (case zzq => k_mem)) | ((with_reducible show OwitAt _ _ _ _ _ _ _ _ _ _); refine Hold.out ?_) | ((with_reducible show wpAny _ _ (call (Value.builtin "iter") _) _ _ _); refine' m_iter ?zzF ?zzN ?zzq ?_; (case zzF => k_asm); (case zzN => k_asm); (case zzq => k_mem); intro _ _ _ _ _ zl; (try k_lt zl); (try k_sweep); (revert zl; intro _)) | ((with_reducible show wpAny _ _ (inplaceOp Operator.Add (Value.str _ _) (Value.str _ _)) _ _ _); refine' PyProof.Rows.iadd_str ?_ ?zzh; (case zzh => (rw [sizeLine_eq]; exact Nat.le_of_ble_eq_true rfl)); intro _ _) | (k_end; kc_close) | (walk1; (try dsimp only)) | (dsimp only; walk1) | (leave1; (try dsimp only)) | fail "no step"))
  rename Fr _ _ _ _ => F1
  rename News _ _ _ _ => N1
  rename_i tkb tka _ tkc q _ lq it _ _ lit _
  replace F1 := ksw_fr (stored := [Str.ofString "ch"]) (m₀ := fun _ => none) (ps := [(Str.ofString "fiter", Value.ref it), (Str.ofString "token", .str "" tka), (Str.ofString "self", .ref XX)]) (by kst_all) (by (intro z h2 h3; (simp only [List.forall_mem_cons, List.not_mem_nil, false_implies, implies_true, and_true, ne_eq] at h2); (simp only [List.contains_cons, List.contains_nil, Bool.or_false, Bool.or_eq_false_iff, beq_eq_false_iff_ne, ne_eq] at h3); (simp [kstB, h2, h3]; done))) F1
  refine Hold.mk (OwitAt.intro (owit_ind (σ := Bool × List Nat) (fun c s' => ∃ (h : Heap) (tk : Nat) (u : Str → Option Value) (us' : List (Str × Tok)) (n' : Nat) (ln' : Int) (tl' : Tok), s' = ⟨h, gn, dr, tk, os⟩ ∧ Fr g' L' h (kstB (fun z => if [Str.ofString "ch"].contains z then u z else none) [(Str.ofString "fiter", .ref it), (Str.ofString "token", .str "" tka), (Str.ofString "self", .ref XX)]) ∧
    News g' L' h ((it, fitObj (.ref q) (tkc + 1)) :: (q, methodObj (.ref 42) (.ref XX)) :: (MLed w ⟨C, S, R, FF, FD, D, XX, PB⟩ ⟨oC, fR, fdat, tw, k1, k2, k3, k4, kr⟩ us' n' ln' tl' ws ++ rest)) ∧ us'.map (·.1) = ((if c.1 then [32] else []) ++ sg c.2).map ch ∧ c.2.length ≤ 20 ∧ (∀ x ∈ c.2, x ∈ ts) ∧ c.2.dropWhile (ws.cps.contains ·) = ts.dropWhile (ws.cps.contains ·)) (fun c => 2 * c.2.length + (if c.1 then 1 else 0)) ?turn 64 (false, ts) _ ?lt ⟨_, _, _, us, n, ln, tl, rfl, F1, N1, hus, hts, fun _ h => h, rfl⟩))
  case lt => simp; lia
  case turn =>
    rintro ⟨b, cs'⟩ s₁ ⟨h, tk, u, us', n', ln', tl', rfl, F2, N2, hcs, hln, hin, hdw⟩
    dsimp only at hcs hln hin hdw
    clear F1 N1
    k_dflt (refine' fi_turn _ _ _ _ _ _ _ _ _ _ _ _ _ _ _ _ _ ?B ?F ?X ?T ?hk CH ⟨C, S, R, FF, FD, D, XX, PB⟩ ⟨oC, fR, fdat, tw, k1, k2, k3, k4, kr⟩ us' n' ln' tl' ws tb rest hRd ho htb _ _ _ ?h1 ?h2 hS hD ?h3 N2 ?h4 ?h5 ?h6 ?h7 ?h8 ?h9)
    case B => exact B'
    case F => exact F2
    case X => exact X'
    case T => exact T'
    case hk => rfl
    case h1 => exact lit.1
    case h2 => exact lq.2.2.2.1
    case h3 => exact fun z hz => Nat.ne_of_lt (allLt_mem lit.2.2.2.2.2.2.2.2.2 z hz)
    case h4 =>
      have e := congrArg List.length hcs
      simp only [List.length_map, List.length_append, sg_length] at e
      split at e <;> simp only [List.length_cons, List.length_nil] at e <;> lia
    case h5 => exact room1 hd (by decide)
    case h6 => exact room3 hu (by decide)
    case h7 =>
      intro p hp
      have : p.1 ∈ us'.map (·.1) := List.mem_map_of_mem hp
      rw [hcs] at this
      obtain ⟨y, _, e⟩ := List.mem_map.mp this
      rw [← e]
      exact fun h => by have := congrArg (fun s : Str => s.cps.size) h; simp at this; revert this; decide +kernel
    case h8 =>
      rintro rfl h2 tk2 n2 ln2 tl2 F3 N3
      have hr : cs' = [] := by
        cases cs' with
        | nil => rfl
        | cons y r => cases b <;> simp [sg] at hcs
      subst hr
      clear F2 N2
      dsimp only [List.cons_append, List.nil_append] at N3
      dsimp only [OwitTurn]
      (repeat' (first | (k_unfold; (try dsimp only)) | ((with_reducible show wpAny _ _ (storeName _ _ _) _ _ _); refine' storeX_L ?zzF ?zzN ?_ ?zza ?zzb; (case zzF => k_asm); (case zzN => k_asm); (case zza => rfl); (case zzb => rfl); k_whole; intro _ zF zN; (try dsimp only at zF); (try k_sweep); (revert zF zN; intro _ _)) | ((with_reducible show wpAny _ _ (exec (Stmt.For _ _ _ _ _) _) _ _ _); refine' owit_for ?_) | ((with_reducible show wpAny _ _ (pyIter (Value.ref _)) _ _ _); refine' fi_iter ?zzN ?zzq ?_; (case zzN => k_asm); (case zzq => k_mem)) | ((with_reducible show OwitAt _ _ _ _ _ _ _ _ _ _); refine Hold.out ?_) | ((with_reducible show wpAny _ _ (call (Value.builtin "iter") _) _ _ _); refine' m_iter ?zzF ?zzN ?zzq ?_; (case zzF => k_asm); (case zzN => k_asm); (case zzq => k_mem); intro _ _ _ _ _ zl; (try k_lt zl); (try k_sweep); (revert zl; intro _)) | ((with_reducible show wpAny _ _ (inplaceOp Operator.Add (Value.str _ _) (Value.str _ _)) _ _ _); refine' PyProof.Rows.iadd_str ?_ ?zzh; (case zzh => (rw [sizeLine_eq]; exact Nat.le_of_ble_eq_true rfl)); intro _ _) | (k_end; kc_close) | (walk1; (try dsimp only)) | (dsimp only; walk1) | (leave1; (try dsimp only)) | fail "no step"))
      rename Fr _ _ _ _ => FZ
      rename News _ _ _ _ => NZ
      exact hret _ _ _ _ _ _ [] [] hdw.symm rfl FZ NZ
    case h9 =>
      rintro c tc us2 rfl h2 tk2 tr n2 ln2 tl2 F3 N3
      clear F2 N2
      dsimp only [List.cons_append, List.nil_append] at N3
      cases b with
      | true =>
        have hc : c = ch 32 ∧ us2.map (·.1) = (sg cs').map ch := by simpa using hcs
        obtain ⟨rfl, hcs2⟩ := hc
        have ho : (Builtin.Str.occurrences ws (ch 32) 0 ws.length 1).isEmpty = false := occ_ch (b := true) (ws := ws) (y := 32) (by simpa using hsp)
        dsimp only [OwitTurn]
        (repeat' (first | (k_unfold; (try dsimp only)) | ((with_reducible show wpAny _ _ (storeName _ _ _) _ _ _); refine' storeX_L ?zzF ?zzN ?_ ?zza ?zzb; (case zzF => k_asm); (case zzN => k_asm); (case zza => rfl); (case zzb => rfl); k_whole; intro _ zF zN; (try dsimp only at zF); (try k_sweep); (revert zF zN; intro _ _)) | ((with_reducible show wpAny _ _ (exec (Stmt.For _ _ _ _ _) _) _ _ _); refine' owit_for ?_) | ((with_reducible show wpAny _ _ (pyIter (Value.ref _)) _ _ _); refine' fi_iter ?zzN ?zzq ?_; (case zzN => k_asm); (case zzq => k_mem)) | ((with_reducible show OwitAt _ _ _ _ _ _ _ _ _ _); refine Hold.out ?_) | ((with_reducible show wpAny _ _ (call (Value.builtin "iter") _) _ _ _); refine' m_iter ?zzF ?zzN ?zzq ?_; (case zzF => k_asm); (case zzN => k_asm); (case zzq => k_mem); intro _ _ _ _ _ zl; (try k_lt zl); (try k_sweep); (revert zl; intro _)) | ((with_reducible show wpAny _ _ (inplaceOp Operator.Add (Value.str _ _) (Value.str _ _)) _ _ _); refine' PyProof.Rows.iadd_str ?_ ?zzh; (case zzh => (rw [sizeLine_eq]; exact Nat.le_of_ble_eq_true rfl)); intro _ _) | (k_end; kc_close) | (walk1; (try dsimp only)) | (dsimp only; walk1) | (leave1; (try dsimp only)) | fail "no step"))
        rename Fr _ _ _ _ => FZ
        rename News _ _ _ _ => NZ
        replace FZ := ksw_fr (stored := [Str.ofString "ch"]) (m₀ := fun _ => none) (ps := [(Str.ofString "fiter", Value.ref it), (Str.ofString "token", .str "" tka),  (Str.ofString "self", .ref XX)]) (by kst_all) (by (intro z h2 h3; (simp only [List.forall_mem_cons, List.not_mem_nil, false_implies, implies_true, and_true, ne_eq] at h2); (simp only [List.contains_cons, List.contains_nil, Bool.or_false, Bool.or_eq_false_iff, beq_eq_false_iff_ne, ne_eq] at h3); (simp [kstB, h2, h3]; done))) FZ
        exact Hold.mk ⟨(false, cs'), ⟨_, _, _, us2, n2, ln2, tl2, rfl, FZ, NZ, hcs2, hln, hin, hdw⟩, by simp⟩
      | false =>
        cases cs' with
        | nil => simp [sg] at hcs
        | cons y r =>
          have hc : c = ch y ∧ us2.map (·.1) = ([32] ++ sg r).map ch := by
            have e : sg (y :: r) = y :: 32 :: sg r := rfl
            simpa [e] using hcs
          obtain ⟨rfl, hcs2⟩ := hc
          have hy := hok y (hin y List.mem_cons_self)
          have hy1 := ch_ne (s := "\"") rfl hy.1
          have hy2 := ch_ne (s := "\\") rfl hy.2
          by_cases hw : ws.cps.contains y = true
          · have ho : (Builtin.Str.occurrences ws (ch y) 0 ws.length 1).isEmpty = false := occ_ch (b := true) (ws := ws) (y := y) (by simpa using hw)
            dsimp only [OwitTurn]
            (repeat' (first | (k_unfold; (try dsimp only)) | ((with_reducible show wpAny _ _ (storeName _ _ _) _ _ _); refine' storeX_L ?zzF ?zzN ?_ ?zza ?zzb; (case zzF => k_asm); (case zzN => k_asm); (case zza => rfl); (case zzb => rfl); k_whole; intro _ zF zN; (try dsimp only at zF); (try k_sweep); (revert zF zN; intro _ _)) | ((with_reducible show wpAny _ _ (exec (Stmt.For _ _ _ _ _) _) _ _ _); refine' owit_for ?_) | ((with_reducible show wpAny _ _ (pyIter (Value.ref _)) _ _ _); refine' fi_iter ?zzN ?zzq ?_; (case zzN => k_asm); (case zzq => k_mem)) | ((with_reducible show OwitAt _ _ _ _ _ _ _ _ _ _); refine Hold.out ?_) | ((with_reducible show wpAny _ _ (call (Value.builtin "iter") _) _ _ _); refine' m_iter ?zzF ?zzN ?zzq ?_; (case zzF => k_asm); (case zzN => k_asm); (case zzq => k_mem); intro _ _ _ _ _ zl; (try k_lt zl); (try k_sweep); (revert zl; intro _)) | ((with_reducible show wpAny _ _ (inplaceOp Operator.Add (Value.str _ _) (Value.str _ _)) _ _ _); refine' PyProof.Rows.iadd_str ?_ ?zzh; (case zzh => (rw [sizeLine_eq]; exact Nat.le_of_ble_eq_true rfl)); intro _ _) | (k_end; kc_close) | (walk1; (try dsimp only)) | (dsimp only; walk1) | (leave1; (try dsimp only)) | fail "no step"))
            rename Fr _ _ _ _ => FZ
            rename News _ _ _ _ => NZ
            replace FZ := ksw_fr (stored := [Str.ofString "ch"]) (m₀ := fun _ => none) (ps := [(Str.ofString "fiter", Value.ref it), (Str.ofString "token", .str "" tka),  (Str.ofString "self", .ref XX)]) (by kst_all) (by (intro z h2 h3; (simp only [List.forall_mem_cons, List.not_mem_nil, false_implies, implies_true, and_true, ne_eq] at h2); (simp only [List.contains_cons, List.contains_nil, Bool.or_false, Bool.or_eq_false_iff, beq_eq_false_iff_ne, ne_eq] at h3); (simp [kstB, h2, h3]; done))) FZ
            exact Hold.mk ⟨(true, r), ⟨_, _, _, us2, n2, ln2, tl2, rfl, FZ, NZ, hcs2, by simp at hln ⊢; lia, fun z hz => hin z (List.mem_cons_of_mem _ hz), by rw [← hdw, List.dropWhile_cons, if_pos hw]⟩, by simp; lia⟩
          · have ho : (Builtin.Str.occurrences ws (ch y) 0 ws.length 1).isEmpty = true := occ_ch (b := false) (ws := ws) (y := y) (by simpa using hw)
            dsimp only [OwitTurn]
            (repeat' (first | (k_unfold; (try dsimp only)) | ((with_reducible show wpAny _ _ (storeName _ _ _) _ _ _); refine' storeX_L ?zzF ?zzN ?_ ?zza ?zzb; (case zzF => k_asm); (case zzN => k_asm); (case zza => rfl); (case zzb => rfl); k_whole; intro _ zF zN; (try dsimp only at zF); (try k_sweep); (revert zF zN; intro _ _)) | ((with_reducible show wpAny _ _ (exec (Stmt.For _ _ _ _ _) _) _ _ _); refine' owit_for ?_) | ((with_reducible show wpAny _ _ (pyIter (Value.ref _)) _ _ _); refine' fi_iter ?zzN ?zzq ?_; (case zzN => k_asm); (case zzq => k_mem)) | ((with_reducible show OwitAt _ _ _ _ _ _ _ _ _ _); refine Hold.out ?_) | ((with_reducible show wpAny _ _ (call (Value.builtin "iter") _) _ _ _); refine' m_iter ?zzF ?zzN ?zzq ?_; (case zzF => k_asm); (case zzN => k_asm); (case zzq => k_mem); intro _ _ _ _ _ zl; (try k_lt zl); (try k_sweep); (revert zl; intro _)) | ((with_reducible show wpAny _ _ (inplaceOp Operator.Add (Value.str _ _) (Value.str _ _)) _ _ _); refine' PyProof.Rows.iadd_str ?_ ?zzh; (case zzh => (rw [sizeLine_eq]; exact Nat.le_of_ble_eq_true rfl)); intro _ _) | (k_end; kc_close) | (walk1; (try dsimp only)) | (dsimp only; walk1) | (leave1; (try dsimp only)) | fail "no step"))
            rename Fr _ _ _ _ => F4
            rename News _ _ _ _ => N4
            have hcs3 : us2.map (·.1) = ch 32 :: (sg r).map ch := hcs2
            refine Hold.mk (OwitAt.intro (OwitRest.succ ?_))
            k_dflt (refine' fi_turn _ _ _ _ _ _ _ _ _ _ _ _ _ _ _ _ _ ?B ?F ?X ?T ?hk CH ⟨C, S, R, FF, FD, D, XX, PB⟩ ⟨oC, fR, fdat, tw, k1, k2, k3, k4, kr⟩ us2 n2 ln2 tl2 ws tb rest hRd ho9 htb _ _ _ ?h1 ?h2 hS hD ?h3 N4 ?h4 ?h5 ?h6 ?h7 ?h8 ?h9)
            case B => exact B'
            case F => exact F4
            case X => exact X'
            case T => exact T'
            case hk => rfl
            case h1 => exact lit.1
            case h2 => exact lq.2.2.2.1
            case h3 => exact fun z hz => Nat.ne_of_lt (allLt_mem lit.2.2.2.2.2.2.2.2.2 z hz)
            case h4 =>
              have e := congrArg List.length hcs3
              simp only [List.length_map, List.length_cons, sg_length] at e hln; lia
            case h5 => exact room1 hd (by decide)
            case h6 => exact room3 hu (by decide)
            case h7 =>
              intro p hp
              have : p.1 ∈ us2.map (·.1) := List.mem_map_of_mem hp
              rw [hcs2] at this
              obtain ⟨y, _, e⟩ := List.mem_map.mp this
              rw [← e]
              exact fun h => by have := congrArg (fun s : Str => s.cps.size) h; simp at this; revert this; decide +kernel
            case h8 => rintro rfl; simp at hcs3
            case h9 =>
              rintro c3 tc3 us3 rfl h3 tk3 tr3 n3 ln3 tl3 F5 N5
              clear F4 N4
              dsimp only [List.cons_append, List.nil_append] at N5
              have hc : c3 = ch 32 ∧ us3.map (·.1) = (sg r).map ch := by simpa using hcs3
              obtain ⟨rfl, hcs4⟩ := hc
              have ho5 : (Builtin.Str.occurrences ws (ch 32) 0 ws.length 1).isEmpty = false := occ_ch (b := true) (ws := ws) (y := 32) (by simpa using hsp)
              dsimp only [OwitTurn]
              clear ho
              (repeat' (first | (k_unfold; (try dsimp only)) | ((with_reducible show wpAny _ _ (storeName _ _ _) _ _ _); refine' storeX_L ?zzF ?zzN ?_ ?zza ?zzb; (case zzF => k_asm); (case zzN => k_asm); (case zza => rfl); (case zzb => rfl); k_whole; intro _ zF zN; (try dsimp only at zF); (try k_sweep); (revert zF zN; intro _ _)) | ((with_reducible show wpAny _ _ (exec (Stmt.For _ _ _ _ _) _) _ _ _); refine' owit_for ?_) | ((with_reducible show wpAny _ _ (pyIter (Value.ref _)) _ _ _); refine' fi_iter ?zzN ?zzq ?_; (case zzN => k_asm); (case zzq => k_mem)) | ((with_reducible show OwitAt _ _ _ _ _ _ _ _ _ _); refine Hold.out ?_) | ((with_reducible show wpAny _ _ (call (Value.builtin "iter") _) _ _ _); refine' m_iter ?zzF ?zzN ?zzq ?_; (case zzF => k_asm); (case zzN => k_asm); (case zzq => k_mem); intro _ _ _ _ _ zl; (try k_lt zl); (try k_sweep); (revert zl; intro _)) | ((with_reducible show wpAny _ _ (inplaceOp Operator.Add (Value.str _ _) (Value.str _ _)) _ _ _); refine' PyProof.Rows.iadd_str ?_ ?zzh; (case zzh => (rw [sizeLine_eq]; exact Nat.le_of_ble_eq_true rfl)); intro _ _) | (k_end; kc_close) | (walk1; (try dsimp only)) | (dsimp only; walk1) | (leave1; (try dsimp only)) | fail "no step"))
              rename Fr _ _ _ _ => FZ
              rename News _ _ _ _ => NZ
              rw [nil_add]
              exact hret _ _ _ _ _ _ us3 (y :: r) (by rw [← hdw, List.dropWhile_cons, if_neg hw]) hcs4 FZ (m_tail (m_tail NZ))
end Mine
end
section
open PyProof.Rows.LCg
namespace Mine
theorem cat_eq (a b : List Nat) : (⟨a.toArray⟩ : Str) ++ ⟨b.toArray⟩ = ⟨(a ++ b).toArray⟩ := by
  apply Str.ext'
  simp [Str.cps_append]
theorem sl_to {x : Str} {j : Nat} (h : j ≤ x.cps.toList.length) : Txt.slice x none (some (j : Int)) = ⟨(x.cps.toList.take j).toArray⟩ := by
  have := StrLaws.sliceText_to (x := x) (j := (j : Int)) ⟨by lia, by lia⟩
  show StrLaws.sliceText x none (some (j : Int)) = _
  rw [this]; simp
theorem sl_from {x : Str} {j : Nat} (h : j ≤ x.cps.toList.length) : Txt.slice x (some (j : Int)) none = ⟨(x.cps.toList.drop j).toArray⟩ := by
  have := StrLaws.sliceText_from (x := x) (i := (j : Int)) ⟨by lia, by lia⟩
  show StrLaws.sliceText x (some (j : Int)) none = _
  rw [this]
  congr 2
  rw [Int.toNat_natCast]
  exact List.take_of_length_le (by simp)
section
variable {prog : Program} {w : World} {A : Around} {E : Value → Shared → Prop} {s : Shared} {Q : Value → Shared → Prop}
theorem s_len {l : List Nat} {t : Tok} (hf : l.length < 1000000) (h : ∀ t' k', Q (.int (l.length : Int) t') { s with toks := k' }) : wpAny (model prog w) A (call (.builtin "len") [.str ⟨l.toArray⟩ t]) Q E s :=
  PyProof.Rows.len_str (by show ¬ ((l.toArray.size : Nat) : Int) ≥ _; rw [List.size_toArray]; lia) (h _ _)
theorem s_item {value slice : Expr} {x : Str} {k : Int} {c : Nat} {t u : Tok} (h0 : 0 ≤ k) (hf : k < 1000000) (hx : x.cps.toList[k.toNat]? = some c) (h : ∀ t' k', Q (.str (ch c) t') { s with toks := k' })
    (hs : subscripted slice false (.str x t) (.int k u) = operate [.str x t, .int k u] (getItem (.str x t) (.int k u)) := by with_unfolding_all rfl)
    (ht : ∀ r, letTemporaryGo value (.str x t) r = pure () := by intro _; with_unfolding_all rfl) :
    wpAny (model prog w) A (subscriptTail value slice (.str x t) (.int k u)) Q E s := by
  have hlt : k.toNat < x.length := by
    have := (List.getElem?_eq_some_iff.mp hx).1
    simpa [Str.length] using this
  have e : Txt.item x k = ch c := by
    have hx' : x.cps[k.toNat]? = some c := by simpa using hx
    have e1 : Txt.charAt x k = some c := by
      unfold Txt.charAt seqIndex?
      simp only [if_neg (show ¬ k < 0 by lia)]
      rw [if_pos (by simp; lia)]
      exact hx'
    unfold Txt.item
    rw [e1]; rfl
  have := PyProof.Rows.item_str (prog := prog) (w := w) (A := A) (E := E) (s := s) (Q := Q) (value := value) (slice := slice) (x := x) (t := t) (i := k) (u := u) (by first | exact fitsSsize_of (N := 9223372036854775808) (by lia) (by lia) (Int.le_refl _)) (by lia) (by lia) (fun _ => by rw [e]; exact h _ _) hs ht
  exact this
theorem m_append {h₀ : Heap} {L D : Addr} {m : Str → Option Value} {news news' : List (Addr × Obj)} {vs : List Value} {n : Nat} {x : Value} (F : Fr h₀ L s.heap m) (N : News h₀ L s.heap news) (U : Upd D (W.listOf vs.toArray n) (W.listOf (vs ++ [x]).toArray (n + 1)) news news')
    (hz : vs.length < 1000000) (h : ∀ h', Fr h₀ L h' m → News h₀ L h' news' → Q .none { s with heap := h' }) : wpAny (model prog w) A (call (.builtin "list.append") [.ref D, x]) Q E s :=
  append_K F N (by rw [List.push_toArray]; exact U) h (by rw [sizeLine_eq, List.size_toArray]; lia)
theorem sp_eq : Str.ofString " " = ⟨[32].toArray⟩ := by decide +kernel
theorem no_eq : Str.ofString "" = ⟨([] : List Nat).toArray⟩ := by decide +kernel
theorem dots_eq : Str.ofString "..." = ⟨[46, 46, 46].toArray⟩ := by decide +kernel
theorem s_add {x y : Str} {l1 l2 : List Nat} {t u : Tok} (hx : x = ⟨l1.toArray⟩) (hy : y = ⟨l2.toArray⟩) (h1 : l1.length < 100000) (h2 : l2.length < 100000) (h : ∀ t' k', Q (.str ⟨(l1 ++ l2).toArray⟩ t') { s with toks := k' }) :
    wpAny (model prog w) A (binaryOp .Add (.str x t) (.str y u)) Q E s := by
  subst hx hy
  rw [← cat_eq] at h
  exact PyProof.Rows.add_str h (by rw [sizeLine_eq]; simp only [Str.length, List.size_toArray]; lia)
theorem m_catl {h₀ : Heap} {L l b : Addr} {m : Str → Option Value} {news : List (Addr × Obj)} {vs ws : List Value} {n n2 : Nat} (F : Fr h₀ L s.heap m) (N : News h₀ L s.heap news) (hl : (l, W.listOf vs.toArray n) ∈ news) (hb : (b, W.listOf ws.toArray n2) ∈ news)
    (h1 : vs.length < 100000) (h2 : ws.length < 100000)
    (h : ∀ D h', (∀ p ∈ news, p.1 < D) → Fr h₀ L h' m → News h₀ L h' ((D, W.listOf (vs ++ ws).toArray 0) :: news) → Q (.ref D) { s with heap := h' }) :
    wpAny (model prog w) A (binaryOp .Add (.ref l) (.ref b)) Q E s :=
  add_lists F N (m_isList N hl) (m_isList N hb) (fun h' F' N' => h _ h' (fun p hp => Heap.lt_size (N p hp).1) F' N') (by rw [sizeLine_eq]; lia)
end
end Mine
end
section
open PyProof.Rows.LCg
namespace Mine
theorem mach_any {prog : Program} {w : World} {p : Program} {loose : List Str} {mean : ExcName → Option Value} {mg mb : Str → Option Value}
  (dp un : Nat) (gd : Option (List Code)) (cn : Str) (cs : Scope) (a : Addr) (ccd : Value) (cl : List (Str × Addr)) (outer : List Env) (A₀ : Around) (base h₀ : Heap) (L : Addr) (m : Str → Option Value) (news : List (Addr × Obj)) (s : Shared)
  (Q E : Value → Shared → Prop)
  (B : Below A₀ base outer h₀) (F : Fr h₀ L s.heap m) (X : (Mine.hd.heap_39 w.params).In h₀) (N : News h₀ L s.heap news) (T : Top p loose mean mg mb h₀) (hk : cs.kind = .function) (CH : CodeHd base 92 90)
  (ts : List Nat) (t tw : Tok) (ws : Str) (tb rest : List (Addr × Obj)) (hT : TabOK tb) (hn : news = tb ++ rest) (hr : ∀ q ∈ tb, ∀ p ∈ rest, q.1 ≠ p.1)
  (hts : ts.length < 1000) (hd : dp + 20 < recursionLimit) (hu : un + 100 < cLine)
  (hret : ∀ (a : MA) (k : MK) (tb' : List (Addr × Obj)) (Tp : Addr) (tl : Tok) (us : List (Str × Tok)) (n : Nat) h' tk', us.map (·.1) = (sg ts).map ch → a.ord → (∀ q ∈ rest, @LT.lt Nat _ q.1 a.C) → @LT.lt Nat _ 90 a.C → @LT.lt Nat _ a.PB Tp → TabOK tb' →
    (∀ q ∈ tb', q.1 ≠ a.S ∧ q.1 ≠ a.D ∧ @LT.lt Nat _ q.1 Tp ∧ ∀ p ∈ rest, q.1 ≠ p.1) → RdSpec prog w p loose mean mg mb a (fnO k.fR) k.oC tb' → Fr h₀ L h' m → News h₀ L h' ((Tp, { cls := .type "tuple", data := .seq #[.ref a.X, .ref a.S] }) :: (MLed w a k us n 1 tl ws ++ tb' ++ rest)) → Q (.ref Tp) { s with heap := h', toks := tk' }) :
  wpAny (model prog w) (ktrTop dp un gd cn cs L a ccd cl outer) (call (.ref 93) [.str ⟨ts.toArray⟩ t, .str ws tw]) Q E s := by
  subst hn
  rcases hT with rfl | ⟨c1, c2, oc, vs, tq, rfl, h1, h2⟩
  · exact mach_fresh dp un gd cn cs a ccd cl outer A₀ base h₀ L m _ s Q E B F X N T hk CH ts t tw ws rest rfl (fun p hp e => hr _ List.mem_cons_self p hp e.symm) hts hd hu hret
  · exact mach_hit dp un gd cn cs a ccd cl outer A₀ base h₀ L m _ s Q E B F X N T hk CH ts t tw ws rest c1 c2 oc vs tq h1 h2 rfl (fun p hp e => hr _ List.mem_cons_self p hp e.symm) (fun p hp e => hr _ (List.mem_cons_of_mem _ List.mem_cons_self) p hp e.symm) hts hd hu hret
end Mine
end
section
open PyProof.Rows.LCg
namespace Mine
def plFrom : Nat → List Nat → Nat → List Int
  | _, [], _ => []
  | i, t :: r, c => if t = c then ((i : Int) + 1) :: plFrom (i+1) r c else plFrom (i+1) r c
theorem m_drop8 {h₀ h : Heap} {L : Addr} {e1 e2 e3 e4 e5 e6 e7 e8 : Addr × Obj} {l : List (Addr × Obj)} (N : News h₀ L h (e1 :: e2 :: e3 :: e4 :: e5 :: e6 :: e7 :: e8 :: l)) : News h₀ L h l := m_tail (m_tail (m_tail (m_tail (m_tail (m_tail (m_tail (m_tail N)))))))
theorem intsAre_snoc {vs : List Value} {ns : List Int} (h : IntsAre vs ns) (n : Int) (t : Tok) : IntsAre (vs ++ [.int n t]) (ns ++ [n]) := by
  induction h with
  | nil => exact .cons n t .nil
  | cons a b h ih => exact .cons a b ih
theorem pl_drop (c : Nat) (p : Nat → Bool) : ∀ (r : List Nat) (i : Nat), (∀ x ∈ r, (p x = true ↔ x ≠ c)) → (r.dropWhile p = [] ∧ plFrom i r c = []) ∨ ∃ r4, r.dropWhile p = c :: r4 ∧ r4.length < r.length ∧ (∀ x ∈ r4, x ∈ r) ∧ plFrom i r c = ((i + (r.length - r4.length) : Nat) : Int) :: plFrom (i + (r.length - r4.length)) r4 c
  | [], i, _ => .inl ⟨rfl, rfl⟩
  | x :: r, i, h => by
    by_cases hx : x = c
    · refine .inr ⟨r, ?_, by simp, fun y hy => List.mem_cons_of_mem _ hy, ?_⟩
      · rw [List.dropWhile_cons, if_neg (fun e => (h x List.mem_cons_self).mp e hx), hx]
      · rw [plFrom, if_pos hx, show i + ((x :: r).length - r.length) = i + 1 by simp]; rfl
    · have hp := (h x List.mem_cons_self).mpr hx
      rw [List.dropWhile_cons, if_pos hp, plFrom, if_neg hx]
      rcases pl_drop c p r (i+1) (fun y hy => h y (List.mem_cons_of_mem _ hy)) with h1 | ⟨r4, h1, h2, h3, h4⟩
      · exact .inl h1
      · refine .inr ⟨r4, h1, by simp; lia, fun y hy => List.mem_cons_of_mem _ (h3 y hy), ?_⟩
        rw [h4, show i + 1 + (r.length - r4.length) = i + ((x :: r).length - r4.length) by simp; lia]
theorem blanks_eq (l0 l1 l2 : Nat) {k : Nat} (hk : k < 3) : Str.ofString " " ++ Txt.slice ⟨#[l0, l1, l2]⟩ none (some (k : Int)) ++ Txt.slice ⟨#[l0, l1, l2]⟩ (some ((k : Int) + 1)) none = ⟨(32 :: [l0,l1,l2].eraseIdx k).toArray⟩ := by
  have e0 : Str.ofString " " = ⟨[32].toArray⟩ := by decide +kernel
  have e1 : ((k : Int) + 1) = ((k + 1 : Nat) : Int) := by lia
  rw [e0, e1, sl_to (by simp; lia), sl_from (by simp; lia), cat_eq, cat_eq]
  obtain rfl | rfl | rfl : k = 0 ∨ k = 1 ∨ k = 2 := by lia
  all_goals rfl
set_option maxHeartbeats 4000000 in
theorem pl_tells {prog : Program} {w : World} {p : Program} {loose : List Str} {mean : ExcName → Option Value} {mg mb : Str → Option Value}
  (dp un : Nat) (gd : Option (List Code)) (cn : Str) (cs : Scope) (a : Addr) (ccd : Value) (cl : List (Str × Addr)) (outer : List Env) (A₀ : Around) (base h₀ : Heap) (L : Addr) (m : Str → Option Value) (news : List (Addr × Obj)) (s : Shared)
  (Q E : Value → Shared → Prop)
  (B : Below A₀ base outer h₀) (F : Fr h₀ L s.heap m) (X : (Mine.hd.heap_39 w.params).In h₀) (N : News h₀ L s.heap news) (T : Top p loose mean mg mb h₀) (hk : cs.kind = .function) (CH : CodeHd base 92 90)
  (ts : List Nat) (l0 l1 l2 k : Nat) (t u v : Tok) (tb rest : List (Addr × Obj)) (hT : TabOK tb) (hn : news = tb ++ rest) (hr : ∀ q ∈ tb, ∀ p ∈ rest, q.1 ≠ p.1)
  (hts : ts.length ≤ 20) (hk3 : k < 3) (hok : ∀ x ∈ ts, x ≠ 34 ∧ x ≠ 92) (hwk : ∀ x ∈ ts, ((32 :: [l0, l1, l2].eraseIdx k).contains x = true ↔ x ≠ [l0, l1, l2].getD k 0)) (hd : dp + 100 < recursionLimit) (hu : un + 400 < cLine)
  (hret : ∀ l n vs tb' h' tk', IntsAre vs (plFrom 0 ts ([l0,l1,l2].getD k 0)) → TabOK tb' → (∀ q ∈ rest, @LT.lt Nat _ q.1 l) → @LT.lt Nat _ 90 l → (∀ q ∈ tb', (∀ p ∈ rest, q.1 ≠ p.1) ∧ @LT.lt Nat _ q.1 l) → Fr h₀ L h' m → News h₀ L h' ((l, W.listOf vs.toArray n) :: (tb' ++ rest)) → Q (.ref l) { s with heap := h', toks := tk' }) :
  wpAny (model prog w) (ktrTop dp un gd cn cs L a ccd cl outer) (call (.ref 100) [.str ⟨ts.toArray⟩ t, .str ⟨#[l0,l1,l2]⟩ u, .int k v]) Q E s := by
  w_top off
  obtain ⟨hp, gn, dr, tk0, os⟩ := s
  dsimp only at *
  subst hn
  refine wpAny_call ?_
  k_dflt ((refine' code_def (binds := [(Str.ofString "text", .str ⟨ts.toArray⟩ t), (Str.ofString "letters", .str ⟨#[l0,l1,l2]⟩ u), (Str.ofString "k", .int k v)]) ?k1 ?k2 ?k3 ?k4 ?k5 ?kA ?kF ?kK ?k6 ?k7 ?k8 ?k9 ?kB ?_ ?c2 ?c3 ?c4 ?c5; (case kA => exact rfl); (case kF => exact rfl); (case kK => first | exact rfl | assumption); (case k1 => k_asm); (case k2 => k_asm); (case k3 => k_asm); (case k4 => k_asm); (case k5 => k_asm); (case k6 => k_is); (case k7 => k_is); (case k8 => k_room); (case k9 => first | exact BindsTo.of_eq rfl | (refine' kp_binds ?kx ?ke; (case kx => k_in); (case ke => exact fun _ => rfl))); (case c5 => decide); (case kB => exact locs rfl); (case c2 => exact rfl); (case c3 => exact rfl); (case c4 => exact rfl); k_whole; intro g' L' h' FG' F' N' B' X' T'; (try dsimp only [List.reverse_cons, List.reverse_nil, List.nil_append, List.cons_append, List.length_cons, List.length_nil] at F'); (try dsimp only); (try k_fold)))
  clear F N
  (repeat' (first | (k_unfold; (try dsimp only)) | ((with_reducible show wpAny _ _ (exec (Stmt.While _ _ _ _) _) _ _ _); refine Mine.Hold.out ?_) | ((with_reducible show wpAny _ _ (storeName _ _ _) _ _ _); refine' storeX_L ?zzF ?zzN ?_ ?zza ?zzb; (case zzF => k_asm); (case zzN => k_asm); (case zza => rfl); (case zzb => rfl); k_whole; intro _ zF zN; (try dsimp only at zF); (try k_sweep); (revert zF zN; intro _ _)) | ((with_reducible show wpAny _ _ (call (Value.builtin "len") [Value.str (Str.mk (List.toArray _)) _]) _ _ _); refine' Mine.s_len ?zzk3 ?_; (case zzk3 => first | lia | (simp only [List.length_append, List.length_cons, List.length_nil]; lia)); intro _ _) | ((with_reducible show wpAny _ _ (call (Value.builtin "len") [Value.ref _]) _ _ _); refine' Mine.m_len ?zzk1 ?zzk2 ?zzk3 ?_; (case zzk1 => k_asm); (case zzk2 => k_mem); (case zzk3 => first | lia | (simp only [List.length_cons, List.length_nil, List.length_map, PySem.strValues]; omega))) | ((with_reducible show wpAny _ _ (call (Value.builtin _) [Value.ref _, _]) _ _ _); refine' Mine.m_append ?zzk1 ?zzk2 ?zzk3 ?zzz ?_; (case zzk1 => k_asm); (case zzk2 => k_asm); (case zzk3 => k_upd); (case zzz => lia); intro _ _ zN; (try dsimp only at zN); (try k_sweep); (revert zN; intro _)) | ((with_reducible show wpAny _ _ (binaryOp Operator.Add (Value.str _ _) (Value.str _ _)) _ _ _); refine' Mine.s_add ?zzk1 ?zzk2 ?zzk3 ?zzk4 ?_; (case zzk1 => first | exact Mine.sp_eq | exact Mine.no_eq | exact Mine.dots_eq | with_reducible exact rfl); (case zzk2 => first | exact Mine.sp_eq | exact Mine.no_eq | exact Mine.dots_eq | with_reducible exact rfl); (case zzk3 => first | assumption | lia | (simp only [List.length_append, List.length_cons, List.length_nil]; lia)); (case zzk4 => first | assumption | lia | (simp only [List.length_append, List.length_cons, List.length_nil]; lia)); intro _ _) | ((with_reducible show wpAny _ _ (subscriptTail (Expr.Name _ _) (Expr.Name _ _) (Value.str _ _) (Value.int _ _)) _ _ _); refine' Mine.s_item ?zzh0 ?zzh1 ?zzh2 ?_; (case zzh0 => lia); (case zzh1 => lia); (case zzh2 => assumption); intro _ _) | (first | (with_reducible show wpAny _ _ (call (Value.ref 93) _) _ _ _) | (with_reducible show wpAny _ _ (call (Value.ref 49) _) _ _ _)); (refine Hold.out ?_) | (k_end; kc_close) | (walk1; (try dsimp only)) | (dsimp only; walk1) | (leave1; (try dsimp only)) | fail "no step"))
  rename Fr _ _ _ _ => F1
  rename News _ _ _ _ => N1
  refine Hold.mk ?_
  rw [blanks_eq l0 l1 l2 hk3]
  k_dflt (refine' mach_any _ _ _ _ _ _ _ _ _ _ _ _ _ _ _ _ _ _ ?B F1 ?X N1 ?T ?hk CH ts t _ _ tb rest hT rfl hr ?h1 ?h2 ?h3 ?_)
  case B => exact B'
  case X => exact X'
  case T => exact T'
  case hk => rfl
  case h1 => lia
  case h2 => exact room1 hd (by decide)
  case h3 => exact room3 hu (by decide)
  intro ma mk tb' Tp tl us n h2 tk2 hus ho hlt h90 hTp htab hap hRd F2 N2
  dsimp only [List.cons_append, List.nil_append] at N2
  clear F1 N1
  have hoo := ho
  dsimp only [MA.ord] at hoo
  have hrest : AllLt Tp rest := allLt_of fun p hp => Nat.lt_of_lt_of_le (hlt p hp) (by lia)
  have htb' : AllLt Tp tb' := allLt_of fun p hp => (hap p hp).2.2.1
  (repeat' (first | (k_unfold; (try dsimp only)) | ((with_reducible show wpAny _ _ (exec (Stmt.While _ _ _ _) _) _ _ _); refine Mine.Hold.out ?_) | ((with_reducible show wpAny _ _ (storeName _ _ _) _ _ _); refine' storeX_L ?zzF ?zzN ?_ ?zza ?zzb; (case zzF => k_asm); (case zzN => k_asm); (case zza => rfl); (case zzb => rfl); k_whole; intro _ zF zN; (try dsimp only at zF); (try k_sweep); (revert zF zN; intro _ _)) | ((with_reducible show wpAny _ _ (call (Value.builtin "len") [Value.str (Str.mk (List.toArray _)) _]) _ _ _); refine' Mine.s_len ?zzk3 ?_; (case zzk3 => first | lia | (simp only [List.length_append, List.length_cons, List.length_nil]; lia)); intro _ _) | ((with_reducible show wpAny _ _ (call (Value.builtin "len") [Value.ref _]) _ _ _); refine' Mine.m_len ?zzk1 ?zzk2 ?zzk3 ?_; (case zzk1 => k_asm); (case zzk2 => k_mem); (case zzk3 => first | lia | (simp only [List.length_cons, List.length_nil, List.length_map, PySem.strValues]; omega))) | ((with_reducible show wpAny _ _ (call (Value.builtin _) [Value.ref _, _]) _ _ _); refine' Mine.m_append ?zzk1 ?zzk2 ?zzk3 ?zzz ?_; (case zzk1 => k_asm); (case zzk2 => k_asm); (case zzk3 => k_upd); (case zzz => lia); intro _ _ zN; (try dsimp only at zN); (try k_sweep); (revert zN; intro _)) | ((with_reducible show wpAny _ _ (binaryOp Operator.Add (Value.str _ _) (Value.str _ _)) _ _ _); refine' Mine.s_add ?zzk1 ?zzk2 ?zzk3 ?zzk4 ?_; (case zzk1 => first | exact Mine.sp_eq | exact Mine.no_eq | exact Mine.dots_eq | with_reducible exact rfl); (case zzk2 => first | exact Mine.sp_eq | exact Mine.no_eq | exact Mine.dots_eq | with_reducible exact rfl); (case zzk3 => first | assumption | lia | (simp only [List.length_append, List.length_cons, List.length_nil]; lia)); (case zzk4 => first | assumption | lia | (simp only [List.length_append, List.length_cons, List.length_nil]; lia)); intro _ _) | ((with_reducible show wpAny _ _ (subscriptTail (Expr.Name _ _) (Expr.Name _ _) (Value.str _ _) (Value.int _ _)) _ _ _); refine' Mine.s_item ?zzh0 ?zzh1 ?zzh2 ?_; (case zzh0 => lia); (case zzh1 => lia); (case zzh2 => assumption); intro _ _) | (first | (with_reducible show wpAny _ _ (call (Value.ref 93) _) _ _ _) | (with_reducible show wpAny _ _ (call (Value.ref 49) _) _ _ _)); (refine Hold.out ?_) | (k_end; kc_close) | (walk1; (try dsimp only)) | (dsimp only; walk1) | (leave1; (try dsimp only)) | fail "no step"))
  rename Fr _ _ _ _ => F1
  rename News _ _ _ _ => N1
  rename_i lP _ hlP _
  have hlP2 : AllLt lP (tb' ++ rest) := hlP.2.2.2.2.2.2.2.2.2
  have hsep : ∀ q ∈ tb' ++ rest, q.1 ≠ ma.S ∧ q.1 ≠ ma.D := by
    intro q hq
    rcases List.mem_append.mp hq with hq | hq
    · exact ⟨(hap q hq).1, (hap q hq).2.1⟩
    · have := hlt q hq
      exact ⟨neN (by lia), neN (by lia)⟩
  replace N1 : News _ _ _ (MLed w ma mk us n 1 tl ⟨(32 :: [l0, l1, l2].eraseIdx k).toArray⟩ ++ ((lP, W.listOf (#[] : Array Value) 0) :: (tb' ++ rest))) := fun q hq => N1 q (by
    simp only [List.cons_append, List.nil_append, List.mem_cons, List.mem_append] at hq ⊢
    rcases hq with h | h | h | h | h | h | h | h | h | h <;> simp only [eq_true h, true_or, or_true])
  refine Hold.mk ?_
  refine' ksw_while (σ := List Nat × (List (Str × Tok) × Nat × Int × Tok) × List Value × Nat) (fun c => MLed w ma mk c.2.1.1 c.2.1.2.1 c.2.1.2.2.1 c.2.1.2.2.2 ⟨(32 :: [l0, l1, l2].eraseIdx k).toArray⟩ ++ ((lP, W.listOf c.2.2.1.toArray c.2.2.2) :: (tb' ++ rest))) (fun c => []) (fun _ => True) [] 
    (fun c => c.2.1.1.map (·.1) = (sg c.1).map ch ∧ c.2.2.1.length + c.1.length ≤ ts.length ∧ (∀ x ∈ c.1, x ∈ ts) ∧ ∃ ns, IntsAre c.2.2.1 ns ∧ ns ++ plFrom (ts.length - c.1.length) c.1 ([l0,l1,l2].getD k 0) = plFrom 0 ts ([l0,l1,l2].getD k 0)) (fun c => c.1.length) (ts, (us, n, 1, tl), [], 0) F1 N1 trivial ?hk ?hp ?turn
  case hk => kst_all
  case hp => exact ⟨hus, by simp, fun _ h => h, [], .nil, by simp⟩
  case turn =>
    rintro ⟨r, ⟨us1, n1, ln1, tl1⟩, acc, m1⟩ u1 h tk _ ⟨hP1, hP2, hP3, ns, hP4, hP5⟩ F2 N2
    clear F1 N1
    dsimp only at hP1 hP2 hP3 hP4 hP5 F2 N2 ⊢
    dsimp only [List.cons_append, List.nil_append] at N2
    (repeat' (first | (k_unfold; (try dsimp only)) | ((with_reducible show wpAny _ _ (exec (Stmt.While _ _ _ _) _) _ _ _); refine Mine.Hold.out ?_) | ((with_reducible show wpAny _ _ (storeName _ _ _) _ _ _); refine' storeX_L ?zzF ?zzN ?_ ?zza ?zzb; (case zzF => k_asm); (case zzN => k_asm); (case zza => rfl); (case zzb => rfl); k_whole; intro _ zF zN; (try dsimp only at zF); (try k_sweep); (revert zF zN; intro _ _)) | ((with_reducible show wpAny _ _ (call (Value.builtin "len") [Value.str (Str.mk (List.toArray _)) _]) _ _ _); refine' Mine.s_len ?zzk3 ?_; (case zzk3 => first | lia | (simp only [List.length_append, List.length_cons, List.length_nil]; lia)); intro _ _) | ((with_reducible show wpAny _ _ (call (Value.builtin "len") [Value.ref _]) _ _ _); refine' Mine.m_len ?zzk1 ?zzk2 ?zzk3 ?_; (case zzk1 => k_asm); (case zzk2 => k_mem); (case zzk3 => first | lia | (simp only [List.length_cons, List.length_nil, List.length_map, PySem.strValues]; omega))) | ((with_reducible show wpAny _ _ (call (Value.builtin _) [Value.ref _, _]) _ _ _); refine' Mine.m_append ?zzk1 ?zzk2 ?zzk3 ?zzz ?_; (case zzk1 => k_asm); (case zzk2 => k_asm); (case zzk3 => k_upd); (case zzz => lia); intro _ _ zN; (try dsimp only at zN); (try k_sweep); (revert zN; intro _)) | ((with_reducible show wpAny _ _ (binaryOp Operator.Add (Value.str _ _) (Value.str _ _)) _ _ _); refine' Mine.s_add ?zzk1 ?zzk2 ?zzk3 ?zzk4 ?_; (case zzk1 => first | exact Mine.sp_eq | exact Mine.no_eq | exact Mine.dots_eq | with_reducible exact rfl); (case zzk2 => first | exact Mine.sp_eq | exact Mine.no_eq | exact Mine.dots_eq | with_reducible exact rfl); (case zzk3 => first | assumption | lia | (simp only [List.length_append, List.length_cons, List.length_nil]; lia)); (case zzk4 => first | assumption | lia | (simp only [List.length_append, List.length_cons, List.length_nil]; lia)); intro _ _) | ((with_reducible show wpAny _ _ (subscriptTail (Expr.Name _ _) (Expr.Name _ _) (Value.str _ _) (Value.int _ _)) _ _ _); refine' Mine.s_item ?zzh0 ?zzh1 ?zzh2 ?_; (case zzh0 => lia); (case zzh1 => lia); (case zzh2 => assumption); intro _ _) | (first | (with_reducible show wpAny _ _ (call (Value.ref 93) _) _ _ _) | (with_reducible show wpAny _ _ (call (Value.ref 49) _) _ _ _)); (refine Hold.out ?_) | (k_end; kc_close) | (walk1; (try dsimp only)) | (dsimp only; walk1) | (leave1; (try dsimp only)) | fail "no step"))
    refine Hold.mk ?_
    k_dflt (refine' gt_tells _ _ _ _ _ _ _ _ _ _ _ _ _ _ _ _ _ ?B F2 ?X ?T ?hk CH ma mk us1 n1 ln1 tl1 ⟨(32 :: [l0, l1, l2].eraseIdx k).toArray⟩ tb' ((lP, W.listOf acc.toArray m1) :: (tb' ++ rest)) hRd ho ?htb ?hS ?hD N2 ?hd ?hu r hP1 ?h4 ?h5 ?h6 ?h7)
    case B => exact B'
    case X => exact X'
    case T => exact T'
    case hk => rfl
    case htb => exact fun q hq => List.mem_cons_of_mem _ (List.mem_append_left _ hq)
    case hS =>
      intro q hq
      rcases List.mem_cons.mp hq with rfl | hq
      · dsimp only; exact neN (by lia)
      · exact (hsep q hq).1
    case hD =>
      intro q hq
      rcases List.mem_cons.mp hq with rfl | hq
      · dsimp only; exact neN (by lia)
      · exact (hsep q hq).2
    case hd => exact room1 hd (by decide)
    case hu => exact room3 hu (by decide)
    case h4 => lia
    case h5 => exact fun x hx => hok x (hP3 x hx)
    case h6 => simp
    case h7 =>
      intro h3 tk3 tr n3 ln3 tl3 us3 r3 hdw hus3 F3 N3
      clear F2 N2
      dsimp only [List.cons_append, List.nil_append] at N3
      have hdw2 : r.dropWhile ((32 :: [l0, l1, l2].eraseIdx k).contains ·) = r3 := by rw [← hdw]; congr 1; funext x; simp
      have hlen9 : (strValues us3).length = 2 * r3.tail.length := by
        have e := congrArg List.length hus3
        simpa only [List.length_map, sg_length, strValues] using e
      have hx : (⟨#[l0, l1, l2]⟩ : Str).cps.toList[((k : Int)).toNat]? = some ([l0,l1,l2].getD k 0) := by
        obtain rfl | rfl | rfl : k = 0 ∨ k = 1 ∨ k = 2 := by lia
        all_goals rfl
      rcases pl_drop ([l0,l1,l2].getD k 0) ((32 :: [l0, l1, l2].eraseIdx k).contains ·) r (ts.length - r.length) (fun x hx => hwk x (hP3 x hx)) with ⟨e1, e2⟩ | ⟨r4, e1, e2, e3, e4⟩
      · rw [e1] at hdw2; subst hdw2
        have hb : (Str.ofString "" == ch ([l0,l1,l2].getD k 0)) = false := by
          rw [beq_eq_false_iff_ne]; exact fun e => by have := congrArg (fun s : Str => s.cps.size) e; simp at this; revert this; decide +kernel
        dsimp only [gtTok]
        (repeat' (first | (k_unfold; (try dsimp only)) | ((with_reducible show wpAny _ _ (exec (Stmt.While _ _ _ _) _) _ _ _); refine Mine.Hold.out ?_) | ((with_reducible show wpAny _ _ (storeName _ _ _) _ _ _); refine' storeX_L ?zzF ?zzN ?_ ?zza ?zzb; (case zzF => k_asm); (case zzN => k_asm); (case zza => rfl); (case zzb => rfl); k_whole; intro _ zF zN; (try dsimp only at zF); (try k_sweep); (revert zF zN; intro _ _)) | ((with_reducible show wpAny _ _ (call (Value.builtin "len") [Value.str (Str.mk (List.toArray _)) _]) _ _ _); refine' Mine.s_len ?zzk3 ?_; (case zzk3 => first | lia | (simp only [List.length_append, List.length_cons, List.length_nil]; lia)); intro _ _) | ((with_reducible show wpAny _ _ (call (Value.builtin "len") [Value.ref _]) _ _ _); refine' Mine.m_len ?zzk1 ?zzk2 ?zzk3 ?_; (case zzk1 => k_asm); (case zzk2 => k_mem); (case zzk3 => first | lia | (simp only [List.length_cons, List.length_nil, List.length_map, PySem.strValues]; omega))) | ((with_reducible show wpAny _ _ (call (Value.builtin _) [Value.ref _, _]) _ _ _); refine' Mine.m_append ?zzk1 ?zzk2 ?zzk3 ?zzz ?_; (case zzk1 => k_asm); (case zzk2 => k_asm); (case zzk3 => k_upd); (case zzz => lia); intro _ _ zN; (try dsimp only at zN); (try k_sweep); (revert zN; intro _)) | ((with_reducible show wpAny _ _ (binaryOp Operator.Add (Value.str _ _) (Value.str _ _)) _ _ _); refine' Mine.s_add ?zzk1 ?zzk2 ?zzk3 ?zzk4 ?_; (case zzk1 => first | exact Mine.sp_eq | exact Mine.no_eq | exact Mine.dots_eq | with_reducible exact rfl); (case zzk2 => first | exact Mine.sp_eq | exact Mine.no_eq | exact Mine.dots_eq | with_reducible exact rfl); (case zzk3 => first | assumption | lia | (simp only [List.length_append, List.length_cons, List.length_nil]; lia)); (case zzk4 => first | assumption | lia | (simp only [List.length_append, List.length_cons, List.length_nil]; lia)); intro _ _) | ((with_reducible show wpAny _ _ (subscriptTail (Expr.Name _ _) (Expr.Name _ _) (Value.str _ _) (Value.int _ _)) _ _ _); refine' Mine.s_item ?zzh0 ?zzh1 ?zzh2 ?_; (case zzh0 => lia); (case zzh1 => lia); (case zzh2 => assumption); intro _ _) | (first | (with_reducible show wpAny _ _ (call (Value.ref 93) _) _ _ _) | (with_reducible show wpAny _ _ (call (Value.ref 49) _) _ _ _)); (refine Hold.out ?_) | (k_end; kc_close) | (walk1; (try dsimp only)) | (dsimp only; walk1) | (leave1; (try dsimp only)) | fail "no step"))
        rename Fr _ _ _ _ => FZ
        rename News _ _ _ _ => NZ
        rw [e2, List.append_nil] at hP5
        subst hP5
        exact hret lP _ acc tb' _ _ hP4 htab (fun q hq => allLt_mem hlP2 q (List.mem_append_right _ hq)) (by lia) (fun q hq => ⟨(hap q hq).2.2.2, by have := (hap q hq).2.2.1; show @LT.lt Nat _ _ _; lia⟩) FZ (m_drop8 NZ)
      · rw [e1] at hdw2; subst hdw2
        have hb : (ch ([l0,l1,l2].getD k 0) == ch ([l0,l1,l2].getD k 0)) = true := beq_self_eq_true _
        dsimp only [gtTok, List.tail_cons] at hlen9 ⊢
        (repeat' (first | (k_unfold; (try dsimp only)) | ((with_reducible show wpAny _ _ (exec (Stmt.While _ _ _ _) _) _ _ _); refine Mine.Hold.out ?_) | ((with_reducible show wpAny _ _ (storeName _ _ _) _ _ _); refine' storeX_L ?zzF ?zzN ?_ ?zza ?zzb; (case zzF => k_asm); (case zzN => k_asm); (case zza => rfl); (case zzb => rfl); k_whole; intro _ zF zN; (try dsimp only at zF); (try k_sweep); (revert zF zN; intro _ _)) | ((with_reducible show wpAny _ _ (call (Value.builtin "len") [Value.str (Str.mk (List.toArray _)) _]) _ _ _); refine' Mine.s_len ?zzk3 ?_; (case zzk3 => first | lia | (simp only [List.length_append, List.length_cons, List.length_nil]; lia)); intro _ _) | ((with_reducible show wpAny _ _ (call (Value.builtin "len") [Value.ref _]) _ _ _); refine' Mine.m_len ?zzk1 ?zzk2 ?zzk3 ?_; (case zzk1 => k_asm); (case zzk2 => k_mem); (case zzk3 => first | lia | (simp only [List.length_cons, List.length_nil, List.length_map, PySem.strValues]; omega))) | ((with_reducible show wpAny _ _ (call (Value.builtin _) [Value.ref _, _]) _ _ _); refine' Mine.m_append ?zzk1 ?zzk2 ?zzk3 ?zzz ?_; (case zzk1 => k_asm); (case zzk2 => k_asm); (case zzk3 => k_upd); (case zzz => lia); intro _ _ zN; (try dsimp only at zN); (try k_sweep); (revert zN; intro _)) | ((with_reducible show wpAny _ _ (binaryOp Operator.Add (Value.str _ _) (Value.str _ _)) _ _ _); refine' Mine.s_add ?zzk1 ?zzk2 ?zzk3 ?zzk4 ?_; (case zzk1 => first | exact Mine.sp_eq | exact Mine.no_eq | exact Mine.dots_eq | with_reducible exact rfl); (case zzk2 => first | exact Mine.sp_eq | exact Mine.no_eq | exact Mine.dots_eq | with_reducible exact rfl); (case zzk3 => first | assumption | lia | (simp only [List.length_append, List.length_cons, List.length_nil]; lia)); (case zzk4 => first | assumption | lia | (simp only [List.length_append, List.length_cons, List.length_nil]; lia)); intro _ _) | ((with_reducible show wpAny _ _ (subscriptTail (Expr.Name _ _) (Expr.Name _ _) (Value.str _ _) (Value.int _ _)) _ _ _); refine' Mine.s_item ?zzh0 ?zzh1 ?zzh2 ?_; (case zzh0 => lia); (case zzh1 => lia); (case zzh2 => assumption); intro _ _) | (first | (with_reducible show wpAny _ _ (call (Value.ref 93) _) _ _ _) | (with_reducible show wpAny _ _ (call (Value.ref 49) _) _ _ _)); (refine Hold.out ?_) | (k_end; kc_close) | (walk1; (try dsimp only)) | (dsimp only; walk1) | (leave1; (try dsimp only)) | fail "no step"))
        rename Fr _ _ _ _ => FZ
        rename News _ _ _ _ => NZ
        have ev : (ts.length : Int) - Int.fdiv ((strValues us3).length : Int) 2 = ((ts.length - r.length + (r.length - r4.length) : Nat) : Int) := by
          rw [hlen9, Int.fdiv_eq_ediv_of_nonneg _ (by lia)]; lia
        rw [ev] at NZ
        refine ksw_end (c' := (r4, (us3, n3, ln3, tl3), acc ++ [.int ((ts.length - r.length + (r.length - r4.length) : Nat) : Int) _], m1 + 1)) FZ NZ (fun _ h => h) trivial (by kst_all) (by (intro z h2 h3; (simp only [List.forall_mem_cons, List.not_mem_nil, false_implies, implies_true, and_true, ne_eq] at h2); (simp only [List.contains_cons, List.contains_nil, Bool.or_false, Bool.or_eq_false_iff, beq_eq_false_iff_ne, ne_eq] at h3); (simp [kstB, h2, h3]; done))) ⟨hus3, ?kl, fun x hx => hP3 x (e3 x hx), ns ++ [((ts.length - r.length + (r.length - r4.length) : Nat) : Int)], intsAre_snoc hP4 _ _, ?kp⟩ e2
        case kl => simp; lia
        case kp =>
          rw [← hP5, e4, List.append_assoc]
          rw [show ts.length - r.length + (r.length - r4.length) = ts.length - r4.length by lia]
          rfl
end Mine
end
section
open PyProof.Rows.LCg
namespace Mine
def mkGo : List Nat → List Nat → List Int → List Int
  | [], _, marks => marks
  | c :: r, seen, marks => if seen.contains c then mkGo r seen marks else if seen.length = 2 then mkGo r [] ((r.length : Int) :: marks) else mkGo r (seen ++ [c]) marks
def marksV (ts : List Nat) : List Int := mkGo ts.reverse [] [(ts.length : Int)]
theorem mk_drop {seen : List Nat} {ns : List Int} : ∀ (r : List Nat) {r3 : List Nat}, (∀ x ∈ r, x ≠ 32) → r.dropWhile ((32 :: seen).contains ·) = r3 → mkGo r seen ns = mkGo r3 seen ns ∧ r3.length ≤ r.length ∧ (∀ x ∈ r3, x ∈ r) ∧ (∀ x, r3.head? = some x → seen.contains x = false)
  | [], _, _, h => by subst h; exact ⟨rfl, Nat.le_refl _, fun _ h => h, fun _ h => by simp at h⟩
  | x :: r, r3, hr, h => by
    rw [List.dropWhile_cons] at h
    have hx := hr x List.mem_cons_self
    by_cases hc : seen.contains x = true
    · rw [if_pos (by simp [hc] at *; simp [hc])] at h
      obtain ⟨a, b, c, d⟩ := mk_drop r (fun y hy => hr y (List.mem_cons_of_mem _ hy)) h
      refine ⟨?_, Nat.le_trans b (by simp), fun y hy => List.mem_cons_of_mem _ (c y hy), d⟩
      rw [mkGo, if_pos hc]; exact a
    · rw [if_neg (by simp at *; exact ⟨hx, hc⟩)] at h
      subst h
      exact ⟨rfl, Nat.le_refl _, fun _ h => h, fun y hy => by simp at hy; subst hy; simpa using hc⟩
theorem rev_eq (ts : List Nat) (u : Tok) : Txt.sliceBy ⟨ts.toArray⟩ none none (-1, u) = ⟨ts.reverse.toArray⟩ := by
  apply Str.ext'
  have h := step_rev_list ⟨ts.toArray⟩ u
  rw [← Array.toList_inj, h]
  apply List.ext_getElem
  · simp [Str.length]
  · intro i h1 h2
    simp [Str.length] at h1 h2 ⊢
    rw [List.getElem?_eq_getElem (by lia)]; rfl
set_option maxHeartbeats 4000000 in
theorem mk_tells {prog : Program} {w : World} {p : Program} {loose : List Str} {mean : ExcName → Option Value} {mg mb : Str → Option Value}
  (dp un : Nat) (gd : Option (List Code)) (cn : Str) (cs : Scope) (a : Addr) (ccd : Value) (cl : List (Str × Addr)) (outer : List Env) (A₀ : Around) (base h₀ : Heap) (L : Addr) (m : Str → Option Value) (news : List (Addr × Obj)) (s : Shared)
  (Q E : Value → Shared → Prop)
  (B : Below A₀ base outer h₀) (F : Fr h₀ L s.heap m) (X : (Mine.hd.heap_39 w.params).In h₀) (N : News h₀ L s.heap news) (T : Top p loose mean mg mb h₀) (hk : cs.kind = .function) (CH : CodeHd base 92 90)
  (ts : List Nat) (t : Tok) (tb rest : List (Addr × Obj)) (hT : TabOK tb) (hn : news = tb ++ rest) (hr : ∀ q ∈ tb, ∀ p ∈ rest, q.1 ≠ p.1)
  (hts : ts.length ≤ 20) (hok : ∀ x ∈ ts, x ≠ 34 ∧ x ≠ 92 ∧ x ≠ 32) (hd : dp + 100 < recursionLimit) (hu : un + 400 < cLine)
  (hret : ∀ l n vs tb' h' tk', IntsAre vs (marksV ts) → TabOK tb' → (∀ q ∈ rest, @LT.lt Nat _ q.1 l) → @LT.lt Nat _ 90 l → (∀ q ∈ tb', (∀ p ∈ rest, q.1 ≠ p.1) ∧ @LT.lt Nat _ q.1 l) → Fr h₀ L h' m → News h₀ L h' ((l, W.listOf vs.toArray n) :: (tb' ++ rest)) → Q (.ref l) { s with heap := h', toks := tk' }) :
  wpAny (model prog w) (ktrTop dp un gd cn cs L a ccd cl outer) (call (.ref 107) [.str ⟨ts.toArray⟩ t]) Q E s := by
  w_top off
  obtain ⟨hp, gn, dr, tk0, os⟩ := s
  dsimp only at *
  subst hn
  refine wpAny_call ?_
  k_dflt ((refine' code_def (binds := [(Str.ofString "text", .str ⟨ts.toArray⟩ t)]) ?k1 ?k2 ?k3 ?k4 ?k5 ?kA ?kF ?kK ?k6 ?k7 ?k8 ?k9 ?kB ?_ ?c2 ?c3 ?c4 ?c5; (case kA => exact rfl); (case kF => exact rfl); (case kK => first | exact rfl | assumption); (case k1 => k_asm); (case k2 => k_asm); (case k3 => k_asm); (case k4 => k_asm); (case k5 => k_asm); (case k6 => k_is); (case k7 => k_is); (case k8 => k_room); (case k9 => first | exact BindsTo.of_eq rfl | (refine' kp_binds ?kx ?ke; (case kx => k_in); (case ke => exact fun _ => rfl))); (case c5 => decide); (case kB => exact locs rfl); (case c2 => exact rfl); (case c3 => exact rfl); (case c4 => exact rfl); k_whole; intro g' L' h' FG' F' N' B' X' T'; (try dsimp only [List.reverse_cons, List.reverse_nil, List.nil_append, List.cons_append, List.length_cons, List.length_nil] at F'); (try dsimp only); (try k_fold)))
  clear F N
  (repeat' (first | (k_unfold; (try dsimp only)) | ((with_reducible show wpAny _ _ (exec (Stmt.While _ _ _ _) _) _ _ _); refine Mine.Hold.out ?_) | ((with_reducible show wpAny _ _ (storeName _ _ _) _ _ _); refine' storeX_L ?zzF ?zzN ?_ ?zza ?zzb; (case zzF => k_asm); (case zzN => k_asm); (case zza => rfl); (case zzb => rfl); k_whole; intro _ zF zN; (try dsimp only at zF); (try k_sweep); (revert zF zN; intro _ _)) | ((with_reducible show wpAny _ _ (call (Value.builtin "len") [Value.str (Str.mk (List.toArray _)) _]) _ _ _); refine' Mine.s_len ?zzk3 ?_; (case zzk3 => first | lia | (simp only [List.length_append, List.length_cons, List.length_nil]; lia)); intro _ _) | ((with_reducible show wpAny _ _ (call (Value.builtin "len") [Value.ref _]) _ _ _); refine' Mine.m_len ?zzk1 ?zzk2 ?zzk3 ?_; (case zzk1 => k_asm); (case zzk2 => k_mem); (case zzk3 => first | lia | (simp only [List.length_cons, List.length_nil, List.length_map, PySem.strValues]; omega))) | ((with_reducible show wpAny _ _ (call (Value.builtin _) [Value.ref _, _]) _ _ _); refine' Mine.m_append ?zzk1 ?zzk2 ?zzk3 ?zzz ?_; (case zzk1 => k_asm); (case zzk2 => k_asm); (case zzk3 => k_upd); (case zzz => lia); intro _ _ zN; (try dsimp only at zN); (try k_sweep); (revert zN; intro _)) | ((with_reducible show wpAny _ _ (binaryOp Operator.Add (Value.str _ _) (Value.str _ _)) _ _ _); refine' Mine.s_add ?zzk1 ?zzk2 ?zzk3 ?zzk4 ?_; (case zzk1 => first | exact Mine.sp_eq | exact Mine.no_eq | exact Mine.dots_eq | with_reducible exact rfl); (case zzk2 => first | exact Mine.sp_eq | exact Mine.no_eq | exact Mine.dots_eq | with_reducible exact rfl); (case zzk3 => first | assumption | lia | (simp only [List.length_append, List.length_cons, List.length_nil]; lia)); (case zzk4 => first | assumption | lia | (simp only [List.length_append, List.length_cons, List.length_nil]; lia)); intro _ _) | ((with_reducible show wpAny _ _ (binaryOp Operator.Add (Value.ref _) (Value.ref _)) _ _ _); refine' Mine.m_catl ?zzF ?zzN ?zza ?zzb ?zzc ?zzd ?_; (case zzF => k_asm); (case zzN => k_asm); (case zza => k_mem); (case zzb => k_mem); (case zzc => first | assumption | lia | (simp only [List.length_append, List.length_cons, List.length_nil]; lia)); (case zzd => first | assumption | lia | (simp only [List.length_append, List.length_cons, List.length_nil]; lia)); intro _ _ zl _ _; (try k_lt zl); (try k_sweep); (revert zl; intro _)) | ((with_reducible show wpAny _ _ (subscriptTail (Expr.Name _ _) (Expr.Name _ _) (Value.str _ _) (Value.int _ _)) _ _ _); refine' Mine.s_item ?zzh0 ?zzh1 ?zzh2 ?_; (case zzh0 => lia); (case zzh1 => lia); (case zzh2 => assumption); intro _ _) | (first | (with_reducible show wpAny _ _ (call (Value.ref 93) _) _ _ _) | (with_reducible show wpAny _ _ (call (Value.ref 49) _) _ _ _)); (refine Hold.out ?_) | (k_end; kc_close) | (walk1; (try dsimp only)) | (dsimp only; walk1) | (leave1; (try dsimp only)) | fail "no step"))
  rename Fr _ _ _ _ => F1
  rename News _ _ _ _ => N1
  refine Hold.mk ?_
  rw [rev_eq]
  k_dflt (refine' mach_any _ _ _ _ _ _ _ _ _ _ _ _ _ _ _ _ _ _ ?B F1 ?X N1 ?T ?hk CH ts.reverse _ _ _ tb rest hT rfl hr ?h1 ?h2 ?h3 ?_)
  case B => exact B'
  case X => exact X'
  case T => exact T'
  case hk => rfl
  case h1 => rw [List.length_reverse]; lia
  case h2 => exact room1 hd (by decide)
  case h3 => exact room3 hu (by decide)
  intro ma mk tb' Tp tl us n h2 tk2 hus ho hlt h90 hTp htab hap hRd F2 N2
  dsimp only [List.cons_append, List.nil_append] at N2
  clear F1 N1
  have hoo := ho
  dsimp only [MA.ord] at hoo
  have hrest : AllLt Tp rest := allLt_of fun p hp => Nat.lt_of_lt_of_le (hlt p hp) (by lia)
  have htb' : AllLt Tp tb' := allLt_of fun p hp => (hap p hp).2.2.1
  have hsep : ∀ q ∈ tb' ++ rest, q.1 ≠ ma.S ∧ q.1 ≠ ma.D := by
    intro q hq
    rcases List.mem_append.mp hq with hq | hq
    · exact ⟨(hap q hq).1, (hap q hq).2.1⟩
    · have := hlt q hq
      exact ⟨neN (by lia), neN (by lia)⟩
  (repeat' (first | (k_unfold; (try dsimp only)) | ((with_reducible show wpAny _ _ (exec (Stmt.While _ _ _ _) _) _ _ _); refine Mine.Hold.out ?_) | ((with_reducible show wpAny _ _ (storeName _ _ _) _ _ _); refine' storeX_L ?zzF ?zzN ?_ ?zza ?zzb; (case zzF => k_asm); (case zzN => k_asm); (case zza => rfl); (case zzb => rfl); k_whole; intro _ zF zN; (try dsimp only at zF); (try k_sweep); (revert zF zN; intro _ _)) | ((with_reducible show wpAny _ _ (call (Value.builtin "len") [Value.str (Str.mk (List.toArray _)) _]) _ _ _); refine' Mine.s_len ?zzk3 ?_; (case zzk3 => first | lia | (simp only [List.length_append, List.length_cons, List.length_nil]; lia)); intro _ _) | ((with_reducible show wpAny _ _ (call (Value.builtin "len") [Value.ref _]) _ _ _); refine' Mine.m_len ?zzk1 ?zzk2 ?zzk3 ?_; (case zzk1 => k_asm); (case zzk2 => k_mem); (case zzk3 => first | lia | (simp only [List.length_cons, List.length_nil, List.length_map, PySem.strValues]; omega))) | ((with_reducible show wpAny _ _ (call (Value.builtin _) [Value.ref _, _]) _ _ _); refine' Mine.m_append ?zzk1 ?zzk2 ?zzk3 ?zzz ?_; (case zzk1 => k_asm); (case zzk2 => k_asm); (case zzk3 => k_upd); (case zzz => lia); intro _ _ zN; (try dsimp only at zN); (try k_sweep); (revert zN; intro _)) | ((with_reducible show wpAny _ _ (binaryOp Operator.Add (Value.str _ _) (Value.str _ _)) _ _ _); refine' Mine.s_add ?zzk1 ?zzk2 ?zzk3 ?zzk4 ?_; (case zzk1 => first | exact Mine.sp_eq | exact Mine.no_eq | exact Mine.dots_eq | with_reducible exact rfl); (case zzk2 => first | exact Mine.sp_eq | exact Mine.no_eq | exact Mine.dots_eq | with_reducible exact rfl); (case zzk3 => first | assumption | lia | (simp only [List.length_append, List.length_cons, List.length_nil]; lia)); (case zzk4 => first | assumption | lia | (simp only [List.length_append, List.length_cons, List.length_nil]; lia)); intro _ _) | ((with_reducible show wpAny _ _ (binaryOp Operator.Add (Value.ref _) (Value.ref _)) _ _ _); refine' Mine.m_catl ?zzF ?zzN ?zza ?zzb ?zzc ?zzd ?_; (case zzF => k_asm); (case zzN => k_asm); (case zza => k_mem); (case zzb => k_mem); (case zzc => first | assumption | lia | (simp only [List.length_append, List.length_cons, List.length_nil]; lia)); (case zzd => first | assumption | lia | (simp only [List.length_append, List.length_cons, List.length_nil]; lia)); intro _ _ zl _ _; (try k_lt zl); (try k_sweep); (revert zl; intro _)) | ((with_reducible show wpAny _ _ (subscriptTail (Expr.Name _ _) (Expr.Name _ _) (Value.str _ _) (Value.int _ _)) _ _ _); refine' Mine.s_item ?zzh0 ?zzh1 ?zzh2 ?_; (case zzh0 => lia); (case zzh1 => lia); (case zzh2 => assumption); intro _ _) | (first | (with_reducible show wpAny _ _ (call (Value.ref 93) _) _ _ _) | (with_reducible show wpAny _ _ (call (Value.ref 49) _) _ _ _)); (refine Hold.out ?_) | (k_end; kc_close) | (walk1; (try dsimp only)) | (dsimp only; walk1) | (leave1; (try dsimp only)) | fail "no step"))
  rename Fr _ _ _ _ => F1
  rename News _ _ _ _ => N1
  rename_i tn _ lM _ hlM _ _ _
  rw [sp_eq] at N1
  replace N1 : News _ _ _ (MLed w ma mk us n 1 tl ⟨(32 :: ([] : List Nat)).toArray⟩ ++ ((lM, W.listOf ([Value.int (ts.length : Int) tn] : List Value).toArray 0) :: (tb' ++ rest))) := fun q hq => N1 q (by
    simp only [List.cons_append, List.nil_append, List.mem_cons, List.mem_append] at hq ⊢
    rcases hq with h | h | h | h | h | h | h | h | h | h <;> simp only [eq_true h, true_or, or_true])
  refine Hold.mk ?_
  k_dflt (refine' gt_tells _ _ _ _ _ _ _ _ _ _ _ _ _ _ _ _ _ ?B F1 ?X ?T ?hk CH ma mk us n 1 tl ⟨(32 :: ([] : List Nat)).toArray⟩ tb' ((lM, W.listOf ([Value.int (ts.length : Int) tn] : List Value).toArray 0) :: (tb' ++ rest)) hRd ho ?htb ?hS ?hD N1 ?hd ?hu ts.reverse hus ?h4 ?h5 ?h6 ?h7)
  case B => exact B'
  case X => exact X'
  case T => exact T'
  case hk => rfl
  case htb => exact fun q hq => List.mem_cons_of_mem _ (List.mem_append_left _ hq)
  case hS =>
    intro q hq
    rcases List.mem_cons.mp hq with rfl | hq
    · dsimp only; exact neN (by lia)
    · exact (hsep q hq).1
  case hD =>
    intro q hq
    rcases List.mem_cons.mp hq with rfl | hq
    · dsimp only; exact neN (by lia)
    · exact (hsep q hq).2
  case hd => exact room1 hd (by decide)
  case hu => exact room3 hu (by decide)
  case h4 => rw [List.length_reverse]; lia
  case h5 => exact fun x hx => ⟨(hok x (List.mem_reverse.mp hx)).1, (hok x (List.mem_reverse.mp hx)).2.1⟩
  case h6 => simp
  intro h3 tk3 tr n3 ln3 tl3 us3 r3 hdw hus3 F3 N3
  clear F1 N1
  have hr3 := mk_drop (seen := []) (ns := [(ts.length : Int)]) ts.reverse (fun x hx => (hok x (List.mem_reverse.mp hx)).2.2) (r3 := r3) (by rw [← hdw]; congr 1; funext x; simp)
  (repeat' (first | (k_unfold; (try dsimp only)) | ((with_reducible show wpAny _ _ (exec (Stmt.While _ _ _ _) _) _ _ _); refine Mine.Hold.out ?_) | ((with_reducible show wpAny _ _ (storeName _ _ _) _ _ _); refine' storeX_L ?zzF ?zzN ?_ ?zza ?zzb; (case zzF => k_asm); (case zzN => k_asm); (case zza => rfl); (case zzb => rfl); k_whole; intro _ zF zN; (try dsimp only at zF); (try k_sweep); (revert zF zN; intro _ _)) | ((with_reducible show wpAny _ _ (call (Value.builtin "len") [Value.str (Str.mk (List.toArray _)) _]) _ _ _); refine' Mine.s_len ?zzk3 ?_; (case zzk3 => first | lia | (simp only [List.length_append, List.length_cons, List.length_nil]; lia)); intro _ _) | ((with_reducible show wpAny _ _ (call (Value.builtin "len") [Value.ref _]) _ _ _); refine' Mine.m_len ?zzk1 ?zzk2 ?zzk3 ?_; (case zzk1 => k_asm); (case zzk2 => k_mem); (case zzk3 => first | lia | (simp only [List.length_cons, List.length_nil, List.length_map, PySem.strValues]; omega))) | ((with_reducible show wpAny _ _ (call (Value.builtin _) [Value.ref _, _]) _ _ _); refine' Mine.m_append ?zzk1 ?zzk2 ?zzk3 ?zzz ?_; (case zzk1 => k_asm); (case zzk2 => k_asm); (case zzk3 => k_upd); (case zzz => lia); intro _ _ zN; (try dsimp only at zN); (try k_sweep); (revert zN; intro _)) | ((with_reducible show wpAny _ _ (binaryOp Operator.Add (Value.str _ _) (Value.str _ _)) _ _ _); refine' Mine.s_add ?zzk1 ?zzk2 ?zzk3 ?zzk4 ?_; (case zzk1 => first | exact Mine.sp_eq | exact Mine.no_eq | exact Mine.dots_eq | with_reducible exact rfl); (case zzk2 => first | exact Mine.sp_eq | exact Mine.no_eq | exact Mine.dots_eq | with_reducible exact rfl); (case zzk3 => first | assumption | lia | (simp only [List.length_append, List.length_cons, List.length_nil]; lia)); (case zzk4 => first | assumption | lia | (simp only [List.length_append, List.length_cons, List.length_nil]; lia)); intro _ _) | ((with_reducible show wpAny _ _ (binaryOp Operator.Add (Value.ref _) (Value.ref _)) _ _ _); refine' Mine.m_catl ?zzF ?zzN ?zza ?zzb ?zzc ?zzd ?_; (case zzF => k_asm); (case zzN => k_asm); (case zza => k_mem); (case zzb => k_mem); (case zzc => first | assumption | lia | (simp only [List.length_append, List.length_cons, List.length_nil]; lia)); (case zzd => first | assumption | lia | (simp only [List.length_append, List.length_cons, List.length_nil]; lia)); intro _ _ zl _ _; (try k_lt zl); (try k_sweep); (revert zl; intro _)) | ((with_reducible show wpAny _ _ (subscriptTail (Expr.Name _ _) (Expr.Name _ _) (Value.str _ _) (Value.int _ _)) _ _ _); refine' Mine.s_item ?zzh0 ?zzh1 ?zzh2 ?_; (case zzh0 => lia); (case zzh1 => lia); (case zzh2 => assumption); intro _ _) | (first | (with_reducible show wpAny _ _ (call (Value.ref 93) _) _ _ _) | (with_reducible show wpAny _ _ (call (Value.ref 49) _) _ _ _)); (refine Hold.out ?_) | (k_end; kc_close) | (walk1; (try dsimp only)) | (dsimp only; walk1) | (leave1; (try dsimp only)) | fail "no step"))
  rename Fr _ _ _ _ => F1
  rename News _ _ _ _ => N1
  refine Hold.mk ?_
  refine' ksw_while (σ := List Nat × (List (Str × Tok) × Nat × Int × Tok) × List Nat × (List Value × Nat) × Addr × (Tok × Tok) × Tok) 
    (fun c => MLed w ma { mk with tw := c.2.2.2.2.2.2 } c.2.1.1 c.2.1.2.1 c.2.1.2.2.1 c.2.1.2.2.2 ⟨(32 :: c.2.2.1).toArray⟩ ++ ((c.2.2.2.2.1, W.listOf c.2.2.2.1.1.toArray c.2.2.2.1.2) :: (tb' ++ rest)))
    (fun c => [(Str.ofString "word", Value.str (gtTok c.1) c.2.2.2.2.2.1.1), (Str.ofString "seen", Value.str ⟨c.2.2.1.toArray⟩ c.2.2.2.2.2.1.2), (Str.ofString "marks", Value.ref c.2.2.2.2.1)]) (fun _ => True) [] 
    (fun c => c.2.1.1.map (·.1) = (sg c.1.tail).map ch ∧ c.2.2.2.1.1.length + c.1.length ≤ 21 ∧ (∀ x ∈ c.1, x ∈ ts) ∧ @LT.lt Nat _ Tp c.2.2.2.2.1 ∧ (∀ x, c.1.head? = some x → c.2.2.1.contains x = false) ∧ c.2.2.1.length ≤ 2 ∧ ∃ ns, IntsAre c.2.2.2.1.1 ns ∧ mkGo c.1 c.2.2.1 ns = marksV ts) (fun c => c.1.length) 
    (r3, (us3, n3, ln3, tl3), [], ([.int (ts.length : Int) tn], 0), lM, (tr, _), mk.tw) F1 N1 trivial ?hk ?hp ?turn
  case hk => kst_all
  case hp => exact ⟨hus3, by have := hr3.2.1; rw [List.length_reverse] at this; dsimp only; simp only [List.length_cons, List.length_nil]; lia, fun x hx => List.mem_reverse.mp (hr3.2.2.1 x hx), hlM.1, hr3.2.2.2, by simp, [(ts.length : Int)], .cons _ _ .nil, hr3.1.symm⟩
  case turn =>
    rintro ⟨r, ⟨us1, n1, ln1, tl1⟩, seen, ⟨acc, m1⟩, l1, ⟨t1, t2⟩, tw⟩ u1 h tk _ ⟨hP1, hP2, hP3, hP4, hP5, hP6, ns, hP7, hP8⟩ F2 N2
    clear F1 N1
    dsimp only at hP1 hP2 hP3 hP4 hP5 hP6 hP7 hP8 F2 N2 ⊢
    dsimp only [List.cons_append, List.nil_append] at N2
    cases r with
    | nil =>
      dsimp only [gtTok] at F2 ⊢
      (repeat' (first | (k_unfold; (try dsimp only)) | ((with_reducible show wpAny _ _ (exec (Stmt.While _ _ _ _) _) _ _ _); refine Mine.Hold.out ?_) | ((with_reducible show wpAny _ _ (storeName _ _ _) _ _ _); refine' storeX_L ?zzF ?zzN ?_ ?zza ?zzb; (case zzF => k_asm); (case zzN => k_asm); (case zza => rfl); (case zzb => rfl); k_whole; intro _ zF zN; (try dsimp only at zF); (try k_sweep); (revert zF zN; intro _ _)) | ((with_reducible show wpAny _ _ (call (Value.builtin "len") [Value.str (Str.mk (List.toArray _)) _]) _ _ _); refine' Mine.s_len ?zzk3 ?_; (case zzk3 => first | lia | (simp only [List.length_append, List.length_cons, List.length_nil]; lia)); intro _ _) | ((with_reducible show wpAny _ _ (call (Value.builtin "len") [Value.ref _]) _ _ _); refine' Mine.m_len ?zzk1 ?zzk2 ?zzk3 ?_; (case zzk1 => k_asm); (case zzk2 => k_mem); (case zzk3 => first | lia | (simp only [List.length_cons, List.length_nil, List.length_map, PySem.strValues]; omega))) | ((with_reducible show wpAny _ _ (call (Value.builtin _) [Value.ref _, _]) _ _ _); refine' Mine.m_append ?zzk1 ?zzk2 ?zzk3 ?zzz ?_; (case zzk1 => k_asm); (case zzk2 => k_asm); (case zzk3 => k_upd); (case zzz => lia); intro _ _ zN; (try dsimp only at zN); (try k_sweep); (revert zN; intro _)) | ((with_reducible show wpAny _ _ (binaryOp Operator.Add (Value.str _ _) (Value.str _ _)) _ _ _); refine' Mine.s_add ?zzk1 ?zzk2 ?zzk3 ?zzk4 ?_; (case zzk1 => first | exact Mine.sp_eq | exact Mine.no_eq | exact Mine.dots_eq | with_reducible exact rfl); (case zzk2 => first | exact Mine.sp_eq | exact Mine.no_eq | exact Mine.dots_eq | with_reducible exact rfl); (case zzk3 => first | assumption | lia | (simp only [List.length_append, List.length_cons, List.length_nil]; lia)); (case zzk4 => first | assumption | lia | (simp only [List.length_append, List.length_cons, List.length_nil]; lia)); intro _ _) | ((with_reducible show wpAny _ _ (binaryOp Operator.Add (Value.ref _) (Value.ref _)) _ _ _); refine' Mine.m_catl ?zzF ?zzN ?zza ?zzb ?zzc ?zzd ?_; (case zzF => k_asm); (case zzN => k_asm); (case zza => k_mem); (case zzb => k_mem); (case zzc => first | assumption | lia | (simp only [List.length_append, List.length_cons, List.length_nil]; lia)); (case zzd => first | assumption | lia | (simp only [List.length_append, List.length_cons, List.length_nil]; lia)); intro _ _ zl _ _; (try k_lt zl); (try k_sweep); (revert zl; intro _)) | ((with_reducible show wpAny _ _ (subscriptTail (Expr.Name _ _) (Expr.Name _ _) (Value.str _ _) (Value.int _ _)) _ _ _); refine' Mine.s_item ?zzh0 ?zzh1 ?zzh2 ?_; (case zzh0 => lia); (case zzh1 => lia); (case zzh2 => assumption); intro _ _) | (first | (with_reducible show wpAny _ _ (call (Value.ref 93) _) _ _ _) | (with_reducible show wpAny _ _ (call (Value.ref 49) _) _ _ _)); (refine Hold.out ?_) | (k_end; kc_close) | (walk1; (try dsimp only)) | (dsimp only; walk1) | (leave1; (try dsimp only)) | fail "no step"))
      rename Fr _ _ _ _ => FZ
      rename News _ _ _ _ => NZ
      have e : ns = marksV ts := hP8
      subst e
      exact hret l1 _ acc tb' _ _ hP7 htab (fun q hq => by have := hlt q hq; show @LT.lt Nat _ _ _; lia) (by lia) (fun q hq => ⟨(hap q hq).2.2.2, by have := (hap q hq).2.2.1; show @LT.lt Nat _ _ _; lia⟩) FZ (m_drop8 NZ)
    | cons c r4 =>
      have hsepS : ∀ q ∈ tb' ++ rest, q.1 ≠ ma.S := fun q hq => (hsep q hq).1
      have hsepD : ∀ q ∈ tb' ++ rest, q.1 ≠ ma.D := fun q hq => (hsep q hq).2
      simp only [List.length_cons] at hP2
      have hb : (ch c != Str.ofString "") = true := by
        rw [bne_iff_ne]; exact fun e => by have := congrArg (fun s : Str => s.cps.size) e; simp at this; revert this; decide +kernel
      have hlen9 : (strValues us1).length = 2 * r4.length := by
        have e := congrArg List.length hP1
        simpa only [List.length_map, sg_length, strValues, List.tail_cons] using e
      have hsl : (⟨(seen ++ [c]).toArray⟩ : Str).length = seen.length + 1 := by simp [Str.length]
      dsimp only [gtTok] at F2 ⊢
      (repeat' (first | (k_unfold; (try dsimp only)) | ((with_reducible show wpAny _ _ (exec (Stmt.While _ _ _ _) _) _ _ _); refine Mine.Hold.out ?_) | ((with_reducible show wpAny _ _ (storeName _ _ _) _ _ _); refine' storeX_L ?zzF ?zzN ?_ ?zza ?zzb; (case zzF => k_asm); (case zzN => k_asm); (case zza => rfl); (case zzb => rfl); k_whole; intro _ zF zN; (try dsimp only at zF); (try k_sweep); (revert zF zN; intro _ _)) | ((with_reducible show wpAny _ _ (call (Value.builtin "len") [Value.str (Str.mk (List.toArray _)) _]) _ _ _); refine' Mine.s_len ?zzk3 ?_; (case zzk3 => first | lia | (simp only [List.length_append, List.length_cons, List.length_nil]; lia)); intro _ _) | ((with_reducible show wpAny _ _ (call (Value.builtin "len") [Value.ref _]) _ _ _); refine' Mine.m_len ?zzk1 ?zzk2 ?zzk3 ?_; (case zzk1 => k_asm); (case zzk2 => k_mem); (case zzk3 => first | lia | (simp only [List.length_cons, List.length_nil, List.length_map, PySem.strValues]; omega))) | ((with_reducible show wpAny _ _ (call (Value.builtin _) [Value.ref _, _]) _ _ _); refine' Mine.m_append ?zzk1 ?zzk2 ?zzk3 ?zzz ?_; (case zzk1 => k_asm); (case zzk2 => k_asm); (case zzk3 => k_upd); (case zzz => lia); intro _ _ zN; (try dsimp only at zN); (try k_sweep); (revert zN; intro _)) | ((with_reducible show wpAny _ _ (binaryOp Operator.Add (Value.str _ _) (Value.str _ _)) _ _ _); refine' Mine.s_add ?zzk1 ?zzk2 ?zzk3 ?zzk4 ?_; (case zzk1 => first | exact Mine.sp_eq | exact Mine.no_eq | exact Mine.dots_eq | with_reducible exact rfl); (case zzk2 => first | exact Mine.sp_eq | exact Mine.no_eq | exact Mine.dots_eq | with_reducible exact rfl); (case zzk3 => first | assumption | lia | (simp only [List.length_append, List.length_cons, List.length_nil]; lia)); (case zzk4 => first | assumption | lia | (simp only [List.length_append, List.length_cons, List.length_nil]; lia)); intro _ _) | ((with_reducible show wpAny _ _ (binaryOp Operator.Add (Value.ref _) (Value.ref _)) _ _ _); refine' Mine.m_catl ?zzF ?zzN ?zza ?zzb ?zzc ?zzd ?_; (case zzF => k_asm); (case zzN => k_asm); (case zza => k_mem); (case zzb => k_mem); (case zzc => first | assumption | lia | (simp only [List.length_append, List.length_cons, List.length_nil]; lia)); (case zzd => first | assumption | lia | (simp only [List.length_append, List.length_cons, List.length_nil]; lia)); intro _ _ zl _ _; (try k_lt zl); (try k_sweep); (revert zl; intro _)) | ((with_reducible show wpAny _ _ (subscriptTail (Expr.Name _ _) (Expr.Name _ _) (Value.str _ _) (Value.int _ _)) _ _ _); refine' Mine.s_item ?zzh0 ?zzh1 ?zzh2 ?_; (case zzh0 => lia); (case zzh1 => lia); (case zzh2 => assumption); intro _ _) | (first | (with_reducible show wpAny _ _ (call (Value.ref 93) _) _ _ _) | (with_reducible show wpAny _ _ (call (Value.ref 49) _) _ _ _)); (refine Hold.out ?_) | (k_end; kc_close) | (walk1; (try dsimp only)) | (dsimp only; walk1) | (leave1; (try dsimp only)) | fail "no step"))
      all_goals (rename Fr _ _ _ _ => F1; rename News _ _ _ _ => N1)
      · rename_i hl3 tx _ _ _ D1 _ hD1 _ _ _ _ tw1 _ _
        have hsl2 : seen.length = 2 := by simp only [List.length_append, List.length_cons, List.length_nil] at hl3; lia
        rw [sp_eq] at N1
        have ev : Int.fdiv ((strValues us1).length : Int) 2 = (r4.length : Int) := by
          rw [hlen9, Int.fdiv_eq_ediv_of_nonneg _ (by lia)]; lia
        rw [ev] at N1
        replace N1 : News _ _ _ (MLed w ma { mk with tw := tw1 } us1 n1 ln1 tl1 ⟨(32 :: ([] : List Nat)).toArray⟩ ++ ((D1, W.listOf ([Value.int (r4.length : Int) (tx + 1 + 1 + 1)] ++ acc).toArray 0) :: (tb' ++ rest))) := fun q hq => N1 q (by
          simp only [List.cons_append, List.nil_append, List.mem_cons, List.mem_append] at hq ⊢
          rcases hq with h | h | h | h | h | h | h | h | h | h <;> simp only [eq_true h, true_or, or_true])
        refine Hold.mk ?_
        (k_dflt (refine' gt_tells _ _ _ _ _ _ _ _ _ _ _ _ _ _ _ _ _ ?B F1 ?X ?T ?g1k CH ma { mk with tw := tw1 } us1 n1 ln1 tl1 ⟨(32 :: ([] : List Nat)).toArray⟩ tb' ((D1, W.listOf ([Value.int (r4.length : Int) (tx + 1 + 1 + 1)] ++ acc).toArray 0) :: (tb' ++ rest)) hRd ho ?g1tb ?g1S ?g1D N1 ?g1d ?g1u r4 hP1 ?g14 ?g15 ?g16 ?g17); (case B => exact B'); (case X => exact X'); (case T => exact T'); (case g1k => rfl); (case g1tb => exact fun q hq => List.mem_cons_of_mem _ (List.mem_append_left _ hq)); (case g1S => (intro q hq; rcases List.mem_cons.mp hq with rfl | hq; (dsimp only; exact neN (by lia)); exact (hsep q hq).1)); (case g1D => (intro q hq; rcases List.mem_cons.mp hq with rfl | hq; (dsimp only; exact neN (by lia)); exact (hsep q hq).2)); (case g1d => exact room1 hd (by decide)); (case g1u => exact room3 hu (by decide)); (case g14 => (try simp only [List.length_reverse]); lia); (case g15 => exact fun x hx => ⟨(hok x (hP3 x (List.mem_cons_of_mem _ hx))).1, (hok x (hP3 x (List.mem_cons_of_mem _ hx))).2.1⟩); (case g16 => simp))
        intro h5 tk5 tr5 n5 ln5 tl5 us5 r5 hdw5 hus5 F5 N5
        clear F1 N1
        have hr5 := mk_drop (seen := []) (ns := (r4.length : Int) :: ns) r4 (fun x hx => (hok x (hP3 x (List.mem_cons_of_mem _ hx))).2.2) (r3 := r5) (by rw [← hdw5]; congr 1; funext x; simp)
        (repeat' (first | (k_unfold; (try dsimp only)) | ((with_reducible show wpAny _ _ (exec (Stmt.While _ _ _ _) _) _ _ _); refine Mine.Hold.out ?_) | ((with_reducible show wpAny _ _ (storeName _ _ _) _ _ _); refine' storeX_L ?zzF ?zzN ?_ ?zza ?zzb; (case zzF => k_asm); (case zzN => k_asm); (case zza => rfl); (case zzb => rfl); k_whole; intro _ zF zN; (try dsimp only at zF); (try k_sweep); (revert zF zN; intro _ _)) | ((with_reducible show wpAny _ _ (call (Value.builtin "len") [Value.str (Str.mk (List.toArray _)) _]) _ _ _); refine' Mine.s_len ?zzk3 ?_; (case zzk3 => first | lia | (simp only [List.length_append, List.length_cons, List.length_nil]; lia)); intro _ _) | ((with_reducible show wpAny _ _ (call (Value.builtin "len") [Value.ref _]) _ _ _); refine' Mine.m_len ?zzk1 ?zzk2 ?zzk3 ?_; (case zzk1 => k_asm); (case zzk2 => k_mem); (case zzk3 => first | lia | (simp only [List.length_cons, List.length_nil, List.length_map, PySem.strValues]; omega))) | ((with_reducible show wpAny _ _ (call (Value.builtin _) [Value.ref _, _]) _ _ _); refine' Mine.m_append ?zzk1 ?zzk2 ?zzk3 ?zzz ?_; (case zzk1 => k_asm); (case zzk2 => k_asm); (case zzk3 => k_upd); (case zzz => lia); intro _ _ zN; (try dsimp only at zN); (try k_sweep); (revert zN; intro _)) | ((with_reducible show wpAny _ _ (binaryOp Operator.Add (Value.str _ _) (Value.str _ _)) _ _ _); refine' Mine.s_add ?zzk1 ?zzk2 ?zzk3 ?zzk4 ?_; (case zzk1 => first | exact Mine.sp_eq | exact Mine.no_eq | exact Mine.dots_eq | with_reducible exact rfl); (case zzk2 => first | exact Mine.sp_eq | exact Mine.no_eq | exact Mine.dots_eq | with_reducible exact rfl); (case zzk3 => first | assumption | lia | (simp only [List.length_append, List.length_cons, List.length_nil]; lia)); (case zzk4 => first | assumption | lia | (simp only [List.length_append, List.length_cons, List.length_nil]; lia)); intro _ _) | ((with_reducible show wpAny _ _ (binaryOp Operator.Add (Value.ref _) (Value.ref _)) _ _ _); refine' Mine.m_catl ?zzF ?zzN ?zza ?zzb ?zzc ?zzd ?_; (case zzF => k_asm); (case zzN => k_asm); (case zza => k_mem); (case zzb => k_mem); (case zzc => first | assumption | lia | (simp only [List.length_append, List.length_cons, List.length_nil]; lia)); (case zzd => first | assumption | lia | (simp only [List.length_append, List.length_cons, List.length_nil]; lia)); intro _ _ zl _ _; (try k_lt zl); (try k_sweep); (revert zl; intro _)) | ((with_reducible show wpAny _ _ (subscriptTail (Expr.Name _ _) (Expr.Name _ _) (Value.str _ _) (Value.int _ _)) _ _ _); refine' Mine.s_item ?zzh0 ?zzh1 ?zzh2 ?_; (case zzh0 => lia); (case zzh1 => lia); (case zzh2 => assumption); intro _ _) | (first | (with_reducible show wpAny _ _ (call (Value.ref 93) _) _ _ _) | (with_reducible show wpAny _ _ (call (Value.ref 49) _) _ _ _)); (refine Hold.out ?_) | (k_end; kc_close) | (walk1; (try dsimp only)) | (dsimp only; walk1) | (leave1; (try dsimp only)) | fail "no step"))
        rename Fr _ _ _ _ => FZ
        rename News _ _ _ _ => NZ
        refine ksw_end (c' := (r5, (us5, n5, ln5, tl5), [], ([Value.int (r4.length : Int) (tx + 1 + 1 + 1)] ++ acc, 0), D1, (tr5, _), tw1)) FZ NZ (fun _ h => h) trivial (by kst_all) (by (intro z h2 h3; (simp only [List.forall_mem_cons, List.not_mem_nil, false_implies, implies_true, and_true, ne_eq] at h2); (simp only [List.contains_cons, List.contains_nil, Bool.or_false, Bool.or_eq_false_iff, beq_eq_false_iff_ne, ne_eq] at h3); (simp [kstB, h2, h3]; done))) ⟨hus5, ?k1, ?k2, ?k3, hr5.2.2.2, ?k5, (r4.length : Int) :: ns, .cons _ _ hP7, ?k7⟩ ?k8
        · dsimp only; (try simp only [List.length_append, List.length_cons, List.length_nil]); have := hr5.2.1; lia
        · exact fun x hx => hP3 x (List.mem_cons_of_mem _ (hr5.2.2.1 x hx))
        · dsimp only; lia
        · dsimp only; simp
        · dsimp only
          rw [← hr5.1, ← hP8, mkGo, if_neg (by have := hP5 c rfl; simp only [this]; decide), if_pos hsl2]
        · dsimp only; have := hr5.2.1; simp only [List.length_cons]; lia
      · rename_i hl3 _ tw1 _ _
        have hsl2 : seen.length ≠ 2 := by simp only [List.length_append, List.length_cons, List.length_nil] at hl3; lia
        replace N1 : News _ _ _ (MLed w ma { mk with tw := tw1 } us1 n1 ln1 tl1 ⟨(32 :: (seen ++ [c])).toArray⟩ ++ ((l1, W.listOf acc.toArray m1) :: (tb' ++ rest))) := N1
        refine Hold.mk ?_
        (k_dflt (refine' gt_tells _ _ _ _ _ _ _ _ _ _ _ _ _ _ _ _ _ ?B F1 ?X ?T ?g2k CH ma { mk with tw := tw1 } us1 n1 ln1 tl1 ⟨(32 :: (seen ++ [c])).toArray⟩ tb' ((l1, W.listOf acc.toArray m1) :: (tb' ++ rest)) hRd ho ?g2tb ?g2S ?g2D N1 ?g2d ?g2u r4 hP1 ?g24 ?g25 ?g26 ?g27); (case B => exact B'); (case X => exact X'); (case T => exact T'); (case g2k => rfl); (case g2tb => exact fun q hq => List.mem_cons_of_mem _ (List.mem_append_left _ hq)); (case g2S => (intro q hq; rcases List.mem_cons.mp hq with rfl | hq; (dsimp only; exact neN (by lia)); exact (hsep q hq).1)); (case g2D => (intro q hq; rcases List.mem_cons.mp hq with rfl | hq; (dsimp only; exact neN (by lia)); exact (hsep q hq).2)); (case g2d => exact room1 hd (by decide)); (case g2u => exact room3 hu (by decide)); (case g24 => (try simp only [List.length_reverse]); lia); (case g25 => exact fun x hx => ⟨(hok x (hP3 x (List.mem_cons_of_mem _ hx))).1, (hok x (hP3 x (List.mem_cons_of_mem _ hx))).2.1⟩); (case g26 => simp))
        intro h5 tk5 tr5 n5 ln5 tl5 us5 r5 hdw5 hus5 F5 N5
        clear F1 N1
        have hr5 := mk_drop (seen := seen ++ [c]) (ns := ns) r4 (fun x hx => (hok x (hP3 x (List.mem_cons_of_mem _ hx))).2.2) (r3 := r5) (by rw [← hdw5]; congr 1; funext x; simp)
        (repeat' (first | (k_unfold; (try dsimp only)) | ((with_reducible show wpAny _ _ (exec (Stmt.While _ _ _ _) _) _ _ _); refine Mine.Hold.out ?_) | ((with_reducible show wpAny _ _ (storeName _ _ _) _ _ _); refine' storeX_L ?zzF ?zzN ?_ ?zza ?zzb; (case zzF => k_asm); (case zzN => k_asm); (case zza => rfl); (case zzb => rfl); k_whole; intro _ zF zN; (try dsimp only at zF); (try k_sweep); (revert zF zN; intro _ _)) | ((with_reducible show wpAny _ _ (call (Value.builtin "len") [Value.str (Str.mk (List.toArray _)) _]) _ _ _); refine' Mine.s_len ?zzk3 ?_; (case zzk3 => first | lia | (simp only [List.length_append, List.length_cons, List.length_nil]; lia)); intro _ _) | ((with_reducible show wpAny _ _ (call (Value.builtin "len") [Value.ref _]) _ _ _); refine' Mine.m_len ?zzk1 ?zzk2 ?zzk3 ?_; (case zzk1 => k_asm); (case zzk2 => k_mem); (case zzk3 => first | lia | (simp only [List.length_cons, List.length_nil, List.length_map, PySem.strValues]; omega))) | ((with_reducible show wpAny _ _ (call (Value.builtin _) [Value.ref _, _]) _ _ _); refine' Mine.m_append ?zzk1 ?zzk2 ?zzk3 ?zzz ?_; (case zzk1 => k_asm); (case zzk2 => k_asm); (case zzk3 => k_upd); (case zzz => lia); intro _ _ zN; (try dsimp only at zN); (try k_sweep); (revert zN; intro _)) | ((with_reducible show wpAny _ _ (binaryOp Operator.Add (Value.str _ _) (Value.str _ _)) _ _ _); refine' Mine.s_add ?zzk1 ?zzk2 ?zzk3 ?zzk4 ?_; (case zzk1 => first | exact Mine.sp_eq | exact Mine.no_eq | exact Mine.dots_eq | with_reducible exact rfl); (case zzk2 => first | exact Mine.sp_eq | exact Mine.no_eq | exact Mine.dots_eq | with_reducible exact rfl); (case zzk3 => first | assumption | lia | (simp only [List.length_append, List.length_cons, List.length_nil]; lia)); (case zzk4 => first | assumption | lia | (simp only [List.length_append, List.length_cons, List.length_nil]; lia)); intro _ _) | ((with_reducible show wpAny _ _ (binaryOp Operator.Add (Value.ref _) (Value.ref _)) _ _ _); refine' Mine.m_catl ?zzF ?zzN ?zza ?zzb ?zzc ?zzd ?_; (case zzF => k_asm); (case zzN => k_asm); (case zza => k_mem); (case zzb => k_mem); (case zzc => first | assumption | lia | (simp only [List.length_append, List.length_cons, List.length_nil]; lia)); (case zzd => first | assumption | lia | (simp only [List.length_append, List.length_cons, List.length_nil]; lia)); intro _ _ zl _ _; (try k_lt zl); (try k_sweep); (revert zl; intro _)) | ((with_reducible show wpAny _ _ (subscriptTail (Expr.Name _ _) (Expr.Name _ _) (Value.str _ _) (Value.int _ _)) _ _ _); refine' Mine.s_item ?zzh0 ?zzh1 ?zzh2 ?_; (case zzh0 => lia); (case zzh1 => lia); (case zzh2 => assumption); intro _ _) | (first | (with_reducible show wpAny _ _ (call (Value.ref 93) _) _ _ _) | (with_reducible show wpAny _ _ (call (Value.ref 49) _) _ _ _)); (refine Hold.out ?_) | (k_end; kc_close) | (walk1; (try dsimp only)) | (dsimp only; walk1) | (leave1; (try dsimp only)) | fail "no step"))
        rename Fr _ _ _ _ => FZ
        rename News _ _ _ _ => NZ
        refine ksw_end (c' := (r5, (us5, n5, ln5, tl5), seen ++ [c], (acc, m1), l1, (tr5, _), tw1)) FZ NZ (fun _ h => h) trivial (by kst_all) (by (intro z h2 h3; (simp only [List.forall_mem_cons, List.not_mem_nil, false_implies, implies_true, and_true, ne_eq] at h2); (simp only [List.contains_cons, List.contains_nil, Bool.or_false, Bool.or_eq_false_iff, beq_eq_false_iff_ne, ne_eq] at h3); (simp [kstB, h2, h3]; done))) ⟨hus5, ?kk1, ?kk2, ?kk3, hr5.2.2.2, ?kk5, ns, hP7, ?kk7⟩ ?kk8
        · dsimp only; (try simp only [List.length_append, List.length_cons, List.length_nil]); have := hr5.2.1; lia
        · exact fun x hx => hP3 x (List.mem_cons_of_mem _ (hr5.2.2.1 x hx))
        · dsimp only; lia
        · dsimp only; simp; lia
        · dsimp only
          rw [← hr5.1, ← hP8, mkGo, if_neg (by have := hP5 c rfl; simp only [this]; decide), if_neg hsl2]
        · dsimp only; have := hr5.2.1; simp only [List.length_cons]; lia
end Mine
end
section
open PyProof.Rows.LCg
namespace Mine
section
variable {prog : Program} {w : World} {A : Around} {E : Value → Shared → Prop} {s : Shared} {env : Env} {h₀ : Heap} {target : Expr} {body : List Stmt} {Q : Flow → Shared → Prop} {m : Str → Option Value} {news : List (Addr × Obj)}
def FlRest (prog : Program) (w : World) (A : Around) (E : Value → Shared → Prop) (env : Env) (target : Expr) (body : List Stmt) (Q : Flow → Shared → Prop) (it : Value) (s₂ : Shared) : Prop :=
  codeAny (model prog w) A (.forLoop target it body [] env) (fun r s' => match r with | .ok f => Q f s' | .error e => cameBackBy (model prog w) A env E e s') s₂
theorem fl_for {iter : Expr} {pos : Pos}
    (h : wpAny (model prog w) A (eval iter env) (fun xv s₁ => wpAny (model prog w) A (pyIter xv) (FlRest prog w A E env target body Q) E s₁) E s)
    (hs : ∀ x, foldedSetIterable iter env x = pure x := by intro _; rfl) :
    wpAny (model prog w) A (exec (.For target iter body [] pos) env) Q E s := wpAny_For h hs
def FlPost (h₀ : Heap) (L : Addr) (s : Shared) (I : Addr) (o : Obj) (J : Nat → (Str → Option Value) → List (Addr × Obj) → Prop) (Q : Flow → Shared → Prop) (i : Nat) (f : Flow) (s₃ : Shared) : Prop :=
  match f with
  | .ret v => Q (.ret v) s₃
  | .brk => Q .next s₃
  | _ => Hold (∃ h' tk m' news', s₃ = { s with heap := h', toks := tk } ∧ Fr h₀ L h' m' ∧ News h₀ L h' ((I, o) :: news') ∧ (∀ p ∈ news', p.1 ≠ I) ∧ J (i + 1) m' news')
theorem fl_loop {I : Addr} {fp : List Addr} {n : Nat} {P : Nat → Value → Prop} {St : Nat → Heap → Prop} {S : List (Addr × Obj) → Prop} (J : Nat → (Str → Option Value) → List (Addr × Obj) → Prop)
    (W : Walks prog w A I fp [I] n P St) (hgo : ∀ i v (s : Shared) (Q : Unit → Shared → Prop) (E : Value → Shared → Prop), St (i + 1) s.heap → P i v → Q () s → wpAny (model prog w) A (letOwnedTupleGo target (.ref I) v) Q E s)
    (hIo : ∀ i h, St i h → ∃ o, h.get? I = some o)
    (hSt : ∀ i h h' o nw, St i h → h.get? I = some o → h'.get? I = some o → (∀ b o, h₀.get? b = some o → h'.get? b = some o) → News h₀ env.locals h' nw → S nw → St i h')
    (st0 : St 0 s.heap) (hI₀ : h₀.get? I = none) (hIL : env.locals ≠ I) (F : Fr h₀ env.locals s.heap m) (N : News h₀ env.locals s.heap news) (hne : ∀ p ∈ news, p.1 ≠ I)
    (hS : ∀ i m nw, J i m nw → S nw) (h0 : J 0 m news)
    (step : ∀ i v m₁ nw o h₁ tk₁, i < n → P i v → J i m₁ nw → (∀ p ∈ nw, p.1 ≠ I) → Fr h₀ env.locals h₁ m₁ → News h₀ env.locals h₁ ((I, o) :: nw) →
      wpAny (model prog w) A (assign target env v) (fun _ s₂ => wpAny (model prog w) A (execs body env) (FlPost h₀ env.locals s I o J Q i) E s₂) E { s with heap := h₁, toks := tk₁ })
    (fin : ∀ h' tk m' nw, J n m' nw → Fr h₀ env.locals h' m' → News h₀ env.locals h' nw → Q .next { s with heap := h', toks := tk })
    (hE : PassesOwn (model prog w) A env E) : FlRest prog w A E env target body Q (.ref I) s := by
  have old : ∀ b o, h₀.get? b = some o → b ∉ [I] := fun b o e hb => by rw [List.mem_singleton.mp hb, hI₀] at e; cases e
  refine codeAny_forLoop_any
    (fun k s' => ∃ h' tk m' nw i, s' = { s with heap := h', toks := tk } ∧ St i h' ∧ Fr h₀ env.locals h' m' ∧ News h₀ env.locals h' nw ∧ (∀ p ∈ nw, p.1 ≠ I) ∧ J i m' nw ∧ i ≤ n ∧ k = n + 1 - i) ?_ (n + 1)
    ⟨s.heap, s.toks, m, news, 0, rfl, st0, F, N, hne, h0, Nat.zero_le _, rfl⟩
  rintro k s' ⟨h', tk, m', nw, i, rfl, hst', F', N', hnw', hJ, hi, rfl⟩
  have next : ∀ h₁ : Heap, (∀ b o, b ∉ [I] → h'.get? b = some o → h₁.get? b = some o) → Fr h₀ env.locals h₁ m' ∧ News h₀ env.locals h₁ nw := fun h₁ hk₁ =>
    ⟨⟨F'.ns.at' fun o e => hk₁ _ o (fun hb => hIL (List.mem_singleton.mp hb)) e, fun b o e => hk₁ b o (old b o e) (F'.keep b o e), F'.above⟩, fun p hp => ⟨hk₁ _ _ (fun hb => hnw' p hp (List.mem_singleton.mp hb)) (N' p hp).1, (N' p hp).2⟩⟩
  by_cases hlt : i < n
  · refine W.item i _ _ _ hlt hst' fun v h₁ tk₁ hP hst₁ hk₁ => ?_
    refine hgo i v _ _ _ hst₁ hP ?_
    obtain ⟨F₁, N₁⟩ := next h₁ hk₁
    obtain ⟨o, ho⟩ := hIo _ _ hst₁
    have N₂ : News h₀ env.locals h₁ ((I, o) :: nw) := fun p hp => by
      rcases List.mem_cons.mp hp with rfl | hp
      · exact ⟨ho, fun e => hIL e.symm, hI₀⟩
      · exact N₁ p hp
    refine wpAny_mono (wpAny_mono (step i v m' nw o h₁ tk₁ hlt hP hJ hnw' F₁ N₂) (fun _ _ x => wpAny_passesOwn hE x) hE) (fun _ s₂ h₂ => wpAny_mono h₂ (fun f s₃ h₃ => ?_) fun _ _ e => e) fun _ _ e => e
    have fin : Hold (∃ h' tk m' news', s₃ = { s with heap := h', toks := tk } ∧ Fr h₀ env.locals h' m' ∧ News h₀ env.locals h' ((I, o) :: news') ∧ (∀ p ∈ news', p.1 ≠ I) ∧ J (i + 1) m' news') → ∃ m, m < n + 1 - i ∧ ∃ h' tk m' nw i, s₃ = { s with heap := h', toks := tk } ∧ St i h' ∧ Fr h₀ env.locals h' m' ∧ News h₀ env.locals h' nw ∧ (∀ p ∈ nw, p.1 ≠ I) ∧ J i m' nw ∧ i ≤ n ∧ m = n + 1 - i := by
      rintro ⟨h₃', tk₃, m₃, nw₃, rfl, F₃, N₃, hne₃, hJ₃⟩
      refine ⟨n + 1 - (i + 1), by lia, h₃', tk₃, m₃, nw₃, i + 1, rfl, ?_, F₃, m_tail N₃, hne₃, hJ₃, hlt, rfl⟩
      exact hSt _ _ _ _ _ hst₁ ho (N₃ _ List.mem_cons_self).1 F₃.keep (m_tail N₃) (hS _ _ _ hJ₃)
    cases f with
    | ret v => exact h₃
    | brk => exact h₃
    | cont => exact fin h₃
    | next => exact fin h₃
  · have hin : i = n := by lia
    subst hin
    refine W.done _ _ _ hst' fun h₁ tk₁ hk₁ => wpAny_execs_nil ?_
    obtain ⟨F₁, N₁⟩ := next h₁ hk₁
    exact fin h₁ tk₁ m' nw hJ F₁ N₁
theorem fl_list {ax : Addr} {its : List Value} {n : Nat} (J : Addr → Nat → (Str → Option Value) → List (Addr × Obj) → Prop) (hh : A.handled = none)
    (hgo : ∀ I i v (s : Shared) (Q : Unit → Shared → Prop) (E : Value → Shared → Prop), s.heap.IsListIter I ax i → v ∈ its → Q () s → wpAny (model prog w) A (letOwnedTupleGo target (.ref I) v) Q E s)
    (F : Fr h₀ env.locals s.heap m) (N : News h₀ env.locals s.heap news) (hm : (ax, W.listOf its.toArray n) ∈ news)
    (hS : ∀ I i m nw, J I i m nw → (ax, W.listOf its.toArray n) ∈ nw) (h0 : ∀ I, (∀ p ∈ news, p.1 < I) → J I 0 m news)
    (step : ∀ I i v m₁ nw o h₁ tk₁, (∀ p ∈ news, p.1 < I) → its[i]? = some v → J I i m₁ nw → (∀ p ∈ nw, p.1 ≠ I) → Fr h₀ env.locals h₁ m₁ → News h₀ env.locals h₁ ((I, o) :: nw) →
      wpAny (model prog w) A (assign target env v) (fun _ s₂ => wpAny (model prog w) A (execs body env) (FlPost h₀ env.locals s I o (J I) Q i) E s₂) E { s with heap := h₁, toks := tk₁ })
    (fin : ∀ I h' tk m' nw, (∀ p ∈ news, p.1 < I) → J I its.length m' nw → Fr h₀ env.locals h' m' → News h₀ env.locals h' nw → Q .next { s with heap := h', toks := tk })
    (hE : PassesOwn (model prog w) A env E) : wpAny (model prog w) A (pyIter (.ref ax)) (FlRest prog w A E env target body Q) E s := by
  have S0 : SrcAt h₀ ax its.toArray news := .inr ⟨_, hm, rfl, _, rfl⟩
  have hl := S0.list F.keep N
  have hlt : ax < s.heap.objs.size := by obtain ⟨_, e, _⟩ := hl; exact Heap.lt_size e
  refine wpAny_pyIter_list hl ?_
  have up : ∀ b o, s.heap.get? b = some o → (s.heap.push { cls := .type "list_iterator", data := .fields #[.ref ax, .int 0 0] }).get? b = some o := fun b o e => Heap.get?_push_of_some _ e
  have hb : ∀ p ∈ news, p.1 < s.heap.objs.size := fun p hp => Heap.lt_size (N p hp).1
  refine fl_loop (S := SrcAt h₀ ax its.toArray) (J s.heap.objs.size) (Walks.list hh s.heap.objs.size ax (Nat.ne_of_lt hlt) its.toArray) (fun i v s Q E st hP hQ => hgo _ _ _ _ _ _ st.1 (by rw [List.getElem?_toArray] at hP; exact List.mem_of_getElem? hP) hQ)
    (fun i h st => by obtain ⟨o, e, _⟩ := st.1; exact ⟨o, e⟩) list_st ⟨⟨_, Heap.get?_push_size _ rfl, rfl, rfl⟩, hl.push _⟩ (next_is_new F) (Nat.ne_of_lt F.ns.lt) (F.keeps up) (N.grown up) (fun p hp => Nat.ne_of_lt (hb p hp))
    (fun i m nw hJ => .inr ⟨_, hS _ i m nw hJ, rfl, _, rfl⟩) (h0 _ hb) (fun i v m₁ nw o h₁ tk₁ hi hP hJ hne F₁ N₁ => step _ i v m₁ nw o h₁ tk₁ hb (by rw [List.getElem?_toArray] at hP; exact hP) hJ hne F₁ N₁) (fun h' tk m' nw hJ F' N' => fin _ h' tk m' nw hb (by rw [List.size_toArray] at hJ; exact hJ) F' N') hE
theorem fl_range {r : Addr} {a b : Int} {t u v : Tok} {n : Nat} (J : Addr → Nat → (Str → Option Value) → List (Addr × Obj) → Prop) (hh : A.handled = none) (hr : IsRange s.heap r a b 1 t u v) (hsm : Builtin.Range.small a b 1 = true) (hn : Builtin.Range.rangeSize a b 1 = ((n : Nat) : Int))
    (hgo : ∀ it v, letOwnedTupleGo target it v = pure ())
    (F : Fr h₀ env.locals s.heap m) (N : News h₀ env.locals s.heap news) (h0 : ∀ I, (∀ p ∈ news, p.1 < I) → J I 0 m news)
    (step : ∀ I (i : Nat) t' m₁ nw o h₁ tk₁, i < n → (∀ p ∈ news, p.1 < I) → J I i m₁ nw → (∀ p ∈ nw, p.1 ≠ I) → Fr h₀ env.locals h₁ m₁ → News h₀ env.locals h₁ ((I, o) :: nw) →
      wpAny (model prog w) A (assign target env (.int (a + (i : Int)) t')) (fun _ s₂ => wpAny (model prog w) A (execs body env) (FlPost h₀ env.locals s I o (J I) Q i) E s₂) E { s with heap := h₁, toks := tk₁ })
    (fin : ∀ I h' tk m' nw, (∀ p ∈ news, p.1 < I) → J I n m' nw → Fr h₀ env.locals h' m' → News h₀ env.locals h' nw → Q .next { s with heap := h', toks := tk })
    (hE : PassesOwn (model prog w) A env E) : wpAny (model prog w) A (pyIter (.ref r)) (FlRest prog w A E env target body Q) E s := by
  refine wpAny_pyIter_range hr hsm ?_
  have hb : ∀ p ∈ news, p.1 < s.heap.objs.size := fun p hp => Heap.lt_size (N p hp).1
  refine fl_loop (S := fun _ => True) (J s.heap.objs.size) (range_walks hh a n) (fun i v s Q E st hP hQ => wpAny_of_eq (hgo _ _) hQ)
    (fun i h st => ⟨_, st⟩) range_st (by show IsRangeIter _ _ _ _ _; rw [hn]; simpa using Heap.get?_push_size _ rfl) (next_is_new F) (Nat.ne_of_lt F.ns.lt) (F.keeps fun _ _ e => Heap.get?_push_of_some _ e) (N.grown fun _ _ e => Heap.get?_push_of_some _ e) (fun p hp => Nat.ne_of_lt (hb p hp))
    (fun i m nw hJ => trivial) (h0 _ hb) (fun i v m₁ nw o h₁ tk₁ hi hP hJ hne F₁ N₁ => by obtain ⟨t', rfl⟩ := hP; exact step _ i t' m₁ nw o h₁ tk₁ hi hb hJ hne F₁ N₁) (fun h' tk m' nw hJ F' N' => fin _ h' tk m' nw hb hJ F' N') hE
end
end Mine
end
section
open PyProof.Rows.LCg
open Builtin.Str (occurrences)
namespace Mine
theorem dw_none {c : Nat} : ∀ {l : List Nat}, (∀ x ∈ l, x ≠ c) → l.dropWhile (· != c) = []
  | [], _ => rfl
  | x :: l, h => by
    rw [List.dropWhile_cons, if_pos (by simpa using h x List.mem_cons_self)]
    exact dw_none fun y hy => h y (List.mem_cons_of_mem _ hy)
theorem dw_some {c : Nat} : ∀ {l : List Nat} {j : Nat}, l[j]? = some c → (∀ k, k < j → l[k]? ≠ some c) → l.dropWhile (· != c) = c :: l.drop (j + 1)
  | [], _, h, _ => by simp at h
  | x :: l, 0, h, _ => by
    simp at h
    subst h
    rw [List.dropWhile_cons, if_neg (by simp)]; rfl
  | x :: l, j + 1, h, hn => by
    have h0 : x ≠ c := fun e => hn 0 (by lia) (by simp [e])
    rw [List.dropWhile_cons, if_pos (by simpa using h0)]
    exact dw_some (l := l) (j := j) (by simpa using h) fun k hk => by simpa using hn (k + 1) (by lia)
def occ1 : List Nat → Int
  | k :: _ => (k : Int)
  | [] => -1
/-- where a one-sign piece is found -/
def findL (gs : List Nat) (c : Nat) (sp : Nat) : Int := match (gs.drop sp).dropWhile (· != c) with
  | [] => -1
  | _ :: r => (gs.length : Int) - r.length - 1
section
variable {prog : Program} {w : World} {A : Around} {E : Value → Shared → Prop} {s : Shared} {Q : Value → Shared → Prop}
theorem find4_gives (x y : Str) (i j : Nat) (t u v v' : Tok) (hj : x.length = j) : Gives (Builtin.«str.find» ⟨[.str x t, .str y u, .int i v, .int j v'], []⟩) (.int (occ1 (occurrences x y i x.length 1))) := by
  have e : (fromIndex x.length (i : Int)) = i := by unfold fromIndex; split <;> lia
  have e2 : (fromIndex x.length (j : Int)) = x.length := by unfold fromIndex; split <;> lia
  have : Gives (match occurrences x y (fromIndex x.length (i : Int)) (min (fromIndex x.length (j : Int)) x.length) 1 with | k :: _ => retInt k | [] => (do rule "str.find.not-found"; retInt (-1))) (.int (occ1 (occurrences x y i x.length 1))) := by
    rw [e, e2, Nat.min_self]
    cases occurrences x y i x.length 1 with
    | nil => exact .rule (.of_eq rfl)
    | cons k _ => exact .of_eq rfl
  exact this
theorem m_find {gs : List Nat} {y : Str} {i : Nat} {t u v v' : Tok} {j : Nat} (hj : gs.length = j) (hq : ∀ t' k', Q (.int (occ1 (occurrences ⟨gs.toArray⟩ y i gs.length 1)) t') { s with toks := k' }) :
    wpAny (model prog w) A (call (.builtin "str.find") [.str ⟨gs.toArray⟩ t, .str y u, .int i v, .int j v']) Q E s := by
  have hl : (⟨gs.toArray⟩ : Str).length = gs.length := by simp [Str.length]
  refine call_gives F.slot_str_find (typeIs_str _ _ _) F.entry_str_find (F.args_str_find_4 _ _ _ _) (find4_gives ⟨gs.toArray⟩ y i j t u v v' (by rw [hl]; exact hj)) ?_
  rw [hl]
  exact hq _ _
theorem find_c {gs : List Nat} {c i : Nat} (hi : i ≤ gs.length) : (occ1 (occurrences ⟨gs.toArray⟩ (ch c) i gs.length 1)) = findL gs c i := by
  have hl : (⟨gs.toArray⟩ : Str).length = gs.length := by simp [Str.length]
  have at_iff : ∀ k, StrLaws.At ⟨gs.toArray⟩ (ch c) (⟨gs.toArray⟩ : Str).length k ↔ gs[k]? = some c := fun k => StrLaws.subAt_one ⟨gs.toArray⟩ c k
  have h := StrLaws.occ_head_from ⟨gs.toArray⟩ (ch c) i 1 (Nat.le_refl 1)
  rw [hl] at h
  unfold findL
  rcases h with ⟨h0, hn⟩ | ⟨k, r, h0, hlo, hk, hn⟩
  · rw [h0]
    rw [dw_none (c := c) (l := gs.drop i) fun x hx e => by
      obtain ⟨j, hj⟩ := List.getElem?_of_mem hx
      rw [List.getElem?_drop] at hj
      exact hn (i + j) (by lia) (hl ▸ (at_iff (i + j)).mpr (by rw [hj, e]))]
    rfl
  · rw [h0]
    have hk2 := (at_iff k).mp (hl.symm ▸ hk)
    have hkl := (List.getElem?_eq_some_iff.mp hk2).1
    rw [dw_some (c := c) (l := gs.drop i) (j := k - i) (by rw [List.getElem?_drop]; rw [show i + (k - i) = k by lia]; exact hk2) fun z hz => by
      rw [List.getElem?_drop]
      exact fun e => hn (i + z) (by lia) (by lia) (hl ▸ (at_iff (i + z)).mpr e)]
    simp only [List.length_drop, occ1]
    lia
theorem find_e {gs : List Nat} {i : Nat} (hi : i ≤ gs.length) : (occ1 (occurrences ⟨gs.toArray⟩ ⟨#[]⟩ i gs.length 1)) = (i : Int) := by
  have hl : (⟨gs.toArray⟩ : Str).length = gs.length := by simp [Str.length]
  have at_i : ∀ k, k ≤ gs.length → StrLaws.At ⟨gs.toArray⟩ ⟨#[]⟩ (⟨gs.toArray⟩ : Str).length k := fun k hk => by
    refine ⟨by rw [hl]; exact hk, ?_⟩
    unfold Builtin.Str.subAt
    simp [Str.length]
  have h := StrLaws.occ_head_from ⟨gs.toArray⟩ ⟨#[]⟩ i 1 (Nat.le_refl 1)
  rw [hl] at h
  rcases h with ⟨h0, hn⟩ | ⟨k, r, h0, hlo, hk, hn⟩
  · exact absurd (hl ▸ at_i i hi) (hn i (Nat.le_refl i))
  · rw [h0]
    have : k = i := by
      by_cases e : k = i
      · exact e
      · exact absurd (hl ▸ at_i i hi) (hn i (Nat.le_refl i) (by lia))
    rw [this]; rfl
end
end Mine
end
section
open PyProof.Rows.LCg
namespace Mine
def wantL (xs : List Nat) : List Nat := xs.flatMap (fun x => [46,46,46,x]) ++ [46,46,46]
def ring : List Nat := [97, 10, 35, 9, 98, 13]
def wantOk (xs : List Nat) : Bool := 
  (Builtin.Str.occurrences ⟨(wantL xs).toArray⟩ ⟨#[46,46,46]⟩ 0 (wantL xs).length 1).isEmpty == false &&
  (Txt.split ⟨(wantL xs).toArray⟩ ⟨#[46,46,46]⟩ == (⟨#[]⟩ :: xs.map ch ++ [⟨#[]⟩]))
/-- a sign that is no dot is told from a dot alone -/
def dotG (x : Nat) : Nat := if x = 46 then 46 else 97
theorem dotG_eq (x : Nat) : dotG x = 46 ↔ x = 46 := by unfold dotG; split <;> lia
theorem dots_map (m : List Nat) : m.map dotG = [46, 46, 46] ↔ m = [46, 46, 46] := by
  match m with
  | [] => simp
  | [a] => simp
  | [a, b] => simp
  | [a, b, c] => simp [dotG_eq]
  | a :: b :: c :: d :: r => simp
theorem subAt_map (l : List Nat) (i : Nat) : Builtin.Str.subAt ⟨(l.map dotG).toArray⟩ ⟨#[46,46,46]⟩ i = Builtin.Str.subAt ⟨l.toArray⟩ ⟨#[46,46,46]⟩ i := by
  unfold Builtin.Str.subAt
  rw [Bool.eq_iff_iff, beq_iff_eq, beq_iff_eq]
  have e : ∀ k : List Nat, (k.toArray.extract i (i + (⟨#[46,46,46]⟩ : Str).length) = #[46,46,46]) ↔ ((k.drop i).take 3 = [46,46,46]) := by
    intro k
    rw [List.extract_toArray]
    show (List.extract k i (i + 3)).toArray = [46, 46, 46].toArray ↔ _
    rw [List.extract_eq_take_drop, show i + 3 - i = 3 by lia]
    exact ⟨fun h => by simpa using congrArg Array.toList h, fun h => by rw [h]⟩
  show ((l.map dotG).toArray.extract i _ = #[46,46,46]) ↔ (l.toArray.extract i _ = #[46,46,46])
  rw [e, e, ← List.map_drop, ← List.map_take, dots_map]
theorem occ_map (l : List Nat) (lo hi lim : Nat) : Builtin.Str.occurrences ⟨(l.map dotG).toArray⟩ ⟨#[46,46,46]⟩ lo hi lim = Builtin.Str.occurrences ⟨l.toArray⟩ ⟨#[46,46,46]⟩ lo hi lim := by
  have e : Builtin.Str.subAt ⟨(l.map dotG).toArray⟩ ⟨#[46,46,46]⟩ = Builtin.Str.subAt ⟨l.toArray⟩ ⟨#[46,46,46]⟩ := funext fun i => subAt_map l i
  unfold Builtin.Str.occurrences
  rw [e]
theorem kind_one (x : Str) : ¬ Builtin.Str.strKind x < Builtin.Str.strKind ⟨#[46,46,46]⟩ := by
  have e : Builtin.Str.strKind ⟨#[46,46,46]⟩ = 1 := by decide +kernel
  rw [e]
  unfold Builtin.Str.strKind
  split
  · lia
  · split <;> lia
theorem wantOk_at {xs ys occ : List Nat} {n : Nat} (hn : (wantL xs).length = n) (hy : (wantL xs).map dotG = ys) (h1 : (Builtin.Str.occurrences ⟨ys.toArray⟩ ⟨#[46,46,46]⟩ 0 n 1).isEmpty = false) (h2 : Builtin.Str.occurrences ⟨ys.toArray⟩ ⟨#[46,46,46]⟩ 0 n (n + 1) = occ)
    (h3 : occ.isEmpty = false) (h4 : Builtin.Str.partsBetween ⟨(wantL xs).toArray⟩ occ 3 = ⟨#[]⟩ :: xs.map ch ++ [⟨#[]⟩]) (h5 : ¬ n < 3) : wantOk xs = true := by
  subst hn hy
  rw [occ_map] at h1 h2
  have hl : (⟨(wantL xs).toArray⟩ : Str).length = (wantL xs).length := by simp [Str.length]
  have hd : (⟨#[46,46,46]⟩ : Str).length = 3 := rfl
  unfold wantOk
  rw [Bool.and_eq_true, beq_iff_eq, beq_iff_eq]
  refine ⟨h1, ?_⟩
  unfold Txt.split
  rw [hl, hd, h2, h3, h4, decide_eq_false h5, decide_eq_false (kind_one _)]
  rfl
theorem wantOk_of {xs : List Nat} (h1 : 1 ≤ xs.length) (h3 : xs.length ≤ 3) (hr : ∀ x ∈ xs, x ∈ ring) : wantOk xs = true := by
  have hn : ∀ x ∈ xs, dotG x = 97 := fun x hx => by
    have : ∀ y ∈ ring, dotG y = 97 := by decide
    exact this x (hr x hx)
  match xs, h1, h3, hn with
  | [a], _, _, hn =>
    have e : (wantL [a]).map dotG = [46, 46, 46, 97, 46, 46, 46] := by
      show [46, 46, 46, dotG a, 46, 46, 46] = _
      rw [hn a (by simp)]
    exact wantOk_at (n := 7) (occ := [0, 4]) rfl e (by decide +kernel) (by decide +kernel) rfl rfl (by decide)
  | [a, b], _, _, hn =>
    have e : (wantL [a, b]).map dotG = [46, 46, 46, 97, 46, 46, 46, 97, 46, 46, 46] := by
      show [46, 46, 46, dotG a, 46, 46, 46, dotG b, 46, 46, 46] = _
      rw [hn a (by simp), hn b (by simp)]
    exact wantOk_at (n := 11) (occ := [0, 4, 8]) rfl e (by decide +kernel) (by decide +kernel) rfl rfl (by decide)
  | [a, b, c], _, _, hn =>
    have e : (wantL [a, b, c]).map dotG = [46, 46, 46, 97, 46, 46, 46, 97, 46, 46, 46, 97, 46, 46, 46] := by
      show [46, 46, 46, dotG a, 46, 46, 46, dotG b, 46, 46, 46, dotG c, 46, 46, 46] = _
      rw [hn a (by simp), hn b (by simp), hn c (by simp)]
    exact wantOk_at (n := 15) (occ := [0, 4, 8, 12]) rfl e (by decide +kernel) (by decide +kernel) rfl rfl (by decide)
end Mine
end
section
open PyProof.Rows.LCg
namespace Mine
section
variable {prog : Program} {w : World} {A : Around} {E : Value → Shared → Prop} {s : Shared} {h₀ : Heap} {L l : Addr} {m : Str → Option Value} {news : List (Addr × Obj)} {vs : List Value} {n : Nat} {Q : Value → Shared → Prop}
theorem m_split {x y : Str} {t u : Tok} (F : Fr h₀ L s.heap m) (N : News h₀ L s.heap news) (hy : (y.length == 0) = false) (hx : x.length < 100000)
    (h : ∀ D l h' k, l.map (·.1) = Txt.split x y → (∀ p ∈ news, p.1 < D) → Fr h₀ L h' m → News h₀ L h' ((D, W.listOf (strValues l).toArray 0) :: news) → Q (.ref D) { s with heap := h', toks := k }) :
    wpAny (model prog w) A (call (.builtin "str.split") [.str x t, .str y u]) Q E s :=
  splitN1 F N hy (fun l h' k hl F' N' => h _ l h' k hl (fun p hp => Heap.lt_size (N p hp).1) F' N') (by rw [sizeLine_eq]; lia)
theorem m_item_neg {value slice : Expr} {k : Int} {u : Tok} {v : Value} (N : News h₀ L s.heap news) (hm : (l, W.listOf vs.toArray n) ∈ news) (h0 : k < 0) (h1 : -(vs.length : Int) ≤ k) (hf : -100000 < k) (hx : vs[(k + vs.length).toNat]? = some v) (h : Q v s)
    (hs : subscripted slice false (.ref l) (.int k u) = operate [.ref l, .int k u] (getItem (.ref l) (.int k u)) := by with_unfolding_all rfl) :
    wpAny (model prog w) A (subscriptTail value slice (.ref l) (.int k u)) Q E s :=
  tail_any (m_isList N hm).typeIs slot_list_getitem.lookup (wpAny_getItem_list_neg (m_isList N hm) h0 (by rw [List.size_toArray]; exact h1) (by lia) (by simpa using hx) h) hs
end
def matchP : List (List Nat) → List Nat → Bool
  | [], _ => true
  | [x] :: ps, gs => match gs.dropWhile (· != x) with
    | [] => false
    | _ :: r => matchP ps r
  | _ :: ps, gs => matchP ps gs
def matchV : List Nat → List Nat → Bool
  | [], _ => true
  | x :: xs, gs => match gs.dropWhile (· != x) with
    | [] => false
    | _ :: r => matchV xs r
theorem matchP_eq : ∀ (xs gs : List Nat), matchP (xs.map (fun x => [x]) ++ [[]]) gs = matchV xs gs
  | [], _ => rfl
  | x :: xs, gs => by
    show matchP ([x] :: (xs.map (fun x => [x]) ++ [[]])) gs = _
    rw [matchP, matchV]
    split
    · rfl
    · exact matchP_eq _ _
theorem strv_at {l : List (Str × Tok)} {i : Nat} {v : Value} (h : (strValues l)[i]? = some v) : ∃ y t, v = .str y t ∧ (l.map (·.1))[i]? = some y := by
  simp only [strValues, List.getElem?_map, Option.map_eq_some_iff] at h
  obtain ⟨p, h1, h2⟩ := h
  exact ⟨p.1, p.2, h2.symm, by rw [List.getElem?_map, h1]; rfl⟩
theorem m_find2 {prog : Program} {w : World} {A : Around} {E : Value → Shared → Prop} {s : Shared} {Q : Value → Shared → Prop} {gs : List Nat} {y : Str} {i : Nat} {t u v v' : Tok} {j : Nat} {r : Int} (hj : gs.length = j) (hv : occ1 (Builtin.Str.occurrences ⟨gs.toArray⟩ y i gs.length 1) = r) (hq : ∀ t' k', Q (.int r t') { s with toks := k' }) :
    wpAny (model prog w) A (call (.builtin "str.find") [.str ⟨gs.toArray⟩ t, .str y u, .int i v, .int j v']) Q E s := by subst hv; exact m_find hj hq
theorem drop_dw {c : Nat} {r : List Nat} {sp : Nat} {gs : List Nat} (h : (gs.drop sp).dropWhile (· != c) = c :: r) : gs.drop (gs.length - r.length) = r ∧ r.length + 1 ≤ gs.length := by
  have h1 : (c :: r) <:+ gs := h ▸ (List.dropWhile_suffix _).trans (List.drop_suffix _ _)
  obtain ⟨pre, hp⟩ := h1
  have hl := congrArg List.length hp
  simp only [List.length_append, List.length_cons] at hl
  refine ⟨?_, by lia⟩
  rw [← hp, show (pre ++ c :: r).length - r.length = (pre ++ [c]).length by simp; lia, show pre ++ c :: r = (pre ++ [c]) ++ r by simp, List.drop_left]
theorem dw_head {c : Nat} {l : List Nat} {a : Nat} {r : List Nat} (h : l.dropWhile (· != c) = a :: r) : a = c := by
  have := List.head?_dropWhile_not (· != c) l
  rw [h] at this
  simpa using this
set_option maxHeartbeats 4000000 in
theorem em_tells {prog : Program} {w : World} {p : Program} {loose : List Str} {mean : ExcName → Option Value} {mg mb : Str → Option Value}
  (dp un : Nat) (gd : Option (List Code)) (cn : Str) (cs : Scope) (a : Addr) (ccd : Value) (cl : List (Str × Addr)) (outer : List Env) (A₀ : Around) (base h₀ : Heap) (L : Addr) (m : Str → Option Value) (news : List (Addr × Obj)) (s : Shared)
  (Q E : Value → Shared → Prop)
  (B : Below A₀ base outer h₀) (F : Fr h₀ L s.heap m) (X : (Mine.hd.heap_39 w.params).In h₀) (N : News h₀ L s.heap news) (T : Top p loose mean mg mb h₀) (hk : cs.kind = .function)
  (xs gs : List Nat) (t u : Tok) (hxs : xs.length ≤ 3) (hgs : gs.length ≤ 20) (hd : dp + 40 < recursionLimit) (hu : un + 400 < cLine)
  (hok : wantOk xs = true)
  (hret : ∀ h' tk', Fr h₀ L h' m → News h₀ L h' news → Q (.bool (matchV xs gs)) { s with heap := h', toks := tk' }) :
  wpAny (model prog w) (ktrTop dp un gd cn cs L a ccd cl outer) (call (.ref 88) [.str ⟨(wantL xs).toArray⟩ t, .str ⟨gs.toArray⟩ u]) Q E s := by
  w_top off
  obtain ⟨hp, gn, dr, tk0, os⟩ := s
  dsimp only at *
  refine wpAny_call ?_
  k_dflt ((refine' code_def (binds := [(Str.ofString "want", .str ⟨(wantL xs).toArray⟩ t), (Str.ofString "got", .str ⟨gs.toArray⟩ u)]) ?k1 ?k2 ?k3 ?k4 ?k5 ?kA ?kF ?kK ?k6 ?k7 ?k8 ?k9 ?kB ?_ ?c2 ?c3 ?c4 ?c5; (case kA => exact rfl); (case kF => exact rfl); (case kK => first | exact rfl | assumption); (case k1 => k_asm); (case k2 => k_asm); (case k3 => k_asm); (case k4 => k_asm); (case k5 => k_asm); (case k6 => k_is); (case k7 => k_is); (case k8 => k_room); (case k9 => first | exact BindsTo.of_eq rfl | (refine' kp_binds ?kx ?ke; (case kx => k_in); (case ke => exact fun _ => rfl))); (case c5 => decide); (case kB => exact locs rfl); (case c2 => exact rfl); (case c3 => exact rfl); (case c4 => exact rfl); k_whole; intro g' L' h' FG' F' N' B' X' T'; (try dsimp only [List.reverse_cons, List.reverse_nil, List.nil_append, List.cons_append, List.length_cons, List.length_nil] at F'); (try dsimp only); (try k_fold)))
  clear F N
  have hwl : (⟨(wantL xs).toArray⟩ : Str).length = (wantL xs).length := by simp [Str.length]
  have hd3 : Str.ofString "..." = ⟨#[46,46,46]⟩ := by decide +kernel
  obtain ⟨hoc, hsp⟩ : (Builtin.Str.occurrences ⟨(wantL xs).toArray⟩ (Str.ofString "...") 0 (⟨(wantL xs).toArray⟩ : Str).length 1).isEmpty = false ∧ Txt.split ⟨(wantL xs).toArray⟩ (Str.ofString "...") = (⟨#[]⟩ :: xs.map ch ++ [⟨#[]⟩]) := by
    unfold wantOk at hok
    rw [Bool.and_eq_true, beq_iff_eq, beq_iff_eq] at hok
    rw [hd3, hwl]; exact hok
  have hwl2 : (wantL xs).length < 1000 := by
    have : ∀ l : List Nat, (l.flatMap (fun x => [46,46,46,x])).length = 4 * l.length := by
      intro l; induction l with
      | nil => rfl
      | cons a l ih => simp only [List.flatMap_cons, List.length_append, ih, List.length_cons, List.length_nil]; lia
    simp only [wantL, List.length_append, this, List.length_cons, List.length_nil]; lia
  (repeat' (first | (k_unfold; (try dsimp only)) | ((with_reducible show wpAny _ _ (exec (Stmt.While _ _ _ _) _) _ _ _); refine Mine.Hold.out ?_) | ((with_reducible show wpAny _ _ (storeName _ _ _) _ _ _); refine' storeX_L ?zzF ?zzN ?_ ?zza ?zzb; (case zzF => k_asm); (case zzN => k_asm); (case zza => rfl); (case zzb => rfl); k_whole; intro _ zF zN; (try dsimp only at zF); (try k_sweep); (revert zF zN; intro _ _)) | ((with_reducible show wpAny _ _ (call (Value.builtin "len") [Value.str (Str.mk (List.toArray _)) _]) _ _ _); refine' Mine.s_len ?zzk3 ?_; (case zzk3 => first | lia | (simp only [List.length_append, List.length_cons, List.length_nil]; lia)); intro _ _) | ((with_reducible show wpAny _ _ (call (Value.builtin "len") [Value.ref _]) _ _ _); refine' Mine.m_len ?zzk1 ?zzk2 ?zzk3 ?_; (case zzk1 => k_asm); (case zzk2 => k_mem); (case zzk3 => first | lia | (simp only [List.length_cons, List.length_nil, List.length_map, PySem.strValues]; omega))) | ((with_reducible show wpAny _ _ (binaryOp Operator.Add (Value.str _ _) (Value.str _ _)) _ _ _); refine' Mine.s_add ?zzk1 ?zzk2 ?zzk3 ?zzk4 ?_; (case zzk1 => first | exact Mine.sp_eq | exact Mine.no_eq | exact Mine.dots_eq | with_reducible exact rfl); (case zzk2 => first | exact Mine.sp_eq | exact Mine.no_eq | exact Mine.dots_eq | with_reducible exact rfl); (case zzk3 => first | assumption | lia | (simp only [List.length_append, List.length_cons, List.length_nil]; lia)); (case zzk4 => first | assumption | lia | (simp only [List.length_append, List.length_cons, List.length_nil]; lia)); intro _ _) | ((with_reducible show wpAny _ _ (subscriptTail (Expr.Name _ _) (Expr.Name _ _) (Value.str _ _) (Value.int _ _)) _ _ _); refine' Mine.s_item ?zzh0 ?zzh1 ?zzh2 ?_; (case zzh0 => lia); (case zzh1 => lia); (case zzh2 => assumption); intro _ _) | ((with_reducible show Mine.FlPost _ _ _ _ _ _ _ _ _ _); dsimp only [Mine.FlPost]) | ((with_reducible show wpAny _ _ (call (Value.builtin "str.split") _) _ _ _); refine Hold.out ?_) | ((with_reducible show wpAny _ _ (subscriptTail (Expr.Name _ _) (Expr.Constant _ _ _) (Value.ref _) (Value.int _ _)) _ _ _); (refine' Mine.m_item ?zzk1 ?zzk2 ?zzk3 ?zzk4 ?zzk5 ?_ ?zzk6; (case zzk1 => k_asm); (case zzk2 => k_mem); (case zzk3 => first | (with_reducible assumption) | lia); (case zzk4 => first | (with_reducible assumption) | lia); (case zzk5 => assumption); (case zzk6 => with_unfolding_all rfl))) | ((with_reducible show wpAny _ _ (subscriptTail (Expr.Name _ _) (Expr.UnaryOp _ _ _) (Value.ref _) (Value.int _ _)) _ _ _); (refine' Mine.m_item_neg ?zzk1 ?zzk2 ?zzk3 ?zzk4 ?zzk7 ?zzk5 ?_ ?zzk6; (case zzk1 => k_asm); (case zzk2 => k_mem); (case zzk3 => first | (with_reducible assumption) | lia); (case zzk4 => first | (with_reducible assumption) | lia); (case zzk7 => first | (with_reducible assumption) | lia); (case zzk5 => assumption); (case zzk6 => with_unfolding_all rfl))) | ((with_reducible show wpAny _ _ (exec (Stmt.For _ _ _ _ _) _) _ _ _); refine' fl_for ?_) | ((with_reducible show wpAny _ _ (pyIter (Value.ref _)) _ _ _); refine Hold.out ?_) | ((with_reducible show wpAny _ _ (call (Value.builtin "str.find") _) _ _ _); refine' m_find2 ?zzhj ?zzhv ?_; (case zzhj => rfl); (case zzhv => assumption); intro _ _) | (k_end; kc_close) | (walk1; (try dsimp only)) | (dsimp only; walk1) | (leave1; (try dsimp only)) | fail "no step"))
  rename Fr _ _ _ _ => F1
  rename News _ _ _ _ => N1
  refine Hold.mk (m_split F1 N1 (by decide +kernel) (by lia) ?_)
  intro D l h2 tk2 hl l1 F2 N2
  clear F1 N1
  rw [hsp] at hl
  obtain ⟨t0, l2, t1, rfl, hl2⟩ : ∃ t0 l2 t1, l = (⟨#[]⟩, t0) :: (l2 ++ [(⟨#[]⟩, t1)]) ∧ l2.map (·.1) = xs.map ch := by
    cases l with
    | nil => simp at hl
    | cons p l =>
      obtain ⟨a, b⟩ := p
      simp only [List.map_cons, List.cons_append, List.cons.injEq] at hl
      obtain ⟨rfl, hl⟩ := hl
      obtain ⟨l2, l3, rfl, h1, h2⟩ := List.map_eq_append_iff.mp hl
      obtain ⟨⟨c, d⟩, rfl, rfl⟩ : ∃ p, l3 = [p] ∧ p.1 = ⟨#[]⟩ := by
        cases l3 with
        | nil => simp at h2
        | cons p l3 =>
          cases l3 with
          | nil => exact ⟨p, rfl, by simpa using h2⟩
          | cons q r => simp at h2
      exact ⟨b, l2, d, rfl, h1⟩
  have hll : l2.length = xs.length := by simpa using congrArg List.length hl2
  generalize hvs : strValues ((⟨#[]⟩, t0) :: (l2 ++ [(⟨#[]⟩, t1)])) = vs at N2
  have hvl : vs.length = xs.length + 2 := by rw [← hvs]; simp [strValues, hll]
  have hi0 : vs[((0 : Int)).toNat]? = some (.str ⟨#[]⟩ t0) := by rw [← hvs]; rfl
  have hi1 : vs[((-1 : Int) + vs.length).toNat]? = some (.str ⟨#[]⟩ t1) := by
    rw [show ((-1 : Int) + vs.length).toNat = xs.length + 1 by lia, ← hvs, ← hll]
    simp [strValues]
  (repeat' (first | (k_unfold; (try dsimp only)) | ((with_reducible show wpAny _ _ (exec (Stmt.While _ _ _ _) _) _ _ _); refine Mine.Hold.out ?_) | ((with_reducible show wpAny _ _ (storeName _ _ _) _ _ _); refine' storeX_L ?zzF ?zzN ?_ ?zza ?zzb; (case zzF => k_asm); (case zzN => k_asm); (case zza => rfl); (case zzb => rfl); k_whole; intro _ zF zN; (try dsimp only at zF); (try k_sweep); (revert zF zN; intro _ _)) | ((with_reducible show wpAny _ _ (call (Value.builtin "len") [Value.str (Str.mk (List.toArray _)) _]) _ _ _); refine' Mine.s_len ?zzk3 ?_; (case zzk3 => first | lia | (simp only [List.length_append, List.length_cons, List.length_nil]; lia)); intro _ _) | ((with_reducible show wpAny _ _ (call (Value.builtin "len") [Value.ref _]) _ _ _); refine' Mine.m_len ?zzk1 ?zzk2 ?zzk3 ?_; (case zzk1 => k_asm); (case zzk2 => k_mem); (case zzk3 => first | lia | (simp only [List.length_cons, List.length_nil, List.length_map, PySem.strValues]; omega))) | ((with_reducible show wpAny _ _ (binaryOp Operator.Add (Value.str _ _) (Value.str _ _)) _ _ _); refine' Mine.s_add ?zzk1 ?zzk2 ?zzk3 ?zzk4 ?_; (case zzk1 => first | exact Mine.sp_eq | exact Mine.no_eq | exact Mine.dots_eq | with_reducible exact rfl); (case zzk2 => first | exact Mine.sp_eq | exact Mine.no_eq | exact Mine.dots_eq | with_reducible exact rfl); (case zzk3 => first | assumption | lia | (simp only [List.length_append, List.length_cons, List.length_nil]; lia)); (case zzk4 => first | assumption | lia | (simp only [List.length_append, List.length_cons, List.length_nil]; lia)); intro _ _) | ((with_reducible show wpAny _ _ (subscriptTail (Expr.Name _ _) (Expr.Name _ _) (Value.str _ _) (Value.int _ _)) _ _ _); refine' Mine.s_item ?zzh0 ?zzh1 ?zzh2 ?_; (case zzh0 => lia); (case zzh1 => lia); (case zzh2 => assumption); intro _ _) | ((with_reducible show Mine.FlPost _ _ _ _ _ _ _ _ _ _); dsimp only [Mine.FlPost]) | ((with_reducible show wpAny _ _ (call (Value.builtin "str.split") _) _ _ _); refine Hold.out ?_) | ((with_reducible show wpAny _ _ (subscriptTail (Expr.Name _ _) (Expr.Constant _ _ _) (Value.ref _) (Value.int _ _)) _ _ _); (refine' Mine.m_item ?zzk1 ?zzk2 ?zzk3 ?zzk4 ?zzk5 ?_ ?zzk6; (case zzk1 => k_asm); (case zzk2 => k_mem); (case zzk3 => first | (with_reducible assumption) | lia); (case zzk4 => first | (with_reducible assumption) | lia); (case zzk5 => assumption); (case zzk6 => with_unfolding_all rfl))) | ((with_reducible show wpAny _ _ (subscriptTail (Expr.Name _ _) (Expr.UnaryOp _ _ _) (Value.ref _) (Value.int _ _)) _ _ _); (refine' Mine.m_item_neg ?zzk1 ?zzk2 ?zzk3 ?zzk4 ?zzk7 ?zzk5 ?_ ?zzk6; (case zzk1 => k_asm); (case zzk2 => k_mem); (case zzk3 => first | (with_reducible assumption) | lia); (case zzk4 => first | (with_reducible assumption) | lia); (case zzk7 => first | (with_reducible assumption) | lia); (case zzk5 => assumption); (case zzk6 => with_unfolding_all rfl))) | ((with_reducible show wpAny _ _ (exec (Stmt.For _ _ _ _ _) _) _ _ _); refine' fl_for ?_) | ((with_reducible show wpAny _ _ (pyIter (Value.ref _)) _ _ _); refine Hold.out ?_) | ((with_reducible show wpAny _ _ (call (Value.builtin "str.find") _) _ _ _); refine' m_find2 ?zzhj ?zzhv ?_; (case zzhj => rfl); (case zzhv => assumption); intro _ _) | (k_end; kc_close) | (walk1; (try dsimp only)) | (dsimp only; walk1) | (leave1; (try dsimp only)) | fail "no step"))
  rename Fr _ _ _ _ => F1
  rename News _ _ _ _ => N1
  replace N1 := m_tail N1
  rename_i ts0 te0 _ _ _ _ _ _ _ _
  replace F1 := ksw_fr (stored := [Str.ofString "w"]) (m₀ := fun _ => none) (ps := [(Str.ofString "startpos", Value.int ((0 : Nat) : Int) _), (Str.ofString "endpos", .int (gs.length : Int) _), (Str.ofString "ws", .ref D), (Str.ofString "want", .str ⟨(wantL xs).toArray⟩ t), (Str.ofString "got", .str ⟨gs.toArray⟩ u)]) (by kst_all) (by (intro z h2 h3; (simp only [List.forall_mem_cons, List.not_mem_nil, false_implies, implies_true, and_true, ne_eq] at h2); (simp only [List.contains_cons, List.contains_nil, Bool.or_false, Bool.or_eq_false_iff, beq_eq_false_iff_ne, ne_eq] at h3); (simp [kstB, h2, h3]; done))) F1
  refine Hold.mk ?_
  refine fl_list (fun I i m nw => nw = (D, W.listOf vs.toArray 0) :: news ∧ ∃ (u9 : Str → Option Value) (sp : Nat) (t9 te : Tok), m = kstB (fun z => if [Str.ofString "w"].contains z then u9 z else none) [(Str.ofString "startpos", Value.int (sp : Int) t9), (Str.ofString "endpos", .int (gs.length : Int) te), (Str.ofString "ws", .ref D), (Str.ofString "want", .str ⟨(wantL xs).toArray⟩ t), (Str.ofString "got", .str ⟨gs.toArray⟩ u)] ∧
    sp ≤ gs.length ∧ matchP ((([] : List Nat) :: (xs.map (fun x => [x]) ++ [[]])).drop i) (gs.drop sp) = matchV xs gs) (by rfl) ?go F1 N1 List.mem_cons_self ?hS ?h0 ?step ?fin (by passes_own)
  case go => intro I i v s Q E _ _ hq; exact wpAny_of_eq rfl hq
  case hS => rintro I i m nw ⟨rfl, _⟩; exact List.mem_cons_self
  case h0 => intro I _; exact ⟨rfl, _, 0, _, _, rfl, Nat.zero_le _, matchP_eq xs gs⟩
  case fin =>
    rintro I h3 tk3 m3 nw hI ⟨rfl, u9, sp, t9, te, rfl, hsp9, hm9⟩ F3 N3
    have e : matchV xs gs = true := by
      rw [← hm9, List.drop_of_length_le (by simp; lia)]; rfl
    rw [e] at hret
    (repeat' (first | (k_unfold; (try dsimp only)) | ((with_reducible show wpAny _ _ (exec (Stmt.While _ _ _ _) _) _ _ _); refine Mine.Hold.out ?_) | ((with_reducible show wpAny _ _ (storeName _ _ _) _ _ _); refine' storeX_L ?zzF ?zzN ?_ ?zza ?zzb; (case zzF => k_asm); (case zzN => k_asm); (case zza => rfl); (case zzb => rfl); k_whole; intro _ zF zN; (try dsimp only at zF); (try k_sweep); (revert zF zN; intro _ _)) | ((with_reducible show wpAny _ _ (call (Value.builtin "len") [Value.str (Str.mk (List.toArray _)) _]) _ _ _); refine' Mine.s_len ?zzk3 ?_; (case zzk3 => first | lia | (simp only [List.length_append, List.length_cons, List.length_nil]; lia)); intro _ _) | ((with_reducible show wpAny _ _ (call (Value.builtin "len") [Value.ref _]) _ _ _); refine' Mine.m_len ?zzk1 ?zzk2 ?zzk3 ?_; (case zzk1 => k_asm); (case zzk2 => k_mem); (case zzk3 => first | lia | (simp only [List.length_cons, List.length_nil, List.length_map, PySem.strValues]; omega))) | ((with_reducible show wpAny _ _ (binaryOp Operator.Add (Value.str _ _) (Value.str _ _)) _ _ _); refine' Mine.s_add ?zzk1 ?zzk2 ?zzk3 ?zzk4 ?_; (case zzk1 => first | exact Mine.sp_eq | exact Mine.no_eq | exact Mine.dots_eq | with_reducible exact rfl); (case zzk2 => first | exact Mine.sp_eq | exact Mine.no_eq | exact Mine.dots_eq | with_reducible exact rfl); (case zzk3 => first | assumption | lia | (simp only [List.length_append, List.length_cons, List.length_nil]; lia)); (case zzk4 => first | assumption | lia | (simp only [List.length_append, List.length_cons, List.length_nil]; lia)); intro _ _) | ((with_reducible show wpAny _ _ (subscriptTail (Expr.Name _ _) (Expr.Name _ _) (Value.str _ _) (Value.int _ _)) _ _ _); refine' Mine.s_item ?zzh0 ?zzh1 ?zzh2 ?_; (case zzh0 => lia); (case zzh1 => lia); (case zzh2 => assumption); intro _ _) | ((with_reducible show Mine.FlPost _ _ _ _ _ _ _ _ _ _); dsimp only [Mine.FlPost]) | ((with_reducible show wpAny _ _ (call (Value.builtin "str.split") _) _ _ _); refine Hold.out ?_) | ((with_reducible show wpAny _ _ (subscriptTail (Expr.Name _ _) (Expr.Constant _ _ _) (Value.ref _) (Value.int _ _)) _ _ _); (refine' Mine.m_item ?zzk1 ?zzk2 ?zzk3 ?zzk4 ?zzk5 ?_ ?zzk6; (case zzk1 => k_asm); (case zzk2 => k_mem); (case zzk3 => first | (with_reducible assumption) | lia); (case zzk4 => first | (with_reducible assumption) | lia); (case zzk5 => assumption); (case zzk6 => with_unfolding_all rfl))) | ((with_reducible show wpAny _ _ (subscriptTail (Expr.Name _ _) (Expr.UnaryOp _ _ _) (Value.ref _) (Value.int _ _)) _ _ _); (refine' Mine.m_item_neg ?zzk1 ?zzk2 ?zzk3 ?zzk4 ?zzk7 ?zzk5 ?_ ?zzk6; (case zzk1 => k_asm); (case zzk2 => k_mem); (case zzk3 => first | (with_reducible assumption) | lia); (case zzk4 => first | (with_reducible assumption) | lia); (case zzk7 => first | (with_reducible assumption) | lia); (case zzk5 => assumption); (case zzk6 => with_unfolding_all rfl))) | ((with_reducible show wpAny _ _ (exec (Stmt.For _ _ _ _ _) _) _ _ _); refine' fl_for ?_) | ((with_reducible show wpAny _ _ (pyIter (Value.ref _)) _ _ _); refine Hold.out ?_) | ((with_reducible show wpAny _ _ (call (Value.builtin "str.find") _) _ _ _); refine' m_find2 ?zzhj ?zzhv ?_; (case zzhj => rfl); (case zzhv => assumption); intro _ _) | (k_end; kc_close) | (walk1; (try dsimp only)) | (dsimp only; walk1) | (leave1; (try dsimp only)) | fail "no step"))
    rename Fr _ _ _ _ => FZ
    rename News _ _ _ _ => NZ
    exact hret _ _ FZ (m_tail NZ)
  case step =>
    rintro I i v m3 nw o h3 tk3 hI hv ⟨rfl, u9, sp, t9, te, rfl, hsp9, hm9⟩ hne F3 N3
    clear F1 N1
    rw [← hvs] at hv
    obtain ⟨y, ty, rfl, hy⟩ := strv_at hv
    have hpm : ((⟨#[]⟩, t0) :: (l2 ++ [(⟨#[]⟩, t1)]) : List (Str × Tok)).map (·.1) = (([] : List Nat) :: (xs.map (fun x => [x]) ++ [[]])).map (fun p => (⟨p.toArray⟩ : Str)) := by
      simp only [List.map_cons, List.map_append, hl2, List.map_map, List.map_nil]; rfl
    rw [hpm, List.getElem?_map, Option.map_eq_some_iff] at hy
    obtain ⟨q, hq, rfl⟩ := hy
    have hdrop : (([] : List Nat) :: (xs.map (fun x => [x]) ++ [[]])).drop i = q :: (([] : List Nat) :: (xs.map (fun x => [x]) ++ [[]])).drop (i + 1) := by
      obtain ⟨h1, h2⟩ := List.getElem?_eq_some_iff.mp hq
      rw [← h2]; exact List.drop_eq_getElem_cons h1
    rw [hdrop] at hm9
    have hqc : q = [] ∨ ∃ c, q = [c] := by
      have := List.mem_of_getElem? hq
      simp only [List.mem_cons, List.mem_append, List.mem_map, List.not_mem_nil, or_false] at this
      rcases this with h | ⟨c, _, h⟩ | h
      · exact .inl h
      · exact .inr ⟨c, h.symm⟩
      · exact .inl h
    rcases hqc with rfl | ⟨c, rfl⟩
    · have hv9 := find_e hsp9
      have hm9 : matchP _ _ = _ := hm9
      (repeat' (first | (k_unfold; (try dsimp only)) | ((with_reducible show wpAny _ _ (exec (Stmt.While _ _ _ _) _) _ _ _); refine Mine.Hold.out ?_) | ((with_reducible show wpAny _ _ (storeName _ _ _) _ _ _); refine' storeX_L ?zzF ?zzN ?_ ?zza ?zzb; (case zzF => k_asm); (case zzN => k_asm); (case zza => rfl); (case zzb => rfl); k_whole; intro _ zF zN; (try dsimp only at zF); (try k_sweep); (revert zF zN; intro _ _)) | ((with_reducible show wpAny _ _ (call (Value.builtin "len") [Value.str (Str.mk (List.toArray _)) _]) _ _ _); refine' Mine.s_len ?zzk3 ?_; (case zzk3 => first | lia | (simp only [List.length_append, List.length_cons, List.length_nil]; lia)); intro _ _) | ((with_reducible show wpAny _ _ (call (Value.builtin "len") [Value.ref _]) _ _ _); refine' Mine.m_len ?zzk1 ?zzk2 ?zzk3 ?_; (case zzk1 => k_asm); (case zzk2 => k_mem); (case zzk3 => first | lia | (simp only [List.length_cons, List.length_nil, List.length_map, PySem.strValues]; omega))) | ((with_reducible show wpAny _ _ (binaryOp Operator.Add (Value.str _ _) (Value.str _ _)) _ _ _); refine' Mine.s_add ?zzk1 ?zzk2 ?zzk3 ?zzk4 ?_; (case zzk1 => first | exact Mine.sp_eq | exact Mine.no_eq | exact Mine.dots_eq | with_reducible exact rfl); (case zzk2 => first | exact Mine.sp_eq | exact Mine.no_eq | exact Mine.dots_eq | with_reducible exact rfl); (case zzk3 => first | assumption | lia | (simp only [List.length_append, List.length_cons, List.length_nil]; lia)); (case zzk4 => first | assumption | lia | (simp only [List.length_append, List.length_cons, List.length_nil]; lia)); intro _ _) | ((with_reducible show wpAny _ _ (subscriptTail (Expr.Name _ _) (Expr.Name _ _) (Value.str _ _) (Value.int _ _)) _ _ _); refine' Mine.s_item ?zzh0 ?zzh1 ?zzh2 ?_; (case zzh0 => lia); (case zzh1 => lia); (case zzh2 => assumption); intro _ _) | ((with_reducible show Mine.FlPost _ _ _ _ _ _ _ _ _ _); dsimp only [Mine.FlPost]) | ((with_reducible show wpAny _ _ (call (Value.builtin "str.split") _) _ _ _); refine Hold.out ?_) | ((with_reducible show wpAny _ _ (subscriptTail (Expr.Name _ _) (Expr.Constant _ _ _) (Value.ref _) (Value.int _ _)) _ _ _); (refine' Mine.m_item ?zzk1 ?zzk2 ?zzk3 ?zzk4 ?zzk5 ?_ ?zzk6; (case zzk1 => k_asm); (case zzk2 => k_mem); (case zzk3 => first | (with_reducible assumption) | lia); (case zzk4 => first | (with_reducible assumption) | lia); (case zzk5 => assumption); (case zzk6 => with_unfolding_all rfl))) | ((with_reducible show wpAny _ _ (subscriptTail (Expr.Name _ _) (Expr.UnaryOp _ _ _) (Value.ref _) (Value.int _ _)) _ _ _); (refine' Mine.m_item_neg ?zzk1 ?zzk2 ?zzk3 ?zzk4 ?zzk7 ?zzk5 ?_ ?zzk6; (case zzk1 => k_asm); (case zzk2 => k_mem); (case zzk3 => first | (with_reducible assumption) | lia); (case zzk4 => first | (with_reducible assumption) | lia); (case zzk7 => first | (with_reducible assumption) | lia); (case zzk5 => assumption); (case zzk6 => with_unfolding_all rfl))) | ((with_reducible show wpAny _ _ (exec (Stmt.For _ _ _ _ _) _) _ _ _); refine' fl_for ?_) | ((with_reducible show wpAny _ _ (pyIter (Value.ref _)) _ _ _); refine Hold.out ?_) | ((with_reducible show wpAny _ _ (call (Value.builtin "str.find") _) _ _ _); refine' m_find2 ?zzhj ?zzhv ?_; (case zzhj => rfl); (case zzhv => assumption); intro _ _) | (k_end; kc_close) | (walk1; (try dsimp only)) | (dsimp only; walk1) | (leave1; (try dsimp only)) | fail "no step"))
      rename Fr _ _ _ _ => FZ
      rename News _ _ _ _ => NZ
      first | rw [show ((sp : Int) + ((0 : Nat) : Int)) = (sp : Int) from Int.add_zero _] at FZ | rw [show ((sp : Int) + (([] : List Nat).length : Int)) = (sp : Int) from Int.add_zero _] at FZ
      replace FZ := ksw_fr (stored := [Str.ofString "w"]) (m₀ := fun _ => none) (ps := [(Str.ofString "startpos", Value.int ((sp : Nat) : Int) _), (Str.ofString "endpos", .int (gs.length : Int) te), (Str.ofString "ws", .ref D), (Str.ofString "want", .str ⟨(wantL xs).toArray⟩ t), (Str.ofString "got", .str ⟨gs.toArray⟩ u)]) (by kst_all) (by (intro z h2 h3; (simp only [List.forall_mem_cons, List.not_mem_nil, false_implies, implies_true, and_true, ne_eq] at h2); (simp only [List.contains_cons, List.contains_nil, Bool.or_false, Bool.or_eq_false_iff, beq_eq_false_iff_ne, ne_eq] at h3); (simp [kstB, h2, h3]; done))) FZ
      exact Hold.mk ⟨_, _, _, _, rfl, FZ, NZ, hne, rfl, _, sp, _, _, rfl, hsp9, hm9⟩
    · have hv9 := find_c (c := c) hsp9
      rw [matchP] at hm9
      cases hdw : (gs.drop sp).dropWhile (· != c) with
      | nil =>
        have hf : findL gs c sp = -1 := by unfold findL; rw [hdw]
        rw [hf] at hv9
        rw [hdw] at hm9
        have e : matchV xs gs = false := hm9.symm
        rw [e] at hret
        (repeat' (first | (k_unfold; (try dsimp only)) | ((with_reducible show wpAny _ _ (exec (Stmt.While _ _ _ _) _) _ _ _); refine Mine.Hold.out ?_) | ((with_reducible show wpAny _ _ (storeName _ _ _) _ _ _); refine' storeX_L ?zzF ?zzN ?_ ?zza ?zzb; (case zzF => k_asm); (case zzN => k_asm); (case zza => rfl); (case zzb => rfl); k_whole; intro _ zF zN; (try dsimp only at zF); (try k_sweep); (revert zF zN; intro _ _)) | ((with_reducible show wpAny _ _ (call (Value.builtin "len") [Value.str (Str.mk (List.toArray _)) _]) _ _ _); refine' Mine.s_len ?zzk3 ?_; (case zzk3 => first | lia | (simp only [List.length_append, List.length_cons, List.length_nil]; lia)); intro _ _) | ((with_reducible show wpAny _ _ (call (Value.builtin "len") [Value.ref _]) _ _ _); refine' Mine.m_len ?zzk1 ?zzk2 ?zzk3 ?_; (case zzk1 => k_asm); (case zzk2 => k_mem); (case zzk3 => first | lia | (simp only [List.length_cons, List.length_nil, List.length_map, PySem.strValues]; omega))) | ((with_reducible show wpAny _ _ (binaryOp Operator.Add (Value.str _ _) (Value.str _ _)) _ _ _); refine' Mine.s_add ?zzk1 ?zzk2 ?zzk3 ?zzk4 ?_; (case zzk1 => first | exact Mine.sp_eq | exact Mine.no_eq | exact Mine.dots_eq | with_reducible exact rfl); (case zzk2 => first | exact Mine.sp_eq | exact Mine.no_eq | exact Mine.dots_eq | with_reducible exact rfl); (case zzk3 => first | assumption | lia | (simp only [List.length_append, List.length_cons, List.length_nil]; lia)); (case zzk4 => first | assumption | lia | (simp only [List.length_append, List.length_cons, List.length_nil]; lia)); intro _ _) | ((with_reducible show wpAny _ _ (subscriptTail (Expr.Name _ _) (Expr.Name _ _) (Value.str _ _) (Value.int _ _)) _ _ _); refine' Mine.s_item ?zzh0 ?zzh1 ?zzh2 ?_; (case zzh0 => lia); (case zzh1 => lia); (case zzh2 => assumption); intro _ _) | ((with_reducible show Mine.FlPost _ _ _ _ _ _ _ _ _ _); dsimp only [Mine.FlPost]) | ((with_reducible show wpAny _ _ (call (Value.builtin "str.split") _) _ _ _); refine Hold.out ?_) | ((with_reducible show wpAny _ _ (subscriptTail (Expr.Name _ _) (Expr.Constant _ _ _) (Value.ref _) (Value.int _ _)) _ _ _); (refine' Mine.m_item ?zzk1 ?zzk2 ?zzk3 ?zzk4 ?zzk5 ?_ ?zzk6; (case zzk1 => k_asm); (case zzk2 => k_mem); (case zzk3 => first | (with_reducible assumption) | lia); (case zzk4 => first | (with_reducible assumption) | lia); (case zzk5 => assumption); (case zzk6 => with_unfolding_all rfl))) | ((with_reducible show wpAny _ _ (subscriptTail (Expr.Name _ _) (Expr.UnaryOp _ _ _) (Value.ref _) (Value.int _ _)) _ _ _); (refine' Mine.m_item_neg ?zzk1 ?zzk2 ?zzk3 ?zzk4 ?zzk7 ?zzk5 ?_ ?zzk6; (case zzk1 => k_asm); (case zzk2 => k_mem); (case zzk3 => first | (with_reducible assumption) | lia); (case zzk4 => first | (with_reducible assumption) | lia); (case zzk7 => first | (with_reducible assumption) | lia); (case zzk5 => assumption); (case zzk6 => with_unfolding_all rfl))) | ((with_reducible show wpAny _ _ (exec (Stmt.For _ _ _ _ _) _) _ _ _); refine' fl_for ?_) | ((with_reducible show wpAny _ _ (pyIter (Value.ref _)) _ _ _); refine Hold.out ?_) | ((with_reducible show wpAny _ _ (call (Value.builtin "str.find") _) _ _ _); refine' m_find2 ?zzhj ?zzhv ?_; (case zzhj => rfl); (case zzhv => assumption); intro _ _) | (k_end; kc_close) | (walk1; (try dsimp only)) | (dsimp only; walk1) | (leave1; (try dsimp only)) | fail "no step"))
        rename Fr _ _ _ _ => FZ
        rename News _ _ _ _ => NZ
        exact hret _ _ FZ (m_tail (m_tail NZ))
      | cons a9 r =>
        obtain rfl := dw_head hdw
        obtain ⟨hd1, hd2⟩ := drop_dw hdw
        have hf : findL gs a9 sp = ((gs.length - r.length - 1 : Nat) : Int) := by unfold findL; rw [hdw]; dsimp only; lia
        rw [hf] at hv9
        rw [hdw] at hm9
        have hm10 : matchP _ r = _ := hm9
        (repeat' (first | (k_unfold; (try dsimp only)) | ((with_reducible show wpAny _ _ (exec (Stmt.While _ _ _ _) _) _ _ _); refine Mine.Hold.out ?_) | ((with_reducible show wpAny _ _ (storeName _ _ _) _ _ _); refine' storeX_L ?zzF ?zzN ?_ ?zza ?zzb; (case zzF => k_asm); (case zzN => k_asm); (case zza => rfl); (case zzb => rfl); k_whole; intro _ zF zN; (try dsimp only at zF); (try k_sweep); (revert zF zN; intro _ _)) | ((with_reducible show wpAny _ _ (call (Value.builtin "len") [Value.str (Str.mk (List.toArray _)) _]) _ _ _); refine' Mine.s_len ?zzk3 ?_; (case zzk3 => first | lia | (simp only [List.length_append, List.length_cons, List.length_nil]; lia)); intro _ _) | ((with_reducible show wpAny _ _ (call (Value.builtin "len") [Value.ref _]) _ _ _); refine' Mine.m_len ?zzk1 ?zzk2 ?zzk3 ?_; (case zzk1 => k_asm); (case zzk2 => k_mem); (case zzk3 => first | lia | (simp only [List.length_cons, List.length_nil, List.length_map, PySem.strValues]; omega))) | ((with_reducible show wpAny _ _ (binaryOp Operator.Add (Value.str _ _) (Value.str _ _)) _ _ _); refine' Mine.s_add ?zzk1 ?zzk2 ?zzk3 ?zzk4 ?_; (case zzk1 => first | exact Mine.sp_eq | exact Mine.no_eq | exact Mine.dots_eq | with_reducible exact rfl); (case zzk2 => first | exact Mine.sp_eq | exact Mine.no_eq | exact Mine.dots_eq | with_reducible exact rfl); (case zzk3 => first | assumption | lia | (simp only [List.length_append, List.length_cons, List.length_nil]; lia)); (case zzk4 => first | assumption | lia | (simp only [List.length_append, List.length_cons, List.length_nil]; lia)); intro _ _) | ((with_reducible show wpAny _ _ (subscriptTail (Expr.Name _ _) (Expr.Name _ _) (Value.str _ _) (Value.int _ _)) _ _ _); refine' Mine.s_item ?zzh0 ?zzh1 ?zzh2 ?_; (case zzh0 => lia); (case zzh1 => lia); (case zzh2 => assumption); intro _ _) | ((with_reducible show Mine.FlPost _ _ _ _ _ _ _ _ _ _); dsimp only [Mine.FlPost]) | ((with_reducible show wpAny _ _ (call (Value.builtin "str.split") _) _ _ _); refine Hold.out ?_) | ((with_reducible show wpAny _ _ (subscriptTail (Expr.Name _ _) (Expr.Constant _ _ _) (Value.ref _) (Value.int _ _)) _ _ _); (refine' Mine.m_item ?zzk1 ?zzk2 ?zzk3 ?zzk4 ?zzk5 ?_ ?zzk6; (case zzk1 => k_asm); (case zzk2 => k_mem); (case zzk3 => first | (with_reducible assumption) | lia); (case zzk4 => first | (with_reducible assumption) | lia); (case zzk5 => assumption); (case zzk6 => with_unfolding_all rfl))) | ((with_reducible show wpAny _ _ (subscriptTail (Expr.Name _ _) (Expr.UnaryOp _ _ _) (Value.ref _) (Value.int _ _)) _ _ _); (refine' Mine.m_item_neg ?zzk1 ?zzk2 ?zzk3 ?zzk4 ?zzk7 ?zzk5 ?_ ?zzk6; (case zzk1 => k_asm); (case zzk2 => k_mem); (case zzk3 => first | (with_reducible assumption) | lia); (case zzk4 => first | (with_reducible assumption) | lia); (case zzk7 => first | (with_reducible assumption) | lia); (case zzk5 => assumption); (case zzk6 => with_unfolding_all rfl))) | ((with_reducible show wpAny _ _ (exec (Stmt.For _ _ _ _ _) _) _ _ _); refine' fl_for ?_) | ((with_reducible show wpAny _ _ (pyIter (Value.ref _)) _ _ _); refine Hold.out ?_) | ((with_reducible show wpAny _ _ (call (Value.builtin "str.find") _) _ _ _); refine' m_find2 ?zzhj ?zzhv ?_; (case zzhj => rfl); (case zzhv => assumption); intro _ _) | (k_end; kc_close) | (walk1; (try dsimp only)) | (dsimp only; walk1) | (leave1; (try dsimp only)) | fail "no step"))
        rename Fr _ _ _ _ => FZ
        rename News _ _ _ _ => NZ
        rw [show (((gs.length - r.length - 1 : Nat) : Int) + (([a9] : List Nat).length : Int)) = ((gs.length - r.length : Nat) : Int) by simp only [List.length_cons, List.length_nil]; lia] at FZ
        replace FZ := ksw_fr (stored := [Str.ofString "w"]) (m₀ := fun _ => none) (ps := [(Str.ofString "startpos", Value.int ((gs.length - r.length : Nat) : Int) _), (Str.ofString "endpos", .int (gs.length : Int) te), (Str.ofString "ws", .ref D), (Str.ofString "want", .str ⟨(wantL xs).toArray⟩ t), (Str.ofString "got", .str ⟨gs.toArray⟩ u)]) (by kst_all) (by (intro z h2 h3; (simp only [List.forall_mem_cons, List.not_mem_nil, false_implies, implies_true, and_true, ne_eq] at h2); (simp only [List.contains_cons, List.contains_nil, Bool.or_false, Bool.or_eq_false_iff, beq_eq_false_iff_ne, ne_eq] at h3); (simp [kstB, h2, h3]; done))) FZ
        exact Hold.mk ⟨_, _, _, _, rfl, FZ, NZ, hne, rfl, _, gs.length - r.length, _, _, rfl, Nat.sub_le _ _, by rw [hd1]; exact hm10⟩
end Mine
end
section
open PyProof.Rows.LCg
namespace Mine
section
variable {M : Model} {A : Around} {E : Value → Shared → Prop} {s : Shared} {h₀ : Heap} {L : Addr} {m : Str → Option Value} {news : List (Addr × Obj)} {env : Env} {x : Str} {pos : Pos} {v : Value} {Q : Value → Shared → Prop}
theorem nameC_B {K : Frag} {mg mb : Str → Option Value} {p : Program} {loose : List Str} (F : Fr h₀ L s.heap m) (X : K.In h₀) (T : TopRead p loose mg mb h₀) (e : nsIn K mainGlobals x = some none) (hv : bootBuiltins x = some v) (hn : x ≠ "__name__") (h : Q v s)
    (hg : env.globals = mainGlobals) (hbn : env.builtins = builtinsNs) (hk : env.scope.kind = .function) (hx : env.kindOf x = some .globalImplicit) (hd : (x == ("__debug__" : Str)) = false) : wpAny M A (eval (.Name x pos) env) Q E s :=
  Name_function_global hk hx (loadGlobal_builtin (env := env) (by rw [hg]; exact T.g.keeps F.keep) (mg_none_of X T.g e) (by rw [hbn]; exact T.b.keeps F.keep) ((T.builtins x hn).trans hv) h) hd
theorem nameC_F {c : Addr} {o : Obj} (N : News h₀ L s.heap news) (hc : env.cells.lookup x = some c) (hm : (c, o) ∈ news) (hd : o.data = .cell (some v)) (h : Q v s)
    (hk : env.scope.kind = .function) (hx : env.kindOf x = some .free) (hb : (x == ("__debug__" : Str)) = false) (hn : (x == ("__classdict__" : Str)) = false) : wpAny M A (eval (.Name x pos) env) Q E s := wpAny_Name (wpAny_loadName_free hk hx hc ⟨o, N.get hm, hd⟩ h hn) hb
end
end Mine
end
section
open PyProof.Rows.LCg
namespace Mine
section
variable {prog : Program} {w : World} {A : Around} {E : Value → Shared → Prop} {s : Shared} {env : Env} {h₀ : Heap} {L : Addr} {m : Str → Option Value} {news : List (Addr × Obj)}
abbrev riO (a b : Int) : Obj := { cls := .type "range_iterator", dict := none, data := .fields #[rawInt a, rawInt b, rawInt 1], slots := #[] }
/-- the comprehension behind its first iterator -/
def CCRest (prog : Program) (w : World) (A : Around) (E : Value → Shared → Prop) (env : Env) (elt : Expr) (x : Str) (px : Pos) (iter : Expr) (scope : Scope) (cl : List (Str × Addr)) (pos : Pos) (Q : Value → Shared → Prop) (it : Value) (s₂ : Shared) : Prop :=
  wpAny (model prog w) A (newList []) (fun acc s₃ => wpAny (model prog w) A (newFunctionEnv scope env.globals cl [] env.qual none .none (some env)) (fun cenv s₄ =>
    codeAny (model prog w) A (.compStart (.ListComp elt [⟨.Name x px, iter, [], 0⟩] scope pos) 0 it acc { cenv with scope := relabel scope env }) (compPost (model prog w) A E none Q acc cenv.locals) s₄) E s₃) E s₂
theorem comp_CC {elt iter : Expr} {x : Str} {px : Pos} {scope : Scope} {cl : List (Str × Addr)} {pos : Pos} {Q : Value → Shared → Prop}
    (hclos : closureFor scope env = pure cl) (hkind : scope.kind = .function) (hnames : ∀ y ∈ scope.names, y.2 = .local → scope.names.lookup y.1 = some .local)
    (h : wpAny (model prog w) A (eval iter env) (fun xv s₁ => wpAny (model prog w) A (pyIter xv) (CCRest prog w A E env elt x px iter scope cl pos Q) E s₁) E s)
    (hs : ∀ x, foldedSetIterable iter env x = pure x := by intro _; rfl) :
    wpAny (model prog w) A (eval (.ListComp elt [⟨.Name x px, iter, [], 0⟩] scope pos) env) Q E s := by
  rw [eval_ListComp]
  exact wpAny_comprehension_free (use := none) rfl hs hclos hkind hnames h
inductive CCI (h₀ : Heap) (L : Addr) (m : Str → Option Value) (n : Nat) (I C K D : Addr) (gn : Array GenState) (dr : _) (os : _) (J : Nat → List Value → List (Addr × Obj) → Prop) (k : Nat) (s' : Shared) : Prop
  | mk (h : Heap) (tk : Nat) (i : Nat) (ys : List Value) (nw : List (Addr × Obj)) (oI oK : Obj) (e : s' = ⟨h, gn, dr, tk, os⟩) (hi : i ≤ n) (ek : k = n + 1 - i) (hy : ys.length = i) (hst : IsRangeIter h I (0 + (i : Nat) * 1) ((n : Int) - (i : Nat)) 1) (F : Fr h₀ L h m)
    (N : News h₀ L h ((I, oI) :: (C, { cls := .type "dict", data := .dict #[] }) :: (K, oK) :: (D, lst ys) :: nw)) (hK : ∃ c, oK.data = .cell c) (ap : ∀ p ∈ nw, p.1 ≠ I ∧ p.1 ≠ C ∧ p.1 ≠ K ∧ p.1 ≠ D) (hJ : J i ys nw)
theorem cc_range {elt iter : Expr} {x : Str} {px : Pos} {scope : Scope} {cl : List (Str × Addr)} {pos : Pos} {Q : Value → Shared → Prop} {r : Addr} {b : Int} {t u v : Tok} {n : Nat} (J : Nat → List Value → List (Addr × Obj) → Prop)
    (hh : A.handled = none) (F : Fr h₀ L s.heap m) (N : News h₀ L s.heap news) (hr : IsRange s.heap r 0 b 1 t u v) (hsm : Builtin.Range.small 0 b 1 = true) (hn : Builtin.Range.rangeSize 0 b 1 = ((n : Nat) : Int)) (hsz : n ≤ sizeLine)
    (hcells : ∀ C, cellsFrom (C + 1) scope.names cl = (x, C + 1) :: cl) (hpush : ∀ h : Heap, pushCells h scope.names = h.push { cls := .type "cell", data := .cell none })
    (hkind : scope.kind = .function) (hkx : (relabel scope env).names.lookup x = some .cell)
    (h0 : J 0 [] news)
    (step : ∀ i ys nw t' I oI C oC K oK D h tk (E' : Value → Shared → Prop), i < n → J i ys nw → oK.data = .cell (some (.int (i : Int) t')) → (I ≠ C ∧ I ≠ K ∧ I ≠ D ∧ C ≠ K ∧ C ≠ D ∧ K ≠ D) → (∀ p ∈ nw, p.1 ≠ I ∧ p.1 ≠ C ∧ p.1 ≠ K ∧ p.1 ≠ D) →
      Fr h₀ L h m → News h₀ L h ((I, oI) :: (C, oC) :: (K, oK) :: (D, lst ys) :: nw) →
      wpAny (model prog w) A (eval elt (compEnvC scope ((x, K) :: cl) C env)) (fun y s₃ => Hold (∃ h' tk' nw', s₃ = { s with heap := h', toks := tk' } ∧ Fr h₀ L h' m ∧ News h₀ L h' ((I, oI) :: (C, oC) :: (K, oK) :: (D, lst ys) :: nw') ∧
        (∀ p ∈ nw', p.1 ≠ I ∧ p.1 ≠ C ∧ p.1 ≠ K ∧ p.1 ≠ D) ∧ J (i + 1) (ys ++ [y]) nw')) E' { s with heap := h, toks := tk })
    (fin : ∀ D h tk ys nw, J n ys nw → Fr h₀ L h m → News h₀ L h ((D, lst ys) :: nw) → (∀ p ∈ nw, p.1 ≠ D) → Q (.ref D) { s with heap := h, toks := tk }) :
    wpAny (model prog w) A (pyIter (.ref r)) (CCRest prog w A E env elt x px iter scope cl pos Q) E s := by
  refine wpAny_pyIter_range hr hsm ?_
  obtain ⟨hp, gn, dr, tk0, os⟩ := s
  dsimp only at *
  generalize hI : hp.objs.size = I
  have hL : @LT.lt Nat _ L I := hI ▸ F.ns.lt
  have hnews : ∀ p ∈ news, @LT.lt Nat _ p.1 I := fun p hp => hI ▸ Heap.lt_size (N p hp).1
  have hfresh : ∀ a, I ≤ a → h₀.get? a = none := fun a ha => by
    cases e : h₀.get? a with
    | none => rfl
    | some o => exact absurd (Heap.lt_size (F.keep _ _ e)) (by rw [hI]; exact Nat.not_lt.mpr ha)
  unfold CCRest
  refine wpAny_newObj_type ?_
  dsimp only
  simp only [newFunctionEnv, Option.isSome_some, if_true]
  refine wpAny_bind (wpAny_alloc ?_)
  refine wpAny_bind (wpAny_layCells _ (fun name kind cells => by cases hkc : kind == NameKind.cell <;> simp [hkc]) _ _ _ _ ?_)
  dsimp only
  rw [List.forIn_nil]
  refine wpAny_bind (wpAny_pure (wpAny_pure ?_))
  rw [hpush]
  dsimp only
  generalize hH1 : hp.push { cls := .type "range_iterator", data := .fields #[rawInt 0, rawInt (Builtin.Range.rangeSize 0 b 1), rawInt 1] } = H1
  have z1 : H1.objs.size = I + 1 := by rw [← hH1, Heap.size_push, hI]
  generalize hH2 : H1.push { cls := .type "list", data := .seq ([] : List Value).toArray } = H2
  have z2 : H2.objs.size = I + 1 + 1 := by rw [← hH2, Heap.size_push, z1]
  generalize hH3 : H2.push { cls := .type "dict", data := .dict #[] } = H3
  have z3 : H3.objs.size = I + 1 + 1 + 1 := by rw [← hH3, Heap.size_push, z2]
  generalize hH4 : H3.push { cls := .type "cell", data := .cell none } = H4
  rw [z1, z2, z3, hcells]
  have gK : H4.get? (I + 1 + 1 + 1) = some { cls := .type "cell", data := .cell none } := by rw [← hH4, ← z3]; exact Heap.get?_push_size _ rfl
  have gC : H4.get? (I + 1 + 1) = some { cls := .type "dict", data := .dict #[] } := by rw [← hH4]; refine Heap.get?_push_of_some _ ?_; rw [← hH3, ← z2]; exact Heap.get?_push_size _ rfl
  have gD : H4.get? (I + 1) = some (lst []) := by rw [← hH4]; refine Heap.get?_push_of_some _ ?_; rw [← hH3]; refine Heap.get?_push_of_some _ ?_; rw [← hH2, ← z1]; exact Heap.get?_push_size _ rfl
  have gI : IsRangeIter H4 I 0 n 1 := by
    show H4.get? I = _
    rw [← hH4]; refine Heap.get?_push_of_some _ ?_; rw [← hH3]; refine Heap.get?_push_of_some _ ?_; rw [← hH2]; refine Heap.get?_push_of_some _ ?_; rw [← hH1, ← hI, ← hn]; exact Heap.get?_push_size _ rfl
  have old : ∀ b o, hp.get? b = some o → H4.get? b = some o := fun b o e => by
    rw [← hH4]; refine Heap.get?_push_of_some _ ?_; rw [← hH3]; refine Heap.get?_push_of_some _ ?_; rw [← hH2]; refine Heap.get?_push_of_some _ ?_; rw [← hH1]; exact Heap.get?_push_of_some _ e
  have nsC : H3.Ns (I + 1 + 1) (fun _ => none) := by rw [← hH3, ← z2]; exact Heap.Ns.new H2 (.type "dict")
  have gC3 : H3.get? (I + 1 + 1) = some { cls := .type "dict", data := .dict #[] } := by rw [← hH3, ← z2]; exact Heap.get?_push_size _ rfl
  have hD₀ := hfresh (I + 1) (Nat.le_succ _)
  have hC₀ := hfresh (I + 1 + 1) (Nat.le_of_lt (Nat.lt_succ_of_lt (Nat.lt_succ_self _)))
  have hK₀ := hfresh (I + 1 + 1 + 1) (show (I : Nat) ≤ _ by lia)
  have hI₀ := hfresh I (Nat.le_refl _)
  have nIL : L ≠ I := Nat.ne_of_lt hL
  have nDL : (I + 1 : Nat) ≠ L := neN (by lia)
  have nCL : (I + 1 + 1 : Nat) ≠ L := neN (by lia)
  have nKL : (I + 1 + 1 + 1 : Nat) ≠ L := neN (by lia)
  have apN : ∀ p ∈ news, p.1 ≠ I ∧ p.1 ≠ I + 1 + 1 ∧ p.1 ≠ I + 1 + 1 + 1 ∧ p.1 ≠ I + 1 := fun p hp => by
    have := hnews p hp
    exact ⟨neN (by lia), neN (by lia), neN (by lia), neN (by lia)⟩
  have q1 : (I : Nat) ≠ I + 1 := neN (by lia)
  have q2 : (I : Nat) ≠ I + 1 + 1 := neN (by lia)
  have q3 : (I : Nat) ≠ I + 1 + 1 + 1 := neN (by lia)
  have q4 : (I + 1 : Nat) ≠ I + 1 + 1 := neN (by lia)
  have q5 : (I + 1 : Nat) ≠ I + 1 + 1 + 1 := neN (by lia)
  have q6 : (I + 1 + 1 : Nat) ≠ I + 1 + 1 + 1 := neN (by lia)
  generalize I + 1 + 1 + 1 = K at *
  generalize I + 1 + 1 = C at *
  generalize I + 1 = D at *
  have W := range_walks (prog := prog) (w := w) (A := A) (I := I) hh 0 n
  have loop : codeAny (model prog w) A (.compLoop (.ListComp elt [⟨.Name x px, iter, [], 0⟩] scope pos) 0 (.ref I) (.ref D) (compEnvC scope ((x, K) :: cl) C env)) (compPost (model prog w) A E none Q (.ref D) C) ⟨H4, gn, dr, tk0, os⟩ := by
    have oldN : News h₀ L H4 news := fun p hp => ⟨old _ _ (N p hp).1, (N p hp).2⟩
    have F4 : Fr h₀ L H4 m := F.keeps old
    refine codeAny_compLoop_tests
      (CCI h₀ L m n I C K D gn dr os J) ?_ (n + 1)
      ⟨H4, tk0, 0, [], news, riO 0 n, { cls := .type "cell", data := .cell none }, rfl, Nat.zero_le _, rfl, rfl, by simpa using gI, F4, ?_, ⟨none, rfl⟩, apN, h0⟩
    · rintro k s' ⟨h, tk, i, ys, nw, oI, oK, rfl, hi, rfl, hyl, hst, F', N', ⟨cK, hcK⟩, ap, hJ⟩
      have NI := N' (I, oI) (by repeat (first | exact List.mem_cons_self | apply List.mem_cons_of_mem))
      have NC := N' (C, { cls := .type "dict", data := .dict #[] }) (by repeat (first | exact List.mem_cons_self | apply List.mem_cons_of_mem))
      have NK := N' (K, oK) (by repeat (first | exact List.mem_cons_self | apply List.mem_cons_of_mem))
      have ND := N' (D, lst ys) (by repeat (first | exact List.mem_cons_self | apply List.mem_cons_of_mem))
      by_cases hlt : i < n
      · refine W.item i _ _ _ hlt hst fun v₂ h₂ tk₂ hPv hst₂ hk₂ => ?_
        obtain ⟨t', rfl⟩ := hPv
        rw [Int.zero_add]
        have NK₂ := hk₂ K oK (by simpa using Ne.symm q3) NK.1
        refine wpAny_assign_Name (wpAny_storeName_cell (c := K) (v₀ := cK) hkind hkx (by show List.lookup x ((x, K) :: cl) = _; simp) ⟨oK, NK₂, hcK⟩ fun h₃ hc₃ hs₃ => ?_)
        obtain ⟨oK', hK', hcK'⟩ := hc₃
        refine wpAny_tests_nil ?_
        simp only [if_true]
        have hst₃ : IsRangeIter h₃ I (0 + ((i + 1 : Nat) : Int) * 1) ((n : Int) - ((i + 1 : Nat) : Int)) 1 := hs₃.extBut _ _ q3 hst₂
        have F₃ : Fr h₀ L h₃ m := (fr_but F' hk₂ nIL hI₀).change hs₃ nKL hK₀
        have N₃ : News h₀ L h₃ ((I, riO (0 + ((i + 1 : Nat) : Int) * 1) ((n : Int) - ((i + 1 : Nat) : Int))) :: (C, { cls := .type "dict", data := .dict #[] }) :: (K, oK') :: (D, lst ys) :: nw) := fun p hp => by
          rcases List.mem_cons.mp hp with rfl | hp
          · exact ⟨hst₃, Ne.symm nIL, hI₀⟩
          rcases List.mem_cons.mp hp with rfl | hp
          · exact ⟨hs₃.extBut _ _ q6 (hk₂ _ _ (by simpa using Ne.symm q2) NC.1), NC.2⟩
          rcases List.mem_cons.mp hp with rfl | hp
          · exact ⟨hK', NK.2⟩
          rcases List.mem_cons.mp hp with rfl | hp
          · exact ⟨hs₃.extBut _ _ q5 (hk₂ _ _ (by simpa using Ne.symm q1) ND.1), ND.2⟩
          · have z := N' p (by repeat (first | assumption | apply List.mem_cons_of_mem))
            exact ⟨hs₃.extBut _ _ (ap p hp).2.2.1 (hk₂ _ _ (by simpa using (ap p hp).1) z.1), z.2⟩
        refine wpAny_mono (step i ys nw t' I _ C _ K oK' D h₃ tk₂ _ hlt hJ hcK' ⟨q2, q3, q1, q6, Ne.symm q4, Ne.symm q5⟩ ap F₃ N₃) (fun y s₄ h₄ => ?_) fun _ _ e => e
        obtain ⟨h₄, tk₄, nw₄, rfl, F₄, N₄, ap₄, hJ₄⟩ := h₄
        have zD := (N₄ (D, lst ys) (by repeat (first | exact List.mem_cons_self | apply List.mem_cons_of_mem))).1
        refine append_at (hsz := by show ys.toArray.size ≤ sizeLine; rw [List.size_toArray, hyl]; exact Nat.le_trans hi hsz) zD fun h₅ hs₅ hD₅ => ?_
        refine ⟨n + 1 - (i + 1), by lia, h₅, tk₄, i + 1, ys ++ [y], nw₄, riO (0 + ((i + 1 : Nat) : Int) * 1) ((n : Int) - ((i + 1 : Nat) : Int)), oK', rfl, hlt, rfl, by rw [List.length_append, List.length_singleton, hyl], hs₅.extBut _ _ q1 (N₄ (I, riO (0 + ((i + 1 : Nat) : Int) * 1) ((n : Int) - ((i + 1 : Nat) : Int))) List.mem_cons_self).1, F₄.change hs₅ nDL hD₀, ?_, ⟨_, hcK'⟩, ap₄, hJ₄⟩
        intro p hp
        rcases List.mem_cons.mp hp with rfl | hp
        · exact ⟨hs₅.extBut _ _ q1 (N₄ (I, riO (0 + ((i + 1 : Nat) : Int) * 1) ((n : Int) - ((i + 1 : Nat) : Int))) List.mem_cons_self).1, Ne.symm nIL, hI₀⟩
        rcases List.mem_cons.mp hp with rfl | hp
        · exact ⟨hs₅.extBut _ _ (Ne.symm q4) (N₄ (C, { cls := .type "dict", data := .dict #[] }) (List.mem_cons_of_mem _ List.mem_cons_self)).1, NC.2⟩
        rcases List.mem_cons.mp hp with rfl | hp
        · exact ⟨hs₅.extBut _ _ (Ne.symm q5) (N₄ (K, oK') (List.mem_cons_of_mem _ (List.mem_cons_of_mem _ List.mem_cons_self))).1, NK.2⟩
        rcases List.mem_cons.mp hp with rfl | hp
        · exact ⟨hD₅.trans (congrArg some (lst_snoc ys y)), ND.2⟩
        · exact ⟨hs₅.extBut _ _ (ap₄ p hp).2.2.2 (N₄ p (by repeat (first | assumption | apply List.mem_cons_of_mem))).1, (N₄ p (by repeat (first | assumption | apply List.mem_cons_of_mem))).2⟩
      · obtain rfl : i = n := by lia
        refine W.done _ _ _ hst fun h₂ tk₂ hk₂ => ?_
        have nsC' : h₂.Ns C (fun _ => none) := nsC.at' fun o e => by rw [gC3] at e; cases e; exact hk₂ _ _ (by simpa using Ne.symm q2) NC.1
        refine ⟨_, nsC', fun h₃ hs₃ => fin D h₃ tk₂ ys nw hJ ((fr_but F' hk₂ nIL hI₀).change hs₃ nCL hC₀) ?_ fun p hp => (ap p hp).2.2.2⟩
        intro p hp
        rcases List.mem_cons.mp hp with rfl | hp
        · exact ⟨hs₃.extBut _ _ q4 (hk₂ _ _ (by simpa using Ne.symm q1) ND.1), ND.2⟩
        · have z := N' p (by repeat (first | assumption | apply List.mem_cons_of_mem))
          exact ⟨hs₃.extBut _ _ (ap p hp).2.1 (hk₂ _ _ (by simpa using (ap p hp).1) z.1), z.2⟩
    · intro p hp
      rcases List.mem_cons.mp hp with rfl | hp
      · exact ⟨gI, Ne.symm nIL, hI₀⟩
      rcases List.mem_cons.mp hp with rfl | hp
      · exact ⟨gC, nCL, hC₀⟩
      rcases List.mem_cons.mp hp with rfl | hp
      · exact ⟨gK, nKL, hK₀⟩
      rcases List.mem_cons.mp hp with rfl | hp
      · exact ⟨gD, nDL, hD₀⟩
      · exact oldN p hp
  exact codeAny_compStart_list loop (W.self 0 _ _ _ (by simpa using gI) loop)
end
end Mine
end
section
open PyProof.Rows.LCg
namespace Mine
section
variable {prog : Program} {w : World} {A : Around} {E : Value → Shared → Prop} {s : Shared} {env : Env}
theorem turn2_out (elt target iter t2 iter2 : Expr) (scope : Scope) (pos : Pos) (it acc : Value) (env : Env) :
    compTurn (.ListComp elt [⟨target, iter, [], 0⟩, ⟨t2, iter2, [], 0⟩] scope pos) 0 it acc env = (standAt iter.pos >>= fun _ => pyNext it >>= fun r => match r with
      | none => pure (.done .next)
      | some v => letOwnedTupleGo target it v >>= fun _ => assign target env v >>= fun _ => eval iter2 env >>= fun x => standAt iter2.pos >>= fun _ => foldedSetIterable iter2 env x >>= fun x =>
          holding [x] (pyIter x) >>= fun it2 => runOwn (.compStart (.ListComp elt [⟨target, iter, [], 0⟩, ⟨t2, iter2, [], 0⟩] scope pos) 1 it2 acc env) env >>= fun _ =>
          again (.compLoop (.ListComp elt [⟨target, iter, [], 0⟩, ⟨t2, iter2, [], 0⟩] scope pos) 0 it acc env)) := by rfl
theorem turn2_in (elt target iter t2 iter2 : Expr) (scope : Scope) (pos : Pos) (it acc : Value) (env : Env) :
    compTurn (.ListComp elt [⟨target, iter, [], 0⟩, ⟨t2, iter2, [], 0⟩] scope pos) 1 it acc env = (standAt iter2.pos >>= fun _ => pyNext it >>= fun r => match r with
      | none => pure (.done .next)
      | some v => letOwnedTupleGo t2 it v >>= fun _ => assign t2 env v >>= fun _ =>
        (eval elt env >>= fun x => call (.builtin "list.append") [acc, x] >>= fun _ => pure ()) >>= fun _ =>
          again (.compLoop (.ListComp elt [⟨target, iter, [], 0⟩, ⟨t2, iter2, [], 0⟩] scope pos) 1 it acc env)) := by rfl
abbrev lc2 (elt target iter t2 iter2 : Expr) (scope : Scope) (pos : Pos) : Expr := .ListComp elt [⟨target, iter, [], 0⟩, ⟨t2, iter2, [], 0⟩] scope pos
theorem loop2_in {elt target iter t2 iter2 : Expr} {scope : Scope} {pos : Pos} {it acc : Value} {R : Result → Shared → Prop} (I : Nat → Shared → Prop) (ht : ∀ v, letOwnedTupleGo t2 it v = pure ())
    (turn : ∀ n s, I n s → wpAny (model prog w) A (pyNext it) (fun r s₁ => match r with
      | none => R (.ok .next) s₁
      | some v => wpAny (model prog w) A (assign t2 env v) (fun _ s₂ => wpAny (model prog w) A (eval elt env) (fun x s₃ =>
          wpAny (model prog w) A (call (.builtin "list.append") [acc, x]) (fun _ s₄ => ∃ m, m < n ∧ I m s₄) (notedBy (model prog w) A env fun e s' => R (.error e) s') s₃)
          (notedBy (model prog w) A env fun e s' => R (.error e) s') s₂) (notedBy (model prog w) A env fun e s' => R (.error e) s') s₁) (notedBy (model prog w) A env fun e s' => R (.error e) s') s)
    (n : Nat) (h : I n s) : codeAny (model prog w) A (.compLoop (lc2 elt target iter t2 iter2 scope pos) 1 it acc env) R s := by
  refine codeAny_loop rfl I (fun n s hI => ?_) n h
  show wpAny _ A ((compTurn (lc2 elt target iter t2 iter2 scope pos) 1 it acc env).onRaise (fun x => do noteFrame x env; theTreesLotGoes x)) _ _ s
  refine wpAny_noted ?_
  rw [turn2_in]
  refine wpAny_bind (wpAny_standAt (wpAny_bind (wpAny_mono (turn n s hI) (fun r s₁ h₁ => ?_) fun _ _ h' => h')))
  cases r with
  | none => exact wpAny_pure h₁
  | some v =>
    refine wpAny_bind (wpAny_of_eq (ht v) (wpAny_bind (wpAny_mono h₁ (fun _ s₂ h₂ => ?_) fun _ _ h' => h')))
    exact wpAny_bind (wpAny_bind (wpAny_mono h₂ (fun x s₄ h₄ => wpAny_bind (wpAny_mono h₄ (fun _ s₅ h₅ => wpAny_pure (wpAny_pure ⟨rfl, h₅⟩)) fun _ _ h' => h')) fun _ _ h' => h'))
theorem loop2_out {elt target iter t2 iter2 : Expr} {scope : Scope} {pos : Pos} {it acc : Value} {R : Result → Shared → Prop} (I : Nat → Shared → Prop) (hf : ∀ x, foldedSetIterable iter2 env x = pure x)
    (turn : ∀ n s, I n s → wpAny (model prog w) A (pyNext it) (fun r s₁ => match r with
      | none => R (.ok .next) s₁
      | some v => wpAny (model prog w) A (letOwnedTupleGo target it v) (fun _ s₀ => wpAny (model prog w) A (assign target env v) (fun _ s₂ => wpAny (model prog w) A (eval iter2 env) (fun x s₃ =>
          wpAny (model prog w) A (pyIter x) (fun it2 s₄ => codeAny (model prog w) A (.compStart (lc2 elt target iter t2 iter2 scope pos) 1 it2 acc env) (fun r s₅ => match r with
            | .ok _ => ∃ m, m < n ∧ I m s₅
            | .error e => cameBackBy (model prog w) A env (notedBy (model prog w) A env fun e s' => R (.error e) s') e s₅) s₄)
          (notedBy (model prog w) A env fun e s' => R (.error e) s') s₃)
          (notedBy (model prog w) A env fun e s' => R (.error e) s') s₂) (notedBy (model prog w) A env fun e s' => R (.error e) s') s₀) (notedBy (model prog w) A env fun e s' => R (.error e) s') s₁) (notedBy (model prog w) A env fun e s' => R (.error e) s') s)
    (n : Nat) (h : I n s) : codeAny (model prog w) A (.compLoop (lc2 elt target iter t2 iter2 scope pos) 0 it acc env) R s := by
  refine codeAny_loop rfl I (fun n s hI => ?_) n h
  show wpAny _ A ((compTurn (lc2 elt target iter t2 iter2 scope pos) 0 it acc env).onRaise (fun x => do noteFrame x env; theTreesLotGoes x)) _ _ s
  refine wpAny_noted ?_
  rw [turn2_out]
  refine wpAny_bind (wpAny_standAt (wpAny_bind (wpAny_mono (turn n s hI) (fun r s₁ h₁ => ?_) fun _ _ h' => h')))
  cases r with
  | none => exact wpAny_pure h₁
  | some v =>
    refine wpAny_bind (wpAny_mono h₁ (fun _ s₀ h₀ => ?_) fun _ _ h' => h')
    refine wpAny_bind (wpAny_mono h₀ (fun _ s₂ h₂ => ?_) fun _ _ h' => h')
    refine wpAny_bind (wpAny_mono h₂ (fun x s₃ h₃ => ?_) fun _ _ h' => h')
    refine wpAny_bind (wpAny_standAt (wpAny_bind (wpAny_of_eq (hf x) (wpAny_bind (wpAny_holding (wpAny_mono h₃ (fun it2 s₄ h₄ => ?_) fun _ _ h' => h'))))))
    refine wpAny_bind (wpAny_runOwn (codeAny_mono h₄ fun r s₅ h₅ => ?_))
    cases r with
    | ok f => exact wpAny_pure ⟨rfl, h₅⟩
    | error e => exact h₅
theorem start2 {elt target iter t2 iter2 : Expr} {scope : Scope} {pos : Pos} {it acc : Value} {R : Result → Shared → Prop}
    (h0 : codeAny (model prog w) A (.compLoop (lc2 elt target iter t2 iter2 scope pos) 1 it acc env) R s)
    (h : wpAny (model prog w) A (pyIter it) (fun it' s' => codeAny (model prog w) A (.compLoop (lc2 elt target iter t2 iter2 scope pos) 1 it' acc env) R s') (notedBy (model prog w) A env fun x s' => R (.error x) s') s) :
    codeAny (model prog w) A (.compStart (lc2 elt target iter t2 iter2 scope pos) 1 it acc env) R s := by
  refine codeAny_of_tree ?_
  show wpAny _ _ ((compStart (lc2 elt target iter t2 iter2 scope pos) 1 it acc env).onRaise (fun x => do noteFrame x env; standAt theWindowsPlace)) _ _ s
  refine wpAny_notedAt ?_
  unfold compStart
  show wpAny _ _ (ask >>= _) _ _ s
  refine wpAny_bind (wpAny_askSetting (wpAny_ite ?_))
  split
  · first | exact wpAny_bind (wpAny_pure (wpAny_pure ⟨rfl, h0⟩)) | exact wpAny_pure ⟨rfl, h0⟩
  · refine wpAny_bind (wpAny_rule ?_)
    show wpAny _ _ (standAt iter2.pos >>= _) _ _ s
    exact wpAny_bind (wpAny_standAt (wpAny_bind (wpAny_mono h (fun it' s' h' => wpAny_pure ⟨rfl, h'⟩) fun _ _ x => x)))
theorem assign3 {a b c : Str} {pa pb pc tp : Pos} {kk : Nat} {T : Addr} {x y z : Value} {m : Str → Option Value} {Q : Unit → Shared → Prop} (hh : A.handled = none) (ht : s.heap.IsTuple T #[x, y, z])
    (ha : env.kindOf a = some .local) (hb : env.kindOf b = some .local) (hc : env.kindOf c = some .local) (hp : (env.scope.kind == .class || (env.scope.kind == .module && env.locals != env.globals)) = false) (hn : s.heap.Ns env.locals m)
    (h : ∀ (h' : Heap) (tk : Nat), h'.Ns env.locals (fun q => if q = c then some z else if q = b then some y else if q = a then some x else m q) → (∀ d o, d ≠ env.locals → s.heap.get? d = some o → h'.get? d = some o) → Q () { s with heap := h', toks := tk }) :
    wpAny (model prog w) A (assign (.Tuple [.Name a pa, .Name b pb, .Name c pc] kk tp) env (.ref T)) Q E s := by
  refine wpAny_assign_Tuple hh ht rfl rfl fun h₁ he₁ => ?_
  have hL : env.locals ≠ s.heap.objs.size := Nat.ne_of_lt hn.lt
  show wpAny _ _ (assignInOrder [assign (.Name a pa) env, assign (.Name b pb) env, assign (.Name c pc) env] [x, y, z]) _ _ _
  refine assignInOrder_cons (wpAny_assign_Name (wpAny_storeName_local ha (hn.at' fun o e => he₁ _ o hL e) (fun h₂ hn₂ hs₂ => ?_) hp))
  refine assignInOrder_cons (wpAny_assign_Name (wpAny_storeName_local hb hn₂ (fun h₃ hn₃ hs₃ => ?_) hp))
  refine assignInOrder_cons (wpAny_assign_Name (wpAny_storeName_local hc hn₃ (fun h₄ hn₄ hs₄ => ?_) hp))
  exact assignInOrder_nil (h h₄ _ hn₄ fun d o hd e => hs₄.extBut d o hd (hs₃.extBut d o hd (hs₂.extBut d o hd (he₁ d o (Nat.ne_of_lt (Heap.lt_size e)) e))))
end
end Mine
end
section
open PyProof.Rows.LCg
namespace Mine
section
variable {prog : Program} {w : World} {A : Around} {E : Value → Shared → Prop} {s : Shared} {env : Env} {h₀ : Heap} {L : Addr} {m : Str → Option Value} {news : List (Addr × Obj)}
def CGRest (prog : Program) (w : World) (A : Around) (E : Value → Shared → Prop) (env : Env) (elt : Expr) (gens : List Comprehension) (scope : Scope) (cl : List (Str × Addr)) (pos : Pos) (RR : Value → Addr → Result → Shared → Prop) (it : Value) (s₂ : Shared) : Prop :=
  wpAny (model prog w) A (newList []) (fun acc s₃ => wpAny (model prog w) A (newFunctionEnv scope env.globals cl [] env.qual none .none (some env)) (fun cenv s₄ =>
    codeAny (model prog w) A (.compStart (.ListComp elt gens scope pos) 0 it acc { cenv with scope := relabel scope env }) (RR acc cenv.locals) s₄) E s₃) E s₂
theorem comp_CG {elt iter target : Expr} {gs : List Comprehension} {scope : Scope} {cl : List (Str × Addr)} {pos : Pos} {Q : Value → Shared → Prop}
    (hclos : closureFor scope env = pure cl) (hkind : scope.kind = .function) (hnames : ∀ y ∈ scope.names, y.2 = .local → scope.names.lookup y.1 = some .local)
    (h : wpAny (model prog w) A (eval iter env) (fun xv s₁ => wpAny (model prog w) A (pyIter xv) (CGRest prog w A E env elt (⟨target, iter, [], 0⟩ :: gs) scope cl pos (compPost (model prog w) A E none Q)) E s₁) E s)
    (hs : ∀ x, foldedSetIterable iter env x = pure x := by intro _; rfl) :
    wpAny (model prog w) A (eval (.ListComp elt (⟨target, iter, [], 0⟩ :: gs) scope pos) env) Q E s := by
  rw [eval_ListComp]
  exact wpAny_comprehension_free (use := none) rfl hs hclos hkind hnames h
theorem assign_CG {elt iter target : Expr} {gs : List Comprehension} {scope : Scope} {cl : List (Str × Addr)} {y : Str} {py pos spos : Pos} {Q : Flow → Shared → Prop}
    (hsw : swapsWith (.ListComp elt (⟨target, iter, [], 0⟩ :: gs) scope pos) (some (.Name y py)) spos.line env = pure true)
    (hclos : closureFor scope env = pure cl) (hkind : scope.kind = .function) (hnames : ∀ y ∈ scope.names, y.2 = .local → scope.names.lookup y.1 = some .local)
    (h : wpAny (model prog w) A (eval iter env) (fun xv s₁ => wpAny (model prog w) A (pyIter xv) (CGRest prog w A E env elt (⟨target, iter, [], 0⟩ :: gs) scope cl pos (compPost (model prog w) A E (some (assign (.Name y py) env)) (fun _ s' => Q .next s'))) E s₁) E s)
    (hs : ∀ x, foldedSetIterable iter env x = pure x := by intro _; rfl) :
    wpAny (model prog w) A (exec (.Assign [.Name y py] (.ListComp elt (⟨target, iter, [], 0⟩ :: gs) scope pos) spos) env) Q E s := by
  rw [exec_Assign_Name_used _ _ _ _ hsw]
  refine wpAny_bind (wpAny_standAt (wpAny_bind ?_))
  show wpAny _ A (do let _ ← comprehension (.ListComp elt (⟨target, iter, [], 0⟩ :: gs) scope pos) scope env _ (newList []) false (eval iter env) (some (assign (.Name y py) env))) _ _ s
  exact wpAny_bind (wpAny_mono (wpAny_comprehension_free (use := some (assign (.Name y py) env)) (Q := fun _ s' => Q .next s') rfl hs hclos hkind hnames h) (fun _ s' hq => wpAny_pure (wpAny_pure hq)) fun _ _ e => e)
theorem cg_alloc {elt : Expr} {gens : List Comprehension} {scope : Scope} {cl : List (Str × Addr)} {pos : Pos} {RR : Value → Addr → Result → Shared → Prop} {it : Value}
    (hcell : ∀ y ∈ scope.names, y.2 ≠ .cell) (hkind : scope.kind = .function) (F : Fr h₀ L s.heap m) (N : News h₀ L s.heap news)
    (h : ∀ D C H tk, (∀ p ∈ news, @LT.lt Nat _ p.1 D) → @LT.lt Nat _ D C → @LT.lt Nat _ L D → h₀.get? D = none → h₀.get? C = none → Fr h₀ L H m → News h₀ L H ((D, lst []) :: news) → H.Ns C (fun _ => none) →
      codeAny (model prog w) A (.compStart (.ListComp elt gens scope pos) 0 it (.ref D) (compEnvC scope cl C env)) (RR (.ref D) C) { s with heap := H, toks := tk }) :
    CGRest prog w A E env elt gens scope cl pos RR it s := by
  unfold CGRest
  refine wpAny_newObj_type (wpAny_newFunctionEnv hcell (by intro y hy; simp at hy) (fun h₁ hns hsb => ?_) hkind)
  dsimp only at hns hsb ⊢
  have fresh : ∀ a : Addr, s.heap.objs.size ≤ a → h₀.get? a = none := fun a ha => by
    cases e : h₀.get? a with
    | none => rfl
    | some o => exact absurd (Heap.lt_size (F.keep _ _ e)) (Nat.not_lt.mpr ha)
  generalize hH2 : s.heap.push { cls := .type "list", dict := none, data := .seq ([] : List Value).toArray } = H2 at hns hsb ⊢
  have hC : H2.objs.size = s.heap.objs.size + 1 := by rw [← hH2, Heap.size_push]
  have up : ∀ b o, s.heap.get? b = some o → h₁.get? b = some o := fun b o e => hsb.extBut b o (by have := Heap.lt_size e; rw [hC]; exact Nat.ne_of_lt (Nat.lt_succ_of_lt this)) (Heap.get?_push_of_some _ (hH2 ▸ Heap.get?_push_of_some _ e))
  have gD : h₁.get? s.heap.objs.size = some (lst []) := hsb.extBut _ _ (by rw [hC]; exact Nat.ne_of_lt (Nat.lt_succ_self _)) (Heap.get?_push_of_some _ (hH2 ▸ Heap.get?_push_size _ rfl))
  refine h s.heap.objs.size H2.objs.size h₁ _ (fun p hp => Heap.lt_size (N p hp).1) (by rw [hC]; exact Nat.lt_succ_self _) F.ns.lt (fresh _ (Nat.le_refl _)) (fresh _ (by rw [hC]; exact Nat.le_succ _)) (F.keeps up) (fun p hp => ?_) hns
  rcases List.mem_cons.mp hp with rfl | hp
  · exact ⟨gD, Nat.ne_of_gt F.ns.lt, fresh _ (Nat.le_refl _)⟩
  · exact ⟨up _ _ (N p hp).1, (N p hp).2⟩
theorem fin_eval {D C : Addr} {ys : List Value} {nw : List (Addr × Obj)} {m' : Str → Option Value} {Q : Value → Shared → Prop} (F : Fr h₀ L s.heap m) (N : News h₀ L s.heap ((D, lst ys) :: nw)) (ap : ∀ p ∈ nw, p.1 ≠ D ∧ p.1 ≠ C) (hn : s.heap.Ns C m') (hC₀ : h₀.get? C = none) (hCL : C ≠ L) (hCD : C ≠ D)
    (hq : ∀ h', Fr h₀ L h' m → News h₀ L h' ((D, lst ys) :: nw) → Q (.ref D) { s with heap := h' }) : compPost (model prog w) A E none Q (.ref D) C (.ok .next) s := by
  refine ⟨m', hn, fun h₃ hs₃ => hq h₃ (F.change hs₃ hCL hC₀) fun p hp => ?_⟩
  refine ⟨hs₃.extBut _ _ ?_ (N p hp).1, (N p hp).2⟩
  rcases List.mem_cons.mp hp with rfl | hp
  · exact Ne.symm hCD
  · exact (ap p hp).2
theorem fin_assign {D C : Addr} {ys : List Value} {nw : List (Addr × Obj)} {m' : Str → Option Value} {y : Str} {py : Pos} {Q : Value → Shared → Prop} (F : Fr h₀ L s.heap m) (N : News h₀ L s.heap ((D, lst ys) :: nw)) (ap : ∀ p ∈ nw, p.1 ≠ D ∧ p.1 ≠ C) (hn : s.heap.Ns C m') (hC₀ : h₀.get? C = none) (hCL : C ≠ L) (hCD : C ≠ D)
    (hLe : env.locals = L) (hy : env.kindOf y = some .local) (hp : (env.scope.kind == .class || (env.scope.kind == .module && env.locals != env.globals)) = false)
    (hq : ∀ h' tk', Fr h₀ L h' (fun z => if z = y then some (.ref D) else m z) → News h₀ L h' ((D, lst ys) :: nw) → Q .none { s with heap := h', toks := tk' }) : compPost (model prog w) A E (some (assign (.Name y py) env)) Q (.ref D) C (.ok .next) s := by
  subst hLe
  show wpAny _ A (assign (.Name y py) env (.ref D)) _ _ _
  refine wpAny_assign_Name (wpAny_storeName_local hy F.ns (fun h₂ hn₂ hs₂ => ?_) hp)
  have hL₀ : h₀.get? env.locals = none := Heap.get?_none_of_le F.above
  have F₂ : Fr h₀ env.locals h₂ (fun z => if z = y then some (.ref D) else m z) := ⟨hn₂, fun b o e => hs₂.extBut b o (fun q => by rw [q, hL₀] at e; cases e) (F.keep b o e), F.above⟩
  refine ⟨m', hn.sameBut hs₂ hCL, fun h'' hs'' => hq h'' _ (F₂.change hs'' hCL hC₀) (fun p hp => ?_)⟩
  have z : h₂.get? p.1 = some p.2 := hs₂.extBut _ _ (N p hp).2.1 (N p hp).1
  refine ⟨hs''.extBut _ _ ?_ z, (N p hp).2⟩
  rcases List.mem_cons.mp hp with rfl | hp
  · exact Ne.symm hCD
  · exact (ap p hp).2
end
end Mine
end
section
open PyProof.Rows.LCg
namespace Mine
abbrev tupO (xs : List Value) : Obj := { cls := .type "tuple", data := .seq xs.toArray }
/-- between the turns of the outer clause -/
inductive OutI (s : Shared) (h₀ : Heap) (L : Addr) (m : Str → Option Value) (len : Nat) (ax I C D : Addr) (J : Nat → List Value → List (Addr × Obj) → Prop) (k : Nat) (s' : Shared) : Prop
  | mk (h : Heap) (tk : Nat) (i : Nat) (ys : List Value) (nw : List (Addr × Obj)) (m' : Str → Option Value) (oI oC : Obj) (e : s' = { s with heap := h, toks := tk }) (hi : i ≤ len) (ek : k = len + 1 - i) (hst : h.IsListIter I ax i) (F : Fr h₀ L h m) (nC : NsObj oC m')
    (N : News h₀ L h ((I, oI) :: (C, oC) :: (D, lst ys) :: nw)) (ap : ∀ p ∈ nw, p.1 ≠ I ∧ p.1 ≠ C ∧ p.1 ≠ D) (hJ : J i ys nw)
/-- between the turns of the inner clause -/
inductive InI (s : Shared) (h₀ : Heap) (L : Addr) (m : Str → Option Value) (n2 : Nat) (I I2 C D : Addr) (oI' : Obj) (a b c : Str) (vx vy vz : Value) (J : Nat → List Value → List (Addr × Obj) → Prop) (k : Nat) (s' : Shared) : Prop
  | mk (h : Heap) (tk : Nat) (j : Nat) (ys : List Value) (nw : List (Addr × Obj)) (m' : Str → Option Value) (oI2 oC : Obj) (e : s' = { s with heap := h, toks := tk }) (hj : j ≤ n2) (ek : k = n2 + 1 - j) (hst : IsRangeIter h I2 (0 + (j : Nat) * 1) ((n2 : Int) - (j : Nat)) 1) (F : Fr h₀ L h m) (nC : NsObj oC m')
    (ma : m' a = some vx) (mb : m' b = some vy) (mc : m' c = some vz) (N : News h₀ L h ((I, oI') :: (I2, oI2) :: (C, oC) :: (D, lst ys) :: nw)) (ap : ∀ p ∈ nw, p.1 ≠ I ∧ p.1 ≠ I2 ∧ p.1 ≠ C ∧ p.1 ≠ D) (hJ : J j ys nw)
section
variable {prog : Program} {w : World} {A : Around} {E : Value → Shared → Prop} {s : Shared} {env : Env} {h₀ : Heap} {L : Addr} {m : Str → Option Value} {news : List (Addr × Obj)}
theorem cg_two {elt iter iter2 : Expr} {a b c x : Str} {pa pb pc tp px : Pos} {kk : Nat} {scope : Scope} {cl : List (Str × Addr)} {pos : Pos} {RR : Value → Addr → Result → Shared → Prop} {ax : Addr} {its : List Value} {n n2 : Nat}
    (J : Nat → Nat → List Value → List (Addr × Obj) → Prop) (P : Nat → Value → Value → Value → Prop)
    (hh : A.handled = none) (F : Fr h₀ L s.heap m) (N : News h₀ L s.heap news) (hm : (ax, W.listOf its.toArray n) ∈ news)
    (hcell : ∀ y ∈ scope.names, y.2 ≠ .cell) (hkind : scope.kind = .function)
    (hxa : scope.names.lookup a = some .local) (hxb : scope.names.lookup b = some .local) (hxc : scope.names.lookup c = some .local) (hxx : scope.names.lookup x = some .local)
    (hab : ¬ a = b) (hac : ¬ a = c) (hbc : ¬ b = c) (hax : ¬ a = x) (hbx : ¬ b = x) (hcx : ¬ c = x)
    (hfs : ∀ C y, foldedSetIterable iter2 (compEnvC scope cl C env) y = pure y)
    (hsm : Builtin.Range.small 0 (n2 : Int) 1 = true) (hrn : Builtin.Range.rangeSize 0 (n2 : Int) 1 = ((n2 : Nat) : Int))
    (h0 : J 0 0 [] news) (hJz : ∀ i j ys nw, J i j ys nw → ys.length ≤ sizeLine)
    (hS : ∀ i j ys nw, J i j ys nw → (ax, W.listOf its.toArray n) ∈ nw)
    (hT : ∀ i v ys nw, its[i]? = some v → J i 0 ys nw → ∃ T x y z, v = .ref T ∧ (T, tupO [x, y, z]) ∈ nw ∧ P i x y z)
    (hnext : ∀ i ys nw, i < its.length → J i n2 ys nw → J (i + 1) 0 ys nw)
    (hit : ∀ C h tk nw (Q' : Value → Shared → Prop) (E' : Value → Shared → Prop), Fr h₀ L h m → News h₀ L h nw →
      (∀ r h' tk' t u v, Fr h₀ L h' m → News h₀ L h' nw → IsRange h' r 0 (n2 : Int) 1 t u v → Q' (.ref r) { s with heap := h', toks := tk' }) → wpAny (model prog w) A (eval iter2 (compEnvC scope cl C env)) Q' E' { s with heap := h, toks := tk })
    (step : ∀ i j ys nw vx vy vz t' I oI I2 oI2 C oC D m₂ h tk (E' : Value → Shared → Prop), i < its.length → j < n2 → P i vx vy vz → J i j ys nw → NsObj oC m₂ → m₂ a = some vx → m₂ b = some vy → m₂ c = some vz → m₂ x = some (.int (j : Int) t') →
      Fr h₀ L h m → News h₀ L h ((I, oI) :: (I2, oI2) :: (C, oC) :: (D, lst ys) :: nw) → (I ≠ I2 ∧ I ≠ C ∧ I ≠ D ∧ I2 ≠ C ∧ I2 ≠ D ∧ C ≠ D) → (∀ p ∈ nw, p.1 ≠ I ∧ p.1 ≠ I2 ∧ p.1 ≠ C ∧ p.1 ≠ D) →
      wpAny (model prog w) A (eval elt (compEnvC scope cl C env)) (fun y s₃ => Hold (∃ h' tk' nw', s₃ = { s with heap := h', toks := tk' } ∧ Fr h₀ L h' m ∧ News h₀ L h' ((I, oI) :: (I2, oI2) :: (C, oC) :: (D, lst ys) :: nw') ∧
        (∀ p ∈ nw', p.1 ≠ I ∧ p.1 ≠ I2 ∧ p.1 ≠ C ∧ p.1 ≠ D) ∧ J i (j + 1) (ys ++ [y]) nw')) E' { s with heap := h, toks := tk })
    (fin : ∀ D C h tk ys nw m', J its.length 0 ys nw → Fr h₀ L h m → News h₀ L h ((D, lst ys) :: nw) → (∀ p ∈ nw, p.1 ≠ D ∧ p.1 ≠ C) → h.Ns C m' → h₀.get? C = none → C ≠ L → C ≠ D → RR (.ref D) C (.ok .next) { s with heap := h, toks := tk }) :
    wpAny (model prog w) A (pyIter (.ref ax)) (CGRest prog w A E env elt [⟨.Tuple [.Name a pa, .Name b pb, .Name c pc] kk tp, iter, [], 0⟩, ⟨.Name x px, iter2, [], 0⟩] scope cl pos RR) E s := by
  have S0 : SrcAt h₀ ax its.toArray news := .inr ⟨_, hm, rfl, _, rfl⟩
  have hl := S0.list F.keep N
  have hlt : ax < s.heap.objs.size := by obtain ⟨_, e, _⟩ := hl; exact Heap.lt_size e
  refine wpAny_pyIter_list hl ?_
  have up : ∀ b o, s.heap.get? b = some o → (s.heap.push { cls := .type "list_iterator", data := .fields #[.ref ax, .int 0 0] }).get? b = some o := fun b o e => Heap.get?_push_of_some _ e
  have hb : ∀ p ∈ news, p.1 < s.heap.objs.size := fun p hp => Heap.lt_size (N p hp).1
  have hI₀ := next_is_new F
  have hLI : L < s.heap.objs.size := F.ns.lt
  have hIo : (s.heap.push { cls := .type "list_iterator", data := .fields #[.ref ax, .int 0 0] }).get? s.heap.objs.size = some { cls := .type "list_iterator", data := .fields #[.ref ax, .int 0 0] } := Heap.get?_push_size _ rfl
  generalize hIe : s.heap.objs.size = I at *
  have N1 : News h₀ L (s.heap.push { cls := .type "list_iterator", data := .fields #[.ref ax, .int 0 0] }) ((I, { cls := .type "list_iterator", data := .fields #[.ref ax, .int 0 0] }) :: news) := fun p hp => by
    rcases List.mem_cons.mp hp with rfl | hp
    · exact ⟨hIo, Nat.ne_of_gt hLI, hI₀⟩
    · exact ⟨up _ _ (N p hp).1, (N p hp).2⟩
  refine cg_alloc hcell hkind (s := { s with heap := s.heap.push { cls := .type "list_iterator", data := .fields #[.ref ax, .int 0 0] } }) (F.keeps up) N1 fun D C H tk hD hDC hLD hD₀ hC₀ F2 N2 hC => ?_
  have hID : @LT.lt Nat _ I D := hD (I, _) List.mem_cons_self
  have q1 : (I : Nat) ≠ C := neN (by lia)
  have q2 : (I : Nat) ≠ D := neN (by lia)
  have q3 : (C : Nat) ≠ D := neN (by lia)
  have nIL : L ≠ I := Nat.ne_of_lt hLI
  have nCL : (C : Nat) ≠ L := neN (by lia)
  have nDL : (D : Nat) ≠ L := neN (by lia)
  have hIax : ax ≠ I := Nat.ne_of_lt hlt
  have ap0 : ∀ p ∈ news, p.1 ≠ I ∧ p.1 ≠ C ∧ p.1 ≠ D := fun p hp => by
    have h1 := hb p hp
    have h2 := hD p (List.mem_cons_of_mem _ hp)
    have h3 : @LT.lt Nat _ p.1 I := h1
    have h4 : @LT.lt Nat _ p.1 D := h2
    exact ⟨neN (by lia), neN (by lia), neN (by lia)⟩
  have W1 := Walks.list (prog := prog) (w := w) (A := A) hh I ax hIax its.toArray
  obtain ⟨oC0, hoC0, nsC0⟩ := ns_obj hC
  have hpl : (((compEnvC scope cl C env).scope.kind == .class || ((compEnvC scope cl C env).scope.kind == .module && (compEnvC scope cl C env).locals != (compEnvC scope cl C env).globals))) = false := by simp [compEnvC, relabel, hkind]
  have loop : codeAny (model prog w) A (.compLoop (lc2 elt (.Tuple [.Name a pa, .Name b pb, .Name c pc] kk tp) iter (.Name x px) iter2 scope pos) 0 (.ref I) (.ref D) (compEnvC scope cl C env)) (RR (.ref D) C) { s with heap := H, toks := tk } := by
    refine loop2_out
      (OutI s h₀ L m its.length ax I C D (fun i => J i 0)) (hfs C) ?_ (its.length + 1)
      ⟨H, tk, 0, [], news, _, { cls := .type "list_iterator", data := .fields #[.ref ax, .int 0 0] }, oC0, rfl, Nat.zero_le _, rfl, ⟨_, (N2 (I, _) (List.mem_cons_of_mem _ List.mem_cons_self)).1, rfl, rfl⟩, F2, nsC0, ?_, ap0, h0⟩
    · rintro k s' ⟨h, tk, i, ys, nw, m', oI, oC, rfl, hi, rfl, hst, F', nC, N', ap, hJ⟩
      have NI := N' (I, oI) (by repeat (first | exact List.mem_cons_self | apply List.mem_cons_of_mem))
      have NC := N' (C, oC) (by repeat (first | exact List.mem_cons_self | apply List.mem_cons_of_mem))
      have ND := N' (D, lst ys) (by repeat (first | exact List.mem_cons_self | apply List.mem_cons_of_mem))
      have hls : h.IsList ax its.toArray := ⟨_, (N' _ (List.mem_cons_of_mem _ (List.mem_cons_of_mem _ (List.mem_cons_of_mem _ (hS _ _ _ _ hJ))))).1, rfl, _, rfl⟩
      by_cases hlt2 : i < its.length
      · refine W1.item i _ _ _ (by rw [List.size_toArray]; exact hlt2) ⟨hst, hls⟩ fun v h₁ tk₁ hPv hst₁ hk₁ => ?_
        rw [List.getElem?_toArray] at hPv
        obtain ⟨T, vx, vy, vz, rfl, hTm, hP⟩ := hT i v ys nw hPv hJ
        refine wpAny_letOwnedTupleGo_listiter hst₁.1 ?_
        have nC₁ : h₁.Ns C m' := nC.ns (hk₁ _ _ (by simpa using Ne.symm q1) NC.1)
        have NT := N' (T, tupO [vx, vy, vz]) (by repeat (first | assumption | apply List.mem_cons_of_mem))
        refine assign3 (env := compEnvC scope cl C env) hh ⟨_, hk₁ _ _ (by simpa using (ap _ hTm).1) NT.1, rfl, _, rfl⟩ (lookup_relabel_local hxa) (lookup_relabel_local hxb) (lookup_relabel_local hxc) hpl nC₁ fun h₂ tk₂ nC₂ hs₂ => ?_
        have up₂ : ∀ d o, d ≠ I → d ≠ C → h.get? d = some o → h₂.get? d = some o := fun d o h1 h2 e => hs₂ d o h2 (hk₁ d o (by simpa using h1) e)
        obtain ⟨oI', hoI', hoI''⟩ := hst₁.1
        have gI₂ : h₂.get? I = some oI' := hs₂ I _ q1 hoI'
        have hIit : ∀ h : Heap, h.get? I = some oI' → h.IsListIter I ax (i + 1) := fun h e => ⟨oI', e, hoI''⟩
        obtain ⟨oC₂, hoC₂, nsC₂⟩ := ns_obj nC₂
        have F₂ : Fr h₀ L h₂ m := ⟨F'.ns.at' fun o e => up₂ _ o nIL (Ne.symm nCL) e, fun d o e => up₂ d o (fun q => by rw [q, hI₀] at e; cases e) (fun q => by rw [q, hC₀] at e; cases e) (F'.keep d o e), F'.above⟩
        have N₂ : News h₀ L h₂ ((I, oI') :: (C, oC₂) :: (D, lst ys) :: nw) := fun p hp => by
          rcases List.mem_cons.mp hp with rfl | hp
          · exact ⟨gI₂, Ne.symm nIL, hI₀⟩
          rcases List.mem_cons.mp hp with rfl | hp
          · exact ⟨hoC₂, nCL, hC₀⟩
          rcases List.mem_cons.mp hp with rfl | hp
          · exact ⟨up₂ _ _ (Ne.symm q2) (Ne.symm q3) ND.1, ND.2⟩
          · have z := N' p (by repeat (first | assumption | apply List.mem_cons_of_mem))
            exact ⟨up₂ _ _ (ap p hp).1 (ap p hp).2.1 z.1, z.2⟩
        refine hit C h₂ tk₂ _ _ _ F₂ N₂ fun r h₃ tk₃ t u v F₃ N₃ hr => ?_
        refine wpAny_pyIter_range hr hsm ?_
        have hI2₀ := next_is_new F₃
        have hLI2 : L < h₃.objs.size := F₃.ns.lt
        have hb₃ : ∀ p ∈ ((I, oI') :: (C, oC₂) :: (D, lst ys) :: nw), p.1 < h₃.objs.size := fun p hp => Heap.lt_size (N₃ p hp).1
        have up₃ : ∀ b o, h₃.get? b = some o → (h₃.push { cls := .type "range_iterator", data := .fields #[rawInt 0, rawInt (Builtin.Range.rangeSize 0 (n2 : Int) 1), rawInt 1] }).get? b = some o := fun b o e => Heap.get?_push_of_some _ e
        have gI2 : IsRangeIter (h₃.push { cls := .type "range_iterator", data := .fields #[rawInt 0, rawInt (Builtin.Range.rangeSize 0 (n2 : Int) 1), rawInt 1] }) h₃.objs.size (0 + ((0 : Nat) : Int) * 1) ((n2 : Int) - ((0 : Nat) : Int)) 1 := by
          show Heap.get? _ _ = _
          rw [hrn]; simpa using Heap.get?_push_size _ rfl
        generalize (h₃.push { cls := .type "range_iterator", data := .fields #[rawInt 0, rawInt (Builtin.Range.rangeSize 0 (n2 : Int) 1), rawInt 1] }) = h₄ at *
        generalize h₃.objs.size = I2 at *
        have bI := hb₃ (I, oI') (by repeat (first | exact List.mem_cons_self | apply List.mem_cons_of_mem))
        have bC := hb₃ (C, oC₂) (by repeat (first | exact List.mem_cons_self | apply List.mem_cons_of_mem))
        have bD := hb₃ (D, lst ys) (by repeat (first | exact List.mem_cons_self | apply List.mem_cons_of_mem))
        dsimp only at bI bC bD
        have r1 : (I : Nat) ≠ I2 := Nat.ne_of_lt bI
        have r2 : (I2 : Nat) ≠ C := Nat.ne_of_gt bC
        have r3 : (I2 : Nat) ≠ D := Nat.ne_of_gt bD
        have nI2L : (I2 : Nat) ≠ L := Nat.ne_of_gt hLI2
        have W2 := range_walks (prog := prog) (w := w) (A := A) (I := I2) hh 0 n2
        have F₄ := F₃.keeps up₃
        have loop2 : codeAny (model prog w) A (.compLoop (lc2 elt (.Tuple [.Name a pa, .Name b pb, .Name c pc] kk tp) iter (.Name x px) iter2 scope pos) 1 (.ref I2) (.ref D) (compEnvC scope cl C env)) (fun r s₅ => match r with
            | .ok _ => ∃ m', m' < its.length + 1 - i ∧ OutI s h₀ L m its.length ax I C D (fun i => J i 0) m' s₅
            | .error e => cameBackBy (model prog w) A (compEnvC scope cl C env) (notedBy (model prog w) A (compEnvC scope cl C env) fun e s' => RR (.ref D) C (.error e) s') e s₅) { s with heap := h₄, toks := tk₃ } := by
          refine loop2_in
            (InI s h₀ L m n2 I I2 C D oI' a b c vx vy vz (J i)) (fun v => rfl) ?_ (n2 + 1)
            ⟨h₄, tk₃, 0, ys, nw, _, riO (0 + ((0 : Nat) : Int) * 1) ((n2 : Int) - ((0 : Nat) : Int)), oC₂, rfl, Nat.zero_le _, rfl, gI2, F₄, nsC₂, by simp [hab, hac], by simp [hbc], by simp, ?_, fun p hp => ⟨(ap p hp).1, Nat.ne_of_lt (hb₃ p (by repeat (first | assumption | apply List.mem_cons_of_mem))), (ap p hp).2.1, (ap p hp).2.2⟩, hJ⟩
          · rintro k s' ⟨h, tk, j, ys, nw, m', oI2, oC, rfl, hj, rfl, hst, F', nC, ma, mb, mc, N', ap, hJ⟩
            have NI := N' (I, oI') (by repeat (first | exact List.mem_cons_self | apply List.mem_cons_of_mem))
            have NI2 := N' (I2, oI2) (by repeat (first | exact List.mem_cons_self | apply List.mem_cons_of_mem))
            have NC := N' (C, oC) (by repeat (first | exact List.mem_cons_self | apply List.mem_cons_of_mem))
            have ND := N' (D, lst ys) (by repeat (first | exact List.mem_cons_self | apply List.mem_cons_of_mem))
            by_cases hlt3 : j < n2
            · refine W2.item j _ _ _ hlt3 hst fun v h₅ tk₅ hPv hst₅ hk₅ => ?_
              obtain ⟨t', rfl⟩ := hPv
              rw [Int.zero_add]
              refine wpAny_assign_Name (wpAny_storeName_local (env := compEnvC scope cl C env) (lookup_relabel_local hxx) (nC.ns (h := h₅) (C := C) (hk₅ C _ (by simpa using Ne.symm r2) NC.1)) (fun h₆ hn₆ hs₆ => ?_) hpl)
              obtain ⟨oC₆, hoC₆, nsC₆⟩ := ns_obj hn₆
              have up₆ : ∀ d o, d ≠ I2 → d ≠ C → h.get? d = some o → h₆.get? d = some o := fun d o h1 h2 e => hs₆.extBut d o h2 (hk₅ d o (by simpa using h1) e)
              have hst₆ : h₆.get? I2 = some _ := hs₆.extBut _ _ r2 hst₅
              have F₆ : Fr h₀ L h₆ m := ⟨F'.ns.at' fun o e => up₆ _ o (Ne.symm nI2L) (Ne.symm nCL) e, fun d o e => up₆ d o (fun q => by rw [q, hI2₀] at e; cases e) (fun q => by rw [q, hC₀] at e; cases e) (F'.keep d o e), F'.above⟩
              refine wpAny_mono (step i j ys nw vx vy vz t' I oI' I2 (riO (0 + ((j + 1 : Nat) : Int) * 1) ((n2 : Int) - ((j + 1 : Nat) : Int))) C oC₆ D _ h₆ _ _ hlt2 hlt3 hP hJ nsC₆ (by simp [hax, ma]) (by simp [hbx, mb]) (by simp [hcx, mc]) (by simp) F₆ ?_ ⟨r1, q1, q2, r2, r3, q3⟩ ap) (fun y s₇ h₇ => ?_) fun _ _ e => e
              · intro p hp
                rcases List.mem_cons.mp hp with rfl | hp
                · exact ⟨up₆ _ _ r1 q1 NI.1, NI.2⟩
                rcases List.mem_cons.mp hp with rfl | hp
                · exact ⟨hst₆, NI2.2⟩
                rcases List.mem_cons.mp hp with rfl | hp
                · exact ⟨hoC₆, NC.2⟩
                rcases List.mem_cons.mp hp with rfl | hp
                · exact ⟨up₆ _ _ (Ne.symm r3) (Ne.symm q3) ND.1, ND.2⟩
                · have z := N' p (by repeat (first | assumption | apply List.mem_cons_of_mem))
                  exact ⟨up₆ _ _ (ap p hp).2.1 (ap p hp).2.2.1 z.1, z.2⟩
              · obtain ⟨h₇, tk₇, nw₇, rfl, F₇, N₇, ap₇, hJ₇⟩ := h₇
                have zI := N₇ (I, oI') (by repeat (first | exact List.mem_cons_self | apply List.mem_cons_of_mem))
                have zI2 := N₇ (I2, (riO (0 + ((j + 1 : Nat) : Int) * 1) ((n2 : Int) - ((j + 1 : Nat) : Int)))) (List.mem_cons_of_mem _ List.mem_cons_self)
                have zC := N₇ (C, oC₆) (by repeat (first | exact List.mem_cons_self | apply List.mem_cons_of_mem))
                have zD := N₇ (D, lst ys) (by repeat (first | exact List.mem_cons_self | apply List.mem_cons_of_mem))
                refine append_at (hsz := by show ys.toArray.size ≤ sizeLine; rw [List.size_toArray]; exact hJz _ _ _ _ hJ) zD.1 fun h₈ hs₈ hD₈ => ?_
                refine ⟨n2 + 1 - (j + 1), by lia, h₈, _, j + 1, ys ++ [y], nw₇, _, (riO (0 + ((j + 1 : Nat) : Int) * 1) ((n2 : Int) - ((j + 1 : Nat) : Int))), oC₆, rfl, hlt3, rfl, hs₈.extBut _ _ r3 zI2.1, F₇.change hs₈ nDL hD₀, nsC₆, by simp [hax, ma], by simp [hbx, mb], by simp [hcx, mc], ?_, ap₇, hJ₇⟩
                intro p hp
                rcases List.mem_cons.mp hp with rfl | hp
                · exact ⟨hs₈.extBut _ _ q2 zI.1, zI.2⟩
                rcases List.mem_cons.mp hp with rfl | hp
                · exact ⟨hs₈.extBut _ _ r3 zI2.1, zI2.2⟩
                rcases List.mem_cons.mp hp with rfl | hp
                · exact ⟨hs₈.extBut _ _ q3 zC.1, zC.2⟩
                rcases List.mem_cons.mp hp with rfl | hp
                · exact ⟨hD₈.trans (congrArg some (lst_snoc ys y)), zD.2⟩
                · exact ⟨hs₈.extBut _ _ (ap₇ p hp).2.2.2 (N₇ p (by repeat (first | assumption | apply List.mem_cons_of_mem))).1, (N₇ p (by repeat (first | assumption | apply List.mem_cons_of_mem))).2⟩
            · obtain rfl : j = n2 := by lia
              refine W2.done _ _ _ hst fun h₅ tk₅ hk₅ => ?_
              refine ⟨its.length + 1 - (i + 1), by lia, h₅, tk₅, i + 1, ys, nw, m', oI', oC, rfl, hlt2, rfl, hIit _ (hk₅ _ _ (by simpa using r1) NI.1), fr_but F' hk₅ (Ne.symm nI2L) hI2₀, nC, ?_, fun p hp => ⟨(ap p hp).1, (ap p hp).2.2.1, (ap p hp).2.2.2⟩, hnext _ _ _ hlt2 hJ⟩
              intro p hp
              rcases List.mem_cons.mp hp with rfl | hp
              · exact ⟨hk₅ _ _ (by simpa using r1) NI.1, NI.2⟩
              rcases List.mem_cons.mp hp with rfl | hp
              · exact ⟨hk₅ _ _ (by simpa using Ne.symm r2) NC.1, NC.2⟩
              rcases List.mem_cons.mp hp with rfl | hp
              · exact ⟨hk₅ _ _ (by simpa using Ne.symm r3) ND.1, ND.2⟩
              · have z := N' p (by repeat (first | assumption | apply List.mem_cons_of_mem))
                exact ⟨hk₅ _ _ (by simpa using (ap p hp).2.1) z.1, z.2⟩
          · intro p hp
            rcases List.mem_cons.mp hp with rfl | hp
            · exact ⟨up₃ _ _ (N₃ (I, oI') (by repeat (first | exact List.mem_cons_self | apply List.mem_cons_of_mem))).1, (N₃ (I, oI') (by repeat (first | exact List.mem_cons_self | apply List.mem_cons_of_mem))).2⟩
            rcases List.mem_cons.mp hp with rfl | hp
            · exact ⟨gI2, nI2L, hI2₀⟩
            · have z := N₃ p (List.mem_cons_of_mem _ hp)
              exact ⟨up₃ _ _ z.1, z.2⟩
        exact start2 loop2 (W2.self 0 _ _ _ gI2 loop2)
      · obtain rfl : i = its.length := by lia
        refine W1.done _ _ _ (by rw [List.size_toArray]; exact ⟨hst, hls⟩) fun h₂ tk₂ hk₂ => ?_
        refine fin D C h₂ tk₂ ys nw _ hJ (fr_but F' hk₂ nIL hI₀) (fun p hp => ?_) (fun p hp => ⟨(ap p hp).2.2, (ap p hp).2.1⟩) (nC.ns (hk₂ _ _ (by simpa using Ne.symm q1) NC.1)) hC₀ nCL q3
        rcases List.mem_cons.mp hp with rfl | hp
        · exact ⟨hk₂ _ _ (by simpa using Ne.symm q2) ND.1, ND.2⟩
        · have z := N' p (by repeat (first | assumption | apply List.mem_cons_of_mem))
          exact ⟨hk₂ _ _ (by simpa using (ap p hp).1) z.1, z.2⟩
    · intro p hp
      rcases List.mem_cons.mp hp with rfl | hp
      · exact N2 _ (by repeat (first | exact List.mem_cons_self | apply List.mem_cons_of_mem))
      rcases List.mem_cons.mp hp with rfl | hp
      · exact ⟨hoC0, nCL, hC₀⟩
      rcases List.mem_cons.mp hp with rfl | hp
      · exact N2 _ (by repeat (first | exact List.mem_cons_self | apply List.mem_cons_of_mem))
      · exact N2 p (by repeat (first | assumption | apply List.mem_cons_of_mem))
  exact codeAny_compStart_list loop (W1.self 0 _ _ _ ⟨⟨_, (N2 (I, _) (List.mem_cons_of_mem _ List.mem_cons_self)).1, rfl, rfl⟩, ⟨_, (N2 _ (List.mem_cons_of_mem _ (List.mem_cons_of_mem _ hm))).1, rfl, _, rfl⟩⟩ loop)
end
end Mine
end
section
open PyProof.Rows.LCg
namespace Mine
section
variable {prog : Program} {w : World} {A : Around} {E : Value → Shared → Prop} {s : Shared} {env : Env} {h₀ : Heap} {L : Addr} {m : Str → Option Value} {news : List (Addr × Obj)}
theorem cg_one {elt iter : Expr} {a b c : Str} {pa pb pc tp : Pos} {kk : Nat} {scope : Scope} {cl : List (Str × Addr)} {pos : Pos} {RR : Value → Addr → Result → Shared → Prop} {ax : Addr} {its : List Value} {n : Nat}
    (J : Nat → List Value → List (Addr × Obj) → Prop) (P : Nat → Value → Value → Value → Prop)
    (hh : A.handled = none) (F : Fr h₀ L s.heap m) (N : News h₀ L s.heap news) (hm : (ax, W.listOf its.toArray n) ∈ news)
    (hcell : ∀ y ∈ scope.names, y.2 ≠ .cell) (hkind : scope.kind = .function)
    (hxa : scope.names.lookup a = some .local) (hxb : scope.names.lookup b = some .local) (hxc : scope.names.lookup c = some .local)
    (hab : ¬ a = b) (hac : ¬ a = c) (hbc : ¬ b = c)
    (h0 : J 0 [] news) (hJz : ∀ i ys nw, J i ys nw → ys.length ≤ sizeLine)
    (hS : ∀ i ys nw, J i ys nw → (ax, W.listOf its.toArray n) ∈ nw)
    (hT : ∀ i v ys nw, its[i]? = some v → J i ys nw → ∃ T x y z, v = .ref T ∧ (T, tupO [x, y, z]) ∈ nw ∧ P i x y z)
    (step : ∀ i ys nw vx vy vz I oI C oC D m₂ h tk (E' : Value → Shared → Prop), i < its.length → P i vx vy vz → J i ys nw → NsObj oC m₂ → m₂ a = some vx → m₂ b = some vy → m₂ c = some vz →
      Fr h₀ L h m → News h₀ L h ((I, oI) :: (C, oC) :: (D, lst ys) :: nw) → (I ≠ C ∧ I ≠ D ∧ C ≠ D) → (∀ p ∈ nw, p.1 ≠ I ∧ p.1 ≠ C ∧ p.1 ≠ D) →
      wpAny (model prog w) A (eval elt (compEnvC scope cl C env)) (fun y s₃ => Hold (∃ h' tk' nw', s₃ = { s with heap := h', toks := tk' } ∧ Fr h₀ L h' m ∧ News h₀ L h' ((I, oI) :: (C, oC) :: (D, lst ys) :: nw') ∧
        (∀ p ∈ nw', p.1 ≠ I ∧ p.1 ≠ C ∧ p.1 ≠ D) ∧ J (i + 1) (ys ++ [y]) nw')) E' { s with heap := h, toks := tk })
    (fin : ∀ D C h tk ys nw m', J its.length ys nw → Fr h₀ L h m → News h₀ L h ((D, lst ys) :: nw) → (∀ p ∈ nw, p.1 ≠ D ∧ p.1 ≠ C) → h.Ns C m' → h₀.get? C = none → C ≠ L → C ≠ D → RR (.ref D) C (.ok .next) { s with heap := h, toks := tk }) :
    wpAny (model prog w) A (pyIter (.ref ax)) (CGRest prog w A E env elt [⟨.Tuple [.Name a pa, .Name b pb, .Name c pc] kk tp, iter, [], 0⟩] scope cl pos RR) E s := by
  have S0 : SrcAt h₀ ax its.toArray news := .inr ⟨_, hm, rfl, _, rfl⟩
  have hl := S0.list F.keep N
  have hlt : ax < s.heap.objs.size := by obtain ⟨_, e, _⟩ := hl; exact Heap.lt_size e
  refine wpAny_pyIter_list hl ?_
  have up : ∀ b o, s.heap.get? b = some o → (s.heap.push { cls := .type "list_iterator", data := .fields #[.ref ax, .int 0 0] }).get? b = some o := fun b o e => Heap.get?_push_of_some _ e
  have hb : ∀ p ∈ news, p.1 < s.heap.objs.size := fun p hp => Heap.lt_size (N p hp).1
  have hI₀ := next_is_new F
  have hLI : L < s.heap.objs.size := F.ns.lt
  have hIo : (s.heap.push { cls := .type "list_iterator", data := .fields #[.ref ax, .int 0 0] }).get? s.heap.objs.size = some { cls := .type "list_iterator", data := .fields #[.ref ax, .int 0 0] } := Heap.get?_push_size _ rfl
  generalize hIe : s.heap.objs.size = I at *
  have N1 : News h₀ L (s.heap.push { cls := .type "list_iterator", data := .fields #[.ref ax, .int 0 0] }) ((I, { cls := .type "list_iterator", data := .fields #[.ref ax, .int 0 0] }) :: news) := fun p hp => by
    rcases List.mem_cons.mp hp with rfl | hp
    · exact ⟨hIo, Nat.ne_of_gt hLI, hI₀⟩
    · exact ⟨up _ _ (N p hp).1, (N p hp).2⟩
  refine cg_alloc hcell hkind (s := { s with heap := s.heap.push { cls := .type "list_iterator", data := .fields #[.ref ax, .int 0 0] } }) (F.keeps up) N1 fun D C H tk hD hDC hLD hD₀ hC₀ F2 N2 hC => ?_
  have hID : @LT.lt Nat _ I D := hD (I, _) List.mem_cons_self
  have q1 : (I : Nat) ≠ C := neN (by lia)
  have q2 : (I : Nat) ≠ D := neN (by lia)
  have q3 : (C : Nat) ≠ D := neN (by lia)
  have nIL : L ≠ I := Nat.ne_of_lt hLI
  have nCL : (C : Nat) ≠ L := neN (by lia)
  have nDL : (D : Nat) ≠ L := neN (by lia)
  have hIax : ax ≠ I := Nat.ne_of_lt hlt
  have ap0 : ∀ p ∈ news, p.1 ≠ I ∧ p.1 ≠ C ∧ p.1 ≠ D := fun p hp => by
    have h1 := hb p hp
    have h2 := hD p (List.mem_cons_of_mem _ hp)
    have h3 : @LT.lt Nat _ p.1 I := h1
    have h4 : @LT.lt Nat _ p.1 D := h2
    exact ⟨neN (by lia), neN (by lia), neN (by lia)⟩
  have W1 := Walks.list (prog := prog) (w := w) (A := A) hh I ax hIax its.toArray
  obtain ⟨oC0, hoC0, nsC0⟩ := ns_obj hC
  have hpl : (((compEnvC scope cl C env).scope.kind == .class || ((compEnvC scope cl C env).scope.kind == .module && (compEnvC scope cl C env).locals != (compEnvC scope cl C env).globals))) = false := by simp [compEnvC, relabel, hkind]
  have loop : codeAny (model prog w) A (.compLoop (.ListComp elt [⟨.Tuple [.Name a pa, .Name b pb, .Name c pc] kk tp, iter, [], 0⟩] scope pos) 0 (.ref I) (.ref D) (compEnvC scope cl C env)) (RR (.ref D) C) { s with heap := H, toks := tk } := by
    refine kcp_loop
      (OutI s h₀ L m its.length ax I C D J) ?_ (its.length + 1)
      ⟨H, tk, 0, [], news, _, { cls := .type "list_iterator", data := .fields #[.ref ax, .int 0 0] }, oC0, rfl, Nat.zero_le _, rfl, ⟨_, (N2 (I, _) (List.mem_cons_of_mem _ List.mem_cons_self)).1, rfl, rfl⟩, F2, nsC0, ?_, ap0, h0⟩
    · rintro k s' ⟨h, tk, i, ys, nw, m', oI, oC, rfl, hi, rfl, hst, F', nC, N', ap, hJ⟩
      have NI := N' (I, oI) (by repeat (first | exact List.mem_cons_self | apply List.mem_cons_of_mem))
      have NC := N' (C, oC) (by repeat (first | exact List.mem_cons_self | apply List.mem_cons_of_mem))
      have ND := N' (D, lst ys) (by repeat (first | exact List.mem_cons_self | apply List.mem_cons_of_mem))
      have hls : h.IsList ax its.toArray := ⟨_, (N' _ (List.mem_cons_of_mem _ (List.mem_cons_of_mem _ (List.mem_cons_of_mem _ (hS _ _ _ hJ))))).1, rfl, _, rfl⟩
      by_cases hlt2 : i < its.length
      · refine W1.item i _ _ _ (by rw [List.size_toArray]; exact hlt2) ⟨hst, hls⟩ fun v h₁ tk₁ hPv hst₁ hk₁ => ?_
        rw [List.getElem?_toArray] at hPv
        obtain ⟨T, vx, vy, vz, rfl, hTm, hP⟩ := hT i v ys nw hPv hJ
        refine wpAny_letOwnedTupleGo_listiter hst₁.1 ?_
        have nC₁ : h₁.Ns C m' := nC.ns (hk₁ _ _ (by simpa using Ne.symm q1) NC.1)
        have NT := N' (T, tupO [vx, vy, vz]) (by repeat (first | assumption | apply List.mem_cons_of_mem))
        refine assign3 (env := compEnvC scope cl C env) hh ⟨_, hk₁ _ _ (by simpa using (ap _ hTm).1) NT.1, rfl, _, rfl⟩ (lookup_relabel_local hxa) (lookup_relabel_local hxb) (lookup_relabel_local hxc) hpl nC₁ fun h₂ tk₂ nC₂ hs₂ => ?_
        have up₂ : ∀ d o, d ≠ I → d ≠ C → h.get? d = some o → h₂.get? d = some o := fun d o h1 h2 e => hs₂ d o h2 (hk₁ d o (by simpa using h1) e)
        obtain ⟨oI', hoI', hoI''⟩ := hst₁.1
        have gI₂ : h₂.get? I = some oI' := hs₂ I _ q1 hoI'
        have hIit : ∀ h : Heap, h.get? I = some oI' → h.IsListIter I ax (i + 1) := fun h e => ⟨oI', e, hoI''⟩
        obtain ⟨oC₂, hoC₂, nsC₂⟩ := ns_obj nC₂
        have F₂ : Fr h₀ L h₂ m := ⟨F'.ns.at' fun o e => up₂ _ o nIL (Ne.symm nCL) e, fun d o e => up₂ d o (fun q => by rw [q, hI₀] at e; cases e) (fun q => by rw [q, hC₀] at e; cases e) (F'.keep d o e), F'.above⟩
        have N₂ : News h₀ L h₂ ((I, oI') :: (C, oC₂) :: (D, lst ys) :: nw) := fun p hp => by
          rcases List.mem_cons.mp hp with rfl | hp
          · exact ⟨gI₂, Ne.symm nIL, hI₀⟩
          rcases List.mem_cons.mp hp with rfl | hp
          · exact ⟨hoC₂, nCL, hC₀⟩
          rcases List.mem_cons.mp hp with rfl | hp
          · exact ⟨up₂ _ _ (Ne.symm q2) (Ne.symm q3) ND.1, ND.2⟩
          · have z := N' p (by repeat (first | assumption | apply List.mem_cons_of_mem))
            exact ⟨up₂ _ _ (ap p hp).1 (ap p hp).2.1 z.1, z.2⟩
        refine wpAny_mono (step i ys nw vx vy vz I oI' C oC₂ D _ h₂ tk₂ _ hlt2 hP hJ nsC₂ (by simp [hab, hac]) (by simp [hbc]) (by simp) F₂ N₂ ⟨q1, q2, q3⟩ ap) (fun y s₇ h₇ => ?_) fun _ _ e => e
        obtain ⟨h₇, tk₇, nw₇, rfl, F₇, N₇, ap₇, hJ₇⟩ := h₇
        have zI := N₇ (I, oI') (by repeat (first | exact List.mem_cons_self | apply List.mem_cons_of_mem))
        have zC := N₇ (C, oC₂) (by repeat (first | exact List.mem_cons_self | apply List.mem_cons_of_mem))
        have zD := N₇ (D, lst ys) (by repeat (first | exact List.mem_cons_self | apply List.mem_cons_of_mem))
        refine append_at (hsz := by show ys.toArray.size ≤ sizeLine; rw [List.size_toArray]; exact hJz _ _ _ hJ) zD.1 fun h₈ hs₈ hD₈ => ?_
        refine ⟨its.length + 1 - (i + 1), by lia, h₈, _, i + 1, ys ++ [y], nw₇, _, oI', oC₂, rfl, hlt2, rfl, hIit _ (hs₈.extBut _ _ q2 zI.1), F₇.change hs₈ nDL hD₀, nsC₂, ?_, ap₇, hJ₇⟩
        intro p hp
        rcases List.mem_cons.mp hp with rfl | hp
        · exact ⟨hs₈.extBut _ _ q2 zI.1, zI.2⟩
        rcases List.mem_cons.mp hp with rfl | hp
        · exact ⟨hs₈.extBut _ _ q3 zC.1, zC.2⟩
        rcases List.mem_cons.mp hp with rfl | hp
        · exact ⟨hD₈.trans (congrArg some (lst_snoc ys y)), zD.2⟩
        · exact ⟨hs₈.extBut _ _ (ap₇ p hp).2.2 (N₇ p (by repeat (first | assumption | apply List.mem_cons_of_mem))).1, (N₇ p (by repeat (first | assumption | apply List.mem_cons_of_mem))).2⟩
      · obtain rfl : i = its.length := by lia
        refine W1.done _ _ _ (by rw [List.size_toArray]; exact ⟨hst, hls⟩) fun h₂ tk₂ hk₂ => ?_
        refine fin D C h₂ tk₂ ys nw _ hJ (fr_but F' hk₂ nIL hI₀) (fun p hp => ?_) (fun p hp => ⟨(ap p hp).2.2, (ap p hp).2.1⟩) (nC.ns (hk₂ _ _ (by simpa using Ne.symm q1) NC.1)) hC₀ nCL q3
        rcases List.mem_cons.mp hp with rfl | hp
        · exact ⟨hk₂ _ _ (by simpa using Ne.symm q2) ND.1, ND.2⟩
        · have z := N' p (by repeat (first | assumption | apply List.mem_cons_of_mem))
          exact ⟨hk₂ _ _ (by simpa using (ap p hp).1) z.1, z.2⟩
    · intro p hp
      rcases List.mem_cons.mp hp with rfl | hp
      · exact N2 _ (by repeat (first | exact List.mem_cons_self | apply List.mem_cons_of_mem))
      rcases List.mem_cons.mp hp with rfl | hp
      · exact ⟨hoC0, nCL, hC₀⟩
      rcases List.mem_cons.mp hp with rfl | hp
      · exact N2 _ (by repeat (first | exact List.mem_cons_self | apply List.mem_cons_of_mem))
      · exact N2 p (by repeat (first | assumption | apply List.mem_cons_of_mem))
  exact codeAny_compStart_list loop (W1.self 0 _ _ _ ⟨⟨_, (N2 (I, _) (List.mem_cons_of_mem _ List.mem_cons_self)).1, rfl, rfl⟩, ⟨_, (N2 _ (List.mem_cons_of_mem _ (List.mem_cons_of_mem _ hm))).1, rfl, _, rfl⟩⟩ loop)
/-- True not in a list of bools -/
theorem m_notTrue {l : Addr} {n : Nat} {bs : List Bool} {Q : Value → Shared → Prop} (N : News h₀ L s.heap news) (hm : (l, W.listOf (bs.map Value.bool).toArray n) ∈ news) (hb : bs.contains true = true) (h : Q (.bool false) s) :
    wpAny (model prog w) A (compareOp .NotIn (.bool true) (.ref l)) Q E s := by
  refine SeqInW.notIn_listW (fun v => match v with | .bool b => b == true | _ => false) (fun y hy => ?_) (m_isList N hm) ?_
  · rw [List.mem_toArray, List.mem_map] at hy
    obtain ⟨b, _, rfl⟩ := hy
    exact fun prog w A E s Q h => PySem.SeqAt.EqAt.bool_bool b true prog w E Q h
  · have e : ((bs.map Value.bool).toArray.any fun v => match v with | .bool b => b == true | _ => false) = true := by
      rw [List.any_toArray, List.any_map]
      rw [List.any_eq_true]
      exact ⟨true, by simpa using hb, rfl⟩
    rw [e]; exact h
end
end Mine
end
section
open PyProof.Rows.LCg
namespace Mine
def CellsW (cm : Str → Option Value) : List (Str × Addr) → (List (Addr × Obj) → Prop) → Prop
  | [], k => k []
  | (n, c) :: l, k => ∃ o : Obj, o.data = .cell (cm n) ∧ CellsW cm l fun r => k ((c, o) :: r)
theorem cells_w {cm : Str → Option Value} {l : List (Str × Addr)} {cells : List (Addr × Obj)} (x : CellsAre cm l cells) : ∀ {k : List (Addr × Obj) → Prop}, k cells → CellsW cm l k := by
  induction x with
  | nil => exact id
  | cons h _ ih => exact fun hk => ⟨_, h, ih hk⟩
theorem cells7 {cm : Str → Option Value} {l : List (Str × Addr)} {cells : List (Addr × Obj)} (x : CellsAre cm l cells) : CellsW cm l fun r => cells = r := cells_w x rfl
theorem rng_ok {b : Int} {k : Nat} (h : b = k) (hk : k < 1000) : Builtin.Range.small 0 b 1 = true ∧ Builtin.Range.rangeSize 0 b 1 = ((k : Nat) : Int) := by
  subst h
  constructor
  · exact small_one (by lia) (by lia) (by lia) (by lia)
  · unfold Builtin.Range.rangeSize
    rw [if_pos (by decide)]
    split
    · rw [Int.ediv_one]; lia
    · lia
theorem sz3 : 3 ≤ sizeLine := by rw [sizeLine_eq]; lia
theorem sz_of {n : Nat} (h : n ≤ 1000) : n ≤ sizeLine := by rw [sizeLine_eq]; lia
theorem n2_le {n : Nat} (h : n ≤ 8) : n + 2 ≤ 1000 := by lia
theorem b2_eq (n : Nat) : (n : Int) + 1 + 1 = ((n + 2 : Nat) : Int) := by lia
theorem rng3 : Builtin.Range.small 0 ((3 : Nat) : Int) 1 = true ∧ Builtin.Range.rangeSize 0 ((3 : Nat) : Int) 1 = ((3 : Nat) : Int) := rng_ok (b := 3) (k := 3) rfl (by decide)
theorem len_small {a b n : Nat} (h : a = b) (hb : b ≤ 1 + n) (hn : n ≤ 8) : a < 1000 := by lia
theorem len_small' {a b n : Nat} (h : a = b) (hb : b ≤ n) (hn : n ≤ 8) : a < 1000 := by lia
theorem cell_ne {L' : Addr} {tb2 rest cs : List (Addr × Obj)} (hap : ∀ q ∈ tb2, ∀ p ∈ cs, q.1 ≠ p.1) (hL : AllLt L' rest) {k : Nat} {o : Obj} (hm : (L' + k, o) ∈ cs) : ∀ q ∈ tb2 ++ rest, q.1 ≠ L' + k := by
  intro q hq
  rcases List.mem_append.mp hq with hq | hq
  · exact hap q hq _ hm
  · exact lt_ne_add k (allLt_mem hL q hq)
theorem off3_of {I C D : Addr} : ∀ {l : List (Addr × Obj)}, (∀ p ∈ l, p.1 ≠ I ∧ p.1 ≠ C ∧ p.1 ≠ D) → Off3 I C D l
  | [], _ => trivial
  | p :: r, h => ⟨h p List.mem_cons_self, off3_of fun q hq => h q (List.mem_cons_of_mem _ hq)⟩
theorem off1_mem {D : Addr} : ∀ {l : List (Addr × Obj)}, Off1 D l → ∀ p ∈ l, @Ne Nat p.1 D
  | [], _, _, h => nomatch h
  | _ :: _, h, p, hp => by
    rcases List.mem_cons.mp hp with rfl | hp
    · exact h.1
    · exact off1_mem h.2 p hp
/-- the lists that a list of lists names -/
def RowsAre (LL : List (Addr × Obj)) (F : Nat → List Int) (i : Nat) (ys : List Value) : Prop :=
  ys.length = i ∧ ∀ k, k < i → ∃ l n vs, ys[k]? = some (Value.ref l) ∧ (l, W.listOf vs.toArray n) ∈ LL ∧ IntsAre vs (F k)
theorem RowsAre.snoc {LL : List (Addr × Obj)} {F : Nat → List Int} {i : Nat} {ys : List Value} (h : RowsAre LL F i ys) {l : Addr} {n : Nat} {vs : List Value} (hv : IntsAre vs (F i)) : RowsAre ((l, W.listOf vs.toArray n) :: LL) F (i + 1) (ys ++ [.ref l]) := by
  refine ⟨by rw [List.length_append, h.1]; rfl, fun k hk => ?_⟩
  by_cases hki : k = i
  · subst hki
    exact ⟨l, n, vs, by rw [List.getElem?_append_right (by rw [h.1]; exact Nat.le_refl _), h.1]; simp, List.mem_cons_self, hv⟩
  · obtain ⟨l', n', vs', h1, h2, h3⟩ := h.2 k (by lia)
    exact ⟨l', n', vs', by rw [List.getElem?_append_left (by rw [h.1]; lia)]; exact h1, List.mem_cons_of_mem _ h2, h3⟩
theorem hwk_of {l0 l1 l2 x i : Nat} (hi : i < 3) (hd : l0 ≠ l1 ∧ l0 ≠ l2 ∧ l1 ≠ l2) (hx : x = l0 ∨ x = l1 ∨ x = l2) (h32 : x ≠ 32) : ((32 :: [l0, l1, l2].eraseIdx i).contains x = true ↔ x ≠ [l0, l1, l2].getD i 0) := by
  obtain rfl | rfl | rfl : i = 0 ∨ i = 1 ∨ i = 2 := by lia
  · show ((32 :: [l1, l2]).contains x = true ↔ x ≠ l0)
    simp; lia
  · show ((32 :: [l0, l2]).contains x = true ↔ x ≠ l1)
    simp; lia
  · show ((32 :: [l0, l1]).contains x = true ↔ x ≠ l2)
    simp; lia
theorem lst_eq (ys : List Value) : lst ys = W.listOf ys.toArray ys.length := rfl
theorem leap_use {prog : Program} {w : World} {p : Program} {loose : List Str} {mean : ExcName → Option Value} {mg mb : Str → Option Value}
  (dp un : Nat) (gd : Option (List Code)) (cn : Str) (cs : Scope) (a : Addr) (ccd : Value) (cl : List (Str × Addr)) (outer : List Env) (A₀ : Around) (base h₀ : Heap) (L : Addr) (m : Str → Option Value) (news : List (Addr × Obj)) (s : Shared)
  (Q E : Value → Shared → Prop)
  (B : Below A₀ base outer h₀) (F : Fr h₀ L s.heap m) (X : (Mine.hd.heap_39 w.params).In h₀) (N : News h₀ L s.heap news) (T : Top p loose mean mg mb h₀) (hk : cs.kind = .function)
  (l : Addr) (n : Nat) (vs : List Value) (ns : List Int) (x b : Int) (t u : Tok)
  (hl : (l, W.listOf vs.toArray n) ∈ news) (hi : IntsAre vs ns) (hlen : vs.length < 1000)
  (hd : dp + 30 < recursionLimit) (hu : un + 150 < cLine)
  (hret : ∀ t h' tk', Fr h₀ L h' m → News h₀ L h' news → Q (.int (leapV ns x b) t) { s with heap := h', toks := tk' }) :
  wpAny (model prog w) (ktrTop dp un gd cn cs L a ccd cl outer) (call (.ref 114) [.ref l, .int x t, .int b u]) Q E s :=
  leap_tells dp un gd cn cs a ccd cl outer A₀ base h₀ L m ((l, W.listOf vs.toArray n) :: news) s Q E B F X (fun q hq => by rcases List.mem_cons.mp hq with rfl | hq; exact N _ hl; exact N _ hq) T hk news l n vs ns x b t u rfl hi hlen hd hu (fun t h' tk' F' N' => hret t h' tk' F' (m_tail N'))
end Mine
end
section
open PyProof.Rows.LCg
namespace Mine
theorem bisRgo_spec (ns : List Int) (hs : ∀ i j : Nat, i ≤ j → j < ns.length → ns.getD i 0 ≤ ns.getD j 0) (x : Int) : ∀ (f : Nat) (lo hi : Int), 0 ≤ lo → lo ≤ hi → hi ≤ ns.length → hi - lo ≤ f → (∀ i : Nat, (i : Int) < lo → ns.getD i 0 ≤ x) → (∀ i : Nat, hi ≤ i → i < ns.length → x < ns.getD i 0) →
    0 ≤ bisRgo ns x f lo hi ∧ bisRgo ns x f lo hi ≤ ns.length ∧ (∀ i : Nat, (i : Int) < bisRgo ns x f lo hi → ns.getD i 0 ≤ x) ∧ (∀ i : Nat, bisRgo ns x f lo hi ≤ i → i < ns.length → x < ns.getD i 0)
  | 0, lo, hi, h0, h1, h2, h3, h4, h5 => by
    rw [bisRgo]
    exact ⟨h0, by lia, h4, fun i a b => h5 i (by lia) b⟩
  | f + 1, lo, hi, h0, h1, h2, h3, h4, h5 => by
    have hm := mid_facts lo hi
    rw [bisRgo]
    split
    · rename_i hlt
      split
      · rename_i hx
        refine bisRgo_spec ns hs x f lo _ h0 (by lia) (by lia) (by lia) h4 fun i a b => ?_
        exact Int.lt_of_lt_of_le hx (hs _ _ (by lia) b)
      · rename_i hx
        refine bisRgo_spec ns hs x f _ hi (by lia) (by lia) h2 (by lia) (fun i a => ?_) h5
        exact Int.le_trans (hs i (Int.fdiv (lo + hi) 2).toNat (by lia) (by lia)) (by lia)
    · exact ⟨h0, by lia, h4, fun i a b => h5 i (by lia) b⟩
theorem bisLgo_spec (ns : List Int) (hs : ∀ i j : Nat, i ≤ j → j < ns.length → ns.getD i 0 ≤ ns.getD j 0) (x : Int) : ∀ (f : Nat) (lo hi : Int), 0 ≤ lo → lo ≤ hi → hi ≤ ns.length → hi - lo ≤ f → (∀ i : Nat, (i : Int) < lo → ns.getD i 0 < x) → (∀ i : Nat, hi ≤ i → i < ns.length → x ≤ ns.getD i 0) →
    0 ≤ bisLgo ns x f lo hi ∧ bisLgo ns x f lo hi ≤ ns.length ∧ (∀ i : Nat, (i : Int) < bisLgo ns x f lo hi → ns.getD i 0 < x) ∧ (∀ i : Nat, bisLgo ns x f lo hi ≤ i → i < ns.length → x ≤ ns.getD i 0)
  | 0, lo, hi, h0, h1, h2, h3, h4, h5 => by
    rw [bisLgo]
    exact ⟨h0, by lia, h4, fun i a b => h5 i (by lia) b⟩
  | f + 1, lo, hi, h0, h1, h2, h3, h4, h5 => by
    have hm := mid_facts lo hi
    rw [bisLgo]
    split
    · rename_i hlt
      split
      · rename_i hx
        refine bisLgo_spec ns hs x f _ hi (by lia) (by lia) h2 (by lia) (fun i a => ?_) h5
        exact Int.lt_of_le_of_lt (hs _ _ (by lia) (by lia)) hx
      · rename_i hx
        refine bisLgo_spec ns hs x f lo _ h0 (by lia) (by lia) (by lia) h4 fun i a b => ?_
        exact Int.le_trans (by lia) (hs (Int.fdiv (lo + hi) 2).toNat _ (by lia) b)
    · exact ⟨h0, by lia, h4, fun i a b => h5 i (by lia) b⟩
def Srt (ns : List Int) : Prop := ∀ i j : Nat, i ≤ j → j < ns.length → ns.getD i 0 ≤ ns.getD j 0
theorem bisR_spec {ns : List Int} (hs : Srt ns) (x : Int) : 0 ≤ bisR ns x ∧ bisR ns x ≤ ns.length ∧ (∀ i : Nat, (i : Int) < bisR ns x → ns.getD i 0 ≤ x) ∧ (∀ i : Nat, bisR ns x ≤ i → i < ns.length → x < ns.getD i 0) :=
  bisRgo_spec ns hs x ns.length 0 ns.length (by lia) (by lia) (by lia) (by lia) (fun i h => by lia) (fun i h h' => by lia)
theorem bisL_spec {ns : List Int} (hs : Srt ns) (x : Int) : 0 ≤ bisL ns x ∧ bisL ns x ≤ ns.length ∧ (∀ i : Nat, (i : Int) < bisL ns x → ns.getD i 0 < x) ∧ (∀ i : Nat, bisL ns x ≤ i → i < ns.length → x ≤ ns.getD i 0) :=
  bisLgo_spec ns hs x ns.length 0 ns.length (by lia) (by lia) (by lia) (by lia) (fun i h => by lia) (fun i h h' => by lia)
theorem pl_mem (c : Nat) : ∀ (ts : List Nat) (i : Nat) (v : Int), v ∈ plFrom i ts c ↔ ∃ j : Nat, ts[j]? = some c ∧ v = (i : Int) + j + 1
  | [], i, v => by simp [plFrom]
  | t :: r, i, v => by
    have ih := pl_mem c r (i + 1) v
    rw [plFrom]
    constructor
    · intro h
      split at h
      · rename_i ht
        rcases List.mem_cons.mp h with h | h
        · exact ⟨0, by simp [ht], by lia⟩
        · obtain ⟨j, h1, h2⟩ := ih.mp h
          exact ⟨j + 1, by simpa using h1, by lia⟩
      · obtain ⟨j, h1, h2⟩ := ih.mp h
        exact ⟨j + 1, by simpa using h1, by lia⟩
    · rintro ⟨j, h1, h2⟩
      cases j with
      | zero =>
        have ht : t = c := by simpa using h1
        rw [if_pos ht, h2]; simp
      | succ j =>
        have := ih.mpr ⟨j, by simpa using h1, by lia⟩
        split
        · exact List.mem_cons_of_mem _ this
        · exact this
theorem pl_srt (c : Nat) : ∀ (ts : List Nat) (i : Nat), (plFrom i ts c).Pairwise (· ≤ ·)
  | [], _ => List.Pairwise.nil
  | t :: r, i => by
    have ih := pl_srt c r (i + 1)
    rw [plFrom]
    split
    · refine List.Pairwise.cons (fun v hv => ?_) ih
      obtain ⟨j, _, h2⟩ := (pl_mem c r (i + 1) v).mp hv
      lia
    · exact ih
theorem srt_of {ns : List Int} (h : ns.Pairwise (· ≤ ·)) : Srt ns := by
  intro i j hij hj
  rw [List.getD_eq_getElem?_getD, List.getD_eq_getElem?_getD, List.getElem?_eq_getElem hj, List.getElem?_eq_getElem (Nat.lt_of_le_of_lt hij hj)]
  simp only [Option.getD_some]
  by_cases e : i = j
  · subst e; exact Int.le_refl _
  · exact List.pairwise_iff_getElem.mp h i j _ _ (by lia)
theorem leap_spec (ts : List Nat) (c p : Nat) : (leapV (plFrom 0 ts c) p ((ts.length : Int) + 1) = (ts.length : Int) + 1 ∧ ∀ j, p ≤ j → ts[j]? ≠ some c) ∨
    ∃ j : Nat, p ≤ j ∧ ts[j]? = some c ∧ leapV (plFrom 0 ts c) p ((ts.length : Int) + 1) = (j : Int) + 1 ∧ ∀ j', p ≤ j' → j' < j → ts[j']? ≠ some c := by
  have hs := srt_of (pl_srt c ts 0)
  obtain ⟨h0, h1, h2, h3⟩ := bisR_spec hs (p : Int)
  unfold leapV
  generalize hk : bisR (plFrom 0 ts c) p = k at *
  have low : ∀ j : Nat, ts[j]? = some c → (∃ i : Nat, i < (plFrom 0 ts c).length ∧ (plFrom 0 ts c).getD i 0 = (j : Int) + 1) := fun j hj => by
    have := (pl_mem c ts 0 ((j : Int) + 1)).mpr ⟨j, hj, by lia⟩
    obtain ⟨i, hi, e⟩ := List.getElem_of_mem this
    exact ⟨i, hi, by rw [List.getD_eq_getElem?_getD, List.getElem?_eq_getElem hi, e]; rfl⟩
  by_cases hlt : k < (plFrom 0 ts c).length
  · rw [if_pos hlt]
    have hkl : k.toNat < (plFrom 0 ts c).length := by lia
    have hm : (plFrom 0 ts c).getD k.toNat 0 ∈ plFrom 0 ts c := by
      rw [List.getD_eq_getElem?_getD, List.getElem?_eq_getElem hkl]; exact List.getElem_mem _
    obtain ⟨j, hj, e⟩ := (pl_mem c ts 0 _).mp hm
    have h4 := h3 k.toNat (by lia) hkl
    refine .inr ⟨j, by lia, hj, by lia, fun j' hp hj' he => ?_⟩
    obtain ⟨i, hi, e'⟩ := low j' he
    by_cases hik : (i : Int) < k
    · have := h2 i hik; lia
    · have := hs k.toNat i (by lia) hi; lia
  · rw [if_neg hlt]
    refine .inl ⟨rfl, fun j hp he => ?_⟩
    obtain ⟨i, hi, e'⟩ := low j he
    have := h2 i (by lia)
    lia
end Mine
end
section
open PyProof.Rows.LCg
namespace Mine
def Arch (ts ls : List Nat) : List Int → Prop
  | [] => False
  | [m] => m = ts.length
  | m1 :: m2 :: r => m1 < m2 ∧ 0 ≤ m1 ∧ (∀ c ∈ ls, ∃ j : Nat, m1 ≤ j ∧ (j : Int) < m2 ∧ ts[j]? = some c) ∧ (∃ c ∈ ls, ∀ j : Nat, m1 < j → (j : Int) < m2 → ts[j]? ≠ some c) ∧ Arch ts ls (m2 :: r)
theorem three {l0 l1 l2 : Nat} {seen : List Nat} (hd : l0 ≠ l1 ∧ l0 ≠ l2 ∧ l1 ≠ l2) (hl : seen.length ≤ 2) : ∃ c ∈ [l0, l1, l2], c ∉ seen := by
  match seen, hl with
  | [], _ => exact ⟨l0, by simp, by simp⟩
  | [a], _ => by_cases h : l0 = a
              · exact ⟨l1, by simp, by simp; lia⟩
              · exact ⟨l0, by simp, by simp; lia⟩
  | [a, b], _ =>
    by_cases h : l0 = a ∨ l0 = b
    · by_cases h1 : l1 = a ∨ l1 = b
      · exact ⟨l2, by simp, by simp; lia⟩
      · exact ⟨l1, by simp, by simp; lia⟩
    · exact ⟨l0, by simp, by simp; lia⟩
theorem three2 {l0 l1 l2 x : Nat} {seen : List Nat} (hd : l0 ≠ l1 ∧ l0 ≠ l2 ∧ l1 ≠ l2) (hl : seen.length = 2) (hn : seen.Nodup) (hs : ∀ c ∈ seen, c ∈ [l0, l1, l2]) (hx : x ∈ [l0, l1, l2]) (hxs : x ∉ seen) : ∀ c ∈ [l0, l1, l2], c = x ∨ c ∈ seen := by
  match seen, hl with
  | [a, b], _ =>
    intro c hc
    by_cases h1 : c = x
    · exact .inl h1
    by_cases h2 : c = a
    · exact .inr (by rw [h2]; exact List.mem_cons_self)
    by_cases h3 : c = b
    · exact .inr (by rw [h3]; exact List.mem_cons_of_mem _ List.mem_cons_self)
    exfalso
    have hab : a ≠ b := fun e => (List.nodup_cons.mp hn).1 (by rw [e]; exact List.mem_cons_self)
    have hxa : x ≠ a := fun e => hxs (by rw [e]; exact List.mem_cons_self)
    have hxb : x ≠ b := fun e => hxs (by rw [e]; exact List.mem_cons_of_mem _ List.mem_cons_self)
    have hsub : [c, x, a, b].Nodup := by simp [h1, h2, h3, hxa, hxb, hab]
    have hle : [c, x, a, b] ⊆ [l0, l1, l2] := by
      intro y hy
      simp only [List.mem_cons, List.not_mem_nil, or_false] at hy
      rcases hy with rfl | rfl | rfl | rfl
      · exact hc
      · exact hx
      · exact hs _ List.mem_cons_self
      · exact hs _ (List.mem_cons_of_mem _ List.mem_cons_self)
    have := hsub.length_le_of_subset hle
    simp at this
theorem mk_arch {l0 l1 l2 : Nat} (hd : l0 ≠ l1 ∧ l0 ≠ l2 ∧ l1 ≠ l2) (ts : List Nat) (hts : ∀ x ∈ ts, x ∈ [l0, l1, l2]) : ∀ (r seen : List Nat) (m : Nat) (ms : List Int), (∀ j, j < r.length → ts[j]? = r.reverse[j]?) → r.length ≤ m →
    (∀ c, c ∈ seen ↔ ∃ j, r.length ≤ j ∧ j < m ∧ ts[j]? = some c) → seen.Nodup → seen.length ≤ 2 → Arch ts [l0, l1, l2] ((m : Int) :: ms) →
    Arch ts [l0, l1, l2] (mkGo r seen ((m : Int) :: ms)) ∧ ∃ (m0 : Nat) (ms0 : List Int), mkGo r seen ((m : Int) :: ms) = (m0 : Int) :: ms0 ∧ ∃ c ∈ [l0, l1, l2], ∀ j : Nat, j < m0 → ts[j]? ≠ some c
  | [], seen, m, ms, hr, hm, hs, hn, hl, ha => by
    rw [mkGo]
    obtain ⟨c, hc, hc2⟩ := three hd hl
    exact ⟨ha, m, ms, rfl, c, hc, fun j hj he => hc2 ((hs c).mpr ⟨j, Nat.zero_le _, hj, he⟩)⟩
  | x :: r, seen, m, ms, hr, hm, hs, hn, hl, ha => by
    simp only [List.length_cons] at hm hr hs
    have hx : ts[r.length]? = some x := by rw [hr _ (Nat.lt_succ_self _)]; simp
    have hr' : ∀ j, j < r.length → ts[j]? = r.reverse[j]? := fun j hj => by
      rw [hr j (by lia), List.reverse_cons, List.getElem?_append_left (by simpa using hj)]
    have hxm := hts x (List.mem_of_getElem? hx)
    rw [mkGo]
    split
    · rename_i hc
      refine mk_arch hd ts hts r seen m ms hr' (by lia) (fun c => ?_) hn hl ha
      rw [hs c]
      constructor
      · rintro ⟨j, h1, h2, h3⟩; exact ⟨j, by lia, h2, h3⟩
      · rintro ⟨j, h1, h2, h3⟩
        by_cases hj : j = r.length
        · subst hj
          rw [hx] at h3
          cases h3
          exact (hs x).mp (by simpa using hc)
        · exact ⟨j, by lia, h2, h3⟩
    · rename_i hc
      have hxs : x ∉ seen := by simpa using hc
      split
      · rename_i h2
        have h3 := three2 hd h2 hn (fun c hc => by obtain ⟨j, _, _, e⟩ := (hs c).mp hc; exact hts c (List.mem_of_getElem? e)) hxm hxs
        refine mk_arch hd ts hts r [] r.length ((m : Int) :: ms) hr' (Nat.le_refl _) (fun c => ?_) List.nodup_nil (by simp) ⟨by lia, by lia, fun c hc => ?_, ⟨x, hxm, fun j h1 h2 h3 => hxs ((hs x).mpr ⟨j, by lia, by lia, h3⟩)⟩, ha⟩
        · simp; intro j a b; lia
        · rcases h3 c hc with rfl | h
          · exact ⟨r.length, by lia, by lia, hx⟩
          · obtain ⟨j, a, b, e⟩ := (hs c).mp h
            exact ⟨j, by lia, by lia, e⟩
      · rename_i h2
        refine mk_arch hd ts hts r (seen ++ [x]) m ms hr' (by lia) (fun c => ?_) ?_ (by simp; lia) ha
        · rw [List.mem_append, hs c, List.mem_singleton]
          constructor
          · rintro (⟨j, h1, h2, h3⟩ | rfl)
            · exact ⟨j, by lia, h2, h3⟩
            · exact ⟨r.length, by lia, by lia, hx⟩
          · rintro ⟨j, h1, h2, h3⟩
            by_cases hj : j = r.length
            · subst hj; rw [hx] at h3; cases h3; exact .inr rfl
            · exact .inl ⟨j, by lia, h2, h3⟩
        · rw [List.nodup_append]
          refine ⟨hn, by simp, fun a ha b hb => ?_⟩
          rw [List.mem_singleton.mp hb]; exact fun e => hxs (e ▸ ha)
theorem marks_arch {l0 l1 l2 : Nat} (hd : l0 ≠ l1 ∧ l0 ≠ l2 ∧ l1 ≠ l2) (ts : List Nat) (hts : ∀ x ∈ ts, x ∈ [l0, l1, l2]) :
    Arch ts [l0, l1, l2] (marksV ts) ∧ ∃ (m0 : Nat) (ms0 : List Int), marksV ts = (m0 : Int) :: ms0 ∧ ∃ c ∈ [l0, l1, l2], ∀ j : Nat, j < m0 → ts[j]? ≠ some c :=
  mk_arch hd ts hts ts.reverse [] ts.length [] (fun j hj => by rw [List.reverse_reverse]) (by simp) (fun c => by simp; intro j a b; lia) List.nodup_nil (by simp) rfl
end Mine
end
section
open PyProof.Rows.LCg
namespace Mine
def cnt (ms : List Int) (p : Int) : Nat := (ms.filter (fun v => decide (p ≤ v))).length
def Leap (ts : List Nat) (c p : Nat) (q : Int) : Prop := (q = (ts.length : Int) + 1 ∧ ∀ j, p ≤ j → ts[j]? ≠ some c) ∨ ∃ j : Nat, p ≤ j ∧ ts[j]? = some c ∧ q = (j : Int) + 1 ∧ ∀ j', p ≤ j' → j' < j → ts[j']? ≠ some c
theorem Leap.gt {ts : List Nat} {c p : Nat} {q : Int} (h : Leap ts c p q) (hp : p ≤ ts.length) : (p : Int) < q ∧ q ≤ (ts.length : Int) + 1 := by
  rcases h with ⟨rfl, _⟩ | ⟨j, h1, h2, rfl, _⟩
  · lia
  · have := (List.getElem?_eq_some_iff.mp h2).1; lia
theorem cnt_cons (m : Int) (ms : List Int) (p : Int) : cnt (m :: ms) p = (if p ≤ m then 1 else 0) + cnt ms p := by
  unfold cnt
  rw [List.filter_cons]
  by_cases h : p ≤ m <;> simp [h]; lia
theorem arch_low {ts ls : List Nat} : ∀ {ms : List Int} {m : Int}, Arch ts ls (m :: ms) → ∀ v ∈ m :: ms, m ≤ v ∧ v ≤ ts.length
  | [], m, h, v, hv => by
    have : m = ts.length := h
    simp at hv; lia
  | m2 :: ms, m, h, v, hv => by
    have ih := arch_low h.2.2.2.2
    have h1 := h.1
    rcases List.mem_cons.mp hv with rfl | hv
    · have := ih m2 List.mem_cons_self; lia
    · have := ih v hv; lia
theorem cnt_all {ms : List Int} {p : Int} (h : ∀ v ∈ ms, p ≤ v) : cnt ms p = ms.length := by
  unfold cnt; rw [List.filter_eq_self.mpr]; intro v hv; simpa using h v hv
theorem arch_step {ts ls : List Nat} : ∀ {ms : List Int} {m : Int}, Arch ts ls (m :: ms) → ∀ {c p : Nat} {q : Int}, c ∈ ls → p ≤ ts.length → Leap ts c p q → cnt (m :: ms) p ≤ cnt (m :: ms) q + 1 ∧ cnt (m :: ms) q ≤ cnt (m :: ms) p ∧ 1 ≤ cnt (m :: ms) p
  | [], m, h, c, p, q, hc, hp, hq => by
    have hm : m = ts.length := h
    have := hq.gt hp
    rw [cnt_cons, cnt_cons, if_pos (by lia)]
    simp only [cnt, List.filter_nil, List.length_nil]
    split <;> lia
  | m2 :: ms, m, h, c, p, q, hc, hp, hq => by
    obtain ⟨h1, h2, h3, h4, h5⟩ := h
    have ih := arch_step h5 hc hp hq
    have hg := hq.gt hp
    rw [cnt_cons m, cnt_cons m]
    by_cases hpm : (p : Int) ≤ m
    · rw [if_pos hpm]
      have hlow := arch_low h5
      obtain ⟨j, a1, a2, a3⟩ := h3 c hc
      have hq2 : q ≤ m2 := by
        rcases hq with ⟨_, hn⟩ | ⟨j', b1, b2, rfl, b4⟩
        · exact absurd a3 (hn j (by lia))
        · by_cases hjj : j < j'
          · exact absurd a3 (b4 j (by lia) hjj)
          · lia
      rw [cnt_all (fun v hv => by have := hlow v hv; lia), cnt_all (fun v hv => by have := hlow v hv; lia)]
      split <;> lia
    · rw [if_neg hpm, if_neg (by lia)]
      lia
theorem arch_fall {ts ls : List Nat} : ∀ {ms : List Int} {m : Int}, Arch ts ls (m :: ms) → ∀ {p : Nat}, p ≤ ts.length → ((p : Int) ≤ m → ∃ c ∈ ls, ∀ j : Nat, p ≤ j → (j : Int) < m → ts[j]? ≠ some c) → ∃ c ∈ ls, ∀ q, Leap ts c p q → cnt (m :: ms) q + 1 ≤ cnt (m :: ms) p
  | ms, m, h, p, hp, hf => by
    by_cases hpm : (p : Int) ≤ m
    · obtain ⟨c, hc, hn⟩ := hf hpm
      refine ⟨c, hc, fun q hq => ?_⟩
      have hlow := arch_low h
      have hqm : m < q := by
        rcases hq with ⟨rfl, _⟩ | ⟨j, b1, b2, rfl, _⟩
        · have := (hlow m List.mem_cons_self).2; lia
        · by_cases hj : (j : Int) < m
          · exact absurd b2 (hn j b1 hj)
          · lia
      rw [cnt_all (p := (p : Int)) (fun v hv => by have := hlow v hv; lia), cnt_cons, if_neg (by lia)]
      have : cnt ms q ≤ ms.length := List.length_filter_le _ _
      simp only [List.length_cons]; lia
    · cases ms with
      | nil => have : m = ts.length := h; lia
      | cons m2 ms =>
        obtain ⟨h1, h2, h3, ⟨c0, hc0, h4⟩, h5⟩ := h
        obtain ⟨c, hc, hn⟩ := arch_fall h5 hp (fun hp2 => ⟨c0, hc0, fun j hj hj2 => h4 j (by lia) hj2⟩)
        refine ⟨c, hc, fun q hq => ?_⟩
        have hg := hq.gt hp
        have := hn q hq
        rw [cnt_cons m, cnt_cons m, if_neg hpm, if_neg (by lia)]
        lia
theorem arch_srt {ts ls : List Nat} : ∀ {ms : List Int}, Arch ts ls ms → ms.Pairwise (· ≤ ·)
  | [], _ => List.Pairwise.nil
  | [m], _ => List.pairwise_singleton _ _
  | m :: m2 :: ms, h => List.Pairwise.cons (fun v hv => by have := arch_low h v (List.mem_cons_of_mem _ hv); lia) (arch_srt h.2.2.2.2)
theorem cnt_bis {ns : List Int} (hs : Srt ns) (p : Int) : (cnt ns p : Int) = ns.length - bisL ns p := by
  obtain ⟨h0, h1, h2, h3⟩ := bisL_spec hs p
  generalize bisL ns p = k at *
  obtain ⟨k, rfl⟩ := Int.eq_ofNat_of_zero_le h0
  have hk : k ≤ ns.length := by lia
  have e : cnt ns p = (ns.drop k).length := by
    unfold cnt
    conv => lhs; rw [← List.take_append_drop k ns]
    rw [List.filter_append]
    have a : (ns.take k).filter (fun v => decide (p ≤ v)) = [] := by
      rw [List.filter_eq_nil_iff]
      intro v hv
      obtain ⟨i, hi, rfl⟩ := List.getElem_of_mem hv
      rw [List.length_take] at hi
      have := h2 i (by lia)
      rw [List.getD_eq_getElem?_getD, List.getElem?_eq_getElem (by lia)] at this
      simp only [Option.getD_some] at this
      rw [List.getElem_take]; simpa using this
    have b : (ns.drop k).filter (fun v => decide (p ≤ v)) = ns.drop k := by
      rw [List.filter_eq_self]
      intro v hv
      obtain ⟨i, hi, rfl⟩ := List.getElem_of_mem hv
      rw [List.length_drop] at hi
      have := h3 (k + i) (by lia) (by lia)
      rw [List.getD_eq_getElem?_getD, List.getElem?_eq_getElem (by lia)] at this
      simp only [Option.getD_some] at this
      rw [List.getElem_drop]; simpa using this
    rw [a, b, List.nil_append]
  rw [e, List.length_drop]; lia
/-- the height of a place -/
def hV (ts : List Nat) (p : Int) : Int := (marksV ts).length - bisL (marksV ts) p
def lV (ts : List Nat) (c : Nat) (p : Int) : Int := leapV (plFrom 0 ts c) p ((ts.length : Int) + 1)
theorem lV_leap (ts : List Nat) (c p : Nat) : Leap ts c p (lV ts c p) := leap_spec ts c p
theorem law_step {l0 l1 l2 : Nat} (hd : l0 ≠ l1 ∧ l0 ≠ l2 ∧ l1 ≠ l2) {ts : List Nat} (hts : ∀ x ∈ ts, x ∈ [l0, l1, l2]) {c p : Nat} (hc : c ∈ [l0, l1, l2]) (hp : p ≤ ts.length) :
    hV ts p ≤ hV ts (lV ts c p) + 1 ∧ hV ts (lV ts c p) ≤ hV ts p ∧ 1 ≤ hV ts p := by
  obtain ⟨ha, m0, ms0, he, _⟩ := marks_arch hd ts hts
  have hs := srt_of (arch_srt ha)
  unfold hV
  rw [← cnt_bis hs, ← cnt_bis hs]
  rw [he] at ha ⊢
  have := arch_step ha hc hp (lV_leap ts c p)
  lia
theorem law_fall {l0 l1 l2 : Nat} (hd : l0 ≠ l1 ∧ l0 ≠ l2 ∧ l1 ≠ l2) {ts : List Nat} (hts : ∀ x ∈ ts, x ∈ [l0, l1, l2]) {p : Nat} (hp : p ≤ ts.length) :
    ∃ c ∈ [l0, l1, l2], hV ts (lV ts c p) = hV ts p - 1 := by
  obtain ⟨ha, m0, ms0, he, c0, hc0, hn0⟩ := marks_arch hd ts hts
  have hs := srt_of (arch_srt ha)
  have ha' := ha
  rw [he] at ha'
  obtain ⟨c, hc, hf⟩ := arch_fall ha' hp (fun _ => ⟨c0, hc0, fun j _ hj => hn0 j (by lia)⟩)
  refine ⟨c, hc, ?_⟩
  have h1 := law_step hd hts hc hp
  have h2 := hf _ (lV_leap ts c p)
  have e1 := cnt_bis hs (p : Int)
  have e2 := cnt_bis hs (lV ts c p)
  rw [← he] at h2
  unfold hV at h1 ⊢
  lia
end Mine
end
section
open PyProof.Rows.LCg
namespace Mine
theorem match_leap {ts : List Nat} {c p : Nat} {q : Int} (h : Leap ts c p q) (ys : List Nat) : matchV (c :: ys) (ts.drop p) = if q ≤ ts.length then matchV ys (ts.drop q.toNat) else false := by
  rw [matchV]
  rcases h with ⟨rfl, hn⟩ | ⟨j, h1, h2, rfl, h4⟩
  · rw [if_neg (by lia), dw_none (c := c) (l := ts.drop p) fun x hx e => by
      obtain ⟨i, hi⟩ := List.getElem?_of_mem hx
      rw [List.getElem?_drop] at hi
      exact hn (p + i) (by lia) (by rw [hi, e])]
  · have hj := (List.getElem?_eq_some_iff.mp h2).1
    rw [if_pos (by lia), dw_some (c := c) (l := ts.drop p) (j := j - p) (by rw [List.getElem?_drop, show p + (j - p) = j by lia]; exact h2) fun k hk => by
      rw [List.getElem?_drop]; exact h4 (p + k) (by lia) (by lia)]
    simp only [List.drop_drop]
    rw [show p + (j - p + 1) = ((j : Int) + 1).toNat by lia]
def stepW (ts ls : List Nat) (ws : List (List Nat × Int × Bool)) : List (List Nat × Int × Bool) :=
  ws.flatMap fun w => ls.map fun c => (w.1 ++ [c], lV ts c w.2.1, w.2.2 && decide (hV ts (lV ts c w.2.1) = hV ts w.2.1 - 1))
def walkV (ts ls : List Nat) (start : Nat) : Nat → List (List Nat × Int × Bool)
  | 0 => [([], (start : Int), true)]
  | k + 1 => stepW ts ls (walkV ts ls start k)
theorem hV_top {l0 l1 l2 : Nat} (hd : l0 ≠ l1 ∧ l0 ≠ l2 ∧ l1 ≠ l2) {ts : List Nat} (hts : ∀ x ∈ ts, x ∈ [l0, l1, l2]) : hV ts ((ts.length : Int) + 1) = 0 := by
  obtain ⟨ha, m0, ms0, he, _⟩ := marks_arch hd ts hts
  unfold hV
  rw [← cnt_bis (srt_of (arch_srt ha))]
  unfold cnt
  rw [List.filter_eq_nil_iff.mpr]
  · rfl
  · intro v hv
    rw [he] at ha hv
    have := (arch_low ha v hv).2
    simp; lia
theorem walk_inv {l0 l1 l2 : Nat} (hd : l0 ≠ l1 ∧ l0 ≠ l2 ∧ l1 ≠ l2) {ts : List Nat} (hts : ∀ x ∈ ts, x ∈ [l0, l1, l2]) {start : Nat} (hst : start ≤ ts.length) : ∀ k : Nat, (k : Int) ≤ hV ts start →
    (∀ w ∈ walkV ts [l0, l1, l2] start k, w.1.length = k ∧ (∀ x ∈ w.1, x ∈ [l0, l1, l2]) ∧ (∃ q : Nat, w.2.1 = q ∧ q ≤ ts.length + 1) ∧ hV ts start - k ≤ hV ts w.2.1 ∧ (w.2.2 = true ↔ hV ts w.2.1 = hV ts start - k) ∧
      (∀ ys, matchV (w.1 ++ ys) (ts.drop start) = if w.2.1 ≤ ts.length then matchV ys (ts.drop w.2.1.toNat) else false)) ∧
    (∃ w ∈ walkV ts [l0, l1, l2] start k, w.2.2 = true) := by
  intro k
  induction k with
  | zero =>
    intro _
    refine ⟨fun w hw => ?_, ⟨_, List.mem_cons_self, rfl⟩⟩
    rw [walkV, List.mem_singleton] at hw
    subst hw
    refine ⟨rfl, fun x hx => (nomatch hx), ⟨start, rfl, by lia⟩, by simp, by simp, fun ys => ?_⟩
    dsimp only
    rw [if_pos (by lia)]; simp
  | succ k ih =>
    intro hk
    obtain ⟨ih1, w0, hw0, hf0⟩ := ih (by lia)
    have low : ∀ w ∈ walkV ts [l0, l1, l2] start k, ∃ q : Nat, w.2.1 = q ∧ q ≤ ts.length := fun w hw => by
      obtain ⟨_, _, ⟨q, e, hq⟩, h4, _⟩ := ih1 w hw
      refine ⟨q, e, ?_⟩
      by_cases hqq : q = ts.length + 1
      · rw [e, hqq] at h4
        have := hV_top hd hts
        rw [show ((ts.length + 1 : Nat) : Int) = (ts.length : Int) + 1 by lia, this] at h4
        lia
      · lia
    refine ⟨fun w hw => ?_, ?_⟩
    · rw [walkV, stepW, List.mem_flatMap] at hw
      obtain ⟨v, hv, hw⟩ := hw
      obtain ⟨c, hc, rfl⟩ := List.mem_map.mp hw
      obtain ⟨h1, h2, _, h4, h5, h6⟩ := ih1 v hv
      obtain ⟨q, e, hq⟩ := low v hv
      have hs := law_step hd hts hc hq
      have hl := lV_leap ts c q
      have hg := hl.gt hq
      dsimp only
      rw [e] at h4 h5 h6 ⊢
      refine ⟨by simp [h1], fun x hx => ?_, ⟨(lV ts c q).toNat, by lia, by lia⟩, by lia, ?_, fun ys => ?_⟩
      · rcases List.mem_append.mp hx with hx | hx
        · exact h2 x hx
        · rw [List.mem_singleton.mp hx]; exact hc
      · rw [Bool.and_eq_true, decide_eq_true_eq, h5]; lia
      · rw [List.append_assoc, h6, if_pos (by lia), Int.toNat_natCast, List.singleton_append]
        exact match_leap hl ys
    · obtain ⟨q, e, hq⟩ := low w0 hw0
      obtain ⟨c, hc, hf⟩ := law_fall hd hts hq
      refine ⟨(w0.1 ++ [c], lV ts c w0.2.1, w0.2.2 && decide (hV ts (lV ts c w0.2.1) = hV ts w0.2.1 - 1)), ?_, ?_⟩
      · rw [walkV, stepW, List.mem_flatMap]
        exact ⟨w0, hw0, List.mem_map.mpr ⟨c, hc, rfl⟩⟩
      · dsimp only; rw [hf0, e, hf]; simp
theorem plain_law {l0 l1 l2 : Nat} (hd : l0 ≠ l1 ∧ l0 ≠ l2 ∧ l1 ≠ l2) {ts : List Nat} (hts : ∀ x ∈ ts, x ∈ [l0, l1, l2]) {start : Nat} (hst : start ≤ ts.length) :
    (∃ w ∈ walkV ts [l0, l1, l2] start (hV ts start).toNat, w.2.2 = true) ∧ ∀ w ∈ walkV ts [l0, l1, l2] start (hV ts start).toNat, matchV w.1 (ts.drop start) = !w.2.2 := by
  have h1 : 1 ≤ hV ts start := (law_step hd hts (c := l0) (by simp) hst).2.2
  obtain ⟨ha, hb⟩ := walk_inv hd hts hst (hV ts start).toNat (by lia)
  refine ⟨hb, fun w hw => ?_⟩
  obtain ⟨_, _, ⟨q, e, hq⟩, h4, h5, h6⟩ := ha w hw
  have h7 := h6 []
  rw [List.append_nil] at h7
  rw [h7, e]
  rw [e] at h5 h4
  by_cases hqn : q ≤ ts.length
  · rw [if_pos (by lia), matchV]
    have := (law_step hd hts (c := l0) (by simp) hqn).2.2
    have hf : w.2.2 = false := by
      cases hw2 : w.2.2 with
      | false => rfl
      | true => have := h5.mp hw2; lia
    rw [hf]; rfl
  · rw [if_neg (by lia)]
    have hq2 : (q : Int) = (ts.length : Int) + 1 := by lia
    have hf : w.2.2 = true := h5.mpr (by rw [hq2, hV_top hd hts]; lia)
    rw [hf]; rfl
theorem arch_len {l0 l1 l2 : Nat} (hd : l0 ≠ l1 ∧ l0 ≠ l2 ∧ l1 ≠ l2) {ts : List Nat} : ∀ {ms : List Int} {m : Int}, Arch ts [l0, l1, l2] (m :: ms) → 3 * (ms.length : Int) ≤ ts.length - m
  | [], m, h => by have : m = ts.length := h; simp; lia
  | m2 :: ms, m, h => by
    have ih := arch_len hd h.2.2.2.2
    obtain ⟨j0, a0, b0, c0⟩ := h.2.2.1 l0 (by simp)
    obtain ⟨j1, a1, b1, c1⟩ := h.2.2.1 l1 (by simp)
    obtain ⟨j2, a2, b2, c2⟩ := h.2.2.1 l2 (by simp)
    have n01 : j0 ≠ j1 := fun e => by rw [e, c1] at c0; cases c0; exact hd.1 rfl
    have n02 : j0 ≠ j2 := fun e => by rw [e, c2] at c0; cases c0; exact hd.2.1 rfl
    have n12 : j1 ≠ j2 := fun e => by rw [e, c2] at c1; cases c1; exact hd.2.2 rfl
    simp only [List.length_cons]
    lia
theorem hV_le {l0 l1 l2 : Nat} (hd : l0 ≠ l1 ∧ l0 ≠ l2 ∧ l1 ≠ l2) {ts : List Nat} (hts : ∀ x ∈ ts, x ∈ [l0, l1, l2]) (hn : ts.length ≤ 8) (p : Int) : 0 ≤ hV ts p ∧ hV ts p ≤ 3 := by
  obtain ⟨ha, m0, ms0, he, _⟩ := marks_arch hd ts hts
  have hs := srt_of (arch_srt ha)
  have hl : (marksV ts).length ≤ 3 := by
    rw [he] at ha ⊢
    have := arch_len hd ha
    simp only [List.length_cons]; lia
  obtain ⟨h0, h1, _⟩ := bisL_spec hs p
  unfold hV
  lia
end Mine
end
section
open PyProof.Rows.LCg
namespace Mine
abbrev preL (xs : List Nat) : List Nat := xs.flatMap (fun x => [46, 46, 46, x])
theorem preL_snoc (xs : List Nat) (c : Nat) : preL (xs ++ [c]) = preL xs ++ [46, 46, 46] ++ [c] := by simp [preL]
theorem preL_len : ∀ xs : List Nat, (preL xs).length = 4 * xs.length
  | [] => rfl
  | x :: r => by
    have ih := preL_len r
    show ([46, 46, 46, x] ++ preL r).length = _
    rw [List.length_append, ih]; simp only [List.length_cons, List.length_nil]; lia
theorem kst_of {m : Str → Option Value} {ps : List (Str × Value)} (h : ∀ p ∈ ps, m p.1 = some p.2) : kstB m ps = m := by
  funext z; exact kstB_eq h fun _ => rfl
abbrev stW (ts : List Nat) (w : List Nat × Int × Bool) (c : Nat) : List Nat × Int × Bool := (w.1 ++ [c], lV ts c w.2.1, w.2.2 && decide (hV ts (lV ts c w.2.1) = hV ts w.2.1 - 1))
def doneW (ts ls : List Nat) (ws : List (List Nat × Int × Bool)) (i j : Nat) : List (List Nat × Int × Bool) :=
  (ws.take i).flatMap (fun w => ls.map (stW ts w)) ++ (match ws[i]? with | some w => (ls.take j).map (stW ts w) | none => [])
theorem doneW_zero (ts ls : List Nat) (ws : List (List Nat × Int × Bool)) : doneW ts ls ws 0 0 = [] := by
  unfold doneW; cases ws <;> simp
theorem doneW_step {ts ls : List Nat} {ws : List (List Nat × Int × Bool)} {i j : Nat} {w : List Nat × Int × Bool} {c : Nat} (hw : ws[i]? = some w) (hc : ls[j]? = some c) : doneW ts ls ws i (j + 1) = doneW ts ls ws i j ++ [stW ts w c] := by
  unfold doneW
  rw [hw, List.take_add_one, hc]; simp
theorem doneW_next {ts ls : List Nat} {ws : List (List Nat × Int × Bool)} {i : Nat} {w : List Nat × Int × Bool} (hw : ws[i]? = some w) : doneW ts ls ws i ls.length = doneW ts ls ws (i + 1) 0 := by
  unfold doneW
  rw [hw, List.take_add_one, hw]
  cases ws[i + 1]? <;> simp
theorem doneW_end (ts ls : List Nat) (ws : List (List Nat × Int × Bool)) : doneW ts ls ws ws.length 0 = stepW ts ls ws := by
  unfold doneW stepW
  rw [List.getElem?_eq_none (Nat.le_refl _)]; simp
theorem doneW_len {ts ls : List Nat} {ws : List (List Nat × Int × Bool)} {i j : Nat} : (doneW ts ls ws i j).length ≤ (ws.length + 1) * ls.length := by
  have h : ∀ l : List (List Nat × Int × Bool), (l.flatMap (fun w => ls.map (stW ts w))).length = l.length * ls.length := by
    intro l; induction l with
    | nil => simp
    | cons a l ih => rw [List.flatMap_cons, List.length_append, ih, List.length_map, List.length_cons, Nat.succ_mul]; lia
  unfold doneW
  rw [List.length_append, h, Nat.succ_mul]
  have h1 : (ws.take i).length * ls.length ≤ ws.length * ls.length := Nat.mul_le_mul_right _ (by rw [List.length_take]; exact Nat.min_le_right _ _)
  have h2 : (match ws[i]? with | some w => (ls.take j).map (stW ts w) | none => []).length ≤ ls.length := by
    split
    · rw [List.length_map, List.length_take]; exact Nat.min_le_right _ _
    · exact Nat.zero_le _
  lia
theorem walkV_len (ts ls : List Nat) (start : Nat) : ∀ k, (walkV ts ls start k).length = ls.length ^ k
  | 0 => rfl
  | k + 1 => by
    have h : ∀ l : List (List Nat × Int × Bool), (stepW ts ls l).length = l.length * ls.length := by
      intro l; induction l with
      | nil => simp [stepW]
      | cons a l ih =>
        have : stepW ts ls (a :: l) = ls.map (stW ts a) ++ stepW ts ls l := by simp [stepW]
        rw [this, List.length_append, ih, List.length_map, List.length_cons, Nat.succ_mul]; lia
    rw [walkV, h, walkV_len ts ls start k, Nat.pow_succ]
theorem hV_nat {ts : List Nat} {i : Int} (h : 0 ≤ hV ts i ∧ hV ts i ≤ 3) : (hV ts i).toNat ≤ 3 ∧ (hV ts i) = ((hV ts i).toNat : Int) := by lia
theorem wk27 (ts : List Nat) (l0 l1 l2 i : Nat) {j : Nat} (hj : j ≤ 3) : (walkV ts [l0, l1, l2] i j).length ≤ 27 := by
  rw [walkV_len]
  show 3 ^ j ≤ 27
  match j, hj with
  | 0, _ => decide
  | 1, _ => decide
  | 2, _ => decide
  | 3, _ => decide
theorem dw_small (ts : List Nat) (l0 l1 l2 i : Nat) {j a b : Nat} (hj : j ≤ 3) : (doneW ts [l0, l1, l2] (walkV ts [l0, l1, l2] i j) a b).length ≤ 16777216 := by
  have h1 := doneW_len (ts := ts) (ls := [l0, l1, l2]) (ws := walkV ts [l0, l1, l2] i j) (i := a) (j := b)
  have h2 := wk27 ts l0 l1 l2 i hj
  have h3 : [l0, l1, l2].length = 3 := rfl
  rw [h3] at h1; lia
theorem stepf {l0 l1 l2 : Nat} (hd : l0 ≠ l1 ∧ l0 ≠ l2 ∧ l1 ≠ l2) {ts : List Nat} (hts : ∀ x ∈ ts, x ∈ [l0, l1, l2]) (hn : ts.length ≤ 8) {i j : Nat} (hi : i < ts.length + 1) (hj : j < (hV ts (i : Int)).toNat) {w : List Nat × Int × Bool} (hw : w ∈ walkV ts [l0, l1, l2] i j) :
    (preL w.1).length < 1000 ∧ ∃ q : Nat, w.2.1 = q ∧ q < ts.length + 2 ∧ ∀ c, ∃ e : Nat, lV ts c (q : Int) = e ∧ e < ts.length + 2 := by
  have hb := hV_le hd hts hn (i : Int)
  obtain ⟨h1, _, ⟨q, hq, hq2⟩, h4, _, _⟩ := (walk_inv hd hts (start := i) (by lia) j (by lia)).1 _ hw
  refine ⟨by rw [preL_len]; lia, q, hq, by lia, fun c => ?_⟩
  have hql : q ≤ ts.length := by
    by_cases hqq : q = ts.length + 1
    · exfalso
      rw [hq, hqq] at h4
      have := hV_top hd hts
      rw [show ((ts.length + 1 : Nat) : Int) = (ts.length : Int) + 1 by lia, this] at h4
      lia
    · lia
  obtain ⟨g1, g2⟩ := (lV_leap ts c q).gt hql
  exact ⟨(lV ts c (q : Int)).toNat, by lia, by lia⟩
theorem endf {l0 l1 l2 : Nat} (hd : l0 ≠ l1 ∧ l0 ≠ l2 ∧ l1 ≠ l2) {ts : List Nat} (hts : ∀ x ∈ ts, x ∈ [l0, l1, l2]) (hn : ts.length ≤ 8) {i : Nat} (hi : i < ts.length + 1) {w : List Nat × Int × Bool} (hw : w ∈ walkV ts [l0, l1, l2] i (hV ts (i : Int)).toNat) :
    (preL w.1).length < 1000 ∧ 1 ≤ w.1.length ∧ w.1.length ≤ 3 ∧ ∀ x ∈ w.1, x ∈ [l0, l1, l2] := by
  have hb := hV_le hd hts hn (i : Int)
  have h1 : 1 ≤ hV ts (i : Int) := (law_step hd hts (c := l0) (by simp) (show i ≤ ts.length by lia)).2.2
  obtain ⟨hw1, hw2, _⟩ := (walk_inv hd hts (start := i) (by lia) (hV ts (i : Int)).toNat (by lia)).1 w hw
  exact ⟨by rw [preL_len]; lia, by lia, by lia, hw2⟩
theorem drop_le {ts : List Nat} (hn : ts.length ≤ 8) (i : Nat) : (ts.drop i).length ≤ 20 := by rw [List.length_drop]; lia
theorem lt_big {k n : Nat} (h : k < n + 2) (hn : n ≤ 8) : ((k : Nat) : Int) < 100000 := by lia
theorem nn (k : Nat) : (0 : Int) ≤ ((k : Nat) : Int) := Int.natCast_nonneg k
/-- the tuples that a list names -/
def WkAre (WL : List (Addr × Obj)) (ws : List (List Nat × Int × Bool)) (ys : List Value) : Prop :=
  ys.length = ws.length ∧ ∀ (k : Nat) (w : List Nat × Int × Bool), ws[k]? = some w → ∃ (T : Addr) (t u : Tok), ys[k]? = some (.ref T) ∧ (T, tupO [.str ⟨(preL w.1).toArray⟩ t, .int w.2.1 u, .bool w.2.2]) ∈ WL
theorem wk_one {T : Addr} {i : Int} {t u : Tok} : WkAre [(T, tupO [.str (Str.ofString "") t, .int i u, .bool true])] [([], i, true)] [.ref T] := by
  refine ⟨rfl, fun k w hw => ?_⟩
  cases k with
  | succ k => simp at hw
  | zero =>
    simp at hw
    subst hw
    refine ⟨T, t, u, rfl, ?_⟩
    rw [no_eq]
    exact List.mem_cons_self
theorem WkAre.nil {WL : List (Addr × Obj)} : WkAre WL [] [] := ⟨rfl, fun k w h => by simp at h⟩
theorem WkAre.mono {WL WL' : List (Addr × Obj)} {ws : List (List Nat × Int × Bool)} {ys : List Value} (h : WkAre WL ws ys) (hs : ∀ p ∈ WL, p ∈ WL') : WkAre WL' ws ys :=
  ⟨h.1, fun k w hw => by obtain ⟨T, t, u, a, b⟩ := h.2 k w hw; exact ⟨T, t, u, a, hs _ b⟩⟩
theorem WkAre.snoc {WL : List (Addr × Obj)} {ws : List (List Nat × Int × Bool)} {ys : List Value} (h : WkAre WL ws ys) {T : Addr} {w : List Nat × Int × Bool} {t u : Tok} :
    WkAre ((T, tupO [.str ⟨(preL w.1).toArray⟩ t, .int w.2.1 u, .bool w.2.2]) :: WL) (ws ++ [w]) (ys ++ [.ref T]) := by
  refine ⟨by rw [List.length_append, List.length_append, h.1]; rfl, fun k v hv => ?_⟩
  by_cases hk : k < ws.length
  · rw [List.getElem?_append_left hk] at hv
    obtain ⟨T', t', u', a, b⟩ := h.2 k v hv
    exact ⟨T', t', u', by rw [List.getElem?_append_left (by rw [h.1]; exact hk)]; exact a, List.mem_cons_of_mem _ b⟩
  · have hk2 := (List.getElem?_eq_some_iff.mp hv).1
    rw [List.length_append, List.length_singleton] at hk2
    obtain rfl : k = ws.length := by lia
    rw [List.getElem?_append_right (Nat.le_refl _)] at hv
    simp at hv
    subst hv
    exact ⟨T, t, u, by rw [List.getElem?_append_right (by rw [h.1]; exact Nat.le_refl _), h.1]; simp, List.mem_cons_self⟩
theorem news_pre6 {h₀ h : Heap} {L : Addr} {e1 e2 e3 e4 e5 e6 : Addr × Obj} {l : List (Addr × Obj)} (N : News h₀ L h l) (h1 : e1 ∈ l) (h2 : e2 ∈ l) (h3 : e3 ∈ l) (h4 : e4 ∈ l) (h5 : e5 ∈ l) (h6 : e6 ∈ l) : News h₀ L h (e1 :: e2 :: e3 :: e4 :: e5 :: e6 :: l) := fun q hq => N q (by
  simp only [List.mem_cons] at hq
  rcases hq with h | h | h | h | h | h | h
  · rw [h]; exact h1
  · rw [h]; exact h2
  · rw [h]; exact h3
  · rw [h]; exact h4
  · rw [h]; exact h5
  · rw [h]; exact h6
  · exact h)
theorem news_post6 {h₀ h : Heap} {L : Addr} {e0 e1 e2 e3 e4 e5 e6 a b c d : Addr × Obj} {l : List (Addr × Obj)} (N : News h₀ L h (e0 :: e1 :: e2 :: e3 :: e4 :: e5 :: e6 :: a :: b :: c :: d :: l)) : News h₀ L h (a :: b :: c :: d :: e0 :: l) := fun q hq => N q (by
  simp only [List.mem_cons] at hq ⊢
  rcases hq with h | h | h | h | h | h <;> simp only [eq_true h, true_or, or_true])
theorem ap_post6 {T : Addr} {o : Obj} {e1 e2 e3 e4 e5 e6 a b c d : Addr × Obj} {l : List (Addr × Obj)} (lz : ∀ p ∈ (e1 :: e2 :: e3 :: e4 :: e5 :: e6 :: a :: b :: c :: d :: l), p.1 < T) (h : ∀ p ∈ l, p.1 ≠ a.1 ∧ p.1 ≠ b.1 ∧ p.1 ≠ c.1 ∧ p.1 ≠ d.1) : ∀ p ∈ (T, o) :: l, p.1 ≠ a.1 ∧ p.1 ≠ b.1 ∧ p.1 ≠ c.1 ∧ p.1 ≠ d.1 := by
  intro p hp
  rcases List.mem_cons.mp hp with rfl | hp
  · exact ⟨Nat.ne_of_gt (lz a (by simp)), Nat.ne_of_gt (lz b (by simp)), Nat.ne_of_gt (lz c (by simp)), Nat.ne_of_gt (lz d (by simp))⟩
  · exact h p hp
theorem RowsAre.get {LL : List (Addr × Obj)} {F : Nat → List Int} {n : Nat} {ys : List Value} (h : RowsAre LL F n ys) {i : Nat} (hi : i < n) : ∃ l k vs, ys[i]? = some (Value.ref l) ∧ (l, W.listOf vs.toArray k) ∈ LL ∧ IntsAre vs (F i) := h.2 i hi
theorem ints_get {vs : List Value} {ns : List Int} (h : IntsAre vs ns) : ∀ {k : Nat} {z : Int}, ns[k]? = some z → ∃ t, vs[k]? = some (.int z t) := by
  induction h with
  | nil => intro k z hz; simp at hz
  | cons a t h ih =>
    intro k z hz
    cases k with
    | zero => simp at hz; subst hz; exact ⟨t, rfl⟩
    | succ k => simpa using ih (by simpa using hz)
end Mine
end
section
open PyProof.Rows.LCg
namespace Mine
def letC (z : Int) : Nat := ring.getD (z.fmod 6).toNat 0
theorem fm_lt (z : Int) {k : Int} (hk : 0 < k) : 0 ≤ z.fmod k ∧ z.fmod k < k := by
  rw [Int.fmod_eq_emod_of_nonneg _ (by lia)]
  exact ⟨Int.emod_nonneg _ (by lia), Int.emod_lt_of_pos _ hk⟩
theorem ring_at (z : Int) : (Str.ofString "a\n#\tb\x0d").cps.toList[(z.fmod 6).toNat]? = some (letC z) := by
  have e : (Str.ofString "a\n#\tb\x0d").cps.toList = ring := by decide +kernel
  have h1 := fm_lt z (k := 6) (by decide)
  have h : (z.fmod 6).toNat < 6 := by lia
  rw [e, letC, List.getD_eq_getElem?_getD, List.getElem?_eq_getElem (by exact h)]; rfl
theorem letC_three (S : Int) : ∃ i : Nat, i < 6 ∧ letC (S + ((0 : Nat) : Int)) = ring.getD i 0 ∧ letC (S + ((1 : Nat) : Int)) = ring.getD ((i + 1) % 6) 0 ∧ letC (S + ((2 : Nat) : Int)) = ring.getD ((i + 2) % 6) 0 := by
  have h1 := fm_lt S (k := 6) (by decide)
  refine ⟨(S.fmod 6).toNat, by lia, ?_, ?_, ?_⟩
  all_goals
    unfold letC
    congr 1
    rw [Int.fmod_eq_emod_of_nonneg _ (by decide), Int.fmod_eq_emod_of_nonneg _ (by decide)] 
    lia
theorem letC_ok (S : Int) {c0 c1 c2 : Nat} (h0 : letC (S + ((0 : Nat) : Int)) = c0) (h1 : letC (S + ((1 : Nat) : Int)) = c1) (h2 : letC (S + ((2 : Nat) : Int)) = c2) :
    (c0 ≠ c1 ∧ c0 ≠ c2 ∧ c1 ≠ c2) ∧ (∀ x ∈ [c0, c1, c2], x ∈ ring) := by
  obtain ⟨i, hi, e0, e1, e2⟩ := letC_three S
  rw [h0] at e0; rw [h1] at e1; rw [h2] at e2
  obtain rfl | rfl | rfl | rfl | rfl | rfl : i = 0 ∨ i = 1 ∨ i = 2 ∨ i = 3 ∨ i = 4 ∨ i = 5 := by lia
  all_goals
    have e0' : c0 = _ := e0
    have e1' : c1 = _ := e1
    have e2' : c2 = _ := e2
    rw [e0', e1', e2']
    decide
theorem ring_ok {x : Nat} (h : x ∈ ring) : x ≠ 34 ∧ x ≠ 92 ∧ x ≠ 32 := by
  have : ∀ y ∈ ring, y ≠ 34 ∧ y ≠ 92 ∧ y ≠ 32 := by decide
  exact this x h
theorem pick_mem (c0 c1 c2 : Nat) (z : Int) : [c0, c1, c2].getD (z.fmod 3).toNat 0 = c0 ∨ [c0, c1, c2].getD (z.fmod 3).toNat 0 = c1 ∨ [c0, c1, c2].getD (z.fmod 3).toNat 0 = c2 := by
  have h := fm_lt z (k := 3) (by decide)
  have : (z.fmod 3).toNat < 3 := by lia
  obtain e | e | e : (z.fmod 3).toNat = 0 ∨ (z.fmod 3).toNat = 1 ∨ (z.fmod 3).toNat = 2 := by lia
  all_goals rw [e]
  · exact .inl rfl
  · exact .inr (.inl rfl)
  · exact .inr (.inr rfl)
end Mine
end
section
open PyProof.Rows.LCg
namespace Mine
theorem plFrom_len : ∀ (i : Nat) (ts : List Nat) (c : Nat), (plFrom i ts c).length ≤ ts.length
  | _, [], _ => Nat.le_refl _
  | i, t :: r, c => by
    have := plFrom_len (i + 1) r c
    rw [plFrom]; split <;> simp only [List.length_cons] <;> lia
theorem mkGo_len : ∀ (r seen : List Nat) (ms : List Int), (mkGo r seen ms).length ≤ ms.length + r.length
  | [], _, _ => Nat.le_refl _
  | c :: r, seen, ms => by
    rw [mkGo]
    split
    · have := mkGo_len r seen ms; simp only [List.length_cons]; lia
    · split
      · have := mkGo_len r [] ((r.length : Int) :: ms); simp only [List.length_cons] at this ⊢; lia
      · have := mkGo_len r (seen ++ [c]) ms; simp only [List.length_cons]; lia
theorem marks_len (ts : List Nat) : (marksV ts).length ≤ 1 + ts.length := by
  have := mkGo_len ts.reverse [] [(ts.length : Int)]
  simpa [marksV] using this
theorem m_newList {M : Model} {A : Around} {E : Value → Shared → Prop} {s : Shared} {h₀ : Heap} {L : Addr} {m : Str → Option Value} {news : List (Addr × Obj)} {vs : List Value} {Q : Value → Shared → Prop} (F : Fr h₀ L s.heap m) (N : News h₀ L s.heap news)
    (h : ∀ D h', (∀ p ∈ news, p.1 < D) → Fr h₀ L h' m → News h₀ L h' ((D, W.listOf vs.toArray 0) :: news) → Q (.ref D) { s with heap := h' }) (hz : vs.length < 1000) : wpAny M A (newList vs) Q E s :=
  newList_N F N (fun h' F' N' => h _ h' (fun p hp => Heap.lt_size (N p hp).1) F' N') (by rw [sizeLine_eq]; lia)
theorem news_drop {h₀ h : Heap} {L : Addr} {e0 e1 e2 e3 : Addr × Obj} {l l1 l2 : List (Addr × Obj)} (N : News h₀ L h (e0 :: (l ++ (e1 :: e2 :: (l1 ++ (e3 :: l2)))))) : News h₀ L h (e1 :: e0 :: (l ++ (e3 :: l2))) := fun q hq => N q (by
  simp only [List.mem_cons, List.mem_append] at hq ⊢
  rcases hq with h | h | h | h | h <;> simp only [eq_true h, true_or, or_true])
theorem tup_pack {h₀ h : Heap} {L : Addr} {e1 e2 e3 e4 e5 : Addr × Obj} {l : List (Addr × Obj)} (N : News h₀ L h (e1 :: e2 :: e3 :: e4 :: e5 :: l)) : News h₀ L h (e1 :: ([e2] ++ (e5 :: l))) := fun q hq => N q (by
  simp only [List.mem_cons, List.mem_append, List.not_mem_nil, or_false] at hq ⊢
  rcases hq with h | h | h | h <;> simp only [eq_true h, true_or, or_true])
set_option maxHeartbeats 4000000 in
theorem ag_tells {prog : Program} {w : World} {p : Program} {loose : List Str} {mean : ExcName → Option Value} {mg mb : Str → Option Value}
  (dp un : Nat) (gd : Option (List Code)) (cn : Str) (cs : Scope) (a : Addr) (ccd : Value) (cl : List (Str × Addr)) (outer : List Env) (A₀ : Around) (base h₀ : Heap) (L : Addr) (m : Str → Option Value) (news : List (Addr × Obj)) (s : Shared)
  (Q E : Value → Shared → Prop)
  (B : Below A₀ base outer h₀) (F : Fr h₀ L s.heap m) (X : (Mine.hd.heap_39 w.params).In h₀) (N : News h₀ L s.heap news) (T : Top p loose mean mg mb h₀) (hk : cs.kind = .function) (CH : CodeHd base 92 90)
  (ts : List Nat) (l0 l1 l2 : Nat) (t u : Tok) (tb rest : List (Addr × Obj)) (hT : TabOK tb) (hn : news = tb ++ rest) (hr : ∀ q ∈ tb, ∀ p ∈ rest, q.1 ≠ p.1)
  (hts : ts.length ≤ 8) (hd : dp + 200 < recursionLimit) (hu : un + 800 < cLine)
  (hok : ∀ x ∈ ts, x ≠ 34 ∧ x ≠ 92 ∧ x ≠ 32) (hlet : ∀ x ∈ ts, x = l0 ∨ x = l1 ∨ x = l2) (hdl : l0 ≠ l1 ∧ l0 ≠ l2 ∧ l1 ≠ l2) (hring : ∀ x ∈ [l0, l1, l2], x ∈ ring)
  (hret : ∀ tb' h' tk', TabOK tb' → Fr h₀ L h' m → News h₀ L h' (tb' ++ rest) → Q (.bool true) { s with heap := h', toks := tk' }) :
  wpAny (model prog w) (ktrTop dp un gd cn cs L a ccd cl outer) (call (.ref 119) [.str ⟨ts.toArray⟩ t, .str ⟨#[l0,l1,l2]⟩ u]) Q E s := by
  w_top off
  obtain ⟨hp, gn, dr, tk0, os⟩ := s
  dsimp only at *
  subst hn
  refine wpAny_call ?_
  k_dflt ((refine' code_defC (binds := [(Str.ofString "text", .str ⟨ts.toArray⟩ t), (Str.ofString "letters", .str ⟨#[l0,l1,l2]⟩ u)]) ?k1 ?k2 ?k3 ?k4 ?k5 ?kA ?kF ?kK ?k6 ?k7 ?k8 ?k9 ?kB ?kD ?_ ?c2 ?c3 ?c4; (case kA => exact rfl); (case kF => exact rfl); (case kK => first | exact rfl | assumption); (case k1 => k_asm); (case k2 => k_asm); (case k3 => k_asm); (case k4 => k_asm); (case k5 => k_asm); (case k6 => k_is); (case k7 => k_is); (case k8 => k_room); (case k9 => first | exact BindsTo.of_eq rfl | exact binds_K (by k_in) rfl (by k_is) rfl rfl rfl); (case kB => exact rfl); (case kD => decide +kernel); (case c2 => exact rfl); (case c3 => exact rfl); (case c4 => exact rfl); k_whole; intro g' L' h' tk' cells' FG' F' N' Y' B' X' T' l1; obtain ⟨o0', d0', o1', d1', o2', d2', o3', d3', o4', d4', o5', d5', o6', d6', hE'⟩ := cells7 Y'; subst hE'; clear Y'; (try simp only [List.cons_append, List.nil_append] at N'); (try dsimp only); (try k_fold)))
  clear F N
  replace F' : Fr g' L' h' (kstB (fun _ => none) []) := F'
  have hL : AllLt L' (tb ++ rest) := allLt_of l1
  clear l1
  replace d6' : o6'.data = .cell (some (.str ⟨ts.toArray⟩ t)) := d6'
  replace d5' : o5'.data = .cell (some (.str ⟨#[l0,l1,l2]⟩ u)) := d5'
  replace d4' : o4'.data = .cell none := d4'
  replace d3' : o3'.data = .cell none := d3'
  replace d2' : o2'.data = .cell none := d2'
  replace d1' : o1'.data = .cell none := d1'
  replace d0' : o0'.data = .cell none := d0'
  have h90 : ∃ o, (90, o) ∈ tb := by
    rcases hT with rfl | ⟨c1, c2, oc, vs, tq, rfl, _, _⟩
    · exact ⟨_, List.mem_cons_self⟩
    · exact ⟨_, List.mem_cons_self⟩
  obtain ⟨o90, h90⟩ := h90
  have h90L : @LT.lt Nat _ 90 L' := allLt_mem hL _ (List.mem_append_left _ h90)
  (repeat' (first | (k_unfold; (try dsimp only)) | ((with_reducible show wpAny _ _ (exec (Stmt.While _ _ _ _) _) _ _ _); refine Mine.Hold.out ?_) | ((with_reducible show wpAny _ _ (eval (Expr.ListComp _ _ _ _) _) _ _ _); refine Mine.Hold.out ?_) | ((with_reducible show wpAny _ _ (storeName _ _ _) _ _ _); refine' storeX_L ?zzF ?zzN ?_ ?zza ?zzb; (case zzF => k_asm); (case zzN => k_asm); (case zza => rfl); (case zzb => rfl); k_whole; intro _ zF zN; (try dsimp only at zF); (try k_sweep); (revert zF zN; intro _ _)) | ((with_reducible show wpAny _ _ (call (Value.builtin "len") [Value.str (Str.mk (List.toArray _)) _]) _ _ _); refine' Mine.s_len ?zzk3 ?_; (case zzk3 => first | lia | (simp only [List.length_append, List.length_cons, List.length_nil]; lia)); intro _ _) | ((with_reducible show wpAny _ _ (call (Value.builtin "len") [Value.ref _]) _ _ _); refine' Mine.m_len ?zzk1 ?zzk2 ?zzk3 ?_; (case zzk1 => k_asm); (case zzk2 => k_mem); (case zzk3 => first | lia | (simp only [List.length_cons, List.length_nil, List.length_map, PySem.strValues]; omega))) | ((with_reducible show wpAny _ _ (subscriptTail (Expr.Name _ _) (Expr.Name _ _) (Value.ref _) (Value.int _ _)) _ _ _); (refine' Mine.m_item ?zzk1 ?zzk2 ?zzk3 ?zzk4 ?zzk5 ?_ ?zzk6; (case zzk1 => k_asm); (case zzk2 => k_mem); (case zzk3 => first | (with_reducible assumption) | lia); (case zzk4 => first | (with_reducible assumption) | lia); (case zzk5 => assumption); (case zzk6 => with_unfolding_all rfl))) | ((with_reducible show wpAny _ _ (subscriptTail (Expr.Name _ _) (Expr.Name _ _) (Value.str _ _) (Value.int _ _)) _ _ _); refine' Mine.s_item ?zzh0 ?zzh1 ?zzh2 ?_; (case zzh0 => lia); (case zzh1 => lia); (case zzh2 => assumption); intro _ _) | ((with_reducible show wpAny _ _ (binaryOp Operator.Add (Value.str _ _) (Value.str _ _)) _ _ _); refine' Mine.s_add ?zzk1 ?zzk2 ?zzk3 ?zzk4 ?_; (case zzk1 => first | exact Mine.sp_eq | exact Mine.no_eq | exact Mine.dots_eq | with_reducible exact rfl); (case zzk2 => first | exact Mine.sp_eq | exact Mine.no_eq | exact Mine.dots_eq | with_reducible exact rfl); (case zzk3 => first | assumption | lia | (simp only [List.length_append, List.length_cons, List.length_nil]; lia)); (case zzk4 => first | assumption | lia | (simp only [List.length_append, List.length_cons, List.length_nil]; lia)); intro _ _) | ((with_reducible show wpAny _ _ (eval (Expr.Name _ _) _) _ _ _); k_inBlock; (first | (refine' Mine.nameC_F ?zzN ?zzc ?zzm ?zzd ?_ ?zza ?zzb ?zze ?zzf; (case zza => rfl); (case zzb => rfl); (case zze => decide); (case zzf => decide); (case zzN => k_asm); (case zzc => rfl); (case zzm => k_mem); (case zzd => k_asm); k_whole) | (refine' Mine.nameC_B ?zzF ?zzX ?zzT ?zze ?zzv ?zzn ?_ ?zzg ?zzbn ?zzk ?zzx ?zzd; (case zzg => rfl); (case zzbn => rfl); (case zzk => rfl); (case zzx => rfl); (case zzd => decide); (case zzF => k_asm); (case zzX => k_asm); (case zzT => k_asm); (case zze => k_is); (case zzv => boot_fast); (case zzn => decide); k_whole))) | (first | (with_reducible show wpAny _ _ (call (Value.ref 107) _) _ _ _) | (with_reducible show wpAny _ _ (call (Value.ref 100) _) _ _ _) | (with_reducible show wpAny _ _ (call (Value.ref 114) _) _ _ _) | (with_reducible show wpAny _ _ (call (Value.ref 88) _) _ _ _)); (refine Hold.out ?_) | ((with_reducible show wpAny _ _ (call (Value.ref 81) _) _ _ _); refine' Mine.bisL_tells _ _ _ _ _ _ _ _ _ _ _ _ _ _ _ _ _ _ ?zzB ?zzF ?zzX ?zzN ?zzT ?zzhk _ _ _ _ _ _ ?zzhl ?zzhi ?zzhlen ?zzhd ?zzhu ?_; (case zzB => k_asm); (case zzF => k_asm); (case zzX => k_asm); (case zzN => k_asm); (case zzT => k_asm); (case zzhk => first | rfl | assumption); (case zzhl => k_mem); (case zzhi => assumption); (case zzhlen => lia); (case zzhd => k_room); (case zzhu => k_room); intro _ _ _ _ zN; (try dsimp only at zN); (try k_sweep); (revert zN; intro _)) | ((with_reducible show wpAny _ _ (exec (Stmt.For (Expr.Name _ _) (Expr.Call _ _ _ _) _ _ _) _) _ _ _); refine Hold.out ?_) | ((with_reducible show Mine.FlPost _ _ _ _ _ _ _ _ _ _); dsimp only [Mine.FlPost]) | (k_end; kc_close) | (walk1; (try dsimp only)) | (dsimp only; walk1) | (leave1; (try dsimp only)) | fail "no step"))
  rename Fr _ _ _ _ => F1
  rename News _ _ _ _ => N1
  rename_i oB hB
  replace hB : ∃ tB, oB.data = .cell (some (.int ((ts.length : Int) + 1) tB)) := ⟨_, hB⟩
  obtain ⟨tB, hB⟩ := hB
  replace N1 : News _ _ _ (tb ++ ((L' + 7, o0') :: (L' + 6, o1') :: (L' + 5, o2') :: (L' + 4, o3') :: (L' + 3, oB) :: (L' + 2, o5') :: (L' + 1, o6') :: rest)) := fun q hq => N1 q (by
    simp only [List.mem_cons, List.mem_append] at hq ⊢
    rcases hq with h | h | h | h | h | h | h | h | h <;> simp only [eq_true h, true_or, or_true])
  have hc90 : ∀ q ∈ tb, ∀ p ∈ ((L' + 7, o0') :: (L' + 6, o1') :: (L' + 5, o2') :: (L' + 4, o3') :: (L' + 3, oB) :: (L' + 2, o5') :: (L' + 1, o6') :: rest), q.1 ≠ p.1 := by
    intro q hq p hp
    have := allLt_mem hL q (List.mem_append_left _ hq)
    simp only [List.mem_cons] at hp
    rcases hp with rfl | rfl | rfl | rfl | rfl | rfl | rfl | hp
    iterate 7 (exact lt_ne_add _ this)
    exact hr q hq p hp
  refine Hold.mk ?_
  k_dflt (refine' mk_tells _ _ _ _ _ _ _ _ _ _ _ _ _ _ _ _ _ _ ?B F1 ?X N1 ?T ?hk CH ts t tb _ hT rfl hc90 ?h1 hok ?h2 ?h3 ?_)
  case B => exact B'
  case X => exact X'
  case T => exact T'
  case hk => rfl
  case h1 => exact le_20 hts
  case h2 => exact room1 hd (by decide)
  case h3 => exact room3 hu (by decide)
  intro lm nm vm tb2 h2 tk2 hvm hT2 hlm h90m hap2 F2 N2
  clear F1 N1
  have hl7 := hlm (L' + 7, o0') List.mem_cons_self
  dsimp only at hl7
  have hrm : AllLt lm (tb2 ++ rest) := allLt_of fun p hp => by
    rcases List.mem_append.mp hp with hp | hp
    · exact (hap2 p hp).2
    · exact hlm p (by simp [hp])
  replace N2 : News _ _ _ ((lm, W.listOf vm.toArray nm) :: (L' + 7, o0') :: (L' + 6, o1') :: (L' + 5, o2') :: (L' + 4, o3') :: (L' + 3, oB) :: (L' + 2, o5') :: (L' + 1, o6') :: (tb2 ++ rest)) := fun q hq => N2 q (by
    simp only [List.mem_cons, List.mem_append] at hq ⊢
    rcases hq with h | h | h | h | h | h | h | h | h | h <;> simp only [eq_true h, true_or, or_true])
  have hLr : AllLt L' rest := allLt_of fun p hp => allLt_mem hL p (List.mem_append_right _ hp)
  have hc1 : ∀ q ∈ tb2 ++ rest, q.1 ≠ L' + 1 := cell_ne (fun q hq => (hap2 q hq).1) hLr (k := 1) (o := o6') (by repeat (first | exact List.mem_cons_self | apply List.mem_cons_of_mem))
  have hc2 : ∀ q ∈ tb2 ++ rest, q.1 ≠ L' + 2 := cell_ne (fun q hq => (hap2 q hq).1) hLr (k := 2) (o := o5') (by repeat (first | exact List.mem_cons_self | apply List.mem_cons_of_mem))
  have hc3 : ∀ q ∈ tb2 ++ rest, q.1 ≠ L' + 3 := cell_ne (fun q hq => (hap2 q hq).1) hLr (k := 3) (o := oB) (by repeat (first | exact List.mem_cons_self | apply List.mem_cons_of_mem))
  have hc4 : ∀ q ∈ tb2 ++ rest, q.1 ≠ L' + 4 := cell_ne (fun q hq => (hap2 q hq).1) hLr (k := 4) (o := o3') (by repeat (first | exact List.mem_cons_self | apply List.mem_cons_of_mem))
  have hc5 : ∀ q ∈ tb2 ++ rest, q.1 ≠ L' + 5 := cell_ne (fun q hq => (hap2 q hq).1) hLr (k := 5) (o := o2') (by repeat (first | exact List.mem_cons_self | apply List.mem_cons_of_mem))
  have hc6 : ∀ q ∈ tb2 ++ rest, q.1 ≠ L' + 6 := cell_ne (fun q hq => (hap2 q hq).1) hLr (k := 6) (o := o1') (by repeat (first | exact List.mem_cons_self | apply List.mem_cons_of_mem))
  have hc7 : ∀ q ∈ tb2 ++ rest, q.1 ≠ L' + 7 := cell_ne (fun q hq => (hap2 q hq).1) hLr (k := 7) (o := o0') (by repeat (first | exact List.mem_cons_self | apply List.mem_cons_of_mem))
  (repeat' (first | (k_unfold; (try dsimp only)) | ((with_reducible show wpAny _ _ (exec (Stmt.While _ _ _ _) _) _ _ _); refine Mine.Hold.out ?_) | ((with_reducible show wpAny _ _ (eval (Expr.ListComp _ _ _ _) _) _ _ _); refine Mine.Hold.out ?_) | ((with_reducible show wpAny _ _ (storeName _ _ _) _ _ _); refine' storeX_L ?zzF ?zzN ?_ ?zza ?zzb; (case zzF => k_asm); (case zzN => k_asm); (case zza => rfl); (case zzb => rfl); k_whole; intro _ zF zN; (try dsimp only at zF); (try k_sweep); (revert zF zN; intro _ _)) | ((with_reducible show wpAny _ _ (call (Value.builtin "len") [Value.str (Str.mk (List.toArray _)) _]) _ _ _); refine' Mine.s_len ?zzk3 ?_; (case zzk3 => first | lia | (simp only [List.length_append, List.length_cons, List.length_nil]; lia)); intro _ _) | ((with_reducible show wpAny _ _ (call (Value.builtin "len") [Value.ref _]) _ _ _); refine' Mine.m_len ?zzk1 ?zzk2 ?zzk3 ?_; (case zzk1 => k_asm); (case zzk2 => k_mem); (case zzk3 => first | lia | (simp only [List.length_cons, List.length_nil, List.length_map, PySem.strValues]; omega))) | ((with_reducible show wpAny _ _ (subscriptTail (Expr.Name _ _) (Expr.Name _ _) (Value.ref _) (Value.int _ _)) _ _ _); (refine' Mine.m_item ?zzk1 ?zzk2 ?zzk3 ?zzk4 ?zzk5 ?_ ?zzk6; (case zzk1 => k_asm); (case zzk2 => k_mem); (case zzk3 => first | (with_reducible assumption) | lia); (case zzk4 => first | (with_reducible assumption) | lia); (case zzk5 => assumption); (case zzk6 => with_unfolding_all rfl))) | ((with_reducible show wpAny _ _ (subscriptTail (Expr.Name _ _) (Expr.Name _ _) (Value.str _ _) (Value.int _ _)) _ _ _); refine' Mine.s_item ?zzh0 ?zzh1 ?zzh2 ?_; (case zzh0 => lia); (case zzh1 => lia); (case zzh2 => assumption); intro _ _) | ((with_reducible show wpAny _ _ (binaryOp Operator.Add (Value.str _ _) (Value.str _ _)) _ _ _); refine' Mine.s_add ?zzk1 ?zzk2 ?zzk3 ?zzk4 ?_; (case zzk1 => first | exact Mine.sp_eq | exact Mine.no_eq | exact Mine.dots_eq | with_reducible exact rfl); (case zzk2 => first | exact Mine.sp_eq | exact Mine.no_eq | exact Mine.dots_eq | with_reducible exact rfl); (case zzk3 => first | assumption | lia | (simp only [List.length_append, List.length_cons, List.length_nil]; lia)); (case zzk4 => first | assumption | lia | (simp only [List.length_append, List.length_cons, List.length_nil]; lia)); intro _ _) | ((with_reducible show wpAny _ _ (eval (Expr.Name _ _) _) _ _ _); k_inBlock; (first | (refine' Mine.nameC_F ?zzN ?zzc ?zzm ?zzd ?_ ?zza ?zzb ?zze ?zzf; (case zza => rfl); (case zzb => rfl); (case zze => decide); (case zzf => decide); (case zzN => k_asm); (case zzc => rfl); (case zzm => k_mem); (case zzd => k_asm); k_whole) | (refine' Mine.nameC_B ?zzF ?zzX ?zzT ?zze ?zzv ?zzn ?_ ?zzg ?zzbn ?zzk ?zzx ?zzd; (case zzg => rfl); (case zzbn => rfl); (case zzk => rfl); (case zzx => rfl); (case zzd => decide); (case zzF => k_asm); (case zzX => k_asm); (case zzT => k_asm); (case zze => k_is); (case zzv => boot_fast); (case zzn => decide); k_whole))) | (first | (with_reducible show wpAny _ _ (call (Value.ref 107) _) _ _ _) | (with_reducible show wpAny _ _ (call (Value.ref 100) _) _ _ _) | (with_reducible show wpAny _ _ (call (Value.ref 114) _) _ _ _) | (with_reducible show wpAny _ _ (call (Value.ref 88) _) _ _ _)); (refine Hold.out ?_) | ((with_reducible show wpAny _ _ (call (Value.ref 81) _) _ _ _); refine' Mine.bisL_tells _ _ _ _ _ _ _ _ _ _ _ _ _ _ _ _ _ _ ?zzB ?zzF ?zzX ?zzN ?zzT ?zzhk _ _ _ _ _ _ ?zzhl ?zzhi ?zzhlen ?zzhd ?zzhu ?_; (case zzB => k_asm); (case zzF => k_asm); (case zzX => k_asm); (case zzN => k_asm); (case zzT => k_asm); (case zzhk => first | rfl | assumption); (case zzhl => k_mem); (case zzhi => assumption); (case zzhlen => lia); (case zzhd => k_room); (case zzhu => k_room); intro _ _ _ _ zN; (try dsimp only at zN); (try k_sweep); (revert zN; intro _)) | ((with_reducible show wpAny _ _ (exec (Stmt.For (Expr.Name _ _) (Expr.Call _ _ _ _) _ _ _) _) _ _ _); refine Hold.out ?_) | ((with_reducible show Mine.FlPost _ _ _ _ _ _ _ _ _ _); dsimp only [Mine.FlPost]) | (k_end; kc_close) | (walk1; (try dsimp only)) | (dsimp only; walk1) | (leave1; (try dsimp only)) | fail "no step"))
  rename Fr _ _ _ _ => F1
  rename News _ _ _ _ => N1
  rename_i oM hM
  replace hM : oM.data = .cell (some (.ref lm)) := hM
  refine Hold.mk ?_
  refine comp_G F1 (by with_unfolding_all rfl) (by decide) (by rfl) (by decide) (by rfl) ?_
  (repeat' (first | (k_unfold; (try dsimp only)) | ((with_reducible show wpAny _ _ (exec (Stmt.While _ _ _ _) _) _ _ _); refine Mine.Hold.out ?_) | ((with_reducible show wpAny _ _ (eval (Expr.ListComp _ _ _ _) _) _ _ _); refine Mine.Hold.out ?_) | ((with_reducible show wpAny _ _ (storeName _ _ _) _ _ _); refine' storeX_L ?zzF ?zzN ?_ ?zza ?zzb; (case zzF => k_asm); (case zzN => k_asm); (case zza => rfl); (case zzb => rfl); k_whole; intro _ zF zN; (try dsimp only at zF); (try k_sweep); (revert zF zN; intro _ _)) | ((with_reducible show wpAny _ _ (call (Value.builtin "len") [Value.str (Str.mk (List.toArray _)) _]) _ _ _); refine' Mine.s_len ?zzk3 ?_; (case zzk3 => first | lia | (simp only [List.length_append, List.length_cons, List.length_nil]; lia)); intro _ _) | ((with_reducible show wpAny _ _ (call (Value.builtin "len") [Value.ref _]) _ _ _); refine' Mine.m_len ?zzk1 ?zzk2 ?zzk3 ?_; (case zzk1 => k_asm); (case zzk2 => k_mem); (case zzk3 => first | lia | (simp only [List.length_cons, List.length_nil, List.length_map, PySem.strValues]; omega))) | ((with_reducible show wpAny _ _ (subscriptTail (Expr.Name _ _) (Expr.Name _ _) (Value.ref _) (Value.int _ _)) _ _ _); (refine' Mine.m_item ?zzk1 ?zzk2 ?zzk3 ?zzk4 ?zzk5 ?_ ?zzk6; (case zzk1 => k_asm); (case zzk2 => k_mem); (case zzk3 => first | (with_reducible assumption) | lia); (case zzk4 => first | (with_reducible assumption) | lia); (case zzk5 => assumption); (case zzk6 => with_unfolding_all rfl))) | ((with_reducible show wpAny _ _ (subscriptTail (Expr.Name _ _) (Expr.Name _ _) (Value.str _ _) (Value.int _ _)) _ _ _); refine' Mine.s_item ?zzh0 ?zzh1 ?zzh2 ?_; (case zzh0 => lia); (case zzh1 => lia); (case zzh2 => assumption); intro _ _) | ((with_reducible show wpAny _ _ (binaryOp Operator.Add (Value.str _ _) (Value.str _ _)) _ _ _); refine' Mine.s_add ?zzk1 ?zzk2 ?zzk3 ?zzk4 ?_; (case zzk1 => first | exact Mine.sp_eq | exact Mine.no_eq | exact Mine.dots_eq | with_reducible exact rfl); (case zzk2 => first | exact Mine.sp_eq | exact Mine.no_eq | exact Mine.dots_eq | with_reducible exact rfl); (case zzk3 => first | assumption | lia | (simp only [List.length_append, List.length_cons, List.length_nil]; lia)); (case zzk4 => first | assumption | lia | (simp only [List.length_append, List.length_cons, List.length_nil]; lia)); intro _ _) | ((with_reducible show wpAny _ _ (eval (Expr.Name _ _) _) _ _ _); k_inBlock; (first | (refine' Mine.nameC_F ?zzN ?zzc ?zzm ?zzd ?_ ?zza ?zzb ?zze ?zzf; (case zza => rfl); (case zzb => rfl); (case zze => decide); (case zzf => decide); (case zzN => k_asm); (case zzc => rfl); (case zzm => k_mem); (case zzd => k_asm); k_whole) | (refine' Mine.nameC_B ?zzF ?zzX ?zzT ?zze ?zzv ?zzn ?_ ?zzg ?zzbn ?zzk ?zzx ?zzd; (case zzg => rfl); (case zzbn => rfl); (case zzk => rfl); (case zzx => rfl); (case zzd => decide); (case zzF => k_asm); (case zzX => k_asm); (case zzT => k_asm); (case zze => k_is); (case zzv => boot_fast); (case zzn => decide); k_whole))) | (first | (with_reducible show wpAny _ _ (call (Value.ref 107) _) _ _ _) | (with_reducible show wpAny _ _ (call (Value.ref 100) _) _ _ _) | (with_reducible show wpAny _ _ (call (Value.ref 114) _) _ _ _) | (with_reducible show wpAny _ _ (call (Value.ref 88) _) _ _ _)); (refine Hold.out ?_) | ((with_reducible show wpAny _ _ (call (Value.ref 81) _) _ _ _); refine' Mine.bisL_tells _ _ _ _ _ _ _ _ _ _ _ _ _ _ _ _ _ _ ?zzB ?zzF ?zzX ?zzN ?zzT ?zzhk _ _ _ _ _ _ ?zzhl ?zzhi ?zzhlen ?zzhd ?zzhu ?_; (case zzB => k_asm); (case zzF => k_asm); (case zzX => k_asm); (case zzN => k_asm); (case zzT => k_asm); (case zzhk => first | rfl | assumption); (case zzhl => k_mem); (case zzhi => assumption); (case zzhlen => lia); (case zzhd => k_room); (case zzhu => k_room); intro _ _ _ _ zN; (try dsimp only at zN); (try k_sweep); (revert zN; intro _)) | ((with_reducible show wpAny _ _ (exec (Stmt.For (Expr.Name _ _) (Expr.Call _ _ _ _) _ _ _) _) _ _ _); refine Hold.out ?_) | ((with_reducible show Mine.FlPost _ _ _ _ _ _ _ _ _ _); dsimp only [Mine.FlPost]) | (k_end; kc_close) | (walk1; (try dsimp only)) | (dsimp only; walk1) | (leave1; (try dsimp only)) | fail "no step"))
  rename IsRange _ _ _ _ _ _ _ _ => hrg
  rename Fr _ _ _ _ => F2
  rename News _ _ _ _ => N2
  obtain ⟨hsm, hsz⟩ := rng_ok (b2_eq ts.length) (Nat.lt_of_le_of_lt (Nat.add_le_add_right hts 2) (by decide))
  have hm20 : vm.length < 1000 := len_small (IntsAre.length hvm) (marks_len ts) hts
  k_dflt (refine src_range (n := ts.length + 2) (by rfl) F2 N2 hrg hsm hsz (sz_of (n2_le hts)) fun g => rest_induct (fun i ys nw => nw = (lm, W.listOf vm.toArray nm) :: (L' + 7, o0') :: (L' + 6, o1') :: (L' + 5, o2') :: (L' + 4, oM) :: (L' + 3, oB) :: (L' + 2, o5') :: (L' + 1, o6') :: (tb2 ++ rest) ∧ IntsAre ys ((List.range i).map fun p : Nat => (vm.length : Int) - bisL (marksV ts) (p : Int))) ⟨rfl, .nil⟩ ?_ ?_)
  · intro i ys nw v I oI C oC D m₂ h tk E' hi ⟨hnw, hys⟩ hP hC hx F1 N1 off ne
    obtain ⟨ti, rfl⟩ := hP
    subst hnw
    (repeat' (first | (k_unfold; (try dsimp only)) | ((with_reducible show wpAny _ _ (exec (Stmt.While _ _ _ _) _) _ _ _); refine Mine.Hold.out ?_) | ((with_reducible show wpAny _ _ (eval (Expr.ListComp _ _ _ _) _) _ _ _); refine Mine.Hold.out ?_) | ((with_reducible show wpAny _ _ (storeName _ _ _) _ _ _); refine' storeX_L ?zzF ?zzN ?_ ?zza ?zzb; (case zzF => k_asm); (case zzN => k_asm); (case zza => rfl); (case zzb => rfl); k_whole; intro _ zF zN; (try dsimp only at zF); (try k_sweep); (revert zF zN; intro _ _)) | ((with_reducible show wpAny _ _ (call (Value.builtin "len") [Value.str (Str.mk (List.toArray _)) _]) _ _ _); refine' Mine.s_len ?zzk3 ?_; (case zzk3 => first | lia | (simp only [List.length_append, List.length_cons, List.length_nil]; lia)); intro _ _) | ((with_reducible show wpAny _ _ (call (Value.builtin "len") [Value.ref _]) _ _ _); refine' Mine.m_len ?zzk1 ?zzk2 ?zzk3 ?_; (case zzk1 => k_asm); (case zzk2 => k_mem); (case zzk3 => first | lia | (simp only [List.length_cons, List.length_nil, List.length_map, PySem.strValues]; omega))) | ((with_reducible show wpAny _ _ (subscriptTail (Expr.Name _ _) (Expr.Name _ _) (Value.ref _) (Value.int _ _)) _ _ _); (refine' Mine.m_item ?zzk1 ?zzk2 ?zzk3 ?zzk4 ?zzk5 ?_ ?zzk6; (case zzk1 => k_asm); (case zzk2 => k_mem); (case zzk3 => first | (with_reducible assumption) | lia); (case zzk4 => first | (with_reducible assumption) | lia); (case zzk5 => assumption); (case zzk6 => with_unfolding_all rfl))) | ((with_reducible show wpAny _ _ (subscriptTail (Expr.Name _ _) (Expr.Name _ _) (Value.str _ _) (Value.int _ _)) _ _ _); refine' Mine.s_item ?zzh0 ?zzh1 ?zzh2 ?_; (case zzh0 => lia); (case zzh1 => lia); (case zzh2 => assumption); intro _ _) | ((with_reducible show wpAny _ _ (binaryOp Operator.Add (Value.str _ _) (Value.str _ _)) _ _ _); refine' Mine.s_add ?zzk1 ?zzk2 ?zzk3 ?zzk4 ?_; (case zzk1 => first | exact Mine.sp_eq | exact Mine.no_eq | exact Mine.dots_eq | with_reducible exact rfl); (case zzk2 => first | exact Mine.sp_eq | exact Mine.no_eq | exact Mine.dots_eq | with_reducible exact rfl); (case zzk3 => first | assumption | lia | (simp only [List.length_append, List.length_cons, List.length_nil]; lia)); (case zzk4 => first | assumption | lia | (simp only [List.length_append, List.length_cons, List.length_nil]; lia)); intro _ _) | ((with_reducible show wpAny _ _ (eval (Expr.Name _ _) _) _ _ _); k_inBlock; (first | (refine' Mine.nameC_F ?zzN ?zzc ?zzm ?zzd ?_ ?zza ?zzb ?zze ?zzf; (case zza => rfl); (case zzb => rfl); (case zze => decide); (case zzf => decide); (case zzN => k_asm); (case zzc => rfl); (case zzm => k_mem); (case zzd => k_asm); k_whole) | (refine' Mine.nameC_B ?zzF ?zzX ?zzT ?zze ?zzv ?zzn ?_ ?zzg ?zzbn ?zzk ?zzx ?zzd; (case zzg => rfl); (case zzbn => rfl); (case zzk => rfl); (case zzx => rfl); (case zzd => decide); (case zzF => k_asm); (case zzX => k_asm); (case zzT => k_asm); (case zze => k_is); (case zzv => boot_fast); (case zzn => decide); k_whole))) | (first | (with_reducible show wpAny _ _ (call (Value.ref 107) _) _ _ _) | (with_reducible show wpAny _ _ (call (Value.ref 100) _) _ _ _) | (with_reducible show wpAny _ _ (call (Value.ref 114) _) _ _ _) | (with_reducible show wpAny _ _ (call (Value.ref 88) _) _ _ _)); (refine Hold.out ?_) | ((with_reducible show wpAny _ _ (call (Value.ref 81) _) _ _ _); refine' Mine.bisL_tells _ _ _ _ _ _ _ _ _ _ _ _ _ _ _ _ _ _ ?zzB ?zzF ?zzX ?zzN ?zzT ?zzhk _ _ _ _ _ _ ?zzhl ?zzhi ?zzhlen ?zzhd ?zzhu ?_; (case zzB => k_asm); (case zzF => k_asm); (case zzX => k_asm); (case zzN => k_asm); (case zzT => k_asm); (case zzhk => first | rfl | assumption); (case zzhl => k_mem); (case zzhi => assumption); (case zzhlen => lia); (case zzhd => k_room); (case zzhu => k_room); intro _ _ _ _ zN; (try dsimp only at zN); (try k_sweep); (revert zN; intro _)) | ((with_reducible show wpAny _ _ (exec (Stmt.For (Expr.Name _ _) (Expr.Call _ _ _ _) _ _ _) _) _ _ _); refine Hold.out ?_) | ((with_reducible show Mine.FlPost _ _ _ _ _ _ _ _ _ _); dsimp only [Mine.FlPost]) | (k_end; kc_close) | (walk1; (try dsimp only)) | (dsimp only; walk1) | (leave1; (try dsimp only)) | fail "no step"))
    rename Fr _ _ _ _ => FZ
    rename News _ _ _ _ => NZ
    refine CompEnd.intro FZ NZ _ (fun _ h => h) off trivial ⟨rfl, ?_⟩
    rw [List.range_succ, List.map_append, show ((0 : Int) + (i : Int)) = (i : Int) from Int.zero_add _]
    exact intsAre_snoc hys _ _
  · rintro ys nw ⟨hnw, hys⟩ D h tk F1 N1 off
    subst hnw
    rw [lst_eq] at N1
    have d5 : @Ne Nat (L' + 5) D := off1_mem off (L' + 5, o2') (by repeat (first | exact List.mem_cons_self | apply List.mem_cons_of_mem))
    have d6 : @Ne Nat (L' + 6) D := off1_mem off (L' + 6, o1') (by repeat (first | exact List.mem_cons_self | apply List.mem_cons_of_mem))
    have d7 : @Ne Nat (L' + 7) D := off1_mem off (L' + 7, o0') (by repeat (first | exact List.mem_cons_self | apply List.mem_cons_of_mem))
    clear F2 N2 hrg
    (repeat' (first | (k_unfold; (try dsimp only)) | ((with_reducible show wpAny _ _ (exec (Stmt.While _ _ _ _) _) _ _ _); refine Mine.Hold.out ?_) | ((with_reducible show wpAny _ _ (eval (Expr.ListComp _ _ _ _) _) _ _ _); refine Mine.Hold.out ?_) | ((with_reducible show wpAny _ _ (storeName _ _ _) _ _ _); refine' storeX_L ?zzF ?zzN ?_ ?zza ?zzb; (case zzF => k_asm); (case zzN => k_asm); (case zza => rfl); (case zzb => rfl); k_whole; intro _ zF zN; (try dsimp only at zF); (try k_sweep); (revert zF zN; intro _ _)) | ((with_reducible show wpAny _ _ (call (Value.builtin "len") [Value.str (Str.mk (List.toArray _)) _]) _ _ _); refine' Mine.s_len ?zzk3 ?_; (case zzk3 => first | lia | (simp only [List.length_append, List.length_cons, List.length_nil]; lia)); intro _ _) | ((with_reducible show wpAny _ _ (call (Value.builtin "len") [Value.ref _]) _ _ _); refine' Mine.m_len ?zzk1 ?zzk2 ?zzk3 ?_; (case zzk1 => k_asm); (case zzk2 => k_mem); (case zzk3 => first | lia | (simp only [List.length_cons, List.length_nil, List.length_map, PySem.strValues]; omega))) | ((with_reducible show wpAny _ _ (subscriptTail (Expr.Name _ _) (Expr.Name _ _) (Value.ref _) (Value.int _ _)) _ _ _); (refine' Mine.m_item ?zzk1 ?zzk2 ?zzk3 ?zzk4 ?zzk5 ?_ ?zzk6; (case zzk1 => k_asm); (case zzk2 => k_mem); (case zzk3 => first | (with_reducible assumption) | lia); (case zzk4 => first | (with_reducible assumption) | lia); (case zzk5 => assumption); (case zzk6 => with_unfolding_all rfl))) | ((with_reducible show wpAny _ _ (subscriptTail (Expr.Name _ _) (Expr.Name _ _) (Value.str _ _) (Value.int _ _)) _ _ _); refine' Mine.s_item ?zzh0 ?zzh1 ?zzh2 ?_; (case zzh0 => lia); (case zzh1 => lia); (case zzh2 => assumption); intro _ _) | ((with_reducible show wpAny _ _ (binaryOp Operator.Add (Value.str _ _) (Value.str _ _)) _ _ _); refine' Mine.s_add ?zzk1 ?zzk2 ?zzk3 ?zzk4 ?_; (case zzk1 => first | exact Mine.sp_eq | exact Mine.no_eq | exact Mine.dots_eq | with_reducible exact rfl); (case zzk2 => first | exact Mine.sp_eq | exact Mine.no_eq | exact Mine.dots_eq | with_reducible exact rfl); (case zzk3 => first | assumption | lia | (simp only [List.length_append, List.length_cons, List.length_nil]; lia)); (case zzk4 => first | assumption | lia | (simp only [List.length_append, List.length_cons, List.length_nil]; lia)); intro _ _) | ((with_reducible show wpAny _ _ (eval (Expr.Name _ _) _) _ _ _); k_inBlock; (first | (refine' Mine.nameC_F ?zzN ?zzc ?zzm ?zzd ?_ ?zza ?zzb ?zze ?zzf; (case zza => rfl); (case zzb => rfl); (case zze => decide); (case zzf => decide); (case zzN => k_asm); (case zzc => rfl); (case zzm => k_mem); (case zzd => k_asm); k_whole) | (refine' Mine.nameC_B ?zzF ?zzX ?zzT ?zze ?zzv ?zzn ?_ ?zzg ?zzbn ?zzk ?zzx ?zzd; (case zzg => rfl); (case zzbn => rfl); (case zzk => rfl); (case zzx => rfl); (case zzd => decide); (case zzF => k_asm); (case zzX => k_asm); (case zzT => k_asm); (case zze => k_is); (case zzv => boot_fast); (case zzn => decide); k_whole))) | (first | (with_reducible show wpAny _ _ (call (Value.ref 107) _) _ _ _) | (with_reducible show wpAny _ _ (call (Value.ref 100) _) _ _ _) | (with_reducible show wpAny _ _ (call (Value.ref 114) _) _ _ _) | (with_reducible show wpAny _ _ (call (Value.ref 88) _) _ _ _)); (refine Hold.out ?_) | ((with_reducible show wpAny _ _ (call (Value.ref 81) _) _ _ _); refine' Mine.bisL_tells _ _ _ _ _ _ _ _ _ _ _ _ _ _ _ _ _ _ ?zzB ?zzF ?zzX ?zzN ?zzT ?zzhk _ _ _ _ _ _ ?zzhl ?zzhi ?zzhlen ?zzhd ?zzhu ?_; (case zzB => k_asm); (case zzF => k_asm); (case zzX => k_asm); (case zzN => k_asm); (case zzT => k_asm); (case zzhk => first | rfl | assumption); (case zzhl => k_mem); (case zzhi => assumption); (case zzhlen => lia); (case zzhd => k_room); (case zzhu => k_room); intro _ _ _ _ zN; (try dsimp only at zN); (try k_sweep); (revert zN; intro _)) | ((with_reducible show wpAny _ _ (exec (Stmt.For (Expr.Name _ _) (Expr.Call _ _ _ _) _ _ _) _) _ _ _); refine Hold.out ?_) | ((with_reducible show Mine.FlPost _ _ _ _ _ _ _ _ _ _); dsimp only [Mine.FlPost]) | (k_end; kc_close) | (walk1; (try dsimp only)) | (dsimp only; walk1) | (leave1; (try dsimp only)) | fail "no step"))
    rename Fr _ _ _ _ => F2
    rename News _ _ _ _ => N2
    rename_i oH hH
    replace hH : oH.data = .cell (some (.ref D)) := hH
    refine Hold.mk ?_
    refine comp_G F2 (by with_unfolding_all rfl) (by decide) (by rfl) (by decide) (by rfl) ?_
    (repeat' (first | (k_unfold; (try dsimp only)) | ((with_reducible show wpAny _ _ (exec (Stmt.While _ _ _ _) _) _ _ _); refine Mine.Hold.out ?_) | ((with_reducible show wpAny _ _ (eval (Expr.ListComp _ _ _ _) _) _ _ _); refine Mine.Hold.out ?_) | ((with_reducible show wpAny _ _ (storeName _ _ _) _ _ _); refine' storeX_L ?zzF ?zzN ?_ ?zza ?zzb; (case zzF => k_asm); (case zzN => k_asm); (case zza => rfl); (case zzb => rfl); k_whole; intro _ zF zN; (try dsimp only at zF); (try k_sweep); (revert zF zN; intro _ _)) | ((with_reducible show wpAny _ _ (call (Value.builtin "len") [Value.str (Str.mk (List.toArray _)) _]) _ _ _); refine' Mine.s_len ?zzk3 ?_; (case zzk3 => first | lia | (simp only [List.length_append, List.length_cons, List.length_nil]; lia)); intro _ _) | ((with_reducible show wpAny _ _ (call (Value.builtin "len") [Value.ref _]) _ _ _); refine' Mine.m_len ?zzk1 ?zzk2 ?zzk3 ?_; (case zzk1 => k_asm); (case zzk2 => k_mem); (case zzk3 => first | lia | (simp only [List.length_cons, List.length_nil, List.length_map, PySem.strValues]; omega))) | ((with_reducible show wpAny _ _ (subscriptTail (Expr.Name _ _) (Expr.Name _ _) (Value.ref _) (Value.int _ _)) _ _ _); (refine' Mine.m_item ?zzk1 ?zzk2 ?zzk3 ?zzk4 ?zzk5 ?_ ?zzk6; (case zzk1 => k_asm); (case zzk2 => k_mem); (case zzk3 => first | (with_reducible assumption) | lia); (case zzk4 => first | (with_reducible assumption) | lia); (case zzk5 => assumption); (case zzk6 => with_unfolding_all rfl))) | ((with_reducible show wpAny _ _ (subscriptTail (Expr.Name _ _) (Expr.Name _ _) (Value.str _ _) (Value.int _ _)) _ _ _); refine' Mine.s_item ?zzh0 ?zzh1 ?zzh2 ?_; (case zzh0 => lia); (case zzh1 => lia); (case zzh2 => assumption); intro _ _) | ((with_reducible show wpAny _ _ (binaryOp Operator.Add (Value.str _ _) (Value.str _ _)) _ _ _); refine' Mine.s_add ?zzk1 ?zzk2 ?zzk3 ?zzk4 ?_; (case zzk1 => first | exact Mine.sp_eq | exact Mine.no_eq | exact Mine.dots_eq | with_reducible exact rfl); (case zzk2 => first | exact Mine.sp_eq | exact Mine.no_eq | exact Mine.dots_eq | with_reducible exact rfl); (case zzk3 => first | assumption | lia | (simp only [List.length_append, List.length_cons, List.length_nil]; lia)); (case zzk4 => first | assumption | lia | (simp only [List.length_append, List.length_cons, List.length_nil]; lia)); intro _ _) | ((with_reducible show wpAny _ _ (eval (Expr.Name _ _) _) _ _ _); k_inBlock; (first | (refine' Mine.nameC_F ?zzN ?zzc ?zzm ?zzd ?_ ?zza ?zzb ?zze ?zzf; (case zza => rfl); (case zzb => rfl); (case zze => decide); (case zzf => decide); (case zzN => k_asm); (case zzc => rfl); (case zzm => k_mem); (case zzd => k_asm); k_whole) | (refine' Mine.nameC_B ?zzF ?zzX ?zzT ?zze ?zzv ?zzn ?_ ?zzg ?zzbn ?zzk ?zzx ?zzd; (case zzg => rfl); (case zzbn => rfl); (case zzk => rfl); (case zzx => rfl); (case zzd => decide); (case zzF => k_asm); (case zzX => k_asm); (case zzT => k_asm); (case zze => k_is); (case zzv => boot_fast); (case zzn => decide); k_whole))) | (first | (with_reducible show wpAny _ _ (call (Value.ref 107) _) _ _ _) | (with_reducible show wpAny _ _ (call (Value.ref 100) _) _ _ _) | (with_reducible show wpAny _ _ (call (Value.ref 114) _) _ _ _) | (with_reducible show wpAny _ _ (call (Value.ref 88) _) _ _ _)); (refine Hold.out ?_) | ((with_reducible show wpAny _ _ (call (Value.ref 81) _) _ _ _); refine' Mine.bisL_tells _ _ _ _ _ _ _ _ _ _ _ _ _ _ _ _ _ _ ?zzB ?zzF ?zzX ?zzN ?zzT ?zzhk _ _ _ _ _ _ ?zzhl ?zzhi ?zzhlen ?zzhd ?zzhu ?_; (case zzB => k_asm); (case zzF => k_asm); (case zzX => k_asm); (case zzN => k_asm); (case zzT => k_asm); (case zzhk => first | rfl | assumption); (case zzhl => k_mem); (case zzhi => assumption); (case zzhlen => lia); (case zzhd => k_room); (case zzhu => k_room); intro _ _ _ _ zN; (try dsimp only at zN); (try k_sweep); (revert zN; intro _)) | ((with_reducible show wpAny _ _ (exec (Stmt.For (Expr.Name _ _) (Expr.Call _ _ _ _) _ _ _) _) _ _ _); refine Hold.out ?_) | ((with_reducible show Mine.FlPost _ _ _ _ _ _ _ _ _ _); dsimp only [Mine.FlPost]) | (k_end; kc_close) | (walk1; (try dsimp only)) | (dsimp only; walk1) | (leave1; (try dsimp only)) | fail "no step"))
    rename IsRange _ _ _ _ _ _ _ _ => hrg
    rename Fr _ _ _ _ => F2
    rename News _ _ _ _ => N2
    have hlt3 : [l0, l1, l2].length = 3 := rfl
    generalize hG : ((D, W.listOf ys.toArray ys.length) :: (lm, W.listOf vm.toArray nm) :: (L' + 7, o0') :: (L' + 6, o1') :: (L' + 5, oH) :: (L' + 4, oM) :: (L' + 3, oB) :: (L' + 2, o5') :: (L' + 1, o6') :: rest) = G
    have hdj : ∀ q ∈ tb2, ∀ p ∈ G, q.1 ≠ p.1 := by
      intro q hq p hp
      rw [← hG] at hp
      simp only [List.mem_cons] at hp
      rcases hp with rfl | rfl | rfl | rfl | rfl | rfl | rfl | rfl | rfl | hp
      · exact off1_mem off q (by simp [hq])
      · exact Nat.ne_of_lt (hap2 q hq).2
      · exact hc7 q (List.mem_append_left _ hq)
      · exact hc6 q (List.mem_append_left _ hq)
      · exact hc5 q (List.mem_append_left _ hq)
      · exact hc4 q (List.mem_append_left _ hq)
      · exact hc3 q (List.mem_append_left _ hq)
      · exact hc2 q (List.mem_append_left _ hq)
      · exact hc1 q (List.mem_append_left _ hq)
      · exact (hap2 q hq).1 p (by simp [hp])
    k_dflt (refine src_range (n := 3) (by rfl) F2 N2 hrg rng3.1 rng3.2 sz3 fun g => rest_induct (fun i ys nw => ∃ tbi LL, TabOK tbi ∧ (∀ p, p ∈ nw ↔ p ∈ tbi ++ (LL ++ G)) ∧ (∀ q ∈ tbi, ∀ p ∈ LL ++ G, q.1 ≠ p.1) ∧ (∀ q ∈ LL, ∀ p ∈ G, @LT.lt Nat _ p.1 q.1) ∧ RowsAre LL (fun k => plFrom 0 ts ([l0,l1,l2].getD k 0)) i ys) ⟨tb2, [], hT2, ?j0, ?j1, ?j2, ?j3⟩ ?step ?fin)
    case j0 =>
      intro p; rw [← hG]
      simp only [List.mem_cons, List.mem_append, List.not_mem_nil, false_or]
      constructor <;> (intro h; rcases h with h | h | h | h | h | h | h | h | h | h | h <;> simp only [eq_true h, true_or, or_true])
    case j1 => exact hdj
    case j2 => intro q hq; exact nomatch hq
    case j3 => exact ⟨rfl, fun k hk => absurd hk (Nat.not_lt_zero k)⟩
    case step =>
      intro i ys2 nw v I oI C oC D2 m₂ h tk E' hi ⟨tbi, LL, hTi, hnw, hdji, hLL, hrows⟩ hP hC hx F1 N1 off2 ne
      obtain ⟨ti, hv⟩ := hP
      rw [Int.zero_add] at hv
      subst hv
      clear F2 N2 hrg
      have hoff : ∀ p ∈ tbi ++ (LL ++ G), p.1 ≠ I ∧ p.1 ≠ C ∧ p.1 ≠ D2 := fun p hp => off2.mem p ((hnw p).mpr hp)
      replace N1 : News _ _ _ ((L' + 2, o5') :: (L' + 1, o6') :: (I, oI) :: (C, oC) :: (tbi ++ ((I, oI) :: (C, oC) :: (D2, lst ys2) :: (LL ++ G)))) := fun q hq => N1 q (by
        have h2 : (L' + 2, o5') ∈ G := hG ▸ (by repeat (first | exact List.mem_cons_self | apply List.mem_cons_of_mem))
        have h1 : (L' + 1, o6') ∈ G := hG ▸ (by repeat (first | exact List.mem_cons_self | apply List.mem_cons_of_mem))
        simp only [List.mem_cons, List.mem_append, hnw] at hq ⊢
        rcases hq with h | h | h | h | h | h | h | h | h | h
        · exact .inr (.inr (.inr (.inr (.inr (h ▸ h2)))))
        · exact .inr (.inr (.inr (.inr (.inr (h ▸ h1)))))
        all_goals simp only [eq_true h, true_or, or_true])
      (repeat' (first | (k_unfold; (try dsimp only)) | ((with_reducible show wpAny _ _ (exec (Stmt.While _ _ _ _) _) _ _ _); refine Mine.Hold.out ?_) | ((with_reducible show wpAny _ _ (eval (Expr.ListComp _ _ _ _) _) _ _ _); refine Mine.Hold.out ?_) | ((with_reducible show wpAny _ _ (storeName _ _ _) _ _ _); refine' storeX_L ?zzF ?zzN ?_ ?zza ?zzb; (case zzF => k_asm); (case zzN => k_asm); (case zza => rfl); (case zzb => rfl); k_whole; intro _ zF zN; (try dsimp only at zF); (try k_sweep); (revert zF zN; intro _ _)) | ((with_reducible show wpAny _ _ (call (Value.builtin "len") [Value.str (Str.mk (List.toArray _)) _]) _ _ _); refine' Mine.s_len ?zzk3 ?_; (case zzk3 => first | lia | (simp only [List.length_append, List.length_cons, List.length_nil]; lia)); intro _ _) | ((with_reducible show wpAny _ _ (call (Value.builtin "len") [Value.ref _]) _ _ _); refine' Mine.m_len ?zzk1 ?zzk2 ?zzk3 ?_; (case zzk1 => k_asm); (case zzk2 => k_mem); (case zzk3 => first | lia | (simp only [List.length_cons, List.length_nil, List.length_map, PySem.strValues]; omega))) | ((with_reducible show wpAny _ _ (subscriptTail (Expr.Name _ _) (Expr.Name _ _) (Value.ref _) (Value.int _ _)) _ _ _); (refine' Mine.m_item ?zzk1 ?zzk2 ?zzk3 ?zzk4 ?zzk5 ?_ ?zzk6; (case zzk1 => k_asm); (case zzk2 => k_mem); (case zzk3 => first | (with_reducible assumption) | lia); (case zzk4 => first | (with_reducible assumption) | lia); (case zzk5 => assumption); (case zzk6 => with_unfolding_all rfl))) | ((with_reducible show wpAny _ _ (subscriptTail (Expr.Name _ _) (Expr.Name _ _) (Value.str _ _) (Value.int _ _)) _ _ _); refine' Mine.s_item ?zzh0 ?zzh1 ?zzh2 ?_; (case zzh0 => lia); (case zzh1 => lia); (case zzh2 => assumption); intro _ _) | ((with_reducible show wpAny _ _ (binaryOp Operator.Add (Value.str _ _) (Value.str _ _)) _ _ _); refine' Mine.s_add ?zzk1 ?zzk2 ?zzk3 ?zzk4 ?_; (case zzk1 => first | exact Mine.sp_eq | exact Mine.no_eq | exact Mine.dots_eq | with_reducible exact rfl); (case zzk2 => first | exact Mine.sp_eq | exact Mine.no_eq | exact Mine.dots_eq | with_reducible exact rfl); (case zzk3 => first | assumption | lia | (simp only [List.length_append, List.length_cons, List.length_nil]; lia)); (case zzk4 => first | assumption | lia | (simp only [List.length_append, List.length_cons, List.length_nil]; lia)); intro _ _) | ((with_reducible show wpAny _ _ (eval (Expr.Name _ _) _) _ _ _); k_inBlock; (first | (refine' Mine.nameC_F ?zzN ?zzc ?zzm ?zzd ?_ ?zza ?zzb ?zze ?zzf; (case zza => rfl); (case zzb => rfl); (case zze => decide); (case zzf => decide); (case zzN => k_asm); (case zzc => rfl); (case zzm => k_mem); (case zzd => k_asm); k_whole) | (refine' Mine.nameC_B ?zzF ?zzX ?zzT ?zze ?zzv ?zzn ?_ ?zzg ?zzbn ?zzk ?zzx ?zzd; (case zzg => rfl); (case zzbn => rfl); (case zzk => rfl); (case zzx => rfl); (case zzd => decide); (case zzF => k_asm); (case zzX => k_asm); (case zzT => k_asm); (case zze => k_is); (case zzv => boot_fast); (case zzn => decide); k_whole))) | (first | (with_reducible show wpAny _ _ (call (Value.ref 107) _) _ _ _) | (with_reducible show wpAny _ _ (call (Value.ref 100) _) _ _ _) | (with_reducible show wpAny _ _ (call (Value.ref 114) _) _ _ _) | (with_reducible show wpAny _ _ (call (Value.ref 88) _) _ _ _)); (refine Hold.out ?_) | ((with_reducible show wpAny _ _ (call (Value.ref 81) _) _ _ _); refine' Mine.bisL_tells _ _ _ _ _ _ _ _ _ _ _ _ _ _ _ _ _ _ ?zzB ?zzF ?zzX ?zzN ?zzT ?zzhk _ _ _ _ _ _ ?zzhl ?zzhi ?zzhlen ?zzhd ?zzhu ?_; (case zzB => k_asm); (case zzF => k_asm); (case zzX => k_asm); (case zzN => k_asm); (case zzT => k_asm); (case zzhk => first | rfl | assumption); (case zzhl => k_mem); (case zzhi => assumption); (case zzhlen => lia); (case zzhd => k_room); (case zzhu => k_room); intro _ _ _ _ zN; (try dsimp only at zN); (try k_sweep); (revert zN; intro _)) | ((with_reducible show wpAny _ _ (exec (Stmt.For (Expr.Name _ _) (Expr.Call _ _ _ _) _ _ _) _) _ _ _); refine Hold.out ?_) | ((with_reducible show Mine.FlPost _ _ _ _ _ _ _ _ _ _); dsimp only [Mine.FlPost]) | (k_end; kc_close) | (walk1; (try dsimp only)) | (dsimp only; walk1) | (leave1; (try dsimp only)) | fail "no step"))
      refine Hold.mk ?_
      rename Fr _ _ _ _ => F2
      rename News _ _ _ _ => N2
      k_dflt (refine' pl_tells _ _ _ _ _ _ _ _ _ _ _ _ _ _ _ _ _ _ ?B F2 ?X (m_tail (m_tail (m_tail (m_tail N2)))) ?T ?hk CH ts l0 l1 l2 i _ _ _ tbi ((I, oI) :: (C, oC) :: (D2, lst ys2) :: (LL ++ G)) hTi rfl ?h0 ?h1 hi ?h2 ?h3 ?h4 ?h5 ?h6)
      case B => exact B'
      case X => exact X'
      case T => exact T'
      case hk => rfl
      case h0 =>
        intro q hq p hp
        have ho := hoff q (List.mem_append_left _ hq)
        simp only [List.mem_cons] at hp
        rcases hp with rfl | rfl | rfl | hp
        · exact ho.1
        · exact ho.2.1
        · exact ho.2.2
        · exact hdji q hq p hp
      case h1 => exact le_20 hts
      case h2 => exact fun x hx => ⟨(hok x hx).1, (hok x hx).2.1⟩
      case h3 => exact fun x hx => hwk_of hi hdl (hlet x hx) (hok x hx).2.2
      case h4 => exact room1 hd (by decide)
      case h5 => exact room3 hu (by decide)
      case h6 =>
        intro l n vs tb3 h3 tk3 hvs hT3 hl3 h903 hap3 F3 N3
        refine CompEnd.intro F3 N3 (tb3 ++ (((l, W.listOf vs.toArray n) :: LL) ++ G)) ?sub (off3_of ?off) trivial ⟨tb3, (l, W.listOf vs.toArray n) :: LL, hT3, fun p => Iff.rfl, ?dj, ?ll, hrows.snoc hvs⟩
        · intro p hp
          simp only [List.mem_cons, List.mem_append] at hp ⊢
          rcases hp with h | h | h | h | (h | h) | h <;> simp only [eq_true h, true_or, or_true]
        · intro p hp
          simp only [List.mem_cons, List.mem_append] at hp
          rcases hp with h | (rfl | h) | h
          · exact ⟨(hap3 p h).1 (I, oI) (by repeat (first | exact List.mem_cons_self | apply List.mem_cons_of_mem)), (hap3 p h).1 (C, oC) (by repeat (first | exact List.mem_cons_self | apply List.mem_cons_of_mem)), (hap3 p h).1 (D2, lst ys2) (by repeat (first | exact List.mem_cons_self | apply List.mem_cons_of_mem))⟩
          · exact ⟨Ne.symm (Nat.ne_of_lt (hl3 (I, oI) (by repeat (first | exact List.mem_cons_self | apply List.mem_cons_of_mem)))), Ne.symm (Nat.ne_of_lt (hl3 (C, oC) (by repeat (first | exact List.mem_cons_self | apply List.mem_cons_of_mem)))), Ne.symm (Nat.ne_of_lt (hl3 (D2, lst ys2) (by repeat (first | exact List.mem_cons_self | apply List.mem_cons_of_mem))))⟩
          · exact hoff p (by simp [h])
          · exact hoff p (by simp [h])
        · intro q hq p hp
          simp only [List.mem_cons, List.mem_append] at hp
          rcases hp with (rfl | h) | h
          · exact Nat.ne_of_lt (hap3 q hq).2
          · exact (hap3 q hq).1 p (by simp [h])
          · exact (hap3 q hq).1 p (by simp [h])
        · intro q hq p hp
          rcases List.mem_cons.mp hq with rfl | hq
          · exact hl3 p (by simp [hp])
          · exact hLL q hq p hp
    case fin =>
      rintro ys3 nw ⟨tb3, LL, hT3, hnw, hdj3, hLL, hrows⟩ D3 h3 tk3 F3 N3 off3
      have hoff3 : ∀ p ∈ tb3 ++ (LL ++ G), @Ne Nat p.1 D3 := fun p hp => off1_mem off3 p ((hnw p).mpr hp)
      have hGm : ∀ p ∈ ((D, W.listOf ys.toArray ys.length) :: (lm, W.listOf vm.toArray nm) :: (L' + 7, o0') :: (L' + 6, o1') :: (L' + 5, oH) :: (L' + 4, oM) :: (L' + 3, oB) :: (L' + 2, o5') :: (L' + 1, o6') :: rest), p ∈ G := fun p hp => hG ▸ hp
      have e6 : @Ne Nat (L' + 6) D3 := hoff3 (L' + 6, o1') (List.mem_append_right _ (List.mem_append_right _ (hGm _ (by repeat (first | exact List.mem_cons_self | apply List.mem_cons_of_mem)))))
      have e7 : @Ne Nat (L' + 7) D3 := hoff3 (L' + 7, o0') (List.mem_append_right _ (List.mem_append_right _ (hGm _ (by repeat (first | exact List.mem_cons_self | apply List.mem_cons_of_mem)))))
      have hcc : ∀ k : Nat, ∀ o, (L' + k, o) ∈ G → (∀ q ∈ rest, q.1 ≠ L' + k) → ∀ q ∈ tb3 ++ (LL ++ rest), q.1 ≠ L' + k := by
        intro k o ho hr9 q hq
        rcases List.mem_append.mp hq with hq | hq
        · exact hdj3 q hq (L' + k, o) (List.mem_append_right _ ho)
        · rcases List.mem_append.mp hq with hq | hq
          · exact Ne.symm (Nat.ne_of_lt (hLL q hq (L' + k, o) ho))
          · exact hr9 q hq
      have hx6 := hcc 6 o1' (hGm _ (by repeat (first | exact List.mem_cons_self | apply List.mem_cons_of_mem))) (fun q hq => hc6 q (List.mem_append_right _ hq))
      have hx7 := hcc 7 o0' (hGm _ (by repeat (first | exact List.mem_cons_self | apply List.mem_cons_of_mem))) (fun q hq => hc7 q (List.mem_append_right _ hq))
      rw [lst_eq] at N3
      replace N3 : News _ _ _ ((D3, W.listOf ys3.toArray ys3.length) :: (D, W.listOf ys.toArray ys.length) :: (lm, W.listOf vm.toArray nm) :: (L' + 7, o0') :: (L' + 6, o1') :: (L' + 5, oH) :: (L' + 4, oM) :: (L' + 3, oB) :: (L' + 2, o5') :: (L' + 1, o6') :: (tb3 ++ (LL ++ rest))) := fun q hq => N3 q (by
        rw [List.mem_cons, hnw]
        simp only [List.mem_append, ← hG, List.mem_cons] at hq ⊢
        rcases hq with h | h | h | h | h | h | h | h | h | h | h | h | h <;> simp only [eq_true h, true_or, or_true])
      clear F2 N2 hrg
      (repeat' (first | (k_unfold; (try dsimp only)) | ((with_reducible show wpAny _ _ (exec (Stmt.While _ _ _ _) _) _ _ _); refine Mine.Hold.out ?_) | ((with_reducible show wpAny _ _ (eval (Expr.ListComp _ _ _ _) _) _ _ _); refine Mine.Hold.out ?_) | ((with_reducible show wpAny _ _ (storeName _ _ _) _ _ _); refine' storeX_L ?zzF ?zzN ?_ ?zza ?zzb; (case zzF => k_asm); (case zzN => k_asm); (case zza => rfl); (case zzb => rfl); k_whole; intro _ zF zN; (try dsimp only at zF); (try k_sweep); (revert zF zN; intro _ _)) | ((with_reducible show wpAny _ _ (call (Value.builtin "len") [Value.str (Str.mk (List.toArray _)) _]) _ _ _); refine' Mine.s_len ?zzk3 ?_; (case zzk3 => first | lia | (simp only [List.length_append, List.length_cons, List.length_nil]; lia)); intro _ _) | ((with_reducible show wpAny _ _ (call (Value.builtin "len") [Value.ref _]) _ _ _); refine' Mine.m_len ?zzk1 ?zzk2 ?zzk3 ?_; (case zzk1 => k_asm); (case zzk2 => k_mem); (case zzk3 => first | lia | (simp only [List.length_cons, List.length_nil, List.length_map, PySem.strValues]; omega))) | ((with_reducible show wpAny _ _ (subscriptTail (Expr.Name _ _) (Expr.Name _ _) (Value.ref _) (Value.int _ _)) _ _ _); (refine' Mine.m_item ?zzk1 ?zzk2 ?zzk3 ?zzk4 ?zzk5 ?_ ?zzk6; (case zzk1 => k_asm); (case zzk2 => k_mem); (case zzk3 => first | (with_reducible assumption) | lia); (case zzk4 => first | (with_reducible assumption) | lia); (case zzk5 => assumption); (case zzk6 => with_unfolding_all rfl))) | ((with_reducible show wpAny _ _ (subscriptTail (Expr.Name _ _) (Expr.Name _ _) (Value.str _ _) (Value.int _ _)) _ _ _); refine' Mine.s_item ?zzh0 ?zzh1 ?zzh2 ?_; (case zzh0 => lia); (case zzh1 => lia); (case zzh2 => assumption); intro _ _) | ((with_reducible show wpAny _ _ (binaryOp Operator.Add (Value.str _ _) (Value.str _ _)) _ _ _); refine' Mine.s_add ?zzk1 ?zzk2 ?zzk3 ?zzk4 ?_; (case zzk1 => first | exact Mine.sp_eq | exact Mine.no_eq | exact Mine.dots_eq | with_reducible exact rfl); (case zzk2 => first | exact Mine.sp_eq | exact Mine.no_eq | exact Mine.dots_eq | with_reducible exact rfl); (case zzk3 => first | assumption | lia | (simp only [List.length_append, List.length_cons, List.length_nil]; lia)); (case zzk4 => first | assumption | lia | (simp only [List.length_append, List.length_cons, List.length_nil]; lia)); intro _ _) | ((with_reducible show wpAny _ _ (eval (Expr.Name _ _) _) _ _ _); k_inBlock; (first | (refine' Mine.nameC_F ?zzN ?zzc ?zzm ?zzd ?_ ?zza ?zzb ?zze ?zzf; (case zza => rfl); (case zzb => rfl); (case zze => decide); (case zzf => decide); (case zzN => k_asm); (case zzc => rfl); (case zzm => k_mem); (case zzd => k_asm); k_whole) | (refine' Mine.nameC_B ?zzF ?zzX ?zzT ?zze ?zzv ?zzn ?_ ?zzg ?zzbn ?zzk ?zzx ?zzd; (case zzg => rfl); (case zzbn => rfl); (case zzk => rfl); (case zzx => rfl); (case zzd => decide); (case zzF => k_asm); (case zzX => k_asm); (case zzT => k_asm); (case zze => k_is); (case zzv => boot_fast); (case zzn => decide); k_whole))) | (first | (with_reducible show wpAny _ _ (call (Value.ref 107) _) _ _ _) | (with_reducible show wpAny _ _ (call (Value.ref 100) _) _ _ _) | (with_reducible show wpAny _ _ (call (Value.ref 114) _) _ _ _) | (with_reducible show wpAny _ _ (call (Value.ref 88) _) _ _ _)); (refine Hold.out ?_) | ((with_reducible show wpAny _ _ (call (Value.ref 81) _) _ _ _); refine' Mine.bisL_tells _ _ _ _ _ _ _ _ _ _ _ _ _ _ _ _ _ _ ?zzB ?zzF ?zzX ?zzN ?zzT ?zzhk _ _ _ _ _ _ ?zzhl ?zzhi ?zzhlen ?zzhd ?zzhu ?_; (case zzB => k_asm); (case zzF => k_asm); (case zzX => k_asm); (case zzN => k_asm); (case zzT => k_asm); (case zzhk => first | rfl | assumption); (case zzhl => k_mem); (case zzhi => assumption); (case zzhlen => lia); (case zzhd => k_room); (case zzhu => k_room); intro _ _ _ _ zN; (try dsimp only at zN); (try k_sweep); (revert zN; intro _)) | ((with_reducible show wpAny _ _ (exec (Stmt.For (Expr.Name _ _) (Expr.Call _ _ _ _) _ _ _) _) _ _ _); refine Hold.out ?_) | ((with_reducible show Mine.FlPost _ _ _ _ _ _ _ _ _ _); dsimp only [Mine.FlPost]) | (k_end; kc_close) | (walk1; (try dsimp only)) | (dsimp only; walk1) | (leave1; (try dsimp only)) | fail "no step"))
      rename Fr _ _ _ _ => F4
      rename News _ _ _ _ => N4
      rename_i oR hR
      replace hR : oR.data = .cell (some (.ref D3)) := hR
      refine Hold.mk ?_
      refine comp_CC (by with_unfolding_all rfl) (by rfl) (by decide) ?_
      (repeat' (first | (k_unfold; (try dsimp only)) | ((with_reducible show wpAny _ _ (exec (Stmt.While _ _ _ _) _) _ _ _); refine Mine.Hold.out ?_) | ((with_reducible show wpAny _ _ (eval (Expr.ListComp _ _ _ _) _) _ _ _); refine Mine.Hold.out ?_) | ((with_reducible show wpAny _ _ (storeName _ _ _) _ _ _); refine' storeX_L ?zzF ?zzN ?_ ?zza ?zzb; (case zzF => k_asm); (case zzN => k_asm); (case zza => rfl); (case zzb => rfl); k_whole; intro _ zF zN; (try dsimp only at zF); (try k_sweep); (revert zF zN; intro _ _)) | ((with_reducible show wpAny _ _ (call (Value.builtin "len") [Value.str (Str.mk (List.toArray _)) _]) _ _ _); refine' Mine.s_len ?zzk3 ?_; (case zzk3 => first | lia | (simp only [List.length_append, List.length_cons, List.length_nil]; lia)); intro _ _) | ((with_reducible show wpAny _ _ (call (Value.builtin "len") [Value.ref _]) _ _ _); refine' Mine.m_len ?zzk1 ?zzk2 ?zzk3 ?_; (case zzk1 => k_asm); (case zzk2 => k_mem); (case zzk3 => first | lia | (simp only [List.length_cons, List.length_nil, List.length_map, PySem.strValues]; omega))) | ((with_reducible show wpAny _ _ (subscriptTail (Expr.Name _ _) (Expr.Name _ _) (Value.ref _) (Value.int _ _)) _ _ _); (refine' Mine.m_item ?zzk1 ?zzk2 ?zzk3 ?zzk4 ?zzk5 ?_ ?zzk6; (case zzk1 => k_asm); (case zzk2 => k_mem); (case zzk3 => first | (with_reducible assumption) | lia); (case zzk4 => first | (with_reducible assumption) | lia); (case zzk5 => assumption); (case zzk6 => with_unfolding_all rfl))) | ((with_reducible show wpAny _ _ (subscriptTail (Expr.Name _ _) (Expr.Name _ _) (Value.str _ _) (Value.int _ _)) _ _ _); refine' Mine.s_item ?zzh0 ?zzh1 ?zzh2 ?_; (case zzh0 => lia); (case zzh1 => lia); (case zzh2 => assumption); intro _ _) | ((with_reducible show wpAny _ _ (binaryOp Operator.Add (Value.str _ _) (Value.str _ _)) _ _ _); refine' Mine.s_add ?zzk1 ?zzk2 ?zzk3 ?zzk4 ?_; (case zzk1 => first | exact Mine.sp_eq | exact Mine.no_eq | exact Mine.dots_eq | with_reducible exact rfl); (case zzk2 => first | exact Mine.sp_eq | exact Mine.no_eq | exact Mine.dots_eq | with_reducible exact rfl); (case zzk3 => first | assumption | lia | (simp only [List.length_append, List.length_cons, List.length_nil]; lia)); (case zzk4 => first | assumption | lia | (simp only [List.length_append, List.length_cons, List.length_nil]; lia)); intro _ _) | ((with_reducible show wpAny _ _ (eval (Expr.Name _ _) _) _ _ _); k_inBlock; (first | (refine' Mine.nameC_F ?zzN ?zzc ?zzm ?zzd ?_ ?zza ?zzb ?zze ?zzf; (case zza => rfl); (case zzb => rfl); (case zze => decide); (case zzf => decide); (case zzN => k_asm); (case zzc => rfl); (case zzm => k_mem); (case zzd => k_asm); k_whole) | (refine' Mine.nameC_B ?zzF ?zzX ?zzT ?zze ?zzv ?zzn ?_ ?zzg ?zzbn ?zzk ?zzx ?zzd; (case zzg => rfl); (case zzbn => rfl); (case zzk => rfl); (case zzx => rfl); (case zzd => decide); (case zzF => k_asm); (case zzX => k_asm); (case zzT => k_asm); (case zze => k_is); (case zzv => boot_fast); (case zzn => decide); k_whole))) | (first | (with_reducible show wpAny _ _ (call (Value.ref 107) _) _ _ _) | (with_reducible show wpAny _ _ (call (Value.ref 100) _) _ _ _) | (with_reducible show wpAny _ _ (call (Value.ref 114) _) _ _ _) | (with_reducible show wpAny _ _ (call (Value.ref 88) _) _ _ _)); (refine Hold.out ?_) | ((with_reducible show wpAny _ _ (call (Value.ref 81) _) _ _ _); refine' Mine.bisL_tells _ _ _ _ _ _ _ _ _ _ _ _ _ _ _ _ _ _ ?zzB ?zzF ?zzX ?zzN ?zzT ?zzhk _ _ _ _ _ _ ?zzhl ?zzhi ?zzhlen ?zzhd ?zzhu ?_; (case zzB => k_asm); (case zzF => k_asm); (case zzX => k_asm); (case zzN => k_asm); (case zzT => k_asm); (case zzhk => first | rfl | assumption); (case zzhl => k_mem); (case zzhi => assumption); (case zzhlen => lia); (case zzhd => k_room); (case zzhu => k_room); intro _ _ _ _ zN; (try dsimp only at zN); (try k_sweep); (revert zN; intro _)) | ((with_reducible show wpAny _ _ (exec (Stmt.For (Expr.Name _ _) (Expr.Call _ _ _ _) _ _ _) _) _ _ _); refine Hold.out ?_) | ((with_reducible show Mine.FlPost _ _ _ _ _ _ _ _ _ _); dsimp only [Mine.FlPost]) | (k_end; kc_close) | (walk1; (try dsimp only)) | (dsimp only; walk1) | (leave1; (try dsimp only)) | fail "no step"))
      rename IsRange _ _ _ _ _ _ _ _ => hrg
      rename Fr _ _ _ _ => F5
      rename News _ _ _ _ => N5
      generalize hG4 : ((D3, W.listOf ys3.toArray ys3.length) :: (D, W.listOf ys.toArray ys.length) :: (lm, W.listOf vm.toArray nm) :: (L' + 7, o0') :: (L' + 6, oR) :: (L' + 5, oH) :: (L' + 4, oM) :: (L' + 3, oB) :: (L' + 2, o5') :: (L' + 1, o6') :: (tb3 ++ (LL ++ rest))) = G4
      replace N5 : News _ _ _ G4 := hG4 ▸ N5
      have hG4m : ∀ p ∈ ((D3, W.listOf ys3.toArray ys3.length) :: (D, W.listOf ys.toArray ys.length) :: (lm, W.listOf vm.toArray nm) :: (L' + 7, o0') :: (L' + 6, oR) :: (L' + 5, oH) :: (L' + 4, oM) :: (L' + 3, oB) :: (L' + 2, o5') :: (L' + 1, o6') :: (tb3 ++ (LL ++ rest))), p ∈ G4 := fun p hp => hG4 ▸ hp
      have m3 : (L' + 3, oB) ∈ G4 := hG4m _ (by repeat (first | exact List.mem_cons_self | apply List.mem_cons_of_mem))
      have m6 : (L' + 6, oR) ∈ G4 := hG4m _ (by repeat (first | exact List.mem_cons_self | apply List.mem_cons_of_mem))
      have m7 : (L' + 7, o0') ∈ G4 := hG4m _ (by repeat (first | exact List.mem_cons_self | apply List.mem_cons_of_mem))
      have mD3 : (D3, W.listOf ys3.toArray ys3.length) ∈ G4 := hG4m _ (by repeat (first | exact List.mem_cons_self | apply List.mem_cons_of_mem))
      have mLL : ∀ q ∈ LL, q ∈ G4 := fun q hq => hG4m _ (by simp [hq])
      have hpl : ∀ k, k < 3 → (plFrom 0 ts ([l0,l1,l2].getD k 0)).length ≤ ts.length := fun k _ => plFrom_len _ _ _
      k_dflt (refine cc_range (n := ts.length + 2) (fun i ysL nw => ∃ LL2, (∀ p, p ∈ nw ↔ p ∈ LL2 ++ G4) ∧ (∀ q ∈ LL2, ∀ p ∈ G4, @Ne Nat q.1 p.1) ∧ RowsAre LL2 (fun p => (List.range 3).map fun k => leapV (plFrom 0 ts ([l0,l1,l2].getD k 0)) (p : Int) ((ts.length : Int) + 1)) i ysL) (by rfl) F5 N5 hrg hsm hsz (sz_of (n2_le hts)) (fun C => rfl) (fun h => rfl) (by rfl) (by rfl) ⟨[], fun p => Iff.rfl, (fun q hq => nomatch hq), rfl, fun k hk => absurd hk (Nat.not_lt_zero k)⟩ ?stepL ?finL)
      case stepL =>
        rintro i ysL nw t' I oI C oC K oK D4 h4 tk4 E' hi ⟨LL2, hnwL, hapL, hrowsL⟩ hcK ⟨_, hIK, _, hCK, _, hKD⟩ hapn F6 N6
        clear F5 N5 hrg
        replace N6 : News _ _ _ ((L' + 6, oR) :: (D3, W.listOf ys3.toArray ys3.length) :: (L' + 3, oB) :: (K, oK) :: (I, oI) :: (C, oC) :: (D4, lst ysL) :: nw) := fun q hq => N6 q (by
          simp only [List.mem_cons] at hq ⊢
          rcases hq with rfl | rfl | rfl | h | h | h | h | h
          · exact .inr (.inr (.inr (.inr ((hnwL _).mpr (List.mem_append_right _ m6)))))
          · exact .inr (.inr (.inr (.inr ((hnwL _).mpr (List.mem_append_right _ mD3)))))
          · exact .inr (.inr (.inr (.inr ((hnwL _).mpr (List.mem_append_right _ m3)))))
          all_goals simp only [eq_true h, true_or, or_true])
        (repeat' (first | (k_unfold; (try dsimp only)) | ((with_reducible show wpAny _ _ (exec (Stmt.While _ _ _ _) _) _ _ _); refine Mine.Hold.out ?_) | ((with_reducible show wpAny _ _ (eval (Expr.ListComp _ _ _ _) _) _ _ _); refine Mine.Hold.out ?_) | ((with_reducible show wpAny _ _ (storeName _ _ _) _ _ _); refine' storeX_L ?zzF ?zzN ?_ ?zza ?zzb; (case zzF => k_asm); (case zzN => k_asm); (case zza => rfl); (case zzb => rfl); k_whole; intro _ zF zN; (try dsimp only at zF); (try k_sweep); (revert zF zN; intro _ _)) | ((with_reducible show wpAny _ _ (call (Value.builtin "len") [Value.str (Str.mk (List.toArray _)) _]) _ _ _); refine' Mine.s_len ?zzk3 ?_; (case zzk3 => first | lia | (simp only [List.length_append, List.length_cons, List.length_nil]; lia)); intro _ _) | ((with_reducible show wpAny _ _ (call (Value.builtin "len") [Value.ref _]) _ _ _); refine' Mine.m_len ?zzk1 ?zzk2 ?zzk3 ?_; (case zzk1 => k_asm); (case zzk2 => k_mem); (case zzk3 => first | lia | (simp only [List.length_cons, List.length_nil, List.length_map, PySem.strValues]; omega))) | ((with_reducible show wpAny _ _ (subscriptTail (Expr.Name _ _) (Expr.Name _ _) (Value.ref _) (Value.int _ _)) _ _ _); (refine' Mine.m_item ?zzk1 ?zzk2 ?zzk3 ?zzk4 ?zzk5 ?_ ?zzk6; (case zzk1 => k_asm); (case zzk2 => k_mem); (case zzk3 => first | (with_reducible assumption) | lia); (case zzk4 => first | (with_reducible assumption) | lia); (case zzk5 => assumption); (case zzk6 => with_unfolding_all rfl))) | ((with_reducible show wpAny _ _ (subscriptTail (Expr.Name _ _) (Expr.Name _ _) (Value.str _ _) (Value.int _ _)) _ _ _); refine' Mine.s_item ?zzh0 ?zzh1 ?zzh2 ?_; (case zzh0 => lia); (case zzh1 => lia); (case zzh2 => assumption); intro _ _) | ((with_reducible show wpAny _ _ (binaryOp Operator.Add (Value.str _ _) (Value.str _ _)) _ _ _); refine' Mine.s_add ?zzk1 ?zzk2 ?zzk3 ?zzk4 ?_; (case zzk1 => first | exact Mine.sp_eq | exact Mine.no_eq | exact Mine.dots_eq | with_reducible exact rfl); (case zzk2 => first | exact Mine.sp_eq | exact Mine.no_eq | exact Mine.dots_eq | with_reducible exact rfl); (case zzk3 => first | assumption | lia | (simp only [List.length_append, List.length_cons, List.length_nil]; lia)); (case zzk4 => first | assumption | lia | (simp only [List.length_append, List.length_cons, List.length_nil]; lia)); intro _ _) | ((with_reducible show wpAny _ _ (eval (Expr.Name _ _) _) _ _ _); k_inBlock; (first | (refine' Mine.nameC_F ?zzN ?zzc ?zzm ?zzd ?_ ?zza ?zzb ?zze ?zzf; (case zza => rfl); (case zzb => rfl); (case zze => decide); (case zzf => decide); (case zzN => k_asm); (case zzc => rfl); (case zzm => k_mem); (case zzd => k_asm); k_whole) | (refine' Mine.nameC_B ?zzF ?zzX ?zzT ?zze ?zzv ?zzn ?_ ?zzg ?zzbn ?zzk ?zzx ?zzd; (case zzg => rfl); (case zzbn => rfl); (case zzk => rfl); (case zzx => rfl); (case zzd => decide); (case zzF => k_asm); (case zzX => k_asm); (case zzT => k_asm); (case zze => k_is); (case zzv => boot_fast); (case zzn => decide); k_whole))) | (first | (with_reducible show wpAny _ _ (call (Value.ref 107) _) _ _ _) | (with_reducible show wpAny _ _ (call (Value.ref 100) _) _ _ _) | (with_reducible show wpAny _ _ (call (Value.ref 114) _) _ _ _) | (with_reducible show wpAny _ _ (call (Value.ref 88) _) _ _ _)); (refine Hold.out ?_) | ((with_reducible show wpAny _ _ (call (Value.ref 81) _) _ _ _); refine' Mine.bisL_tells _ _ _ _ _ _ _ _ _ _ _ _ _ _ _ _ _ _ ?zzB ?zzF ?zzX ?zzN ?zzT ?zzhk _ _ _ _ _ _ ?zzhl ?zzhi ?zzhlen ?zzhd ?zzhu ?_; (case zzB => k_asm); (case zzF => k_asm); (case zzX => k_asm); (case zzN => k_asm); (case zzT => k_asm); (case zzhk => first | rfl | assumption); (case zzhl => k_mem); (case zzhi => assumption); (case zzhlen => lia); (case zzhd => k_room); (case zzhu => k_room); intro _ _ _ _ zN; (try dsimp only at zN); (try k_sweep); (revert zN; intro _)) | ((with_reducible show wpAny _ _ (exec (Stmt.For (Expr.Name _ _) (Expr.Call _ _ _ _) _ _ _) _) _ _ _); refine Hold.out ?_) | ((with_reducible show Mine.FlPost _ _ _ _ _ _ _ _ _ _); dsimp only [Mine.FlPost]) | (k_end; kc_close) | (walk1; (try dsimp only)) | (dsimp only; walk1) | (leave1; (try dsimp only)) | fail "no step"))
        refine Hold.mk ?_
        refine comp_G F6 (by with_unfolding_all rfl) (by decide) (by rfl) (by decide) (by rfl) ?_
        (repeat' (first | (k_unfold; (try dsimp only)) | ((with_reducible show wpAny _ _ (exec (Stmt.While _ _ _ _) _) _ _ _); refine Mine.Hold.out ?_) | ((with_reducible show wpAny _ _ (eval (Expr.ListComp _ _ _ _) _) _ _ _); refine Mine.Hold.out ?_) | ((with_reducible show wpAny _ _ (storeName _ _ _) _ _ _); refine' storeX_L ?zzF ?zzN ?_ ?zza ?zzb; (case zzF => k_asm); (case zzN => k_asm); (case zza => rfl); (case zzb => rfl); k_whole; intro _ zF zN; (try dsimp only at zF); (try k_sweep); (revert zF zN; intro _ _)) | ((with_reducible show wpAny _ _ (call (Value.builtin "len") [Value.str (Str.mk (List.toArray _)) _]) _ _ _); refine' Mine.s_len ?zzk3 ?_; (case zzk3 => first | lia | (simp only [List.length_append, List.length_cons, List.length_nil]; lia)); intro _ _) | ((with_reducible show wpAny _ _ (call (Value.builtin "len") [Value.ref _]) _ _ _); refine' Mine.m_len ?zzk1 ?zzk2 ?zzk3 ?_; (case zzk1 => k_asm); (case zzk2 => k_mem); (case zzk3 => first | lia | (simp only [List.length_cons, List.length_nil, List.length_map, PySem.strValues]; omega))) | ((with_reducible show wpAny _ _ (subscriptTail (Expr.Name _ _) (Expr.Name _ _) (Value.ref _) (Value.int _ _)) _ _ _); (refine' Mine.m_item ?zzk1 ?zzk2 ?zzk3 ?zzk4 ?zzk5 ?_ ?zzk6; (case zzk1 => k_asm); (case zzk2 => k_mem); (case zzk3 => first | (with_reducible assumption) | lia); (case zzk4 => first | (with_reducible assumption) | lia); (case zzk5 => assumption); (case zzk6 => with_unfolding_all rfl))) | ((with_reducible show wpAny _ _ (subscriptTail (Expr.Name _ _) (Expr.Name _ _) (Value.str _ _) (Value.int _ _)) _ _ _); refine' Mine.s_item ?zzh0 ?zzh1 ?zzh2 ?_; (case zzh0 => lia); (case zzh1 => lia); (case zzh2 => assumption); intro _ _) | ((with_reducible show wpAny _ _ (binaryOp Operator.Add (Value.str _ _) (Value.str _ _)) _ _ _); refine' Mine.s_add ?zzk1 ?zzk2 ?zzk3 ?zzk4 ?_; (case zzk1 => first | exact Mine.sp_eq | exact Mine.no_eq | exact Mine.dots_eq | with_reducible exact rfl); (case zzk2 => first | exact Mine.sp_eq | exact Mine.no_eq | exact Mine.dots_eq | with_reducible exact rfl); (case zzk3 => first | assumption | lia | (simp only [List.length_append, List.length_cons, List.length_nil]; lia)); (case zzk4 => first | assumption | lia | (simp only [List.length_append, List.length_cons, List.length_nil]; lia)); intro _ _) | ((with_reducible show wpAny _ _ (eval (Expr.Name _ _) _) _ _ _); k_inBlock; (first | (refine' Mine.nameC_F ?zzN ?zzc ?zzm ?zzd ?_ ?zza ?zzb ?zze ?zzf; (case zza => rfl); (case zzb => rfl); (case zze => decide); (case zzf => decide); (case zzN => k_asm); (case zzc => rfl); (case zzm => k_mem); (case zzd => k_asm); k_whole) | (refine' Mine.nameC_B ?zzF ?zzX ?zzT ?zze ?zzv ?zzn ?_ ?zzg ?zzbn ?zzk ?zzx ?zzd; (case zzg => rfl); (case zzbn => rfl); (case zzk => rfl); (case zzx => rfl); (case zzd => decide); (case zzF => k_asm); (case zzX => k_asm); (case zzT => k_asm); (case zze => k_is); (case zzv => boot_fast); (case zzn => decide); k_whole))) | (first | (with_reducible show wpAny _ _ (call (Value.ref 107) _) _ _ _) | (with_reducible show wpAny _ _ (call (Value.ref 100) _) _ _ _) | (with_reducible show wpAny _ _ (call (Value.ref 114) _) _ _ _) | (with_reducible show wpAny _ _ (call (Value.ref 88) _) _ _ _)); (refine Hold.out ?_) | ((with_reducible show wpAny _ _ (call (Value.ref 81) _) _ _ _); refine' Mine.bisL_tells _ _ _ _ _ _ _ _ _ _ _ _ _ _ _ _ _ _ ?zzB ?zzF ?zzX ?zzN ?zzT ?zzhk _ _ _ _ _ _ ?zzhl ?zzhi ?zzhlen ?zzhd ?zzhu ?_; (case zzB => k_asm); (case zzF => k_asm); (case zzX => k_asm); (case zzN => k_asm); (case zzT => k_asm); (case zzhk => first | rfl | assumption); (case zzhl => k_mem); (case zzhi => assumption); (case zzhlen => lia); (case zzhd => k_room); (case zzhu => k_room); intro _ _ _ _ zN; (try dsimp only at zN); (try k_sweep); (revert zN; intro _)) | ((with_reducible show wpAny _ _ (exec (Stmt.For (Expr.Name _ _) (Expr.Call _ _ _ _) _ _ _) _) _ _ _); refine Hold.out ?_) | ((with_reducible show Mine.FlPost _ _ _ _ _ _ _ _ _ _); dsimp only [Mine.FlPost]) | (k_end; kc_close) | (walk1; (try dsimp only)) | (dsimp only; walk1) | (leave1; (try dsimp only)) | fail "no step"))
        rename IsRange _ _ _ _ _ _ _ _ => hrg
        rename Fr _ _ _ _ => F7
        rename News _ _ _ _ => N7
        k_dflt (refine src_range (n := 3) (by rfl) F7 N7 hrg rng3.1 rng3.2 sz3 fun g => rest_induct (fun i2 ys2 nw2 => nw2 = (L' + 6, oR) :: (D3, W.listOf ys3.toArray ys3.length) :: (L' + 3, oB) :: (K, oK) :: (I, oI) :: (C, oC) :: (D4, lst ysL) :: nw ∧ IntsAre ys2 ((List.range i2).map fun k => leapV (plFrom 0 ts ([l0,l1,l2].getD k 0)) (i : Int) ((ts.length : Int) + 1))) ⟨rfl, .nil⟩ ?stepI ?finI)
        case stepI =>
          intro i2 ys2 nw2 v2 I2 oI2 C2 oC2 D5 m5 h5 tk5 E5 hi2 ⟨hnw2, hys2⟩ hP2 hC2 hx2 F8 N8 off8 ne8
          obtain ⟨t8, rfl⟩ := hP2
          subst hnw2
          obtain ⟨lr, nr, vr, r1, r2, r3⟩ := hrows.2 i2 hi2
          have r1' : ys3[((0 : Int) + (i2 : Int)).toNat]? = some (.ref lr) := by rw [Int.zero_add, Int.toNat_natCast]; exact r1
          clear F7 N7 hrg
          (repeat' (first | (k_unfold; (try dsimp only)) | ((with_reducible show wpAny _ _ (exec (Stmt.While _ _ _ _) _) _ _ _); refine Mine.Hold.out ?_) | ((with_reducible show wpAny _ _ (eval (Expr.ListComp _ _ _ _) _) _ _ _); refine Mine.Hold.out ?_) | ((with_reducible show wpAny _ _ (storeName _ _ _) _ _ _); refine' storeX_L ?zzF ?zzN ?_ ?zza ?zzb; (case zzF => k_asm); (case zzN => k_asm); (case zza => rfl); (case zzb => rfl); k_whole; intro _ zF zN; (try dsimp only at zF); (try k_sweep); (revert zF zN; intro _ _)) | ((with_reducible show wpAny _ _ (call (Value.builtin "len") [Value.str (Str.mk (List.toArray _)) _]) _ _ _); refine' Mine.s_len ?zzk3 ?_; (case zzk3 => first | lia | (simp only [List.length_append, List.length_cons, List.length_nil]; lia)); intro _ _) | ((with_reducible show wpAny _ _ (call (Value.builtin "len") [Value.ref _]) _ _ _); refine' Mine.m_len ?zzk1 ?zzk2 ?zzk3 ?_; (case zzk1 => k_asm); (case zzk2 => k_mem); (case zzk3 => first | lia | (simp only [List.length_cons, List.length_nil, List.length_map, PySem.strValues]; omega))) | ((with_reducible show wpAny _ _ (subscriptTail (Expr.Name _ _) (Expr.Name _ _) (Value.ref _) (Value.int _ _)) _ _ _); (refine' Mine.m_item ?zzk1 ?zzk2 ?zzk3 ?zzk4 ?zzk5 ?_ ?zzk6; (case zzk1 => k_asm); (case zzk2 => k_mem); (case zzk3 => first | (with_reducible assumption) | lia); (case zzk4 => first | (with_reducible assumption) | lia); (case zzk5 => assumption); (case zzk6 => with_unfolding_all rfl))) | ((with_reducible show wpAny _ _ (subscriptTail (Expr.Name _ _) (Expr.Name _ _) (Value.str _ _) (Value.int _ _)) _ _ _); refine' Mine.s_item ?zzh0 ?zzh1 ?zzh2 ?_; (case zzh0 => lia); (case zzh1 => lia); (case zzh2 => assumption); intro _ _) | ((with_reducible show wpAny _ _ (binaryOp Operator.Add (Value.str _ _) (Value.str _ _)) _ _ _); refine' Mine.s_add ?zzk1 ?zzk2 ?zzk3 ?zzk4 ?_; (case zzk1 => first | exact Mine.sp_eq | exact Mine.no_eq | exact Mine.dots_eq | with_reducible exact rfl); (case zzk2 => first | exact Mine.sp_eq | exact Mine.no_eq | exact Mine.dots_eq | with_reducible exact rfl); (case zzk3 => first | assumption | lia | (simp only [List.length_append, List.length_cons, List.length_nil]; lia)); (case zzk4 => first | assumption | lia | (simp only [List.length_append, List.length_cons, List.length_nil]; lia)); intro _ _) | ((with_reducible show wpAny _ _ (eval (Expr.Name _ _) _) _ _ _); k_inBlock; (first | (refine' Mine.nameC_F ?zzN ?zzc ?zzm ?zzd ?_ ?zza ?zzb ?zze ?zzf; (case zza => rfl); (case zzb => rfl); (case zze => decide); (case zzf => decide); (case zzN => k_asm); (case zzc => rfl); (case zzm => k_mem); (case zzd => k_asm); k_whole) | (refine' Mine.nameC_B ?zzF ?zzX ?zzT ?zze ?zzv ?zzn ?_ ?zzg ?zzbn ?zzk ?zzx ?zzd; (case zzg => rfl); (case zzbn => rfl); (case zzk => rfl); (case zzx => rfl); (case zzd => decide); (case zzF => k_asm); (case zzX => k_asm); (case zzT => k_asm); (case zze => k_is); (case zzv => boot_fast); (case zzn => decide); k_whole))) | (first | (with_reducible show wpAny _ _ (call (Value.ref 107) _) _ _ _) | (with_reducible show wpAny _ _ (call (Value.ref 100) _) _ _ _) | (with_reducible show wpAny _ _ (call (Value.ref 114) _) _ _ _) | (with_reducible show wpAny _ _ (call (Value.ref 88) _) _ _ _)); (refine Hold.out ?_) | ((with_reducible show wpAny _ _ (call (Value.ref 81) _) _ _ _); refine' Mine.bisL_tells _ _ _ _ _ _ _ _ _ _ _ _ _ _ _ _ _ _ ?zzB ?zzF ?zzX ?zzN ?zzT ?zzhk _ _ _ _ _ _ ?zzhl ?zzhi ?zzhlen ?zzhd ?zzhu ?_; (case zzB => k_asm); (case zzF => k_asm); (case zzX => k_asm); (case zzN => k_asm); (case zzT => k_asm); (case zzhk => first | rfl | assumption); (case zzhl => k_mem); (case zzhi => assumption); (case zzhlen => lia); (case zzhd => k_room); (case zzhu => k_room); intro _ _ _ _ zN; (try dsimp only at zN); (try k_sweep); (revert zN; intro _)) | ((with_reducible show wpAny _ _ (exec (Stmt.For (Expr.Name _ _) (Expr.Call _ _ _ _) _ _ _) _) _ _ _); refine Hold.out ?_) | ((with_reducible show Mine.FlPost _ _ _ _ _ _ _ _ _ _); dsimp only [Mine.FlPost]) | (k_end; kc_close) | (walk1; (try dsimp only)) | (dsimp only; walk1) | (leave1; (try dsimp only)) | fail "no step"))
          refine Hold.mk ?_
          rename Fr _ _ _ _ => F9
          rename News _ _ _ _ => N9
          k_dflt (refine' leap_use _ _ _ _ _ _ _ _ _ _ _ _ _ _ _ _ _ _ ?B F9 ?X N9 ?T ?hk lr nr vr _ _ _ _ _ ?hl r3 ?hlen ?hd ?hu ?hret)
          case B => exact B'
          case X => exact X'
          case T => exact T'
          case hk => rfl
          case hl => have := (hnwL _).mpr (List.mem_append_right _ (mLL _ r2)); simp [this]
          case hlen => exact len_small' (IntsAre.length r3) (hpl i2 hi2) hts
          case hd => exact room1 hd (by decide)
          case hu => exact room3 hu (by decide)
          case hret =>
            intro t9 h9 tk9 F10 N10
            refine CompEnd.intro F10 N10 _ (fun _ h => h) off8 trivial ⟨rfl, ?_⟩
            rw [List.range_succ, List.map_append]
            exact intsAre_snoc hys2 _ _
        case finI =>
          rintro ys2 nw2 ⟨hnw2, hys2⟩ D5 h5 tk5 F8 N8 off8
          subst hnw2
          have hD5 : ∀ p ∈ nw, @Ne Nat p.1 D5 := fun p hp => off1_mem off8 p (by simp [hp])
          refine Hold.mk ⟨h5, tk5, (D5, lst ys2) :: nw, rfl, F8, ?_, ?_, (D5, W.listOf ys2.toArray ys2.length) :: LL2, ?_, ?_, hrowsL.snoc hys2⟩
          · intro q hq
            refine N8 q ?_
            simp only [List.mem_cons] at hq ⊢
            rcases hq with h | h | h | h | h | h <;> simp only [eq_true h, true_or, or_true]
          · intro p hp
            rcases List.mem_cons.mp hp with rfl | hp
            · exact ⟨Ne.symm (off1_mem off8 (I, oI) (by repeat (first | exact List.mem_cons_self | apply List.mem_cons_of_mem))), Ne.symm (off1_mem off8 (C, oC) (by repeat (first | exact List.mem_cons_self | apply List.mem_cons_of_mem))), Ne.symm (off1_mem off8 (K, oK) (by repeat (first | exact List.mem_cons_self | apply List.mem_cons_of_mem))), Ne.symm (off1_mem off8 (D4, lst ysL) (by repeat (first | exact List.mem_cons_self | apply List.mem_cons_of_mem)))⟩
            · exact hapn p hp
          · intro p
            rw [List.cons_append, List.mem_cons, List.mem_cons, hnwL]
          · intro q hq p hp
            rcases List.mem_cons.mp hq with rfl | hq
            · exact Ne.symm (hD5 p ((hnwL p).mpr (List.mem_append_right _ hp)))
            · exact hapL q hq p hp
      case finL =>
        rintro D6 h6 tk6 ysL nw ⟨LL2, hnwL, hapL, hrowsL⟩ F6 N6 off6
        rw [lst_eq] at N6
        have f7 : @Ne Nat (L' + 7) D6 := off6 (L' + 7, o0') ((hnwL _).mpr (List.mem_append_right _ m7))
        have hx7L : ∀ q ∈ LL2 ++ (tb3 ++ (LL ++ rest)), q.1 ≠ L' + 7 := by
          intro q hq
          rcases List.mem_append.mp hq with hq | hq
          · exact hapL q hq (L' + 7, o0') m7
          · exact hx7 q hq
        replace N6 : News _ _ _ ((D6, W.listOf ysL.toArray ysL.length) :: (D3, W.listOf ys3.toArray ys3.length) :: (D, W.listOf ys.toArray ys.length) :: (lm, W.listOf vm.toArray nm) :: (L' + 7, o0') :: (L' + 6, oR) :: (L' + 5, oH) :: (L' + 4, oM) :: (L' + 3, oB) :: (L' + 2, o5') :: (L' + 1, o6') :: (LL2 ++ (tb3 ++ (LL ++ rest)))) := fun q hq => N6 q (by
          rw [List.mem_cons, hnwL, List.mem_append, ← hG4]
          simp only [List.mem_append, List.mem_cons] at hq ⊢
          rcases hq with h | h | h | h | h | h | h | h | h | h | h | h | h | h | h <;> simp only [eq_true h, true_or, or_true])
        clear F5 N5 hrg
        (repeat' (first | (k_unfold; (try dsimp only)) | ((with_reducible show wpAny _ _ (exec (Stmt.While _ _ _ _) _) _ _ _); refine Mine.Hold.out ?_) | ((with_reducible show wpAny _ _ (eval (Expr.ListComp _ _ _ _) _) _ _ _); refine Mine.Hold.out ?_) | ((with_reducible show wpAny _ _ (storeName _ _ _) _ _ _); refine' storeX_L ?zzF ?zzN ?_ ?zza ?zzb; (case zzF => k_asm); (case zzN => k_asm); (case zza => rfl); (case zzb => rfl); k_whole; intro _ zF zN; (try dsimp only at zF); (try k_sweep); (revert zF zN; intro _ _)) | ((with_reducible show wpAny _ _ (call (Value.builtin "len") [Value.str (Str.mk (List.toArray _)) _]) _ _ _); refine' Mine.s_len ?zzk3 ?_; (case zzk3 => first | lia | (simp only [List.length_append, List.length_cons, List.length_nil]; lia)); intro _ _) | ((with_reducible show wpAny _ _ (call (Value.builtin "len") [Value.ref _]) _ _ _); refine' Mine.m_len ?zzk1 ?zzk2 ?zzk3 ?_; (case zzk1 => k_asm); (case zzk2 => k_mem); (case zzk3 => first | lia | (simp only [List.length_cons, List.length_nil, List.length_map, PySem.strValues]; omega))) | ((with_reducible show wpAny _ _ (subscriptTail (Expr.Name _ _) (Expr.Name _ _) (Value.ref _) (Value.int _ _)) _ _ _); (refine' Mine.m_item ?zzk1 ?zzk2 ?zzk3 ?zzk4 ?zzk5 ?_ ?zzk6; (case zzk1 => k_asm); (case zzk2 => k_mem); (case zzk3 => first | (with_reducible assumption) | lia); (case zzk4 => first | (with_reducible assumption) | lia); (case zzk5 => assumption); (case zzk6 => with_unfolding_all rfl))) | ((with_reducible show wpAny _ _ (subscriptTail (Expr.Name _ _) (Expr.Name _ _) (Value.str _ _) (Value.int _ _)) _ _ _); refine' Mine.s_item ?zzh0 ?zzh1 ?zzh2 ?_; (case zzh0 => lia); (case zzh1 => lia); (case zzh2 => assumption); intro _ _) | ((with_reducible show wpAny _ _ (binaryOp Operator.Add (Value.str _ _) (Value.str _ _)) _ _ _); refine' Mine.s_add ?zzk1 ?zzk2 ?zzk3 ?zzk4 ?_; (case zzk1 => first | exact Mine.sp_eq | exact Mine.no_eq | exact Mine.dots_eq | with_reducible exact rfl); (case zzk2 => first | exact Mine.sp_eq | exact Mine.no_eq | exact Mine.dots_eq | with_reducible exact rfl); (case zzk3 => first | assumption | lia | (simp only [List.length_append, List.length_cons, List.length_nil]; lia)); (case zzk4 => first | assumption | lia | (simp only [List.length_append, List.length_cons, List.length_nil]; lia)); intro _ _) | ((with_reducible show wpAny _ _ (eval (Expr.Name _ _) _) _ _ _); k_inBlock; (first | (refine' Mine.nameC_F ?zzN ?zzc ?zzm ?zzd ?_ ?zza ?zzb ?zze ?zzf; (case zza => rfl); (case zzb => rfl); (case zze => decide); (case zzf => decide); (case zzN => k_asm); (case zzc => rfl); (case zzm => k_mem); (case zzd => k_asm); k_whole) | (refine' Mine.nameC_B ?zzF ?zzX ?zzT ?zze ?zzv ?zzn ?_ ?zzg ?zzbn ?zzk ?zzx ?zzd; (case zzg => rfl); (case zzbn => rfl); (case zzk => rfl); (case zzx => rfl); (case zzd => decide); (case zzF => k_asm); (case zzX => k_asm); (case zzT => k_asm); (case zze => k_is); (case zzv => boot_fast); (case zzn => decide); k_whole))) | (first | (with_reducible show wpAny _ _ (call (Value.ref 107) _) _ _ _) | (with_reducible show wpAny _ _ (call (Value.ref 100) _) _ _ _) | (with_reducible show wpAny _ _ (call (Value.ref 114) _) _ _ _) | (with_reducible show wpAny _ _ (call (Value.ref 88) _) _ _ _)); (refine Hold.out ?_) | ((with_reducible show wpAny _ _ (call (Value.ref 81) _) _ _ _); refine' Mine.bisL_tells _ _ _ _ _ _ _ _ _ _ _ _ _ _ _ _ _ _ ?zzB ?zzF ?zzX ?zzN ?zzT ?zzhk _ _ _ _ _ _ ?zzhl ?zzhi ?zzhlen ?zzhd ?zzhu ?_; (case zzB => k_asm); (case zzF => k_asm); (case zzX => k_asm); (case zzN => k_asm); (case zzT => k_asm); (case zzhk => first | rfl | assumption); (case zzhl => k_mem); (case zzhi => assumption); (case zzhlen => lia); (case zzhd => k_room); (case zzhu => k_room); intro _ _ _ _ zN; (try dsimp only at zN); (try k_sweep); (revert zN; intro _)) | ((with_reducible show wpAny _ _ (exec (Stmt.For (Expr.Name _ _) (Expr.Call _ _ _ _) _ _ _) _) _ _ _); refine Hold.out ?_) | ((with_reducible show Mine.FlPost _ _ _ _ _ _ _ _ _ _); dsimp only [Mine.FlPost]) | (k_end; kc_close) | (walk1; (try dsimp only)) | (dsimp only; walk1) | (leave1; (try dsimp only)) | fail "no step"))
        rename Fr _ _ _ _ => F7
        rename News _ _ _ _ => N7
        rename_i oL hLc
        replace hLc : oL.data = .cell (some (.ref D6)) := hLc
        refine Hold.mk (fl_for ?_)
        (repeat' (first | (k_unfold; (try dsimp only)) | ((with_reducible show wpAny _ _ (exec (Stmt.While _ _ _ _) _) _ _ _); refine Mine.Hold.out ?_) | ((with_reducible show wpAny _ _ (eval (Expr.ListComp _ _ _ _) _) _ _ _); refine Mine.Hold.out ?_) | ((with_reducible show wpAny _ _ (storeName _ _ _) _ _ _); refine' storeX_L ?zzF ?zzN ?_ ?zza ?zzb; (case zzF => k_asm); (case zzN => k_asm); (case zza => rfl); (case zzb => rfl); k_whole; intro _ zF zN; (try dsimp only at zF); (try k_sweep); (revert zF zN; intro _ _)) | ((with_reducible show wpAny _ _ (call (Value.builtin "len") [Value.str (Str.mk (List.toArray _)) _]) _ _ _); refine' Mine.s_len ?zzk3 ?_; (case zzk3 => first | lia | (simp only [List.length_append, List.length_cons, List.length_nil]; lia)); intro _ _) | ((with_reducible show wpAny _ _ (call (Value.builtin "len") [Value.ref _]) _ _ _); refine' Mine.m_len ?zzk1 ?zzk2 ?zzk3 ?_; (case zzk1 => k_asm); (case zzk2 => k_mem); (case zzk3 => first | lia | (simp only [List.length_cons, List.length_nil, List.length_map, PySem.strValues]; omega))) | ((with_reducible show wpAny _ _ (subscriptTail (Expr.Name _ _) (Expr.Name _ _) (Value.ref _) (Value.int _ _)) _ _ _); (refine' Mine.m_item ?zzk1 ?zzk2 ?zzk3 ?zzk4 ?zzk5 ?_ ?zzk6; (case zzk1 => k_asm); (case zzk2 => k_mem); (case zzk3 => first | (with_reducible assumption) | lia); (case zzk4 => first | (with_reducible assumption) | lia); (case zzk5 => assumption); (case zzk6 => with_unfolding_all rfl))) | ((with_reducible show wpAny _ _ (subscriptTail (Expr.Name _ _) (Expr.Name _ _) (Value.str _ _) (Value.int _ _)) _ _ _); refine' Mine.s_item ?zzh0 ?zzh1 ?zzh2 ?_; (case zzh0 => lia); (case zzh1 => lia); (case zzh2 => assumption); intro _ _) | ((with_reducible show wpAny _ _ (binaryOp Operator.Add (Value.str _ _) (Value.str _ _)) _ _ _); refine' Mine.s_add ?zzk1 ?zzk2 ?zzk3 ?zzk4 ?_; (case zzk1 => first | exact Mine.sp_eq | exact Mine.no_eq | exact Mine.dots_eq | with_reducible exact rfl); (case zzk2 => first | exact Mine.sp_eq | exact Mine.no_eq | exact Mine.dots_eq | with_reducible exact rfl); (case zzk3 => first | assumption | lia | (simp only [List.length_append, List.length_cons, List.length_nil]; lia)); (case zzk4 => first | assumption | lia | (simp only [List.length_append, List.length_cons, List.length_nil]; lia)); intro _ _) | ((with_reducible show wpAny _ _ (eval (Expr.Name _ _) _) _ _ _); k_inBlock; (first | (refine' Mine.nameC_F ?zzN ?zzc ?zzm ?zzd ?_ ?zza ?zzb ?zze ?zzf; (case zza => rfl); (case zzb => rfl); (case zze => decide); (case zzf => decide); (case zzN => k_asm); (case zzc => rfl); (case zzm => k_mem); (case zzd => k_asm); k_whole) | (refine' Mine.nameC_B ?zzF ?zzX ?zzT ?zze ?zzv ?zzn ?_ ?zzg ?zzbn ?zzk ?zzx ?zzd; (case zzg => rfl); (case zzbn => rfl); (case zzk => rfl); (case zzx => rfl); (case zzd => decide); (case zzF => k_asm); (case zzX => k_asm); (case zzT => k_asm); (case zze => k_is); (case zzv => boot_fast); (case zzn => decide); k_whole))) | (first | (with_reducible show wpAny _ _ (call (Value.ref 107) _) _ _ _) | (with_reducible show wpAny _ _ (call (Value.ref 100) _) _ _ _) | (with_reducible show wpAny _ _ (call (Value.ref 114) _) _ _ _) | (with_reducible show wpAny _ _ (call (Value.ref 88) _) _ _ _)); (refine Hold.out ?_) | ((with_reducible show wpAny _ _ (call (Value.ref 81) _) _ _ _); refine' Mine.bisL_tells _ _ _ _ _ _ _ _ _ _ _ _ _ _ _ _ _ _ ?zzB ?zzF ?zzX ?zzN ?zzT ?zzhk _ _ _ _ _ _ ?zzhl ?zzhi ?zzhlen ?zzhd ?zzhu ?_; (case zzB => k_asm); (case zzF => k_asm); (case zzX => k_asm); (case zzN => k_asm); (case zzT => k_asm); (case zzhk => first | rfl | assumption); (case zzhl => k_mem); (case zzhi => assumption); (case zzhlen => lia); (case zzhd => k_room); (case zzhu => k_room); intro _ _ _ _ zN; (try dsimp only at zN); (try k_sweep); (revert zN; intro _)) | ((with_reducible show wpAny _ _ (exec (Stmt.For (Expr.Name _ _) (Expr.Call _ _ _ _) _ _ _) _) _ _ _); refine Hold.out ?_) | ((with_reducible show Mine.FlPost _ _ _ _ _ _ _ _ _ _); dsimp only [Mine.FlPost]) | (k_end; kc_close) | (walk1; (try dsimp only)) | (dsimp only; walk1) | (leave1; (try dsimp only)) | fail "no step"))
        rename IsRange _ _ _ _ _ _ _ _ => hrg
        rename Fr _ _ _ _ => F8
        rename News _ _ _ _ => N8
        generalize hG6 : ((D6, W.listOf ysL.toArray ysL.length) :: (D3, W.listOf ys3.toArray ys3.length) :: (D, W.listOf ys.toArray ys.length) :: (lm, W.listOf vm.toArray nm) :: (L' + 7, oL) :: (L' + 6, oR) :: (L' + 5, oH) :: (L' + 4, oM) :: (L' + 3, oB) :: (L' + 2, o5') :: (L' + 1, o6') :: (LL2 ++ (tb3 ++ (LL ++ rest)))) = G6
        replace N8 : News _ _ _ G6 := hG6 ▸ N8
        have m1 : (L' + 1, o6') ∈ G6 := by rw [← hG6]; simp
        have m2 : (L' + 2, o5') ∈ G6 := by rw [← hG6]; simp
        have m5 : (L' + 5, oH) ∈ G6 := by rw [← hG6]; simp
        have m7 : (L' + 7, oL) ∈ G6 := by rw [← hG6]; simp
        have mD : (D, W.listOf ys.toArray ys.length) ∈ G6 := by rw [← hG6]; simp
        have mD6 : (D6, W.listOf ysL.toArray ysL.length) ∈ G6 := by rw [← hG6]; simp
        have mLL2 : ∀ q ∈ LL2, q ∈ G6 := fun q hq => by rw [← hG6]; simp [hq]
        have hlets : ∀ x ∈ ts, x ∈ [l0, l1, l2] := fun x hx => by
          rcases hlet x hx with rfl | rfl | rfl <;> simp
        have hHt : ∀ p : Nat, p < ts.length + 2 → ∃ t, ys[((p : Nat) : Int).toNat]? = some (.int (hV ts (p : Int)) t) := fun p hp => by
          rw [Int.toNat_natCast]
          refine ints_get hys ?_
          rw [List.getElem?_map, List.getElem?_range hp]
          have := IntsAre.length hvm
          simp only [Option.map_some, hV, this]
        obtain ⟨hsmB, hszB⟩ := rng_ok (b := (ts.length : Int) + 1) (k := ts.length + 1) (by lia) (by lia)
        k_dflt (refine' fl_range (n := ts.length + 1) (fun I i m nw => nw = G6) (by rfl) hrg hsmB hszB (fun _ _ => rfl) F8 N8 (fun _ _ => rfl) ?step ?fin (by passes_own))
        case step =>
          rintro I i t' m9 nw o h9 tk9 hi hI rfl hne F9 N9
          clear F8 N8 hrg hI
          replace F9 : Fr g' L' h9 (kstB m9 []) := F9
          obtain ⟨tH, hHi⟩ := hHt i (by lia)
          rw [Int.zero_add]
          obtain ⟨hV0, hV3⟩ := hV_le hdl hlets hts (i : Int)
          replace N9 : News g' L' h9 ((L' + 5, oH) :: (D, W.listOf ys.toArray ys.length) :: (I, o) :: nw) := fun q hq => N9 q (by
            simp only [List.mem_cons] at hq ⊢
            rcases hq with rfl | rfl | h | h
            · exact .inr m5
            · exact .inr mD
            · exact .inl h
            · exact .inr h)
          (repeat' (first | (k_unfold; (try dsimp only)) | ((with_reducible show wpAny _ _ (exec (Stmt.While _ _ _ _) _) _ _ _); refine Mine.Hold.out ?_) | ((with_reducible show wpAny _ _ (eval (Expr.ListComp _ _ _ _) _) _ _ _); refine Mine.Hold.out ?_) | ((with_reducible show wpAny _ _ (storeName _ _ _) _ _ _); refine' storeX_L ?zzF ?zzN ?_ ?zza ?zzb; (case zzF => k_asm); (case zzN => k_asm); (case zza => rfl); (case zzb => rfl); k_whole; intro _ zF zN; (try dsimp only at zF); (try k_sweep); (revert zF zN; intro _ _)) | ((with_reducible show wpAny _ _ (call (Value.builtin "len") [Value.str (Str.mk (List.toArray _)) _]) _ _ _); refine' Mine.s_len ?zzk3 ?_; (case zzk3 => first | lia | (simp only [List.length_append, List.length_cons, List.length_nil]; lia)); intro _ _) | ((with_reducible show wpAny _ _ (call (Value.builtin "len") [Value.ref _]) _ _ _); refine' Mine.m_len ?zzk1 ?zzk2 ?zzk3 ?_; (case zzk1 => k_asm); (case zzk2 => k_mem); (case zzk3 => first | lia | (simp only [List.length_cons, List.length_nil, List.length_map, PySem.strValues]; omega))) | ((with_reducible show wpAny _ _ (subscriptTail (Expr.Name _ _) (Expr.Name _ _) (Value.ref _) (Value.int _ _)) _ _ _); (refine' Mine.m_item ?zzk1 ?zzk2 ?zzk3 ?zzk4 ?zzk5 ?_ ?zzk6; (case zzk1 => k_asm); (case zzk2 => k_mem); (case zzk3 => first | (with_reducible assumption) | lia); (case zzk4 => first | (with_reducible assumption) | lia); (case zzk5 => assumption); (case zzk6 => with_unfolding_all rfl))) | ((with_reducible show wpAny _ _ (subscriptTail (Expr.Name _ _) (Expr.Name _ _) (Value.str _ _) (Value.int _ _)) _ _ _); refine' Mine.s_item ?zzh0 ?zzh1 ?zzh2 ?_; (case zzh0 => lia); (case zzh1 => lia); (case zzh2 => assumption); intro _ _) | ((with_reducible show wpAny _ _ (binaryOp Operator.Add (Value.str _ _) (Value.str _ _)) _ _ _); refine' Mine.s_add ?zzk1 ?zzk2 ?zzk3 ?zzk4 ?_; (case zzk1 => first | exact Mine.sp_eq | exact Mine.no_eq | exact Mine.dots_eq | with_reducible exact rfl); (case zzk2 => first | exact Mine.sp_eq | exact Mine.no_eq | exact Mine.dots_eq | with_reducible exact rfl); (case zzk3 => first | assumption | lia | (simp only [List.length_append, List.length_cons, List.length_nil]; lia)); (case zzk4 => first | assumption | lia | (simp only [List.length_append, List.length_cons, List.length_nil]; lia)); intro _ _) | ((with_reducible show wpAny _ _ (eval (Expr.Name _ _) _) _ _ _); k_inBlock; (first | (refine' Mine.nameC_F ?zzN ?zzc ?zzm ?zzd ?_ ?zza ?zzb ?zze ?zzf; (case zza => rfl); (case zzb => rfl); (case zze => decide); (case zzf => decide); (case zzN => k_asm); (case zzc => rfl); (case zzm => k_mem); (case zzd => k_asm); k_whole) | (refine' Mine.nameC_B ?zzF ?zzX ?zzT ?zze ?zzv ?zzn ?_ ?zzg ?zzbn ?zzk ?zzx ?zzd; (case zzg => rfl); (case zzbn => rfl); (case zzk => rfl); (case zzx => rfl); (case zzd => decide); (case zzF => k_asm); (case zzX => k_asm); (case zzT => k_asm); (case zze => k_is); (case zzv => boot_fast); (case zzn => decide); k_whole))) | (first | (with_reducible show wpAny _ _ (call (Value.ref 107) _) _ _ _) | (with_reducible show wpAny _ _ (call (Value.ref 100) _) _ _ _) | (with_reducible show wpAny _ _ (call (Value.ref 114) _) _ _ _) | (with_reducible show wpAny _ _ (call (Value.ref 88) _) _ _ _)); (refine Hold.out ?_) | ((with_reducible show wpAny _ _ (exec (Stmt.For (Expr.Name _ _) (Expr.Call _ _ _ _) _ _ _) _) _ _ _); refine Hold.out ?_) | ((with_reducible show Mine.FlPost _ _ _ _ _ _ _ _ _ _); dsimp only [Mine.FlPost]) | ((with_reducible show wpAny _ _ (newList _) _ _ _); refine' Mine.m_newList ?zzF ?zzN ?_ ?zzz; (case zzF => k_asm); (case zzN => k_asm); (case zzz => (simp only [List.length_cons, List.length_nil]; lia)); intro _ _ zl _ _; (try k_lt zl); (try k_sweep); (revert zl; intro _)) | ((with_reducible show wpAny _ _ (subscriptTail (Expr.Subscript _ _ _) _ (Value.ref _) (Value.int _ _)) _ _ _); (refine' Mine.m_item ?zzk1 ?zzk2 ?zzk3 ?zzk4 ?zzk5 ?_ ?zzk6; (case zzk1 => k_asm); (case zzk2 => k_mem); (case zzk3 => first | (with_reducible assumption) | lia); (case zzk4 => first | (with_reducible assumption) | lia); (case zzk5 => assumption); (case zzk6 => with_unfolding_all rfl))) | ((with_reducible show wpAny _ _ (subscriptTail _ (Expr.Subscript _ _ _) (Value.ref _) (Value.int _ _)) _ _ _); (refine' Mine.m_item ?zzk1 ?zzk2 ?zzk3 ?zzk4 ?zzk5 ?_ ?zzk6; (case zzk1 => k_asm); (case zzk2 => k_mem); (case zzk3 => first | (with_reducible assumption) | lia); (case zzk4 => first | (with_reducible assumption) | lia); (case zzk5 => assumption); (case zzk6 => with_unfolding_all rfl))) | ((with_reducible show wpAny _ _ (newTuple _) _ _ _); refine' kup_newTuple ?zzF ?zzN ?_ ?zzz; (case zzF => k_asm); (case zzN => k_asm); (case zzz => (rw [sizeLine_eq]; simp only [List.length_cons, List.length_nil]; lia)); intro _ _ _ _ _; (try k_sweep)) | ((with_reducible show wpAny _ _ (compareOp CmpOp.NotIn (Value.bool true) (Value.ref _)) _ _ _); refine' m_notTrue ?zzN ?zzm ?zzb ?_; (case zzN => k_asm); (case zzm => k_mem); (case zzb => assumption)) | (k_end; kc_close) | (walk1; (try dsimp only)) | (dsimp only; walk1) | (leave1; (try dsimp only)) | fail "no step"))
          refine Hold.mk (fl_for ?_)
          (repeat' (first | (k_unfold; (try dsimp only)) | ((with_reducible show wpAny _ _ (exec (Stmt.While _ _ _ _) _) _ _ _); refine Mine.Hold.out ?_) | ((with_reducible show wpAny _ _ (eval (Expr.ListComp _ _ _ _) _) _ _ _); refine Mine.Hold.out ?_) | ((with_reducible show wpAny _ _ (storeName _ _ _) _ _ _); refine' storeX_L ?zzF ?zzN ?_ ?zza ?zzb; (case zzF => k_asm); (case zzN => k_asm); (case zza => rfl); (case zzb => rfl); k_whole; intro _ zF zN; (try dsimp only at zF); (try k_sweep); (revert zF zN; intro _ _)) | ((with_reducible show wpAny _ _ (call (Value.builtin "len") [Value.str (Str.mk (List.toArray _)) _]) _ _ _); refine' Mine.s_len ?zzk3 ?_; (case zzk3 => first | lia | (simp only [List.length_append, List.length_cons, List.length_nil]; lia)); intro _ _) | ((with_reducible show wpAny _ _ (call (Value.builtin "len") [Value.ref _]) _ _ _); refine' Mine.m_len ?zzk1 ?zzk2 ?zzk3 ?_; (case zzk1 => k_asm); (case zzk2 => k_mem); (case zzk3 => first | lia | (simp only [List.length_cons, List.length_nil, List.length_map, PySem.strValues]; omega))) | ((with_reducible show wpAny _ _ (subscriptTail (Expr.Name _ _) (Expr.Name _ _) (Value.ref _) (Value.int _ _)) _ _ _); (refine' Mine.m_item ?zzk1 ?zzk2 ?zzk3 ?zzk4 ?zzk5 ?_ ?zzk6; (case zzk1 => k_asm); (case zzk2 => k_mem); (case zzk3 => first | (with_reducible assumption) | lia); (case zzk4 => first | (with_reducible assumption) | lia); (case zzk5 => assumption); (case zzk6 => with_unfolding_all rfl))) | ((with_reducible show wpAny _ _ (subscriptTail (Expr.Name _ _) (Expr.Name _ _) (Value.str _ _) (Value.int _ _)) _ _ _); refine' Mine.s_item ?zzh0 ?zzh1 ?zzh2 ?_; (case zzh0 => lia); (case zzh1 => lia); (case zzh2 => assumption); intro _ _) | ((with_reducible show wpAny _ _ (binaryOp Operator.Add (Value.str _ _) (Value.str _ _)) _ _ _); refine' Mine.s_add ?zzk1 ?zzk2 ?zzk3 ?zzk4 ?_; (case zzk1 => first | exact Mine.sp_eq | exact Mine.no_eq | exact Mine.dots_eq | with_reducible exact rfl); (case zzk2 => first | exact Mine.sp_eq | exact Mine.no_eq | exact Mine.dots_eq | with_reducible exact rfl); (case zzk3 => first | assumption | lia | (simp only [List.length_append, List.length_cons, List.length_nil]; lia)); (case zzk4 => first | assumption | lia | (simp only [List.length_append, List.length_cons, List.length_nil]; lia)); intro _ _) | ((with_reducible show wpAny _ _ (eval (Expr.Name _ _) _) _ _ _); k_inBlock; (first | (refine' Mine.nameC_F ?zzN ?zzc ?zzm ?zzd ?_ ?zza ?zzb ?zze ?zzf; (case zza => rfl); (case zzb => rfl); (case zze => decide); (case zzf => decide); (case zzN => k_asm); (case zzc => rfl); (case zzm => k_mem); (case zzd => k_asm); k_whole) | (refine' Mine.nameC_B ?zzF ?zzX ?zzT ?zze ?zzv ?zzn ?_ ?zzg ?zzbn ?zzk ?zzx ?zzd; (case zzg => rfl); (case zzbn => rfl); (case zzk => rfl); (case zzx => rfl); (case zzd => decide); (case zzF => k_asm); (case zzX => k_asm); (case zzT => k_asm); (case zze => k_is); (case zzv => boot_fast); (case zzn => decide); k_whole))) | (first | (with_reducible show wpAny _ _ (call (Value.ref 107) _) _ _ _) | (with_reducible show wpAny _ _ (call (Value.ref 100) _) _ _ _) | (with_reducible show wpAny _ _ (call (Value.ref 114) _) _ _ _) | (with_reducible show wpAny _ _ (call (Value.ref 88) _) _ _ _)); (refine Hold.out ?_) | ((with_reducible show wpAny _ _ (exec (Stmt.For (Expr.Name _ _) (Expr.Call _ _ _ _) _ _ _) _) _ _ _); refine Hold.out ?_) | ((with_reducible show Mine.FlPost _ _ _ _ _ _ _ _ _ _); dsimp only [Mine.FlPost]) | ((with_reducible show wpAny _ _ (newList _) _ _ _); refine' Mine.m_newList ?zzF ?zzN ?_ ?zzz; (case zzF => k_asm); (case zzN => k_asm); (case zzz => (simp only [List.length_cons, List.length_nil]; lia)); intro _ _ zl _ _; (try k_lt zl); (try k_sweep); (revert zl; intro _)) | ((with_reducible show wpAny _ _ (subscriptTail (Expr.Subscript _ _ _) _ (Value.ref _) (Value.int _ _)) _ _ _); (refine' Mine.m_item ?zzk1 ?zzk2 ?zzk3 ?zzk4 ?zzk5 ?_ ?zzk6; (case zzk1 => k_asm); (case zzk2 => k_mem); (case zzk3 => first | (with_reducible assumption) | lia); (case zzk4 => first | (with_reducible assumption) | lia); (case zzk5 => assumption); (case zzk6 => with_unfolding_all rfl))) | ((with_reducible show wpAny _ _ (subscriptTail _ (Expr.Subscript _ _ _) (Value.ref _) (Value.int _ _)) _ _ _); (refine' Mine.m_item ?zzk1 ?zzk2 ?zzk3 ?zzk4 ?zzk5 ?_ ?zzk6; (case zzk1 => k_asm); (case zzk2 => k_mem); (case zzk3 => first | (with_reducible assumption) | lia); (case zzk4 => first | (with_reducible assumption) | lia); (case zzk5 => assumption); (case zzk6 => with_unfolding_all rfl))) | ((with_reducible show wpAny _ _ (newTuple _) _ _ _); refine' kup_newTuple ?zzF ?zzN ?_ ?zzz; (case zzF => k_asm); (case zzN => k_asm); (case zzz => (rw [sizeLine_eq]; simp only [List.length_cons, List.length_nil]; lia)); intro _ _ _ _ _; (try k_sweep)) | ((with_reducible show wpAny _ _ (compareOp CmpOp.NotIn (Value.bool true) (Value.ref _)) _ _ _); refine' m_notTrue ?zzN ?zzm ?zzb ?_; (case zzN => k_asm); (case zzm => k_mem); (case zzb => assumption)) | (k_end; kc_close) | (walk1; (try dsimp only)) | (dsimp only; walk1) | (leave1; (try dsimp only)) | fail "no step"))
          rename IsRange _ _ _ _ _ _ _ _ => hrg
          rename Fr _ _ _ _ => F1
          rename News _ _ _ _ => N1
          obtain ⟨hVt, hVe⟩ := hV_nat ⟨hV0, hV3⟩
          obtain ⟨hsmI, hszI⟩ := rng_ok (b := hV ts (i : Int)) (k := (hV ts (i : Int)).toNat) hVe (Nat.lt_of_le_of_lt hVt (by decide))
          k_dflt (refine' fl_range (n := (hV ts (i : Int)).toNat) (fun I2 j m nw2 => ∃ WD WL wl nl, (∀ p ∈ [(Str.ofString "walks", Value.ref WD), (Str.ofString "start", Value.int (i : Int) t')], m p.1 = some p.2) ∧ nw2 = (WD, W.listOf wl.toArray nl) :: (WL ++ ((I, o) :: nw)) ∧ WkAre WL (walkV ts [l0, l1, l2] i j) wl) (by rfl) hrg hsmI hszI (fun _ _ => rfl) F1 (tup_pack N1) ?h0 ?step2 ?fin2 (by passes_own))
          case h0 =>
            intro I2 hI2
            exact ⟨_, _, _, _, by kst_all, rfl, wk_one⟩
          case step2 =>
            rintro I2 j t2 m10 nw2 o2 h10 tk10 hj hI2 ⟨WD, WL, wl, nl, hm10, rfl, hwk⟩ hne2 F10 N10
            clear F1 N1 hrg hI2
            rw [← kst_of hm10] at F10
            (repeat' (first | (k_unfold; (try dsimp only)) | ((with_reducible show wpAny _ _ (exec (Stmt.While _ _ _ _) _) _ _ _); refine Mine.Hold.out ?_) | ((with_reducible show wpAny _ _ (eval (Expr.ListComp _ _ _ _) _) _ _ _); refine Mine.Hold.out ?_) | ((with_reducible show wpAny _ _ (storeName _ _ _) _ _ _); refine' storeX_L ?zzF ?zzN ?_ ?zza ?zzb; (case zzF => k_asm); (case zzN => k_asm); (case zza => rfl); (case zzb => rfl); k_whole; intro _ zF zN; (try dsimp only at zF); (try k_sweep); (revert zF zN; intro _ _)) | ((with_reducible show wpAny _ _ (call (Value.builtin "len") [Value.str (Str.mk (List.toArray _)) _]) _ _ _); refine' Mine.s_len ?zzk3 ?_; (case zzk3 => first | lia | (simp only [List.length_append, List.length_cons, List.length_nil]; lia)); intro _ _) | ((with_reducible show wpAny _ _ (call (Value.builtin "len") [Value.ref _]) _ _ _); refine' Mine.m_len ?zzk1 ?zzk2 ?zzk3 ?_; (case zzk1 => k_asm); (case zzk2 => k_mem); (case zzk3 => first | lia | (simp only [List.length_cons, List.length_nil, List.length_map, PySem.strValues]; omega))) | ((with_reducible show wpAny _ _ (subscriptTail (Expr.Name _ _) (Expr.Name _ _) (Value.ref _) (Value.int _ _)) _ _ _); (refine' Mine.m_item ?zzk1 ?zzk2 ?zzk3 ?zzk4 ?zzk5 ?_ ?zzk6; (case zzk1 => k_asm); (case zzk2 => k_mem); (case zzk3 => first | (with_reducible assumption) | lia); (case zzk4 => first | (with_reducible assumption) | lia); (case zzk5 => assumption); (case zzk6 => with_unfolding_all rfl))) | ((with_reducible show wpAny _ _ (subscriptTail (Expr.Name _ _) (Expr.Name _ _) (Value.str _ _) (Value.int _ _)) _ _ _); refine' Mine.s_item ?zzh0 ?zzh1 ?zzh2 ?_; (case zzh0 => lia); (case zzh1 => lia); (case zzh2 => assumption); intro _ _) | ((with_reducible show wpAny _ _ (binaryOp Operator.Add (Value.str _ _) (Value.str _ _)) _ _ _); refine' Mine.s_add ?zzk1 ?zzk2 ?zzk3 ?zzk4 ?_; (case zzk1 => first | exact Mine.sp_eq | exact Mine.no_eq | exact Mine.dots_eq | with_reducible exact rfl); (case zzk2 => first | exact Mine.sp_eq | exact Mine.no_eq | exact Mine.dots_eq | with_reducible exact rfl); (case zzk3 => first | assumption | lia | (simp only [List.length_append, List.length_cons, List.length_nil]; lia)); (case zzk4 => first | assumption | lia | (simp only [List.length_append, List.length_cons, List.length_nil]; lia)); intro _ _) | ((with_reducible show wpAny _ _ (eval (Expr.Name _ _) _) _ _ _); k_inBlock; (first | (refine' Mine.nameC_F ?zzN ?zzc ?zzm ?zzd ?_ ?zza ?zzb ?zze ?zzf; (case zza => rfl); (case zzb => rfl); (case zze => decide); (case zzf => decide); (case zzN => k_asm); (case zzc => rfl); (case zzm => k_mem); (case zzd => k_asm); k_whole) | (refine' Mine.nameC_B ?zzF ?zzX ?zzT ?zze ?zzv ?zzn ?_ ?zzg ?zzbn ?zzk ?zzx ?zzd; (case zzg => rfl); (case zzbn => rfl); (case zzk => rfl); (case zzx => rfl); (case zzd => decide); (case zzF => k_asm); (case zzX => k_asm); (case zzT => k_asm); (case zze => k_is); (case zzv => boot_fast); (case zzn => decide); k_whole))) | (first | (with_reducible show wpAny _ _ (call (Value.ref 107) _) _ _ _) | (with_reducible show wpAny _ _ (call (Value.ref 100) _) _ _ _) | (with_reducible show wpAny _ _ (call (Value.ref 114) _) _ _ _) | (with_reducible show wpAny _ _ (call (Value.ref 88) _) _ _ _)); (refine Hold.out ?_) | ((with_reducible show wpAny _ _ (exec (Stmt.For (Expr.Name _ _) (Expr.Call _ _ _ _) _ _ _) _) _ _ _); refine Hold.out ?_) | ((with_reducible show Mine.FlPost _ _ _ _ _ _ _ _ _ _); dsimp only [Mine.FlPost]) | ((with_reducible show wpAny _ _ (newList _) _ _ _); refine' Mine.m_newList ?zzF ?zzN ?_ ?zzz; (case zzF => k_asm); (case zzN => k_asm); (case zzz => (simp only [List.length_cons, List.length_nil]; lia)); intro _ _ zl _ _; (try k_lt zl); (try k_sweep); (revert zl; intro _)) | ((with_reducible show wpAny _ _ (subscriptTail (Expr.Subscript _ _ _) _ (Value.ref _) (Value.int _ _)) _ _ _); (refine' Mine.m_item ?zzk1 ?zzk2 ?zzk3 ?zzk4 ?zzk5 ?_ ?zzk6; (case zzk1 => k_asm); (case zzk2 => k_mem); (case zzk3 => first | (with_reducible assumption) | lia); (case zzk4 => first | (with_reducible assumption) | lia); (case zzk5 => assumption); (case zzk6 => with_unfolding_all rfl))) | ((with_reducible show wpAny _ _ (subscriptTail _ (Expr.Subscript _ _ _) (Value.ref _) (Value.int _ _)) _ _ _); (refine' Mine.m_item ?zzk1 ?zzk2 ?zzk3 ?zzk4 ?zzk5 ?_ ?zzk6; (case zzk1 => k_asm); (case zzk2 => k_mem); (case zzk3 => first | (with_reducible assumption) | lia); (case zzk4 => first | (with_reducible assumption) | lia); (case zzk5 => assumption); (case zzk6 => with_unfolding_all rfl))) | ((with_reducible show wpAny _ _ (newTuple _) _ _ _); refine' kup_newTuple ?zzF ?zzN ?_ ?zzz; (case zzF => k_asm); (case zzN => k_asm); (case zzz => (rw [sizeLine_eq]; simp only [List.length_cons, List.length_nil]; lia)); intro _ _ _ _ _; (try k_sweep)) | ((with_reducible show wpAny _ _ (compareOp CmpOp.NotIn (Value.bool true) (Value.ref _)) _ _ _); refine' m_notTrue ?zzN ?zzm ?zzb ?_; (case zzN => k_asm); (case zzm => k_mem); (case zzb => assumption)) | (k_end; kc_close) | (walk1; (try dsimp only)) | (dsimp only; walk1) | (leave1; (try dsimp only)) | fail "no step"))
            have hj3' : j ≤ 3 := Nat.le_of_lt (Nat.lt_of_lt_of_le hj hVt)
            refine assign_CG (by with_unfolding_all rfl) (by with_unfolding_all rfl) (by rfl) (by decide) ?_
            (repeat' (first | (k_unfold; (try dsimp only)) | ((with_reducible show wpAny _ _ (exec (Stmt.While _ _ _ _) _) _ _ _); refine Mine.Hold.out ?_) | ((with_reducible show wpAny _ _ (eval (Expr.ListComp _ _ _ _) _) _ _ _); refine Mine.Hold.out ?_) | ((with_reducible show wpAny _ _ (storeName _ _ _) _ _ _); refine' storeX_L ?zzF ?zzN ?_ ?zza ?zzb; (case zzF => k_asm); (case zzN => k_asm); (case zza => rfl); (case zzb => rfl); k_whole; intro _ zF zN; (try dsimp only at zF); (try k_sweep); (revert zF zN; intro _ _)) | ((with_reducible show wpAny _ _ (call (Value.builtin "len") [Value.str (Str.mk (List.toArray _)) _]) _ _ _); refine' Mine.s_len ?zzk3 ?_; (case zzk3 => first | lia | (simp only [List.length_append, List.length_cons, List.length_nil]; lia)); intro _ _) | ((with_reducible show wpAny _ _ (call (Value.builtin "len") [Value.ref _]) _ _ _); refine' Mine.m_len ?zzk1 ?zzk2 ?zzk3 ?_; (case zzk1 => k_asm); (case zzk2 => k_mem); (case zzk3 => first | lia | (simp only [List.length_cons, List.length_nil, List.length_map, PySem.strValues]; omega))) | ((with_reducible show wpAny _ _ (subscriptTail (Expr.Name _ _) (Expr.Name _ _) (Value.ref _) (Value.int _ _)) _ _ _); (refine' Mine.m_item ?zzk1 ?zzk2 ?zzk3 ?zzk4 ?zzk5 ?_ ?zzk6; (case zzk1 => k_asm); (case zzk2 => k_mem); (case zzk3 => first | (with_reducible assumption) | lia); (case zzk4 => first | (with_reducible assumption) | lia); (case zzk5 => assumption); (case zzk6 => with_unfolding_all rfl))) | ((with_reducible show wpAny _ _ (subscriptTail (Expr.Name _ _) (Expr.Name _ _) (Value.str _ _) (Value.int _ _)) _ _ _); refine' Mine.s_item ?zzh0 ?zzh1 ?zzh2 ?_; (case zzh0 => lia); (case zzh1 => lia); (case zzh2 => assumption); intro _ _) | ((with_reducible show wpAny _ _ (binaryOp Operator.Add (Value.str _ _) (Value.str _ _)) _ _ _); refine' Mine.s_add ?zzk1 ?zzk2 ?zzk3 ?zzk4 ?_; (case zzk1 => first | exact Mine.sp_eq | exact Mine.no_eq | exact Mine.dots_eq | with_reducible exact rfl); (case zzk2 => first | exact Mine.sp_eq | exact Mine.no_eq | exact Mine.dots_eq | with_reducible exact rfl); (case zzk3 => first | assumption | lia | (simp only [List.length_append, List.length_cons, List.length_nil]; lia)); (case zzk4 => first | assumption | lia | (simp only [List.length_append, List.length_cons, List.length_nil]; lia)); intro _ _) | ((with_reducible show wpAny _ _ (eval (Expr.Name _ _) _) _ _ _); k_inBlock; (first | (refine' Mine.nameC_F ?zzN ?zzc ?zzm ?zzd ?_ ?zza ?zzb ?zze ?zzf; (case zza => rfl); (case zzb => rfl); (case zze => decide); (case zzf => decide); (case zzN => k_asm); (case zzc => rfl); (case zzm => k_mem); (case zzd => k_asm); k_whole) | (refine' Mine.nameC_B ?zzF ?zzX ?zzT ?zze ?zzv ?zzn ?_ ?zzg ?zzbn ?zzk ?zzx ?zzd; (case zzg => rfl); (case zzbn => rfl); (case zzk => rfl); (case zzx => rfl); (case zzd => decide); (case zzF => k_asm); (case zzX => k_asm); (case zzT => k_asm); (case zze => k_is); (case zzv => boot_fast); (case zzn => decide); k_whole))) | (first | (with_reducible show wpAny _ _ (call (Value.ref 107) _) _ _ _) | (with_reducible show wpAny _ _ (call (Value.ref 100) _) _ _ _) | (with_reducible show wpAny _ _ (call (Value.ref 114) _) _ _ _) | (with_reducible show wpAny _ _ (call (Value.ref 88) _) _ _ _)); (refine Hold.out ?_) | ((with_reducible show wpAny _ _ (exec (Stmt.For (Expr.Name _ _) (Expr.Call _ _ _ _) _ _ _) _) _ _ _); refine Hold.out ?_) | ((with_reducible show Mine.FlPost _ _ _ _ _ _ _ _ _ _); dsimp only [Mine.FlPost]) | ((with_reducible show wpAny _ _ (newList _) _ _ _); refine' Mine.m_newList ?zzF ?zzN ?_ ?zzz; (case zzF => k_asm); (case zzN => k_asm); (case zzz => (simp only [List.length_cons, List.length_nil]; lia)); intro _ _ zl _ _; (try k_lt zl); (try k_sweep); (revert zl; intro _)) | ((with_reducible show wpAny _ _ (subscriptTail (Expr.Subscript _ _ _) _ (Value.ref _) (Value.int _ _)) _ _ _); (refine' Mine.m_item ?zzk1 ?zzk2 ?zzk3 ?zzk4 ?zzk5 ?_ ?zzk6; (case zzk1 => k_asm); (case zzk2 => k_mem); (case zzk3 => first | (with_reducible assumption) | lia); (case zzk4 => first | (with_reducible assumption) | lia); (case zzk5 => assumption); (case zzk6 => with_unfolding_all rfl))) | ((with_reducible show wpAny _ _ (subscriptTail _ (Expr.Subscript _ _ _) (Value.ref _) (Value.int _ _)) _ _ _); (refine' Mine.m_item ?zzk1 ?zzk2 ?zzk3 ?zzk4 ?zzk5 ?_ ?zzk6; (case zzk1 => k_asm); (case zzk2 => k_mem); (case zzk3 => first | (with_reducible assumption) | lia); (case zzk4 => first | (with_reducible assumption) | lia); (case zzk5 => assumption); (case zzk6 => with_unfolding_all rfl))) | ((with_reducible show wpAny _ _ (newTuple _) _ _ _); refine' kup_newTuple ?zzF ?zzN ?_ ?zzz; (case zzF => k_asm); (case zzN => k_asm); (case zzz => (rw [sizeLine_eq]; simp only [List.length_cons, List.length_nil]; lia)); intro _ _ _ _ _; (try k_sweep)) | ((with_reducible show wpAny _ _ (compareOp CmpOp.NotIn (Value.bool true) (Value.ref _)) _ _ _); refine' m_notTrue ?zzN ?zzm ?zzb ?_; (case zzN => k_asm); (case zzm => k_mem); (case zzb => assumption)) | (k_end; kc_close) | (walk1; (try dsimp only)) | (dsimp only; walk1) | (leave1; (try dsimp only)) | fail "no step"))
            rename Fr _ _ _ _ => F2
            rename News _ _ _ _ => N2
            k_dflt (refine cg_two (its := wl) (n := nl) (n2 := 3) (fun i3 j3 ys nw3 => ∃ WN, nw3 = WN ++ ((I2, o2) :: (WD, W.listOf wl.toArray nl) :: (WL ++ ((I, o) :: nw))) ∧ (∀ p ∈ WN, p.1 ≠ I2) ∧ WkAre WN (doneW ts [l0, l1, l2] (walkV ts [l0, l1, l2] i j) i3 j3) ys) (fun i3 vx vy vz => ∃ (v : List Nat × Int × Bool) (t3 u3 : Tok), (walkV ts [l0, l1, l2] i j)[i3]? = some v ∧ vx = .str ⟨(preL v.1).toArray⟩ t3 ∧ vy = .int v.2.1 u3 ∧ vz = .bool v.2.2) (by rfl) F2 N2 (by simp) (by decide) (by rfl) (by rfl) (by rfl) (by rfl) (by rfl) (by decide) (by decide) (by decide) (by decide) (by decide) (by decide) (fun C => by intro y; rfl) (by decide) (by decide) ?h0 ?hJz ?hS ?hT ?hnext ?hit ?step3 ?fin3)
            case h0 => exact ⟨[], rfl, (fun p hp => nomatch hp), by rw [doneW_zero]; exact WkAre.nil⟩
            case hJz =>
              rintro i3 j3 ys3 nw3 ⟨WN, _, _, hW⟩
              rw [hW.1, sizeLine_eq]
              exact dw_small ts l0 l1 l2 i hj3'
            case hS => rintro i3 j3 ys3 nw3 ⟨WN, rfl, _⟩; simp
            case hT =>
              rintro i3 v ys3 nw3 hv ⟨WN, rfl, _⟩
              have hi3 : i3 < (walkV ts [l0, l1, l2] i j).length := by rw [← hwk.1]; exact (List.getElem?_eq_some_iff.mp hv).1
              obtain ⟨T, t3, u3, e1, e2⟩ := hwk.2 i3 _ (List.getElem?_eq_getElem hi3)
              rw [hv] at e1; cases e1
              exact ⟨T, _, _, _, rfl, by simp [e2], _, t3, u3, List.getElem?_eq_getElem hi3, rfl, rfl, rfl⟩
            case hnext =>
              rintro i3 ys3 nw3 hi3 ⟨WN, rfl, hWI, hW⟩
              refine ⟨WN, rfl, hWI, ?_⟩
              rw [← doneW_next (ls := [l0, l1, l2]) (List.getElem?_eq_getElem (by rw [← hwk.1]; exact hi3))]
              exact hW
            case hit =>
              intro C h3 tk3 nw3 Q3 E3 F3 N3 hq
              clear F2 N2 F10 N10
              (repeat' (first | (k_unfold; (try dsimp only)) | ((with_reducible show wpAny _ _ (exec (Stmt.While _ _ _ _) _) _ _ _); refine Mine.Hold.out ?_) | ((with_reducible show wpAny _ _ (eval (Expr.ListComp _ _ _ _) _) _ _ _); refine Mine.Hold.out ?_) | ((with_reducible show wpAny _ _ (storeName _ _ _) _ _ _); refine' storeX_L ?zzF ?zzN ?_ ?zza ?zzb; (case zzF => k_asm); (case zzN => k_asm); (case zza => rfl); (case zzb => rfl); k_whole; intro _ zF zN; (try dsimp only at zF); (try k_sweep); (revert zF zN; intro _ _)) | ((with_reducible show wpAny _ _ (call (Value.builtin "len") [Value.str (Str.mk (List.toArray _)) _]) _ _ _); refine' Mine.s_len ?zzk3 ?_; (case zzk3 => first | lia | (simp only [List.length_append, List.length_cons, List.length_nil]; lia)); intro _ _) | ((with_reducible show wpAny _ _ (call (Value.builtin "len") [Value.ref _]) _ _ _); refine' Mine.m_len ?zzk1 ?zzk2 ?zzk3 ?_; (case zzk1 => k_asm); (case zzk2 => k_mem); (case zzk3 => first | lia | (simp only [List.length_cons, List.length_nil, List.length_map, PySem.strValues]; omega))) | ((with_reducible show wpAny _ _ (subscriptTail (Expr.Name _ _) (Expr.Name _ _) (Value.ref _) (Value.int _ _)) _ _ _); (refine' Mine.m_item ?zzk1 ?zzk2 ?zzk3 ?zzk4 ?zzk5 ?_ ?zzk6; (case zzk1 => k_asm); (case zzk2 => k_mem); (case zzk3 => first | (with_reducible assumption) | lia); (case zzk4 => first | (with_reducible assumption) | lia); (case zzk5 => assumption); (case zzk6 => with_unfolding_all rfl))) | ((with_reducible show wpAny _ _ (subscriptTail (Expr.Name _ _) (Expr.Name _ _) (Value.str _ _) (Value.int _ _)) _ _ _); refine' Mine.s_item ?zzh0 ?zzh1 ?zzh2 ?_; (case zzh0 => lia); (case zzh1 => lia); (case zzh2 => assumption); intro _ _) | ((with_reducible show wpAny _ _ (binaryOp Operator.Add (Value.str _ _) (Value.str _ _)) _ _ _); refine' Mine.s_add ?zzk1 ?zzk2 ?zzk3 ?zzk4 ?_; (case zzk1 => first | exact Mine.sp_eq | exact Mine.no_eq | exact Mine.dots_eq | with_reducible exact rfl); (case zzk2 => first | exact Mine.sp_eq | exact Mine.no_eq | exact Mine.dots_eq | with_reducible exact rfl); (case zzk3 => first | assumption | lia | (simp only [List.length_append, List.length_cons, List.length_nil]; lia)); (case zzk4 => first | assumption | lia | (simp only [List.length_append, List.length_cons, List.length_nil]; lia)); intro _ _) | ((with_reducible show wpAny _ _ (eval (Expr.Name _ _) _) _ _ _); k_inBlock; (first | (refine' Mine.nameC_F ?zzN ?zzc ?zzm ?zzd ?_ ?zza ?zzb ?zze ?zzf; (case zza => rfl); (case zzb => rfl); (case zze => decide); (case zzf => decide); (case zzN => k_asm); (case zzc => rfl); (case zzm => k_mem); (case zzd => k_asm); k_whole) | (refine' Mine.nameC_B ?zzF ?zzX ?zzT ?zze ?zzv ?zzn ?_ ?zzg ?zzbn ?zzk ?zzx ?zzd; (case zzg => rfl); (case zzbn => rfl); (case zzk => rfl); (case zzx => rfl); (case zzd => decide); (case zzF => k_asm); (case zzX => k_asm); (case zzT => k_asm); (case zze => k_is); (case zzv => boot_fast); (case zzn => decide); k_whole))) | (first | (with_reducible show wpAny _ _ (call (Value.ref 107) _) _ _ _) | (with_reducible show wpAny _ _ (call (Value.ref 100) _) _ _ _) | (with_reducible show wpAny _ _ (call (Value.ref 114) _) _ _ _) | (with_reducible show wpAny _ _ (call (Value.ref 88) _) _ _ _)); (refine Hold.out ?_) | ((with_reducible show wpAny _ _ (exec (Stmt.For (Expr.Name _ _) (Expr.Call _ _ _ _) _ _ _) _) _ _ _); refine Hold.out ?_) | ((with_reducible show Mine.FlPost _ _ _ _ _ _ _ _ _ _); dsimp only [Mine.FlPost]) | ((with_reducible show wpAny _ _ (newList _) _ _ _); refine' Mine.m_newList ?zzF ?zzN ?_ ?zzz; (case zzF => k_asm); (case zzN => k_asm); (case zzz => (simp only [List.length_cons, List.length_nil]; lia)); intro _ _ zl _ _; (try k_lt zl); (try k_sweep); (revert zl; intro _)) | ((with_reducible show wpAny _ _ (subscriptTail (Expr.Subscript _ _ _) _ (Value.ref _) (Value.int _ _)) _ _ _); (refine' Mine.m_item ?zzk1 ?zzk2 ?zzk3 ?zzk4 ?zzk5 ?_ ?zzk6; (case zzk1 => k_asm); (case zzk2 => k_mem); (case zzk3 => first | (with_reducible assumption) | lia); (case zzk4 => first | (with_reducible assumption) | lia); (case zzk5 => assumption); (case zzk6 => with_unfolding_all rfl))) | ((with_reducible show wpAny _ _ (subscriptTail _ (Expr.Subscript _ _ _) (Value.ref _) (Value.int _ _)) _ _ _); (refine' Mine.m_item ?zzk1 ?zzk2 ?zzk3 ?zzk4 ?zzk5 ?_ ?zzk6; (case zzk1 => k_asm); (case zzk2 => k_mem); (case zzk3 => first | (with_reducible assumption) | lia); (case zzk4 => first | (with_reducible assumption) | lia); (case zzk5 => assumption); (case zzk6 => with_unfolding_all rfl))) | ((with_reducible show wpAny _ _ (newTuple _) _ _ _); refine' kup_newTuple ?zzF ?zzN ?_ ?zzz; (case zzF => k_asm); (case zzN => k_asm); (case zzz => (rw [sizeLine_eq]; simp only [List.length_cons, List.length_nil]; lia)); intro _ _ _ _ _; (try k_sweep)) | ((with_reducible show wpAny _ _ (compareOp CmpOp.NotIn (Value.bool true) (Value.ref _)) _ _ _); refine' m_notTrue ?zzN ?zzm ?zzb ?_; (case zzN => k_asm); (case zzm => k_mem); (case zzb => assumption)) | (k_end; kc_close) | (walk1; (try dsimp only)) | (dsimp only; walk1) | (leave1; (try dsimp only)) | fail "no step"))
              rename IsRange _ _ _ _ _ _ _ _ => hr3
              rename Fr _ _ _ _ => F4
              rename News _ _ _ _ => N4
              exact hq _ _ _ _ _ _ F4 N4 hr3
            case step3 =>
              rintro i3 j3 ys3 nw3 vx vy vz t3 I3 oI3 I4 oI4 C oC D9 m₂ h3 tk3 E3 hi3 hj3 ⟨⟨xw, pw, fw⟩, t4, u4, hv, rfl, rfl, rfl⟩ ⟨WN, hnw3, hWI, hW⟩ nC ma mb mc mk F3 N3 hne3 hap3
              clear F2 N2 F10 N10
              dsimp only at ma mb mc
              obtain ⟨hpl, q, hq, hq2, hle⟩ := stepf hdl hlets hts hi hj (List.mem_of_getElem? hv)
              dsimp only at hq hpl
              subst hq
              obtain ⟨c, hc⟩ : ∃ c, [l0, l1, l2][j3]? = some c := ⟨_, List.getElem?_eq_getElem (by rw [hlt3]; exact hj3)⟩
              have hcd : [l0, l1, l2].getD j3 0 = c := by rw [List.getD_eq_getElem?_getD, hc]; rfl
              obtain ⟨lr, kr, vr, r1, r2, r3⟩ := hrowsL.2 q hq2
              have r1' : ysL[((q : Nat) : Int).toNat]? = some (.ref lr) := by rw [Int.toNat_natCast]; exact r1
              obtain ⟨tl, hl⟩ := ints_get r3 (k := j3) (z := lV ts c (q : Int)) (by rw [List.getElem?_map, List.getElem?_range hj3]; simp only [Option.map_some, hcd]; rfl)
              have hl' : vr[((j3 : Nat) : Int).toNat]? = some (.int (lV ts c (q : Int)) tl) := by rw [Int.toNat_natCast]; exact hl
              have hvr : vr.length < 1000 := by have := IntsAre.length r3; simp at this; lia
              obtain ⟨e, he, hel⟩ := hle c
              obtain ⟨tH1, hH1⟩ := hHt e hel
              rw [← he] at hH1
              have hl0 : 0 ≤ lV ts c (q : Int) := by rw [he]; exact nn e
              have hlb : lV ts c (q : Int) < 100000 := by rw [he]; exact lt_big hel hts
              have hqb : ((q : Nat) : Int) < 100000 := lt_big hq2 hts
              obtain ⟨tH2, hH2⟩ := hHt q hq2
              have hcl : (⟨#[l0, l1, l2]⟩ : Str).cps.toList[((j3 : Nat) : Int).toNat]? = some c := by rw [Int.toNat_natCast]; exact hc
              have mG : ∀ q ∈ nw, q ∈ nw3 := fun q hq => by rw [hnw3]; simp [hq]
              have mX : ∀ q ∈ nw, q ∈ (I3, oI3) :: (I4, oI4) :: (C, oC) :: (D9, lst ys3) :: nw3 := fun q hq => List.mem_cons_of_mem _ (List.mem_cons_of_mem _ (List.mem_cons_of_mem _ (List.mem_cons_of_mem _ (mG q hq))))
              replace N3 := news_pre6 N3 (mX _ m2) (mX _ m7) (mX _ m5) (mX _ mD6) (mX _ mD) (mX _ (mLL2 _ r2))
              clear r3
              cases fw
              all_goals ((repeat' (first | (k_unfold; (try dsimp only)) | ((with_reducible show wpAny _ _ (exec (Stmt.While _ _ _ _) _) _ _ _); refine Mine.Hold.out ?_) | ((with_reducible show wpAny _ _ (eval (Expr.ListComp _ _ _ _) _) _ _ _); refine Mine.Hold.out ?_) | ((with_reducible show wpAny _ _ (storeName _ _ _) _ _ _); refine' storeX_L ?zzF ?zzN ?_ ?zza ?zzb; (case zzF => k_asm); (case zzN => k_asm); (case zza => rfl); (case zzb => rfl); k_whole; intro _ zF zN; (try dsimp only at zF); (try k_sweep); (revert zF zN; intro _ _)) | ((with_reducible show wpAny _ _ (call (Value.builtin "len") [Value.str (Str.mk (List.toArray _)) _]) _ _ _); refine' Mine.s_len ?zzk3 ?_; (case zzk3 => first | lia | (simp only [List.length_append, List.length_cons, List.length_nil]; lia)); intro _ _) | ((with_reducible show wpAny _ _ (call (Value.builtin "len") [Value.ref _]) _ _ _); refine' Mine.m_len ?zzk1 ?zzk2 ?zzk3 ?_; (case zzk1 => k_asm); (case zzk2 => k_mem); (case zzk3 => first | lia | (simp only [List.length_cons, List.length_nil, List.length_map, PySem.strValues]; omega))) | ((with_reducible show wpAny _ _ (subscriptTail (Expr.Name _ _) (Expr.Name _ _) (Value.ref _) (Value.int _ _)) _ _ _); (refine' Mine.m_item ?zzk1 ?zzk2 ?zzk3 ?zzk4 ?zzk5 ?_ ?zzk6; (case zzk1 => k_asm); (case zzk2 => k_mem); (case zzk3 => first | (with_reducible assumption) | lia); (case zzk4 => first | (with_reducible assumption) | lia); (case zzk5 => assumption); (case zzk6 => with_unfolding_all rfl))) | ((with_reducible show wpAny _ _ (subscriptTail (Expr.Name _ _) (Expr.Name _ _) (Value.str _ _) (Value.int _ _)) _ _ _); refine' Mine.s_item ?zzh0 ?zzh1 ?zzh2 ?_; (case zzh0 => lia); (case zzh1 => lia); (case zzh2 => assumption); intro _ _) | ((with_reducible show wpAny _ _ (binaryOp Operator.Add (Value.str _ _) (Value.str _ _)) _ _ _); refine' Mine.s_add ?zzk1 ?zzk2 ?zzk3 ?zzk4 ?_; (case zzk1 => first | exact Mine.sp_eq | exact Mine.no_eq | exact Mine.dots_eq | with_reducible exact rfl); (case zzk2 => first | exact Mine.sp_eq | exact Mine.no_eq | exact Mine.dots_eq | with_reducible exact rfl); (case zzk3 => first | assumption | lia | (simp only [List.length_append, List.length_cons, List.length_nil]; lia)); (case zzk4 => first | assumption | lia | (simp only [List.length_append, List.length_cons, List.length_nil]; lia)); intro _ _) | ((with_reducible show wpAny _ _ (eval (Expr.Name _ _) _) _ _ _); k_inBlock; (first | (refine' Mine.nameC_F ?zzN ?zzc ?zzm ?zzd ?_ ?zza ?zzb ?zze ?zzf; (case zza => rfl); (case zzb => rfl); (case zze => decide); (case zzf => decide); (case zzN => k_asm); (case zzc => rfl); (case zzm => k_mem); (case zzd => k_asm); k_whole) | (refine' Mine.nameC_B ?zzF ?zzX ?zzT ?zze ?zzv ?zzn ?_ ?zzg ?zzbn ?zzk ?zzx ?zzd; (case zzg => rfl); (case zzbn => rfl); (case zzk => rfl); (case zzx => rfl); (case zzd => decide); (case zzF => k_asm); (case zzX => k_asm); (case zzT => k_asm); (case zze => k_is); (case zzv => boot_fast); (case zzn => decide); k_whole))) | (first | (with_reducible show wpAny _ _ (call (Value.ref 107) _) _ _ _) | (with_reducible show wpAny _ _ (call (Value.ref 100) _) _ _ _) | (with_reducible show wpAny _ _ (call (Value.ref 114) _) _ _ _) | (with_reducible show wpAny _ _ (call (Value.ref 88) _) _ _ _)); (refine Hold.out ?_) | ((with_reducible show wpAny _ _ (exec (Stmt.For (Expr.Name _ _) (Expr.Call _ _ _ _) _ _ _) _) _ _ _); refine Hold.out ?_) | ((with_reducible show Mine.FlPost _ _ _ _ _ _ _ _ _ _); dsimp only [Mine.FlPost]) | ((with_reducible show wpAny _ _ (newList _) _ _ _); refine' Mine.m_newList ?zzF ?zzN ?_ ?zzz; (case zzF => k_asm); (case zzN => k_asm); (case zzz => (simp only [List.length_cons, List.length_nil]; lia)); intro _ _ zl _ _; (try k_lt zl); (try k_sweep); (revert zl; intro _)) | ((with_reducible show wpAny _ _ (subscriptTail (Expr.Subscript _ _ _) _ (Value.ref _) (Value.int _ _)) _ _ _); (refine' Mine.m_item ?zzk1 ?zzk2 ?zzk3 ?zzk4 ?zzk5 ?_ ?zzk6; (case zzk1 => k_asm); (case zzk2 => k_mem); (case zzk3 => first | (with_reducible assumption) | lia); (case zzk4 => first | (with_reducible assumption) | lia); (case zzk5 => assumption); (case zzk6 => with_unfolding_all rfl))) | ((with_reducible show wpAny _ _ (subscriptTail _ (Expr.Subscript _ _ _) (Value.ref _) (Value.int _ _)) _ _ _); (refine' Mine.m_item ?zzk1 ?zzk2 ?zzk3 ?zzk4 ?zzk5 ?_ ?zzk6; (case zzk1 => k_asm); (case zzk2 => k_mem); (case zzk3 => first | (with_reducible assumption) | lia); (case zzk4 => first | (with_reducible assumption) | lia); (case zzk5 => assumption); (case zzk6 => with_unfolding_all rfl))) | ((with_reducible show wpAny _ _ (newTuple _) _ _ _); refine' kup_newTuple ?zzF ?zzN ?_ ?zzz; (case zzF => k_asm); (case zzN => k_asm); (case zzz => (rw [sizeLine_eq]; simp only [List.length_cons, List.length_nil]; lia)); intro _ _ _ _ _; (try k_sweep)) | ((with_reducible show wpAny _ _ (compareOp CmpOp.NotIn (Value.bool true) (Value.ref _)) _ _ _); refine' m_notTrue ?zzN ?zzm ?zzb ?_; (case zzN => k_asm); (case zzm => k_mem); (case zzb => assumption)) | (k_end; kc_close) | (walk1; (try dsimp only)) | (dsimp only; walk1) | (leave1; (try dsimp only)) | fail "no step")); rename_i lz; rename Fr _ _ _ _ => FZ; rename News _ _ _ _ => NZ; rw [← preL_snoc] at NZ; refine Hold.mk ⟨_, _, _ :: nw3, rfl, FZ, news_post6 NZ, ap_post6 lz hap3, _ :: WN, by rw [hnw3]; rfl, (fun p hp => (by rcases List.mem_cons.mp hp with rfl | hp; exact Nat.ne_of_gt (lz (I2, o2) (by rw [hnw3]; simp)); exact hWI p hp)), ?_⟩; rw [doneW_step hv hc]; exact hW.snoc (w := stW ts (xw, (q : Int), _) c))
            case fin3 =>
              rintro D9 C h3 tk3 ys3 nw3 m' ⟨WN, rfl, hWI, hW⟩ F3 N3 ap3 hn hC0 hCL hCD
              clear F2 N2 F10 N10
              refine' fin_assign (s := ⟨h3, gn, dr, tk3, os⟩) F3 N3 ap3 hn hC0 hCL hCD ?e1 ?e2 ?e3 ?_
              case e1 => rfl
              case e2 => rfl
              case e3 => rfl
              intro h4 tk4 F4 N4
              clear F3 N3
              (repeat' (first | (k_unfold; (try dsimp only)) | ((with_reducible show wpAny _ _ (exec (Stmt.While _ _ _ _) _) _ _ _); refine Mine.Hold.out ?_) | ((with_reducible show wpAny _ _ (eval (Expr.ListComp _ _ _ _) _) _ _ _); refine Mine.Hold.out ?_) | ((with_reducible show wpAny _ _ (storeName _ _ _) _ _ _); refine' storeX_L ?zzF ?zzN ?_ ?zza ?zzb; (case zzF => k_asm); (case zzN => k_asm); (case zza => rfl); (case zzb => rfl); k_whole; intro _ zF zN; (try dsimp only at zF); (try k_sweep); (revert zF zN; intro _ _)) | ((with_reducible show wpAny _ _ (call (Value.builtin "len") [Value.str (Str.mk (List.toArray _)) _]) _ _ _); refine' Mine.s_len ?zzk3 ?_; (case zzk3 => first | lia | (simp only [List.length_append, List.length_cons, List.length_nil]; lia)); intro _ _) | ((with_reducible show wpAny _ _ (call (Value.builtin "len") [Value.ref _]) _ _ _); refine' Mine.m_len ?zzk1 ?zzk2 ?zzk3 ?_; (case zzk1 => k_asm); (case zzk2 => k_mem); (case zzk3 => first | lia | (simp only [List.length_cons, List.length_nil, List.length_map, PySem.strValues]; omega))) | ((with_reducible show wpAny _ _ (subscriptTail (Expr.Name _ _) (Expr.Name _ _) (Value.ref _) (Value.int _ _)) _ _ _); (refine' Mine.m_item ?zzk1 ?zzk2 ?zzk3 ?zzk4 ?zzk5 ?_ ?zzk6; (case zzk1 => k_asm); (case zzk2 => k_mem); (case zzk3 => first | (with_reducible assumption) | lia); (case zzk4 => first | (with_reducible assumption) | lia); (case zzk5 => assumption); (case zzk6 => with_unfolding_all rfl))) | ((with_reducible show wpAny _ _ (subscriptTail (Expr.Name _ _) (Expr.Name _ _) (Value.str _ _) (Value.int _ _)) _ _ _); refine' Mine.s_item ?zzh0 ?zzh1 ?zzh2 ?_; (case zzh0 => lia); (case zzh1 => lia); (case zzh2 => assumption); intro _ _) | ((with_reducible show wpAny _ _ (binaryOp Operator.Add (Value.str _ _) (Value.str _ _)) _ _ _); refine' Mine.s_add ?zzk1 ?zzk2 ?zzk3 ?zzk4 ?_; (case zzk1 => first | exact Mine.sp_eq | exact Mine.no_eq | exact Mine.dots_eq | with_reducible exact rfl); (case zzk2 => first | exact Mine.sp_eq | exact Mine.no_eq | exact Mine.dots_eq | with_reducible exact rfl); (case zzk3 => first | assumption | lia | (simp only [List.length_append, List.length_cons, List.length_nil]; lia)); (case zzk4 => first | assumption | lia | (simp only [List.length_append, List.length_cons, List.length_nil]; lia)); intro _ _) | ((with_reducible show wpAny _ _ (eval (Expr.Name _ _) _) _ _ _); k_inBlock; (first | (refine' Mine.nameC_F ?zzN ?zzc ?zzm ?zzd ?_ ?zza ?zzb ?zze ?zzf; (case zza => rfl); (case zzb => rfl); (case zze => decide); (case zzf => decide); (case zzN => k_asm); (case zzc => rfl); (case zzm => k_mem); (case zzd => k_asm); k_whole) | (refine' Mine.nameC_B ?zzF ?zzX ?zzT ?zze ?zzv ?zzn ?_ ?zzg ?zzbn ?zzk ?zzx ?zzd; (case zzg => rfl); (case zzbn => rfl); (case zzk => rfl); (case zzx => rfl); (case zzd => decide); (case zzF => k_asm); (case zzX => k_asm); (case zzT => k_asm); (case zze => k_is); (case zzv => boot_fast); (case zzn => decide); k_whole))) | (first | (with_reducible show wpAny _ _ (call (Value.ref 107) _) _ _ _) | (with_reducible show wpAny _ _ (call (Value.ref 100) _) _ _ _) | (with_reducible show wpAny _ _ (call (Value.ref 114) _) _ _ _) | (with_reducible show wpAny _ _ (call (Value.ref 88) _) _ _ _)); (refine Hold.out ?_) | ((with_reducible show wpAny _ _ (exec (Stmt.For (Expr.Name _ _) (Expr.Call _ _ _ _) _ _ _) _) _ _ _); refine Hold.out ?_) | ((with_reducible show Mine.FlPost _ _ _ _ _ _ _ _ _ _); dsimp only [Mine.FlPost]) | ((with_reducible show wpAny _ _ (newList _) _ _ _); refine' Mine.m_newList ?zzF ?zzN ?_ ?zzz; (case zzF => k_asm); (case zzN => k_asm); (case zzz => (simp only [List.length_cons, List.length_nil]; lia)); intro _ _ zl _ _; (try k_lt zl); (try k_sweep); (revert zl; intro _)) | ((with_reducible show wpAny _ _ (subscriptTail (Expr.Subscript _ _ _) _ (Value.ref _) (Value.int _ _)) _ _ _); (refine' Mine.m_item ?zzk1 ?zzk2 ?zzk3 ?zzk4 ?zzk5 ?_ ?zzk6; (case zzk1 => k_asm); (case zzk2 => k_mem); (case zzk3 => first | (with_reducible assumption) | lia); (case zzk4 => first | (with_reducible assumption) | lia); (case zzk5 => assumption); (case zzk6 => with_unfolding_all rfl))) | ((with_reducible show wpAny _ _ (subscriptTail _ (Expr.Subscript _ _ _) (Value.ref _) (Value.int _ _)) _ _ _); (refine' Mine.m_item ?zzk1 ?zzk2 ?zzk3 ?zzk4 ?zzk5 ?_ ?zzk6; (case zzk1 => k_asm); (case zzk2 => k_mem); (case zzk3 => first | (with_reducible assumption) | lia); (case zzk4 => first | (with_reducible assumption) | lia); (case zzk5 => assumption); (case zzk6 => with_unfolding_all rfl))) | ((with_reducible show wpAny _ _ (newTuple _) _ _ _); refine' kup_newTuple ?zzF ?zzN ?_ ?zzz; (case zzF => k_asm); (case zzN => k_asm); (case zzz => (rw [sizeLine_eq]; simp only [List.length_cons, List.length_nil]; lia)); intro _ _ _ _ _; (try k_sweep)) | ((with_reducible show wpAny _ _ (compareOp CmpOp.NotIn (Value.bool true) (Value.ref _)) _ _ _); refine' m_notTrue ?zzN ?zzm ?zzb ?_; (case zzN => k_asm); (case zzm => k_mem); (case zzb => assumption)) | (k_end; kc_close) | (walk1; (try dsimp only)) | (dsimp only; walk1) | (leave1; (try dsimp only)) | fail "no step"))
              rename Fr _ _ _ _ => FZ
              rename News _ _ _ _ => NZ
              refine Hold.mk ⟨_, _, _, (D9, W.listOf ys3.toArray ys3.length) :: (WN ++ ((I, o) :: nw)), rfl, FZ, news_drop NZ, ?_, D9, WN, ys3, _, by kst_all, rfl, ?_⟩
              · intro p hp
                simp only [List.mem_cons, List.mem_append] at hp
                rcases hp with rfl | hp | hp
                · exact Ne.symm (ap3 (I2, o2) (by simp)).1
                · exact hWI p hp
                · exact hne2 p (by simp [hp])
              · rw [hwk.1, doneW_end] at hW
                exact hW
          case fin2 =>
            rintro I2 h10 tk10 m10 nw2 hI2 ⟨WD, WL, wl, nl, hm10, rfl, hwk⟩ F10 N10
            clear F1 N1 hrg hI2
            rw [← kst_of hm10] at F10
            (repeat' (first | (k_unfold; (try dsimp only)) | ((with_reducible show wpAny _ _ (exec (Stmt.While _ _ _ _) _) _ _ _); refine Mine.Hold.out ?_) | ((with_reducible show wpAny _ _ (eval (Expr.ListComp _ _ _ _) _) _ _ _); refine Mine.Hold.out ?_) | ((with_reducible show wpAny _ _ (storeName _ _ _) _ _ _); refine' storeX_L ?zzF ?zzN ?_ ?zza ?zzb; (case zzF => k_asm); (case zzN => k_asm); (case zza => rfl); (case zzb => rfl); k_whole; intro _ zF zN; (try dsimp only at zF); (try k_sweep); (revert zF zN; intro _ _)) | ((with_reducible show wpAny _ _ (call (Value.builtin "len") [Value.str (Str.mk (List.toArray _)) _]) _ _ _); refine' Mine.s_len ?zzk3 ?_; (case zzk3 => first | lia | (simp only [List.length_append, List.length_cons, List.length_nil]; lia)); intro _ _) | ((with_reducible show wpAny _ _ (call (Value.builtin "len") [Value.ref _]) _ _ _); refine' Mine.m_len ?zzk1 ?zzk2 ?zzk3 ?_; (case zzk1 => k_asm); (case zzk2 => k_mem); (case zzk3 => first | lia | (simp only [List.length_cons, List.length_nil, List.length_map, PySem.strValues]; omega))) | ((with_reducible show wpAny _ _ (subscriptTail (Expr.Name _ _) (Expr.Name _ _) (Value.ref _) (Value.int _ _)) _ _ _); (refine' Mine.m_item ?zzk1 ?zzk2 ?zzk3 ?zzk4 ?zzk5 ?_ ?zzk6; (case zzk1 => k_asm); (case zzk2 => k_mem); (case zzk3 => first | (with_reducible assumption) | lia); (case zzk4 => first | (with_reducible assumption) | lia); (case zzk5 => assumption); (case zzk6 => with_unfolding_all rfl))) | ((with_reducible show wpAny _ _ (subscriptTail (Expr.Name _ _) (Expr.Name _ _) (Value.str _ _) (Value.int _ _)) _ _ _); refine' Mine.s_item ?zzh0 ?zzh1 ?zzh2 ?_; (case zzh0 => lia); (case zzh1 => lia); (case zzh2 => assumption); intro _ _) | ((with_reducible show wpAny _ _ (binaryOp Operator.Add (Value.str _ _) (Value.str _ _)) _ _ _); refine' Mine.s_add ?zzk1 ?zzk2 ?zzk3 ?zzk4 ?_; (case zzk1 => first | exact Mine.sp_eq | exact Mine.no_eq | exact Mine.dots_eq | with_reducible exact rfl); (case zzk2 => first | exact Mine.sp_eq | exact Mine.no_eq | exact Mine.dots_eq | with_reducible exact rfl); (case zzk3 => first | assumption | lia | (simp only [List.length_append, List.length_cons, List.length_nil]; lia)); (case zzk4 => first | assumption | lia | (simp only [List.length_append, List.length_cons, List.length_nil]; lia)); intro _ _) | ((with_reducible show wpAny _ _ (eval (Expr.Name _ _) _) _ _ _); k_inBlock; (first | (refine' Mine.nameC_F ?zzN ?zzc ?zzm ?zzd ?_ ?zza ?zzb ?zze ?zzf; (case zza => rfl); (case zzb => rfl); (case zze => decide); (case zzf => decide); (case zzN => k_asm); (case zzc => rfl); (case zzm => k_mem); (case zzd => k_asm); k_whole) | (refine' Mine.nameC_B ?zzF ?zzX ?zzT ?zze ?zzv ?zzn ?_ ?zzg ?zzbn ?zzk ?zzx ?zzd; (case zzg => rfl); (case zzbn => rfl); (case zzk => rfl); (case zzx => rfl); (case zzd => decide); (case zzF => k_asm); (case zzX => k_asm); (case zzT => k_asm); (case zze => k_is); (case zzv => boot_fast); (case zzn => decide); k_whole))) | (first | (with_reducible show wpAny _ _ (call (Value.ref 107) _) _ _ _) | (with_reducible show wpAny _ _ (call (Value.ref 100) _) _ _ _) | (with_reducible show wpAny _ _ (call (Value.ref 114) _) _ _ _) | (with_reducible show wpAny _ _ (call (Value.ref 88) _) _ _ _)); (refine Hold.out ?_) | ((with_reducible show wpAny _ _ (exec (Stmt.For (Expr.Name _ _) (Expr.Call _ _ _ _) _ _ _) _) _ _ _); refine Hold.out ?_) | ((with_reducible show Mine.FlPost _ _ _ _ _ _ _ _ _ _); dsimp only [Mine.FlPost]) | ((with_reducible show wpAny _ _ (newList _) _ _ _); refine' Mine.m_newList ?zzF ?zzN ?_ ?zzz; (case zzF => k_asm); (case zzN => k_asm); (case zzz => (simp only [List.length_cons, List.length_nil]; lia)); intro _ _ zl _ _; (try k_lt zl); (try k_sweep); (revert zl; intro _)) | ((with_reducible show wpAny _ _ (subscriptTail (Expr.Subscript _ _ _) _ (Value.ref _) (Value.int _ _)) _ _ _); (refine' Mine.m_item ?zzk1 ?zzk2 ?zzk3 ?zzk4 ?zzk5 ?_ ?zzk6; (case zzk1 => k_asm); (case zzk2 => k_mem); (case zzk3 => first | (with_reducible assumption) | lia); (case zzk4 => first | (with_reducible assumption) | lia); (case zzk5 => assumption); (case zzk6 => with_unfolding_all rfl))) | ((with_reducible show wpAny _ _ (subscriptTail _ (Expr.Subscript _ _ _) (Value.ref _) (Value.int _ _)) _ _ _); (refine' Mine.m_item ?zzk1 ?zzk2 ?zzk3 ?zzk4 ?zzk5 ?_ ?zzk6; (case zzk1 => k_asm); (case zzk2 => k_mem); (case zzk3 => first | (with_reducible assumption) | lia); (case zzk4 => first | (with_reducible assumption) | lia); (case zzk5 => assumption); (case zzk6 => with_unfolding_all rfl))) | ((with_reducible show wpAny _ _ (newTuple _) _ _ _); refine' kup_newTuple ?zzF ?zzN ?_ ?zzz; (case zzF => k_asm); (case zzN => k_asm); (case zzz => (rw [sizeLine_eq]; simp only [List.length_cons, List.length_nil]; lia)); intro _ _ _ _ _; (try k_sweep)) | ((with_reducible show wpAny _ _ (compareOp CmpOp.NotIn (Value.bool true) (Value.ref _)) _ _ _); refine' m_notTrue ?zzN ?zzm ?zzb ?_; (case zzN => k_asm); (case zzm => k_mem); (case zzb => assumption)) | (k_end; kc_close) | (walk1; (try dsimp only)) | (dsimp only; walk1) | (leave1; (try dsimp only)) | fail "no step"))
            have hWl := wk27 ts l0 l1 l2 i hVt
            generalize hws : walkV ts [l0, l1, l2] i (hV ts (i : Int)).toNat = ws at hwk hWl
            obtain ⟨hpl1, hpl2⟩ := plain_law hdl hlets (start := i) (Nat.le_of_lt_succ hi)
            rw [hws] at hpl1 hpl2
            refine Hold.mk ?_
            refine comp_CG (by with_unfolding_all rfl) (by rfl) (by decide) ?_
            (repeat' (first | (k_unfold; (try dsimp only)) | ((with_reducible show wpAny _ _ (exec (Stmt.While _ _ _ _) _) _ _ _); refine Mine.Hold.out ?_) | ((with_reducible show wpAny _ _ (eval (Expr.ListComp _ _ _ _) _) _ _ _); refine Mine.Hold.out ?_) | ((with_reducible show wpAny _ _ (storeName _ _ _) _ _ _); refine' storeX_L ?zzF ?zzN ?_ ?zza ?zzb; (case zzF => k_asm); (case zzN => k_asm); (case zza => rfl); (case zzb => rfl); k_whole; intro _ zF zN; (try dsimp only at zF); (try k_sweep); (revert zF zN; intro _ _)) | ((with_reducible show wpAny _ _ (call (Value.builtin "len") [Value.str (Str.mk (List.toArray _)) _]) _ _ _); refine' Mine.s_len ?zzk3 ?_; (case zzk3 => first | lia | (simp only [List.length_append, List.length_cons, List.length_nil]; lia)); intro _ _) | ((with_reducible show wpAny _ _ (call (Value.builtin "len") [Value.ref _]) _ _ _); refine' Mine.m_len ?zzk1 ?zzk2 ?zzk3 ?_; (case zzk1 => k_asm); (case zzk2 => k_mem); (case zzk3 => first | lia | (simp only [List.length_cons, List.length_nil, List.length_map, PySem.strValues]; omega))) | ((with_reducible show wpAny _ _ (subscriptTail (Expr.Name _ _) (Expr.Name _ _) (Value.ref _) (Value.int _ _)) _ _ _); (refine' Mine.m_item ?zzk1 ?zzk2 ?zzk3 ?zzk4 ?zzk5 ?_ ?zzk6; (case zzk1 => k_asm); (case zzk2 => k_mem); (case zzk3 => first | (with_reducible assumption) | lia); (case zzk4 => first | (with_reducible assumption) | lia); (case zzk5 => assumption); (case zzk6 => with_unfolding_all rfl))) | ((with_reducible show wpAny _ _ (subscriptTail (Expr.Name _ _) (Expr.Name _ _) (Value.str _ _) (Value.int _ _)) _ _ _); refine' Mine.s_item ?zzh0 ?zzh1 ?zzh2 ?_; (case zzh0 => lia); (case zzh1 => lia); (case zzh2 => assumption); intro _ _) | ((with_reducible show wpAny _ _ (binaryOp Operator.Add (Value.str _ _) (Value.str _ _)) _ _ _); refine' Mine.s_add ?zzk1 ?zzk2 ?zzk3 ?zzk4 ?_; (case zzk1 => first | exact Mine.sp_eq | exact Mine.no_eq | exact Mine.dots_eq | with_reducible exact rfl); (case zzk2 => first | exact Mine.sp_eq | exact Mine.no_eq | exact Mine.dots_eq | with_reducible exact rfl); (case zzk3 => first | assumption | lia | (simp only [List.length_append, List.length_cons, List.length_nil]; lia)); (case zzk4 => first | assumption | lia | (simp only [List.length_append, List.length_cons, List.length_nil]; lia)); intro _ _) | ((with_reducible show wpAny _ _ (eval (Expr.Name _ _) _) _ _ _); k_inBlock; (first | (refine' Mine.nameC_F ?zzN ?zzc ?zzm ?zzd ?_ ?zza ?zzb ?zze ?zzf; (case zza => rfl); (case zzb => rfl); (case zze => decide); (case zzf => decide); (case zzN => k_asm); (case zzc => rfl); (case zzm => k_mem); (case zzd => k_asm); k_whole) | (refine' Mine.nameC_B ?zzF ?zzX ?zzT ?zze ?zzv ?zzn ?_ ?zzg ?zzbn ?zzk ?zzx ?zzd; (case zzg => rfl); (case zzbn => rfl); (case zzk => rfl); (case zzx => rfl); (case zzd => decide); (case zzF => k_asm); (case zzX => k_asm); (case zzT => k_asm); (case zze => k_is); (case zzv => boot_fast); (case zzn => decide); k_whole))) | (first | (with_reducible show wpAny _ _ (call (Value.ref 107) _) _ _ _) | (with_reducible show wpAny _ _ (call (Value.ref 100) _) _ _ _) | (with_reducible show wpAny _ _ (call (Value.ref 114) _) _ _ _) | (with_reducible show wpAny _ _ (call (Value.ref 88) _) _ _ _)); (refine Hold.out ?_) | ((with_reducible show wpAny _ _ (exec (Stmt.For (Expr.Name _ _) (Expr.Call _ _ _ _) _ _ _) _) _ _ _); refine Hold.out ?_) | ((with_reducible show Mine.FlPost _ _ _ _ _ _ _ _ _ _); dsimp only [Mine.FlPost]) | ((with_reducible show wpAny _ _ (newList _) _ _ _); refine' Mine.m_newList ?zzF ?zzN ?_ ?zzz; (case zzF => k_asm); (case zzN => k_asm); (case zzz => (simp only [List.length_cons, List.length_nil]; lia)); intro _ _ zl _ _; (try k_lt zl); (try k_sweep); (revert zl; intro _)) | ((with_reducible show wpAny _ _ (subscriptTail (Expr.Subscript _ _ _) _ (Value.ref _) (Value.int _ _)) _ _ _); (refine' Mine.m_item ?zzk1 ?zzk2 ?zzk3 ?zzk4 ?zzk5 ?_ ?zzk6; (case zzk1 => k_asm); (case zzk2 => k_mem); (case zzk3 => first | (with_reducible assumption) | lia); (case zzk4 => first | (with_reducible assumption) | lia); (case zzk5 => assumption); (case zzk6 => with_unfolding_all rfl))) | ((with_reducible show wpAny _ _ (subscriptTail _ (Expr.Subscript _ _ _) (Value.ref _) (Value.int _ _)) _ _ _); (refine' Mine.m_item ?zzk1 ?zzk2 ?zzk3 ?zzk4 ?zzk5 ?_ ?zzk6; (case zzk1 => k_asm); (case zzk2 => k_mem); (case zzk3 => first | (with_reducible assumption) | lia); (case zzk4 => first | (with_reducible assumption) | lia); (case zzk5 => assumption); (case zzk6 => with_unfolding_all rfl))) | ((with_reducible show wpAny _ _ (newTuple _) _ _ _); refine' kup_newTuple ?zzF ?zzN ?_ ?zzz; (case zzF => k_asm); (case zzN => k_asm); (case zzz => (rw [sizeLine_eq]; simp only [List.length_cons, List.length_nil]; lia)); intro _ _ _ _ _; (try k_sweep)) | ((with_reducible show wpAny _ _ (compareOp CmpOp.NotIn (Value.bool true) (Value.ref _)) _ _ _); refine' m_notTrue ?zzN ?zzm ?zzb ?_; (case zzN => k_asm); (case zzm => k_mem); (case zzb => assumption)) | (k_end; kc_close) | (walk1; (try dsimp only)) | (dsimp only; walk1) | (leave1; (try dsimp only)) | fail "no step"))
            rename Fr _ _ _ _ => F2
            rename News _ _ _ _ => N2
            k_dflt (refine cg_one (its := wl) (n := nl) (fun i3 ys nw3 => nw3 = (WD, W.listOf wl.toArray nl) :: (WL ++ ((I, o) :: nw)) ∧ ys = (ws.take i3).map (fun w => Value.bool w.2.2)) (fun i3 vx vy vz => ∃ v : List Nat × Int × Bool, ws[i3]? = some v ∧ vz = .bool v.2.2) (by rfl) F2 N2 (by simp) (by decide) (by rfl) (by rfl) (by rfl) (by rfl) (by decide) (by decide) (by decide) ?h0 ?hJz ?hS ?hT ?step3 ?fin3)
            case h0 => exact ⟨rfl, rfl⟩
            case hJz =>
              rintro i3 ys3 nw3 ⟨_, rfl⟩
              rw [sizeLine_eq, List.length_map, List.length_take]
              lia
            case hS => rintro i3 ys3 nw3 ⟨rfl, _⟩; exact List.mem_cons_self
            case hT =>
              rintro i3 v ys3 nw3 hv ⟨rfl, _⟩
              have hi3 : i3 < ws.length := by rw [← hwk.1]; exact (List.getElem?_eq_some_iff.mp hv).1
              obtain ⟨T, t3, u3, e1, e2⟩ := hwk.2 i3 _ (List.getElem?_eq_getElem hi3)
              rw [hv] at e1; cases e1
              exact ⟨T, _, _, _, rfl, List.mem_cons_of_mem _ (List.mem_append_left _ e2), _, List.getElem?_eq_getElem hi3, rfl⟩
            case step3 =>
              rintro i3 ys3 nw3 vx vy vz I3 oI3 C oC D9 m₂ h3 tk3 E3 hi3 ⟨v, hv, rfl⟩ ⟨rfl, rfl⟩ nC ma mb mc F3 N3 hne3 hap3
              clear F2 N2
              (repeat' (first | (k_unfold; (try dsimp only)) | ((with_reducible show wpAny _ _ (exec (Stmt.While _ _ _ _) _) _ _ _); refine Mine.Hold.out ?_) | ((with_reducible show wpAny _ _ (eval (Expr.ListComp _ _ _ _) _) _ _ _); refine Mine.Hold.out ?_) | ((with_reducible show wpAny _ _ (storeName _ _ _) _ _ _); refine' storeX_L ?zzF ?zzN ?_ ?zza ?zzb; (case zzF => k_asm); (case zzN => k_asm); (case zza => rfl); (case zzb => rfl); k_whole; intro _ zF zN; (try dsimp only at zF); (try k_sweep); (revert zF zN; intro _ _)) | ((with_reducible show wpAny _ _ (call (Value.builtin "len") [Value.str (Str.mk (List.toArray _)) _]) _ _ _); refine' Mine.s_len ?zzk3 ?_; (case zzk3 => first | lia | (simp only [List.length_append, List.length_cons, List.length_nil]; lia)); intro _ _) | ((with_reducible show wpAny _ _ (call (Value.builtin "len") [Value.ref _]) _ _ _); refine' Mine.m_len ?zzk1 ?zzk2 ?zzk3 ?_; (case zzk1 => k_asm); (case zzk2 => k_mem); (case zzk3 => first | lia | (simp only [List.length_cons, List.length_nil, List.length_map, PySem.strValues]; omega))) | ((with_reducible show wpAny _ _ (subscriptTail (Expr.Name _ _) (Expr.Name _ _) (Value.ref _) (Value.int _ _)) _ _ _); (refine' Mine.m_item ?zzk1 ?zzk2 ?zzk3 ?zzk4 ?zzk5 ?_ ?zzk6; (case zzk1 => k_asm); (case zzk2 => k_mem); (case zzk3 => first | (with_reducible assumption) | lia); (case zzk4 => first | (with_reducible assumption) | lia); (case zzk5 => assumption); (case zzk6 => with_unfolding_all rfl))) | ((with_reducible show wpAny _ _ (subscriptTail (Expr.Name _ _) (Expr.Name _ _) (Value.str _ _) (Value.int _ _)) _ _ _); refine' Mine.s_item ?zzh0 ?zzh1 ?zzh2 ?_; (case zzh0 => lia); (case zzh1 => lia); (case zzh2 => assumption); intro _ _) | ((with_reducible show wpAny _ _ (binaryOp Operator.Add (Value.str _ _) (Value.str _ _)) _ _ _); refine' Mine.s_add ?zzk1 ?zzk2 ?zzk3 ?zzk4 ?_; (case zzk1 => first | exact Mine.sp_eq | exact Mine.no_eq | exact Mine.dots_eq | with_reducible exact rfl); (case zzk2 => first | exact Mine.sp_eq | exact Mine.no_eq | exact Mine.dots_eq | with_reducible exact rfl); (case zzk3 => first | assumption | lia | (simp only [List.length_append, List.length_cons, List.length_nil]; lia)); (case zzk4 => first | assumption | lia | (simp only [List.length_append, List.length_cons, List.length_nil]; lia)); intro _ _) | ((with_reducible show wpAny _ _ (eval (Expr.Name _ _) _) _ _ _); k_inBlock; (first | (refine' Mine.nameC_F ?zzN ?zzc ?zzm ?zzd ?_ ?zza ?zzb ?zze ?zzf; (case zza => rfl); (case zzb => rfl); (case zze => decide); (case zzf => decide); (case zzN => k_asm); (case zzc => rfl); (case zzm => k_mem); (case zzd => k_asm); k_whole) | (refine' Mine.nameC_B ?zzF ?zzX ?zzT ?zze ?zzv ?zzn ?_ ?zzg ?zzbn ?zzk ?zzx ?zzd; (case zzg => rfl); (case zzbn => rfl); (case zzk => rfl); (case zzx => rfl); (case zzd => decide); (case zzF => k_asm); (case zzX => k_asm); (case zzT => k_asm); (case zze => k_is); (case zzv => boot_fast); (case zzn => decide); k_whole))) | (first | (with_reducible show wpAny _ _ (call (Value.ref 107) _) _ _ _) | (with_reducible show wpAny _ _ (call (Value.ref 100) _) _ _ _) | (with_reducible show wpAny _ _ (call (Value.ref 114) _) _ _ _) | (with_reducible show wpAny _ _ (call (Value.ref 88) _) _ _ _)); (refine Hold.out ?_) | ((with_reducible show wpAny _ _ (exec (Stmt.For (Expr.Name _ _) (Expr.Call _ _ _ _) _ _ _) _) _ _ _); refine Hold.out ?_) | ((with_reducible show Mine.FlPost _ _ _ _ _ _ _ _ _ _); dsimp only [Mine.FlPost]) | ((with_reducible show wpAny _ _ (newList _) _ _ _); refine' Mine.m_newList ?zzF ?zzN ?_ ?zzz; (case zzF => k_asm); (case zzN => k_asm); (case zzz => (simp only [List.length_cons, List.length_nil]; lia)); intro _ _ zl _ _; (try k_lt zl); (try k_sweep); (revert zl; intro _)) | ((with_reducible show wpAny _ _ (subscriptTail (Expr.Subscript _ _ _) _ (Value.ref _) (Value.int _ _)) _ _ _); (refine' Mine.m_item ?zzk1 ?zzk2 ?zzk3 ?zzk4 ?zzk5 ?_ ?zzk6; (case zzk1 => k_asm); (case zzk2 => k_mem); (case zzk3 => first | (with_reducible assumption) | lia); (case zzk4 => first | (with_reducible assumption) | lia); (case zzk5 => assumption); (case zzk6 => with_unfolding_all rfl))) | ((with_reducible show wpAny _ _ (subscriptTail _ (Expr.Subscript _ _ _) (Value.ref _) (Value.int _ _)) _ _ _); (refine' Mine.m_item ?zzk1 ?zzk2 ?zzk3 ?zzk4 ?zzk5 ?_ ?zzk6; (case zzk1 => k_asm); (case zzk2 => k_mem); (case zzk3 => first | (with_reducible assumption) | lia); (case zzk4 => first | (with_reducible assumption) | lia); (case zzk5 => assumption); (case zzk6 => with_unfolding_all rfl))) | ((with_reducible show wpAny _ _ (newTuple _) _ _ _); refine' kup_newTuple ?zzF ?zzN ?_ ?zzz; (case zzF => k_asm); (case zzN => k_asm); (case zzz => (rw [sizeLine_eq]; simp only [List.length_cons, List.length_nil]; lia)); intro _ _ _ _ _; (try k_sweep)) | ((with_reducible show wpAny _ _ (compareOp CmpOp.NotIn (Value.bool true) (Value.ref _)) _ _ _); refine' m_notTrue ?zzN ?zzm ?zzb ?_; (case zzN => k_asm); (case zzm => k_mem); (case zzb => assumption)) | (k_end; kc_close) | (walk1; (try dsimp only)) | (dsimp only; walk1) | (leave1; (try dsimp only)) | fail "no step"))
              rename Fr _ _ _ _ => FZ
              rename News _ _ _ _ => NZ
              exact Hold.mk ⟨_, _, _, rfl, FZ, NZ, hap3, rfl, by rw [List.take_add_one, hv]; simp⟩
            case fin3 =>
              rintro D9 C h3 tk3 ys3 nw3 m' ⟨rfl, hys3⟩ F3 N3 ap3 hn hC0 hCL hCD
              clear F2 N2
              refine' fin_eval (s := ⟨h3, gn, dr, tk3, os⟩) F3 N3 ap3 hn hC0 hCL hCD ?_
              intro h4 F4 N4
              clear F3 N3
              rw [hwk.1, List.take_length] at hys3
              obtain rfl : ys3 = (ws.map (fun w => w.2.2)).map Value.bool := by rw [hys3, List.map_map]; rfl
              have hbt : (ws.map (fun w => w.2.2)).contains true = true := by
                obtain ⟨w, hw, e⟩ := hpl1
                simp only [List.contains_iff_mem, List.mem_map]
                exact ⟨w, hw, e⟩
              rw [lst_eq] at N4
              (repeat' (first | (k_unfold; (try dsimp only)) | ((with_reducible show wpAny _ _ (exec (Stmt.While _ _ _ _) _) _ _ _); refine Mine.Hold.out ?_) | ((with_reducible show wpAny _ _ (eval (Expr.ListComp _ _ _ _) _) _ _ _); refine Mine.Hold.out ?_) | ((with_reducible show wpAny _ _ (storeName _ _ _) _ _ _); refine' storeX_L ?zzF ?zzN ?_ ?zza ?zzb; (case zzF => k_asm); (case zzN => k_asm); (case zza => rfl); (case zzb => rfl); k_whole; intro _ zF zN; (try dsimp only at zF); (try k_sweep); (revert zF zN; intro _ _)) | ((with_reducible show wpAny _ _ (call (Value.builtin "len") [Value.str (Str.mk (List.toArray _)) _]) _ _ _); refine' Mine.s_len ?zzk3 ?_; (case zzk3 => first | lia | (simp only [List.length_append, List.length_cons, List.length_nil]; lia)); intro _ _) | ((with_reducible show wpAny _ _ (call (Value.builtin "len") [Value.ref _]) _ _ _); refine' Mine.m_len ?zzk1 ?zzk2 ?zzk3 ?_; (case zzk1 => k_asm); (case zzk2 => k_mem); (case zzk3 => first | lia | (simp only [List.length_cons, List.length_nil, List.length_map, PySem.strValues]; omega))) | ((with_reducible show wpAny _ _ (subscriptTail (Expr.Name _ _) (Expr.Name _ _) (Value.ref _) (Value.int _ _)) _ _ _); (refine' Mine.m_item ?zzk1 ?zzk2 ?zzk3 ?zzk4 ?zzk5 ?_ ?zzk6; (case zzk1 => k_asm); (case zzk2 => k_mem); (case zzk3 => first | (with_reducible assumption) | lia); (case zzk4 => first | (with_reducible assumption) | lia); (case zzk5 => assumption); (case zzk6 => with_unfolding_all rfl))) | ((with_reducible show wpAny _ _ (subscriptTail (Expr.Name _ _) (Expr.Name _ _) (Value.str _ _) (Value.int _ _)) _ _ _); refine' Mine.s_item ?zzh0 ?zzh1 ?zzh2 ?_; (case zzh0 => lia); (case zzh1 => lia); (case zzh2 => assumption); intro _ _) | ((with_reducible show wpAny _ _ (binaryOp Operator.Add (Value.str _ _) (Value.str _ _)) _ _ _); refine' Mine.s_add ?zzk1 ?zzk2 ?zzk3 ?zzk4 ?_; (case zzk1 => first | exact Mine.sp_eq | exact Mine.no_eq | exact Mine.dots_eq | with_reducible exact rfl); (case zzk2 => first | exact Mine.sp_eq | exact Mine.no_eq | exact Mine.dots_eq | with_reducible exact rfl); (case zzk3 => first | assumption | lia | (simp only [List.length_append, List.length_cons, List.length_nil]; lia)); (case zzk4 => first | assumption | lia | (simp only [List.length_append, List.length_cons, List.length_nil]; lia)); intro _ _) | ((with_reducible show wpAny _ _ (eval (Expr.Name _ _) _) _ _ _); k_inBlock; (first | (refine' Mine.nameC_F ?zzN ?zzc ?zzm ?zzd ?_ ?zza ?zzb ?zze ?zzf; (case zza => rfl); (case zzb => rfl); (case zze => decide); (case zzf => decide); (case zzN => k_asm); (case zzc => rfl); (case zzm => k_mem); (case zzd => k_asm); k_whole) | (refine' Mine.nameC_B ?zzF ?zzX ?zzT ?zze ?zzv ?zzn ?_ ?zzg ?zzbn ?zzk ?zzx ?zzd; (case zzg => rfl); (case zzbn => rfl); (case zzk => rfl); (case zzx => rfl); (case zzd => decide); (case zzF => k_asm); (case zzX => k_asm); (case zzT => k_asm); (case zze => k_is); (case zzv => boot_fast); (case zzn => decide); k_whole))) | (first | (with_reducible show wpAny _ _ (call (Value.ref 107) _) _ _ _) | (with_reducible show wpAny _ _ (call (Value.ref 100) _) _ _ _) | (with_reducible show wpAny _ _ (call (Value.ref 114) _) _ _ _) | (with_reducible show wpAny _ _ (call (Value.ref 88) _) _ _ _)); (refine Hold.out ?_) | ((with_reducible show wpAny _ _ (exec (Stmt.For (Expr.Name _ _) (Expr.Call _ _ _ _) _ _ _) _) _ _ _); refine Hold.out ?_) | ((with_reducible show Mine.FlPost _ _ _ _ _ _ _ _ _ _); dsimp only [Mine.FlPost]) | ((with_reducible show wpAny _ _ (newList _) _ _ _); refine' Mine.m_newList ?zzF ?zzN ?_ ?zzz; (case zzF => k_asm); (case zzN => k_asm); (case zzz => (simp only [List.length_cons, List.length_nil]; lia)); intro _ _ zl _ _; (try k_lt zl); (try k_sweep); (revert zl; intro _)) | ((with_reducible show wpAny _ _ (subscriptTail (Expr.Subscript _ _ _) _ (Value.ref _) (Value.int _ _)) _ _ _); (refine' Mine.m_item ?zzk1 ?zzk2 ?zzk3 ?zzk4 ?zzk5 ?_ ?zzk6; (case zzk1 => k_asm); (case zzk2 => k_mem); (case zzk3 => first | (with_reducible assumption) | lia); (case zzk4 => first | (with_reducible assumption) | lia); (case zzk5 => assumption); (case zzk6 => with_unfolding_all rfl))) | ((with_reducible show wpAny _ _ (subscriptTail _ (Expr.Subscript _ _ _) (Value.ref _) (Value.int _ _)) _ _ _); (refine' Mine.m_item ?zzk1 ?zzk2 ?zzk3 ?zzk4 ?zzk5 ?_ ?zzk6; (case zzk1 => k_asm); (case zzk2 => k_mem); (case zzk3 => first | (with_reducible assumption) | lia); (case zzk4 => first | (with_reducible assumption) | lia); (case zzk5 => assumption); (case zzk6 => with_unfolding_all rfl))) | ((with_reducible show wpAny _ _ (newTuple _) _ _ _); refine' kup_newTuple ?zzF ?zzN ?_ ?zzz; (case zzF => k_asm); (case zzN => k_asm); (case zzz => (rw [sizeLine_eq]; simp only [List.length_cons, List.length_nil]; lia)); intro _ _ _ _ _; (try k_sweep)) | ((with_reducible show wpAny _ _ (compareOp CmpOp.NotIn (Value.bool true) (Value.ref _)) _ _ _); refine' m_notTrue ?zzN ?zzm ?zzb ?_; (case zzN => k_asm); (case zzm => k_mem); (case zzb => assumption)) | (k_end; kc_close) | (walk1; (try dsimp only)) | (dsimp only; walk1) | (leave1; (try dsimp only)) | fail "no step"))
              rename Fr _ _ _ _ => F5
              rename News _ _ _ _ => N5
              replace N5 := m_tail N5
              refine fl_for ?_
              (repeat' (first | (k_unfold; (try dsimp only)) | ((with_reducible show wpAny _ _ (exec (Stmt.While _ _ _ _) _) _ _ _); refine Mine.Hold.out ?_) | ((with_reducible show wpAny _ _ (eval (Expr.ListComp _ _ _ _) _) _ _ _); refine Mine.Hold.out ?_) | ((with_reducible show wpAny _ _ (storeName _ _ _) _ _ _); refine' storeX_L ?zzF ?zzN ?_ ?zza ?zzb; (case zzF => k_asm); (case zzN => k_asm); (case zza => rfl); (case zzb => rfl); k_whole; intro _ zF zN; (try dsimp only at zF); (try k_sweep); (revert zF zN; intro _ _)) | ((with_reducible show wpAny _ _ (call (Value.builtin "len") [Value.str (Str.mk (List.toArray _)) _]) _ _ _); refine' Mine.s_len ?zzk3 ?_; (case zzk3 => first | lia | (simp only [List.length_append, List.length_cons, List.length_nil]; lia)); intro _ _) | ((with_reducible show wpAny _ _ (call (Value.builtin "len") [Value.ref _]) _ _ _); refine' Mine.m_len ?zzk1 ?zzk2 ?zzk3 ?_; (case zzk1 => k_asm); (case zzk2 => k_mem); (case zzk3 => first | lia | (simp only [List.length_cons, List.length_nil, List.length_map, PySem.strValues]; omega))) | ((with_reducible show wpAny _ _ (subscriptTail (Expr.Name _ _) (Expr.Name _ _) (Value.ref _) (Value.int _ _)) _ _ _); (refine' Mine.m_item ?zzk1 ?zzk2 ?zzk3 ?zzk4 ?zzk5 ?_ ?zzk6; (case zzk1 => k_asm); (case zzk2 => k_mem); (case zzk3 => first | (with_reducible assumption) | lia); (case zzk4 => first | (with_reducible assumption) | lia); (case zzk5 => assumption); (case zzk6 => with_unfolding_all rfl))) | ((with_reducible show wpAny _ _ (subscriptTail (Expr.Name _ _) (Expr.Name _ _) (Value.str _ _) (Value.int _ _)) _ _ _); refine' Mine.s_item ?zzh0 ?zzh1 ?zzh2 ?_; (case zzh0 => lia); (case zzh1 => lia); (case zzh2 => assumption); intro _ _) | ((with_reducible show wpAny _ _ (binaryOp Operator.Add (Value.str _ _) (Value.str _ _)) _ _ _); refine' Mine.s_add ?zzk1 ?zzk2 ?zzk3 ?zzk4 ?_; (case zzk1 => first | exact Mine.sp_eq | exact Mine.no_eq | exact Mine.dots_eq | with_reducible exact rfl); (case zzk2 => first | exact Mine.sp_eq | exact Mine.no_eq | exact Mine.dots_eq | with_reducible exact rfl); (case zzk3 => first | assumption | lia | (simp only [List.length_append, List.length_cons, List.length_nil]; lia)); (case zzk4 => first | assumption | lia | (simp only [List.length_append, List.length_cons, List.length_nil]; lia)); intro _ _) | ((with_reducible show wpAny _ _ (eval (Expr.Name _ _) _) _ _ _); k_inBlock; (first | (refine' Mine.nameC_F ?zzN ?zzc ?zzm ?zzd ?_ ?zza ?zzb ?zze ?zzf; (case zza => rfl); (case zzb => rfl); (case zze => decide); (case zzf => decide); (case zzN => k_asm); (case zzc => rfl); (case zzm => k_mem); (case zzd => k_asm); k_whole) | (refine' Mine.nameC_B ?zzF ?zzX ?zzT ?zze ?zzv ?zzn ?_ ?zzg ?zzbn ?zzk ?zzx ?zzd; (case zzg => rfl); (case zzbn => rfl); (case zzk => rfl); (case zzx => rfl); (case zzd => decide); (case zzF => k_asm); (case zzX => k_asm); (case zzT => k_asm); (case zze => k_is); (case zzv => boot_fast); (case zzn => decide); k_whole))) | (first | (with_reducible show wpAny _ _ (call (Value.ref 107) _) _ _ _) | (with_reducible show wpAny _ _ (call (Value.ref 100) _) _ _ _) | (with_reducible show wpAny _ _ (call (Value.ref 114) _) _ _ _) | (with_reducible show wpAny _ _ (call (Value.ref 88) _) _ _ _)); (refine Hold.out ?_) | ((with_reducible show wpAny _ _ (exec (Stmt.For (Expr.Name _ _) (Expr.Call _ _ _ _) _ _ _) _) _ _ _); refine Hold.out ?_) | ((with_reducible show Mine.FlPost _ _ _ _ _ _ _ _ _ _); dsimp only [Mine.FlPost]) | ((with_reducible show wpAny _ _ (newList _) _ _ _); refine' Mine.m_newList ?zzF ?zzN ?_ ?zzz; (case zzF => k_asm); (case zzN => k_asm); (case zzz => (simp only [List.length_cons, List.length_nil]; lia)); intro _ _ zl _ _; (try k_lt zl); (try k_sweep); (revert zl; intro _)) | ((with_reducible show wpAny _ _ (subscriptTail (Expr.Subscript _ _ _) _ (Value.ref _) (Value.int _ _)) _ _ _); (refine' Mine.m_item ?zzk1 ?zzk2 ?zzk3 ?zzk4 ?zzk5 ?_ ?zzk6; (case zzk1 => k_asm); (case zzk2 => k_mem); (case zzk3 => first | (with_reducible assumption) | lia); (case zzk4 => first | (with_reducible assumption) | lia); (case zzk5 => assumption); (case zzk6 => with_unfolding_all rfl))) | ((with_reducible show wpAny _ _ (subscriptTail _ (Expr.Subscript _ _ _) (Value.ref _) (Value.int _ _)) _ _ _); (refine' Mine.m_item ?zzk1 ?zzk2 ?zzk3 ?zzk4 ?zzk5 ?_ ?zzk6; (case zzk1 => k_asm); (case zzk2 => k_mem); (case zzk3 => first | (with_reducible assumption) | lia); (case zzk4 => first | (with_reducible assumption) | lia); (case zzk5 => assumption); (case zzk6 => with_unfolding_all rfl))) | ((with_reducible show wpAny _ _ (newTuple _) _ _ _); refine' kup_newTuple ?zzF ?zzN ?_ ?zzz; (case zzF => k_asm); (case zzN => k_asm); (case zzz => (rw [sizeLine_eq]; simp only [List.length_cons, List.length_nil]; lia)); intro _ _ _ _ _; (try k_sweep)) | ((with_reducible show wpAny _ _ (compareOp CmpOp.NotIn (Value.bool true) (Value.ref _)) _ _ _); refine' m_notTrue ?zzN ?zzm ?zzb ?_; (case zzN => k_asm); (case zzm => k_mem); (case zzb => assumption)) | (k_end; kc_close) | (walk1; (try dsimp only)) | (dsimp only; walk1) | (leave1; (try dsimp only)) | fail "no step"))
              k_dflt (refine fl_list (its := wl) (n := nl) (fun Iz i3 m nw3 => nw3 = (WD, W.listOf wl.toArray nl) :: (WL ++ ((I, o) :: nw)) ∧ (∀ p ∈ [(Str.ofString "walks", Value.ref WD), (Str.ofString "start", Value.int (i : Int) t')], m p.1 = some p.2)) (by rfl) ?go F5 N5 List.mem_cons_self ?hS4 ?h04 ?step4 ?fin4 (by passes_own))
              case go =>
                intro Iz iz v s Q E hit hv hq
                obtain ⟨k5, hk5⟩ := List.getElem?_of_mem hv
                have hi5 : k5 < ws.length := by rw [← hwk.1]; exact (List.getElem?_eq_some_iff.mp hk5).1
                obtain ⟨T, t3, u3, e1, e2⟩ := hwk.2 k5 _ (List.getElem?_eq_getElem hi5)
                rw [hk5] at e1; cases e1
                exact wpAny_letOwnedTupleGo_listiter hit hq
              case hS4 => rintro Iz iz m5 nw5 ⟨rfl, _⟩; exact List.mem_cons_self
              case h04 => exact fun Iz _ => ⟨rfl, by kst_all⟩
              case fin4 =>
                rintro Iz h5 tk5 m5 nw5 hIz ⟨rfl, hm5⟩ F6 N6
                clear F5 N5
                (repeat' (first | (k_unfold; (try dsimp only)) | ((with_reducible show wpAny _ _ (exec (Stmt.While _ _ _ _) _) _ _ _); refine Mine.Hold.out ?_) | ((with_reducible show wpAny _ _ (eval (Expr.ListComp _ _ _ _) _) _ _ _); refine Mine.Hold.out ?_) | ((with_reducible show wpAny _ _ (storeName _ _ _) _ _ _); refine' storeX_L ?zzF ?zzN ?_ ?zza ?zzb; (case zzF => k_asm); (case zzN => k_asm); (case zza => rfl); (case zzb => rfl); k_whole; intro _ zF zN; (try dsimp only at zF); (try k_sweep); (revert zF zN; intro _ _)) | ((with_reducible show wpAny _ _ (call (Value.builtin "len") [Value.str (Str.mk (List.toArray _)) _]) _ _ _); refine' Mine.s_len ?zzk3 ?_; (case zzk3 => first | lia | (simp only [List.length_append, List.length_cons, List.length_nil]; lia)); intro _ _) | ((with_reducible show wpAny _ _ (call (Value.builtin "len") [Value.ref _]) _ _ _); refine' Mine.m_len ?zzk1 ?zzk2 ?zzk3 ?_; (case zzk1 => k_asm); (case zzk2 => k_mem); (case zzk3 => first | lia | (simp only [List.length_cons, List.length_nil, List.length_map, PySem.strValues]; omega))) | ((with_reducible show wpAny _ _ (subscriptTail (Expr.Name _ _) (Expr.Name _ _) (Value.ref _) (Value.int _ _)) _ _ _); (refine' Mine.m_item ?zzk1 ?zzk2 ?zzk3 ?zzk4 ?zzk5 ?_ ?zzk6; (case zzk1 => k_asm); (case zzk2 => k_mem); (case zzk3 => first | (with_reducible assumption) | lia); (case zzk4 => first | (with_reducible assumption) | lia); (case zzk5 => assumption); (case zzk6 => with_unfolding_all rfl))) | ((with_reducible show wpAny _ _ (subscriptTail (Expr.Name _ _) (Expr.Name _ _) (Value.str _ _) (Value.int _ _)) _ _ _); refine' Mine.s_item ?zzh0 ?zzh1 ?zzh2 ?_; (case zzh0 => lia); (case zzh1 => lia); (case zzh2 => assumption); intro _ _) | ((with_reducible show wpAny _ _ (binaryOp Operator.Add (Value.str _ _) (Value.str _ _)) _ _ _); refine' Mine.s_add ?zzk1 ?zzk2 ?zzk3 ?zzk4 ?_; (case zzk1 => first | exact Mine.sp_eq | exact Mine.no_eq | exact Mine.dots_eq | with_reducible exact rfl); (case zzk2 => first | exact Mine.sp_eq | exact Mine.no_eq | exact Mine.dots_eq | with_reducible exact rfl); (case zzk3 => first | assumption | lia | (simp only [List.length_append, List.length_cons, List.length_nil]; lia)); (case zzk4 => first | assumption | lia | (simp only [List.length_append, List.length_cons, List.length_nil]; lia)); intro _ _) | ((with_reducible show wpAny _ _ (eval (Expr.Name _ _) _) _ _ _); k_inBlock; (first | (refine' Mine.nameC_F ?zzN ?zzc ?zzm ?zzd ?_ ?zza ?zzb ?zze ?zzf; (case zza => rfl); (case zzb => rfl); (case zze => decide); (case zzf => decide); (case zzN => k_asm); (case zzc => rfl); (case zzm => k_mem); (case zzd => k_asm); k_whole) | (refine' Mine.nameC_B ?zzF ?zzX ?zzT ?zze ?zzv ?zzn ?_ ?zzg ?zzbn ?zzk ?zzx ?zzd; (case zzg => rfl); (case zzbn => rfl); (case zzk => rfl); (case zzx => rfl); (case zzd => decide); (case zzF => k_asm); (case zzX => k_asm); (case zzT => k_asm); (case zze => k_is); (case zzv => boot_fast); (case zzn => decide); k_whole))) | (first | (with_reducible show wpAny _ _ (call (Value.ref 107) _) _ _ _) | (with_reducible show wpAny _ _ (call (Value.ref 100) _) _ _ _) | (with_reducible show wpAny _ _ (call (Value.ref 114) _) _ _ _) | (with_reducible show wpAny _ _ (call (Value.ref 88) _) _ _ _)); (refine Hold.out ?_) | ((with_reducible show wpAny _ _ (exec (Stmt.For (Expr.Name _ _) (Expr.Call _ _ _ _) _ _ _) _) _ _ _); refine Hold.out ?_) | ((with_reducible show Mine.FlPost _ _ _ _ _ _ _ _ _ _); dsimp only [Mine.FlPost]) | ((with_reducible show wpAny _ _ (newList _) _ _ _); refine' Mine.m_newList ?zzF ?zzN ?_ ?zzz; (case zzF => k_asm); (case zzN => k_asm); (case zzz => (simp only [List.length_cons, List.length_nil]; lia)); intro _ _ zl _ _; (try k_lt zl); (try k_sweep); (revert zl; intro _)) | ((with_reducible show wpAny _ _ (subscriptTail (Expr.Subscript _ _ _) _ (Value.ref _) (Value.int _ _)) _ _ _); (refine' Mine.m_item ?zzk1 ?zzk2 ?zzk3 ?zzk4 ?zzk5 ?_ ?zzk6; (case zzk1 => k_asm); (case zzk2 => k_mem); (case zzk3 => first | (with_reducible assumption) | lia); (case zzk4 => first | (with_reducible assumption) | lia); (case zzk5 => assumption); (case zzk6 => with_unfolding_all rfl))) | ((with_reducible show wpAny _ _ (subscriptTail _ (Expr.Subscript _ _ _) (Value.ref _) (Value.int _ _)) _ _ _); (refine' Mine.m_item ?zzk1 ?zzk2 ?zzk3 ?zzk4 ?zzk5 ?_ ?zzk6; (case zzk1 => k_asm); (case zzk2 => k_mem); (case zzk3 => first | (with_reducible assumption) | lia); (case zzk4 => first | (with_reducible assumption) | lia); (case zzk5 => assumption); (case zzk6 => with_unfolding_all rfl))) | ((with_reducible show wpAny _ _ (newTuple _) _ _ _); refine' kup_newTuple ?zzF ?zzN ?_ ?zzz; (case zzF => k_asm); (case zzN => k_asm); (case zzz => (rw [sizeLine_eq]; simp only [List.length_cons, List.length_nil]; lia)); intro _ _ _ _ _; (try k_sweep)) | ((with_reducible show wpAny _ _ (compareOp CmpOp.NotIn (Value.bool true) (Value.ref _)) _ _ _); refine' m_notTrue ?zzN ?zzm ?zzb ?_; (case zzN => k_asm); (case zzm => k_mem); (case zzb => assumption)) | (k_end; kc_close) | (walk1; (try dsimp only)) | (dsimp only; walk1) | (leave1; (try dsimp only)) | fail "no step"))
                refine Hold.mk ⟨_, _, _, nw, rfl, F6, fun q hq => N6 q ?_, hne, rfl⟩
                rcases List.mem_cons.mp hq with rfl | hq
                · simp
                · simp [hq]
              case step4 =>
                rintro I5 k5 v m5 nw5 o5 h5 tk5 hI5 hk5 ⟨rfl, hm5⟩ hne5 F6 N6
                clear F5 N5
                rw [← kst_of hm5] at F6
                have hi5 : k5 < ws.length := by rw [← hwk.1]; exact (List.getElem?_eq_some_iff.mp hk5).1
                obtain ⟨T, t3, u3, e1, e2⟩ := hwk.2 k5 _ (List.getElem?_eq_getElem hi5)
                rw [hk5] at e1; cases e1
                have hwm : ws[k5] ∈ ws := List.getElem_mem hi5
                generalize ws[k5] = w5 at e2 hwm
                have hmv := hpl2 w5 hwm
                obtain ⟨hpl, hw1, hw3, hw2⟩ := endf hdl hlets hts hi (hws ▸ hwm)
                obtain ⟨xw, pw, fw⟩ := w5
                dsimp only at e2 hmv hpl hw1 hw2 hw3
                have hT5 := N6 (T, tupO [Value.str ⟨(preL xw).toArray⟩ t3, Value.int pw u3, Value.bool fw]) (List.mem_cons_of_mem _ (List.mem_cons_of_mem _ (List.mem_append_left _ e2)))
                refine' assign3 (x := Value.str ⟨(preL xw).toArray⟩ t3) (y := Value.int pw u3) (z := Value.bool fw) ?hh ⟨_, hT5.1, rfl, _, rfl⟩ ?ka ?kb ?kc ?kp F6.ns ?_
                case hh => rfl
                case ka => rfl
                case kb => rfl
                case kc => rfl
                case kp => rfl
                intro h6 tk6 hn6 hs6
                have hL₀ : g'.get? L' = none := Heap.get?_none_of_le F6.above
                have F7 : Fr g' L' h6 _ := ⟨hn6, fun b o e => hs6 b o (fun q => by rw [show b = L' from q, hL₀] at e; cases e) (F6.keep b o e), F6.above⟩
                have N7 : News g' L' h6 _ := fun p hp => ⟨hs6 _ _ (N6 p hp).2.1 (N6 p hp).1, (N6 p hp).2⟩
                clear F6 N6 hn6 hs6 hT5
                replace N7 : News g' L' h6 ((L' + 1, o6') :: (I5, o5) :: (WD, W.listOf wl.toArray nl) :: (WL ++ (I, o) :: nw)) := fun q hq => by
                  rcases List.mem_cons.mp hq with rfl | hq
                  · exact N7 _ (List.mem_cons_of_mem _ (List.mem_cons_of_mem _ (List.mem_append_right _ (List.mem_cons_of_mem _ m1))))
                  · exact N7 q hq
                cases fw
                · replace hmv : matchV xw (ts.drop i) = true := hmv
                  (repeat' (first | (k_unfold; (try dsimp only)) | ((with_reducible show wpAny _ _ (exec (Stmt.While _ _ _ _) _) _ _ _); refine Mine.Hold.out ?_) | ((with_reducible show wpAny _ _ (eval (Expr.ListComp _ _ _ _) _) _ _ _); refine Mine.Hold.out ?_) | ((with_reducible show wpAny _ _ (storeName _ _ _) _ _ _); refine' storeX_L ?zzF ?zzN ?_ ?zza ?zzb; (case zzF => k_asm); (case zzN => k_asm); (case zza => rfl); (case zzb => rfl); k_whole; intro _ zF zN; (try dsimp only at zF); (try k_sweep); (revert zF zN; intro _ _)) | ((with_reducible show wpAny _ _ (call (Value.builtin "len") [Value.str (Str.mk (List.toArray _)) _]) _ _ _); refine' Mine.s_len ?zzk3 ?_; (case zzk3 => first | lia | (simp only [List.length_append, List.length_cons, List.length_nil]; lia)); intro _ _) | ((with_reducible show wpAny _ _ (call (Value.builtin "len") [Value.ref _]) _ _ _); refine' Mine.m_len ?zzk1 ?zzk2 ?zzk3 ?_; (case zzk1 => k_asm); (case zzk2 => k_mem); (case zzk3 => first | lia | (simp only [List.length_cons, List.length_nil, List.length_map, PySem.strValues]; omega))) | ((with_reducible show wpAny _ _ (subscriptTail (Expr.Name _ _) (Expr.Name _ _) (Value.ref _) (Value.int _ _)) _ _ _); (refine' Mine.m_item ?zzk1 ?zzk2 ?zzk3 ?zzk4 ?zzk5 ?_ ?zzk6; (case zzk1 => k_asm); (case zzk2 => k_mem); (case zzk3 => first | (with_reducible assumption) | lia); (case zzk4 => first | (with_reducible assumption) | lia); (case zzk5 => assumption); (case zzk6 => with_unfolding_all rfl))) | ((with_reducible show wpAny _ _ (subscriptTail (Expr.Name _ _) (Expr.Name _ _) (Value.str _ _) (Value.int _ _)) _ _ _); refine' Mine.s_item ?zzh0 ?zzh1 ?zzh2 ?_; (case zzh0 => lia); (case zzh1 => lia); (case zzh2 => assumption); intro _ _) | ((with_reducible show wpAny _ _ (binaryOp Operator.Add (Value.str _ _) (Value.str _ _)) _ _ _); refine' Mine.s_add ?zzk1 ?zzk2 ?zzk3 ?zzk4 ?_; (case zzk1 => first | exact Mine.sp_eq | exact Mine.no_eq | exact Mine.dots_eq | with_reducible exact rfl); (case zzk2 => first | exact Mine.sp_eq | exact Mine.no_eq | exact Mine.dots_eq | with_reducible exact rfl); (case zzk3 => first | assumption | lia | (simp only [List.length_append, List.length_cons, List.length_nil]; lia)); (case zzk4 => first | assumption | lia | (simp only [List.length_append, List.length_cons, List.length_nil]; lia)); intro _ _) | ((with_reducible show wpAny _ _ (eval (Expr.Name _ _) _) _ _ _); k_inBlock; (first | (refine' Mine.nameC_F ?zzN ?zzc ?zzm ?zzd ?_ ?zza ?zzb ?zze ?zzf; (case zza => rfl); (case zzb => rfl); (case zze => decide); (case zzf => decide); (case zzN => k_asm); (case zzc => rfl); (case zzm => k_mem); (case zzd => k_asm); k_whole) | (refine' Mine.nameC_B ?zzF ?zzX ?zzT ?zze ?zzv ?zzn ?_ ?zzg ?zzbn ?zzk ?zzx ?zzd; (case zzg => rfl); (case zzbn => rfl); (case zzk => rfl); (case zzx => rfl); (case zzd => decide); (case zzF => k_asm); (case zzX => k_asm); (case zzT => k_asm); (case zze => k_is); (case zzv => boot_fast); (case zzn => decide); k_whole))) | (first | (with_reducible show wpAny _ _ (call (Value.ref 107) _) _ _ _) | (with_reducible show wpAny _ _ (call (Value.ref 100) _) _ _ _) | (with_reducible show wpAny _ _ (call (Value.ref 114) _) _ _ _) | (with_reducible show wpAny _ _ (call (Value.ref 88) _) _ _ _)); (refine Hold.out ?_) | ((with_reducible show wpAny _ _ (exec (Stmt.For (Expr.Name _ _) (Expr.Call _ _ _ _) _ _ _) _) _ _ _); refine Hold.out ?_) | ((with_reducible show Mine.FlPost _ _ _ _ _ _ _ _ _ _); dsimp only [Mine.FlPost]) | ((with_reducible show wpAny _ _ (newList _) _ _ _); refine' Mine.m_newList ?zzF ?zzN ?_ ?zzz; (case zzF => k_asm); (case zzN => k_asm); (case zzz => (simp only [List.length_cons, List.length_nil]; lia)); intro _ _ zl _ _; (try k_lt zl); (try k_sweep); (revert zl; intro _)) | ((with_reducible show wpAny _ _ (subscriptTail (Expr.Subscript _ _ _) _ (Value.ref _) (Value.int _ _)) _ _ _); (refine' Mine.m_item ?zzk1 ?zzk2 ?zzk3 ?zzk4 ?zzk5 ?_ ?zzk6; (case zzk1 => k_asm); (case zzk2 => k_mem); (case zzk3 => first | (with_reducible assumption) | lia); (case zzk4 => first | (with_reducible assumption) | lia); (case zzk5 => assumption); (case zzk6 => with_unfolding_all rfl))) | ((with_reducible show wpAny _ _ (subscriptTail _ (Expr.Subscript _ _ _) (Value.ref _) (Value.int _ _)) _ _ _); (refine' Mine.m_item ?zzk1 ?zzk2 ?zzk3 ?zzk4 ?zzk5 ?_ ?zzk6; (case zzk1 => k_asm); (case zzk2 => k_mem); (case zzk3 => first | (with_reducible assumption) | lia); (case zzk4 => first | (with_reducible assumption) | lia); (case zzk5 => assumption); (case zzk6 => with_unfolding_all rfl))) | ((with_reducible show wpAny _ _ (newTuple _) _ _ _); refine' kup_newTuple ?zzF ?zzN ?_ ?zzz; (case zzF => k_asm); (case zzN => k_asm); (case zzz => (rw [sizeLine_eq]; simp only [List.length_cons, List.length_nil]; lia)); intro _ _ _ _ _; (try k_sweep)) | ((with_reducible show wpAny _ _ (compareOp CmpOp.NotIn (Value.bool true) (Value.ref _)) _ _ _); refine' m_notTrue ?zzN ?zzm ?zzb ?_; (case zzN => k_asm); (case zzm => k_mem); (case zzb => assumption)) | (k_end; kc_close) | (walk1; (try dsimp only)) | (dsimp only; walk1) | (leave1; (try dsimp only)) | fail "no step"))
                  rename Fr _ _ _ _ => F8
                  rename News _ _ _ _ => N8
                  refine Hold.mk ?_
                  rw [sl_from (show i ≤ ts.length from Nat.le_of_lt_succ hi)]
                  k_dflt (refine' em_tells _ _ _ _ _ _ _ _ _ _ _ _ _ _ _ _ _ _ ?B F8 ?X N8 ?T ?hk xw (ts.drop i) _ _ ?h1 ?h2 ?h3 ?h4 ?h5 ?h6)
                  case B => exact B'
                  case X => exact X'
                  case T => exact T'
                  case hk => rfl
                  case h1 => exact hw3
                  case h2 => exact drop_le hts i
                  case h3 => exact room1 hd (by decide)
                  case h4 => exact room3 hu (by decide)
                  case h5 => exact wantOk_of hw1 hw3 fun x hx => hring x (hw2 x hx)
                  case h6 =>
                    intro h9 tk9 F9 N9
                    clear F8 N8
                    rw [hmv]
                    (repeat' (first | (k_unfold; (try dsimp only)) | ((with_reducible show wpAny _ _ (exec (Stmt.While _ _ _ _) _) _ _ _); refine Mine.Hold.out ?_) | ((with_reducible show wpAny _ _ (eval (Expr.ListComp _ _ _ _) _) _ _ _); refine Mine.Hold.out ?_) | ((with_reducible show wpAny _ _ (storeName _ _ _) _ _ _); refine' storeX_L ?zzF ?zzN ?_ ?zza ?zzb; (case zzF => k_asm); (case zzN => k_asm); (case zza => rfl); (case zzb => rfl); k_whole; intro _ zF zN; (try dsimp only at zF); (try k_sweep); (revert zF zN; intro _ _)) | ((with_reducible show wpAny _ _ (call (Value.builtin "len") [Value.str (Str.mk (List.toArray _)) _]) _ _ _); refine' Mine.s_len ?zzk3 ?_; (case zzk3 => first | lia | (simp only [List.length_append, List.length_cons, List.length_nil]; lia)); intro _ _) | ((with_reducible show wpAny _ _ (call (Value.builtin "len") [Value.ref _]) _ _ _); refine' Mine.m_len ?zzk1 ?zzk2 ?zzk3 ?_; (case zzk1 => k_asm); (case zzk2 => k_mem); (case zzk3 => first | lia | (simp only [List.length_cons, List.length_nil, List.length_map, PySem.strValues]; omega))) | ((with_reducible show wpAny _ _ (subscriptTail (Expr.Name _ _) (Expr.Name _ _) (Value.ref _) (Value.int _ _)) _ _ _); (refine' Mine.m_item ?zzk1 ?zzk2 ?zzk3 ?zzk4 ?zzk5 ?_ ?zzk6; (case zzk1 => k_asm); (case zzk2 => k_mem); (case zzk3 => first | (with_reducible assumption) | lia); (case zzk4 => first | (with_reducible assumption) | lia); (case zzk5 => assumption); (case zzk6 => with_unfolding_all rfl))) | ((with_reducible show wpAny _ _ (subscriptTail (Expr.Name _ _) (Expr.Name _ _) (Value.str _ _) (Value.int _ _)) _ _ _); refine' Mine.s_item ?zzh0 ?zzh1 ?zzh2 ?_; (case zzh0 => lia); (case zzh1 => lia); (case zzh2 => assumption); intro _ _) | ((with_reducible show wpAny _ _ (binaryOp Operator.Add (Value.str _ _) (Value.str _ _)) _ _ _); refine' Mine.s_add ?zzk1 ?zzk2 ?zzk3 ?zzk4 ?_; (case zzk1 => first | exact Mine.sp_eq | exact Mine.no_eq | exact Mine.dots_eq | with_reducible exact rfl); (case zzk2 => first | exact Mine.sp_eq | exact Mine.no_eq | exact Mine.dots_eq | with_reducible exact rfl); (case zzk3 => first | assumption | lia | (simp only [List.length_append, List.length_cons, List.length_nil]; lia)); (case zzk4 => first | assumption | lia | (simp only [List.length_append, List.length_cons, List.length_nil]; lia)); intro _ _) | ((with_reducible show wpAny _ _ (eval (Expr.Name _ _) _) _ _ _); k_inBlock; (first | (refine' Mine.nameC_F ?zzN ?zzc ?zzm ?zzd ?_ ?zza ?zzb ?zze ?zzf; (case zza => rfl); (case zzb => rfl); (case zze => decide); (case zzf => decide); (case zzN => k_asm); (case zzc => rfl); (case zzm => k_mem); (case zzd => k_asm); k_whole) | (refine' Mine.nameC_B ?zzF ?zzX ?zzT ?zze ?zzv ?zzn ?_ ?zzg ?zzbn ?zzk ?zzx ?zzd; (case zzg => rfl); (case zzbn => rfl); (case zzk => rfl); (case zzx => rfl); (case zzd => decide); (case zzF => k_asm); (case zzX => k_asm); (case zzT => k_asm); (case zze => k_is); (case zzv => boot_fast); (case zzn => decide); k_whole))) | (first | (with_reducible show wpAny _ _ (call (Value.ref 107) _) _ _ _) | (with_reducible show wpAny _ _ (call (Value.ref 100) _) _ _ _) | (with_reducible show wpAny _ _ (call (Value.ref 114) _) _ _ _) | (with_reducible show wpAny _ _ (call (Value.ref 88) _) _ _ _)); (refine Hold.out ?_) | ((with_reducible show wpAny _ _ (exec (Stmt.For (Expr.Name _ _) (Expr.Call _ _ _ _) _ _ _) _) _ _ _); refine Hold.out ?_) | ((with_reducible show Mine.FlPost _ _ _ _ _ _ _ _ _ _); dsimp only [Mine.FlPost]) | ((with_reducible show wpAny _ _ (newList _) _ _ _); refine' Mine.m_newList ?zzF ?zzN ?_ ?zzz; (case zzF => k_asm); (case zzN => k_asm); (case zzz => (simp only [List.length_cons, List.length_nil]; lia)); intro _ _ zl _ _; (try k_lt zl); (try k_sweep); (revert zl; intro _)) | ((with_reducible show wpAny _ _ (subscriptTail (Expr.Subscript _ _ _) _ (Value.ref _) (Value.int _ _)) _ _ _); (refine' Mine.m_item ?zzk1 ?zzk2 ?zzk3 ?zzk4 ?zzk5 ?_ ?zzk6; (case zzk1 => k_asm); (case zzk2 => k_mem); (case zzk3 => first | (with_reducible assumption) | lia); (case zzk4 => first | (with_reducible assumption) | lia); (case zzk5 => assumption); (case zzk6 => with_unfolding_all rfl))) | ((with_reducible show wpAny _ _ (subscriptTail _ (Expr.Subscript _ _ _) (Value.ref _) (Value.int _ _)) _ _ _); (refine' Mine.m_item ?zzk1 ?zzk2 ?zzk3 ?zzk4 ?zzk5 ?_ ?zzk6; (case zzk1 => k_asm); (case zzk2 => k_mem); (case zzk3 => first | (with_reducible assumption) | lia); (case zzk4 => first | (with_reducible assumption) | lia); (case zzk5 => assumption); (case zzk6 => with_unfolding_all rfl))) | ((with_reducible show wpAny _ _ (newTuple _) _ _ _); refine' kup_newTuple ?zzF ?zzN ?_ ?zzz; (case zzF => k_asm); (case zzN => k_asm); (case zzz => (rw [sizeLine_eq]; simp only [List.length_cons, List.length_nil]; lia)); intro _ _ _ _ _; (try k_sweep)) | ((with_reducible show wpAny _ _ (compareOp CmpOp.NotIn (Value.bool true) (Value.ref _)) _ _ _); refine' m_notTrue ?zzN ?zzm ?zzb ?_; (case zzN => k_asm); (case zzm => k_mem); (case zzb => assumption)) | (k_end; kc_close) | (walk1; (try dsimp only)) | (dsimp only; walk1) | (leave1; (try dsimp only)) | fail "no step"))
                    rename Fr _ _ _ _ => FZ
                    rename News _ _ _ _ => NZ
                    exact Hold.mk ⟨_, _, _, _, rfl, FZ, m_tail NZ, hne5, rfl, by kst_all⟩
                · replace hmv : matchV xw (ts.drop i) = false := hmv
                  (repeat' (first | (k_unfold; (try dsimp only)) | ((with_reducible show wpAny _ _ (exec (Stmt.While _ _ _ _) _) _ _ _); refine Mine.Hold.out ?_) | ((with_reducible show wpAny _ _ (eval (Expr.ListComp _ _ _ _) _) _ _ _); refine Mine.Hold.out ?_) | ((with_reducible show wpAny _ _ (storeName _ _ _) _ _ _); refine' storeX_L ?zzF ?zzN ?_ ?zza ?zzb; (case zzF => k_asm); (case zzN => k_asm); (case zza => rfl); (case zzb => rfl); k_whole; intro _ zF zN; (try dsimp only at zF); (try k_sweep); (revert zF zN; intro _ _)) | ((with_reducible show wpAny _ _ (call (Value.builtin "len") [Value.str (Str.mk (List.toArray _)) _]) _ _ _); refine' Mine.s_len ?zzk3 ?_; (case zzk3 => first | lia | (simp only [List.length_append, List.length_cons, List.length_nil]; lia)); intro _ _) | ((with_reducible show wpAny _ _ (call (Value.builtin "len") [Value.ref _]) _ _ _); refine' Mine.m_len ?zzk1 ?zzk2 ?zzk3 ?_; (case zzk1 => k_asm); (case zzk2 => k_mem); (case zzk3 => first | lia | (simp only [List.length_cons, List.length_nil, List.length_map, PySem.strValues]; omega))) | ((with_reducible show wpAny _ _ (subscriptTail (Expr.Name _ _) (Expr.Name _ _) (Value.ref _) (Value.int _ _)) _ _ _); (refine' Mine.m_item ?zzk1 ?zzk2 ?zzk3 ?zzk4 ?zzk5 ?_ ?zzk6; (case zzk1 => k_asm); (case zzk2 => k_mem); (case zzk3 => first | (with_reducible assumption) | lia); (case zzk4 => first | (with_reducible assumption) | lia); (case zzk5 => assumption); (case zzk6 => with_unfolding_all rfl))) | ((with_reducible show wpAny _ _ (subscriptTail (Expr.Name _ _) (Expr.Name _ _) (Value.str _ _) (Value.int _ _)) _ _ _); refine' Mine.s_item ?zzh0 ?zzh1 ?zzh2 ?_; (case zzh0 => lia); (case zzh1 => lia); (case zzh2 => assumption); intro _ _) | ((with_reducible show wpAny _ _ (binaryOp Operator.Add (Value.str _ _) (Value.str _ _)) _ _ _); refine' Mine.s_add ?zzk1 ?zzk2 ?zzk3 ?zzk4 ?_; (case zzk1 => first | exact Mine.sp_eq | exact Mine.no_eq | exact Mine.dots_eq | with_reducible exact rfl); (case zzk2 => first | exact Mine.sp_eq | exact Mine.no_eq | exact Mine.dots_eq | with_reducible exact rfl); (case zzk3 => first | assumption | lia | (simp only [List.length_append, List.length_cons, List.length_nil]; lia)); (case zzk4 => first | assumption | lia | (simp only [List.length_append, List.length_cons, List.length_nil]; lia)); intro _ _) | ((with_reducible show wpAny _ _ (eval (Expr.Name _ _) _) _ _ _); k_inBlock; (first | (refine' Mine.nameC_F ?zzN ?zzc ?zzm ?zzd ?_ ?zza ?zzb ?zze ?zzf; (case zza => rfl); (case zzb => rfl); (case zze => decide); (case zzf => decide); (case zzN => k_asm); (case zzc => rfl); (case zzm => k_mem); (case zzd => k_asm); k_whole) | (refine' Mine.nameC_B ?zzF ?zzX ?zzT ?zze ?zzv ?zzn ?_ ?zzg ?zzbn ?zzk ?zzx ?zzd; (case zzg => rfl); (case zzbn => rfl); (case zzk => rfl); (case zzx => rfl); (case zzd => decide); (case zzF => k_asm); (case zzX => k_asm); (case zzT => k_asm); (case zze => k_is); (case zzv => boot_fast); (case zzn => decide); k_whole))) | (first | (with_reducible show wpAny _ _ (call (Value.ref 107) _) _ _ _) | (with_reducible show wpAny _ _ (call (Value.ref 100) _) _ _ _) | (with_reducible show wpAny _ _ (call (Value.ref 114) _) _ _ _) | (with_reducible show wpAny _ _ (call (Value.ref 88) _) _ _ _)); (refine Hold.out ?_) | ((with_reducible show wpAny _ _ (exec (Stmt.For (Expr.Name _ _) (Expr.Call _ _ _ _) _ _ _) _) _ _ _); refine Hold.out ?_) | ((with_reducible show Mine.FlPost _ _ _ _ _ _ _ _ _ _); dsimp only [Mine.FlPost]) | ((with_reducible show wpAny _ _ (newList _) _ _ _); refine' Mine.m_newList ?zzF ?zzN ?_ ?zzz; (case zzF => k_asm); (case zzN => k_asm); (case zzz => (simp only [List.length_cons, List.length_nil]; lia)); intro _ _ zl _ _; (try k_lt zl); (try k_sweep); (revert zl; intro _)) | ((with_reducible show wpAny _ _ (subscriptTail (Expr.Subscript _ _ _) _ (Value.ref _) (Value.int _ _)) _ _ _); (refine' Mine.m_item ?zzk1 ?zzk2 ?zzk3 ?zzk4 ?zzk5 ?_ ?zzk6; (case zzk1 => k_asm); (case zzk2 => k_mem); (case zzk3 => first | (with_reducible assumption) | lia); (case zzk4 => first | (with_reducible assumption) | lia); (case zzk5 => assumption); (case zzk6 => with_unfolding_all rfl))) | ((with_reducible show wpAny _ _ (subscriptTail _ (Expr.Subscript _ _ _) (Value.ref _) (Value.int _ _)) _ _ _); (refine' Mine.m_item ?zzk1 ?zzk2 ?zzk3 ?zzk4 ?zzk5 ?_ ?zzk6; (case zzk1 => k_asm); (case zzk2 => k_mem); (case zzk3 => first | (with_reducible assumption) | lia); (case zzk4 => first | (with_reducible assumption) | lia); (case zzk5 => assumption); (case zzk6 => with_unfolding_all rfl))) | ((with_reducible show wpAny _ _ (newTuple _) _ _ _); refine' kup_newTuple ?zzF ?zzN ?_ ?zzz; (case zzF => k_asm); (case zzN => k_asm); (case zzz => (rw [sizeLine_eq]; simp only [List.length_cons, List.length_nil]; lia)); intro _ _ _ _ _; (try k_sweep)) | ((with_reducible show wpAny _ _ (compareOp CmpOp.NotIn (Value.bool true) (Value.ref _)) _ _ _); refine' m_notTrue ?zzN ?zzm ?zzb ?_; (case zzN => k_asm); (case zzm => k_mem); (case zzb => assumption)) | (k_end; kc_close) | (walk1; (try dsimp only)) | (dsimp only; walk1) | (leave1; (try dsimp only)) | fail "no step"))
                  rename Fr _ _ _ _ => F8
                  rename News _ _ _ _ => N8
                  refine Hold.mk ?_
                  rw [sl_from (show i ≤ ts.length from Nat.le_of_lt_succ hi)]
                  k_dflt (refine' em_tells _ _ _ _ _ _ _ _ _ _ _ _ _ _ _ _ _ _ ?B F8 ?X N8 ?T ?hk xw (ts.drop i) _ _ ?h1 ?h2 ?h3 ?h4 ?h5 ?h6)
                  case B => exact B'
                  case X => exact X'
                  case T => exact T'
                  case hk => rfl
                  case h1 => exact hw3
                  case h2 => exact drop_le hts i
                  case h3 => exact room1 hd (by decide)
                  case h4 => exact room3 hu (by decide)
                  case h5 => exact wantOk_of hw1 hw3 fun x hx => hring x (hw2 x hx)
                  case h6 =>
                    intro h9 tk9 F9 N9
                    clear F8 N8
                    rw [hmv]
                    (repeat' (first | (k_unfold; (try dsimp only)) | ((with_reducible show wpAny _ _ (exec (Stmt.While _ _ _ _) _) _ _ _); refine Mine.Hold.out ?_) | ((with_reducible show wpAny _ _ (eval (Expr.ListComp _ _ _ _) _) _ _ _); refine Mine.Hold.out ?_) | ((with_reducible show wpAny _ _ (storeName _ _ _) _ _ _); refine' storeX_L ?zzF ?zzN ?_ ?zza ?zzb; (case zzF => k_asm); (case zzN => k_asm); (case zza => rfl); (case zzb => rfl); k_whole; intro _ zF zN; (try dsimp only at zF); (try k_sweep); (revert zF zN; intro _ _)) | ((with_reducible show wpAny _ _ (call (Value.builtin "len") [Value.str (Str.mk (List.toArray _)) _]) _ _ _); refine' Mine.s_len ?zzk3 ?_; (case zzk3 => first | lia | (simp only [List.length_append, List.length_cons, List.length_nil]; lia)); intro _ _) | ((with_reducible show wpAny _ _ (call (Value.builtin "len") [Value.ref _]) _ _ _); refine' Mine.m_len ?zzk1 ?zzk2 ?zzk3 ?_; (case zzk1 => k_asm); (case zzk2 => k_mem); (case zzk3 => first | lia | (simp only [List.length_cons, List.length_nil, List.length_map, PySem.strValues]; omega))) | ((with_reducible show wpAny _ _ (subscriptTail (Expr.Name _ _) (Expr.Name _ _) (Value.ref _) (Value.int _ _)) _ _ _); (refine' Mine.m_item ?zzk1 ?zzk2 ?zzk3 ?zzk4 ?zzk5 ?_ ?zzk6; (case zzk1 => k_asm); (case zzk2 => k_mem); (case zzk3 => first | (with_reducible assumption) | lia); (case zzk4 => first | (with_reducible assumption) | lia); (case zzk5 => assumption); (case zzk6 => with_unfolding_all rfl))) | ((with_reducible show wpAny _ _ (subscriptTail (Expr.Name _ _) (Expr.Name _ _) (Value.str _ _) (Value.int _ _)) _ _ _); refine' Mine.s_item ?zzh0 ?zzh1 ?zzh2 ?_; (case zzh0 => lia); (case zzh1 => lia); (case zzh2 => assumption); intro _ _) | ((with_reducible show wpAny _ _ (binaryOp Operator.Add (Value.str _ _) (Value.str _ _)) _ _ _); refine' Mine.s_add ?zzk1 ?zzk2 ?zzk3 ?zzk4 ?_; (case zzk1 => first | exact Mine.sp_eq | exact Mine.no_eq | exact Mine.dots_eq | with_reducible exact rfl); (case zzk2 => first | exact Mine.sp_eq | exact Mine.no_eq | exact Mine.dots_eq | with_reducible exact rfl); (case zzk3 => first | assumption | lia | (simp only [List.length_append, List.length_cons, List.length_nil]; lia)); (case zzk4 => first | assumption | lia | (simp only [List.length_append, List.length_cons, List.length_nil]; lia)); intro _ _) | ((with_reducible show wpAny _ _ (eval (Expr.Name _ _) _) _ _ _); k_inBlock; (first | (refine' Mine.nameC_F ?zzN ?zzc ?zzm ?zzd ?_ ?zza ?zzb ?zze ?zzf; (case zza => rfl); (case zzb => rfl); (case zze => decide); (case zzf => decide); (case zzN => k_asm); (case zzc => rfl); (case zzm => k_mem); (case zzd => k_asm); k_whole) | (refine' Mine.nameC_B ?zzF ?zzX ?zzT ?zze ?zzv ?zzn ?_ ?zzg ?zzbn ?zzk ?zzx ?zzd; (case zzg => rfl); (case zzbn => rfl); (case zzk => rfl); (case zzx => rfl); (case zzd => decide); (case zzF => k_asm); (case zzX => k_asm); (case zzT => k_asm); (case zze => k_is); (case zzv => boot_fast); (case zzn => decide); k_whole))) | (first | (with_reducible show wpAny _ _ (call (Value.ref 107) _) _ _ _) | (with_reducible show wpAny _ _ (call (Value.ref 100) _) _ _ _) | (with_reducible show wpAny _ _ (call (Value.ref 114) _) _ _ _) | (with_reducible show wpAny _ _ (call (Value.ref 88) _) _ _ _)); (refine Hold.out ?_) | ((with_reducible show wpAny _ _ (exec (Stmt.For (Expr.Name _ _) (Expr.Call _ _ _ _) _ _ _) _) _ _ _); refine Hold.out ?_) | ((with_reducible show Mine.FlPost _ _ _ _ _ _ _ _ _ _); dsimp only [Mine.FlPost]) | ((with_reducible show wpAny _ _ (newList _) _ _ _); refine' Mine.m_newList ?zzF ?zzN ?_ ?zzz; (case zzF => k_asm); (case zzN => k_asm); (case zzz => (simp only [List.length_cons, List.length_nil]; lia)); intro _ _ zl _ _; (try k_lt zl); (try k_sweep); (revert zl; intro _)) | ((with_reducible show wpAny _ _ (subscriptTail (Expr.Subscript _ _ _) _ (Value.ref _) (Value.int _ _)) _ _ _); (refine' Mine.m_item ?zzk1 ?zzk2 ?zzk3 ?zzk4 ?zzk5 ?_ ?zzk6; (case zzk1 => k_asm); (case zzk2 => k_mem); (case zzk3 => first | (with_reducible assumption) | lia); (case zzk4 => first | (with_reducible assumption) | lia); (case zzk5 => assumption); (case zzk6 => with_unfolding_all rfl))) | ((with_reducible show wpAny _ _ (subscriptTail _ (Expr.Subscript _ _ _) (Value.ref _) (Value.int _ _)) _ _ _); (refine' Mine.m_item ?zzk1 ?zzk2 ?zzk3 ?zzk4 ?zzk5 ?_ ?zzk6; (case zzk1 => k_asm); (case zzk2 => k_mem); (case zzk3 => first | (with_reducible assumption) | lia); (case zzk4 => first | (with_reducible assumption) | lia); (case zzk5 => assumption); (case zzk6 => with_unfolding_all rfl))) | ((with_reducible show wpAny _ _ (newTuple _) _ _ _); refine' kup_newTuple ?zzF ?zzN ?_ ?zzz; (case zzF => k_asm); (case zzN => k_asm); (case zzz => (rw [sizeLine_eq]; simp only [List.length_cons, List.length_nil]; lia)); intro _ _ _ _ _; (try k_sweep)) | ((with_reducible show wpAny _ _ (compareOp CmpOp.NotIn (Value.bool true) (Value.ref _)) _ _ _); refine' m_notTrue ?zzN ?zzm ?zzb ?_; (case zzN => k_asm); (case zzm => k_mem); (case zzb => assumption)) | (k_end; kc_close) | (walk1; (try dsimp only)) | (dsimp only; walk1) | (leave1; (try dsimp only)) | fail "no step"))
                    rename Fr _ _ _ _ => FZ
                    rename News _ _ _ _ => NZ
                    exact Hold.mk ⟨_, _, _, _, rfl, FZ, m_tail NZ, hne5, rfl, by kst_all⟩
        case fin =>
          rintro I h9 tk9 m9 nw hI rfl F9 N9
          (repeat' (first | (k_unfold; (try dsimp only)) | ((with_reducible show wpAny _ _ (exec (Stmt.While _ _ _ _) _) _ _ _); refine Mine.Hold.out ?_) | ((with_reducible show wpAny _ _ (eval (Expr.ListComp _ _ _ _) _) _ _ _); refine Mine.Hold.out ?_) | ((with_reducible show wpAny _ _ (storeName _ _ _) _ _ _); refine' storeX_L ?zzF ?zzN ?_ ?zza ?zzb; (case zzF => k_asm); (case zzN => k_asm); (case zza => rfl); (case zzb => rfl); k_whole; intro _ zF zN; (try dsimp only at zF); (try k_sweep); (revert zF zN; intro _ _)) | ((with_reducible show wpAny _ _ (call (Value.builtin "len") [Value.str (Str.mk (List.toArray _)) _]) _ _ _); refine' Mine.s_len ?zzk3 ?_; (case zzk3 => first | lia | (simp only [List.length_append, List.length_cons, List.length_nil]; lia)); intro _ _) | ((with_reducible show wpAny _ _ (call (Value.builtin "len") [Value.ref _]) _ _ _); refine' Mine.m_len ?zzk1 ?zzk2 ?zzk3 ?_; (case zzk1 => k_asm); (case zzk2 => k_mem); (case zzk3 => first | lia | (simp only [List.length_cons, List.length_nil, List.length_map, PySem.strValues]; omega))) | ((with_reducible show wpAny _ _ (subscriptTail (Expr.Name _ _) (Expr.Name _ _) (Value.ref _) (Value.int _ _)) _ _ _); (refine' Mine.m_item ?zzk1 ?zzk2 ?zzk3 ?zzk4 ?zzk5 ?_ ?zzk6; (case zzk1 => k_asm); (case zzk2 => k_mem); (case zzk3 => first | (with_reducible assumption) | lia); (case zzk4 => first | (with_reducible assumption) | lia); (case zzk5 => assumption); (case zzk6 => with_unfolding_all rfl))) | ((with_reducible show wpAny _ _ (subscriptTail (Expr.Name _ _) (Expr.Name _ _) (Value.str _ _) (Value.int _ _)) _ _ _); refine' Mine.s_item ?zzh0 ?zzh1 ?zzh2 ?_; (case zzh0 => lia); (case zzh1 => lia); (case zzh2 => assumption); intro _ _) | ((with_reducible show wpAny _ _ (binaryOp Operator.Add (Value.str _ _) (Value.str _ _)) _ _ _); refine' Mine.s_add ?zzk1 ?zzk2 ?zzk3 ?zzk4 ?_; (case zzk1 => first | exact Mine.sp_eq | exact Mine.no_eq | exact Mine.dots_eq | with_reducible exact rfl); (case zzk2 => first | exact Mine.sp_eq | exact Mine.no_eq | exact Mine.dots_eq | with_reducible exact rfl); (case zzk3 => first | assumption | lia | (simp only [List.length_append, List.length_cons, List.length_nil]; lia)); (case zzk4 => first | assumption | lia | (simp only [List.length_append, List.length_cons, List.length_nil]; lia)); intro _ _) | ((with_reducible show wpAny _ _ (eval (Expr.Name _ _) _) _ _ _); k_inBlock; (first | (refine' Mine.nameC_F ?zzN ?zzc ?zzm ?zzd ?_ ?zza ?zzb ?zze ?zzf; (case zza => rfl); (case zzb => rfl); (case zze => decide); (case zzf => decide); (case zzN => k_asm); (case zzc => rfl); (case zzm => k_mem); (case zzd => k_asm); k_whole) | (refine' Mine.nameC_B ?zzF ?zzX ?zzT ?zze ?zzv ?zzn ?_ ?zzg ?zzbn ?zzk ?zzx ?zzd; (case zzg => rfl); (case zzbn => rfl); (case zzk => rfl); (case zzx => rfl); (case zzd => decide); (case zzF => k_asm); (case zzX => k_asm); (case zzT => k_asm); (case zze => k_is); (case zzv => boot_fast); (case zzn => decide); k_whole))) | (first | (with_reducible show wpAny _ _ (call (Value.ref 107) _) _ _ _) | (with_reducible show wpAny _ _ (call (Value.ref 100) _) _ _ _) | (with_reducible show wpAny _ _ (call (Value.ref 114) _) _ _ _) | (with_reducible show wpAny _ _ (call (Value.ref 88) _) _ _ _)); (refine Hold.out ?_) | ((with_reducible show wpAny _ _ (exec (Stmt.For (Expr.Name _ _) (Expr.Call _ _ _ _) _ _ _) _) _ _ _); refine Hold.out ?_) | ((with_reducible show Mine.FlPost _ _ _ _ _ _ _ _ _ _); dsimp only [Mine.FlPost]) | ((with_reducible show wpAny _ _ (newList _) _ _ _); refine' Mine.m_newList ?zzF ?zzN ?_ ?zzz; (case zzF => k_asm); (case zzN => k_asm); (case zzz => (simp only [List.length_cons, List.length_nil]; lia)); intro _ _ zl _ _; (try k_lt zl); (try k_sweep); (revert zl; intro _)) | ((with_reducible show wpAny _ _ (subscriptTail (Expr.Subscript _ _ _) _ (Value.ref _) (Value.int _ _)) _ _ _); (refine' Mine.m_item ?zzk1 ?zzk2 ?zzk3 ?zzk4 ?zzk5 ?_ ?zzk6; (case zzk1 => k_asm); (case zzk2 => k_mem); (case zzk3 => first | (with_reducible assumption) | lia); (case zzk4 => first | (with_reducible assumption) | lia); (case zzk5 => assumption); (case zzk6 => with_unfolding_all rfl))) | ((with_reducible show wpAny _ _ (subscriptTail _ (Expr.Subscript _ _ _) (Value.ref _) (Value.int _ _)) _ _ _); (refine' Mine.m_item ?zzk1 ?zzk2 ?zzk3 ?zzk4 ?zzk5 ?_ ?zzk6; (case zzk1 => k_asm); (case zzk2 => k_mem); (case zzk3 => first | (with_reducible assumption) | lia); (case zzk4 => first | (with_reducible assumption) | lia); (case zzk5 => assumption); (case zzk6 => with_unfolding_all rfl))) | ((with_reducible show wpAny _ _ (newTuple _) _ _ _); refine' kup_newTuple ?zzF ?zzN ?_ ?zzz; (case zzF => k_asm); (case zzN => k_asm); (case zzz => (rw [sizeLine_eq]; simp only [List.length_cons, List.length_nil]; lia)); intro _ _ _ _ _; (try k_sweep)) | ((with_reducible show wpAny _ _ (compareOp CmpOp.NotIn (Value.bool true) (Value.ref _)) _ _ _); refine' m_notTrue ?zzN ?zzm ?zzb ?_; (case zzN => k_asm); (case zzm => k_mem); (case zzb => assumption)) | (k_end; kc_close) | (walk1; (try dsimp only)) | (dsimp only; walk1) | (leave1; (try dsimp only)) | fail "no step"))
          rename Fr h₀ _ _ _ => FZ
          rename News h₀ _ _ _ => NZ
          refine hret tb3 _ _ hT3 FZ fun q hq => NZ q ?_
          rw [← hG6]
          rcases List.mem_append.mp hq with h | h <;> simp only [List.mem_cons, List.mem_append, eq_true h, true_or, or_true]
end Mine
end
section
open PyProof.Rows.LCg
namespace Mine
theorem m_join2 {prog : Program} {w : World} {A : Around} {E : Value → Shared → Prop} {s : Shared} {h₀ : Heap} {L D : Addr} {news : List (Addr × Obj)} {n : Nat} {Q : Value → Shared → Prop} {l : List (Str × Tok)} {t : Tok} {B : Nat} {cs : List Nat} (N : News h₀ L s.heap news) (hm : (D, W.listOf (strValues l).toArray n) ∈ news) (hB : ∀ p ∈ l, p.1.length ≤ B) (hl : l.length * B ≤ 16777216)
    (hv : (l.map fun p => p.1.cps.toList).flatten = cs) (hq : ∀ t' k, Q (.str ⟨cs.toArray⟩ t') { s with toks := k }) : wpAny (model prog w) A (call (.builtin "str.join") [.str "" t, .ref D]) Q E s := by
  subst hv; exact m_join N hm hB hl hq
theorem m_len0 {prog : Program} {w : World} {A : Around} {E : Value → Shared → Prop} {s : Shared} {h₀ : Heap} {L l : Addr} {m : Str → Option Value} {vs : List Value} {ns : List Int} {Q : Value → Shared → Prop} (F : Fr h₀ L s.heap m) (hl : h₀.IsList l vs.toArray) (hi : IntsAre vs ns) (hf : ns.length < 100000)
    (h : ∀ t k, Q (.int (ns.length : Int) t) { s with toks := k }) : wpAny (model prog w) A (call (.builtin "len") [.ref l]) Q E s := by
  have e := IntsAre.length hi
  exact call_len_list (Fr.lst F hl) (by rw [List.size_toArray]; lia) (by rw [List.size_toArray, e]; exact h _ _)
section
variable {prog : Program} {w : World} {A : Around} {E : Value → Shared → Prop} {s : Shared} {h₀ : Heap} {L l : Addr} {m : Str → Option Value} {news : List (Addr × Obj)} {vs : List Value} {ns : List Int} {Q : Value → Shared → Prop}
theorem m_upto {value slice : Expr} {y : Int} {u : Tok} (F : Fr h₀ L s.heap m) (N : News h₀ L s.heap news) (hl : h₀.IsList l vs.toArray) (hi : IntsAre vs ns) (hz : ns.length < 100000) (hy : 0 ≤ y)
    (h : ∀ D ws h', (∀ p ∈ news, p.1 < D) → Fr h₀ L h' m → News h₀ L h' ((D, W.listOf (List.toArray ws) 0) :: news) → IntsAre ws (ns.take y.toNat) → Q (.ref D) { s with heap := h' })
    (hs : subscripted slice false (.ref l) (.ref s.heap.objs.size) = operate [.ref s.heap.objs.size, .ref l] (getItem (.ref l) (.ref s.heap.objs.size))) (ht : ∀ r, letTemporaryGo value (.ref l) r = pure ()) :
    wpAny (model prog w) A (subscriptTail value slice (.ref l) (.ref s.heap.objs.size)) Q E { s with heap := s.heap.push { cls := .type "slice", data := .fields #[.none, .int y u, .none] } } :=
  kmk_slice_ints F N (Fr.lst F hl) IsPart.none (IsPart.int _ _) hi (kmk_upto hi hy) rfl (fun D ws h' F' N' l1 hI _ _ => h D ws h' l1 F' N' hI) hs ht (by have := IntsAre.length hi; rw [List.size_toArray, sizeLine_eq]; lia)
theorem m_from {value slice : Expr} {x : Int} {u : Tok} {n : Nat} (F : Fr h₀ L s.heap m) (N : News h₀ L s.heap news) (hl : (l, W.listOf vs.toArray n) ∈ news) (hi : IntsAre vs ns) (hz : ns.length < 100000) (hx : 0 ≤ x)
    (h : ∀ D ws h', (∀ p ∈ news, p.1 < D) → Fr h₀ L h' m → News h₀ L h' ((D, W.listOf (List.toArray ws) 0) :: news) → IntsAre ws (ns.drop x.toNat) → Q (.ref D) { s with heap := h' })
    (hs : subscripted slice false (.ref l) (.ref s.heap.objs.size) = operate [.ref s.heap.objs.size, .ref l] (getItem (.ref l) (.ref s.heap.objs.size))) (ht : ∀ r, letTemporaryGo value (.ref l) r = pure ()) :
    wpAny (model prog w) A (subscriptTail value slice (.ref l) (.ref s.heap.objs.size)) Q E { s with heap := s.heap.push { cls := .type "slice", data := .fields #[.int x u, .none, .none] } } :=
  kmk_slice_ints F N (m_isList N hl) (IsPart.int _ _) IsPart.none hi (kmk_from hi hx) rfl (fun D ws h' F' N' l1 hI _ _ => h D ws h' l1 F' N' hI) hs ht (by have := IntsAre.length hi; rw [List.size_toArray, sizeLine_eq]; lia)
theorem m_catI {a b : Addr} {n k : Nat} {ws : List Value} {ms : List Int} (F : Fr h₀ L s.heap m) (N : News h₀ L s.heap news) (ha : (a, W.listOf vs.toArray n) ∈ news) (hb : (b, W.listOf ws.toArray k) ∈ news) (hi : IntsAre vs ns) (hj : IntsAre ws ms) (hz : ns.length + ms.length < 100000)
    (h : ∀ D us h', (∀ p ∈ news, p.1 < D) → Fr h₀ L h' m → News h₀ L h' ((D, W.listOf (List.toArray us) 0) :: news) → IntsAre us (ns ++ ms) → Q (.ref D) { s with heap := h' }) :
    wpAny (model prog w) A (binaryOp .Add (.ref a) (.ref b)) Q E s :=
  kmk_add_ints F N (m_isList N ha) (m_isList N hb) hi hj (fun D us h' F' N' l1 hI => h D us h' l1 F' N' hI) (by rw [sizeLine_eq]; lia)
end
theorem ints_at {vs : List Value} {ns : List Int} (h : IntsAre vs ns) : ∀ {k : Nat} {v : Value}, vs[k]? = some v → ∃ z t, v = .int z t ∧ ns[k]? = some z := by
  induction h with
  | nil => intro k v hv; simp at hv
  | cons a t h ih =>
    intro k v hv
    cases k with
    | zero => simp at hv; subst hv; exact ⟨a, t, rfl, rfl⟩
    | succ k => simpa using ih (by simpa using hv)
theorem ch_of {l : List (Str × Tok)} {ts : List Nat} (hl : l.map (·.1) = ts.map ch) : (l.map fun p => p.1.cps.toList).flatten = ts ∧ l.length = ts.length ∧ ∀ p ∈ l, p.1.length ≤ 1 := by
  refine ⟨?_, ?_, ?_⟩
  · have : l.map (fun p => p.1.cps.toList) = (l.map (·.1)).map fun s => s.cps.toList := by rw [List.map_map]; rfl
    rw [this, hl, List.map_map]
    clear this hl
    induction ts with
    | nil => rfl
    | cons a r ih => rw [List.map_cons, List.flatten_cons, ih]; rfl
  · have := congrArg List.length hl; simpa using this
  · intro p hp
    have : p.1 ∈ l.map (·.1) := List.mem_map_of_mem hp
    rw [hl] at this
    obtain ⟨c, _, e⟩ := List.mem_map.mp this
    rw [← e]; exact Nat.le_refl 1
theorem m_newListB {M : Model} {A : Around} {E : Value → Shared → Prop} {s : Shared} {h₀ : Heap} {L : Addr} {m : Str → Option Value} {news : List (Addr × Obj)} {vs : List Value} {Q : Value → Shared → Prop} (F : Fr h₀ L s.heap m) (N : News h₀ L s.heap news)
    (h : ∀ D h', (∀ p ∈ news, p.1 < D) → Fr h₀ L h' m → News h₀ L h' ((D, W.listOf vs.toArray 0) :: news) → Q (.ref D) { s with heap := h' }) (hz : vs.length < 1000) : wpAny M A (newList vs) Q E s :=
  newList_N F N (fun h' F' N' => h _ h' (fun p hp => Heap.lt_size (N p hp).1) F' N') (by rw [sizeLine_eq]; lia)
set_option maxHeartbeats 4000000 in
theorem law_test : PySem.Challenge.rw_pg0170_01.Holds := Mine.hd (by
  clear law_test
  k_go0
  all_goals try k_fold
  (repeat' (first | (k_unfold; (try dsimp only)) | ((with_reducible show wpAny _ _ (exec (Stmt.While _ _ _ _) _) _ _ _); refine Mine.Hold.out ?_) | ((with_reducible show wpAny _ _ (eval (Expr.ListComp _ _ _ _) _) _ _ _); refine Mine.Hold.out ?_) | ((with_reducible show wpAny _ _ (storeName _ _ _) _ _ _); refine' storeX_L ?zzF ?zzN ?_ ?zza ?zzb; (case zzF => k_asm); (case zzN => k_asm); (case zza => rfl); (case zzb => rfl); k_whole; intro _ zF zN; (try dsimp only at zF); (try k_sweep); (revert zF zN; intro _ _)) | ((with_reducible show wpAny _ _ (call (Value.builtin "len") [Value.ref _]) _ _ _); refine' m_len0 ?zzF ?zzl ?zzi ?zzz ?_; (case zzF => k_asm); (case zzl => assumption); (case zzi => assumption); (case zzz => lia); intro _ _) | ((with_reducible show wpAny _ _ (call (Value.builtin "len") [Value.str (Str.mk (List.toArray _)) _]) _ _ _); refine' Mine.s_len ?zzk3 ?_; (case zzk3 => first | lia | (simp only [List.length_append, List.length_cons, List.length_nil]; lia)); intro _ _) | ((with_reducible show wpAny _ _ (call (Value.builtin "len") [Value.ref _]) _ _ _); refine' Mine.m_len ?zzk1 ?zzk2 ?zzk3 ?_; (case zzk1 => k_asm); (case zzk2 => k_mem); (case zzk3 => first | lia | (simp only [List.length_cons, List.length_nil, List.length_map, PySem.strValues]; omega))) | ((with_reducible show wpAny _ _ (subscriptTail (Expr.Name _ _) (Expr.Name _ _) (Value.ref _) (Value.int _ _)) _ _ _); (refine' Mine.m_item ?zzk1 ?zzk2 ?zzk3 ?zzk4 ?zzk5 ?_ ?zzk6; (case zzk1 => k_asm); (case zzk2 => k_mem); (case zzk3 => first | (with_reducible assumption) | lia); (case zzk4 => first | (with_reducible assumption) | lia); (case zzk5 => assumption); (case zzk6 => with_unfolding_all rfl))) | ((with_reducible show wpAny _ _ (subscriptTail (Expr.Name _ _) (Expr.Name _ _) (Value.str _ _) (Value.int _ _)) _ _ _); refine' Mine.s_item ?zzh0 ?zzh1 ?zzh2 ?_; (case zzh0 => lia); (case zzh1 => lia); (case zzh2 => assumption); intro _ _) | (first | (with_reducible show wpAny _ _ (call (Value.ref 119) _) _ _ _)); (refine Hold.out ?_) | ((with_reducible show wpAny _ _ (subscriptTail _ (Expr.BinOp _ _ _ _) (Value.str _ _) (Value.int _ _)) _ _ _); refine Hold.out ?_) | ((with_reducible show wpAny _ _ (call (Value.builtin "str.join") _) _ _ _); refine' m_join2 (B := 1) ?zzk1 ?zzk2 ?zzk3 ?zzk4 ?zzk5 ?_; (case zzk1 => k_asm); (case zzk2 => k_mem); (case zzk3 => assumption); (case zzk4 => lia); (case zzk5 => assumption); intro _ _) | ((with_reducible show wpAny _ _ (subscriptTail (Expr.Name _ _) (Expr.Slice _ _ _ _) (Value.ref _) (Value.ref _)) _ _ _); refine' m_upto ?zzF ?zzN ?zzl ?zzi ?zzz ?zzy ?_ ?zzs ?zzt; (case zzF => k_asm); (case zzN => k_asm); (case zzl => assumption); (case zzi => assumption); (case zzz => lia); (case zzy => decide); (case zzs => with_unfolding_all rfl); (case zzt => kmk_pure); intro _ _ _ _ _ _ _; (try k_sweep)) | ((with_reducible show wpAny _ _ (subscriptTail (Expr.Name _ _) (Expr.Slice _ _ _ _) (Value.ref _) (Value.ref _)) _ _ _); refine Hold.out ?_) | ((with_reducible show wpAny _ _ (newList _) _ _ _); refine' Mine.m_newListB ?zzF ?zzN ?_ ?zzz; (case zzF => k_asm); (case zzN => k_asm); (case zzz => (simp only [List.length_cons, List.length_nil]; lia)); intro _ _ _ _ _; (try k_sweep)) | (k_end; kc_close) | walk1 | (dsimp only; walk1) | (leave1; (try dsimp only)) | fail "no step"))
  rename_i ww s0 s1 mg0 mb0 G0 Y0 fa o0 pm cd doc ho hcd hg X0 V0 T0 B0 TE TW ns hs hlay0 hLl hr1 hl2 as1 as2 sa vs as3 hLs ra w1 r0 hI hr2 hlen htr hD h₁ tk₁ oL oZ hL0 hZ0 X9 X' T' K' l0 h1 tk1 t1 h2 oT F0 N0 dT
  clear ra w1 r0 hr2 hD X9 hs hLl hlay0 hr1 hl2 htr G0 Y0 ho hcd X0 V0 T0 B0 TE TW hT8 hT9 hLs
  replace dT : ∃ S tT, oT.data = .cell (some (.int S tT)) := ⟨_, _, dT⟩
  obtain ⟨S, tT, dT⟩ := dT
  refine Hold.mk ?_
  refine comp_G F0 (by with_unfolding_all rfl) (by decide) (by rfl) (by decide) (by rfl) ?_
  (repeat' (first | (k_unfold; (try dsimp only)) | ((with_reducible show wpAny _ _ (exec (Stmt.While _ _ _ _) _) _ _ _); refine Mine.Hold.out ?_) | ((with_reducible show wpAny _ _ (eval (Expr.ListComp _ _ _ _) _) _ _ _); refine Mine.Hold.out ?_) | ((with_reducible show wpAny _ _ (storeName _ _ _) _ _ _); refine' storeX_L ?zzF ?zzN ?_ ?zza ?zzb; (case zzF => k_asm); (case zzN => k_asm); (case zza => rfl); (case zzb => rfl); k_whole; intro _ zF zN; (try dsimp only at zF); (try k_sweep); (revert zF zN; intro _ _)) | ((with_reducible show wpAny _ _ (call (Value.builtin "len") [Value.ref _]) _ _ _); refine' m_len0 ?zzF ?zzl ?zzi ?zzz ?_; (case zzF => k_asm); (case zzl => assumption); (case zzi => assumption); (case zzz => lia); intro _ _) | ((with_reducible show wpAny _ _ (call (Value.builtin "len") [Value.str (Str.mk (List.toArray _)) _]) _ _ _); refine' Mine.s_len ?zzk3 ?_; (case zzk3 => first | lia | (simp only [List.length_append, List.length_cons, List.length_nil]; lia)); intro _ _) | ((with_reducible show wpAny _ _ (call (Value.builtin "len") [Value.ref _]) _ _ _); refine' Mine.m_len ?zzk1 ?zzk2 ?zzk3 ?_; (case zzk1 => k_asm); (case zzk2 => k_mem); (case zzk3 => first | lia | (simp only [List.length_cons, List.length_nil, List.length_map, PySem.strValues]; omega))) | ((with_reducible show wpAny _ _ (subscriptTail (Expr.Name _ _) (Expr.Name _ _) (Value.ref _) (Value.int _ _)) _ _ _); (refine' Mine.m_item ?zzk1 ?zzk2 ?zzk3 ?zzk4 ?zzk5 ?_ ?zzk6; (case zzk1 => k_asm); (case zzk2 => k_mem); (case zzk3 => first | (with_reducible assumption) | lia); (case zzk4 => first | (with_reducible assumption) | lia); (case zzk5 => assumption); (case zzk6 => with_unfolding_all rfl))) | ((with_reducible show wpAny _ _ (subscriptTail (Expr.Name _ _) (Expr.Name _ _) (Value.str _ _) (Value.int _ _)) _ _ _); refine' Mine.s_item ?zzh0 ?zzh1 ?zzh2 ?_; (case zzh0 => lia); (case zzh1 => lia); (case zzh2 => assumption); intro _ _) | (first | (with_reducible show wpAny _ _ (call (Value.ref 119) _) _ _ _)); (refine Hold.out ?_) | ((with_reducible show wpAny _ _ (subscriptTail _ (Expr.BinOp _ _ _ _) (Value.str _ _) (Value.int _ _)) _ _ _); refine Hold.out ?_) | ((with_reducible show wpAny _ _ (call (Value.builtin "str.join") _) _ _ _); refine' m_join2 (B := 1) ?zzk1 ?zzk2 ?zzk3 ?zzk4 ?zzk5 ?_; (case zzk1 => k_asm); (case zzk2 => k_mem); (case zzk3 => assumption); (case zzk4 => lia); (case zzk5 => assumption); intro _ _) | ((with_reducible show wpAny _ _ (subscriptTail (Expr.Name _ _) (Expr.Slice _ _ _ _) (Value.ref _) (Value.ref _)) _ _ _); refine' m_upto ?zzF ?zzN ?zzl ?zzi ?zzz ?zzy ?_ ?zzs ?zzt; (case zzF => k_asm); (case zzN => k_asm); (case zzl => assumption); (case zzi => assumption); (case zzz => lia); (case zzy => decide); (case zzs => with_unfolding_all rfl); (case zzt => kmk_pure); intro _ _ _ _ _ _ _; (try k_sweep)) | ((with_reducible show wpAny _ _ (subscriptTail (Expr.Name _ _) (Expr.Slice _ _ _ _) (Value.ref _) (Value.ref _)) _ _ _); refine Hold.out ?_) | ((with_reducible show wpAny _ _ (newList _) _ _ _); refine' Mine.m_newListB ?zzF ?zzN ?_ ?zzz; (case zzF => k_asm); (case zzN => k_asm); (case zzz => (simp only [List.length_cons, List.length_nil]; lia)); intro _ _ _ _ _; (try k_sweep)) | (k_end; kc_close) | walk1 | (dsimp only; walk1) | (leave1; (try dsimp only)) | fail "no step"))
  rename_i hrg F1 N1 hku
  k_dflt (refine src_range (n := 3) (by rfl) F1 N1 hrg (rng_ok (b := 3) (k := 3) rfl (by lia)).1 (rng_ok (b := 3) (k := 3) rfl (by lia)).2 (by rw [sizeLine_eq]; lia) fun g => rest_induct (fun i ys nw => nw = [(s1.heap.objs.size + 1 + 1, oL), (s1.heap.objs.size + 1, oT), (90, tabObj #[])] ∧ StrsAre ys ((List.range i).map fun k : Nat => ch (letC (S + (k : Int))))) ⟨rfl, .nil⟩ ?_ ?_)
  · intro i ys nw v I oI C oC D m₂ h tk E' hi ⟨hnw, hys⟩ hP hC hx F2 N2 off ne
    obtain ⟨ti, rfl⟩ := hP
    subst hnw
    rw [Int.zero_add] at hx
    (repeat' (first | (k_unfold; (try dsimp only)) | ((with_reducible show wpAny _ _ (exec (Stmt.While _ _ _ _) _) _ _ _); refine Mine.Hold.out ?_) | ((with_reducible show wpAny _ _ (eval (Expr.ListComp _ _ _ _) _) _ _ _); refine Mine.Hold.out ?_) | ((with_reducible show wpAny _ _ (storeName _ _ _) _ _ _); refine' storeX_L ?zzF ?zzN ?_ ?zza ?zzb; (case zzF => k_asm); (case zzN => k_asm); (case zza => rfl); (case zzb => rfl); k_whole; intro _ zF zN; (try dsimp only at zF); (try k_sweep); (revert zF zN; intro _ _)) | ((with_reducible show wpAny _ _ (call (Value.builtin "len") [Value.ref _]) _ _ _); refine' m_len0 ?zzF ?zzl ?zzi ?zzz ?_; (case zzF => k_asm); (case zzl => assumption); (case zzi => assumption); (case zzz => lia); intro _ _) | ((with_reducible show wpAny _ _ (call (Value.builtin "len") [Value.str (Str.mk (List.toArray _)) _]) _ _ _); refine' Mine.s_len ?zzk3 ?_; (case zzk3 => first | lia | (simp only [List.length_append, List.length_cons, List.length_nil]; lia)); intro _ _) | ((with_reducible show wpAny _ _ (call (Value.builtin "len") [Value.ref _]) _ _ _); refine' Mine.m_len ?zzk1 ?zzk2 ?zzk3 ?_; (case zzk1 => k_asm); (case zzk2 => k_mem); (case zzk3 => first | lia | (simp only [List.length_cons, List.length_nil, List.length_map, PySem.strValues]; omega))) | ((with_reducible show wpAny _ _ (subscriptTail (Expr.Name _ _) (Expr.Name _ _) (Value.ref _) (Value.int _ _)) _ _ _); (refine' Mine.m_item ?zzk1 ?zzk2 ?zzk3 ?zzk4 ?zzk5 ?_ ?zzk6; (case zzk1 => k_asm); (case zzk2 => k_mem); (case zzk3 => first | (with_reducible assumption) | lia); (case zzk4 => first | (with_reducible assumption) | lia); (case zzk5 => assumption); (case zzk6 => with_unfolding_all rfl))) | ((with_reducible show wpAny _ _ (subscriptTail (Expr.Name _ _) (Expr.Name _ _) (Value.str _ _) (Value.int _ _)) _ _ _); refine' Mine.s_item ?zzh0 ?zzh1 ?zzh2 ?_; (case zzh0 => lia); (case zzh1 => lia); (case zzh2 => assumption); intro _ _) | (first | (with_reducible show wpAny _ _ (call (Value.ref 119) _) _ _ _)); (refine Hold.out ?_) | ((with_reducible show wpAny _ _ (subscriptTail _ (Expr.BinOp _ _ _ _) (Value.str _ _) (Value.int _ _)) _ _ _); refine Hold.out ?_) | ((with_reducible show wpAny _ _ (call (Value.builtin "str.join") _) _ _ _); refine' m_join2 (B := 1) ?zzk1 ?zzk2 ?zzk3 ?zzk4 ?zzk5 ?_; (case zzk1 => k_asm); (case zzk2 => k_mem); (case zzk3 => assumption); (case zzk4 => lia); (case zzk5 => assumption); intro _ _) | ((with_reducible show wpAny _ _ (subscriptTail (Expr.Name _ _) (Expr.Slice _ _ _ _) (Value.ref _) (Value.ref _)) _ _ _); refine' m_upto ?zzF ?zzN ?zzl ?zzi ?zzz ?zzy ?_ ?zzs ?zzt; (case zzF => k_asm); (case zzN => k_asm); (case zzl => assumption); (case zzi => assumption); (case zzz => lia); (case zzy => decide); (case zzs => with_unfolding_all rfl); (case zzt => kmk_pure); intro _ _ _ _ _ _ _; (try k_sweep)) | ((with_reducible show wpAny _ _ (subscriptTail (Expr.Name _ _) (Expr.Slice _ _ _ _) (Value.ref _) (Value.ref _)) _ _ _); refine Hold.out ?_) | ((with_reducible show wpAny _ _ (newList _) _ _ _); refine' Mine.m_newListB ?zzF ?zzN ?_ ?zzz; (case zzF => k_asm); (case zzN => k_asm); (case zzz => (simp only [List.length_cons, List.length_nil]; lia)); intro _ _ _ _ _; (try k_sweep)) | (k_end; kc_close) | walk1 | (dsimp only; walk1) | (leave1; (try dsimp only)) | fail "no step"))
    refine Hold.mk ?_
    k_dflt (refine' s_item (c := letC (S + (i : Int))) ?h0 ?h1 ?h2 ?h3)
    case h3 =>
      intro t9 k9
      (repeat' (first | (k_unfold; (try dsimp only)) | ((with_reducible show wpAny _ _ (exec (Stmt.While _ _ _ _) _) _ _ _); refine Mine.Hold.out ?_) | ((with_reducible show wpAny _ _ (eval (Expr.ListComp _ _ _ _) _) _ _ _); refine Mine.Hold.out ?_) | ((with_reducible show wpAny _ _ (storeName _ _ _) _ _ _); refine' storeX_L ?zzF ?zzN ?_ ?zza ?zzb; (case zzF => k_asm); (case zzN => k_asm); (case zza => rfl); (case zzb => rfl); k_whole; intro _ zF zN; (try dsimp only at zF); (try k_sweep); (revert zF zN; intro _ _)) | ((with_reducible show wpAny _ _ (call (Value.builtin "len") [Value.ref _]) _ _ _); refine' m_len0 ?zzF ?zzl ?zzi ?zzz ?_; (case zzF => k_asm); (case zzl => assumption); (case zzi => assumption); (case zzz => lia); intro _ _) | ((with_reducible show wpAny _ _ (call (Value.builtin "len") [Value.str (Str.mk (List.toArray _)) _]) _ _ _); refine' Mine.s_len ?zzk3 ?_; (case zzk3 => first | lia | (simp only [List.length_append, List.length_cons, List.length_nil]; lia)); intro _ _) | ((with_reducible show wpAny _ _ (call (Value.builtin "len") [Value.ref _]) _ _ _); refine' Mine.m_len ?zzk1 ?zzk2 ?zzk3 ?_; (case zzk1 => k_asm); (case zzk2 => k_mem); (case zzk3 => first | lia | (simp only [List.length_cons, List.length_nil, List.length_map, PySem.strValues]; omega))) | ((with_reducible show wpAny _ _ (subscriptTail (Expr.Name _ _) (Expr.Name _ _) (Value.ref _) (Value.int _ _)) _ _ _); (refine' Mine.m_item ?zzk1 ?zzk2 ?zzk3 ?zzk4 ?zzk5 ?_ ?zzk6; (case zzk1 => k_asm); (case zzk2 => k_mem); (case zzk3 => first | (with_reducible assumption) | lia); (case zzk4 => first | (with_reducible assumption) | lia); (case zzk5 => assumption); (case zzk6 => with_unfolding_all rfl))) | ((with_reducible show wpAny _ _ (subscriptTail (Expr.Name _ _) (Expr.Name _ _) (Value.str _ _) (Value.int _ _)) _ _ _); refine' Mine.s_item ?zzh0 ?zzh1 ?zzh2 ?_; (case zzh0 => lia); (case zzh1 => lia); (case zzh2 => assumption); intro _ _) | (first | (with_reducible show wpAny _ _ (call (Value.ref 119) _) _ _ _)); (refine Hold.out ?_) | ((with_reducible show wpAny _ _ (subscriptTail _ (Expr.BinOp _ _ _ _) (Value.str _ _) (Value.int _ _)) _ _ _); refine Hold.out ?_) | ((with_reducible show wpAny _ _ (call (Value.builtin "str.join") _) _ _ _); refine' m_join2 (B := 1) ?zzk1 ?zzk2 ?zzk3 ?zzk4 ?zzk5 ?_; (case zzk1 => k_asm); (case zzk2 => k_mem); (case zzk3 => assumption); (case zzk4 => lia); (case zzk5 => assumption); intro _ _) | ((with_reducible show wpAny _ _ (subscriptTail (Expr.Name _ _) (Expr.Slice _ _ _ _) (Value.ref _) (Value.ref _)) _ _ _); refine' m_upto ?zzF ?zzN ?zzl ?zzi ?zzz ?zzy ?_ ?zzs ?zzt; (case zzF => k_asm); (case zzN => k_asm); (case zzl => assumption); (case zzi => assumption); (case zzz => lia); (case zzy => decide); (case zzs => with_unfolding_all rfl); (case zzt => kmk_pure); intro _ _ _ _ _ _ _; (try k_sweep)) | ((with_reducible show wpAny _ _ (subscriptTail (Expr.Name _ _) (Expr.Slice _ _ _ _) (Value.ref _) (Value.ref _)) _ _ _); refine Hold.out ?_) | ((with_reducible show wpAny _ _ (newList _) _ _ _); refine' Mine.m_newListB ?zzF ?zzN ?_ ?zzz; (case zzF => k_asm); (case zzN => k_asm); (case zzz => (simp only [List.length_cons, List.length_nil]; lia)); intro _ _ _ _ _; (try k_sweep)) | (k_end; kc_close) | walk1 | (dsimp only; walk1) | (leave1; (try dsimp only)) | fail "no step"))
      refine CompEnd.intro F2 N2 _ (fun _ h => h) off trivial ⟨rfl, ?_⟩
      rw [List.range_succ, List.map_append]
      exact strsAre_snoc hys _ _
    case h0 => exact (fm_lt _ (by decide)).1
    case h1 => have := (fm_lt (S + (i : Int)) (k := 6) (by decide)).2; lia
    case h2 => exact ring_at _
  · rintro ys nw ⟨hnw, hys⟩ D h tk F2 N2 off
    subst hnw
    obtain ⟨l, rfl, hl⟩ := strsAre_vals hys
    clear F1 N1 hrg
    rw [lst_eq] at N2
    obtain ⟨hlf, hll, hlb⟩ := ch_of (ts := (List.range 3).map fun k : Nat => letC (S + (k : Int))) (by rw [hl, List.map_map]; rfl)
    rw [List.length_map, List.length_range] at hll
    replace hlf : _ = [letC (S + ((0 : Nat) : Int)), letC (S + ((1 : Nat) : Int)), letC (S + ((2 : Nat) : Int))] := hlf
    generalize hc0 : letC (S + ((0 : Nat) : Int)) = c0 at hlf
    generalize hc1 : letC (S + ((1 : Nat) : Int)) = c1 at hlf
    generalize hc2 : letC (S + ((2 : Nat) : Int)) = c2 at hlf
    (repeat' (first | (k_unfold; (try dsimp only)) | ((with_reducible show wpAny _ _ (exec (Stmt.While _ _ _ _) _) _ _ _); refine Mine.Hold.out ?_) | ((with_reducible show wpAny _ _ (eval (Expr.ListComp _ _ _ _) _) _ _ _); refine Mine.Hold.out ?_) | ((with_reducible show wpAny _ _ (storeName _ _ _) _ _ _); refine' storeX_L ?zzF ?zzN ?_ ?zza ?zzb; (case zzF => k_asm); (case zzN => k_asm); (case zza => rfl); (case zzb => rfl); k_whole; intro _ zF zN; (try dsimp only at zF); (try k_sweep); (revert zF zN; intro _ _)) | ((with_reducible show wpAny _ _ (call (Value.builtin "len") [Value.ref _]) _ _ _); refine' m_len0 ?zzF ?zzl ?zzi ?zzz ?_; (case zzF => k_asm); (case zzl => assumption); (case zzi => assumption); (case zzz => lia); intro _ _) | ((with_reducible show wpAny _ _ (call (Value.builtin "len") [Value.str (Str.mk (List.toArray _)) _]) _ _ _); refine' Mine.s_len ?zzk3 ?_; (case zzk3 => first | lia | (simp only [List.length_append, List.length_cons, List.length_nil]; lia)); intro _ _) | ((with_reducible show wpAny _ _ (call (Value.builtin "len") [Value.ref _]) _ _ _); refine' Mine.m_len ?zzk1 ?zzk2 ?zzk3 ?_; (case zzk1 => k_asm); (case zzk2 => k_mem); (case zzk3 => first | lia | (simp only [List.length_cons, List.length_nil, List.length_map, PySem.strValues]; omega))) | ((with_reducible show wpAny _ _ (subscriptTail (Expr.Name _ _) (Expr.Name _ _) (Value.ref _) (Value.int _ _)) _ _ _); (refine' Mine.m_item ?zzk1 ?zzk2 ?zzk3 ?zzk4 ?zzk5 ?_ ?zzk6; (case zzk1 => k_asm); (case zzk2 => k_mem); (case zzk3 => first | (with_reducible assumption) | lia); (case zzk4 => first | (with_reducible assumption) | lia); (case zzk5 => assumption); (case zzk6 => with_unfolding_all rfl))) | ((with_reducible show wpAny _ _ (subscriptTail (Expr.Name _ _) (Expr.Name _ _) (Value.str _ _) (Value.int _ _)) _ _ _); refine' Mine.s_item ?zzh0 ?zzh1 ?zzh2 ?_; (case zzh0 => lia); (case zzh1 => lia); (case zzh2 => assumption); intro _ _) | (first | (with_reducible show wpAny _ _ (call (Value.ref 119) _) _ _ _)); (refine Hold.out ?_) | ((with_reducible show wpAny _ _ (subscriptTail _ (Expr.BinOp _ _ _ _) (Value.str _ _) (Value.int _ _)) _ _ _); refine Hold.out ?_) | ((with_reducible show wpAny _ _ (call (Value.builtin "str.join") _) _ _ _); refine' m_join2 (B := 1) ?zzk1 ?zzk2 ?zzk3 ?zzk4 ?zzk5 ?_; (case zzk1 => k_asm); (case zzk2 => k_mem); (case zzk3 => assumption); (case zzk4 => lia); (case zzk5 => assumption); intro _ _) | ((with_reducible show wpAny _ _ (subscriptTail (Expr.Name _ _) (Expr.Slice _ _ _ _) (Value.ref _) (Value.ref _)) _ _ _); refine' m_upto ?zzF ?zzN ?zzl ?zzi ?zzz ?zzy ?_ ?zzs ?zzt; (case zzF => k_asm); (case zzN => k_asm); (case zzl => assumption); (case zzi => assumption); (case zzz => lia); (case zzy => decide); (case zzs => with_unfolding_all rfl); (case zzt => kmk_pure); intro _ _ _ _ _ _ _; (try k_sweep)) | ((with_reducible show wpAny _ _ (subscriptTail (Expr.Name _ _) (Expr.Slice _ _ _ _) (Value.ref _) (Value.ref _)) _ _ _); refine Hold.out ?_) | ((with_reducible show wpAny _ _ (newList _) _ _ _); refine' Mine.m_newListB ?zzF ?zzN ?_ ?zzz; (case zzF => k_asm); (case zzN => k_asm); (case zzz => (simp only [List.length_cons, List.length_nil]; lia)); intro _ _ _ _ _; (try k_sweep)) | (k_end; kc_close) | walk1 | (dsimp only; walk1) | (leave1; (try dsimp only)) | fail "no step"))

    rename_i h3 oL2 F3 N3 dL
    refine Hold.mk ?_
    refine comp_G F3 (by with_unfolding_all rfl) (by decide) (by rfl) (by decide) (by rfl) ?_
    (repeat' (first | (k_unfold; (try dsimp only)) | ((with_reducible show wpAny _ _ (exec (Stmt.While _ _ _ _) _) _ _ _); refine Mine.Hold.out ?_) | ((with_reducible show wpAny _ _ (eval (Expr.ListComp _ _ _ _) _) _ _ _); refine Mine.Hold.out ?_) | ((with_reducible show wpAny _ _ (storeName _ _ _) _ _ _); refine' storeX_L ?zzF ?zzN ?_ ?zza ?zzb; (case zzF => k_asm); (case zzN => k_asm); (case zza => rfl); (case zzb => rfl); k_whole; intro _ zF zN; (try dsimp only at zF); (try k_sweep); (revert zF zN; intro _ _)) | ((with_reducible show wpAny _ _ (call (Value.builtin "len") [Value.ref _]) _ _ _); refine' m_len0 ?zzF ?zzl ?zzi ?zzz ?_; (case zzF => k_asm); (case zzl => assumption); (case zzi => assumption); (case zzz => lia); intro _ _) | ((with_reducible show wpAny _ _ (call (Value.builtin "len") [Value.str (Str.mk (List.toArray _)) _]) _ _ _); refine' Mine.s_len ?zzk3 ?_; (case zzk3 => first | lia | (simp only [List.length_append, List.length_cons, List.length_nil]; lia)); intro _ _) | ((with_reducible show wpAny _ _ (call (Value.builtin "len") [Value.ref _]) _ _ _); refine' Mine.m_len ?zzk1 ?zzk2 ?zzk3 ?_; (case zzk1 => k_asm); (case zzk2 => k_mem); (case zzk3 => first | lia | (simp only [List.length_cons, List.length_nil, List.length_map, PySem.strValues]; omega))) | ((with_reducible show wpAny _ _ (subscriptTail (Expr.Name _ _) (Expr.Name _ _) (Value.ref _) (Value.int _ _)) _ _ _); (refine' Mine.m_item ?zzk1 ?zzk2 ?zzk3 ?zzk4 ?zzk5 ?_ ?zzk6; (case zzk1 => k_asm); (case zzk2 => k_mem); (case zzk3 => first | (with_reducible assumption) | lia); (case zzk4 => first | (with_reducible assumption) | lia); (case zzk5 => assumption); (case zzk6 => with_unfolding_all rfl))) | ((with_reducible show wpAny _ _ (subscriptTail (Expr.Name _ _) (Expr.Name _ _) (Value.str _ _) (Value.int _ _)) _ _ _); refine' Mine.s_item ?zzh0 ?zzh1 ?zzh2 ?_; (case zzh0 => lia); (case zzh1 => lia); (case zzh2 => assumption); intro _ _) | (first | (with_reducible show wpAny _ _ (call (Value.ref 119) _) _ _ _)); (refine Hold.out ?_) | ((with_reducible show wpAny _ _ (subscriptTail _ (Expr.BinOp _ _ _ _) (Value.str _ _) (Value.int _ _)) _ _ _); refine Hold.out ?_) | ((with_reducible show wpAny _ _ (call (Value.builtin "str.join") _) _ _ _); refine' m_join2 (B := 1) ?zzk1 ?zzk2 ?zzk3 ?zzk4 ?zzk5 ?_; (case zzk1 => k_asm); (case zzk2 => k_mem); (case zzk3 => assumption); (case zzk4 => lia); (case zzk5 => assumption); intro _ _) | ((with_reducible show wpAny _ _ (subscriptTail (Expr.Name _ _) (Expr.Slice _ _ _ _) (Value.ref _) (Value.ref _)) _ _ _); refine' m_upto ?zzF ?zzN ?zzl ?zzi ?zzz ?zzy ?_ ?zzs ?zzt; (case zzF => k_asm); (case zzN => k_asm); (case zzl => assumption); (case zzi => assumption); (case zzz => lia); (case zzy => decide); (case zzs => with_unfolding_all rfl); (case zzt => kmk_pure); intro _ _ _ _ _ _ _; (try k_sweep)) | ((with_reducible show wpAny _ _ (subscriptTail (Expr.Name _ _) (Expr.Slice _ _ _ _) (Value.ref _) (Value.ref _)) _ _ _); refine Hold.out ?_) | ((with_reducible show wpAny _ _ (newList _) _ _ _); refine' Mine.m_newListB ?zzF ?zzN ?_ ?zzz; (case zzF => k_asm); (case zzN => k_asm); (case zzz => (simp only [List.length_cons, List.length_nil]; lia)); intro _ _ _ _ _; (try k_sweep)) | (k_end; kc_close) | walk1 | (dsimp only; walk1) | (leave1; (try dsimp only)) | fail "no step"))
    rename_i D8 ws8 h4 lt8 hI8 D5 h5 lt5 F5 N5 t5 k5
    refine Hold.mk ?_
    k_dflt (refine' m_from F5 N5 ?l ?i ?z ?x ?_ ?s ?t)
    case l => k_mem
    case i => exact .cons _ _ (.cons _ _ (.cons _ _ (.cons _ _ (.cons _ _ .nil))))
    case z => decide
    case x => lia
    case s => with_unfolding_all rfl
    case t => kmk_pure
    intro DS wsS h6 ltS F6 N6 hIS
    clear F5 N5
    k_dflt (refine' m_catI F6 N6 ?ka ?kb hI8 hIS ?z ?_)
    case ka => k_mem
    case kb => exact List.mem_cons_self
    case z => simp only [List.length_take, List.length_drop, List.length_cons, List.length_nil]; lia
    intro DX us h7 ltX F7 N7 hIX
    clear F6 N6
    rw [show Int.toNat 8 = 8 from rfl, Int.toNat_natCast] at hIX
    have hnl : (ns.take 8 ++ [0, 1, 2, 2, 1].drop ns.length : List Int).length ≤ 8 := by
      simp only [List.length_append, List.length_take, List.length_drop, List.length_cons, List.length_nil]; lia
    generalize (ns.take 8 ++ [0, 1, 2, 2, 1].drop ns.length : List Int) = nx at hIX hnl
    have hul := IntsAre.length hIX
    replace N7 : News _ _ _ [(DX, W.listOf us.toArray 0), (s1.heap.objs.size + 1 + 1, oL2), (90, tabObj #[])] := fun q hq => N7 q (by
      simp only [List.mem_cons, List.mem_append, List.not_mem_nil, or_false] at hq ⊢
      rcases hq with h | h | h <;> simp only [eq_true h, true_or, or_true])
    k_dflt (refine src_list (its := us) (n := 0) (by rfl) F7 N7 List.mem_cons_self (by rw [sizeLine_eq]; lia) fun g => rest_induct (fun i ys nw => nw = [(DX, W.listOf us.toArray 0), (s1.heap.objs.size + 1 + 1, oL2), (90, tabObj #[])] ∧ StrsAre ys ((nx.take i).map fun z : Int => ch ([c0, c1, c2].getD (z.fmod 3).toNat 0))) ⟨rfl, .nil⟩ ?_ ?_)
    · intro i ys nw v I oI C oC D2 m₂ h8 tk8 E' hi ⟨hnw, hys⟩ hP hC hx F8 N8 off8 ne8
      clear F7 N7
      subst hnw
      obtain ⟨z, tz, rfl, hz⟩ := ints_at hIX hP
      (repeat' (first | (k_unfold; (try dsimp only)) | ((with_reducible show wpAny _ _ (exec (Stmt.While _ _ _ _) _) _ _ _); refine Mine.Hold.out ?_) | ((with_reducible show wpAny _ _ (eval (Expr.ListComp _ _ _ _) _) _ _ _); refine Mine.Hold.out ?_) | ((with_reducible show wpAny _ _ (storeName _ _ _) _ _ _); refine' storeX_L ?zzF ?zzN ?_ ?zza ?zzb; (case zzF => k_asm); (case zzN => k_asm); (case zza => rfl); (case zzb => rfl); k_whole; intro _ zF zN; (try dsimp only at zF); (try k_sweep); (revert zF zN; intro _ _)) | ((with_reducible show wpAny _ _ (call (Value.builtin "len") [Value.ref _]) _ _ _); refine' m_len0 ?zzF ?zzl ?zzi ?zzz ?_; (case zzF => k_asm); (case zzl => assumption); (case zzi => assumption); (case zzz => lia); intro _ _) | ((with_reducible show wpAny _ _ (call (Value.builtin "len") [Value.str (Str.mk (List.toArray _)) _]) _ _ _); refine' Mine.s_len ?zzk3 ?_; (case zzk3 => first | lia | (simp only [List.length_append, List.length_cons, List.length_nil]; lia)); intro _ _) | ((with_reducible show wpAny _ _ (call (Value.builtin "len") [Value.ref _]) _ _ _); refine' Mine.m_len ?zzk1 ?zzk2 ?zzk3 ?_; (case zzk1 => k_asm); (case zzk2 => k_mem); (case zzk3 => first | lia | (simp only [List.length_cons, List.length_nil, List.length_map, PySem.strValues]; omega))) | ((with_reducible show wpAny _ _ (subscriptTail (Expr.Name _ _) (Expr.Name _ _) (Value.ref _) (Value.int _ _)) _ _ _); (refine' Mine.m_item ?zzk1 ?zzk2 ?zzk3 ?zzk4 ?zzk5 ?_ ?zzk6; (case zzk1 => k_asm); (case zzk2 => k_mem); (case zzk3 => first | (with_reducible assumption) | lia); (case zzk4 => first | (with_reducible assumption) | lia); (case zzk5 => assumption); (case zzk6 => with_unfolding_all rfl))) | ((with_reducible show wpAny _ _ (subscriptTail (Expr.Name _ _) (Expr.Name _ _) (Value.str _ _) (Value.int _ _)) _ _ _); refine' Mine.s_item ?zzh0 ?zzh1 ?zzh2 ?_; (case zzh0 => lia); (case zzh1 => lia); (case zzh2 => assumption); intro _ _) | (first | (with_reducible show wpAny _ _ (call (Value.ref 119) _) _ _ _)); (refine Hold.out ?_) | ((with_reducible show wpAny _ _ (subscriptTail _ (Expr.BinOp _ _ _ _) (Value.str _ _) (Value.int _ _)) _ _ _); refine Hold.out ?_) | ((with_reducible show wpAny _ _ (call (Value.builtin "str.join") _) _ _ _); refine' m_join2 (B := 1) ?zzk1 ?zzk2 ?zzk3 ?zzk4 ?zzk5 ?_; (case zzk1 => k_asm); (case zzk2 => k_mem); (case zzk3 => assumption); (case zzk4 => lia); (case zzk5 => assumption); intro _ _) | ((with_reducible show wpAny _ _ (subscriptTail (Expr.Name _ _) (Expr.Slice _ _ _ _) (Value.ref _) (Value.ref _)) _ _ _); refine' m_upto ?zzF ?zzN ?zzl ?zzi ?zzz ?zzy ?_ ?zzs ?zzt; (case zzF => k_asm); (case zzN => k_asm); (case zzl => assumption); (case zzi => assumption); (case zzz => lia); (case zzy => decide); (case zzs => with_unfolding_all rfl); (case zzt => kmk_pure); intro _ _ _ _ _ _ _; (try k_sweep)) | ((with_reducible show wpAny _ _ (subscriptTail (Expr.Name _ _) (Expr.Slice _ _ _ _) (Value.ref _) (Value.ref _)) _ _ _); refine Hold.out ?_) | ((with_reducible show wpAny _ _ (newList _) _ _ _); refine' Mine.m_newListB ?zzF ?zzN ?_ ?zzz; (case zzF => k_asm); (case zzN => k_asm); (case zzz => (simp only [List.length_cons, List.length_nil]; lia)); intro _ _ _ _ _; (try k_sweep)) | (k_end; kc_close) | walk1 | (dsimp only; walk1) | (leave1; (try dsimp only)) | fail "no step"))
      refine Hold.mk ?_
      have hzb := fm_lt z (k := 3) (by decide)
      k_dflt (refine' s_item (c := [c0, c1, c2].getD (z.fmod 3).toNat 0) ?h0 ?h1 ?h2 ?h3)
      case h3 =>
        intro t9 k9
        (repeat' (first | (k_unfold; (try dsimp only)) | ((with_reducible show wpAny _ _ (exec (Stmt.While _ _ _ _) _) _ _ _); refine Mine.Hold.out ?_) | ((with_reducible show wpAny _ _ (eval (Expr.ListComp _ _ _ _) _) _ _ _); refine Mine.Hold.out ?_) | ((with_reducible show wpAny _ _ (storeName _ _ _) _ _ _); refine' storeX_L ?zzF ?zzN ?_ ?zza ?zzb; (case zzF => k_asm); (case zzN => k_asm); (case zza => rfl); (case zzb => rfl); k_whole; intro _ zF zN; (try dsimp only at zF); (try k_sweep); (revert zF zN; intro _ _)) | ((with_reducible show wpAny _ _ (call (Value.builtin "len") [Value.ref _]) _ _ _); refine' m_len0 ?zzF ?zzl ?zzi ?zzz ?_; (case zzF => k_asm); (case zzl => assumption); (case zzi => assumption); (case zzz => lia); intro _ _) | ((with_reducible show wpAny _ _ (call (Value.builtin "len") [Value.str (Str.mk (List.toArray _)) _]) _ _ _); refine' Mine.s_len ?zzk3 ?_; (case zzk3 => first | lia | (simp only [List.length_append, List.length_cons, List.length_nil]; lia)); intro _ _) | ((with_reducible show wpAny _ _ (call (Value.builtin "len") [Value.ref _]) _ _ _); refine' Mine.m_len ?zzk1 ?zzk2 ?zzk3 ?_; (case zzk1 => k_asm); (case zzk2 => k_mem); (case zzk3 => first | lia | (simp only [List.length_cons, List.length_nil, List.length_map, PySem.strValues]; omega))) | ((with_reducible show wpAny _ _ (subscriptTail (Expr.Name _ _) (Expr.Name _ _) (Value.ref _) (Value.int _ _)) _ _ _); (refine' Mine.m_item ?zzk1 ?zzk2 ?zzk3 ?zzk4 ?zzk5 ?_ ?zzk6; (case zzk1 => k_asm); (case zzk2 => k_mem); (case zzk3 => first | (with_reducible assumption) | lia); (case zzk4 => first | (with_reducible assumption) | lia); (case zzk5 => assumption); (case zzk6 => with_unfolding_all rfl))) | ((with_reducible show wpAny _ _ (subscriptTail (Expr.Name _ _) (Expr.Name _ _) (Value.str _ _) (Value.int _ _)) _ _ _); refine' Mine.s_item ?zzh0 ?zzh1 ?zzh2 ?_; (case zzh0 => lia); (case zzh1 => lia); (case zzh2 => assumption); intro _ _) | (first | (with_reducible show wpAny _ _ (call (Value.ref 119) _) _ _ _)); (refine Hold.out ?_) | ((with_reducible show wpAny _ _ (subscriptTail _ (Expr.BinOp _ _ _ _) (Value.str _ _) (Value.int _ _)) _ _ _); refine Hold.out ?_) | ((with_reducible show wpAny _ _ (call (Value.builtin "str.join") _) _ _ _); refine' m_join2 (B := 1) ?zzk1 ?zzk2 ?zzk3 ?zzk4 ?zzk5 ?_; (case zzk1 => k_asm); (case zzk2 => k_mem); (case zzk3 => assumption); (case zzk4 => lia); (case zzk5 => assumption); intro _ _) | ((with_reducible show wpAny _ _ (subscriptTail (Expr.Name _ _) (Expr.Slice _ _ _ _) (Value.ref _) (Value.ref _)) _ _ _); refine' m_upto ?zzF ?zzN ?zzl ?zzi ?zzz ?zzy ?_ ?zzs ?zzt; (case zzF => k_asm); (case zzN => k_asm); (case zzl => assumption); (case zzi => assumption); (case zzz => lia); (case zzy => decide); (case zzs => with_unfolding_all rfl); (case zzt => kmk_pure); intro _ _ _ _ _ _ _; (try k_sweep)) | ((with_reducible show wpAny _ _ (subscriptTail (Expr.Name _ _) (Expr.Slice _ _ _ _) (Value.ref _) (Value.ref _)) _ _ _); refine Hold.out ?_) | ((with_reducible show wpAny _ _ (newList _) _ _ _); refine' Mine.m_newListB ?zzF ?zzN ?_ ?zzz; (case zzF => k_asm); (case zzN => k_asm); (case zzz => (simp only [List.length_cons, List.length_nil]; lia)); intro _ _ _ _ _; (try k_sweep)) | (k_end; kc_close) | walk1 | (dsimp only; walk1) | (leave1; (try dsimp only)) | fail "no step"))
        refine CompEnd.intro F8 N8 _ (fun _ h => h) off8 (.inr ⟨_, List.mem_cons_self, rfl, _, rfl⟩) ⟨rfl, ?_⟩
        rw [List.take_add_one, hz, List.map_append]
        exact strsAre_snoc hys _ _
      case h0 => exact hzb.1
      case h1 => lia
      case h2 =>
        have : (z.fmod 3).toNat < 3 := by lia
        rw [List.getD_eq_getElem?_getD, List.getElem?_eq_getElem (by exact this)]; rfl
    · rintro ys nw ⟨hnw, hys⟩ D2 h8 tk8 F8 N8 off8
      subst hnw
      clear F7 N7
      rw [hul, List.take_length] at hys
      obtain ⟨l, rfl, hl⟩ := strsAre_vals hys
      rw [lst_eq] at N8
      obtain ⟨hlf, hll, hlb⟩ := ch_of (ts := nx.map fun z : Int => [c0, c1, c2].getD (z.fmod 3).toNat 0) (by rw [hl, List.map_map]; rfl)
      rw [List.length_map] at hll
      generalize hts : (nx.map fun z : Int => [c0, c1, c2].getD (z.fmod 3).toNat 0) = ts at hlf
      (repeat' (first | (k_unfold; (try dsimp only)) | ((with_reducible show wpAny _ _ (exec (Stmt.While _ _ _ _) _) _ _ _); refine Mine.Hold.out ?_) | ((with_reducible show wpAny _ _ (eval (Expr.ListComp _ _ _ _) _) _ _ _); refine Mine.Hold.out ?_) | ((with_reducible show wpAny _ _ (storeName _ _ _) _ _ _); refine' storeX_L ?zzF ?zzN ?_ ?zza ?zzb; (case zzF => k_asm); (case zzN => k_asm); (case zza => rfl); (case zzb => rfl); k_whole; intro _ zF zN; (try dsimp only at zF); (try k_sweep); (revert zF zN; intro _ _)) | ((with_reducible show wpAny _ _ (call (Value.builtin "len") [Value.ref _]) _ _ _); refine' m_len0 ?zzF ?zzl ?zzi ?zzz ?_; (case zzF => k_asm); (case zzl => assumption); (case zzi => assumption); (case zzz => lia); intro _ _) | ((with_reducible show wpAny _ _ (call (Value.builtin "len") [Value.str (Str.mk (List.toArray _)) _]) _ _ _); refine' Mine.s_len ?zzk3 ?_; (case zzk3 => first | lia | (simp only [List.length_append, List.length_cons, List.length_nil]; lia)); intro _ _) | ((with_reducible show wpAny _ _ (call (Value.builtin "len") [Value.ref _]) _ _ _); refine' Mine.m_len ?zzk1 ?zzk2 ?zzk3 ?_; (case zzk1 => k_asm); (case zzk2 => k_mem); (case zzk3 => first | lia | (simp only [List.length_cons, List.length_nil, List.length_map, PySem.strValues]; omega))) | ((with_reducible show wpAny _ _ (subscriptTail (Expr.Name _ _) (Expr.Name _ _) (Value.ref _) (Value.int _ _)) _ _ _); (refine' Mine.m_item ?zzk1 ?zzk2 ?zzk3 ?zzk4 ?zzk5 ?_ ?zzk6; (case zzk1 => k_asm); (case zzk2 => k_mem); (case zzk3 => first | (with_reducible assumption) | lia); (case zzk4 => first | (with_reducible assumption) | lia); (case zzk5 => assumption); (case zzk6 => with_unfolding_all rfl))) | ((with_reducible show wpAny _ _ (subscriptTail (Expr.Name _ _) (Expr.Name _ _) (Value.str _ _) (Value.int _ _)) _ _ _); refine' Mine.s_item ?zzh0 ?zzh1 ?zzh2 ?_; (case zzh0 => lia); (case zzh1 => lia); (case zzh2 => assumption); intro _ _) | (first | (with_reducible show wpAny _ _ (call (Value.ref 119) _) _ _ _)); (refine Hold.out ?_) | ((with_reducible show wpAny _ _ (subscriptTail _ (Expr.BinOp _ _ _ _) (Value.str _ _) (Value.int _ _)) _ _ _); refine Hold.out ?_) | ((with_reducible show wpAny _ _ (call (Value.builtin "str.join") _) _ _ _); refine' m_join2 (B := 1) ?zzk1 ?zzk2 ?zzk3 ?zzk4 ?zzk5 ?_; (case zzk1 => k_asm); (case zzk2 => k_mem); (case zzk3 => assumption); (case zzk4 => lia); (case zzk5 => assumption); intro _ _) | ((with_reducible show wpAny _ _ (subscriptTail (Expr.Name _ _) (Expr.Slice _ _ _ _) (Value.ref _) (Value.ref _)) _ _ _); refine' m_upto ?zzF ?zzN ?zzl ?zzi ?zzz ?zzy ?_ ?zzs ?zzt; (case zzF => k_asm); (case zzN => k_asm); (case zzl => assumption); (case zzi => assumption); (case zzz => lia); (case zzy => decide); (case zzs => with_unfolding_all rfl); (case zzt => kmk_pure); intro _ _ _ _ _ _ _; (try k_sweep)) | ((with_reducible show wpAny _ _ (subscriptTail (Expr.Name _ _) (Expr.Slice _ _ _ _) (Value.ref _) (Value.ref _)) _ _ _); refine Hold.out ?_) | ((with_reducible show wpAny _ _ (newList _) _ _ _); refine' Mine.m_newListB ?zzF ?zzN ?_ ?zzz; (case zzF => k_asm); (case zzN => k_asm); (case zzz => (simp only [List.length_cons, List.length_nil]; lia)); intro _ _ _ _ _; (try k_sweep)) | (k_end; kc_close) | walk1 | (dsimp only; walk1) | (leave1; (try dsimp only)) | fail "no step"))
      rename_i tt kk h9 F9 N9
      replace N9 : News _ _ _ ([(90, tabObj #[])] ++ []) := fun q hq => N9 q (by
        simp only [List.append_nil, List.mem_singleton] at hq
        subst hq; simp)
      obtain ⟨hdis, hrg3⟩ := letC_ok S hc0 hc1 hc2
      have hlet : ∀ x ∈ ts, x = c0 ∨ x = c1 ∨ x = c2 := fun x hx => by
        rw [← hts, List.mem_map] at hx
        obtain ⟨z, _, rfl⟩ := hx
        exact pick_mem c0 c1 c2 z
      have htl : ts.length ≤ 8 := by rw [← hts, List.length_map]; exact hnl
      refine Hold.mk ?_
      k_dflt (refine' ag_tells _ _ _ _ _ _ _ _ _ _ _ _ _ _ _ _ _ _ ?B F9 ?X N9 ?T ?hk ?CH ts c0 c1 c2 _ _ [(90, tabObj #[])] [] (.inl rfl) rfl ?hr htl ?hd ?hu ?hok hlet hdis hrg3 ?hret)
      case B => exact K'
      case X => exact X'
      case T => exact T'
      case hk => rfl
      case CH => exact codeHd
      case hr => exact fun q _ p hp => nomatch hp
      case hd => decide +kernel
      case hu => decide +kernel
      case hok => exact fun x hx => ring_ok (by rcases hlet x hx with rfl | rfl | rfl <;> exact hrg3 _ (by simp))
      case hret =>
        intro tb' h10 tk10 hT10 F10 N10
        clear F9 N9
        have hpost : GoodW PySem.Challenge.rw_pg0170_01.row.claim (classAt s0.heap) (ExcName.means s0.heap) [ofPy (PyData.list (List.map PyData.int ns))] { heap := ghostOf s1.heap [(92, 90)], gens := s1.gens, drawn := s1.drawn, toks := s1.toks, os := s1.os } (Except.ok (Flow.ret (Value.bool true))) { heap := h10, gens := s1.gens, drawn := s1.drawn, toks := tk10, os := s1.os } :=
          goodW_bool F10 hg (raisesW_false (by wrow_none_raised)) (by wrow_post)
        rcases hT10 with rfl | ⟨c1', c2', oc', vs', tq', rfl, _, _⟩
        · exact ⟨hpost, GrownAt.of N10 List.mem_cons_self, trivial⟩
        · exact ⟨hpost, GrownAt.of N10 List.mem_cons_self, trivial⟩)
end Mine
end
theorem PySem.Challenge.cw_pg0170_01_holds : PySem.Challenge.rw_pg0170_01.Holds := by
  exact Mine.law_test
