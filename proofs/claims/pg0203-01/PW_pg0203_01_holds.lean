import PyProof.Rows.All
import Wide.All
import OpenK.AllK
import Wide.FinOn
import PySem.Challenge.RW_pg0203_01
set_option Elab.async false
set_option linter.all false
section
open PySem PySem.W PyProof.Rows
namespace Mine
set_option maxRecDepth 100000 in
set_option maxHeartbeats 8000000 in
open_top hd for PySem.Challenge.rw_pg0203_01
end Mine
end
section
open PySem PySem.W PyProof.Rows PySem.Calls PySem.Spec
namespace Mine
noncomputable abbrev LOOSE : List Str := (looseW Mine.hd.view_39 [Str.ofString "insort_right", Str.ofString "bisect_right", Str.ofString "bisect_left"] ++ List.map (fun x => x.name) (recsOf Mine.hd.view_39) ++
      List.map (fun x => x.fst) (litsOf Mine.hd.view_39) ++
    List.map (fun x => x.name) (clssOf Mine.hd.view_39 (looseW Mine.hd.view_39 [Str.ofString "insort_right", Str.ofString "bisect_right", Str.ofString "bisect_left"])))
theorem news_dup {h₀ h : Heap} {L a : Addr} {o : Obj} {news : List (Addr × Obj)} (N : News h₀ L h news) (hm : (a, o) ∈ news) : News h₀ L h ((a, o) :: news) := fun p hp => by
  rcases List.mem_cons.mp hp with rfl | hp
  · exact N _ hm
  · exact N _ hp
theorem news_tail {h₀ h : Heap} {L : Addr} {x : Addr × Obj} {news : List (Addr × Obj)} (N : News h₀ L h (x :: news)) : News h₀ L h news := fun p hp => N p (.tail _ hp)
theorem news_front {h₀ h : Heap} {L : Addr} {x : Addr × Obj} {pre post : List (Addr × Obj)} (N : News h₀ L h (pre ++ x :: post)) : News h₀ L h (x :: (pre ++ post)) := fun p hp => N p (by
  simp only [List.mem_cons, List.mem_append] at hp ⊢; rcases hp with h | h | h <;> simp [h])
theorem news_back {h₀ h : Heap} {L : Addr} {x : Addr × Obj} {pre post : List (Addr × Obj)} (N : News h₀ L h (x :: (pre ++ post))) : News h₀ L h (pre ++ x :: post) := fun p hp => N p (by
  simp only [List.mem_cons, List.mem_append] at hp ⊢; rcases hp with h | h | h <;> simp [h])
theorem apart_both {l : Addr} {pre post : List (Addr × Obj)} (h1 : ∀ p ∈ pre, p.1 ≠ l) (h2 : ∀ p ∈ post, p.1 ≠ l) : ∀ p ∈ pre ++ post, p.1 ≠ l := fun p hp => (List.mem_append.mp hp).elim (h1 p) (h2 p)
end Mine
namespace Mine
theorem room {d a b R : Nat} (h : d + b < R) (e : Nat.ble a b = true) : d + a < R := Nat.lt_of_le_of_lt (Nat.add_le_add_left (Nat.le_of_ble_eq_true e) d) h
theorem room2 {d a c b R : Nat} (h : d + b < R) (e : Nat.ble (a + c) b = true) : d + a + c < R := Nat.add_assoc d a c ▸ room h e
theorem room0 {d b R : Nat} (h : d + b < R) : d < R := Nat.lt_of_le_of_lt (Nat.le_add_right d b) h
theorem guardLt {a b c : Nat} {P : Prop} (_ : c < b ∧ P) (k : a < b) : a < b := k
theorem isLt {a b : Nat} (h : a < b) : a < b := h
end Mine
end
open PySem PySem.W PyProof.Rows
local macro_rules | `(tactic| omega) => `(tactic| k_extra "omega")
local macro_rules | `(tactic| lia) => `(tactic| k_extra "omega")
local macro_rules | `(tactic| ktr_room) => `(tactic| k_extra "omega")
local macro_rules | `(tactic| ktr_units) => `(tactic| k_extra "omega")
local macro_rules | `(tactic| walk_at $s:str) => `(tactic| k_extra $s)
section
theorem Mine.off_C1 : True := by
  w_top off
  (try walk1)
  k_with_none
  (k_with "lt" => (with_reducible first | assumption | ((fail_if_success (fail_if_success (refine' Mine.guardLt ?qg ?qh; (case qg => assumption)))); first | (refine' And.left ?qx; case qx => first | assumption | (refine' And.right ?qx; case qx => first | assumption | (refine' And.right ?qx; case qx => first | assumption | (refine' And.right ?qx; case qx => first | assumption | (refine' And.right ?qx; case qx => first | assumption | (refine' And.right ?qx; case qx => first | assumption | (refine' And.right ?qx; case qx => first | assumption | (refine' And.right ?qx; case qx => first | assumption | (refine' And.right ?qx; case qx => first | assumption | (refine' And.right ?qx; case qx => first | assumption | (refine' And.right ?qx; case qx => first | assumption | (refine' And.right ?qx; case qx => first | assumption | (refine' And.right ?qx; case qx => first | assumption | (refine' And.right ?qx; case qx => first | assumption | (refine' And.right ?qx; case qx => first | assumption | (refine' And.right ?qx; case qx => first | assumption | (refine' And.right ?qx; case qx => first | assumption | (refine' And.right ?qx; case qx => first | assumption | (refine' And.right ?qx; case qx => first | assumption | (refine' And.right ?qx; case qx => first | assumption | (refine' And.right ?qx; case qx => assumption))))))))))))))))))))) | (refine' And.right ?qx; case qx => first | assumption | (refine' And.right ?qx; case qx => first | assumption | (refine' And.right ?qx; case qx => first | assumption | (refine' And.right ?qx; case qx => first | assumption | (refine' And.right ?qx; case qx => first | assumption | (refine' And.right ?qx; case qx => first | assumption | (refine' And.right ?qx; case qx => first | assumption | (refine' And.right ?qx; case qx => first | assumption | (refine' And.right ?qx; case qx => first | assumption | (refine' And.right ?qx; case qx => first | assumption | (refine' And.right ?qx; case qx => first | assumption | (refine' And.right ?qx; case qx => first | assumption | (refine' And.right ?qx; case qx => first | assumption | (refine' And.right ?qx; case qx => first | assumption | (refine' And.right ?qx; case qx => first | assumption | (refine' And.right ?qx; case qx => first | assumption | (refine' And.right ?qx; case qx => first | assumption | (refine' And.right ?qx; case qx => first | assumption | (refine' And.right ?qx; case qx => first | assumption | (refine' And.right ?qx; case qx => first | assumption | (refine' And.right ?qx; case qx => assumption)))))))))))))))))))))) | (refine Nat.lt_trans ?_ (by assumption); k_extra "lt")))
  (k_with "omega" => (first | (with_reducible assumption) | (with_reducible exact Ne.symm (by assumption)) | (with_reducible refine Nat.ne_of_lt ?_; k_extra "lt") | (with_reducible refine Nat.ne_of_gt ?_; k_extra "lt") | ((with_reducible refine' Mine.room ?qx ?qy); (case qx => with_reducible assumption); (case qy => exact rfl)) | ((with_reducible refine' Mine.room2 ?qx ?qy); (case qx => with_reducible assumption); (case qy => exact rfl)) | ((with_reducible refine' Mine.room0 ?qx); (case qx => with_reducible assumption)) | (with_reducible refine Mine.isLt ?_; k_extra "lt")))
  trivial
open PySem PySem.W PyProof.Rows PySem.Calls PySem.Spec
namespace Mine
/-- bisect_right's search, by halves; fuel: the places left -/
noncomputable def bisRGo (xs : List Int) (x : Int) : Nat → Int → Int → Int
  | 0, lo, _ => lo
  | f + 1, lo, hi => if lo < hi then (if x < xs.getD ((lo + hi).fdiv 2).toNat 0 then bisRGo xs x f lo ((lo + hi).fdiv 2) else bisRGo xs x f ((lo + hi).fdiv 2 + 1) hi) else lo
noncomputable def bisR (xs : List Int) (x : Int) : Int := bisRGo xs x xs.length 0 xs.length
theorem bisRGo_fuel (xs : List Int) (x : Int) : ∀ (f g : Nat) (lo hi : Int), hi - lo ≤ f → hi - lo ≤ g → bisRGo xs x f lo hi = bisRGo xs x g lo hi := by
  intro f
  induction f with
  | zero =>
    intro g lo hi h1 _
    cases g with
    | zero => rfl
    | succ g => simp only [bisRGo]; rw [if_neg (by lia)]
  | succ f ih =>
    intro g lo hi h1 h2
    cases g with
    | zero => simp only [bisRGo]; rw [if_neg (by lia)]
    | succ g =>
      simp only [bisRGo]
      by_cases h : lo < hi
      · rw [if_pos h, if_pos h]
        have e : (lo + hi).fdiv 2 = (lo + hi) / 2 := Int.fdiv_eq_ediv_of_nonneg _ (by decide)
        rw [e]
        rw [ih g lo ((lo + hi) / 2) (by lia) (by lia), ih g ((lo + hi) / 2 + 1) hi (by lia) (by lia)]
      · rw [if_neg h, if_neg h]
theorem mid_eq (lo hi : Int) : (lo + hi).fdiv 2 = (lo + hi) / 2 := Int.fdiv_eq_ediv_of_nonneg _ (by decide)
noncomputable def BisRInv (xs : List Int) (x lo hi : Int) : Prop := 0 ≤ lo ∧ lo ≤ hi ∧ hi ≤ xs.length ∧ bisRGo xs x (hi - lo).toNat lo hi = bisR xs x
theorem BisRInv.start (xs : List Int) (x : Int) : BisRInv xs x 0 xs.length := ⟨by lia, by lia, by lia, by simp [bisR]⟩
theorem BisRInv.stop {xs : List Int} {x lo hi : Int} (h : ¬ lo < hi) (e : BisRInv xs x lo hi) : lo = bisR xs x := by
  rw [← e.2.2.2]
  have : (hi - lo).toNat = 0 := by lia
  rw [this]; rfl
theorem BisRInv.left {xs : List Int} {x lo hi : Int} (h : lo < hi) (e : BisRInv xs x lo hi) (hx : x < xs.getD ((lo + hi).fdiv 2).toNat 0) :
    BisRInv xs x lo ((lo + hi).fdiv 2) := by
  obtain ⟨e1, e2, e3, e⟩ := e
  have q := mid_eq lo hi
  refine ⟨e1, by rw [q]; lia, by rw [q]; lia, ?_⟩
  rw [← e]
  obtain ⟨f, hf⟩ : ∃ f, (hi - lo).toNat = f + 1 := ⟨(hi - lo).toNat - 1, by lia⟩
  rw [hf]; simp only [bisRGo]; rw [if_pos h, if_pos hx]
  exact bisRGo_fuel _ _ _ _ _ _ (by rw [q]; lia) (by rw [q]; lia)
theorem BisRInv.right {xs : List Int} {x lo hi : Int} (h : lo < hi) (e : BisRInv xs x lo hi) (hx : ¬ x < xs.getD ((lo + hi).fdiv 2).toNat 0) :
    BisRInv xs x ((lo + hi).fdiv 2 + 1) hi := by
  obtain ⟨e1, e2, e3, e⟩ := e
  have q := mid_eq lo hi
  refine ⟨by rw [q]; lia, by rw [q]; lia, e3, ?_⟩
  rw [← e]
  obtain ⟨f, hf⟩ : ∃ f, (hi - lo).toNat = f + 1 := ⟨(hi - lo).toNat - 1, by lia⟩
  rw [hf]; simp only [bisRGo]; rw [if_pos h, if_neg hx]
  exact bisRGo_fuel _ _ _ _ _ _ (by rw [q]; lia) (by rw [q]; lia)
theorem mid_less1 {lo hi : Int} (h : lo < hi) : ((lo + hi).fdiv 2 - lo).toNat < (hi - lo).toNat := by rw [mid_eq]; lia
theorem mid_less2 {lo hi : Int} (h : lo < hi) : (hi - ((lo + hi).fdiv 2 + 1)).toNat < (hi - lo).toNat := by rw [mid_eq]; lia
section
variable {w : World} {mean : ExcName → Option Value} {mg mb : Str → Option Value} {dp un : Nat} {gd : Option (List Code)} {cn : Str} {cs : Scope} {a : Addr} {ccd : Value} {cl : List (Str × Addr)} {outer : List Env} {A₀ : Around} {base h₀ : Heap} {L : Addr} {m : Str → Option Value} {news : List (Addr × Obj)} {s : Shared} {Q E : Value → Shared → Prop}
set_option maxRecDepth 100000 in
set_option maxHeartbeats 8000000 in
theorem bisR_tells {l : Addr} {vs : List Value} {ns : List Int} {n : Nat} {x : Int} {tx : Tok} (B : Below A₀ base outer h₀) (F : Fr h₀ L s.heap m) (X : (Mine.hd.heap_39 w.params).In h₀) (T : Top topProg LOOSE mean mg mb h₀) (hk : cs.kind = .function) (N : News h₀ L s.heap news) (hl : (l, listOf vs.toArray n) ∈ news) (hi : IntsAre vs ns) (hfit : ns.length < 2 ^ 62) (hd : dp + 1 < recursionLimit) (hu : un + 8 < cLine)
    (hret : ∀ t h' tk', Fr h₀ L h' m → News h₀ L h' news → Q (.int (bisR ns x) t) { s with heap := h', toks := tk' }) :
    wpAny (model PySem.Challenge.rw_pg0203_01.row.prog w) (ktrTop dp un gd cn cs L a ccd cl outer) (call (.ref 32) [.ref l, .int x tx]) Q E s := by
  revert X; k_fill; intro X
  replace N := news_dup N hl
  k_dflt (refine wpAny_call ?_; refine' code_def (binds := [(Str.ofString "a", .ref l), (Str.ofString "x", .int x tx), (Str.ofString "lo", .int 0 202), (Str.ofString "hi", .none), (Str.ofString "key", .none)]) ?k1 ?k2 ?k3 ?k4 ?k5 ?kA ?kF ?kK ?k6 ?k7 ?k8 ?k9 ?kB ?_ ?c2 ?c3 ?c4 ?c5; (case kA => exact rfl); (case kF => exact rfl); (case kK => assumption); (case k1 => k_asm); (case k2 => k_asm); (case k3 => k_asm); (case k4 => k_asm); (case k5 => k_asm); (case k6 => k_is); (case k7 => k_is); (case k8 => ktr_room); (case k9 => (refine' kp_binds ?kx ?ke; (case kx => k_in); (case ke => exact fun _ => rfl))); (case c5 => decide); (case kB => exact locs rfl); (case c2 => exact rfl); (case c3 => exact rfl); (case c4 => exact rfl); k_whole; intro g' L' h' FG' F' N' B' X' T'; (try dsimp only); (try k_lift B'); (try k_fold))
  (k_with "exec While Compare cons nil" => k_while (fun xs lo hi => (0 ≤ lo ∧ lo ≤ hi ∧ hi ≤ xs.length) ∧ BisRInv xs x lo hi) (fun xs lo hi => (hi - lo).toNat) "lo" "hi")
  (k_with "state" => first
    | exact ⟨⟨by omega, by omega, by omega⟩, BisRInv.start _ _⟩
    | exact (fun q => ⟨⟨q.1, q.2.1, q.2.2.1⟩, q⟩) (BisRInv.left (by assumption) (by assumption) (by assumption))
    | exact (fun q => ⟨⟨q.1, q.2.1, q.2.2.1⟩, q⟩) (BisRInv.right (by assumption) (by assumption) (by assumption)))
  (k_with "measure" => first | exact mid_less1 (by assumption) | exact mid_less2 (by assumption))
  k_steps
  all_goals exact cb_retI hret (BisRInv.stop (by assumption) (by assumption)) (by k_asm) (news_tail (by k_asm))
set_option maxRecDepth 100000 in
set_option maxHeartbeats 8000000 in
theorem bisR4_tells {l : Addr} {vs : List Value} {ns : List Int} {n : Nat} {x : Int} {tx t0 : Tok} (B : Below A₀ base outer h₀) (F : Fr h₀ L s.heap m) (X : (Mine.hd.heap_39 w.params).In h₀) (T : Top topProg LOOSE mean mg mb h₀) (hk : cs.kind = .function) (N : News h₀ L s.heap news) (hl : (l, listOf vs.toArray n) ∈ news) (hi : IntsAre vs ns) (hfit : ns.length < 2 ^ 62) (hd : dp + 1 < recursionLimit) (hu : un + 8 < cLine)
    (hret : ∀ t h' tk', Fr h₀ L h' m → News h₀ L h' news → Q (.int (bisR ns x) t) { s with heap := h', toks := tk' }) :
    wpAny (model PySem.Challenge.rw_pg0203_01.row.prog w) (ktrTop dp un gd cn cs L a ccd cl outer) (call (.ref 32) [.ref l, .int x tx, .int 0 t0, .none]) Q E s := by
  revert X; k_fill; intro X
  replace N := news_dup N hl
  k_dflt (refine wpAny_call ?_; refine' code_def (binds := [(Str.ofString "a", .ref l), (Str.ofString "x", .int x tx), (Str.ofString "lo", .int 0 t0), (Str.ofString "hi", .none), (Str.ofString "key", .none)]) ?k1 ?k2 ?k3 ?k4 ?k5 ?kA ?kF ?kK ?k6 ?k7 ?k8 ?k9 ?kB ?_ ?c2 ?c3 ?c4 ?c5; (case kA => exact rfl); (case kF => exact rfl); (case kK => assumption); (case k1 => k_asm); (case k2 => k_asm); (case k3 => k_asm); (case k4 => k_asm); (case k5 => k_asm); (case k6 => k_is); (case k7 => k_is); (case k8 => ktr_room); (case k9 => (refine' kp_binds ?kx ?ke; (case kx => k_in); (case ke => exact fun _ => rfl))); (case c5 => decide); (case kB => exact locs rfl); (case c2 => exact rfl); (case c3 => exact rfl); (case c4 => exact rfl); k_whole; intro g' L' h' FG' F' N' B' X' T'; (try dsimp only); (try k_lift B'); (try k_fold))
  (k_with "exec While Compare cons nil" => k_while (fun xs lo hi => (0 ≤ lo ∧ lo ≤ hi ∧ hi ≤ xs.length) ∧ BisRInv xs x lo hi) (fun xs lo hi => (hi - lo).toNat) "lo" "hi")
  (k_with "state" => first
    | exact ⟨⟨by omega, by omega, by omega⟩, BisRInv.start _ _⟩
    | exact (fun q => ⟨⟨q.1, q.2.1, q.2.2.1⟩, q⟩) (BisRInv.left (by assumption) (by assumption) (by assumption))
    | exact (fun q => ⟨⟨q.1, q.2.1, q.2.2.1⟩, q⟩) (BisRInv.right (by assumption) (by assumption) (by assumption)))
  (k_with "measure" => first | exact mid_less1 (by assumption) | exact mid_less2 (by assumption))
  k_steps
  all_goals exact cb_retI hret (BisRInv.stop (by assumption) (by assumption)) (by k_asm) (news_tail (by k_asm))
end
end Mine
end
section
theorem Mine.off_C2 : True := by
  w_top off
  (try walk1)
  k_with_none
  (k_with "lt" => (with_reducible first | assumption | ((fail_if_success (fail_if_success (refine' Mine.guardLt ?qg ?qh; (case qg => assumption)))); first | (refine' And.left ?qx; case qx => first | assumption | (refine' And.right ?qx; case qx => first | assumption | (refine' And.right ?qx; case qx => first | assumption | (refine' And.right ?qx; case qx => first | assumption | (refine' And.right ?qx; case qx => first | assumption | (refine' And.right ?qx; case qx => first | assumption | (refine' And.right ?qx; case qx => first | assumption | (refine' And.right ?qx; case qx => first | assumption | (refine' And.right ?qx; case qx => first | assumption | (refine' And.right ?qx; case qx => first | assumption | (refine' And.right ?qx; case qx => first | assumption | (refine' And.right ?qx; case qx => first | assumption | (refine' And.right ?qx; case qx => first | assumption | (refine' And.right ?qx; case qx => first | assumption | (refine' And.right ?qx; case qx => first | assumption | (refine' And.right ?qx; case qx => first | assumption | (refine' And.right ?qx; case qx => first | assumption | (refine' And.right ?qx; case qx => first | assumption | (refine' And.right ?qx; case qx => first | assumption | (refine' And.right ?qx; case qx => first | assumption | (refine' And.right ?qx; case qx => assumption))))))))))))))))))))) | (refine' And.right ?qx; case qx => first | assumption | (refine' And.right ?qx; case qx => first | assumption | (refine' And.right ?qx; case qx => first | assumption | (refine' And.right ?qx; case qx => first | assumption | (refine' And.right ?qx; case qx => first | assumption | (refine' And.right ?qx; case qx => first | assumption | (refine' And.right ?qx; case qx => first | assumption | (refine' And.right ?qx; case qx => first | assumption | (refine' And.right ?qx; case qx => first | assumption | (refine' And.right ?qx; case qx => first | assumption | (refine' And.right ?qx; case qx => first | assumption | (refine' And.right ?qx; case qx => first | assumption | (refine' And.right ?qx; case qx => first | assumption | (refine' And.right ?qx; case qx => first | assumption | (refine' And.right ?qx; case qx => first | assumption | (refine' And.right ?qx; case qx => first | assumption | (refine' And.right ?qx; case qx => first | assumption | (refine' And.right ?qx; case qx => first | assumption | (refine' And.right ?qx; case qx => first | assumption | (refine' And.right ?qx; case qx => first | assumption | (refine' And.right ?qx; case qx => assumption)))))))))))))))))))))) | (refine Nat.lt_trans ?_ (by assumption); k_extra "lt")))
  (k_with "omega" => (first | (with_reducible assumption) | (with_reducible exact Ne.symm (by assumption)) | (with_reducible refine Nat.ne_of_lt ?_; k_extra "lt") | (with_reducible refine Nat.ne_of_gt ?_; k_extra "lt") | ((with_reducible refine' Mine.room ?qx ?qy); (case qx => with_reducible assumption); (case qy => exact rfl)) | ((with_reducible refine' Mine.room2 ?qx ?qy); (case qx => with_reducible assumption); (case qy => exact rfl)) | ((with_reducible refine' Mine.room0 ?qx); (case qx => with_reducible assumption)) | (with_reducible refine Mine.isLt ?_; k_extra "lt")))
  trivial
open PySem PySem.W PyProof.Rows PySem.Calls PySem.Spec
namespace Mine
/-- bisect_left's search, by halves; fuel: the places left -/
noncomputable def bisLGo (xs : List Int) (x : Int) : Nat → Int → Int → Int
  | 0, lo, _ => lo
  | f + 1, lo, hi => if lo < hi then (if xs.getD ((lo + hi).fdiv 2).toNat 0 < x then bisLGo xs x f ((lo + hi).fdiv 2 + 1) hi else bisLGo xs x f lo ((lo + hi).fdiv 2)) else lo
noncomputable def bisL (xs : List Int) (x : Int) : Int := bisLGo xs x xs.length 0 xs.length
theorem bisLGo_fuel (xs : List Int) (x : Int) : ∀ (f g : Nat) (lo hi : Int), hi - lo ≤ f → hi - lo ≤ g → bisLGo xs x f lo hi = bisLGo xs x g lo hi := by
  intro f
  induction f with
  | zero =>
    intro g lo hi h1 _
    cases g with
    | zero => rfl
    | succ g => simp only [bisLGo]; rw [if_neg (by lia)]
  | succ f ih =>
    intro g lo hi h1 h2
    cases g with
    | zero => simp only [bisLGo]; rw [if_neg (by lia)]
    | succ g =>
      simp only [bisLGo]
      by_cases h : lo < hi
      · rw [if_pos h, if_pos h]
        have e : (lo + hi).fdiv 2 = (lo + hi) / 2 := Int.fdiv_eq_ediv_of_nonneg _ (by decide)
        rw [e]
        rw [ih g lo ((lo + hi) / 2) (by lia) (by lia), ih g ((lo + hi) / 2 + 1) hi (by lia) (by lia)]
      · rw [if_neg h, if_neg h]
noncomputable def BisLInv (xs : List Int) (x lo hi : Int) : Prop := 0 ≤ lo ∧ lo ≤ hi ∧ hi ≤ xs.length ∧ bisLGo xs x (hi - lo).toNat lo hi = bisL xs x
theorem BisLInv.start (xs : List Int) (x : Int) : BisLInv xs x 0 xs.length := ⟨by lia, by lia, by lia, by simp [bisL]⟩
theorem BisLInv.stop {xs : List Int} {x lo hi : Int} (h : ¬ lo < hi) (e : BisLInv xs x lo hi) : lo = bisL xs x := by
  rw [← e.2.2.2]
  have : (hi - lo).toNat = 0 := by lia
  rw [this]; rfl
theorem BisLInv.left {xs : List Int} {x lo hi : Int} (h : lo < hi) (e : BisLInv xs x lo hi) (hx : ¬ xs.getD ((lo + hi).fdiv 2).toNat 0 < x) :
    BisLInv xs x lo ((lo + hi).fdiv 2) := by
  obtain ⟨e1, e2, e3, e⟩ := e
  have q := mid_eq lo hi
  refine ⟨e1, by rw [q]; lia, by rw [q]; lia, ?_⟩
  rw [← e]
  obtain ⟨f, hf⟩ : ∃ f, (hi - lo).toNat = f + 1 := ⟨(hi - lo).toNat - 1, by lia⟩
  rw [hf]; simp only [bisLGo]; rw [if_pos h, if_neg hx]
  exact bisLGo_fuel _ _ _ _ _ _ (by rw [q]; lia) (by rw [q]; lia)
theorem BisLInv.right {xs : List Int} {x lo hi : Int} (h : lo < hi) (e : BisLInv xs x lo hi) (hx : xs.getD ((lo + hi).fdiv 2).toNat 0 < x) :
    BisLInv xs x ((lo + hi).fdiv 2 + 1) hi := by
  obtain ⟨e1, e2, e3, e⟩ := e
  have q := mid_eq lo hi
  refine ⟨by rw [q]; lia, by rw [q]; lia, e3, ?_⟩
  rw [← e]
  obtain ⟨f, hf⟩ : ∃ f, (hi - lo).toNat = f + 1 := ⟨(hi - lo).toNat - 1, by lia⟩
  rw [hf]; simp only [bisLGo]; rw [if_pos h, if_pos hx]
  exact bisLGo_fuel _ _ _ _ _ _ (by rw [q]; lia) (by rw [q]; lia)
theorem bisLGo_bounds (xs : List Int) (x : Int) : ∀ (f : Nat) (lo hi : Int), lo ≤ hi → lo ≤ bisLGo xs x f lo hi ∧ bisLGo xs x f lo hi ≤ hi := by
  intro f
  induction f with
  | zero => intro lo hi h; exact ⟨Int.le_refl _, h⟩
  | succ f ih =>
    intro lo hi h
    simp only [bisLGo]
    have e := mid_eq lo hi
    split
    · split
      · have := ih ((lo + hi).fdiv 2 + 1) hi (by rw [e]; lia)
        rw [e] at this ⊢; lia
      · have := ih lo ((lo + hi).fdiv 2) (by rw [e]; lia)
        rw [e] at this ⊢; lia
    · lia
theorem bisL_bounds (xs : List Int) (x : Int) : 0 ≤ bisL xs x ∧ bisL xs x ≤ xs.length := bisLGo_bounds xs x _ _ _ (by lia)
section
variable {w : World} {mean : ExcName → Option Value} {mg mb : Str → Option Value} {dp un : Nat} {gd : Option (List Code)} {cn : Str} {cs : Scope} {a : Addr} {ccd : Value} {cl : List (Str × Addr)} {outer : List Env} {A₀ : Around} {base h₀ : Heap} {L : Addr} {m : Str → Option Value} {news : List (Addr × Obj)} {s : Shared} {Q E : Value → Shared → Prop}
set_option maxRecDepth 100000 in
set_option maxHeartbeats 8000000 in
theorem bisL_tells {l : Addr} {vs : List Value} {ns : List Int} {n : Nat} {x : Int} {tx : Tok} (B : Below A₀ base outer h₀) (F : Fr h₀ L s.heap m) (X : (Mine.hd.heap_39 w.params).In h₀) (T : Top topProg LOOSE mean mg mb h₀) (hk : cs.kind = .function) (N : News h₀ L s.heap news) (hl : (l, listOf vs.toArray n) ∈ news) (hi : IntsAre vs ns) (hfit : ns.length < 2 ^ 62) (hd : dp + 1 < recursionLimit) (hu : un + 8 < cLine)
    (hret : ∀ t h' tk', Fr h₀ L h' m → News h₀ L h' news → Q (.int (bisL ns x) t) { s with heap := h', toks := tk' }) :
    wpAny (model PySem.Challenge.rw_pg0203_01.row.prog w) (ktrTop dp un gd cn cs L a ccd cl outer) (call (.ref 41) [.ref l, .int x tx]) Q E s := by
  revert X; k_fill; intro X
  replace N := news_dup N hl
  k_dflt (refine wpAny_call ?_; refine' code_def (binds := [(Str.ofString "a", .ref l), (Str.ofString "x", .int x tx), (Str.ofString "lo", .int 0 216), (Str.ofString "hi", .none), (Str.ofString "key", .none)]) ?k1 ?k2 ?k3 ?k4 ?k5 ?kA ?kF ?kK ?k6 ?k7 ?k8 ?k9 ?kB ?_ ?c2 ?c3 ?c4 ?c5; (case kA => exact rfl); (case kF => exact rfl); (case kK => assumption); (case k1 => k_asm); (case k2 => k_asm); (case k3 => k_asm); (case k4 => k_asm); (case k5 => k_asm); (case k6 => k_is); (case k7 => k_is); (case k8 => ktr_room); (case k9 => (refine' kp_binds ?kx ?ke; (case kx => k_in); (case ke => exact fun _ => rfl))); (case c5 => decide); (case kB => exact locs rfl); (case c2 => exact rfl); (case c3 => exact rfl); (case c4 => exact rfl); k_whole; intro g' L' h' FG' F' N' B' X' T'; (try dsimp only); (try k_lift B'); (try k_fold))
  (k_with "exec While Compare cons nil" => k_while (fun xs lo hi => (0 ≤ lo ∧ lo ≤ hi ∧ hi ≤ xs.length) ∧ BisLInv xs x lo hi) (fun xs lo hi => (hi - lo).toNat) "lo" "hi")
  (k_with "state" => first
    | exact ⟨⟨by omega, by omega, by omega⟩, BisLInv.start _ _⟩
    | exact (fun q => ⟨⟨q.1, q.2.1, q.2.2.1⟩, q⟩) (BisLInv.left (by assumption) (by assumption) (by assumption))
    | exact (fun q => ⟨⟨q.1, q.2.1, q.2.2.1⟩, q⟩) (BisLInv.right (by assumption) (by assumption) (by assumption)))
  (k_with "measure" => first | exact mid_less1 (by assumption) | exact mid_less2 (by assumption))
  k_steps
  all_goals exact cb_retI hret (BisLInv.stop (by assumption) (by assumption)) (by k_asm) (news_tail (by k_asm))
end
end Mine
end
section
theorem Mine.off_C3 : True := by
  w_top off
  (try walk1)
  k_with_none
  (k_with "lt" => (with_reducible first | assumption | ((fail_if_success (fail_if_success (refine' Mine.guardLt ?qg ?qh; (case qg => assumption)))); first | (refine' And.left ?qx; case qx => first | assumption | (refine' And.right ?qx; case qx => first | assumption | (refine' And.right ?qx; case qx => first | assumption | (refine' And.right ?qx; case qx => first | assumption | (refine' And.right ?qx; case qx => first | assumption | (refine' And.right ?qx; case qx => first | assumption | (refine' And.right ?qx; case qx => first | assumption | (refine' And.right ?qx; case qx => first | assumption | (refine' And.right ?qx; case qx => first | assumption | (refine' And.right ?qx; case qx => first | assumption | (refine' And.right ?qx; case qx => first | assumption | (refine' And.right ?qx; case qx => first | assumption | (refine' And.right ?qx; case qx => first | assumption | (refine' And.right ?qx; case qx => first | assumption | (refine' And.right ?qx; case qx => first | assumption | (refine' And.right ?qx; case qx => first | assumption | (refine' And.right ?qx; case qx => first | assumption | (refine' And.right ?qx; case qx => first | assumption | (refine' And.right ?qx; case qx => first | assumption | (refine' And.right ?qx; case qx => first | assumption | (refine' And.right ?qx; case qx => assumption))))))))))))))))))))) | (refine' And.right ?qx; case qx => first | assumption | (refine' And.right ?qx; case qx => first | assumption | (refine' And.right ?qx; case qx => first | assumption | (refine' And.right ?qx; case qx => first | assumption | (refine' And.right ?qx; case qx => first | assumption | (refine' And.right ?qx; case qx => first | assumption | (refine' And.right ?qx; case qx => first | assumption | (refine' And.right ?qx; case qx => first | assumption | (refine' And.right ?qx; case qx => first | assumption | (refine' And.right ?qx; case qx => first | assumption | (refine' And.right ?qx; case qx => first | assumption | (refine' And.right ?qx; case qx => first | assumption | (refine' And.right ?qx; case qx => first | assumption | (refine' And.right ?qx; case qx => first | assumption | (refine' And.right ?qx; case qx => first | assumption | (refine' And.right ?qx; case qx => first | assumption | (refine' And.right ?qx; case qx => first | assumption | (refine' And.right ?qx; case qx => first | assumption | (refine' And.right ?qx; case qx => first | assumption | (refine' And.right ?qx; case qx => first | assumption | (refine' And.right ?qx; case qx => assumption)))))))))))))))))))))) | (refine Nat.lt_trans ?_ (by assumption); k_extra "lt")))
  (k_with "omega" => (first | (with_reducible assumption) | (with_reducible exact Ne.symm (by assumption)) | (with_reducible refine Nat.ne_of_lt ?_; k_extra "lt") | (with_reducible refine Nat.ne_of_gt ?_; k_extra "lt") | ((with_reducible refine' Mine.room ?qx ?qy); (case qx => with_reducible assumption); (case qy => exact rfl)) | ((with_reducible refine' Mine.room2 ?qx ?qy); (case qx => with_reducible assumption); (case qy => exact rfl)) | ((with_reducible refine' Mine.room0 ?qx); (case qx => with_reducible assumption)) | (with_reducible refine Mine.isLt ?_; k_extra "lt")))
  trivial
open PySem PySem.W PyProof.Rows PySem.Calls PySem.Spec
namespace Mine
noncomputable def insAt (xs : List Int) (k : Int) (x : Int) : List Int := xs.take k.toNat ++ x :: xs.drop k.toNat
noncomputable def insR (xs : List Int) (x : Int) : List Int := insAt xs (bisR xs x) x
theorem bisRGo_bounds (xs : List Int) (x : Int) : ∀ (f : Nat) (lo hi : Int), lo ≤ hi → lo ≤ bisRGo xs x f lo hi ∧ bisRGo xs x f lo hi ≤ hi := by
  intro f
  induction f with
  | zero => intro lo hi h; exact ⟨Int.le_refl _, h⟩
  | succ f ih =>
    intro lo hi h
    simp only [bisRGo]
    have e := mid_eq lo hi
    split
    · split
      · have := ih lo ((lo + hi).fdiv 2) (by rw [e]; lia)
        rw [e] at this ⊢; lia
      · have := ih ((lo + hi).fdiv 2 + 1) hi (by rw [e]; lia)
        rw [e] at this ⊢; lia
    · lia
theorem bisR_bounds (xs : List Int) (x : Int) : 0 ≤ bisR xs x ∧ bisR xs x ≤ xs.length := bisRGo_bounds xs x _ _ _ (by lia)
theorem kl_ins_ints {vs : List Value} {ns : List Int} (h : IntsAre vs ns) {k : Int} (h0 : 0 ≤ k) (h1 : k ≤ ns.length) (x : Int) (tx : Tok) : IntsAre (kl_ins vs k (.int x tx)) (insAt ns k x) := by
  have hl := h.length
  have e : (if k < 0 then (k + (vs.length : Int)).toNat else min k.toNat vs.length) = k.toNat := by rw [if_neg (by lia)]; lia
  unfold kl_ins insAt
  rw [e]
  exact (h.take _).append (.cons _ _ (h.drop _))
theorem insAt_length (xs : List Int) (k x : Int) : (insAt xs k x).length = xs.length + 1 := by
  unfold insAt; rw [List.length_append, List.length_cons, List.length_take, List.length_drop]; lia
theorem insR_length (xs : List Int) (x : Int) : (insR xs x).length = xs.length + 1 := insAt_length _ _ _
theorem fits_index {k : Int} {n : Nat} (h0 : 0 ≤ k) (h1 : k ≤ n) (hn : n < 2 ^ 62) : Builtin.List.listFitsIndex k = true := by
  simp only [Builtin.List.listFitsIndex, Bool.and_eq_true, decide_eq_true_eq]; lia
section
variable {w : World} {mean : ExcName → Option Value} {mg mb : Str → Option Value} {dp un : Nat} {gd : Option (List Code)} {cn : Str} {cs : Scope} {a : Addr} {ccd : Value} {cl : List (Str × Addr)} {outer : List Env} {A₀ : Around} {base h₀ : Heap} {L : Addr} {m : Str → Option Value} {news : List (Addr × Obj)} {s : Shared} {Q E : Value → Shared → Prop}
theorem insert_ends {g : Obj → List (Addr × Obj)} {l : Addr} {pre post : List (Addr × Obj)} {h' : Heap} {o : Obj} (hg : ∀ o', g o' = pre ++ (l, o') :: post) (N : News h₀ L h' ((l, o) :: (pre ++ post))) : News h₀ L h' (g o) := hg o ▸ news_back N
set_option maxRecDepth 100000 in
set_option maxHeartbeats 8000000 in
theorem insR_tells {l : Addr} {g : Obj → List (Addr × Obj)} {vs : List Value} {ns : List Int} {n : Nat} {x : Int} {tx : Tok} (B : Below A₀ base outer h₀) (F : Fr h₀ L s.heap m) (X : (Mine.hd.heap_39 w.params).In h₀) (T : Top topProg LOOSE mean mg mb h₀) (hk : cs.kind = .function) (N : News h₀ L s.heap news) (U : UpdF l (listOf vs.toArray n) news g) (hi : IntsAre vs ns) (hfit : ns.length < 2 ^ 20) (hd : dp + 2 < recursionLimit) (hu : un + 16 < cLine)
    (hret : ∀ vs' n' h' tk', Fr h₀ L h' m → News h₀ L h' (g (listOf vs'.toArray n')) → IntsAre vs' (insR ns x) → Q .none { s with heap := h', toks := tk' }) :
    wpAny (model PySem.Challenge.rw_pg0203_01.row.prog w) (ktrTop dp un gd cn cs L a ccd cl outer) (call (.ref 23) [.ref l, .int x tx]) Q E s := by
  revert X; k_fill; intro X
  (k_with "call ref" => (k_dflt (refine' bisR4_tells ?zzk1 ?zzk2 ?zzk3 ?zzk5 ?zzkK ?zzkN ?zzkl ?zzki ?zzkt ?zzkd ?zzku ?_; (case zzk1 => k_asm); (case zzk2 => k_asm); (case zzk3 => k_asm); (case zzk5 => k_asm); (case zzkK => first | exact rfl | assumption); (case zzkN => k_asm); (case zzkl => k_mem); (case zzki => k_asm); (case zzkt => assumption); (case zzkd => ktr_room); (case zzku => ktr_units); k_whole); intro t9 h9 tk9 F9 N9; (try dsimp only); (try k_fold)))
  (k_with "call builtin:list.insert" => (k_here; k_dflt (refine' kl_insert ?zzF ?zzN ?zzf rfl ?zzU ?zzz ?_; (case zzF => k_asm); (case zzN => k_asm); (case zzU => exact Upd.head (by assumption)); (case zzf => exact fits_index (bisR_bounds _ _).1 (bisR_bounds _ _).2 (by assumption)); (case zzz => (have hLen9 := IntsAre.length (by assumption)); rw [sizeLine_eq]; simp only [List.size_toArray, Array.length_toList]; omega)); intro h' F' N'))
  obtain ⟨pre, post, rfl, hg, ha, hb⟩ := U.split
  have hne := apart_both ha hb
  clear U ha hb
  replace N := news_front N
  have hf62 : ns.length < 2 ^ 62 := by omega
  k_dflt (refine wpAny_call ?_; refine' code_def (binds := [(Str.ofString "a", .ref l), (Str.ofString "x", .int x tx), (Str.ofString "lo", .int 0 189), (Str.ofString "hi", .none), (Str.ofString "key", .none)]) ?k1 ?k2 ?k3 ?k4 ?k5 ?kA ?kF ?kK ?k6 ?k7 ?k8 ?k9 ?kB ?_ ?c2 ?c3 ?c4 ?c5; (case kA => exact rfl); (case kF => exact rfl); (case kK => assumption); (case k1 => k_asm); (case k2 => k_asm); (case k3 => k_asm); (case k4 => k_asm); (case k5 => k_asm); (case k6 => k_is); (case k7 => k_is); (case k8 => ktr_room); (case k9 => (refine' kp_binds ?kx ?ke; (case kx => k_in); (case ke => exact fun _ => rfl))); (case c5 => decide); (case kB => exact locs rfl); (case c2 => exact rfl); (case c3 => exact rfl); (case c4 => exact rfl); k_whole; intro g' L' h' FG' F' N' B' X' T'; (try dsimp only); (try k_lift B'); (try k_fold))
  k_steps
  all_goals exact hret _ _ _ _ (by k_asm) (insert_ends hg (by k_asm)) (kl_ins_ints (by assumption) (bisR_bounds _ _).1 (bisR_bounds _ _).2 _ _)
end
end Mine
end
section
theorem Mine.off_C4 : True := by
  w_top off
  (try walk1)
  k_with_none
  (k_with "lt" => (with_reducible first | assumption | ((fail_if_success (fail_if_success (refine' Mine.guardLt ?qg ?qh; (case qg => assumption)))); first | (refine' And.left ?qx; case qx => first | assumption | (refine' And.right ?qx; case qx => first | assumption | (refine' And.right ?qx; case qx => first | assumption | (refine' And.right ?qx; case qx => first | assumption | (refine' And.right ?qx; case qx => first | assumption | (refine' And.right ?qx; case qx => first | assumption | (refine' And.right ?qx; case qx => first | assumption | (refine' And.right ?qx; case qx => first | assumption | (refine' And.right ?qx; case qx => first | assumption | (refine' And.right ?qx; case qx => first | assumption | (refine' And.right ?qx; case qx => first | assumption | (refine' And.right ?qx; case qx => first | assumption | (refine' And.right ?qx; case qx => first | assumption | (refine' And.right ?qx; case qx => first | assumption | (refine' And.right ?qx; case qx => first | assumption | (refine' And.right ?qx; case qx => first | assumption | (refine' And.right ?qx; case qx => first | assumption | (refine' And.right ?qx; case qx => first | assumption | (refine' And.right ?qx; case qx => first | assumption | (refine' And.right ?qx; case qx => first | assumption | (refine' And.right ?qx; case qx => assumption))))))))))))))))))))) | (refine' And.right ?qx; case qx => first | assumption | (refine' And.right ?qx; case qx => first | assumption | (refine' And.right ?qx; case qx => first | assumption | (refine' And.right ?qx; case qx => first | assumption | (refine' And.right ?qx; case qx => first | assumption | (refine' And.right ?qx; case qx => first | assumption | (refine' And.right ?qx; case qx => first | assumption | (refine' And.right ?qx; case qx => first | assumption | (refine' And.right ?qx; case qx => first | assumption | (refine' And.right ?qx; case qx => first | assumption | (refine' And.right ?qx; case qx => first | assumption | (refine' And.right ?qx; case qx => first | assumption | (refine' And.right ?qx; case qx => first | assumption | (refine' And.right ?qx; case qx => first | assumption | (refine' And.right ?qx; case qx => first | assumption | (refine' And.right ?qx; case qx => first | assumption | (refine' And.right ?qx; case qx => first | assumption | (refine' And.right ?qx; case qx => first | assumption | (refine' And.right ?qx; case qx => first | assumption | (refine' And.right ?qx; case qx => first | assumption | (refine' And.right ?qx; case qx => assumption)))))))))))))))))))))) | (refine Nat.lt_trans ?_ (by assumption); k_extra "lt")))
  (k_with "omega" => (first | (with_reducible assumption) | (with_reducible exact Ne.symm (by assumption)) | (with_reducible refine Nat.ne_of_lt ?_; k_extra "lt") | (with_reducible refine Nat.ne_of_gt ?_; k_extra "lt") | ((with_reducible refine' Mine.room ?qx ?qy); (case qx => with_reducible assumption); (case qy => exact rfl)) | ((with_reducible refine' Mine.room2 ?qx ?qy); (case qx => with_reducible assumption); (case qy => exact rfl)) | ((with_reducible refine' Mine.room0 ?qx); (case qx => with_reducible assumption)) | (with_reducible refine Mine.isLt ?_; k_extra "lt")))
  trivial
open PySem PySem.W PyProof.Rows PySem.Calls PySem.Spec
namespace Mine
theorem seqIndex_in {i : Int} {n : Nat} (h0 : 0 ≤ i) (h1 : i < n) : seqIndex? i n = some i.toNat := by
  unfold seqIndex?
  simp only [show ¬ i < 0 by lia, if_false]
  rw [if_pos (by simp only [Bool.and_eq_true, decide_eq_true_eq]; lia)]
theorem cut_ints : ∀ {vs : List Value} {ns : List Int}, IntsAre vs ns → ∀ k : Nat, k < ns.length → ∃ t, kl_cut vs k = some (vs.take k, .int (ns.getD k 0) t, vs.drop (k + 1))
  | _, _, .nil, k, h => absurd h (Nat.not_lt_zero _)
  | _, _, .cons a t r, 0, _ => ⟨t, rfl⟩
  | _, _, .cons a t r, k + 1, h => by
    obtain ⟨u, e⟩ := cut_ints r k (Nat.lt_of_succ_lt_succ h)
    refine ⟨u, ?_⟩
    simp only [kl_cut, e]
    rfl
noncomputable def popAt (ns : List Int) (k : Int) : List Int := ns.take k.toNat ++ ns.drop (k.toNat + 1)
/-- xs[k : k + 1] = [x] -/
noncomputable def setCut (ns : List Int) (k x : Int) : List Int := ns.take k.toNat ++ x :: ns.drop (k.toNat + 1)
/-- no longer than k -/
noncomputable def Short (k : Nat) (xs : List Int) : Prop := xs.length ≤ k
theorem short_nil {k : Nat} : Short k [] := Nat.zero_le k
theorem short_cons {k : Nat} {xs : List Int} {x : Int} (h : Short k xs) : Short (k + 1) (x :: xs) := Nat.succ_le_succ h
theorem short_insR {k : Nat} {xs : List Int} {x : Int} (h : Short k xs) : Short (k + 1) (insR xs x) := by unfold Short at *; rw [insR_length]; lia
theorem short_pop {k : Nat} {xs : List Int} {x : Int} (h : Short k xs) : Short k (popAt xs x) := by
  unfold Short popAt at *; rw [List.length_append, List.length_take, List.length_drop]; lia
theorem short_cut {k : Nat} {xs : List Int} {i x : Int} (h : Short k xs) : Short (k + 1) (setCut xs i x) := by
  unfold Short setCut at *; rw [List.length_append, List.length_cons, List.length_take, List.length_drop]; lia
theorem short_mono {k n : Nat} {xs : List Int} (h : Short k xs) (hk : k ≤ n) : Short n xs := Nat.le_trans h hk
theorem short_lt {k n : Nat} {xs : List Int} (h : Short k xs) (hk : k < n) : xs.length < n := Nat.lt_of_le_of_lt h hk
section
variable {prog : Program} {w : World} {A : Around} {E : Value → Shared → Prop} {s : Shared} {h₀ h : Heap} {L D : Addr} {m : Str → Option Value} {news : List (Addr × Obj)} {n : Nat}
theorem updF_upd {d : Addr} {o o' : Obj} {g : Obj → List (Addr × Obj)} (U : UpdF d o news g) : Upd d o o' news (g o') := by
  induction U with
  | head h => exact .head h
  | tail h _ ih => exact .tail h ih
theorem pop_ints {g : Obj → List (Addr × Obj)} {vs : List Value} {ns : List Int} {i : Int} {u : Tok} {Q : Value → Shared → Prop} (F : Fr h₀ L s.heap m) (N : News h₀ L s.heap news) (U : UpdF D (listOf vs.toArray n) news g) (hi : IntsAre vs ns)
    (h0 : 0 ≤ i) (h1 : i < ns.length) (hfit : ns.length < 2 ^ 20)
    (h : ∀ h' vs' t, Fr h₀ L h' m → News h₀ L h' (g (listOf vs'.toArray (n + 1))) → IntsAre vs' (popAt ns i) → Q (.int (ns.getD i.toNat 0) t) { s with heap := h' }) :
    wpAny (model prog w) A (call (.builtin "list.pop") [.ref D, .int i u]) Q E s := by
  have hl := hi.length
  obtain ⟨t, e⟩ := cut_ints hi i.toNat (by omega)
  refine kl_popAt F N (its := vs.toArray) (k := i.toNat) ?_ ?_ (by simpa using e) (updF_upd U) ?_ (fun h' F' N' => h h' _ t F' N' ?_)
  · simp only [Builtin.List.listFitsIndex, Bool.and_eq_true, decide_eq_true_eq]; omega
  · exact seqIndex_in h0 (by rw [List.size_toArray]; omega)
  · rw [sizeLine_eq]; simp; omega
  · exact (hi.take _).append (hi.drop _)
theorem len_made {vs : List Value} {ns : List Int} {Q : Value → Shared → Prop} (N : News h₀ L s.heap news) (hm : (D, listOf vs.toArray n) ∈ news) (hi : IntsAre vs ns) (hfit : ns.length < 2 ^ 20)
    (h : Q (.int ns.length (s.toks + 1)) { s with toks := s.toks + 1 + 1 }) : wpAny (model prog w) A (call (.builtin "len") [.ref D]) Q E s := by
  have hl := hi.length
  have e : (vs.toArray.size : Int) = ns.length := by rw [List.size_toArray, hl]
  exact len_list (N.isList hm) (by rw [e]; omega) (by rw [e]; exact h)
theorem append_ints {g : Obj → List (Addr × Obj)} {vs : List Value} {ns : List Int} {x : Int} {tx : Tok} {Q : Value → Shared → Prop} (F : Fr h₀ L s.heap m) (N : News h₀ L s.heap news) (U : UpdF D (listOf vs.toArray n) news g) (hi : IntsAre vs ns) (hfit : ns.length < 2 ^ 20)
    (h : ∀ h' vs' n', Fr h₀ L h' m → News h₀ L h' (g (listOf vs'.toArray n')) → IntsAre vs' (ns ++ [x]) → Q .none { s with heap := h' }) :
    wpAny (model prog w) A (call (.builtin "list.append") [.ref D, .int x tx]) Q E s := by
  have hl := hi.length
  refine append_K (its := vs.toArray) F N (updF_upd U) (fun h' F' N' => h h' (vs ++ [.int x tx]) (n + 1) F' ?_ (hi.append (.cons _ _ .nil))) (by rw [sizeLine_eq, List.size_toArray]; omega)
  rw [← List.push_toArray]
  exact N'
theorem letGo_ints (vs : List Value) {Q : Unit → Shared → Prop} (hq : Q () s) : wpAny (model prog w) A (letGo vs) Q E s := by
  induction vs with
  | nil => exact wpAny_pure hq
  | cons v r ih =>
    unfold letGo
    exact wpAny_bind (wpAny_holding (wpAny_point ih))
theorem cut_room {x y : Int} {n m M : Nat} (h : n + m ≤ M) : min x.toNat n - 0 + m + (min n n - (max x y).toNat) ≤ M := by lia
theorem setItem_slice {l sl v : Addr} {items new : Array Value} {vl vu vs : Value} {lo hi : Option Int} {Q : Unit → Shared → Prop} (hl : s.heap.IsList l items)
    (hs : s.heap.IsSliceOf sl vl vu vs) (pl : IsPart vl lo) (pu : IsPart vu hi) (ps : IsPart vs none) (hv : s.heap.IsList v new) (hne : l ≠ v)
    (hsz : items.size + new.size ≤ sizeLine)
    (h : Q () { s with heap := s.heap.update l (Obj.mapSeq fun xs => xs.extract 0 (sliceBounds lo hi none items.size).1.toNat ++ new ++ xs.extract (max (sliceBounds lo hi none items.size).1 (sliceBounds lo hi none items.size).2.1).toNat xs.size) }) :
    wpAny (model prog w) A (setItem (.ref l) (.ref sl) (.ref v)) Q E s := by
  obtain ⟨o, ho, hc, ne, hd⟩ := id hl
  obtain ⟨os, hos, hcs, hds⟩ := id hs
  obtain ⟨ov, hov, hcv, nv, hdv⟩ := id hv
  have hTs : s.TypeIs (.ref sl) "slice" := ⟨os, hos, hcs⟩
  unfold setItem
  try with_reducible refine wpAny_holding ?_
  first | refine wpAny_bind (wpAny_pure ?_) | skip
  refine wpAny_bind (wpAny_sequenceKey hl.typeIs (by decide) ?_)
  refine wpAny_bind (wpAny_callSpecial?_slot (name := Str.ofString "__setitem__") hl.typeIs slot_list_setitem
    (wpAny_call_entry slot_list_setitem hl.typeIs entry_list_setitem ?_ (args_list_setitem _ _ _)))
  show wpAny _ _ (Builtin.List.listSubscript? (.ref sl) >>= _) _ _ s
  refine wpAny_bind ?_
  unfold Builtin.List.listSubscript?
  refine wpAny_bind (wpAny_specialOf hTs slice_no_index ?_)
  simp only [Option.isNone_none, if_true]
  refine wpAny_pure ?_
  show wpAny _ _ (typeOf (.ref sl) >>= _) _ _ s
  refine wpAny_bind (wpAny_typeOf hTs ?_)
  rw [if_neg (by decide)]
  rw [listSliceParts_eq]
  refine wpAny_bind (wpAny_bind (wpAny_field hos hds (x := vs) rfl (wpAny_bind (wpAny_listPart ps ?_))))
  rw [if_neg (show ¬ ((rawPart none == rawInt 0) = true) from Bool.false_ne_true)]
  refine wpAny_bind (wpAny_field hos hds (x := vl) rfl (wpAny_bind (wpAny_listPart pl ?_)))
  refine wpAny_bind (wpAny_field hos hds (x := vu) rfl (wpAny_bind (wpAny_listPart pu (wpAny_pure ?_))))
  dsimp only
  rw [if_neg (show ¬ (Builtin.List.listSameRef (.ref l) (.ref v) = true) by simpa [Builtin.List.listSameRef] using hne)]
  refine wpAny_bind ?_
  unfold Builtin.List.listAllItems
  refine wpAny_bind (wpAny_typeOf (T := "list") ⟨ov, hov, hcv⟩ ?_)
  rw [if_pos (by decide)]
  refine wpAny_bind (wpAny_seqItems hov hdv (wpAny_pure ?_))
  refine wpAny_bind (listItems_at ho hd ?_)
  refine wpAny_bind (wpAny_of_eq (sliceIndices_raw lo hi none items.size (by simp)) ?_)
  have h1 : (sliceBounds lo hi none items.size).2.2 = 1 := rfl
  (try dsimp only)
  rw [h1, if_pos (by decide)]
  refine wpAny_bind (wpAny_rule ?_)
  rw [if_neg (show ¬ (Builtin.List.listTooLong (items.size + new.size) = true) by simp only [Builtin.List.listTooLong, decide_eq_true_eq]; omega)]
  refine wpAny_bind (listUpdate_at ho hd ?_ (by omega) ?_)
  · refine wpAny_bind (letGo_ints _ ?_)
    exact wpAny_pure ⟨.none, rfl, wpAny_pure h⟩
  · simp only [Array.size_append, Array.size_extract]
    exact Nat.le_trans (cut_room hsz) (Nat.le_succ _)
end
end Mine
end
section
theorem Mine.off_A1 : True := by
  w_top off
  (try walk1)
  k_with_none
  (k_with "lt" => (with_reducible first | assumption | ((fail_if_success (fail_if_success (refine' Mine.guardLt ?qg ?qh; (case qg => assumption)))); first | (refine' And.left ?qx; case qx => first | assumption | (refine' And.right ?qx; case qx => first | assumption | (refine' And.right ?qx; case qx => first | assumption | (refine' And.right ?qx; case qx => first | assumption | (refine' And.right ?qx; case qx => first | assumption | (refine' And.right ?qx; case qx => first | assumption | (refine' And.right ?qx; case qx => first | assumption | (refine' And.right ?qx; case qx => first | assumption | (refine' And.right ?qx; case qx => first | assumption | (refine' And.right ?qx; case qx => first | assumption | (refine' And.right ?qx; case qx => first | assumption | (refine' And.right ?qx; case qx => first | assumption | (refine' And.right ?qx; case qx => first | assumption | (refine' And.right ?qx; case qx => first | assumption | (refine' And.right ?qx; case qx => first | assumption | (refine' And.right ?qx; case qx => first | assumption | (refine' And.right ?qx; case qx => first | assumption | (refine' And.right ?qx; case qx => first | assumption | (refine' And.right ?qx; case qx => first | assumption | (refine' And.right ?qx; case qx => first | assumption | (refine' And.right ?qx; case qx => assumption))))))))))))))))))))) | (refine' And.right ?qx; case qx => first | assumption | (refine' And.right ?qx; case qx => first | assumption | (refine' And.right ?qx; case qx => first | assumption | (refine' And.right ?qx; case qx => first | assumption | (refine' And.right ?qx; case qx => first | assumption | (refine' And.right ?qx; case qx => first | assumption | (refine' And.right ?qx; case qx => first | assumption | (refine' And.right ?qx; case qx => first | assumption | (refine' And.right ?qx; case qx => first | assumption | (refine' And.right ?qx; case qx => first | assumption | (refine' And.right ?qx; case qx => first | assumption | (refine' And.right ?qx; case qx => first | assumption | (refine' And.right ?qx; case qx => first | assumption | (refine' And.right ?qx; case qx => first | assumption | (refine' And.right ?qx; case qx => first | assumption | (refine' And.right ?qx; case qx => first | assumption | (refine' And.right ?qx; case qx => first | assumption | (refine' And.right ?qx; case qx => first | assumption | (refine' And.right ?qx; case qx => first | assumption | (refine' And.right ?qx; case qx => first | assumption | (refine' And.right ?qx; case qx => assumption)))))))))))))))))))))) | (refine Nat.lt_trans ?_ (by assumption); k_extra "lt")))
  (k_with "omega" => (first | (with_reducible assumption) | (with_reducible exact Ne.symm (by assumption)) | (with_reducible refine Nat.ne_of_lt ?_; k_extra "lt") | (with_reducible refine Nat.ne_of_gt ?_; k_extra "lt") | ((with_reducible refine' Mine.room ?qx ?qy); (case qx => with_reducible assumption); (case qy => exact rfl)) | ((with_reducible refine' Mine.room2 ?qx ?qy); (case qx => with_reducible assumption); (case qy => exact rfl)) | ((with_reducible refine' Mine.room0 ?qx); (case qx => with_reducible assumption)) | (with_reducible refine Mine.isLt ?_; k_extra "lt")))
  trivial
open PySem PySem.W PyProof.Rows PySem.Calls PySem.Spec
namespace Mine
/-- the last def of a text: its body and its scope -/
noncomputable def lastDef : List Stmt → List Stmt × Scope → List Stmt × Scope
  | [], d => d
  | .FunctionDef _ _ body _ _ _ scope _ _ _ :: r, _ => lastDef r (body, scope)
  | _ :: r, d => lastDef r d
noncomputable def lawParts : List Stmt × Scope := lastDef PySem.Challenge.pw_pg0203_01.main.body ([], { kind := .function, names := [], isGenerator := false, isCoroutine := false })
noncomputable def nthDef : Nat → List Stmt → List Stmt × Scope
  | 0, .FunctionDef _ _ body _ _ _ scope _ _ _ :: _ => (body, scope)
  | n + 1, .FunctionDef _ _ _ _ _ _ _ _ _ _ :: r => nthDef n r
  | n, _ :: r => nthDef n r
  | _, [] => ([], { kind := .function, names := [], isGenerator := false, isCoroutine := false })
noncomputable def defParts (n : Nat) : List Stmt × Scope := nthDef n PySem.Challenge.pw_pg0203_01.main.body
noncomputable def forBodyAt : Nat → List Stmt → List Stmt
  | 0, .For _ _ b _ _ :: _ => b
  | n + 1, _ :: r => forBodyAt n r
  | _, _ => []
noncomputable def stmtsFrom : Nat → List Stmt → List Stmt
  | 0, l => l
  | n + 1, _ :: r => stmtsFrom n r
  | _, [] => []
theorem fr_same {h₀ h : Heap} {L : Addr} {m m' : Str → Option Value} (F : Fr h₀ L h m) (e : ∀ y, m y = m' y) : Fr h₀ L h m' := (funext e : m = m') ▸ F
/-- a frame whose map says x at its head -/
theorem fr_head {h₀ h : Heap} {L : Addr} {m : Str → Option Value} {x : Str} {v : Value} (F : Fr h₀ L h m) (e : m x = some v) : Fr h₀ L h (fun y => if y = x then some v else m y) :=
  fr_same F fun y => by
    by_cases q : y = x
    · rw [if_pos q, q, e]
    · rw [if_neg q]
theorem fr_unhead {h₀ h : Heap} {L : Addr} {m : Str → Option Value} {x : Str} {v : Value} (F : Fr h₀ L h (fun y => if y = x then some v else m y)) (e : m x = some v) : Fr h₀ L h m :=
  fr_same F fun y => by
    by_cases q : y = x
    · rw [if_pos q, q, e]
    · rw [if_neg q]
section
variable {prog : Program} {w : World} {A : Around} {E : Value → Shared → Prop} {s : Shared} {h₀ h : Heap} {L D : Addr} {m : Str → Option Value} {news : List (Addr × Obj)} {n : Nat}
theorem cut_toN {k k1 : Int} {v : Nat} (h0 : 0 ≤ k) (hk : k1 = k + 1) (hc : k.toNat < v) : (max k (min k1 (v : Int))).toNat = k.toNat + 1 := by lia
theorem cut_end {k k1 : Int} {v : Nat} (h0 : 0 ≤ k) (hk : k1 = k + 1) (hc : ¬ k.toNat < v) : v ≤ k.toNat ∧ v ≤ (max k (min k1 (v : Int))).toNat := by lia
theorem setcut_ints {g : Obj → List (Addr × Obj)} {vs : List Value} {ns : List Int} {k k1 x : Int} {t1 t2 tx : Tok} {V : Addr} {nv : Nat} {Q : Unit → Shared → Prop} (F : Fr h₀ L s.heap m) (N : News h₀ L s.heap news) (U : UpdF D (listOf vs.toArray n) news g)
    (hv : (V, listOf #[.int x tx] nv) ∈ news) (hne : D ≠ V) (hi : IntsAre vs ns) (h0 : 0 ≤ k) (h1 : k ≤ ns.length) (hk : k1 = k + 1) (hfit : ns.length < 2 ^ 20)
    (h : ∀ h' vs' n', Fr h₀ L h' m → News h₀ L h' (g (listOf vs'.toArray n')) → IntsAre vs' (setCut ns k x) → Q () { s with heap := h' }) :
    wpAny (model prog w) A (setItem (.ref D) (.ref s.heap.objs.size) (.ref V)) Q E { s with heap := s.heap.push { cls := .type "slice", data := .fields #[.int k t1, .int k1 t2, .none] } } := by
  have hl := hi.length
  obtain ⟨pre, post, rfl, hg, ha, hb⟩ := U.split
  have F1 := F.push { cls := .type "slice", data := .fields #[.int k t1, .int k1 t2, .none] }
  have N1 := N.grown (h' := s.heap.push { cls := .type "slice", data := .fields #[.int k t1, .int k1 t2, .none] }) fun _ _ e => Heap.get?_push_of_some _ e
  have z := N1 (D, listOf vs.toArray n) (List.mem_append.mpr (.inr (.head _)))
  have e : sliceBounds (some k) (some k1) none vs.toArray.size = (k, min k1 (vs.length : Int), 1) := by
    subst hk
    simp only [sliceBounds, Option.getD_none, show (1 : Int) > 0 by decide, if_true, if_neg (show ¬ (k < 0) by omega), if_neg (show ¬ (k + 1 < 0) by omega), List.size_toArray]
    congr 1
    · omega
    · congr 1
      omega
  refine setItem_slice (s := { s with heap := s.heap.push { cls := .type "slice", data := .fields #[.int k t1, .int k1 t2, .none] } }) (items := vs.toArray) (new := #[.int x tx]) (N1.isList (List.mem_append.mpr (.inr (.head _)))) (Heap.IsSliceOf.new ..) (.int _ _) (.int _ _) .none (N1.isList hv) hne ?_ ?_
  · rw [sizeLine_eq]; simp; omega
  · rw [e]
    have q := PySem.IsL.update z.1 (fun xs => xs.extract 0 k.toNat ++ #[Value.int x tx] ++ xs.extract (max k (min k1 (vs.length : Int))).toNat xs.size)
    have hvs : vs.toArray.extract 0 k.toNat ++ #[Value.int x tx] ++ vs.toArray.extract (max k (min k1 (vs.length : Int))).toNat vs.toArray.size = (vs.take k.toNat ++ .int x tx :: vs.drop (k.toNat + 1)).toArray := by
      apply Array.toList_inj.mp
      simp only [Array.toList_append, Array.toList_extract, List.extract_eq_take_drop, List.drop_zero, Nat.sub_zero, List.append_assoc, List.cons_append, List.nil_append, List.size_toArray]
      congr 2
      rw [List.take_of_length_le (by rw [List.length_drop]; omega)]
      by_cases hc : k.toNat < vs.length
      · congr 1; exact cut_toN h0 hk hc
      · rw [List.drop_of_length_le (cut_end h0 hk hc).2, List.drop_of_length_le (Nat.le_succ_of_le (cut_end h0 hk hc).1)]
    rw [hvs] at q
    refine h _ (vs.take k.toNat ++ .int x tx :: vs.drop (k.toNat + 1)) _ (F1.change (Heap.SameBut.update ..) z.2.1 z.2.2) (hg _ ▸ news_set N1 ha hb (Heap.SameBut.update ..) q) ((hi.take _).append (.cons _ _ (hi.drop _)))
end
end Mine
end
section
theorem Mine.off_A2 : True := by
  w_top off
  (try walk1)
  k_with_none
  (k_with "lt" => (with_reducible first | assumption | ((fail_if_success (fail_if_success (refine' Mine.guardLt ?qg ?qh; (case qg => assumption)))); first | (refine' And.left ?qx; case qx => first | assumption | (refine' And.right ?qx; case qx => first | assumption | (refine' And.right ?qx; case qx => first | assumption | (refine' And.right ?qx; case qx => first | assumption | (refine' And.right ?qx; case qx => first | assumption | (refine' And.right ?qx; case qx => first | assumption | (refine' And.right ?qx; case qx => first | assumption | (refine' And.right ?qx; case qx => first | assumption | (refine' And.right ?qx; case qx => first | assumption | (refine' And.right ?qx; case qx => first | assumption | (refine' And.right ?qx; case qx => first | assumption | (refine' And.right ?qx; case qx => first | assumption | (refine' And.right ?qx; case qx => first | assumption | (refine' And.right ?qx; case qx => first | assumption | (refine' And.right ?qx; case qx => first | assumption | (refine' And.right ?qx; case qx => first | assumption | (refine' And.right ?qx; case qx => first | assumption | (refine' And.right ?qx; case qx => first | assumption | (refine' And.right ?qx; case qx => first | assumption | (refine' And.right ?qx; case qx => first | assumption | (refine' And.right ?qx; case qx => assumption))))))))))))))))))))) | (refine' And.right ?qx; case qx => first | assumption | (refine' And.right ?qx; case qx => first | assumption | (refine' And.right ?qx; case qx => first | assumption | (refine' And.right ?qx; case qx => first | assumption | (refine' And.right ?qx; case qx => first | assumption | (refine' And.right ?qx; case qx => first | assumption | (refine' And.right ?qx; case qx => first | assumption | (refine' And.right ?qx; case qx => first | assumption | (refine' And.right ?qx; case qx => first | assumption | (refine' And.right ?qx; case qx => first | assumption | (refine' And.right ?qx; case qx => first | assumption | (refine' And.right ?qx; case qx => first | assumption | (refine' And.right ?qx; case qx => first | assumption | (refine' And.right ?qx; case qx => first | assumption | (refine' And.right ?qx; case qx => first | assumption | (refine' And.right ?qx; case qx => first | assumption | (refine' And.right ?qx; case qx => first | assumption | (refine' And.right ?qx; case qx => first | assumption | (refine' And.right ?qx; case qx => first | assumption | (refine' And.right ?qx; case qx => first | assumption | (refine' And.right ?qx; case qx => assumption)))))))))))))))))))))) | (refine Nat.lt_trans ?_ (by assumption); k_extra "lt")))
  (k_with "omega" => (first | (with_reducible assumption) | (with_reducible exact Ne.symm (by assumption)) | (with_reducible refine Nat.ne_of_lt ?_; k_extra "lt") | (with_reducible refine Nat.ne_of_gt ?_; k_extra "lt") | ((with_reducible refine' Mine.room ?qx ?qy); (case qx => with_reducible assumption); (case qy => exact rfl)) | ((with_reducible refine' Mine.room2 ?qx ?qy); (case qx => with_reducible assumption); (case qy => exact rfl)) | ((with_reducible refine' Mine.room0 ?qx); (case qx => with_reducible assumption)) | (with_reducible refine Mine.isLt ?_; k_extra "lt")))
  trivial
open PySem PySem.W PyProof.Rows PySem.Calls PySem.Spec
namespace Mine
set_option maxRecDepth 100000 in
set_option maxHeartbeats 8000000 in
theorem turn1 {w : World} {mean : ExcName → Option Value} {mg mb : Str → Option Value} {dp un : Nat} {gd : Option (List Code)} {a : Addr} {ccd : Value} {outer : List Env} {A₀ : Around} {base h₀ : Heap} {L : Addr} {m : Str → Option Value} {s : Shared} {c1 c2 c3 i lW lP lM lR : Addr} {oi oP oM oR o2 : Obj} {vW : List Value} {nsW : List Int} {nW : Nat} {r : Int} {tr : Tok} {Q : Flow → Shared → Prop} (B : Below A₀ base outer h₀) (F : Fr h₀ L s.heap m) (X : (Mine.hd.heap_39 w.params).In h₀) (T : Top topProg LOOSE mean mg mb h₀)
    (hmR : m (Str.ofString "rank") = some (.int r tr)) (hmW : m (Str.ofString "waiting") = some (.ref lW))
    (N : News h₀ L s.heap [(i, oi), (lW, listOf vW.toArray nW), (lP, oP), (lM, oM), (lR, oR), (c2, o2)])
    (h1 : @Ne Nat c2 lR) (h0 : @LT.lt Nat _ c2 lM) (h2 : @LT.lt Nat _ lR lM) (h3 : @LT.lt Nat _ lM lP) (h4 : @LT.lt Nat _ lP lW) (h5 : @LT.lt Nat _ lW i) (I : IntsAre vW nsW) (hS : Short 20 nsW)
    (hd : dp + 6 < recursionLimit) (hu : un + 48 < cLine)
    (hret : ∀ h' tk' vW' nW', Fr h₀ L h' m → News h₀ L h' [(i, oi), (lW, listOf vW'.toArray nW'), (lP, oP), (lM, oM), (lR, oR), (c2, o2)] → IntsAre vW' (insR nsW r) → Q .next { s with heap := h', toks := tk' }) :
    wpAny (model PySem.Challenge.rw_pg0203_01.row.prog w) (ktrTop dp un gd (Str.ofString "law") lawParts.2 L a ccd [(Str.ofString "lights", c3), (Str.ofString "ranks", c2), (Str.ofString "numbers", c1)] outer) (execs (forBodyAt 10 lawParts.1) (envX (Str.ofString "law") lawParts.2 L a ccd [(Str.ofString "lights", c3), (Str.ofString "ranks", c2), (Str.ofString "numbers", c1)])) Q (fun _ _ => False) s := by
  revert X; k_fill; intro X
  (k_with "call ref" => (k_dflt (refine' insR_tells ?zzk1 ?zzk2 ?zzk3 ?zzk5 ?zzkK ?zzkN ?zzkU ?zzki ?zzkf ?zzkd ?zzku ?_; (case zzk1 => k_asm); (case zzk2 => k_asm); (case zzk3 => k_asm); (case zzk5 => k_asm); (case zzkK => first | exact rfl | assumption); (case zzkN => k_asm); (case zzkU => k_updF); (case zzki => l_ints); (case zzkf => exact short_lt (k := 40) (by repeat (with_reducible first | refine short_insR ?_ | refine short_pop ?_ | refine short_cut ?_ | refine short_cons ?_ | exact short_nil | exact short_mono (by assumption) (by decide))) (by decide)); (case zzkd => ktr_room); (case zzku => ktr_units); k_whole); intro vs9 n9 h9 tk9 F9 N9 I9; (try dsimp only); (try k_fold)))
  (k_with "call ref" => (k_dflt (refine' bisR_tells ?zzk1 ?zzk2 ?zzk3 ?zzk5 ?zzkK ?zzkN ?zzkl ?zzki ?zzkf ?zzkd ?zzku ?_; (case zzk1 => k_asm); (case zzk2 => k_asm); (case zzk3 => k_asm); (case zzk5 => k_asm); (case zzkK => first | exact rfl | assumption); (case zzkN => k_asm); (case zzkl => k_mem); (case zzki => l_ints); (case zzkf => exact short_lt (k := 40) (by repeat (with_reducible first | refine short_insR ?_ | refine short_pop ?_ | refine short_cut ?_ | refine short_cons ?_ | exact short_nil | exact short_mono (by assumption) (by decide))) (by decide)); (case zzkd => ktr_room); (case zzku => ktr_units); k_whole); intro t9 h9 tk9 F9 N9; (try dsimp only); (try k_fold)))
  (k_with "call ref" => (k_dflt (refine' bisL_tells ?zzk1 ?zzk2 ?zzk3 ?zzk5 ?zzkK ?zzkN ?zzkl ?zzki ?zzkf ?zzkd ?zzku ?_; (case zzk1 => k_asm); (case zzk2 => k_asm); (case zzk3 => k_asm); (case zzk5 => k_asm); (case zzkK => first | exact rfl | assumption); (case zzkN => k_asm); (case zzkl => k_mem); (case zzki => l_ints); (case zzkf => exact short_lt (k := 40) (by repeat (with_reducible first | refine short_insR ?_ | refine short_pop ?_ | refine short_cut ?_ | refine short_cons ?_ | exact short_nil | exact short_mono (by assumption) (by decide))) (by decide)); (case zzkd => ktr_room); (case zzku => ktr_units); k_whole); intro t9 h9 tk9 F9 N9; (try dsimp only); (try k_fold)))
  (k_with "call builtin:list.pop" => (k_here; k_dflt (refine' pop_ints ?zzF ?zzN ?zzU ?zzi ?zzz ?zzl ?zzf ?_; (case zzF => k_asm); (case zzN => k_asm); (case zzU => k_updF); (case zzi => l_ints); (case zzz => exact (bisL_bounds _ _).1); (case zzl => assumption); (case zzf => exact short_lt (k := 40) (by repeat (with_reducible first | refine short_insR ?_ | refine short_pop ?_ | refine short_cut ?_ | refine short_cons ?_ | exact short_nil | exact short_mono (by assumption) (by decide))) (by decide))); intro h' vs' t' F' N' hI'; (try dsimp only at N'); (try k_sweep)))
  (k_with "setItem ref ref" => (k_here; k_dflt (refine' setcut_ints ?zzF ?zzN ?zzU ?zzv ?zzne ?zzi ?zzz ?zzl ?zzk ?zzf ?_; (case zzF => k_asm); (case zzN => k_asm); (case zzU => k_updF); (case zzv => k_mem); (case zzne => k_ne); (case zzi => l_ints); (case zzz => exact (bisL_bounds _ _).1); (case zzl => exact (bisL_bounds _ _).2); (case zzk => rfl); (case zzf => exact short_lt (k := 40) (by repeat (with_reducible first | refine short_insR ?_ | refine short_pop ?_ | refine short_cut ?_ | refine short_cons ?_ | exact short_nil | exact short_mono (by assumption) (by decide))) (by decide))); intro h' vs' n' F' N' hI'; (try dsimp only at N'); (try k_sweep)))
  (k_with "call builtin:len" => (k_here; (with_reducible show wpAny _ _ (call (Value.builtin "len") [Value.ref _]) _ _ _); k_dflt (refine' len_made ?zzN ?zzm ?zzi ?zzf ?_; (case zzN => k_asm); (case zzm => k_mem); (case zzi => l_ints); (case zzf => exact short_lt (k := 40) (by repeat (with_reducible first | refine short_insR ?_ | refine short_pop ?_ | refine short_cut ?_ | refine short_cons ?_ | exact short_nil | exact short_mono (by assumption) (by decide))) (by decide)); k_whole)))
  (k_with "loadName" => (k_here; (rename Fr _ _ _ _ => lF'); k_dflt (refine' wpAny_loadName_local ?zzk ?zzl lF'.ns ?zzv ?_; (case zzk => exact rfl); (case zzl => exact rfl); (case zzv => exact rfl); k_whole)))
  unfold forBodyAt; unfold lawParts PySem.Challenge.pw_pg0203_01; dsimp only [lastDef, stmtsFrom]
  dsimp only [forBodyAt]
  have F1 := fr_head (x := Str.ofString "waiting") F hmW
  have F2 := fr_head (x := Str.ofString "rank") F1 hmR
  clear F F1
  k_steps
  all_goals (refine' hret _ _ _ _ ?f ?n ?i; (case i => k_asm); (case n => k_asm); (case f => exact (fr_unhead (x := Str.ofString "waiting") (fr_unhead (x := Str.ofString "rank") (by k_asm) hmR) hmW)))
set_option maxRecDepth 100000 in
set_option maxHeartbeats 8000000 in
theorem turn2 {w : World} {mean : ExcName → Option Value} {mg mb : Str → Option Value} {dp un : Nat} {gd : Option (List Code)} {a : Addr} {ccd : Value} {outer : List Env} {A₀ : Around} {base h₀ : Heap} {L : Addr} {m : Str → Option Value} {s : Shared} {c1 c2 c3 i lW lP lM lR : Addr} {oi oR o2 : Obj} {vW vP vM : List Value} {nsW nsP nsM : List Int} {nW nP nM : Nat} {r a₁ b₁ : Int} {tr ta tb : Tok} {Q : Flow → Shared → Prop} (B : Below A₀ base outer h₀) (F : Fr h₀ L s.heap m) (X : (Mine.hd.heap_39 w.params).In h₀) (T : Top topProg LOOSE mean mg mb h₀)
    (hmR : m (Str.ofString "rank") = some (.int r tr)) (hmW : m (Str.ofString "waiting") = some (.ref lW)) (hmP : m (Str.ofString "piles") = some (.ref lP)) (hmM : m (Str.ofString "met") = some (.ref lM))
    (hma : m (Str.ofString "inversions") = some (.int a₁ ta)) (hmb : m (Str.ofString "poorer") = some (.int b₁ tb))
    (N : News h₀ L s.heap [(i, oi), (lW, listOf vW.toArray nW), (lP, listOf vP.toArray nP), (lM, listOf vM.toArray nM), (lR, oR), (c2, o2)])
    (h1 : @Ne Nat c2 lR) (h0 : @LT.lt Nat _ c2 lM) (h2 : @LT.lt Nat _ lR lM) (h3 : @LT.lt Nat _ lM lP) (h4 : @LT.lt Nat _ lP lW) (h5 : @LT.lt Nat _ lW i) (IW : IntsAre vW nsW) (IP : IntsAre vP nsP) (IM : IntsAre vM nsM) (sW : Short 20 nsW) (sP : Short 20 nsP) (sM : Short 20 nsM)
    (hl : bisL nsW r < nsW.length) (hd : dp + 6 < recursionLimit) (hu : un + 48 < cLine)
    (hret : ∀ m' h' tk' vW' nW' vP' nP' vM' nM' ta' tb', Fr h₀ L h' m' → m' (Str.ofString "waiting") = some (.ref lW) → m' (Str.ofString "piles") = some (.ref lP) → m' (Str.ofString "met") = some (.ref lM) →
      m' (Str.ofString "inversions") = some (.int (a₁ + (nsM.length - bisR nsM r)) ta') → m' (Str.ofString "poorer") = some (.int (b₁ + if bisL nsW r < nsM.length - bisR nsM r then bisL nsW r else nsM.length - bisR nsM r) tb') →
      News h₀ L h' [(i, oi), (lW, listOf vW'.toArray nW'), (lP, listOf vP'.toArray nP'), (lM, listOf vM'.toArray nM'), (lR, oR), (c2, o2)] →
      IntsAre vW' (popAt nsW (bisL nsW r)) → IntsAre vP' (setCut nsP (bisL nsP (-r)) (-r)) → IntsAre vM' (insR nsM r) → Q .next { s with heap := h', toks := tk' }) :
    wpAny (model PySem.Challenge.rw_pg0203_01.row.prog w) (ktrTop dp un gd (Str.ofString "law") lawParts.2 L a ccd [(Str.ofString "lights", c3), (Str.ofString "ranks", c2), (Str.ofString "numbers", c1)] outer) (execs (forBodyAt 11 lawParts.1) (envX (Str.ofString "law") lawParts.2 L a ccd [(Str.ofString "lights", c3), (Str.ofString "ranks", c2), (Str.ofString "numbers", c1)])) Q (fun _ _ => False) s := by
  revert X; k_fill; intro X
  unfold forBodyAt; unfold lawParts PySem.Challenge.pw_pg0203_01; dsimp only [lastDef, stmtsFrom]
  dsimp only [forBodyAt]
  have F1 := fr_head (x := Str.ofString "poorer") F hmb
  have F2 := fr_head (x := Str.ofString "inversions") F1 hma
  have F3 := fr_head (x := Str.ofString "met") F2 hmM
  have F4 := fr_head (x := Str.ofString "piles") F3 hmP
  have F5 := fr_head (x := Str.ofString "waiting") F4 hmW
  have F6 := fr_head (x := Str.ofString "rank") F5 hmR
  clear F F1 F2 F3 F4 F5
  k_steps
  all_goals (refine' hret _ _ _ _ _ _ _ _ _ _ _ ?qF ?qw ?qp ?qm ?qa ?qb ?qN ?qW ?qP ?qM; (case qF => k_asm); (case qw => exact rfl); (case qp => exact rfl); (case qm => exact rfl); (case qa => exact rfl); (case qb => exact rfl); (case qN => exact news_tail (by k_asm)); (case qW => k_asm); (case qP => k_asm); (case qM => k_asm))
end Mine
end
section
theorem Mine.off_X1 : True := by
  w_top off
  (try walk1)
  k_with_none
  (k_with "lt" => (with_reducible first | assumption | ((fail_if_success (fail_if_success (refine' Mine.guardLt ?qg ?qh; (case qg => assumption)))); first | (refine' And.left ?qx; case qx => first | assumption | (refine' And.right ?qx; case qx => first | assumption | (refine' And.right ?qx; case qx => first | assumption | (refine' And.right ?qx; case qx => first | assumption | (refine' And.right ?qx; case qx => first | assumption | (refine' And.right ?qx; case qx => first | assumption | (refine' And.right ?qx; case qx => first | assumption | (refine' And.right ?qx; case qx => first | assumption | (refine' And.right ?qx; case qx => first | assumption | (refine' And.right ?qx; case qx => first | assumption | (refine' And.right ?qx; case qx => first | assumption | (refine' And.right ?qx; case qx => first | assumption | (refine' And.right ?qx; case qx => first | assumption | (refine' And.right ?qx; case qx => first | assumption | (refine' And.right ?qx; case qx => first | assumption | (refine' And.right ?qx; case qx => first | assumption | (refine' And.right ?qx; case qx => first | assumption | (refine' And.right ?qx; case qx => first | assumption | (refine' And.right ?qx; case qx => first | assumption | (refine' And.right ?qx; case qx => first | assumption | (refine' And.right ?qx; case qx => assumption))))))))))))))))))))) | (refine' And.right ?qx; case qx => first | assumption | (refine' And.right ?qx; case qx => first | assumption | (refine' And.right ?qx; case qx => first | assumption | (refine' And.right ?qx; case qx => first | assumption | (refine' And.right ?qx; case qx => first | assumption | (refine' And.right ?qx; case qx => first | assumption | (refine' And.right ?qx; case qx => first | assumption | (refine' And.right ?qx; case qx => first | assumption | (refine' And.right ?qx; case qx => first | assumption | (refine' And.right ?qx; case qx => first | assumption | (refine' And.right ?qx; case qx => first | assumption | (refine' And.right ?qx; case qx => first | assumption | (refine' And.right ?qx; case qx => first | assumption | (refine' And.right ?qx; case qx => first | assumption | (refine' And.right ?qx; case qx => first | assumption | (refine' And.right ?qx; case qx => first | assumption | (refine' And.right ?qx; case qx => first | assumption | (refine' And.right ?qx; case qx => first | assumption | (refine' And.right ?qx; case qx => first | assumption | (refine' And.right ?qx; case qx => first | assumption | (refine' And.right ?qx; case qx => assumption)))))))))))))))))))))) | (refine Nat.lt_trans ?_ (by assumption); k_extra "lt")))
  (k_with "omega" => (first | (with_reducible assumption) | (with_reducible exact Ne.symm (by assumption)) | (with_reducible refine Nat.ne_of_lt ?_; k_extra "lt") | (with_reducible refine Nat.ne_of_gt ?_; k_extra "lt") | ((with_reducible refine' Mine.room ?qx ?qy); (case qx => with_reducible assumption); (case qy => exact rfl)) | ((with_reducible refine' Mine.room2 ?qx ?qy); (case qx => with_reducible assumption); (case qy => exact rfl)) | ((with_reducible refine' Mine.room0 ?qx); (case qx => with_reducible assumption)) | (with_reducible refine Mine.isLt ?_; k_extra "lt")))
  trivial
open PySem PySem.W PyProof.Rows PySem.Calls PySem.Spec
namespace Mine
/-- the ring from k on, put behind s -/
noncomputable def cyc (rs : List Int) : Nat → Int → List Int → List Int
  | 0, _, s => s
  | f + 1, k, s => if k ∈ s then s else cyc rs f (rs.getD k.toNat 0) (s ++ [k])
noncomputable def InR (rs : List Int) : Prop := rs.length = 5 ∧ ∀ k : Int, 0 ≤ k → k < 5 → 0 ≤ rs.getD k.toNat 0 ∧ rs.getD k.toNat 0 < 5
/-- how many of 0 .. 4 are lacking -/
noncomputable def mu (s : List Int) : Nat := (if (0 : Int) ∈ s then 0 else 1) + (if (1 : Int) ∈ s then 0 else 1) + (if (2 : Int) ∈ s then 0 else 1) + (if (3 : Int) ∈ s then 0 else 1) + (if (4 : Int) ∈ s then 0 else 1)
theorem mu_more {s : List Int} {k : Int} (h0 : 0 ≤ k) (h1 : k < 5) (h : k ∉ s) : mu (s ++ [k]) + 1 = mu s := by
  have : k = 0 ∨ k = 1 ∨ k = 2 ∨ k = 3 ∨ k = 4 := by lia
  rcases this with rfl | rfl | rfl | rfl | rfl <;> simp only [mu, List.mem_append, List.mem_singleton, h, or_true, if_true, if_false, Int.reduceEq, or_false] <;> lia
noncomputable def CycInv (rs : List Int) (t : List Int) (k : Int) (s : List Int) : Prop := (0 ≤ k ∧ k < 5) ∧ s.length + mu s ≤ 5 ∧ cyc rs (mu s + 1) k s = t
theorem any_mem {s : List Int} {k : Int} : (s.any fun x => x == k) = true ↔ k ∈ s := by simp
theorem not_mem_any {s : List Int} {k : Int} (h : (s.any fun x => x == k) = false) : k ∉ s := fun q => by rw [any_mem.mpr q] at h; cases h
theorem CycInv.step {rs t s : List Int} {k : Int} (hR : InR rs) (e : CycInv rs t k s) (h : (s.any fun x => x == k) = false) : CycInv rs t (rs.getD k.toNat 0) (s ++ [k]) := by
  obtain ⟨⟨h0, h1⟩, h2, h3⟩ := e
  have hn := not_mem_any h
  have hm := mu_more h0 h1 hn
  refine ⟨hR.2 k h0 h1, by rw [List.length_append, List.length_singleton]; lia, ?_⟩
  rw [← h3, hm]
  simp only [cyc]
  rw [if_neg hn]
theorem CycInv.stop {rs t s : List Int} {k : Int} (e : CycInv rs t k s) (h : (s.any fun x => x == k) = true) : s = t ∧ t.length + mu t ≤ 5 := by
  obtain ⟨_, h2, h3⟩ := e
  simp only [cyc] at h3
  rw [if_pos (any_mem.mp h)] at h3
  exact ⟨h3, h3 ▸ h2⟩
theorem CycInv.less {rs t s : List Int} {k : Int} (e : CycInv rs t k s) (h : (s.any fun x => x == k) = false) : mu (s ++ [k]) < mu s := by
  have hm := mu_more e.1.1 e.1.2 (not_mem_any h); lia
theorem CycInv.room {rs t s : List Int} {k : Int} (e : CycInv rs t k s) : s.length < 2 ^ 20 := by have := e.2.1; lia
theorem CycInv.ix {rs t s : List Int} {k : Int} (e : CycInv rs t k s) (hR : InR rs) : 0 ≤ k ∧ k < rs.length ∧ k < 2 ^ 63 := by
  have h := hR.1
  obtain ⟨⟨h0, h1⟩, _⟩ := e
  lia
theorem CycInv.ints {rs t s : List Int} {k : Int} {vs : List Value} (e : CycInv rs t k s) (h : (s.any fun x => x == k) = true) (hi : IntsAre vs s) : IntsAre vs t := (e.stop h).1 ▸ hi
theorem ring_in {s : List Int} {k r : Int} {t : Tok} {v : Option Value} (e : v = some (.int r t)) (h : (s.any fun x => x == k) = true) : v = some (.int (if k ∈ s then r else r + 1) t) := by rw [if_pos (any_mem.mp h)]; exact e
theorem ring_out {s : List Int} {k r : Int} {t : Tok} {v : Option Value} (e : v = some (.int (r + 1) t)) (h : (s.any fun x => x == k) = false) : v = some (.int (if k ∈ s then r else r + 1) t) := by rw [if_neg (not_mem_any h)]; exact e
set_option maxRecDepth 100000 in
set_option maxHeartbeats 8000000 in
theorem exch_turn {w : World} {mean : ExcName → Option Value} {mg mb : Str → Option Value} {dp un : Nat} {gd : Option (List Code)} {a : Addr} {ccd : Value} {outer : List Env} {A₀ : Around} {base h₀ : Heap} {L : Addr} {m : Str → Option Value} {s : Shared} {cl : List (Str × Addr)} {i lS l x1 x2 x3 x4 : Addr} {oi o1 o2 o3 o4 : Obj} {vS vs : List Value} {nsS ns : List Int} {nS n : Nat} {k r : Int} {tk₀ tr : Tok} {Q : Flow → Shared → Prop} (B : Below A₀ base outer h₀) (F : Fr h₀ L s.heap m) (X : (Mine.hd.heap_39 w.params).In h₀) (T : Top topProg LOOSE mean mg mb h₀)
    (hmk : m (Str.ofString "k") = some (.int k tk₀)) (hms : m (Str.ofString "seen") = some (.ref lS)) (hmr : m (Str.ofString "rings") = some (.int r tr)) (hmR : m (Str.ofString "ranks") = some (.ref l))
    (N : News h₀ L s.heap [(i, oi), (lS, listOf vS.toArray nS), (l, listOf vs.toArray n), (x1, o1), (x2, o2), (x3, o3), (x4, o4)])
    (h0 : @LT.lt Nat _ lS i) (h1 : @LT.lt Nat _ l lS) (h2 : @LT.lt Nat _ x1 lS) (h3 : @LT.lt Nat _ x2 lS) (h4 : @LT.lt Nat _ x3 lS) (h5 : @LT.lt Nat _ x4 lS) (IS : IntsAre vS nsS) (IR : IntsAre vs ns) (hR : InR ns)
    (hk0 : 0 ≤ k) (hk1 : k < 5) (hmu : nsS.length + mu nsS ≤ 5)
    (hd : dp + 6 < recursionLimit) (hu : un + 48 < cLine)
    (hret : ∀ m' h' tk' vS' nS' tr', Fr h₀ L h' m' → m' (Str.ofString "seen") = some (.ref lS) → m' (Str.ofString "rings") = some (.int (if k ∈ nsS then r else r + 1) tr') → m' (Str.ofString "ranks") = some (.ref l) →
      News h₀ L h' [(i, oi), (lS, listOf vS'.toArray nS'), (l, listOf vs.toArray n), (x1, o1), (x2, o2), (x3, o3), (x4, o4)] → IntsAre vS' (cyc ns (mu nsS + 1) k nsS) → (cyc ns (mu nsS + 1) k nsS).length + mu (cyc ns (mu nsS + 1) k nsS) ≤ 5 → Q .next { s with heap := h', toks := tk' }) :
    wpAny (model PySem.Challenge.rw_pg0203_01.row.prog w) (ktrTop dp un gd (Str.ofString "_law_exchanges") (defParts 9).2 L a ccd cl outer) (execs (forBodyAt 2 (defParts 9).1) (envX (Str.ofString "_law_exchanges") (defParts 9).2 L a ccd cl)) Q (fun _ _ => False) s := by
  revert X; k_fill; intro X
  (k_with "loadName" => (k_here; (rename Fr _ _ _ _ => lF'); k_dflt (refine' wpAny_loadName_local ?zzk ?zzl lF'.ns ?zzv ?_; (case zzk => exact rfl); (case zzl => exact rfl); (case zzv => exact rfl); k_whole)))
  (k_with "call builtin:list.append" => (k_here; (with_reducible show wpAny _ _ (call (Value.builtin _) [Value.ref _, Value.int _ _]) _ _ _); k_dflt (refine' append_ints ?zzF ?zzN ?zzU ?zzi ?zzf ?_; (case zzF => k_asm); (case zzN => k_asm); (case zzU => k_updF); (case zzi => l_ints); (case zzf => exact CycInv.room (by assumption))); intro h' vs' n' F' N' hI'; (try dsimp only at N'); (try k_sweep)))
  (k_with "subscriptTail Name Name ref int" => (k_here; k_dflt (refine' ksa_sub ?zzN ?zzm ?zzi ?zza ?zzb ?zzc ?_ ?zzd; (case zzN => k_asm); (case zzm => k_mem); (case zzi => with_reducible assumption); (case zza => exact (CycInv.ix (by assumption) (by assumption)).1); (case zzb => exact (CycInv.ix (by assumption) (by assumption)).2.1); (case zzc => exact (CycInv.ix (by assumption) (by assumption)).2.2); (case zzd => with_unfolding_all rfl); k_whole); intro _))
  unfold forBodyAt; unfold defParts PySem.Challenge.pw_pg0203_01; dsimp only [nthDef, stmtsFrom]
  dsimp only [forBodyAt]
  have F1 := fr_head (x := Str.ofString "ranks") F hmR
  have F2 := fr_head (x := Str.ofString "rings") F1 hmr
  have F3 := fr_head (x := Str.ofString "seen") F2 hms
  have F4 := fr_head (x := Str.ofString "k") F3 hmk
  clear F F1 F2 F3
  have hI : CycInv ns (cyc ns (mu nsS + 1) k nsS) k nsS := ⟨⟨hk0, hk1⟩, hmu, rfl⟩
  have hrm : nsS.length < 2 ^ 20 := by omega
  (k_with "exec While Compare cons nil" => k_while (fun _ k' s' => CycInv ns (cyc ns (mu nsS + 1) k nsS) k' s') (fun _ k' s' => mu s') "k" "seen")
  (k_with "state" => first | exact hI | exact CycInv.step hR (by assumption) (by assumption))
  (k_with "measure" => exact CycInv.less (by assumption) (by assumption))
  cases hb : (nsS.any fun x => x == k)
  all_goals k_steps
  all_goals (refine' hret _ _ _ _ _ _ ?qF ?qs ?qr ?qR ?qN ?qI ?qm; (case qF => k_asm); (case qs => exact rfl); (case qr => first | (refine ring_in ?_ hb; exact rfl) | (refine ring_out ?_ hb; exact rfl)); (case qR => exact rfl); (case qN => k_asm); (case qI => exact CycInv.ints (by assumption) (by assumption) (by assumption)); (case qm => exact (CycInv.stop (by assumption) (by assumption)).2))
end Mine
end
section
theorem Mine.off_X2 : True := by
  w_top off
  (try walk1)
  k_with_none
  (k_with "lt" => (with_reducible first | assumption | ((fail_if_success (fail_if_success (refine' Mine.guardLt ?qg ?qh; (case qg => assumption)))); first | (refine' And.left ?qx; case qx => first | assumption | (refine' And.right ?qx; case qx => first | assumption | (refine' And.right ?qx; case qx => first | assumption | (refine' And.right ?qx; case qx => first | assumption | (refine' And.right ?qx; case qx => first | assumption | (refine' And.right ?qx; case qx => first | assumption | (refine' And.right ?qx; case qx => first | assumption | (refine' And.right ?qx; case qx => first | assumption | (refine' And.right ?qx; case qx => first | assumption | (refine' And.right ?qx; case qx => first | assumption | (refine' And.right ?qx; case qx => first | assumption | (refine' And.right ?qx; case qx => first | assumption | (refine' And.right ?qx; case qx => first | assumption | (refine' And.right ?qx; case qx => first | assumption | (refine' And.right ?qx; case qx => first | assumption | (refine' And.right ?qx; case qx => first | assumption | (refine' And.right ?qx; case qx => first | assumption | (refine' And.right ?qx; case qx => first | assumption | (refine' And.right ?qx; case qx => first | assumption | (refine' And.right ?qx; case qx => first | assumption | (refine' And.right ?qx; case qx => assumption))))))))))))))))))))) | (refine' And.right ?qx; case qx => first | assumption | (refine' And.right ?qx; case qx => first | assumption | (refine' And.right ?qx; case qx => first | assumption | (refine' And.right ?qx; case qx => first | assumption | (refine' And.right ?qx; case qx => first | assumption | (refine' And.right ?qx; case qx => first | assumption | (refine' And.right ?qx; case qx => first | assumption | (refine' And.right ?qx; case qx => first | assumption | (refine' And.right ?qx; case qx => first | assumption | (refine' And.right ?qx; case qx => first | assumption | (refine' And.right ?qx; case qx => first | assumption | (refine' And.right ?qx; case qx => first | assumption | (refine' And.right ?qx; case qx => first | assumption | (refine' And.right ?qx; case qx => first | assumption | (refine' And.right ?qx; case qx => first | assumption | (refine' And.right ?qx; case qx => first | assumption | (refine' And.right ?qx; case qx => first | assumption | (refine' And.right ?qx; case qx => first | assumption | (refine' And.right ?qx; case qx => first | assumption | (refine' And.right ?qx; case qx => first | assumption | (refine' And.right ?qx; case qx => assumption)))))))))))))))))))))) | (refine Nat.lt_trans ?_ (by assumption); k_extra "lt")))
  (k_with "omega" => (first | (with_reducible assumption) | (with_reducible exact Ne.symm (by assumption)) | (with_reducible refine Nat.ne_of_lt ?_; k_extra "lt") | (with_reducible refine Nat.ne_of_gt ?_; k_extra "lt") | ((with_reducible refine' Mine.room ?qx ?qy); (case qx => with_reducible assumption); (case qy => exact rfl)) | ((with_reducible refine' Mine.room2 ?qx ?qy); (case qx => with_reducible assumption); (case qy => exact rfl)) | ((with_reducible refine' Mine.room0 ?qx); (case qx => with_reducible assumption)) | (with_reducible refine Mine.isLt ?_; k_extra "lt")))
  trivial
open PySem PySem.W PyProof.Rows PySem.Calls PySem.Spec
namespace Mine
noncomputable abbrev sq (ns : List Int) (k : Int) (s : List Int) : List Int := cyc ns (mu s + 1) k s
noncomputable abbrev sq1 (ns : List Int) : List Int := sq ns 0 []
noncomputable abbrev sq2 (ns : List Int) : List Int := sq ns 1 (sq1 ns)
noncomputable abbrev sq3 (ns : List Int) : List Int := sq ns 2 (sq2 ns)
noncomputable abbrev sq4 (ns : List Int) : List Int := sq ns 3 (sq3 ns)
noncomputable abbrev rg (k : Int) (s : List Int) (r : Int) : Int := if k ∈ s then r else r + 1
noncomputable def exchF (ns : List Int) : Int := 5 - rg 4 (sq4 ns) (rg 3 (sq3 ns) (rg 2 (sq2 ns) (rg 1 (sq1 ns) (rg 0 [] 0))))
section
variable {w : World} {mean : ExcName → Option Value} {mg mb : Str → Option Value} {dp un : Nat} {gd : Option (List Code)} {cn : Str} {cs : Scope} {a : Addr} {ccd : Value} {cl : List (Str × Addr)} {outer : List Env} {A₀ : Around} {base h₀ : Heap} {L : Addr} {m : Str → Option Value} {news : List (Addr × Obj)} {s : Shared} {Q E : Value → Shared → Prop}
set_option maxRecDepth 100000 in
set_option maxHeartbeats 8000000 in
theorem exch_tells {l x1 x2 x3 x4 : Addr} {o1 o2 o3 o4 : Obj} {vs : List Value} {ns : List Int} {n : Nat} (B : Below A₀ base outer h₀) (F : Fr h₀ L s.heap m) (X : (Mine.hd.heap_39 w.params).In h₀) (T : Top topProg LOOSE mean mg mb h₀) (hk : cs.kind = .function) (N : News h₀ L s.heap [(l, listOf vs.toArray n), (x1, o1), (x2, o2), (x3, o3), (x4, o4)]) (hi : IntsAre vs ns) (hR : InR ns) (hd : dp + 8 < recursionLimit) (hu : un + 64 < cLine)
    (hret : ∀ t h' tk', Fr h₀ L h' m → News h₀ L h' [(l, listOf vs.toArray n), (x1, o1), (x2, o2), (x3, o3), (x4, o4)] → Q (.int (exchF ns) t) { s with heap := h', toks := tk' }) :
    wpAny (model PySem.Challenge.rw_pg0203_01.row.prog w) (ktrTop dp un gd cn cs L a ccd cl outer) (call (.ref 86) [.ref l]) Q E s := by
  revert X; k_fill; intro X
  (k_with "execs cons" => (k_here; (with_reducible show wpAny _ _ (execs [Stmt.If _ _ _ _, Stmt.While _ _ _ _] _) _ _ _); k_dflt (refine' wpAny_mono (exch_turn (cl := []) ?zzqB ?zzqF ?zzqX ?zzqT ?zzqk ?zzqs ?zzqr ?zzqR ?zzqN ?zzq0 ?zzq1 ?zzq2 ?zzq3 ?zzq4 ?zzq5 ?zzqI ?zzqJ ?zzqK ?zzqa ?zzqb ?zzqm ?zzqd ?zzqu ?_) (fun _ _ x => x) (fun _ _ x => x.elim); (case zzqB => k_asm); (case zzqF => k_asm); (case zzqX => k_asm); (case zzqT => k_asm); (case zzqk => first | exact rfl | assumption); (case zzqs => first | exact rfl | assumption); (case zzqr => first | exact rfl | assumption); (case zzqR => first | exact rfl | assumption); (case zzqN => k_asm); (case zzq0 => omega); (case zzq1 => omega); (case zzq2 => omega); (case zzq3 => omega); (case zzq4 => omega); (case zzq5 => omega); (case zzqI => l_ints); (case zzqJ => l_ints); (case zzqK => assumption); (case zzqa => first | decide | omega); (case zzqb => first | decide | omega); (case zzqm => first | decide | assumption); (case zzqd => ktr_room); (case zzqu => ktr_units); k_whole); intro m9 h9 tk9 vS9 nS9 tr9 F9 hs9 hr9 hR9 N9 iS9 hm9; (try dsimp only); (try k_sweep)))
  (k_with "eval Name" => (k_here; k_dflt (refine' ld ?zzk1 ?zzk2 ?_; (case zzk1 => k_asm); (case zzk2 => assumption); k_whole)))
  k_dflt (refine wpAny_call ?_; refine' code_def (binds := [(Str.ofString "ranks", .ref l)]) ?k1 ?k2 ?k3 ?k4 ?k5 ?kA ?kF ?kK ?k6 ?k7 ?k8 ?k9 ?kB ?_ ?c2 ?c3 ?c4 ?c5; (case kA => exact rfl); (case kF => exact rfl); (case kK => assumption); (case k1 => k_asm); (case k2 => k_asm); (case k3 => k_asm); (case k4 => k_asm); (case k5 => k_asm); (case k6 => k_is); (case k7 => k_is); (case k8 => ktr_room); (case k9 => exact BindsTo.of_eq rfl); (case c5 => decide); (case kB => exact locs rfl); (case c2 => exact rfl); (case c3 => exact rfl); (case c4 => exact rfl); k_whole; intro g' L' h' FG' F' N' B' X' T'; (try dsimp only); (try k_lift B'); (try k_fold))
  k_steps
  all_goals exact cb_retI hret rfl (by k_asm) (cb_drop (by k_asm) (by lcg_sub))
end
end Mine
end
section
theorem Mine.off_Y0 : True := by
  w_top off
  (try walk1)
  k_with_none
  (k_with "lt" => (with_reducible first | assumption | ((fail_if_success (fail_if_success (refine' Mine.guardLt ?qg ?qh; (case qg => assumption)))); first | (refine' And.left ?qx; case qx => first | assumption | (refine' And.right ?qx; case qx => first | assumption | (refine' And.right ?qx; case qx => first | assumption | (refine' And.right ?qx; case qx => first | assumption | (refine' And.right ?qx; case qx => first | assumption | (refine' And.right ?qx; case qx => first | assumption | (refine' And.right ?qx; case qx => first | assumption | (refine' And.right ?qx; case qx => first | assumption | (refine' And.right ?qx; case qx => first | assumption | (refine' And.right ?qx; case qx => first | assumption | (refine' And.right ?qx; case qx => first | assumption | (refine' And.right ?qx; case qx => first | assumption | (refine' And.right ?qx; case qx => first | assumption | (refine' And.right ?qx; case qx => first | assumption | (refine' And.right ?qx; case qx => first | assumption | (refine' And.right ?qx; case qx => first | assumption | (refine' And.right ?qx; case qx => first | assumption | (refine' And.right ?qx; case qx => first | assumption | (refine' And.right ?qx; case qx => first | assumption | (refine' And.right ?qx; case qx => first | assumption | (refine' And.right ?qx; case qx => assumption))))))))))))))))))))) | (refine' And.right ?qx; case qx => first | assumption | (refine' And.right ?qx; case qx => first | assumption | (refine' And.right ?qx; case qx => first | assumption | (refine' And.right ?qx; case qx => first | assumption | (refine' And.right ?qx; case qx => first | assumption | (refine' And.right ?qx; case qx => first | assumption | (refine' And.right ?qx; case qx => first | assumption | (refine' And.right ?qx; case qx => first | assumption | (refine' And.right ?qx; case qx => first | assumption | (refine' And.right ?qx; case qx => first | assumption | (refine' And.right ?qx; case qx => first | assumption | (refine' And.right ?qx; case qx => first | assumption | (refine' And.right ?qx; case qx => first | assumption | (refine' And.right ?qx; case qx => first | assumption | (refine' And.right ?qx; case qx => first | assumption | (refine' And.right ?qx; case qx => first | assumption | (refine' And.right ?qx; case qx => first | assumption | (refine' And.right ?qx; case qx => first | assumption | (refine' And.right ?qx; case qx => first | assumption | (refine' And.right ?qx; case qx => first | assumption | (refine' And.right ?qx; case qx => assumption)))))))))))))))))))))) | (refine Nat.lt_trans ?_ (by assumption); k_extra "lt")))
  (k_with "omega" => (first | (with_reducible assumption) | (with_reducible exact Ne.symm (by assumption)) | (with_reducible refine Nat.ne_of_lt ?_; k_extra "lt") | (with_reducible refine Nat.ne_of_gt ?_; k_extra "lt") | ((with_reducible refine' Mine.room ?qx ?qy); (case qx => with_reducible assumption); (case qy => exact rfl)) | ((with_reducible refine' Mine.room2 ?qx ?qy); (case qx => with_reducible assumption); (case qy => exact rfl)) | ((with_reducible refine' Mine.room0 ?qx); (case qx => with_reducible assumption)) | (with_reducible refine Mine.isLt ?_; k_extra "lt")))
  trivial
open PySem PySem.W PyProof.Rows PySem.Calls PySem.Spec
set_option maxRecDepth 100000
namespace Mine
noncomputable abbrev two (elt it1 it2 : Expr) (x y : Str) (px py : Pos) (scope : Scope) (pos : Pos) : Expr := .ListComp elt [⟨.Name x px, it1, [], 0⟩, ⟨.Name y py, it2, [], 0⟩] scope pos
theorem two_turn1 (elt it1 it2 : Expr) (x y : Str) (px py : Pos) (scope : Scope) (pos : Pos) (it acc : Value) (env : Env) :
    compTurn (two elt it1 it2 x y px py scope pos) 1 it acc env = (standAt it2.pos >>= fun _ => pyNext it >>= fun r => match r with
      | none => pure (.done .next)
      | some v => letOwnedTupleGo (.Name y py) it v >>= fun _ => assign (.Name y py) env v >>= fun _ =>
        (eval elt env >>= fun z => call (.builtin "list.append") [acc, z] >>= fun _ => pure ()) >>= fun _ =>
          again (.compLoop (two elt it1 it2 x y px py scope pos) 1 it acc env)) := by rfl
theorem two_turn0 (elt it1 it2 : Expr) (x y : Str) (px py : Pos) (scope : Scope) (pos : Pos) (it acc : Value) (env : Env) :
    compTurn (two elt it1 it2 x y px py scope pos) 0 it acc env = (standAt it1.pos >>= fun _ => pyNext it >>= fun r => match r with
      | none => pure (.done .next)
      | some v => letOwnedTupleGo (.Name x px) it v >>= fun _ => assign (.Name x px) env v >>= fun _ =>
        eval it2 env >>= fun xv => standAt it2.pos >>= fun _ => foldedSetIterable it2 env xv >>= fun xw => holding [xw] (pyIter xw) >>= fun iv =>
          runOwn (.compStart (two elt it1 it2 x y px py scope pos) 1 iv acc env) env >>= fun _ =>
          again (.compLoop (two elt it1 it2 x y px py scope pos) 0 it acc env)) := by rfl
section
variable {prog : Program} {w : World} {A : Around} {R : Result → Shared → Prop} {s : Shared} {elt it1 it2 : Expr} {x y : Str} {px py pos : Pos} {scope : Scope} {env : Env} {acc : Value} {I : Addr} {n : Nat}
theorem two_in (Inv : Nat → Shared → Prop)
    (item : ∀ j s', Inv j s' → j < n → ∀ E, wpAny (model prog w) A (pyNext (.ref I)) (fun r s₁ => ∃ v, r = some v ∧ wpAny (model prog w) A (assign (.Name y py) env v) (fun _ s₂ => wpAny (model prog w) A (eval elt env) (fun z s₃ =>
      wpAny (model prog w) A (call (.builtin "list.append") [acc, z]) (fun _ s₄ => Inv (j + 1) s₄) E s₃) E s₂) E s₁) E s')
    (done : ∀ s', Inv n s' → ∀ E, wpAny (model prog w) A (pyNext (.ref I)) (fun r s₁ => r = none ∧ R (.ok .next) s₁) E s')
    (h : Inv 0 s) : codeAny (model prog w) A (.compLoop (two elt it1 it2 x y px py scope pos) 1 (.ref I) acc env) R s := by
  refine codeAny_loop rfl (fun k s' => ∃ j, j ≤ n ∧ k = n - j ∧ Inv j s') (fun k s' hI => ?_) n ⟨0, Nat.zero_le _, rfl, h⟩
  obtain ⟨j, hj, hk, hI⟩ := hI
  show wpAny _ A ((compTurn (two elt it1 it2 x y px py scope pos) 1 (.ref I) acc env).onRaise (fun x => do noteFrame x env; theTreesLotGoes x)) _ _ s'
  refine wpAny_noted ?_
  rw [two_turn1]
  refine wpAny_bind (wpAny_standAt (wpAny_bind ?_))
  by_cases hlt : j < n
  · refine wpAny_mono (item j s' hI hlt _) (fun r s₁ h₁ => ?_) fun _ _ e => e
    obtain ⟨v, rfl, h₁⟩ := h₁
    refine wpAny_bind (wpAny_of_eq (show letOwnedTupleGo (.Name y py) (.ref I) v = pure () from rfl) ?_)
    exact wpAny_bind (wpAny_mono h₁ (fun _ s₂ h₂ => wpAny_bind (wpAny_bind (wpAny_mono h₂ (fun z s₃ h₃ => wpAny_bind (wpAny_mono h₃
      (fun _ s₄ h₄ => wpAny_pure (wpAny_pure ⟨rfl, _, (by omega : n - (j + 1) < k), j + 1, hlt, rfl, h₄⟩)) fun _ _ e => e)) fun _ _ e => e))) fun _ _ e => e)
  · obtain rfl : j = n := by omega
    refine wpAny_mono (done s' hI _) (fun r s₁ h₁ => ?_) fun _ _ e => e
    obtain ⟨rfl, h₁⟩ := h₁
    exact wpAny_pure h₁
theorem two_start (h0 : codeAny (model prog w) A (.compLoop (two elt it1 it2 x y px py scope pos) 1 (.ref I) acc env) R s) (h : ∀ E, wpAny (model prog w) A (pyIter (.ref I)) (fun v s' => v = .ref I ∧ s' = s) E s) :
    codeAny (model prog w) A (.compStart (two elt it1 it2 x y px py scope pos) 1 (.ref I) acc env) R s := by
  refine codeAny_of_tree ?_
  show wpAny _ _ ((compStart (two elt it1 it2 x y px py scope pos) 1 (.ref I) acc env).onRaise (fun x => do noteFrame x env; standAt theWindowsPlace)) _ _ s
  refine wpAny_notedAt ?_
  unfold compStart
  show wpAny _ _ (ask >>= _) _ _ s
  refine wpAny_bind (wpAny_askSetting (wpAny_ite ?_))
  split
  · first
      | exact wpAny_bind (wpAny_pure (wpAny_pure (And.intro rfl h0)))
      | exact wpAny_pure (And.intro rfl h0)
  · refine wpAny_bind (wpAny_rule ?_)
    show wpAny _ _ (standAt it2.pos >>= _) _ _ s
    exact wpAny_bind (wpAny_standAt (wpAny_bind (wpAny_mono (h _) (fun it' s' h' => by obtain ⟨rfl, rfl⟩ := h'; exact wpAny_pure (And.intro rfl h0)) fun _ _ x => x)))
theorem two_out (Inv : Nat → Shared → Prop)
    (item : ∀ i s', Inv i s' → i < n → ∀ E, wpAny (model prog w) A (pyNext (.ref I)) (fun r s₁ => ∃ v, r = some v ∧ wpAny (model prog w) A (assign (.Name x px) env v) (fun _ s₂ => wpAny (model prog w) A (eval it2 env) (fun z s₃ =>
      wpAny (model prog w) A (pyIter z) (fun iv s₄ => codeAny (model prog w) A (.compStart (two elt it1 it2 x y px py scope pos) 1 iv acc env) (fun r s₅ => r = .ok .next ∧ Inv (i + 1) s₅) s₄) E s₃) E s₂) E s₁) E s')
    (hs : ∀ z, foldedSetIterable it2 env z = pure z)
    (done : ∀ s', Inv n s' → ∀ E, wpAny (model prog w) A (pyNext (.ref I)) (fun r s₁ => r = none ∧ R (.ok .next) s₁) E s')
    (h : Inv 0 s) : codeAny (model prog w) A (.compLoop (two elt it1 it2 x y px py scope pos) 0 (.ref I) acc env) R s := by
  refine codeAny_loop rfl (fun k s' => ∃ j, j ≤ n ∧ k = n - j ∧ Inv j s') (fun k s' hI => ?_) n ⟨0, Nat.zero_le _, rfl, h⟩
  obtain ⟨j, hj, hk, hI⟩ := hI
  show wpAny _ A ((compTurn (two elt it1 it2 x y px py scope pos) 0 (.ref I) acc env).onRaise (fun x => do noteFrame x env; theTreesLotGoes x)) _ _ s'
  refine wpAny_noted ?_
  rw [two_turn0]
  refine wpAny_bind (wpAny_standAt (wpAny_bind ?_))
  by_cases hlt : j < n
  · refine wpAny_mono (item j s' hI hlt _) (fun r s₁ h₁ => ?_) fun _ _ e => e
    obtain ⟨v, rfl, h₁⟩ := h₁
    refine wpAny_bind (wpAny_of_eq (show letOwnedTupleGo (.Name x px) (.ref I) v = pure () from rfl) ?_)
    refine wpAny_bind (wpAny_mono h₁ (fun _ s₂ h₂ => wpAny_bind (wpAny_mono h₂ (fun z s₃ h₃ => wpAny_bind (wpAny_standAt (wpAny_bind (wpAny_of_eq (hs z) (wpAny_bind (wpAny_holding (wpAny_mono h₃ (fun iv s₄ h₄ => ?_) fun _ _ e => e))))))) fun _ _ e => e)) fun _ _ e => e)
    refine wpAny_bind (wpAny_runOwn (codeAny_mono h₄ fun r s₅ hr => ?_))
    obtain ⟨rfl, hr⟩ := hr
    exact wpAny_pure ⟨rfl, _, (by omega : n - (j + 1) < k), j + 1, hlt, rfl, hr⟩
  · obtain rfl : j = n := by omega
    refine wpAny_mono (done s' hI _) (fun r s₁ h₁ => ?_) fun _ _ e => e
    obtain ⟨rfl, h₁⟩ := h₁
    exact wpAny_pure h₁
end
end Mine
end
section
theorem Mine.off_Y2 : True := by
  w_top off
  (try walk1)
  k_with_none
  (k_with "lt" => (with_reducible first | assumption | ((fail_if_success (fail_if_success (refine' Mine.guardLt ?qg ?qh; (case qg => assumption)))); first | (refine' And.left ?qx; case qx => first | assumption | (refine' And.right ?qx; case qx => first | assumption | (refine' And.right ?qx; case qx => first | assumption | (refine' And.right ?qx; case qx => first | assumption | (refine' And.right ?qx; case qx => first | assumption | (refine' And.right ?qx; case qx => first | assumption | (refine' And.right ?qx; case qx => first | assumption | (refine' And.right ?qx; case qx => first | assumption | (refine' And.right ?qx; case qx => first | assumption | (refine' And.right ?qx; case qx => first | assumption | (refine' And.right ?qx; case qx => first | assumption | (refine' And.right ?qx; case qx => first | assumption | (refine' And.right ?qx; case qx => first | assumption | (refine' And.right ?qx; case qx => first | assumption | (refine' And.right ?qx; case qx => first | assumption | (refine' And.right ?qx; case qx => first | assumption | (refine' And.right ?qx; case qx => first | assumption | (refine' And.right ?qx; case qx => first | assumption | (refine' And.right ?qx; case qx => first | assumption | (refine' And.right ?qx; case qx => first | assumption | (refine' And.right ?qx; case qx => assumption))))))))))))))))))))) | (refine' And.right ?qx; case qx => first | assumption | (refine' And.right ?qx; case qx => first | assumption | (refine' And.right ?qx; case qx => first | assumption | (refine' And.right ?qx; case qx => first | assumption | (refine' And.right ?qx; case qx => first | assumption | (refine' And.right ?qx; case qx => first | assumption | (refine' And.right ?qx; case qx => first | assumption | (refine' And.right ?qx; case qx => first | assumption | (refine' And.right ?qx; case qx => first | assumption | (refine' And.right ?qx; case qx => first | assumption | (refine' And.right ?qx; case qx => first | assumption | (refine' And.right ?qx; case qx => first | assumption | (refine' And.right ?qx; case qx => first | assumption | (refine' And.right ?qx; case qx => first | assumption | (refine' And.right ?qx; case qx => first | assumption | (refine' And.right ?qx; case qx => first | assumption | (refine' And.right ?qx; case qx => first | assumption | (refine' And.right ?qx; case qx => first | assumption | (refine' And.right ?qx; case qx => first | assumption | (refine' And.right ?qx; case qx => first | assumption | (refine' And.right ?qx; case qx => assumption)))))))))))))))))))))) | (refine Nat.lt_trans ?_ (by assumption); k_extra "lt")))
  (k_with "omega" => (first | (with_reducible assumption) | (with_reducible exact Ne.symm (by assumption)) | (with_reducible refine Nat.ne_of_lt ?_; k_extra "lt") | (with_reducible refine Nat.ne_of_gt ?_; k_extra "lt") | ((with_reducible refine' Mine.room ?qx ?qy); (case qx => with_reducible assumption); (case qy => exact rfl)) | ((with_reducible refine' Mine.room2 ?qx ?qy); (case qx => with_reducible assumption); (case qy => exact rfl)) | ((with_reducible refine' Mine.room0 ?qx); (case qx => with_reducible assumption)) | (with_reducible refine Mine.isLt ?_; k_extra "lt")))
  trivial
open PySem PySem.W PyProof.Rows PySem.Calls PySem.Spec
set_option maxRecDepth 100000
namespace Mine
noncomputable def upTo (f : Nat → Nat → Str) (n i : Nat) : List Str := (List.range i).flatMap fun a => (List.range n).map (f a)
theorem upTo_succ (f : Nat → Nat → Str) (n i : Nat) : upTo f n (i + 1) = upTo f n i ++ (List.range n).map (f i) := by
  simp [upTo, List.range_succ]
theorem strs_snoc : ∀ {vs : List Value} {ys : List Str} (y : Str) (t : Tok), StrsAre vs ys → StrsAre (vs ++ [.str y t]) (ys ++ [y])
  | _, _, y, t, .nil => .cons y t .nil
  | _, _, y, t, .cons z u h => .cons z u (strs_snoc y t h)
theorem strs_length : ∀ {vs : List Value} {ys : List Str}, StrsAre vs ys → vs.length = ys.length
  | _, _, .nil => rfl
  | _, _, .cons _ _ h => congrArg (· + 1) (strs_length h)
theorem upTo_length (f : Nat → Nat → Str) (n : Nat) : ∀ i, (upTo f n i).length = i * n
  | 0 => by simp [upTo]
  | i + 1 => by rw [upTo_succ, List.length_append, upTo_length f n i, List.length_map, List.length_range, Nat.succ_mul]
/-- a fact at a walk's end -/
noncomputable def Held (P : Prop) : Prop := P
noncomputable abbrev SI (h : Heap) (I : Addr) (i n : Nat) : Prop := IsRangeIter h I (0 + ((i : Nat) : Int) * 1) ((n : Int) - ((i : Nat) : Int)) 1
section
variable {prog : Program} {w : World} {A : Around} {E : Value → Shared → Prop} {s : Shared} {h₀ : Heap} {L : Addr} {m : Str → Option Value} {env : Env} {news : List (Addr × Obj)}
theorem si_get {h : Heap} {I : Addr} {i n : Nat} (e : SI h I i n) : ∃ o, h.get? I = some o := ⟨_, e⟩
theorem si_keeps {h h' : Heap} {I : Addr} {i n : Nat} (e : SI h I i n) (k : ∀ o, h.get? I = some o → h'.get? I = some o) : SI h' I i n := k _ e
theorem si_to {h h' : Heap} {I : Addr} {i n : Nat} {o : Obj} (e : SI h I i n) (g : h.get? I = some o) (g' : h'.get? I = some o) : SI h' I i n := by
  have e' : h.get? I = some _ := e
  rw [e'] at g
  cases g
  exact g'
theorem lt_of_get {h : Heap} {a : Addr} {o : Obj} (e : h.get? a = some o) : @LT.lt Nat _ a h.objs.size := Heap.lt_size e
theorem two_comp {elt it1 it2 : Expr} {x y : Str} {px py pos : Pos} {scope : Scope} {cl : List (Str × Addr)} {f : Nat → Nat → Str} {n1 n2 : Nat} {Q : Value → Shared → Prop}
    (_F : Fr h₀ L s.heap m) (_N : News h₀ L s.heap news) (hclos : closureFor scope env = pure cl) (hcell : ∀ z ∈ scope.names, z.2 ≠ .cell) (hkind : scope.kind = .function)
    (hnames : ∀ z ∈ scope.names, z.2 = .local → scope.names.lookup z.1 = some .local) (hx : scope.names.lookup x = some .local) (hy : scope.names.lookup y = some .local) (hxy : ¬ x = y)
    (hb : n1 * n2 + n2 ≤ 1000) (hh : A.handled = none)
    (h1 : wpAny (model prog w) A (eval it1 env) (fun xv s₁ => Held (∃ r t u v h tk, xv = .ref r ∧ s₁ = { s with heap := h, toks := tk } ∧ IsRange h r 0 (n1 : Int) 1 t u v ∧ Fr h₀ L h m ∧ News h₀ L h news)) E s)
    (hs1 : Builtin.Range.small 0 (n1 : Int) 1 = true) (hz1 : Builtin.Range.rangeSize 0 (n1 : Int) 1 = (n1 : Int)) (hs2 : Builtin.Range.small 0 (n2 : Int) 1 = true) (hz2 : Builtin.Range.rangeSize 0 (n2 : Int) 1 = (n2 : Int))
    (h2 : ∀ C oC m₂ h tk nw (E' : Value → Shared → Prop), LCg.NsObj oC m₂ → Fr h₀ L h m → News h₀ L h ((C, oC) :: nw) →
      wpAny (model prog w) A (eval it2 (compEnvC scope cl C env)) (fun xv s₁ => Held (∃ r t u v h' tk', xv = .ref r ∧ s₁ = { s with heap := h', toks := tk' } ∧ IsRange h' r 0 (n2 : Int) 1 t u v ∧ Fr h₀ L h' m ∧ News h₀ L h' ((C, oC) :: nw))) E' { s with heap := h, toks := tk })
    (helt : ∀ (i j : Nat) ti tj C oC m₂ h tk (E' : Value → Shared → Prop), i < n1 → j < n2 → LCg.NsObj oC m₂ → m₂ x = some (.int (0 + (i : Int)) ti) → m₂ y = some (.int (0 + (j : Int)) tj) → Fr h₀ L h m → News h₀ L h ((C, oC) :: news) →
      wpAny (model prog w) A (eval elt (compEnvC scope cl C env)) (fun v s₁ => Held (∃ t tk', v = .str (f i j) t ∧ s₁ = { s with heap := h, toks := tk' })) E' { s with heap := h, toks := tk })
    (fin : ∀ D h tk ys, Fr h₀ L h m → News h₀ L h ((D, LCg.lst ys) :: news) → StrsAre ys (upTo f n2 n1) → Q (.ref D) { s with heap := h, toks := tk })
    (hf1 : ∀ z, foldedSetIterable it1 env z = pure z) (hf2 : ∀ C z, foldedSetIterable it2 (compEnvC scope cl C env) z = pure z) :
    wpAny (model prog w) A (eval (two elt it1 it2 x y px py scope pos) env) Q E s := by
  rw [eval_ListComp]
  refine wpAny_comprehension_free (use := none) rfl hf1 hclos hkind hnames (wpAny_mono h1 (fun xv s₁ h₁ => ?_) fun _ _ e => e)
  obtain ⟨r, t, u, v, h, tk, rfl, rfl, hr, F, N⟩ := h₁
  refine wpAny_pyIter_range hr hs1 ?_
  rw [hz1]
  refine wpAny_newObj_type (wpAny_newFunctionEnv hcell (by intro z hz; simp at hz) (fun g hns hsb => ?_) hkind)
  dsimp only at hns hsb ⊢
  -- the iterator, the list, the block's names
  have fresh : ∀ a, @LE.le Nat _ h.objs.size a → h₀.get? a = none := fun a ha => by
    cases e : h₀.get? a with
    | none => rfl
    | some o => exact absurd (lt_of_get (F.keep a o e)) (Nat.not_lt.mpr ha)
  have hLh : @LT.lt Nat _ L h.objs.size := F.ns.lt
  generalize hit : ({ cls := .type "range_iterator", data := .fields #[rawInt 0, rawInt (n1 : Int), rawInt 1] } : Obj) = itO at hns hsb ⊢
  have sz0 : (h.push itO).objs.size = h.objs.size + 1 := Heap.size_push ..
  generalize hH1 : (h.push itO).push { cls := .type "list", dict := none, data := .seq ([] : List Value).toArray } = H1 at hns hsb ⊢
  have sz1 : H1.objs.size = h.objs.size + 2 := by rw [← hH1, Heap.size_push, sz0]
  generalize hC : H1.objs.size = C at hns hsb sz1 ⊢
  generalize hD : (h.push itO).objs.size = D at sz0 ⊢
  have hIC : @LT.lt Nat _ h.objs.size C := by omega
  have hDC : @LT.lt Nat _ D C := by omega
  have hID : @LT.lt Nat _ h.objs.size D := by omega
  have low : ∀ b o, h.get? b = some o → g.get? b = some o := fun b o e => hsb.extBut b o (Nat.ne_of_lt (Nat.lt_trans (lt_of_get e) hIC)) (Heap.get?_push_of_some _ (hH1 ▸ Heap.get?_push_of_some _ (Heap.get?_push_of_some _ e)))
  have atI : g.get? h.objs.size = some itO := hsb.extBut _ _ (Nat.ne_of_lt hIC) (Heap.get?_push_of_some _ (hH1 ▸ Heap.get?_push_of_some _ (Heap.get?_push_size _ (by rw [← hit]; rfl))))
  have atD : g.get? D = some (LCg.lst []) := hsb.extBut _ _ (Nat.ne_of_lt hDC) (Heap.get?_push_of_some _ (hH1 ▸ hD ▸ Heap.get?_push_size _ rfl))
  generalize hI : h.objs.size = I at *
  have offN : ∀ p ∈ news, p.1 ≠ I ∧ p.1 ≠ C ∧ p.1 ≠ D := fun p hp => by
    have := hI ▸ lt_of_get (N p hp).1
    exact ⟨Nat.ne_of_lt this, Nat.ne_of_lt (Nat.lt_trans this hIC), Nat.ne_of_lt (Nat.lt_trans this hID)⟩
  have hLI : L ≠ I := Nat.ne_of_lt hLh
  have hLC : L ≠ C := Nat.ne_of_lt (Nat.lt_trans hLh hIC)
  have hLD : L ≠ D := Nat.ne_of_lt (Nat.lt_trans hLh hID)
  have fI := fresh I (Nat.le_refl _)
  have fC := fresh C (Nat.le_of_lt hIC)
  have fD := fresh D (Nat.le_of_lt hID)
  have nIC : C ≠ I := (Nat.ne_of_lt hIC).symm
  have nDC : C ≠ D := (Nat.ne_of_lt hDC).symm
  have nID : D ≠ I := (Nat.ne_of_lt hID).symm
  have loop : ∀ s₃ : Shared, s₃ = { s with heap := g, toks := tk + ([] : List (Str × Value)).length } →
      codeAny (model prog w) A (.compLoop (two elt it1 it2 x y px py scope pos) 0 (.ref I) (.ref D) (compEnvC scope cl C env)) (compPost (model prog w) A E none Q (.ref D) C) s₃ := by
    rintro s₃ rfl
    have W := LCg.range_walks (prog := prog) (w := w) (I := I) hh 0 n1
    refine two_out (n := n1) (fun i s' => ∃ h' tk' ys m', s' = { s with heap := h', toks := tk' } ∧ SI h' I i n1 ∧ Fr h₀ L h' m ∧ h'.Ns C m' ∧ News h₀ L h' ((D, LCg.lst ys) :: news) ∧ StrsAre ys (upTo f n2 i)) ?_ (hf2 C) ?_ ?_
    · rintro i s' ⟨h', tk', ys, m', rfl, st, F', n', N', S'⟩ hlt E1
      refine W.item i _ _ _ hlt st fun v h₂ tk₂ hv st₂ hk₂ => ?_
      obtain ⟨ti, rfl⟩ := hv
      refine ⟨_, rfl, wpAny_assign_Name (wpAny_storeName_local (lookup_relabel_local hx) (n'.at' fun o e => hk₂ _ o (by simpa using nIC) e) (fun h₃ n₃ s₃ => ?_) (by simp [compEnvC, relabel, hkind]))⟩
      have F₂ : Fr h₀ L h₂ m := LCg.fr_but F' hk₂ hLI fI
      have N₂ : News h₀ L h₂ ((D, LCg.lst ys) :: news) := LCg.news_but N' hk₂ fun p hp => by
        rcases List.mem_cons.mp hp with rfl | hp
        · exact nID
        · exact (offN p hp).1
      have k₃ : ∀ b o, b ∉ [C] → h₂.get? b = some o → h₃.get? b = some o := fun b o hb e => (s₃.2 b (fun q => hb (List.mem_singleton.mpr q))).trans e
      have F₃ : Fr h₀ L h₃ m := LCg.fr_but F₂ k₃ hLC fC
      have N₃ : News h₀ L h₃ ((D, LCg.lst ys) :: news) := LCg.news_but N₂ k₃ fun p hp => by
        rcases List.mem_cons.mp hp with rfl | hp
        · exact nDC.symm
        · exact (offN p hp).2.1
      have st₃ : SI h₃ I (i + 1) n1 := si_keeps st₂ fun o e => k₃ _ o (by simpa using nIC.symm) e
      obtain ⟨oC, eC, hoC⟩ := LCg.ns_obj n₃
      obtain ⟨oI, eI⟩ := si_get st₃
      refine wpAny_mono (h2 C oC _ h₃ _ ((I, oI) :: (D, LCg.lst ys) :: news) _ hoC F₃ fun p hp => ?_) (fun xv s₁ q => ?_) fun _ _ e => e
      · rcases List.mem_cons.mp hp with rfl | hp
        · exact ⟨eC, hLC.symm, fC⟩
        · rcases List.mem_cons.mp hp with rfl | hp
          · exact ⟨eI, hLI.symm, fI⟩
          · exact N₃ p hp
      obtain ⟨r2, t2, u2, v2, h₄, tk₄, rfl, rfl, hr2, F₄, M₄⟩ := q
      refine wpAny_pyIter_range hr2 hs2 ?_
      rw [hz2]
      dsimp only
      have N₄ : News h₀ L h₄ ((D, LCg.lst ys) :: news) := fun p hp => M₄ p (.tail _ (.tail _ hp))
      have eC₄ := (M₄ _ (.head _)).1
      have n₄ := hoC.ns eC₄
      have st₄ : SI h₄ I (i + 1) n1 := si_to st₃ eI (M₄ _ (.tail _ (.head _))).1
      have fresh₂ : h₀.get? h₄.objs.size = none := by
        cases e : h₀.get? h₄.objs.size with
        | none => rfl
        | some o => exact absurd (lt_of_get (F₄.keep _ o e)) (Nat.lt_irrefl _)
      have up : ∀ b o, h₄.get? b = some o → (h₄.push { cls := .type "range_iterator", data := .fields #[rawInt 0, rawInt (n2 : Int), rawInt 1] }).get? b = some o := fun b o e => Heap.get?_push_of_some _ e
      have gI2 : ∀ {a : Addr} {o : Obj}, h₄.get? a = some o → a ≠ h₄.objs.size := fun e => Nat.ne_of_lt (lt_of_get e)
      have at2 : (h₄.push { cls := .type "range_iterator", data := .fields #[rawInt 0, rawInt (n2 : Int), rawInt 1] }).get? h₄.objs.size = some { cls := .type "range_iterator", data := .fields #[rawInt 0, rawInt (n2 : Int), rawInt 1] } := Heap.get?_push_size _ rfl
      have dI2 : I ≠ h₄.objs.size := by obtain ⟨o, e⟩ := si_get st₄; exact gI2 e
      have dC2 : C ≠ h₄.objs.size := gI2 eC₄
      have dD2 : D ≠ h₄.objs.size := gI2 (N₄ _ (.head _)).1
      have dL2 : L ≠ h₄.objs.size := Nat.ne_of_lt F₄.ns.lt
      have dN2 : ∀ p ∈ news, p.1 ≠ h₄.objs.size := fun p hp => gI2 (N₄ p (.tail _ hp)).1
      generalize h₄.objs.size = I2 at *
      generalize h₄.push { cls := .type "range_iterator", data := .fields #[rawInt 0, rawInt (n2 : Int), rawInt 1] } = h₅ at *
      have W2 := LCg.range_walks (prog := prog) (w := w) (I := I2) hh 0 n2
      have st2 : SI h₅ I2 0 n2 := by
        show h₅.get? I2 = some _
        rw [at2]
        simp [rawInt]
      refine two_start (two_in (n := n2) (fun j s' => ∃ h' tk' ys' m', s' = { s with heap := h', toks := tk' } ∧ SI h' I2 j n2 ∧ SI h' I (i + 1) n1 ∧ Fr h₀ L h' m ∧ h'.Ns C m' ∧ m' x = some (.int (0 + (i : Int)) ti) ∧ News h₀ L h' ((D, LCg.lst ys') :: news) ∧ StrsAre ys' (upTo f n2 i ++ (List.range j).map (f i))) ?_ ?_ ?_) ?_
      · rintro j s' ⟨h', tk', ys', m'', rfl, sj, si, F', n', hk, N', S'⟩ hj E2
        refine W2.item j _ _ _ hj sj fun v h₆ tk₆ hv sj₆ hk₆ => ?_
        obtain ⟨tj, rfl⟩ := hv
        refine ⟨_, rfl, wpAny_assign_Name (wpAny_storeName_local (lookup_relabel_local hy) (n'.at' fun o e => hk₆ _ o (by simpa using dC2) e) (fun h₇ n₇ s₇ => ?_) (by simp [compEnvC, relabel, hkind]))⟩
        have k₇ : ∀ b o, b ∉ [C] → h₆.get? b = some o → h₇.get? b = some o := fun b o hb e => (s₇.2 b (fun q => hb (List.mem_singleton.mpr q))).trans e
        have F₇ : Fr h₀ L h₇ m := LCg.fr_but (LCg.fr_but F' hk₆ dL2 fresh₂) k₇ hLC fC
        have N₇ : News h₀ L h₇ ((D, LCg.lst ys') :: news) := LCg.news_but (LCg.news_but N' hk₆ fun p hp => by
          rcases List.mem_cons.mp hp with rfl | hp
          · exact dD2
          · exact dN2 p hp) k₇ fun p hp => by
            rcases List.mem_cons.mp hp with rfl | hp
            · exact nDC.symm
            · exact (offN p hp).2.1
        have sj₇ : SI h₇ I2 (j + 1) n2 := si_keeps sj₆ fun o e => k₇ _ o (by simpa using dC2.symm) e
        have si₇ : SI h₇ I (i + 1) n1 := si_keeps (si_keeps si fun o e => hk₆ _ o (by simpa using dI2) e) fun o e => k₇ _ o (by simpa using nIC.symm) e
        obtain ⟨oC7, eC7, hoC7⟩ := LCg.ns_obj n₇
        refine wpAny_mono (helt i j ti tj C oC7 _ h₇ _ _ hlt hj hoC7 (by rw [if_neg hxy]; exact hk) (by simp) F₇ fun p hp => ?_) (fun z s₁ q => ?_) fun _ _ e => e
        · rcases List.mem_cons.mp hp with rfl | hp
          · exact ⟨eC7, hLC.symm, fC⟩
          · exact N₇ p (.tail _ hp)
        obtain ⟨tz, tk8, rfl, rfl⟩ := q
        have hlen : ys'.length = i * n2 + j := by rw [strs_length S', List.length_append, upTo_length, List.length_map, List.length_range]
        have him : i * n2 ≤ n1 * n2 := Nat.mul_le_mul_right _ (Nat.le_of_lt hlt)
        refine append_at (hsz := by show ys'.toArray.size ≤ sizeLine; rw [List.size_toArray, hlen, sizeLine_eq]; omega) (N₇ _ (.head _)).1 fun h₈ s₈ hD₈ => ?_
        have k₈ : ∀ b o, b ∉ [D] → h₇.get? b = some o → h₈.get? b = some o := fun b o hb e => (s₈.2 b (by simpa using hb)).trans e
        refine ⟨h₈, tk8, ys' ++ [.str (f i j) tz], _, rfl, si_keeps sj₇ fun o e => k₈ _ o (by simpa using dD2.symm) e, si_keeps si₇ fun o e => k₈ _ o (by simpa using nID.symm) e, LCg.fr_but F₇ k₈ hLD fD,
          n₇.at' fun o e => k₈ _ o (fun q => nDC (List.mem_singleton.mp q)) e, by rw [if_neg hxy]; exact hk, fun p hp => ?_, ?_⟩
        · rcases List.mem_cons.mp hp with rfl | hp
          · exact ⟨hD₈.trans (congrArg some (LCg.lst_snoc ys' _)), hLD.symm, fD⟩
          · exact ⟨k₈ _ _ (by simpa using (offN p hp).2.2) (N₇ p (.tail _ hp)).1, (N₇ p (.tail _ hp)).2⟩
        · rw [List.range_succ, List.map_append, ← List.append_assoc]
          exact strs_snoc _ _ S'
      · rintro s' ⟨h', tk', ys', m'', rfl, sj, si, F', n', hk, N', S'⟩ E2
        refine W2.done _ _ _ sj fun h₆ tk₆ hk₆ => ⟨rfl, rfl, h₆, tk₆, ys', _, rfl, si_keeps si fun o e => hk₆ _ o (by simpa using dI2) e, LCg.fr_but F' hk₆ dL2 fresh₂, n'.at' fun o e => hk₆ _ o (by simpa using dC2) e,
          LCg.news_but N' hk₆ fun p hp => ?_, by rw [upTo_succ]; exact S'⟩
        rcases List.mem_cons.mp hp with rfl | hp
        · exact dD2
        · exact dN2 p hp
      · exact ⟨h₅, _, ys, _, rfl, st2, si_keeps st₄ fun o e => up _ o e, F₄.keeps up, n₄.at' fun o e => up _ o e, by simp, N₄.grown up, by simpa using S'⟩
      · intro E3
        exact W2.self 0 _ _ _ st2 ⟨rfl, rfl⟩
    · rintro s' ⟨h', tk', ys, m', rfl, st, F', n', N', S'⟩ E1
      refine W.done _ _ _ st fun h₂ tk₂ hk₂ => ⟨rfl, _, n'.at' fun o e => hk₂ _ o (by simpa using nIC) e, fun h₃ s₃ => fin D h₃ tk₂ ys ?_ ?_ S'⟩
      · exact (LCg.fr_but F' hk₂ hLI fI).change s₃ hLC.symm fC
      · have N₂ : News h₀ L h₂ ((D, LCg.lst ys) :: news) := LCg.news_but N' hk₂ fun p hp => by
          rcases List.mem_cons.mp hp with rfl | hp
          · exact nID
          · exact (offN p hp).1
        refine LCg.news_but N₂ (fun b o hb e => (s₃.2 b (by simpa using hb)).trans e) fun p hp => ?_
        rcases List.mem_cons.mp hp with rfl | hp
        · exact nDC.symm
        · exact (offN p hp).2.1
    · refine ⟨g, _, [], _, rfl, ?_, F.keeps low, hns, fun p hp => ?_, .nil⟩
      · show g.get? I = some _
        rw [atI, ← hit]
        simp [rawInt]
      · rcases List.mem_cons.mp hp with rfl | hp
        · exact ⟨atD, hLD.symm, fD⟩
        · exact ⟨low _ _ (N p hp).1, (N p hp).2⟩
  refine codeAny_compStart_list (loop _ rfl) ?_
  have W := LCg.range_walks (prog := prog) (w := w) (I := I) hh 0 n1
  refine W.self 0 _ _ _ ?_ (loop _ rfl)
  show g.get? I = some _
  rw [atI, ← hit]
  simp [rawInt]
end
end Mine
end
section
theorem Mine.off_Y1 : True := by
  w_top off
  (try walk1)
  k_with_none
  (k_with "lt" => (with_reducible first | assumption | ((fail_if_success (fail_if_success (refine' Mine.guardLt ?qg ?qh; (case qg => assumption)))); first | (refine' And.left ?qx; case qx => first | assumption | (refine' And.right ?qx; case qx => first | assumption | (refine' And.right ?qx; case qx => first | assumption | (refine' And.right ?qx; case qx => first | assumption | (refine' And.right ?qx; case qx => first | assumption | (refine' And.right ?qx; case qx => first | assumption | (refine' And.right ?qx; case qx => first | assumption | (refine' And.right ?qx; case qx => first | assumption | (refine' And.right ?qx; case qx => first | assumption | (refine' And.right ?qx; case qx => first | assumption | (refine' And.right ?qx; case qx => first | assumption | (refine' And.right ?qx; case qx => first | assumption | (refine' And.right ?qx; case qx => first | assumption | (refine' And.right ?qx; case qx => first | assumption | (refine' And.right ?qx; case qx => first | assumption | (refine' And.right ?qx; case qx => first | assumption | (refine' And.right ?qx; case qx => first | assumption | (refine' And.right ?qx; case qx => first | assumption | (refine' And.right ?qx; case qx => first | assumption | (refine' And.right ?qx; case qx => first | assumption | (refine' And.right ?qx; case qx => assumption))))))))))))))))))))) | (refine' And.right ?qx; case qx => first | assumption | (refine' And.right ?qx; case qx => first | assumption | (refine' And.right ?qx; case qx => first | assumption | (refine' And.right ?qx; case qx => first | assumption | (refine' And.right ?qx; case qx => first | assumption | (refine' And.right ?qx; case qx => first | assumption | (refine' And.right ?qx; case qx => first | assumption | (refine' And.right ?qx; case qx => first | assumption | (refine' And.right ?qx; case qx => first | assumption | (refine' And.right ?qx; case qx => first | assumption | (refine' And.right ?qx; case qx => first | assumption | (refine' And.right ?qx; case qx => first | assumption | (refine' And.right ?qx; case qx => first | assumption | (refine' And.right ?qx; case qx => first | assumption | (refine' And.right ?qx; case qx => first | assumption | (refine' And.right ?qx; case qx => first | assumption | (refine' And.right ?qx; case qx => first | assumption | (refine' And.right ?qx; case qx => first | assumption | (refine' And.right ?qx; case qx => first | assumption | (refine' And.right ?qx; case qx => first | assumption | (refine' And.right ?qx; case qx => assumption)))))))))))))))))))))) | (refine Nat.lt_trans ?_ (by assumption); k_extra "lt")))
  (k_with "omega" => (first | (with_reducible assumption) | (with_reducible exact Ne.symm (by assumption)) | (with_reducible refine Nat.ne_of_lt ?_; k_extra "lt") | (with_reducible refine Nat.ne_of_gt ?_; k_extra "lt") | ((with_reducible refine' Mine.room ?qx ?qy); (case qx => with_reducible assumption); (case qy => exact rfl)) | ((with_reducible refine' Mine.room2 ?qx ?qy); (case qx => with_reducible assumption); (case qy => exact rfl)) | ((with_reducible refine' Mine.room0 ?qx); (case qx => with_reducible assumption)) | (with_reducible refine Mine.isLt ?_; k_extra "lt")))
  trivial
open PySem PySem.W PyProof.Rows PySem.Calls PySem.Spec
namespace Mine
noncomputable def upS : Str := "ABCDEFGHIJKLMNOPQRST"
noncomputable def loS : Str := "abcdefghijklmnopqrst"
/-- the word's sign for rank i, place j -/
noncomputable def sign (ns : List Int) (i j : Nat) : Str := if (0 + (j : Int)) < ns.getD (0 + (i : Int)).toNat 0 then Txt.item upS (4 * (0 + (i : Int)) + (0 + (j : Int))) else Txt.item loS (4 * (0 + (i : Int)) + (0 + (j : Int)))
noncomputable def wordF (ns : List Int) : Str := Txt.join "" (upTo (sign ns) 4 5)
theorem held_str {x y : Str} {t : Tok} {tk : Nat} {h : Heap} {s : Shared} (e : x = y) : Held (∃ t' tk', Value.str x t = .str y t' ∧ ({ s with heap := h, toks := tk } : Shared) = { s with heap := h, toks := tk' }) := ⟨t, tk, by rw [e], rfl⟩
theorem sign_length (ns : List Int) (i j : Nat) : (sign ns i j).length = 1 := by
  unfold sign; split <;> exact len_item _ _
theorem ones_sum : ∀ l : List Str, (∀ a ∈ l, a.length = 1) → (l.map (·.length)).sum = l.length
  | [], _ => rfl
  | a :: r, h => by
    rw [List.map_cons, List.sum_cons, h a (.head _), ones_sum r fun b hb => h b (.tail _ hb), List.length_cons]; lia
theorem upTo_weight (ns : List Int) (n i : Nat) : ((upTo (sign ns) n i).map (·.length)).sum = i * n := by
  rw [ones_sum _ (fun a ha => by
    simp only [upTo, List.mem_flatMap, List.mem_map] at ha
    obtain ⟨i, _, j, _, rfl⟩ := ha
    exact sign_length _ _ _), upTo_length]
section
variable {w : World} {mean : ExcName → Option Value} {mg mb : Str → Option Value} {dp un : Nat} {gd : Option (List Code)} {cn : Str} {cs : Scope} {a : Addr} {ccd : Value} {cl : List (Str × Addr)} {outer : List Env} {A₀ : Around} {base h₀ : Heap} {L : Addr} {m : Str → Option Value} {news : List (Addr × Obj)} {s : Shared} {Q E : Value → Shared → Prop}
set_option maxRecDepth 100000 in
set_option maxHeartbeats 2000000 in
theorem word_tells {l x1 x2 x3 x4 : Addr} {o1 o2 o3 o4 : Obj} {vs : List Value} {ns : List Int} {n : Nat} (B : Below A₀ base outer h₀) (F : Fr h₀ L s.heap m) (X : (Mine.hd.heap_39 w.params).In h₀) (T : Top topProg LOOSE mean mg mb h₀) (hk : cs.kind = .function) (N : News h₀ L s.heap [(l, listOf vs.toArray n), (x1, o1), (x2, o2), (x3, o3), (x4, o4)]) (hi : IntsAre vs ns) (hlen : ns.length = 5) (hd : dp + 8 < recursionLimit) (hu : un + 64 < cLine)
    (hret : ∀ t h' tk', Fr h₀ L h' m → News h₀ L h' [(l, listOf vs.toArray n), (x1, o1), (x2, o2), (x3, o3), (x4, o4)] → Q (.str (wordF ns) t) { s with heap := h', toks := tk' }) :
    wpAny (model PySem.Challenge.rw_pg0203_01.row.prog w) (ktrTop dp un gd cn cs L a ccd cl outer) (call (.ref 74) [.ref l]) Q E s := by
  revert X; k_fill; intro X
  k_dflt (refine wpAny_call ?_; refine' code_defC (binds := [(Str.ofString "ranks", .ref l)]) ?k1 ?k2 ?k3 ?k4 ?k5 ?kA ?kF ?kK ?k6 ?k7 ?k8 ?k9 ?kB ?kD ?_ ?c2 ?c3 ?c4; (case kA => exact rfl); (case kF => exact rfl); (case kK => assumption); (case k1 => k_asm); (case k2 => k_asm); (case k3 => k_asm); (case k4 => k_asm); (case k5 => k_asm); (case k6 => k_is); (case k7 => k_is); (case k8 => ktr_room); (case k9 => exact BindsTo.of_eq rfl); (case kB => exact rfl); (case kD => decide +kernel); (case c2 => exact rfl); (case c3 => exact rfl); (case c4 => exact rfl); k_whole; intro g' L' h' tk' cells' FG' F' N' Y' B' X' T' l1; (try k_lt l1); k_cells Y'; (try simp only [List.cons_append, List.nil_append] at N'); (try dsimp only); (try k_lift B'); (try k_fold))
  iterate 7 (try (focus (first | (k_unfold; (try dsimp only)) | (k_end; wrow_close) | walk1 | (dsimp only; walk1) | (leave1; walk_say "STEP leave1"; try dsimp only) | fail "no step")))
  refine two_comp (n1 := 5) (n2 := 4) (f := sign ns) (by k_asm) (by k_asm) (by with_unfolding_all rfl) (by decide) (by rfl) (by decide) (by rfl) (by rfl) (by decide) (by decide) (by rfl) ?h1 (by decide) (by decide) (by decide) (by decide) ?h2 ?he ?fin (fun _ => rfl) (fun _ _ => rfl)
  case h1 =>
    k_steps
    all_goals exact ⟨_, _, _, _, _, _, rfl, rfl, by k_asm, by k_asm, by k_asm⟩
  case h2 =>
    intro C oC m₂ h3 tk3 nw E3 hns F3 N3
    k_steps
    all_goals exact ⟨_, _, _, _, _, _, rfl, rfl, by k_asm, by k_asm, by k_asm⟩
  case he =>
    intro i j ti tj C oC m₂ h3 tk3 E3 hi5 hj4 hns hk hj F3 N3
    k_steps
    all_goals first
      | exact held_str (by unfold sign; rw [if_pos (by assumption)]; rfl)
      | exact held_str (by unfold sign; rw [if_neg (by first | assumption | omega)]; rfl)
  case fin =>
    intro D h3 tk3 ys F3 N3 S3
    iterate 1 (try (focus (first | (k_unfold; (try dsimp only)) | (k_end; wrow_close) | walk1 | (dsimp only; walk1) | (leave1; walk_say "STEP leave1"; try dsimp only) | fail "no step")))
    refine join_listW (ys := upTo (sign ns) 4 5) (N3.isList (.head _)) ?_ (by decide) ?_ ?_
    · simpa using S3
    · rw [upTo_length, upTo_weight]; decide
    intro tj kj
    k_steps
    all_goals exact cb_retS hret rfl (by k_asm) (cb_drop (by k_asm) (by lcg_sub))
end
end Mine
end
section
theorem Mine.off_V1 : True := by
  w_top off
  (try walk1)
  k_with_none
  (k_with "lt" => (with_reducible first | assumption | ((fail_if_success (fail_if_success (refine' Mine.guardLt ?qg ?qh; (case qg => assumption)))); first | (refine' And.left ?qx; case qx => first | assumption | (refine' And.right ?qx; case qx => first | assumption | (refine' And.right ?qx; case qx => first | assumption | (refine' And.right ?qx; case qx => first | assumption | (refine' And.right ?qx; case qx => first | assumption | (refine' And.right ?qx; case qx => first | assumption | (refine' And.right ?qx; case qx => first | assumption | (refine' And.right ?qx; case qx => first | assumption | (refine' And.right ?qx; case qx => first | assumption | (refine' And.right ?qx; case qx => first | assumption | (refine' And.right ?qx; case qx => first | assumption | (refine' And.right ?qx; case qx => first | assumption | (refine' And.right ?qx; case qx => first | assumption | (refine' And.right ?qx; case qx => first | assumption | (refine' And.right ?qx; case qx => first | assumption | (refine' And.right ?qx; case qx => first | assumption | (refine' And.right ?qx; case qx => first | assumption | (refine' And.right ?qx; case qx => first | assumption | (refine' And.right ?qx; case qx => first | assumption | (refine' And.right ?qx; case qx => first | assumption | (refine' And.right ?qx; case qx => assumption))))))))))))))))))))) | (refine' And.right ?qx; case qx => first | assumption | (refine' And.right ?qx; case qx => first | assumption | (refine' And.right ?qx; case qx => first | assumption | (refine' And.right ?qx; case qx => first | assumption | (refine' And.right ?qx; case qx => first | assumption | (refine' And.right ?qx; case qx => first | assumption | (refine' And.right ?qx; case qx => first | assumption | (refine' And.right ?qx; case qx => first | assumption | (refine' And.right ?qx; case qx => first | assumption | (refine' And.right ?qx; case qx => first | assumption | (refine' And.right ?qx; case qx => first | assumption | (refine' And.right ?qx; case qx => first | assumption | (refine' And.right ?qx; case qx => first | assumption | (refine' And.right ?qx; case qx => first | assumption | (refine' And.right ?qx; case qx => first | assumption | (refine' And.right ?qx; case qx => first | assumption | (refine' And.right ?qx; case qx => first | assumption | (refine' And.right ?qx; case qx => first | assumption | (refine' And.right ?qx; case qx => first | assumption | (refine' And.right ?qx; case qx => first | assumption | (refine' And.right ?qx; case qx => assumption)))))))))))))))))))))) | (refine Nat.lt_trans ?_ (by assumption); k_extra "lt")))
  (k_with "omega" => (first | (with_reducible assumption) | (with_reducible exact Ne.symm (by assumption)) | (with_reducible refine Nat.ne_of_lt ?_; k_extra "lt") | (with_reducible refine Nat.ne_of_gt ?_; k_extra "lt") | ((with_reducible refine' Mine.room ?qx ?qy); (case qx => with_reducible assumption); (case qy => exact rfl)) | ((with_reducible refine' Mine.room2 ?qx ?qy); (case qx => with_reducible assumption); (case qy => exact rfl)) | ((with_reducible refine' Mine.room0 ?qx); (case qx => with_reducible assumption)) | (with_reducible refine Mine.isLt ?_; k_extra "lt")))
  trivial
open PySem PySem.W PyProof.Rows PySem.Calls PySem.Spec
namespace Mine
/-- the cost of one sign for another -/
noncomputable def subF (p q : Str) : Int := if (p == q) = true then 0 else if (Txt.lower p == Txt.lower q) = true then 1 else 2
theorem bf {b : Bool} (h : b = false) : ¬ b = true := by rw [h]; decide
section
variable {w : World} {mean : ExcName → Option Value} {mg mb : Str → Option Value} {dp un : Nat} {gd : Option (List Code)} {cn : Str} {cs : Scope} {a : Addr} {ccd : Value} {cl : List (Str × Addr)} {outer : List Env} {A₀ : Around} {base h₀ : Heap} {L : Addr} {m : Str → Option Value} {news : List (Addr × Obj)} {s : Shared} {Q E : Value → Shared → Prop}
set_option maxRecDepth 100000 in
set_option maxHeartbeats 8000000 in
theorem sub_tells {p q : Str} {tp tq : Tok} (B : Below A₀ base outer h₀) (F : Fr h₀ L s.heap m) (X : (Mine.hd.heap_39 w.params).In h₀) (T : Top topProg LOOSE mean mg mb h₀) (hk : cs.kind = .function) (N : News h₀ L s.heap news) (hp : p.length ≤ 1) (hq : q.length ≤ 1) (hd : dp + 1 < recursionLimit) (hu : un + 8 < cLine)
    (hret : ∀ t h' tk', Fr h₀ L h' m → News h₀ L h' news → Q (.int (subF p q) t) { s with heap := h', toks := tk' }) :
    wpAny (model PySem.Challenge.rw_pg0203_01.row.prog w) (ktrTop dp un gd cn cs L a ccd cl outer) (call (.ref 62) [.str p tp, .str q tq]) Q E s := by
  revert X; k_fill; intro X
  k_dflt (refine wpAny_call ?_; refine' code_def (binds := [(Str.ofString "ch_a", .str p tp), (Str.ofString "ch_b", .str q tq)]) ?k1 ?k2 ?k3 ?k4 ?k5 ?kA ?kF ?kK ?k6 ?k7 ?k8 ?k9 ?kB ?_ ?c2 ?c3 ?c4 ?c5; (case kA => exact rfl); (case kF => exact rfl); (case kK => assumption); (case k1 => k_asm); (case k2 => k_asm); (case k3 => k_asm); (case k4 => k_asm); (case k5 => k_asm); (case k6 => k_is); (case k7 => k_is); (case k8 => ktr_room); (case k9 => exact BindsTo.of_eq rfl); (case c5 => decide); (case kB => exact locs rfl); (case c2 => exact rfl); (case c3 => exact rfl); (case c4 => exact rfl); k_whole; intro g' L' h' FG' F' N' B' X' T'; (try dsimp only); (try k_lift B'); (try k_fold))
  k_steps
  all_goals first
    | exact cb_retI hret (by unfold subF; rw [if_pos (by assumption)]) (by k_asm) (by k_asm)
    | exact cb_retI hret (by unfold subF; rw [if_neg (bf (by assumption)), if_pos (by assumption)]) (by k_asm) (by k_asm)
    | exact cb_retI hret (by unfold subF; rw [if_neg (bf (by assumption)), if_neg (bf (by assumption))]) (by k_asm) (by k_asm)
end
end Mine
end
section
theorem Mine.off_V2 : True := by
  w_top off
  (try walk1)
  k_with_none
  (k_with "lt" => (with_reducible first | assumption | ((fail_if_success (fail_if_success (refine' Mine.guardLt ?qg ?qh; (case qg => assumption)))); first | (refine' And.left ?qx; case qx => first | assumption | (refine' And.right ?qx; case qx => first | assumption | (refine' And.right ?qx; case qx => first | assumption | (refine' And.right ?qx; case qx => first | assumption | (refine' And.right ?qx; case qx => first | assumption | (refine' And.right ?qx; case qx => first | assumption | (refine' And.right ?qx; case qx => first | assumption | (refine' And.right ?qx; case qx => first | assumption | (refine' And.right ?qx; case qx => first | assumption | (refine' And.right ?qx; case qx => first | assumption | (refine' And.right ?qx; case qx => first | assumption | (refine' And.right ?qx; case qx => first | assumption | (refine' And.right ?qx; case qx => first | assumption | (refine' And.right ?qx; case qx => first | assumption | (refine' And.right ?qx; case qx => first | assumption | (refine' And.right ?qx; case qx => first | assumption | (refine' And.right ?qx; case qx => first | assumption | (refine' And.right ?qx; case qx => first | assumption | (refine' And.right ?qx; case qx => first | assumption | (refine' And.right ?qx; case qx => first | assumption | (refine' And.right ?qx; case qx => assumption))))))))))))))))))))) | (refine' And.right ?qx; case qx => first | assumption | (refine' And.right ?qx; case qx => first | assumption | (refine' And.right ?qx; case qx => first | assumption | (refine' And.right ?qx; case qx => first | assumption | (refine' And.right ?qx; case qx => first | assumption | (refine' And.right ?qx; case qx => first | assumption | (refine' And.right ?qx; case qx => first | assumption | (refine' And.right ?qx; case qx => first | assumption | (refine' And.right ?qx; case qx => first | assumption | (refine' And.right ?qx; case qx => first | assumption | (refine' And.right ?qx; case qx => first | assumption | (refine' And.right ?qx; case qx => first | assumption | (refine' And.right ?qx; case qx => first | assumption | (refine' And.right ?qx; case qx => first | assumption | (refine' And.right ?qx; case qx => first | assumption | (refine' And.right ?qx; case qx => first | assumption | (refine' And.right ?qx; case qx => first | assumption | (refine' And.right ?qx; case qx => first | assumption | (refine' And.right ?qx; case qx => first | assumption | (refine' And.right ?qx; case qx => first | assumption | (refine' And.right ?qx; case qx => assumption)))))))))))))))))))))) | (refine Nat.lt_trans ?_ (by assumption); k_extra "lt")))
  (k_with "omega" => (first | (with_reducible assumption) | (with_reducible exact Ne.symm (by assumption)) | (with_reducible refine Nat.ne_of_lt ?_; k_extra "lt") | (with_reducible refine Nat.ne_of_gt ?_; k_extra "lt") | ((with_reducible refine' Mine.room ?qx ?qy); (case qx => with_reducible assumption); (case qy => exact rfl)) | ((with_reducible refine' Mine.room2 ?qx ?qy); (case qx => with_reducible assumption); (case qy => exact rfl)) | ((with_reducible refine' Mine.room0 ?qx); (case qx => with_reducible assumption)) | (with_reducible refine Mine.isLt ?_; k_extra "lt")))
  trivial
open PySem PySem.W PyProof.Rows PySem.Calls PySem.Spec
namespace Mine
/-- the i-th sign's number -/
noncomputable def ch (x : Str) (i : Nat) : Nat := x.cps.getD i 0
theorem str_len (x : Str) : x.length = x.cps.size := rfl
theorem item_ch {x : Str} {i : Int} (h0 : 0 ≤ i) (h1 : i < x.length) : Txt.item x i = ⟨#[ch x i.toNat]⟩ := by
  rw [str_len] at h1
  refine item_meets h0 ?_
  have h2 : i.toNat < x.cps.size := by lia
  simp [ch, Array.getD, h2]
theorem item_chN {x : Str} {i : Int} (h0 : i < 0) (h1 : -(x.length : Int) ≤ i) : Txt.item x i = ⟨#[ch x (i + x.length).toNat]⟩ := eq_of_beq (item_closes_neg h0 h1 rfl)
theorem from_eq {x : Str} {p : Int} (h0 : 0 ≤ p) (h1 : p ≤ x.length) : Txt.slice x (some p) none = ⟨(x.cps.toList.drop p.toNat).toArray⟩ := by
  rw [slice_from_eq (b := (x.length : Int)) h0 h1 rfl]
  rw [str_len] at h1 ⊢
  rw [List.take_of_length_le]
  rw [List.length_drop, Array.length_toList]
  lia
theorem from_len {x : Str} {p : Int} (h0 : 0 ≤ p) (h1 : p ≤ x.length) : ((Txt.slice x (some p) none).length : Int) = x.length - p := by
  rw [from_eq h0 h1, str_len, str_len]
  rw [str_len] at h1
  simp only [List.size_toArray, List.length_drop, Array.length_toList]
  lia
theorem ch_list (l : List Nat) (i : Nat) : ch ⟨l.toArray⟩ i = l.getD i 0 := by simp [ch]
theorem ch_self (x : Str) (i : Nat) : ch x i = x.cps.toList.getD i 0 := by
  unfold ch
  rw [List.getD_eq_getElem?_getD, Array.getElem?_toList]
  by_cases h : i < x.cps.size
  · simp [Array.getD, h]
  · simp [Array.getD, h]
theorem from_ch {x : Str} {p : Int} (h0 : 0 ≤ p) (h1 : p ≤ x.length) (i : Nat) : ch (Txt.slice x (some p) none) i = ch x (p.toNat + i) := by
  rw [from_eq h0 h1, ch_list, ch_self]
  simp [List.getD, List.getElem?_drop]
theorem to_eq {x : Str} {j : Int} (h0 : j < 0) (h1 : -(x.length : Int) ≤ j) : Txt.slice x none (some j) = ⟨(x.cps.toList.take (j + x.length).toNat).toArray⟩ := by
  have e := eq_of_beq (slice_closes_to_neg h0 h1 rfl)
  rw [e]
  simp
theorem to_len {x : Str} {j : Int} (h0 : j < 0) (h1 : -(x.length : Int) ≤ j) : ((Txt.slice x none (some j)).length : Int) = x.length + j := by
  rw [to_eq h0 h1, str_len, str_len]
  rw [str_len] at h1
  simp only [List.size_toArray, List.length_take, Array.length_toList]
  lia
theorem to_ch {x : Str} {j : Int} (h0 : j < 0) (h1 : -(x.length : Int) ≤ j) {i : Nat} (hi : (i : Int) < x.length + j) : ch (Txt.slice x none (some j)) i = ch x i := by
  rw [to_eq h0 h1, ch_list, ch_self]
  have : i < (j + x.length).toNat := by lia
  simp [List.getD, List.getElem?_take, this]
/-- the first k signs are alike -/
noncomputable def EqTo (x y : Str) (k : Nat) : Prop := ∀ i : Nat, i < k → ch x i = ch y i
noncomputable def PreInv (n : Nat) (x y : Str) (p : Int) : Prop := 0 ≤ p ∧ p ≤ (n : Int) ∧ EqTo x y p.toNat
theorem PreInv.start (n : Nat) (x y : Str) : PreInv n x y 0 := ⟨by lia, by lia, fun i h => absurd h (Nat.not_lt_zero _)⟩
theorem PreInv.lt {n : Nat} {x y : Str} {p : Int} (e : PreInv n x y p) (hx : x.length = n) (h : ((Txt.slice x (some p) none).length : Int) ≠ 0) : p < n := by
  obtain ⟨h0, h1, _⟩ := e
  rw [from_len h0 (by rw [hx]; exact h1), hx] at h
  lia
theorem sign_eq {a b : Nat} (h : ((⟨#[a]⟩ : Str) == ⟨#[b]⟩) = true) : a = b := by
  have e := eq_of_beq h
  injection e with e
  simpa using e
theorem PreInv.step {n : Nat} {x y : Str} {p : Int} (e : PreInv n x y p) (hx : x.length = n) (hy : y.length = n) (h : ((Txt.slice x (some p) none).length : Int) ≠ 0) (he : (Txt.item x p == Txt.item y p) = true) : PreInv n x y (p + 1) := by
  have hl := e.lt hx h
  obtain ⟨h0, h1, h2⟩ := e
  refine ⟨by lia, by lia, fun i hi => ?_⟩
  by_cases hc : i < p.toNat
  · exact h2 i hc
  · have hi' : i = p.toNat := by lia
    subst hi'
    rw [item_ch h0 (by rw [hx]; exact hl), item_ch h0 (by rw [hy]; exact hl)] at he
    exact sign_eq he
theorem PreInv.less {n : Nat} {x y : Str} {p : Int} (e : PreInv n x y p) (hx : x.length = n) (h : ((Txt.slice x (some p) none).length : Int) ≠ 0) : n - (p + 1).toNat < n - p.toNat := by
  have hl := e.lt hx h
  have := e.1
  lia
set_option maxRecDepth 100000 in
set_option maxHeartbeats 1000000 in
theorem lev_pre {w : World} {mean : ExcName → Option Value} {mg mb : Str → Option Value} {dp un : Nat} {gd : Option (List Code)} {a : Addr} {ccd : Value} {outer : List Env} {A₀ : Around} {base h₀ : Heap} {L : Addr} {m : Str → Option Value} {s : Shared} {cl : List (Str × Addr)} {news : List (Addr × Obj)} {x y : Str} {tx ty tc : Tok} {n : Nat} {Q : Flow → Shared → Prop} (B : Below A₀ base outer h₀) (F : Fr h₀ L s.heap m) (X : (Mine.hd.heap_39 w.params).In h₀) (T : Top topProg LOOSE mean mg mb h₀)
    (hma : m (Str.ofString "a") = some (.str x tx)) (hmb : m (Str.ofString "b") = some (.str y ty)) (hmc : m (Str.ofString "max_cost") = some (.int 24 tc))
    (N : News h₀ L s.heap news) (hx : x.length = n) (hy : y.length = n) (hn : n ≤ 20)
    (hd : dp + 6 < recursionLimit) (hu : un + 48 < cLine)
    (hret : ∀ m' h' tk' p ta' tb' tc', Fr h₀ L h' m' → m' (Str.ofString "a") = some (.str (Txt.slice x (some p) none) ta') → m' (Str.ofString "b") = some (.str (Txt.slice y (some p) none) tb') → m' (Str.ofString "max_cost") = some (.int 24 tc') →
      News h₀ L h' news → PreInv n x y p → Q .next { s with heap := h', toks := tk' }) :
    wpAny (model PySem.Challenge.rw_pg0203_01.row.prog w) (ktrTop dp un gd (Str.ofString "_levenshtein_distance") (defParts 6).2 L a ccd cl outer) (execs ((stmtsFrom 1 (defParts 6).1).take 4) (envX (Str.ofString "_levenshtein_distance") (defParts 6).2 L a ccd cl)) Q (fun _ _ => False) s := by
  revert X; k_fill; intro X
  (k_with "loadName" => (k_here; (rename Fr _ _ _ _ => lF'); k_dflt (refine' wpAny_loadName_local ?zzk ?zzl lF'.ns ?zzv ?_; (case zzk => exact rfl); (case zzl => exact rfl); (case zzv => exact rfl); k_whole)))
  unfold defParts PySem.Challenge.pw_pg0203_01; dsimp only [nthDef, stmtsFrom]
  dsimp only [List.take]
  have F1 := fr_head (x := Str.ofString "max_cost") F hmc
  have F2 := fr_head (x := Str.ofString "b") F1 hmb
  have F3 := fr_head (x := Str.ofString "a") F2 hma
  clear F F1 F2
  (k_with "exec While BoolOp cons nil" => k_while (fun _ pre => (0 ≤ pre ∧ pre ≤ (n : Int)) ∧ PreInv n x y pre) (fun _ pre => n - pre.toNat) "pre")
  (k_with "state" => first | exact (fun q => ⟨⟨q.1, q.2.1⟩, q⟩) (PreInv.start _ _ _) | exact (fun q => ⟨⟨q.1, q.2.1⟩, q⟩) (PreInv.step (by assumption) hx hy (by assumption) (by assumption)))
  (k_with "measure" => exact PreInv.less (by assumption) hx (by assumption))
  k_steps
  all_goals (refine' hret _ _ _ _ _ _ _ ?qF ?qa ?qb ?qc ?qN ?qI; (case qI => with_reducible assumption); (case qF => with_reducible k_asm); (case qN => with_reducible k_asm); (case qa => exact rfl); (case qb => exact rfl); (case qc => exact rfl))
end Mine
end
section
theorem Mine.off_V3 : True := by
  w_top off
  (try walk1)
  k_with_none
  (k_with "lt" => (with_reducible first | assumption | ((fail_if_success (fail_if_success (refine' Mine.guardLt ?qg ?qh; (case qg => assumption)))); first | (refine' And.left ?qx; case qx => first | assumption | (refine' And.right ?qx; case qx => first | assumption | (refine' And.right ?qx; case qx => first | assumption | (refine' And.right ?qx; case qx => first | assumption | (refine' And.right ?qx; case qx => first | assumption | (refine' And.right ?qx; case qx => first | assumption | (refine' And.right ?qx; case qx => first | assumption | (refine' And.right ?qx; case qx => first | assumption | (refine' And.right ?qx; case qx => first | assumption | (refine' And.right ?qx; case qx => first | assumption | (refine' And.right ?qx; case qx => first | assumption | (refine' And.right ?qx; case qx => first | assumption | (refine' And.right ?qx; case qx => first | assumption | (refine' And.right ?qx; case qx => first | assumption | (refine' And.right ?qx; case qx => first | assumption | (refine' And.right ?qx; case qx => first | assumption | (refine' And.right ?qx; case qx => first | assumption | (refine' And.right ?qx; case qx => first | assumption | (refine' And.right ?qx; case qx => first | assumption | (refine' And.right ?qx; case qx => first | assumption | (refine' And.right ?qx; case qx => assumption))))))))))))))))))))) | (refine' And.right ?qx; case qx => first | assumption | (refine' And.right ?qx; case qx => first | assumption | (refine' And.right ?qx; case qx => first | assumption | (refine' And.right ?qx; case qx => first | assumption | (refine' And.right ?qx; case qx => first | assumption | (refine' And.right ?qx; case qx => first | assumption | (refine' And.right ?qx; case qx => first | assumption | (refine' And.right ?qx; case qx => first | assumption | (refine' And.right ?qx; case qx => first | assumption | (refine' And.right ?qx; case qx => first | assumption | (refine' And.right ?qx; case qx => first | assumption | (refine' And.right ?qx; case qx => first | assumption | (refine' And.right ?qx; case qx => first | assumption | (refine' And.right ?qx; case qx => first | assumption | (refine' And.right ?qx; case qx => first | assumption | (refine' And.right ?qx; case qx => first | assumption | (refine' And.right ?qx; case qx => first | assumption | (refine' And.right ?qx; case qx => first | assumption | (refine' And.right ?qx; case qx => first | assumption | (refine' And.right ?qx; case qx => first | assumption | (refine' And.right ?qx; case qx => assumption)))))))))))))))))))))) | (refine Nat.lt_trans ?_ (by assumption); k_extra "lt")))
  (k_with "omega" => (first | (with_reducible assumption) | (with_reducible exact Ne.symm (by assumption)) | (with_reducible refine Nat.ne_of_lt ?_; k_extra "lt") | (with_reducible refine Nat.ne_of_gt ?_; k_extra "lt") | ((with_reducible refine' Mine.room ?qx ?qy); (case qx => with_reducible assumption); (case qy => exact rfl)) | ((with_reducible refine' Mine.room2 ?qx ?qy); (case qx => with_reducible assumption); (case qy => exact rfl)) | ((with_reducible refine' Mine.room0 ?qx); (case qx => with_reducible assumption)) | (with_reducible refine Mine.isLt ?_; k_extra "lt")))
  trivial
open PySem PySem.W PyProof.Rows PySem.Calls PySem.Spec
namespace Mine
/-- from n + q on the signs are alike -/
noncomputable def PostInv (n : Nat) (x y : Str) (q : Int) : Prop := q ≤ 0 ∧ -(n : Int) ≤ q ∧ ∀ i : Nat, (n : Int) + q ≤ i → i < n → ch x i = ch y i
theorem PostInv.start (n : Nat) (x y : Str) : PostInv n x y 0 := ⟨by lia, by lia, fun i h1 h2 => by lia⟩
/-- x[:q or None] -/
noncomputable def cutS (x : Str) (q : Int) : Str := if q = 0 then Txt.slice x none none else Txt.slice x none (some q)
theorem cutS_zero {x : Str} {q : Int} (h : q = 0) : cutS x q = Txt.slice x none none := by unfold cutS; rw [if_pos h]
theorem cutS_neg {x : Str} {q : Int} (h : q ≠ 0) : cutS x q = Txt.slice x none (some q) := by unfold cutS; rw [if_neg h]
theorem PostInv.step {n : Nat} {x y : Str} {q : Int} (e : PostInv n x y q) (hl : -(n : Int) < q) (hx : x.length = n) (hy : y.length = n) (he : (Txt.item x (q - 1) == Txt.item y (q - 1)) = true) : PostInv n x y (q - 1) := by
  obtain ⟨h0, h1, h2⟩ := e
  refine ⟨by lia, by lia, fun i hi hin => ?_⟩
  by_cases hc : (n : Int) + q ≤ i
  · exact h2 i hc hin
  · have hi' : i = (q - 1 + (n : Int)).toNat := by lia
    rw [item_chN (by lia) (by rw [hx]; lia), item_chN (by lia) (by rw [hy]; lia), hx, hy] at he
    rw [hi']
    exact sign_eq he
theorem post_lt {n : Nat} {x y z : Str} {q : Int} (e : PostInv n x y q) (hz : z.length = n) (h0 : q ≠ 0) (h : ((Txt.slice z none (some q)).length : Int) ≠ 0) : -(n : Int) < q := by
  obtain ⟨h1, h2, _⟩ := e
  rw [to_len (by lia) (by rw [hz]; lia), hz] at h
  lia
theorem post_lo {n : Nat} {x y z : Str} {q : Int} (e : PostInv n x y q) (hz : z.length = n) (h0 : q ≠ 0) (h : ((Txt.slice z none (some q)).length : Int) ≠ 0) : -(z.length : Int) ≤ q - 1 := by
  have := post_lt e hz h0 h
  rw [hz]; lia
theorem post_room {n : Nat} {x y : Str} {q : Int} (e : PostInv n x y q) (hn : n ≤ 20) : fitsSsize (q - 1) = true := by
  obtain ⟨h1, h2, _⟩ := e
  exact fitsSsize_of (N := 9223372036854775808) (by lia) (by lia) (Int.le_refl _)
theorem post_lt0 {n : Nat} {x y z : Str} {q : Int} (e : PostInv n x y q) (hz : z.length = n) (h0 : q = 0) (h : ((Txt.slice z none none).length : Int) ≠ 0) (hl : (Txt.slice z none none).length ≤ z.length) : -(n : Int) < q := by
  subst h0
  lia
theorem post_lo0 {n : Nat} {x y z v : Str} {q : Int} (h : -(n : Int) < q) (hz : z.length = n) : -(z.length : Int) ≤ q - 1 := by
  rw [hz]; lia
theorem post_meas {n : Nat} {q : Int} (h : -(n : Int) < q) : ((n : Int) + (q - 1)).toNat < ((n : Int) + q).toNat := by lia
theorem post_hi {n a : Nat} {x y : Str} {q : Int} (e : PostInv n x y q) : q - 1 < (a : Int) := by
  obtain ⟨e, _⟩ := e
  lia
set_option maxRecDepth 100000 in
set_option maxHeartbeats 4000000 in
theorem lev_post1 {w : World} {mean : ExcName → Option Value} {mg mb : Str → Option Value} {dp un : Nat} {gd : Option (List Code)} {a : Addr} {ccd : Value} {outer : List Env} {A₀ : Around} {base h₀ : Heap} {L : Addr} {m : Str → Option Value} {s : Shared} {cl : List (Str × Addr)} {news : List (Addr × Obj)} {x y : Str} {tx ty tc : Tok} {n : Nat} {Q : Flow → Shared → Prop} (B : Below A₀ base outer h₀) (F : Fr h₀ L s.heap m) (X : (Mine.hd.heap_39 w.params).In h₀) (T : Top topProg LOOSE mean mg mb h₀)
    (hma : m (Str.ofString "a") = some (.str x tx)) (hmb : m (Str.ofString "b") = some (.str y ty)) (hmc : m (Str.ofString "max_cost") = some (.int 24 tc))
    (N : News h₀ L s.heap news) (hx : x.length = n) (hy : y.length = n) (hn : n ≤ 20)
    (hd : dp + 6 < recursionLimit) (hu : un + 48 < cLine)
    (hret : ∀ m' h' tk' q ta' tb' tc' tq', Fr h₀ L h' m' → m' (Str.ofString "a") = some (.str x ta') → m' (Str.ofString "b") = some (.str y tb') → m' (Str.ofString "max_cost") = some (.int 24 tc') → m' (Str.ofString "post") = some (.int q tq') →
      News h₀ L h' news → PostInv n x y q → Q .next { s with heap := h', toks := tk' }) :
    wpAny (model PySem.Challenge.rw_pg0203_01.row.prog w) (ktrTop dp un gd (Str.ofString "_levenshtein_distance") (defParts 6).2 L a ccd cl outer) (execs ((stmtsFrom 5 (defParts 6).1).take 2) (envX (Str.ofString "_levenshtein_distance") (defParts 6).2 L a ccd cl)) Q (fun _ _ => False) s := by
  revert X; k_fill; intro X
  (k_with "subscriptTail Name BinOp str int" => (k_here; k_dflt (refine' item_str ?zzr ?zza ?zzb ?_ ?zzc ?zzd; (case zzr => exact post_room (by with_reducible assumption) (by with_reducible assumption)); (case zza => first | exact post_lo (by with_reducible assumption) (by with_reducible assumption) (by with_reducible assumption) (by with_reducible assumption) | exact post_lo0 (post_lt (by with_reducible assumption) (by with_reducible assumption) (by with_reducible assumption) (by with_reducible assumption)) (by with_reducible assumption) | exact post_lo0 (post_lt0 (by with_reducible assumption) (by with_reducible assumption) (by with_reducible assumption) (by with_reducible assumption) (by with_reducible assumption)) (by with_reducible assumption) | omega); (case zzb => first | exact post_hi (by with_reducible assumption) | omega); (case zzc => with_unfolding_all rfl); (case zzd => (intro _; with_unfolding_all rfl)); k_whole); intro _))
  (k_with "loadName" => (k_here; (rename Fr _ _ _ _ => lF'); k_dflt (refine' wpAny_loadName_local ?zzk ?zzl lF'.ns ?zzv ?_; (case zzk => exact rfl); (case zzl => exact rfl); (case zzv => exact rfl); k_whole)))
  (k_with "subscriptTail Name Slice str ref" => (k_here; (with_reducible show wpAny _ _ (subscriptTail _ (PySem.Expr.Slice none (some _) none _) _ _) _ _ _); k_dflt (refine' slice_strN_nn_len ?zzF ?zzN ?_ ?zzhs ?zzht ?zzz; (case zzF => k_asm); (case zzN => k_asm); (case zzhs => with_unfolding_all rfl); (case zzht => (intro _; with_unfolding_all rfl)); (case zzz => (rw [sizeLine_eq]; omega)); k_whole); intro h' t' k' F' N' hl'))
  (k_with "subscriptTail Name Slice str ref" => (exfalso; (with_reducible contradiction)))
  unfold defParts PySem.Challenge.pw_pg0203_01; dsimp only [nthDef, stmtsFrom]
  dsimp only [List.take]
  have F1 := fr_head (x := Str.ofString "max_cost") F hmc
  have F2 := fr_head (x := Str.ofString "b") F1 hmb
  have F3 := fr_head (x := Str.ofString "a") F2 hma
  clear F F1 F2
  (k_with "exec While BoolOp cons nil" => k_while (fun _ q => (q ≤ 0 ∧ -(n : Int) ≤ q) ∧ PostInv n x y q) (fun _ q => ((n : Int) + q).toNat) "post")
  (k_with "state" => first | exact (fun q => ⟨⟨q.1, q.2.1⟩, q⟩) (PostInv.start _ _ _) | exact (fun q => ⟨⟨q.1, q.2.1⟩, q⟩) (PostInv.step (by with_reducible assumption) (by first | exact (post_lt (by with_reducible assumption) (by with_reducible assumption) (by with_reducible assumption) (by with_reducible assumption)) | exact (post_lt0 (by with_reducible assumption) (by with_reducible assumption) (by with_reducible assumption) (by with_reducible assumption) (by with_reducible assumption)) | omega) hx hy (by with_reducible assumption)))
  (k_with "measure" => first | exact post_meas (post_lt (by with_reducible assumption) (by with_reducible assumption) (by with_reducible assumption) (by with_reducible assumption)) | exact post_meas (post_lt0 (by with_reducible assumption) (by with_reducible assumption) (by with_reducible assumption) (by with_reducible assumption) (by with_reducible assumption)) | omega | (have hPl := post_lt (by with_reducible assumption) hx (by with_reducible assumption) (by with_reducible assumption); omega))
  k_steps
  all_goals (refine' hret _ _ _ _ _ _ _ _ ?qF ?qa ?qb ?qc ?qp ?qN ?qI; (case qI => with_reducible assumption); (case qF => with_reducible k_asm); (case qN => with_reducible k_asm); (case qa => exact rfl); (case qb => exact rfl); (case qc => exact rfl); (case qp => exact rfl))
set_option maxRecDepth 100000 in
set_option maxHeartbeats 8000000 in
theorem lev_post2 {w : World} {mean : ExcName → Option Value} {mg mb : Str → Option Value} {dp un : Nat} {gd : Option (List Code)} {a : Addr} {ccd : Value} {outer : List Env} {A₀ : Around} {base h₀ : Heap} {L : Addr} {m : Str → Option Value} {s : Shared} {cl : List (Str × Addr)} {news : List (Addr × Obj)} {x y : Str} {q : Int} {tx ty tc tq : Tok} {Q : Flow → Shared → Prop} (B : Below A₀ base outer h₀) (F : Fr h₀ L s.heap m) (X : (Mine.hd.heap_39 w.params).In h₀) (T : Top topProg LOOSE mean mg mb h₀)
    (hma : m (Str.ofString "a") = some (.str x tx)) (hmb : m (Str.ofString "b") = some (.str y ty)) (hmc : m (Str.ofString "max_cost") = some (.int 24 tc)) (hmq : m (Str.ofString "post") = some (.int q tq))
    (N : News h₀ L s.heap news) (hx : x.length ≤ 20) (hy : y.length ≤ 20)
    (hd : dp + 6 < recursionLimit) (hu : un + 48 < cLine)
    (hret : ∀ m' h' tk' ta' tb' tc', Fr h₀ L h' m' → m' (Str.ofString "a") = some (.str (cutS x q) ta') → m' (Str.ofString "b") = some (.str (cutS y q) tb') → m' (Str.ofString "max_cost") = some (.int 24 tc') →
      News h₀ L h' news → Q .next { s with heap := h', toks := tk' }) :
    wpAny (model PySem.Challenge.rw_pg0203_01.row.prog w) (ktrTop dp un gd (Str.ofString "_levenshtein_distance") (defParts 6).2 L a ccd cl outer) (execs ((stmtsFrom 7 (defParts 6).1).take 2) (envX (Str.ofString "_levenshtein_distance") (defParts 6).2 L a ccd cl)) Q (fun _ _ => False) s := by
  revert X; k_fill; intro X
  unfold defParts PySem.Challenge.pw_pg0203_01; dsimp only [nthDef, stmtsFrom]
  dsimp only [List.take]
  have F0 := fr_head (x := Str.ofString "post") F hmq
  have F1 := fr_head (x := Str.ofString "max_cost") F0 hmc
  have F2 := fr_head (x := Str.ofString "b") F1 hmb
  have F3 := fr_head (x := Str.ofString "a") F2 hma
  clear F F0 F1 F2
  k_steps
  all_goals first
    | (exfalso; omega)
    | (refine' hret _ _ _ _ _ _ ?qF ?qa ?qb ?qc ?qN; (case qF => with_reducible k_asm); (case qN => with_reducible k_asm); (case qa => (first | (rw [cutS_zero (by with_reducible assumption)]; exact rfl) | (rw [cutS_neg (by with_reducible assumption)]; exact rfl))); (case qb => (first | (rw [cutS_zero (by with_reducible assumption)]; exact rfl) | (rw [cutS_neg (by with_reducible assumption)]; exact rfl))); (case qc => exact rfl))
end Mine
end
section
theorem Mine.off_V5 : True := by
  w_top off
  (try walk1)
  k_with_none
  (k_with "lt" => (with_reducible first | assumption | ((fail_if_success (fail_if_success (refine' Mine.guardLt ?qg ?qh; (case qg => assumption)))); first | (refine' And.left ?qx; case qx => first | assumption | (refine' And.right ?qx; case qx => first | assumption | (refine' And.right ?qx; case qx => first | assumption | (refine' And.right ?qx; case qx => first | assumption | (refine' And.right ?qx; case qx => first | assumption | (refine' And.right ?qx; case qx => first | assumption | (refine' And.right ?qx; case qx => first | assumption | (refine' And.right ?qx; case qx => first | assumption | (refine' And.right ?qx; case qx => first | assumption | (refine' And.right ?qx; case qx => first | assumption | (refine' And.right ?qx; case qx => first | assumption | (refine' And.right ?qx; case qx => first | assumption | (refine' And.right ?qx; case qx => first | assumption | (refine' And.right ?qx; case qx => first | assumption | (refine' And.right ?qx; case qx => first | assumption | (refine' And.right ?qx; case qx => first | assumption | (refine' And.right ?qx; case qx => first | assumption | (refine' And.right ?qx; case qx => first | assumption | (refine' And.right ?qx; case qx => first | assumption | (refine' And.right ?qx; case qx => first | assumption | (refine' And.right ?qx; case qx => assumption))))))))))))))))))))) | (refine' And.right ?qx; case qx => first | assumption | (refine' And.right ?qx; case qx => first | assumption | (refine' And.right ?qx; case qx => first | assumption | (refine' And.right ?qx; case qx => first | assumption | (refine' And.right ?qx; case qx => first | assumption | (refine' And.right ?qx; case qx => first | assumption | (refine' And.right ?qx; case qx => first | assumption | (refine' And.right ?qx; case qx => first | assumption | (refine' And.right ?qx; case qx => first | assumption | (refine' And.right ?qx; case qx => first | assumption | (refine' And.right ?qx; case qx => first | assumption | (refine' And.right ?qx; case qx => first | assumption | (refine' And.right ?qx; case qx => first | assumption | (refine' And.right ?qx; case qx => first | assumption | (refine' And.right ?qx; case qx => first | assumption | (refine' And.right ?qx; case qx => first | assumption | (refine' And.right ?qx; case qx => first | assumption | (refine' And.right ?qx; case qx => first | assumption | (refine' And.right ?qx; case qx => first | assumption | (refine' And.right ?qx; case qx => first | assumption | (refine' And.right ?qx; case qx => assumption)))))))))))))))))))))) | (refine Nat.lt_trans ?_ (by assumption); k_extra "lt")))
  (k_with "omega" => (first | (with_reducible assumption) | (with_reducible exact Ne.symm (by assumption)) | (with_reducible refine Nat.ne_of_lt ?_; k_extra "lt") | (with_reducible refine Nat.ne_of_gt ?_; k_extra "lt") | ((with_reducible refine' Mine.room ?qx ?qy); (case qx => with_reducible assumption); (case qy => exact rfl)) | ((with_reducible refine' Mine.room2 ?qx ?qy); (case qx => with_reducible assumption); (case qy => exact rfl)) | ((with_reducible refine' Mine.room0 ?qx); (case qx => with_reducible assumption)) | (with_reducible refine Mine.isLt ?_; k_extra "lt")))
  trivial
open PySem PySem.W PyProof.Rows PySem.Calls PySem.Spec
namespace Mine
theorem ints_of_items : ∀ (acc : List Value) (k : Nat) (g : Nat → Int), (∀ i v, acc[i]? = some v → ∃ t, v = Value.int (g (k + i)) t) → IntsAre acc ((List.range' k acc.length).map g)
  | [], _, _, _ => .nil
  | v :: r, k, g, h => by
    obtain ⟨t, rfl⟩ := h 0 v rfl
    exact .cons _ t (ints_of_items r (k + 1) g fun i v hv => by
      obtain ⟨t, e⟩ := h (i + 1) v hv
      exact ⟨t, by rw [e]; congr 2; lia⟩)
section
variable {prog : Program} {w : World} {A : Around} {E : Value → Shared → Prop} {s : Shared} {h₀ : Heap} {L : Addr} {m : Str → Option Value} {news : List (Addr × Obj)}
theorem list_twos {r : Addr} {n : Nat} {b : Int} {t u v : Tok} {Q : Value → Shared → Prop} (hh : A.handled = none) (F : Fr h₀ L s.heap m) (N : News h₀ L s.heap news) (hr : IsRange s.heap r 2 b 2 t u v) (hb : b = 2 * ((n : Int) + 1)) (hn : n ≤ 20)
    (h : ∀ D us c h' tk, Fr h₀ L h' m → News h₀ L h' ((D, listOf (List.toArray us) c) :: news) → (∀ p ∈ news, p.1 < D) → IntsAre us ((List.range n).map fun (i : Nat) => 2 + (i : Int) * 2) → Q (.ref D) { s with heap := h', toks := tk }) :
    wpAny (model prog w) A (call (.type "list") [.ref r]) Q E s := by
  subst hb
  have hsz : Builtin.Range.rangeSize 2 (2 * ((n : Int) + 1)) 2 = (n : Int) := by
    unfold Builtin.Range.rangeSize
    rw [if_pos (by decide)]
    by_cases h0 : n = 0
    · subst h0; decide
    · rw [if_pos (by omega)]; omega
  refine call_list_range hh hr ?_ hsz (by omega) fun h' tk acc c hk hD hI => ?_
  · unfold Builtin.Range.small; simp only [hsz]; simp [Builtin.Range.rangeFitsLong]; omega
  have hD' : h'.get? s.heap.objs.size = some (listOf (List.toArray acc.toList) c) := by rw [Array.toArray_toList]; exact hD
  refine h _ acc.toList c h' tk (F.keeps hk) (news_pushed F N hk hD' rfl) (fun p hp => Heap.lt_size (N p hp).1) ?_
  have hl : acc.toList.length = n := by rw [Array.length_toList]; exact hI.1
  have e := ints_of_items acc.toList 0 (fun (i : Nat) => 2 + (i : Int) * 2) fun i v hv => by
    obtain ⟨t, e⟩ := hI.2 i v (by rw [← hv, Array.getElem?_toList])
    exact ⟨t, by rw [e]; simp⟩
  rw [hl] at e
  rw [List.range_eq_range']
  exact e
end
end Mine
end
section
theorem Mine.off_V6a : True := by
  w_top off
  (try walk1)
  k_with_none
  (k_with "lt" => (with_reducible first | assumption | ((fail_if_success (fail_if_success (refine' Mine.guardLt ?qg ?qh; (case qg => assumption)))); first | (refine' And.left ?qx; case qx => first | assumption | (refine' And.right ?qx; case qx => first | assumption | (refine' And.right ?qx; case qx => first | assumption | (refine' And.right ?qx; case qx => first | assumption | (refine' And.right ?qx; case qx => first | assumption | (refine' And.right ?qx; case qx => first | assumption | (refine' And.right ?qx; case qx => first | assumption | (refine' And.right ?qx; case qx => first | assumption | (refine' And.right ?qx; case qx => first | assumption | (refine' And.right ?qx; case qx => first | assumption | (refine' And.right ?qx; case qx => first | assumption | (refine' And.right ?qx; case qx => first | assumption | (refine' And.right ?qx; case qx => first | assumption | (refine' And.right ?qx; case qx => first | assumption | (refine' And.right ?qx; case qx => first | assumption | (refine' And.right ?qx; case qx => first | assumption | (refine' And.right ?qx; case qx => first | assumption | (refine' And.right ?qx; case qx => first | assumption | (refine' And.right ?qx; case qx => first | assumption | (refine' And.right ?qx; case qx => first | assumption | (refine' And.right ?qx; case qx => assumption))))))))))))))))))))) | (refine' And.right ?qx; case qx => first | assumption | (refine' And.right ?qx; case qx => first | assumption | (refine' And.right ?qx; case qx => first | assumption | (refine' And.right ?qx; case qx => first | assumption | (refine' And.right ?qx; case qx => first | assumption | (refine' And.right ?qx; case qx => first | assumption | (refine' And.right ?qx; case qx => first | assumption | (refine' And.right ?qx; case qx => first | assumption | (refine' And.right ?qx; case qx => first | assumption | (refine' And.right ?qx; case qx => first | assumption | (refine' And.right ?qx; case qx => first | assumption | (refine' And.right ?qx; case qx => first | assumption | (refine' And.right ?qx; case qx => first | assumption | (refine' And.right ?qx; case qx => first | assumption | (refine' And.right ?qx; case qx => first | assumption | (refine' And.right ?qx; case qx => first | assumption | (refine' And.right ?qx; case qx => first | assumption | (refine' And.right ?qx; case qx => first | assumption | (refine' And.right ?qx; case qx => first | assumption | (refine' And.right ?qx; case qx => first | assumption | (refine' And.right ?qx; case qx => assumption)))))))))))))))))))))) | (refine Nat.lt_trans ?_ (by assumption); k_extra "lt")))
  (k_with "omega" => (first | (with_reducible assumption) | (with_reducible exact Ne.symm (by assumption)) | (with_reducible refine Nat.ne_of_lt ?_; k_extra "lt") | (with_reducible refine Nat.ne_of_gt ?_; k_extra "lt") | ((with_reducible refine' Mine.room ?qx ?qy); (case qx => with_reducible assumption); (case qy => exact rfl)) | ((with_reducible refine' Mine.room2 ?qx ?qy); (case qx => with_reducible assumption); (case qy => exact rfl)) | ((with_reducible refine' Mine.room0 ?qx); (case qx => with_reducible assumption)) | (with_reducible refine Mine.isLt ?_; k_extra "lt")))
  trivial
open PySem PySem.W PyProof.Rows PySem.Calls PySem.Spec
namespace Mine
noncomputable def sumC (c : Nat → Int) : Nat → Int
  | 0 => 0
  | k + 1 => sumC c k + c k
/-- the cost of the first p signs for the first q -/
noncomputable def cl (c : Nat → Int) (p q : Nat) : Int := sumC c (min p q) + 2 * ((max p q : Nat) : Int) - 2 * ((min p q : Nat) : Int)
noncomputable def rowAt (c : Nat → Int) (n p t : Nat) : List Int := (List.range n).map fun q => if q < t then cl c (p + 1) (q + 1) else cl c p (q + 1)
noncomputable def resAt (c : Nat → Int) (p q : Nat) : Int := if q = 0 then 2 * (p : Int) else cl c (p + 1) q
theorem rowAt_length {c : Nat → Int} {n p t : Nat} : (rowAt c n p t).length = n := by simp [rowAt]
theorem rowAt_get {c : Nat → Int} {n p t q : Nat} (h : q < n) : (rowAt c n p t)[q]? = some (if q < t then cl c (p + 1) (q + 1) else cl c p (q + 1)) := by simp [rowAt, h]
theorem rowAt_start {c : Nat → Int} {n : Nat} : (List.range n).map (fun (i : Nat) => 2 + (i : Int) * 2) = rowAt c n 0 0 := by
  refine List.ext_getElem? fun q => ?_
  by_cases h : q < n
  · rw [rowAt_get h]
    simp only [List.getElem?_map, List.getElem?_range h, Option.map_some, Nat.not_lt_zero, if_false]
    unfold cl
    rw [show min 0 (q + 1) = 0 by lia, show max 0 (q + 1) = q + 1 by lia]
    simp only [sumC]
    congr 1
    lia
  · rw [List.getElem?_eq_none (by simp; lia), List.getElem?_eq_none (by rw [rowAt_length]; lia)]
theorem rowAt_turn {c : Nat → Int} {n p : Nat} : rowAt c n p n = rowAt c n (p + 1) 0 := by
  refine List.ext_getElem? fun q => ?_
  by_cases h : q < n
  · rw [rowAt_get h, rowAt_get h, if_pos h, if_neg (Nat.not_lt_zero _)]
  · rw [List.getElem?_eq_none (by rw [rowAt_length]; lia), List.getElem?_eq_none (by rw [rowAt_length]; lia)]
theorem rowAt_set {c : Nat → Int} {n p t : Nat} (h : t < n) : (rowAt c n p t).set t (cl c (p + 1) (t + 1)) = rowAt c n p (t + 1) := by
  refine List.ext_getElem? fun q => ?_
  by_cases hq : q < n
  · rw [List.getElem?_set]
    by_cases e : t = q
    · subst e
      rw [if_pos rfl, if_pos (by rw [rowAt_length]; exact h), rowAt_get hq, if_pos (by lia)]
    · rw [if_neg e, rowAt_get hq, rowAt_get hq]
      by_cases e2 : q < t
      · rw [if_pos e2, if_pos (by lia)]
      · rw [if_neg e2, if_neg (by lia)]
  · rw [List.getElem?_eq_none (by simp [rowAt_length]; lia), List.getElem?_eq_none (by rw [rowAt_length]; lia)]
theorem sumC_le {c : Nat → Int} {n : Nat} (hc : ∀ i, i < n → 0 ≤ c i ∧ c i ≤ 1) : ∀ k, k ≤ n → 0 ≤ sumC c k ∧ sumC c k ≤ k
  | 0, _ => by simp [sumC]
  | k + 1, h => by
    have h1 := sumC_le hc k (by lia)
    have h2 := hc k (by lia)
    simp only [sumC]
    lia
theorem cl_diag {c : Nat → Int} {p : Nat} : cl c p p = sumC c p := by unfold cl; rw [Nat.min_self, Nat.max_self]; lia
theorem cl_lo {c : Nat → Int} {p q : Nat} (h : p ≤ q) : cl c p q = sumC c p + 2 * (q : Int) - 2 * (p : Int) := by unfold cl; rw [show min p q = p by lia, show max p q = q by lia]
theorem cl_hi {c : Nat → Int} {p q : Nat} (h : q ≤ p) : cl c p q = sumC c q + 2 * (p : Int) - 2 * (q : Int) := by unfold cl; rw [show min p q = q by lia, show max p q = p by lia]
theorem cl_step {c : Nat → Int} {n p q : Nat} (hc : ∀ i, i < n → 0 ≤ c i ∧ c i ≤ 1) (hp : p < n) (hq : q < n) {r d s : Int} (hr : r = resAt c p q) (hd : d = cl c p (q + 1)) (hs : s = cl c p q + (if p = q then c p else 2)) :
    min (min r d + 2) s = cl c (p + 1) (q + 1) := by
  subst hr hd hs
  unfold resAt
  have h1 := hc p hp
  have h2 := hc q hq
  have e1 : sumC c (p + 1) = sumC c p + c p := rfl
  have e2 : sumC c (q + 1) = sumC c q + c q := rfl
  rcases Nat.lt_trichotomy p q with h | h | h
  · rw [if_neg (show ¬ p = q by lia), if_neg (show ¬ q = 0 by lia), cl_lo (show p ≤ q by lia), cl_lo (show p ≤ q + 1 by lia), cl_lo (show p + 1 ≤ q by lia), cl_lo (show p + 1 ≤ q + 1 by lia)]
    lia
  · subst h
    rw [if_pos rfl, cl_diag, cl_diag, cl_lo (show p ≤ p + 1 by lia)]
    by_cases h0 : p = 0
    · rw [if_pos h0]; subst h0; simp only [sumC] at *; lia
    · rw [if_neg h0, cl_hi (show p ≤ p + 1 by lia)]
      lia
  · rw [if_neg (show ¬ p = q by lia), cl_hi (show q ≤ p by lia), cl_hi (show q + 1 ≤ p by lia), cl_hi (show q + 1 ≤ p + 1 by lia)]
    by_cases h0 : q = 0
    · rw [if_pos h0]; subst h0; simp only [sumC] at *; lia
    · rw [if_neg h0, cl_hi (show q ≤ p + 1 by lia)]
      lia
/-- the outer loop's state after p words of b -/
noncomputable def OutInv (c : Nat → Int) (n p : Nat) (result : Int) (row : List Int) : Prop := row = rowAt c n p 0 ∧ row.length = n ∧ (0 < p → result = cl c p n)
/-- the inner loop's state -/
noncomputable def InInv (c : Nat → Int) (n p q : Nat) (dist res mini : Int) (row : List Int) : Prop := row = rowAt c n p q ∧ row.length = n ∧ dist = cl c p q ∧ res = resAt c p q ∧ (p < q → mini ≤ 24)
theorem OutInv.start {c : Nat → Int} {n k : Nat} {r : Int} (hk : k = n) : OutInv c n 0 r ((List.range k).map fun (i : Nat) => 2 + (i : Int) * 2) := by
  subst hk
  exact ⟨rowAt_start, by simp, fun h => absurd h (Nat.not_lt_zero _)⟩
theorem InInv.start {c : Nat → Int} {n p : Nat} {r b : Int} {row : List Int} {M : Int} (e : OutInv c n p r row) (hb : b = p) : InInv c n p 0 (b * 2) (b * 2) M row := by
  subst hb
  refine ⟨e.1, e.2.1, ?_, ?_, fun h => absurd h (Nat.not_lt_zero _)⟩
  · rw [cl_hi (Nat.zero_le _)]; simp only [sumC]; lia
  · unfold resAt; rw [if_pos rfl]; lia
theorem InInv.step {c : Nat → Int} {n p q : Nat} {dist res mini mini' sub : Int} {row : List Int} (hc : ∀ i, i < n → 0 ≤ c i ∧ c i ≤ 1) (hn : n ≤ 20) (hp : p < n) (hq : q < n) (e : InInv c n p q dist res mini row) (hs : sub = if p = q then c p else 2) {d r : Int} (hd : row[q]? = some d) (hr : r = min (min res d + 2) (dist + sub)) (hm : mini' ≤ r ∧ mini' ≤ mini) :
    InInv c n p (q + 1) d r mini' (row.set q r) := by
  obtain ⟨h1, h2, h3, h4, h5⟩ := e
  subst h1 h3 h4 hs
  rw [rowAt_get hq, if_neg (Nat.lt_irrefl _)] at hd
  have hd' : d = cl c p (q + 1) := (Option.some.inj hd).symm
  rw [cl_step hc hp hq rfl hd' rfl] at hr
  subst hr
  refine ⟨rowAt_set hq, by rw [List.length_set, rowAt_length], hd', ?_, fun h => ?_⟩
  · unfold resAt; rw [if_neg (by lia)]
  · by_cases e : p < q
    · have := h5 e; lia
    · have e' : p = q := by lia
      subst e'
      rw [cl_diag] at hm
      have := sumC_le hc (p + 1) (by lia)
      lia
theorem OutInv.step {c : Nat → Int} {n p : Nat} {dist res mini : Int} {row : List Int} (h1 : 1 ≤ n) (e : InInv c n p n dist res mini row) : OutInv c n (p + 1) res row := by
  obtain ⟨h1, h2, h3, h4, h5⟩ := e
  refine ⟨h1.trans rowAt_turn, h2, fun _ => ?_⟩
  rw [h4]; unfold resAt; rw [if_neg (by lia)]
theorem InInv.small {c : Nat → Int} {n p : Nat} {dist res mini : Int} {row : List Int} (hp : p < n) (e : InInv c n p n dist res mini row) : mini ≤ 24 := e.2.2.2.2 hp
theorem OutInv.done {c : Nat → Int} {n : Nat} {r : Int} {row : List Int} (h1 : 1 ≤ n) (e : OutInv c n n r row) : r = sumC c n := by rw [e.2.2 h1, cl_diag]
theorem InInv.start' {c : Nat → Int} {n P p : Nat} {r b : Int} {row : List Int} {M : Int} (e : OutInv c n P r row) (hb : b = 0 + (P : Int)) (hp : p = b.toNat) : InInv c n p 0 (b * 2) (b * 2) M row := by
  have : p = P := by lia
  subst this
  exact InInv.start e (by lia)
theorem range_len {k : Nat} : (rangeKs 0 k).length = k := by simp [rangeKs]
theorem ite_min (a b : Int) : (if b < a then b else a) = min a b := by
  by_cases h : b < a
  · rw [if_pos h, Int.min_eq_right (Int.le_of_lt h)]
  · rw [if_neg h, Int.min_eq_left (Int.not_lt.mp h)]
theorem InInv.step' {c : Nat → Int} {n p : Nat} {PO P : List Int} {b k dist res mini mini' : Int} {x y : Str} {row : List Int} (hc : ∀ i, i < n → 0 ≤ c i ∧ c i ≤ 1) (hn : n ≤ 20) (hx : x.length = n) (hy : y.length = n)
    (hsub : ∀ i j : Nat, i < n → j < n → subF (Txt.item y i) (Txt.item x j) = if i = j then c i else 2)
    (e : InInv c n p P.length dist res mini row) (hp : p = b.toNat) (hb : b = 0 + (PO.length : Int)) (hbl : PO.length < ((y.length : Int) - 0).toNat) (hk : k = 0 + (P.length : Int)) (hkl : P.length < ((x.length : Int) - 0).toNat)
    (hm : mini' ≤ (if dist + subF (Txt.item y b) (Txt.item x k) < (if row.getD k.toNat 0 < res then row.getD k.toNat 0 else res) + 2 then dist + subF (Txt.item y b) (Txt.item x k) else (if row.getD k.toNat 0 < res then row.getD k.toNat 0 else res) + 2) ∧ mini' ≤ mini) :
    (row.set k.toNat (if dist + subF (Txt.item y b) (Txt.item x k) < (if row.getD k.toNat 0 < res then row.getD k.toNat 0 else res) + 2 then dist + subF (Txt.item y b) (Txt.item x k) else (if row.getD k.toNat 0 < res then row.getD k.toNat 0 else res) + 2)).length = n ∧
    InInv c n p (P ++ [k]).length (row.getD k.toNat 0) (if dist + subF (Txt.item y b) (Txt.item x k) < (if row.getD k.toNat 0 < res then row.getD k.toNat 0 else res) + 2 then dist + subF (Txt.item y b) (Txt.item x k) else (if row.getD k.toNat 0 < res then row.getD k.toNat 0 else res) + 2)
      mini' (row.set k.toNat (if dist + subF (Txt.item y b) (Txt.item x k) < (if row.getD k.toNat 0 < res then row.getD k.toNat 0 else res) + 2 then dist + subF (Txt.item y b) (Txt.item x k) else (if row.getD k.toNat 0 < res then row.getD k.toNat 0 else res) + 2)) := by
  have hkn : k.toNat = P.length := by lia
  have hpn : p < n := by lia
  have hqn : P.length < n := by lia
  have hs := hsub p P.length hpn hqn
  rw [show ((p : Nat) : Int) = b by lia, show ((P.length : Nat) : Int) = k by lia] at hs
  have hl := e.2.1
  refine ⟨by rw [List.length_set]; exact hl, ?_⟩
  rw [hkn] at hm ⊢
  rw [show (P ++ [k]).length = P.length + 1 by simp]
  refine InInv.step hc hn hpn hqn e hs ?_ ?_ hm
  · rw [List.getD_eq_getElem?_getD, List.getElem?_eq_getElem (by rw [hl]; exact hqn)]; rfl
  · generalize row.getD P.length 0 = d
    generalize subF (Txt.item y b) (Txt.item x k) = u
    rw [ite_min, ite_min]
theorem InInv.small' {c : Nat → Int} {n p z : Nat} {PO : List Int} {b dist res mini : Int} {x y : Str} {row : List Int} (e : InInv c n p (rangeKs 0 z).length dist res mini row) (hz : z = ((x.length : Int) - 0).toNat) (hx : x.length = n) (hy : y.length = n) (hp : p = b.toNat) (hb : b = 0 + (PO.length : Int)) (hbl : PO.length < ((y.length : Int) - 0).toNat) (hm : 24 < mini) : False := by
  rw [range_len] at e
  rw [show z = n by lia] at e
  have := e.small (by lia)
  lia
theorem OutInv.step' {c : Nat → Int} {n p z : Nat} {PO : List Int} {b dist res mini : Int} {x : Str} {row : List Int} (h1 : 1 ≤ n) (e : InInv c n p (rangeKs 0 z).length dist res mini row) (hz : z = ((x.length : Int) - 0).toNat) (hx : x.length = n) (hp : p = b.toNat) (hb : b = 0 + (PO.length : Int)) : OutInv c n (PO ++ [b]).length res row := by
  rw [range_len] at e
  rw [show z = n by lia] at e
  rw [show (PO ++ [b]).length = p + 1 by simp; lia]
  exact OutInv.step h1 e
theorem OutInv.done' {c : Nat → Int} {n z : Nat} {r : Int} {y : Str} {row : List Int} (h1 : 1 ≤ n) (e : OutInv c n (rangeKs 0 z).length r row) (hz : z = ((y.length : Int) - 0).toNat) (hy : y.length = n) : r = sumC c n := by
  rw [range_len] at e
  rw [show z = n by lia] at e
  exact e.done h1
end Mine
end
section
theorem Mine.off_V6 : True := by
  w_top off
  (try walk1)
  k_with_none
  (k_with "lt" => (with_reducible first | assumption | ((fail_if_success (fail_if_success (refine' Mine.guardLt ?qg ?qh; (case qg => assumption)))); first | (refine' And.left ?qx; case qx => first | assumption | (refine' And.right ?qx; case qx => first | assumption | (refine' And.right ?qx; case qx => first | assumption | (refine' And.right ?qx; case qx => first | assumption | (refine' And.right ?qx; case qx => first | assumption | (refine' And.right ?qx; case qx => first | assumption | (refine' And.right ?qx; case qx => first | assumption | (refine' And.right ?qx; case qx => first | assumption | (refine' And.right ?qx; case qx => first | assumption | (refine' And.right ?qx; case qx => first | assumption | (refine' And.right ?qx; case qx => first | assumption | (refine' And.right ?qx; case qx => first | assumption | (refine' And.right ?qx; case qx => first | assumption | (refine' And.right ?qx; case qx => first | assumption | (refine' And.right ?qx; case qx => first | assumption | (refine' And.right ?qx; case qx => first | assumption | (refine' And.right ?qx; case qx => first | assumption | (refine' And.right ?qx; case qx => first | assumption | (refine' And.right ?qx; case qx => first | assumption | (refine' And.right ?qx; case qx => first | assumption | (refine' And.right ?qx; case qx => assumption))))))))))))))))))))) | (refine' And.right ?qx; case qx => first | assumption | (refine' And.right ?qx; case qx => first | assumption | (refine' And.right ?qx; case qx => first | assumption | (refine' And.right ?qx; case qx => first | assumption | (refine' And.right ?qx; case qx => first | assumption | (refine' And.right ?qx; case qx => first | assumption | (refine' And.right ?qx; case qx => first | assumption | (refine' And.right ?qx; case qx => first | assumption | (refine' And.right ?qx; case qx => first | assumption | (refine' And.right ?qx; case qx => first | assumption | (refine' And.right ?qx; case qx => first | assumption | (refine' And.right ?qx; case qx => first | assumption | (refine' And.right ?qx; case qx => first | assumption | (refine' And.right ?qx; case qx => first | assumption | (refine' And.right ?qx; case qx => first | assumption | (refine' And.right ?qx; case qx => first | assumption | (refine' And.right ?qx; case qx => first | assumption | (refine' And.right ?qx; case qx => first | assumption | (refine' And.right ?qx; case qx => first | assumption | (refine' And.right ?qx; case qx => first | assumption | (refine' And.right ?qx; case qx => assumption)))))))))))))))))))))) | (refine Nat.lt_trans ?_ (by assumption); k_extra "lt")))
  (k_with "omega" => (first | (with_reducible assumption) | (with_reducible exact Ne.symm (by assumption)) | (with_reducible refine Nat.ne_of_lt ?_; k_extra "lt") | (with_reducible refine Nat.ne_of_gt ?_; k_extra "lt") | ((with_reducible refine' Mine.room ?qx ?qy); (case qx => with_reducible assumption); (case qy => exact rfl)) | ((with_reducible refine' Mine.room2 ?qx ?qy); (case qx => with_reducible assumption); (case qy => exact rfl)) | ((with_reducible refine' Mine.room0 ?qx); (case qx => with_reducible assumption)) | (with_reducible refine Mine.isLt ?_; k_extra "lt")))
  trivial
open PySem PySem.W PyProof.Rows PySem.Calls PySem.Spec
namespace Mine
theorem lev_fin {h₀ : Heap} {L : Addr} {news : List (Addr × Obj)} {s : Shared} {Q : Flow → Shared → Prop} {v z : Int} {t : Tok} {h : Heap} {m : Str → Option Value} {tk : Nat}
    (hret : ∀ m' h' tk' t', Fr h₀ L h' m' → News h₀ L h' news → Q (.ret (.int v t')) { s with heap := h', toks := tk' }) (e : z = v) (F : Fr h₀ L h m) (N : News h₀ L h news) : Q (.ret (.int z t)) { s with heap := h, toks := tk } := by
  subst e; exact hret m h tk t F N
theorem k0a {k : Int} {l a : Nat} (e : k = 0 + (l : Int)) : -(a : Int) ≤ k := by lia
theorem k0b {k : Int} {l : Nat} (e : k = 0 + (l : Int)) : 0 ≤ k := by lia
theorem k0c {k : Int} {l : Nat} (e : k = 0 + (l : Int)) : -9223372036854775808 < k := by lia
theorem k0d {k : Int} {l : Nat} (e : k = 0 + (l : Int)) : -(2 : Int) ^ 64 < k := by lia
theorem k1 {k : Int} {l a : Nat} (e : k = 0 + (l : Int)) (h : l < ((a : Int) - 0).toNat) : k < (a : Int) := by lia
theorem k20 {k : Int} {l a n : Nat} (e : k = 0 + (l : Int)) (h : l < ((a : Int) - 0).toNat) (hx : a = n) (hn : n ≤ 20) : k < 20 := by lia
theorem k2a {k : Int} (h : k < 20) : k < 9223372036854775808 := Int.lt_trans h (by decide)
theorem k2b {k : Int} (h : k < 20) : k < (2 : Int) ^ 63 := Int.lt_trans h (by decide)
theorem k2c {k : Int} (h : k < 20) : k < (2 : Int) ^ 64 := Int.lt_trans h (by decide)
theorem k3a {a : Nat} : -(2 : Int) ^ 62 ≤ (a : Int) := by lia
theorem k3b {a n : Nat} (hx : a = n) (hn : n ≤ 20) : (a : Int) < (2 : Int) ^ 62 := by lia
set_option maxRecDepth 100000 in
set_option maxHeartbeats 600000 in
theorem lev_loop {w : World} {mean : ExcName → Option Value} {mg mb : Str → Option Value} {dp un : Nat} {gd : Option (List Code)} {a : Addr} {ccd : Value} {outer : List Env} {A₀ : Around} {base h₀ : Heap} {L : Addr} {m : Str → Option Value} {s : Shared} {cl' : List (Str × Addr)} {news : List (Addr × Obj)} {x y : Str} {tx ty tc : Tok} {n : Nat} {c : Nat → Int} {Q : Flow → Shared → Prop} (B : Below A₀ base outer h₀) (F : Fr h₀ L s.heap m) (X : (Mine.hd.heap_39 w.params).In h₀) (T : Top topProg LOOSE mean mg mb h₀)
    (hma : m (Str.ofString "a") = some (.str x tx)) (hmb : m (Str.ofString "b") = some (.str y ty)) (hmc : m (Str.ofString "max_cost") = some (.int 24 tc))
    (N : News h₀ L s.heap news) (hx : x.length = n) (hy : y.length = n) (hn : n ≤ 20) (h1 : 1 ≤ n) (hc : ∀ i, i < n → 0 ≤ c i ∧ c i ≤ 1) (hsub : ∀ i j : Nat, i < n → j < n → subF (Txt.item y i) (Txt.item x j) = if i = j then c i else 2)
    (hd : dp + 6 < recursionLimit) (hu : un + 48 < cLine)
    (hret : ∀ m' h' tk' t', Fr h₀ L h' m' → News h₀ L h' news → Q (.ret (.int (sumC c n) t')) { s with heap := h', toks := tk' }) :
    wpAny (model PySem.Challenge.rw_pg0203_01.row.prog w) (ktrTop dp un gd (Str.ofString "_levenshtein_distance") (defParts 6).2 L a ccd cl' outer) (execs (stmtsFrom 13 (defParts 6).1) (envX (Str.ofString "_levenshtein_distance") (defParts 6).2 L a ccd cl')) Q (fun _ _ => False) s := by
  revert X; k_fill; intro X
  (k_with "call type:list" => (k_here; (with_reducible show wpAny _ _ (call (Value.type _) [Value.ref _]) _ _ _); (rename IsRange _ _ _ _ _ _ _ _ => rgX); k_dflt (refine' list_twos ?zzk0 ?zzk1 ?zzk2 rgX ?zzk4 ?zzk5 ?_; (case zzk0 => rfl); (case zzk1 => k_asm); (case zzk2 => k_asm); (case zzk4 => exact rfl); (case zzk5 => omega); k_whole); intro D' vs' c' h' tk' F' N' l1 hI'; (try k_lt l1); (try k_sweep)))
  (k_with "call ref" => (k_dflt (refine' sub_tells ?zzk1 ?zzk2 ?zzk3 ?zzk5 ?zzkK ?zzkN ?zzkp ?zzkq ?zzkd ?zzku ?_; (case zzk1 => k_asm); (case zzk2 => k_asm); (case zzk3 => k_asm); (case zzk5 => k_asm); (case zzkK => first | exact rfl | assumption); (case zzkN => k_asm); (case zzkp => exact Nat.le_refl _); (case zzkq => exact Nat.le_refl _); (case zzkd => ktr_room); (case zzku => ktr_units); k_whole); intro t9 h9 tk9 F9 N9; (try dsimp only); (try k_fold)))
  unfold defParts PySem.Challenge.pw_pg0203_01; dsimp only [nthDef, stmtsFrom]
  have F1 := fr_head (x := Str.ofString "max_cost") F hmc
  have F2 := fr_head (x := Str.ofString "b") F1 hmb
  have F3 := fr_head (x := Str.ofString "a") F2 hma
  clear F F1 F2
  (k_with "pyIter ref" => (k_of "bindex" => k_state (fun pre result row => row.length = n ∧ OutInv c n pre.length result row) "result" "row"))
  (k_with "pyIter ref" => (k_of "index" => k_state (fun pre dist res mini row => row.length = n ∧ InInv c n kN.toNat pre.length dist res mini row) "distance" "result" "minimum" "row"))
  (k_with "omega" => (with_reducible first | exact k0a (by assumption) | exact k0b (by assumption) | exact k0c (by assumption) | exact k0d (by assumption) | exact k1 (by assumption) (by assumption) | exact k2a (k20 (by assumption) (by assumption) (by assumption) (by assumption)) | exact k2b (k20 (by assumption) (by assumption) (by assumption) (by assumption)) | exact k2c (k20 (by assumption) (by assumption) (by assumption) (by assumption)) | exact k3a | exact k3b (by assumption) (by assumption)))
  (k_with "state" => first
    | exact ⟨by simp; exact hx, OutInv.start hx⟩
    | exact ⟨by with_reducible assumption, InInv.start' (by with_reducible assumption) (by with_reducible assumption) rfl⟩
    | with_reducible exact InInv.step' hc hn hx hy hsub (by assumption) rfl (by assumption) (by assumption) (by assumption) (by assumption) ⟨Int.le_refl _, Int.le_of_lt (by assumption)⟩
    | with_reducible exact InInv.step' hc hn hx hy hsub (by assumption) rfl (by assumption) (by assumption) (by assumption) (by assumption) ⟨Int.not_lt.mp (by first | assumption | omega), Int.le_refl _⟩
    | exact ⟨by with_reducible assumption, OutInv.step' h1 (by with_reducible assumption) rfl hx rfl (by with_reducible assumption)⟩)
  k_steps
  all_goals first
    | (refine' False.elim (InInv.small' (hz := rfl) (hx := hx) (hy := hy) (hp := rfl) ?qe ?qb ?ql ?qm); (case qe => with_reducible assumption); (case qb => with_reducible assumption); (case ql => with_reducible assumption); (case qm => with_reducible assumption))
    | (dsimp only; refine' lev_fin hret (OutInv.done' h1 (by with_reducible assumption) rfl hy) ?qF ?qN; (case qF => k_asm); (case qN => exact news_tail (by k_asm)))
end Mine
end
section
theorem Mine.off_V7 : True := by
  w_top off
  (try walk1)
  k_with_none
  (k_with "lt" => (with_reducible first | assumption | ((fail_if_success (fail_if_success (refine' Mine.guardLt ?qg ?qh; (case qg => assumption)))); first | (refine' And.left ?qx; case qx => first | assumption | (refine' And.right ?qx; case qx => first | assumption | (refine' And.right ?qx; case qx => first | assumption | (refine' And.right ?qx; case qx => first | assumption | (refine' And.right ?qx; case qx => first | assumption | (refine' And.right ?qx; case qx => first | assumption | (refine' And.right ?qx; case qx => first | assumption | (refine' And.right ?qx; case qx => first | assumption | (refine' And.right ?qx; case qx => first | assumption | (refine' And.right ?qx; case qx => first | assumption | (refine' And.right ?qx; case qx => first | assumption | (refine' And.right ?qx; case qx => first | assumption | (refine' And.right ?qx; case qx => first | assumption | (refine' And.right ?qx; case qx => first | assumption | (refine' And.right ?qx; case qx => first | assumption | (refine' And.right ?qx; case qx => first | assumption | (refine' And.right ?qx; case qx => first | assumption | (refine' And.right ?qx; case qx => first | assumption | (refine' And.right ?qx; case qx => first | assumption | (refine' And.right ?qx; case qx => first | assumption | (refine' And.right ?qx; case qx => assumption))))))))))))))))))))) | (refine' And.right ?qx; case qx => first | assumption | (refine' And.right ?qx; case qx => first | assumption | (refine' And.right ?qx; case qx => first | assumption | (refine' And.right ?qx; case qx => first | assumption | (refine' And.right ?qx; case qx => first | assumption | (refine' And.right ?qx; case qx => first | assumption | (refine' And.right ?qx; case qx => first | assumption | (refine' And.right ?qx; case qx => first | assumption | (refine' And.right ?qx; case qx => first | assumption | (refine' And.right ?qx; case qx => first | assumption | (refine' And.right ?qx; case qx => first | assumption | (refine' And.right ?qx; case qx => first | assumption | (refine' And.right ?qx; case qx => first | assumption | (refine' And.right ?qx; case qx => first | assumption | (refine' And.right ?qx; case qx => first | assumption | (refine' And.right ?qx; case qx => first | assumption | (refine' And.right ?qx; case qx => first | assumption | (refine' And.right ?qx; case qx => first | assumption | (refine' And.right ?qx; case qx => first | assumption | (refine' And.right ?qx; case qx => first | assumption | (refine' And.right ?qx; case qx => assumption)))))))))))))))))))))) | (refine Nat.lt_trans ?_ (by assumption); k_extra "lt")))
  (k_with "omega" => (first | (with_reducible assumption) | (with_reducible exact Ne.symm (by assumption)) | (with_reducible refine Nat.ne_of_lt ?_; k_extra "lt") | (with_reducible refine Nat.ne_of_gt ?_; k_extra "lt") | ((with_reducible refine' Mine.room ?qx ?qy); (case qx => with_reducible assumption); (case qy => exact rfl)) | ((with_reducible refine' Mine.room2 ?qx ?qy); (case qx => with_reducible assumption); (case qy => exact rfl)) | ((with_reducible refine' Mine.room0 ?qx); (case qx => with_reducible assumption)) | (with_reducible refine Mine.isLt ?_; k_extra "lt")))
  trivial
open PySem PySem.W PyProof.Rows PySem.Calls PySem.Spec
namespace Mine
set_option maxRecDepth 100000 in
set_option maxHeartbeats 800000 in
theorem lev_rows {w : World} {mean : ExcName → Option Value} {mg mb : Str → Option Value} {dp un : Nat} {gd : Option (List Code)} {a : Addr} {ccd : Value} {outer : List Env} {A₀ : Around} {base h₀ : Heap} {L : Addr} {m : Str → Option Value} {s : Shared} {cl' : List (Str × Addr)} {news : List (Addr × Obj)} {x y : Str} {tx ty tc : Tok} {n : Nat} {c : Nat → Int} {Q : Flow → Shared → Prop} (B : Below A₀ base outer h₀) (F : Fr h₀ L s.heap m) (X : (Mine.hd.heap_39 w.params).In h₀) (T : Top topProg LOOSE mean mg mb h₀)
    (hma : m (Str.ofString "a") = some (.str x tx)) (hmb : m (Str.ofString "b") = some (.str y ty)) (hmc : m (Str.ofString "max_cost") = some (.int 24 tc))
    (N : News h₀ L s.heap news) (hx : x.length = n) (hy : y.length = n) (hn : n ≤ 20) (hc : ∀ i, i < n → 0 ≤ c i ∧ c i ≤ 1) (hsub : ∀ i j : Nat, i < n → j < n → subF (Txt.item y i) (Txt.item x j) = if i = j then c i else 2)
    (hd : dp + 6 < recursionLimit) (hu : un + 48 < cLine)
    (hret : ∀ m' h' tk' t' r, Fr h₀ L h' m' → News h₀ L h' news → r = sumC c n → Q (.ret (.int r t')) { s with heap := h', toks := tk' }) :
    wpAny (model PySem.Challenge.rw_pg0203_01.row.prog w) (ktrTop dp un gd (Str.ofString "_levenshtein_distance") (defParts 6).2 L a ccd cl' outer) (execs (stmtsFrom 9 (defParts 6).1) (envX (Str.ofString "_levenshtein_distance") (defParts 6).2 L a ccd cl')) Q (fun _ _ => False) s := by
  revert X; k_fill; intro X
  (k_with "execs cons Assign cons" => (k_here; (with_reducible show wpAny _ _ (execs [Stmt.Assign _ _ _, Stmt.Assign _ _ _, Stmt.For _ _ _ _ _, Stmt.Return _ _] _) _ _ _); k_dflt (refine' wpAny_mono (lev_loop ?zzqB ?zzqF ?zzqX ?zzqT ?zzqa ?zzqb ?zzqc ?zzqN ?zzqx ?zzqy ?zzqn ?zzq1 ?zzqh ?zzqs ?zzqd ?zzqu ?_) (fun _ _ x => x) (fun _ _ x => x.elim)); (case zzqB => k_asm); (case zzqF => k_asm); (case zzqX => k_asm); (case zzqT => k_asm); (case zzqa => exact rfl); (case zzqb => exact rfl); (case zzqc => exact rfl); (case zzqN => k_asm); (case zzqx => assumption); (case zzqy => assumption); (case zzqn => assumption); (case zzq1 => omega); (case zzqh => assumption); (case zzqs => assumption); (case zzqd => ktr_room); (case zzqu => ktr_units); k_whole; intro m9 h9 tk9 t9 F9 N9; (try dsimp only)))
  unfold defParts PySem.Challenge.pw_pg0203_01; dsimp only [nthDef, stmtsFrom]
  have F1 := fr_head (x := Str.ofString "max_cost") F hmc
  have F2 := fr_head (x := Str.ofString "b") F1 hmb
  have F3 := fr_head (x := Str.ofString "a") F2 hma
  clear F F1 F2
  k_steps
  all_goals first
    | exact hret _ _ _ _ _ (by k_asm) (by k_asm) rfl
    | (have h0 : n = 0 := by omega
       refine' hret _ _ _ _ _ ?qF ?qN ?qe; (case qF => k_asm); (case qN => k_asm); (case qe => rw [hx, hy, h0]; rfl))
end Mine
end
section
theorem Mine.off_V8 : True := by
  w_top off
  (try walk1)
  k_with_none
  (k_with "lt" => (with_reducible first | assumption | ((fail_if_success (fail_if_success (refine' Mine.guardLt ?qg ?qh; (case qg => assumption)))); first | (refine' And.left ?qx; case qx => first | assumption | (refine' And.right ?qx; case qx => first | assumption | (refine' And.right ?qx; case qx => first | assumption | (refine' And.right ?qx; case qx => first | assumption | (refine' And.right ?qx; case qx => first | assumption | (refine' And.right ?qx; case qx => first | assumption | (refine' And.right ?qx; case qx => first | assumption | (refine' And.right ?qx; case qx => first | assumption | (refine' And.right ?qx; case qx => first | assumption | (refine' And.right ?qx; case qx => first | assumption | (refine' And.right ?qx; case qx => first | assumption | (refine' And.right ?qx; case qx => first | assumption | (refine' And.right ?qx; case qx => first | assumption | (refine' And.right ?qx; case qx => first | assumption | (refine' And.right ?qx; case qx => first | assumption | (refine' And.right ?qx; case qx => first | assumption | (refine' And.right ?qx; case qx => first | assumption | (refine' And.right ?qx; case qx => first | assumption | (refine' And.right ?qx; case qx => first | assumption | (refine' And.right ?qx; case qx => first | assumption | (refine' And.right ?qx; case qx => assumption))))))))))))))))))))) | (refine' And.right ?qx; case qx => first | assumption | (refine' And.right ?qx; case qx => first | assumption | (refine' And.right ?qx; case qx => first | assumption | (refine' And.right ?qx; case qx => first | assumption | (refine' And.right ?qx; case qx => first | assumption | (refine' And.right ?qx; case qx => first | assumption | (refine' And.right ?qx; case qx => first | assumption | (refine' And.right ?qx; case qx => first | assumption | (refine' And.right ?qx; case qx => first | assumption | (refine' And.right ?qx; case qx => first | assumption | (refine' And.right ?qx; case qx => first | assumption | (refine' And.right ?qx; case qx => first | assumption | (refine' And.right ?qx; case qx => first | assumption | (refine' And.right ?qx; case qx => first | assumption | (refine' And.right ?qx; case qx => first | assumption | (refine' And.right ?qx; case qx => first | assumption | (refine' And.right ?qx; case qx => first | assumption | (refine' And.right ?qx; case qx => first | assumption | (refine' And.right ?qx; case qx => first | assumption | (refine' And.right ?qx; case qx => first | assumption | (refine' And.right ?qx; case qx => assumption)))))))))))))))))))))) | (refine Nat.lt_trans ?_ (by assumption); k_extra "lt")))
  (k_with "omega" => (first | (with_reducible assumption) | (with_reducible exact Ne.symm (by assumption)) | (with_reducible refine Nat.ne_of_lt ?_; k_extra "lt") | (with_reducible refine Nat.ne_of_gt ?_; k_extra "lt") | ((with_reducible refine' Mine.room ?qx ?qy); (case qx => with_reducible assumption); (case qy => exact rfl)) | ((with_reducible refine' Mine.room2 ?qx ?qy); (case qx => with_reducible assumption); (case qy => exact rfl)) | ((with_reducible refine' Mine.room0 ?qx); (case qx => with_reducible assumption)) | (with_reducible refine Mine.isLt ?_; k_extra "lt")))
  trivial
open PySem PySem.W PyProof.Rows PySem.Calls PySem.Spec
namespace Mine
/-- the cost of the i-th signs -/
noncomputable def cD (x y : Str) (i : Nat) : Int := if ch x i = ch y i then 0 else 1
/-- two words of n signs, apart in all but the signs of one place, and these alike but for the case -/
noncomputable def Alike (n : Nat) (x y : Str) : Prop := ∀ i j, i < n → j < n → subF ⟨#[ch y i]⟩ ⟨#[ch x j]⟩ = if i = j then cD x y i else 2
theorem cD_bounds (x y : Str) (i : Nat) : 0 ≤ cD x y i ∧ cD x y i ≤ 1 := by unfold cD; split <;> lia
theorem Alike.sub {n : Nat} {x y : Str} (h : Alike n x y) (hx : x.length = n) (hy : y.length = n) : ∀ i j : Nat, i < n → j < n → subF (Txt.item y i) (Txt.item x j) = if i = j then cD x y i else 2 := by
  intro i j hi hj
  rw [item_ch (by lia) (by rw [hy]; lia), item_ch (by lia) (by rw [hx]; lia)]
  exact h i j hi hj
theorem Alike.from {n p : Nat} {x y : Str} (h : Alike n x y) (hx : x.length = n) (hy : y.length = n) (hp : p ≤ n) : Alike (n - p) (Txt.slice x (some (p : Int)) none) (Txt.slice y (some (p : Int)) none) := by
  intro i j hi hj
  have e := h (p + i) (p + j) (by lia) (by lia)
  unfold cD at *
  simp only [from_ch (x := x) (p := (p : Int)) (by lia) (by rw [hx]; lia), from_ch (x := y) (p := (p : Int)) (by lia) (by rw [hy]; lia), Int.toNat_natCast]
  rw [e]
  by_cases q : i = j
  · rw [if_pos q, if_pos (by lia)]
  · rw [if_neg q, if_neg (by lia)]
theorem cD_from {n p : Nat} {x y : Str} (hx : x.length = n) (hy : y.length = n) (hp : p ≤ n) (i : Nat) : cD (Txt.slice x (some (p : Int)) none) (Txt.slice y (some (p : Int)) none) i = cD x y (p + i) := by
  unfold cD
  simp only [from_ch (x := x) (p := (p : Int)) (by lia) (by rw [hx]; lia), from_ch (x := y) (p := (p : Int)) (by lia) (by rw [hy]; lia), Int.toNat_natCast]
theorem all_ch {x : Str} (i : Nat) : ch (Txt.slice x none none) i = ch x i := by
  have e : Txt.slice x none none = Txt.slice x (some 0) none := rfl
  rw [e, from_ch (by lia) (by lia)]; simp
theorem all_len {x : Str} : (Txt.slice x none none).length = x.length := by
  have e : Txt.slice x none none = Txt.slice x (some 0) none := rfl
  have := from_len (x := x) (p := 0) (by lia) (by lia)
  rw [e]; lia
theorem cut_len {x : Str} {q : Int} (h0 : q ≤ 0) (h1 : -(x.length : Int) ≤ q) : ((cutS x q).length : Int) = x.length + q := by
  unfold cutS
  split
  · subst q; rw [all_len]; lia
  · exact to_len (by lia) h1
theorem cut_ch {x : Str} {q : Int} (h0 : q ≤ 0) (h1 : -(x.length : Int) ≤ q) {i : Nat} (hi : (i : Int) < x.length + q) : ch (cutS x q) i = ch x i := by
  unfold cutS
  split
  · exact all_ch i
  · exact to_ch (by lia) h1 hi
theorem Alike.cut {n k : Nat} {q : Int} {x y : Str} (h : Alike n x y) (hx : x.length = n) (hy : y.length = n) (h0 : q ≤ 0) (h1 : -(n : Int) ≤ q) (hk : (k : Int) = n + q) : Alike k (cutS x q) (cutS y q) := by
  intro i j hi hj
  have e := h i j (by lia) (by lia)
  unfold cD at *
  have ax : ∀ i : Nat, i < k → ch (cutS x q) i = ch x i := fun i hi => cut_ch h0 (by rw [hx]; exact h1) (by rw [hx]; lia)
  have ay : ∀ i : Nat, i < k → ch (cutS y q) i = ch y i := fun i hi => cut_ch h0 (by rw [hy]; exact h1) (by rw [hy]; lia)
  rw [ax j hj, ay i hi, ax i hi]
  exact e
theorem cD_cut {n : Nat} {q : Int} {x y : Str} (hx : x.length = n) (hy : y.length = n) (h0 : q ≤ 0) (h1 : -(n : Int) ≤ q) {i : Nat} (hi : (i : Int) < n + q) : cD (cutS x q) (cutS y q) i = cD x y i := by
  unfold cD
  rw [cut_ch h0 (by rw [hx]; exact h1) (by rw [hx]; lia), cut_ch h0 (by rw [hy]; exact h1) (by rw [hy]; lia)]
theorem sumC_ext {c d : Nat → Int} : ∀ n, (∀ i, i < n → c i = d i) → sumC c n = sumC d n
  | 0, _ => rfl
  | n + 1, h => by
    simp only [sumC]
    rw [sumC_ext n fun i hi => h i (by lia), h n (by lia)]
theorem sumC_shift {c : Nat → Int} {p : Nat} (h : ∀ i, i < p → c i = 0) : ∀ k, sumC c (p + k) = sumC (fun i => c (p + i)) k
  | 0 => by
    have e : sumC c p = sumC (fun _ => 0) p := sumC_ext p h
    have z : ∀ n, sumC (fun _ => 0) n = 0 := fun n => by
      induction n with
      | zero => rfl
      | succ n ih => simp only [sumC, ih]; rfl
    show sumC c p = 0
    rw [e, z]
  | k + 1 => by
    rw [← Nat.add_assoc]
    simp only [sumC]
    rw [sumC_shift h k]
theorem sumC_end {c : Nat → Int} {m : Nat} : ∀ k, (∀ i, m ≤ i → i < m + k → c i = 0) → sumC c (m + k) = sumC c m
  | 0, _ => rfl
  | k + 1, h => by
    rw [← Nat.add_assoc]
    simp only [sumC]
    rw [sumC_end k fun i h1 h2 => h i h1 (by lia), h (m + k) (by lia) (by lia)]
    lia
/-- the whole: prefix and suffix alike, the rows between -/
theorem lev_sum {n : Nat} {x y : Str} {p q : Int} {k : Nat} (hx : x.length = n) (hy : y.length = n) (P : PreInv n x y p) (S : PostInv (n - p.toNat) (Txt.slice x (some p) none) (Txt.slice y (some p) none) q) (hk : (k : Int) = n - p + q) :
    sumC (cD (cutS (Txt.slice x (some p) none) q) (cutS (Txt.slice y (some p) none) q)) k = sumC (cD x y) n := by
  obtain ⟨p0, p1, pe⟩ := P
  obtain ⟨s0, s1, se⟩ := S
  obtain ⟨P, rfl⟩ : ∃ P : Nat, p = P := ⟨p.toNat, by lia⟩
  rw [Int.toNat_natCast] at *
  have hP : P ≤ n := by lia
  have lx : (Txt.slice x (some (P : Int)) none).length = n - P := by have := from_len (x := x) (p := (P : Int)) (by lia) (by rw [hx]; lia); lia
  have ly : (Txt.slice y (some (P : Int)) none).length = n - P := by have := from_len (x := y) (p := (P : Int)) (by lia) (by rw [hy]; lia); lia
  have e1 : sumC (cD x y) n = sumC (cD (Txt.slice x (some (P : Int)) none) (Txt.slice y (some (P : Int)) none)) (n - P) := by
    have e := sumC_shift (c := cD x y) (p := P) (fun i hi => by unfold cD; rw [if_pos (pe i hi)]) (n - P)
    rw [show P + (n - P) = n by lia] at e
    rw [e]
    exact sumC_ext _ fun i _ => (cD_from hx hy hP i).symm
  rw [e1]
  have e2 := sumC_end (c := cD (Txt.slice x (some (P : Int)) none) (Txt.slice y (some (P : Int)) none)) (m := k) (n - P - k) (fun i h1 h2 => by unfold cD; rw [if_pos (se i (by lia) (by lia))])
  rw [show k + (n - P - k) = n - P by lia] at e2
  rw [e2]
  exact sumC_ext _ fun i hi => cD_cut lx ly s0 s1 (by lia)
end Mine
end
section
theorem Mine.off_V9 : True := by
  w_top off
  (try walk1)
  k_with_none
  (k_with "lt" => (with_reducible first | assumption | ((fail_if_success (fail_if_success (refine' Mine.guardLt ?qg ?qh; (case qg => assumption)))); first | (refine' And.left ?qx; case qx => first | assumption | (refine' And.right ?qx; case qx => first | assumption | (refine' And.right ?qx; case qx => first | assumption | (refine' And.right ?qx; case qx => first | assumption | (refine' And.right ?qx; case qx => first | assumption | (refine' And.right ?qx; case qx => first | assumption | (refine' And.right ?qx; case qx => first | assumption | (refine' And.right ?qx; case qx => first | assumption | (refine' And.right ?qx; case qx => first | assumption | (refine' And.right ?qx; case qx => first | assumption | (refine' And.right ?qx; case qx => first | assumption | (refine' And.right ?qx; case qx => first | assumption | (refine' And.right ?qx; case qx => first | assumption | (refine' And.right ?qx; case qx => first | assumption | (refine' And.right ?qx; case qx => first | assumption | (refine' And.right ?qx; case qx => first | assumption | (refine' And.right ?qx; case qx => first | assumption | (refine' And.right ?qx; case qx => first | assumption | (refine' And.right ?qx; case qx => first | assumption | (refine' And.right ?qx; case qx => first | assumption | (refine' And.right ?qx; case qx => assumption))))))))))))))))))))) | (refine' And.right ?qx; case qx => first | assumption | (refine' And.right ?qx; case qx => first | assumption | (refine' And.right ?qx; case qx => first | assumption | (refine' And.right ?qx; case qx => first | assumption | (refine' And.right ?qx; case qx => first | assumption | (refine' And.right ?qx; case qx => first | assumption | (refine' And.right ?qx; case qx => first | assumption | (refine' And.right ?qx; case qx => first | assumption | (refine' And.right ?qx; case qx => first | assumption | (refine' And.right ?qx; case qx => first | assumption | (refine' And.right ?qx; case qx => first | assumption | (refine' And.right ?qx; case qx => first | assumption | (refine' And.right ?qx; case qx => first | assumption | (refine' And.right ?qx; case qx => first | assumption | (refine' And.right ?qx; case qx => first | assumption | (refine' And.right ?qx; case qx => first | assumption | (refine' And.right ?qx; case qx => first | assumption | (refine' And.right ?qx; case qx => first | assumption | (refine' And.right ?qx; case qx => first | assumption | (refine' And.right ?qx; case qx => first | assumption | (refine' And.right ?qx; case qx => assumption)))))))))))))))))))))) | (refine Nat.lt_trans ?_ (by assumption); k_extra "lt")))
  (k_with "omega" => (first | (with_reducible assumption) | (with_reducible exact Ne.symm (by assumption)) | (with_reducible refine Nat.ne_of_lt ?_; k_extra "lt") | (with_reducible refine Nat.ne_of_gt ?_; k_extra "lt") | ((with_reducible refine' Mine.room ?qx ?qy); (case qx => with_reducible assumption); (case qy => exact rfl)) | ((with_reducible refine' Mine.room2 ?qx ?qy); (case qx => with_reducible assumption); (case qy => exact rfl)) | ((with_reducible refine' Mine.room0 ?qx); (case qx => with_reducible assumption)) | (with_reducible refine Mine.isLt ?_; k_extra "lt")))
  trivial
open PySem PySem.W PyProof.Rows PySem.Calls PySem.Spec
namespace Mine
/-- behind the first statements -/
noncomputable def thenQ (M : Model) (A : Around) (E : Value → Shared → Prop) (env : Env) (r : List Stmt) (Q : Flow → Shared → Prop) (f : Flow) (s : Shared) : Prop := match f with
  | Flow.next => wpAny M A (execs r env) Q E s
  | f => Q f s
theorem execs_join_wp {M : Model} {A : Around} {E : Value → Shared → Prop} {env : Env} {Q : Flow → Shared → Prop} {Γ : PySem.Ctx} (hΓ : Γ.In A) : ∀ (l r : List Stmt) (p : Pos) (s : Shared),
    Sem.wp M Γ (execs l env) (fun f _ s' => thenQ M A E env r Q f s') (fun e _ s' => E e s') p s → Sem.wp M Γ (execs (l ++ r) env) (fun f _ s' => Q f s') (fun e _ s' => E e s') p s
  | [], r, p, s, h => (show wpAny M A (execs r env) Q E s from h) Γ p hΓ
  | st :: l, r, p, s, h => by
    rw [List.cons_append, execs_cons, Sem.wp_bind']
    rw [execs_cons, Sem.wp_bind'] at h
    refine Sem.wp_mono M Γ _ (fun f p' s' h' => ?_) (fun _ _ _ x => x) p s h
    cases f with
    | next => exact execs_join_wp hΓ l r p' s' h'
    | _ => exact h'
theorem execs_join {M : Model} {A : Around} {E : Value → Shared → Prop} {env : Env} {Q : Flow → Shared → Prop} {l r : List Stmt} {s : Shared} (h : wpAny M A (execs l env) (thenQ M A E env r Q) E s) : wpAny M A (execs (l ++ r) env) Q E s :=
  fun Γ p hΓ => execs_join_wp hΓ l r p s (h Γ p hΓ)
theorem take_join {l : List Stmt} {k : Nat} {M : Model} {A : Around} {E : Value → Shared → Prop} {env : Env} {Q : Flow → Shared → Prop} {s : Shared} (h : wpAny M A (execs (l.take k) env) (thenQ M A E env (l.drop k) Q) E s) : wpAny M A (execs l env) Q E s := by
  have e := List.take_append_drop k l
  rw [← e]
  exact execs_join h
theorem from_lenN {x : Str} {n k : Nat} (hx : x.length = n) (h : (k : Int) ≤ n) : (Txt.slice x (some (k : Int)) none).length = n - k := by
  have := from_len (x := x) (p := (k : Int)) (by lia) (by rw [hx]; lia)
  lia
theorem to_nat {p : Int} (h : 0 ≤ p) : ∃ k : Nat, p = k := ⟨p.toNat, by lia⟩
theorem cut_j {a : Nat} {q : Int} (h : -(a : Int) ≤ q) : ∃ j : Nat, (j : Int) = (a : Int) + q := ⟨((a : Int) + q).toNat, by lia⟩
theorem sub20 {n k : Nat} (h : n ≤ 20) : n - k ≤ 20 := Nat.le_trans (Nat.sub_le n k) h
theorem len20 {a n k : Nat} (e : a = n - k) (h : n ≤ 20) : a ≤ 20 := e ▸ sub20 h
theorem cut_eq {a b d j : Nat} {q : Int} (l : (a : Int) = b + q) (e : b = d) (hj : (j : Int) = (d : Int) + q) : a = j := by lia
theorem cut20 {d j : Nat} {q : Int} (hj : (j : Int) = (d : Int) + q) (h : d ≤ 20) (s : q ≤ 0) : j ≤ 20 := by lia
theorem cut_sum {n k j : Nat} {q : Int} (hj : (j : Int) = ((n - k : Nat) : Int) + q) (h : (k : Int) ≤ n) : (j : Int) = (n : Int) - k + q := by lia
set_option maxRecDepth 100000 in
set_option maxHeartbeats 1000000 in
theorem lev_mid {w : World} {mean : ExcName → Option Value} {mg mb : Str → Option Value} {dp un : Nat} {gd : Option (List Code)} {a : Addr} {ccd : Value} {outer : List Env} {A₀ : Around} {base h₀ : Heap} {L : Addr} {m : Str → Option Value} {s : Shared} {cl' : List (Str × Addr)} {news : List (Addr × Obj)} {x y : Str} {tx ty tc : Tok} {n : Nat} {Q : Flow → Shared → Prop} (B : Below A₀ base outer h₀) (F : Fr h₀ L s.heap m) (X : (Mine.hd.heap_39 w.params).In h₀) (T : Top topProg LOOSE mean mg mb h₀)
    (hma : m (Str.ofString "a") = some (.str x tx)) (hmb : m (Str.ofString "b") = some (.str y ty)) (hmc : m (Str.ofString "max_cost") = some (.int 24 tc))
    (N : News h₀ L s.heap news) (hx : x.length = n) (hy : y.length = n) (hn : n ≤ 20) (hA : Alike n x y)
    (hd : dp + 6 < recursionLimit) (hu : un + 48 < cLine)
    (hret : ∀ m' h' tk' t', Fr h₀ L h' m' → News h₀ L h' news → Q (.ret (.int (sumC (cD x y) n) t')) { s with heap := h', toks := tk' }) :
    wpAny (model PySem.Challenge.rw_pg0203_01.row.prog w) (ktrTop dp un gd (Str.ofString "_levenshtein_distance") (defParts 6).2 L a ccd cl' outer) (execs (stmtsFrom 1 (defParts 6).1) (envX (Str.ofString "_levenshtein_distance") (defParts 6).2 L a ccd cl')) Q (fun _ _ => False) s := by
  refine take_join (k := 4) (wpAny_mono (lev_pre B F X T hma hmb hmc N hx hy hn hd hu (Q := thenQ _ _ _ _ _ Q) ?_) (fun _ _ x => x) fun _ _ x => x)
  intro m1 h1 tk1 p ta1 tb1 tc1 F1 a1 b1 c1 N1 P
  have p0 := P.1
  have p1 := P.2.1
  obtain ⟨k, rfl⟩ := to_nat p0
  have lx : (Txt.slice x (some (k : Int)) none).length = n - k := from_lenN hx p1
  have ly : (Txt.slice y (some (k : Int)) none).length = n - k := from_lenN hy p1
  show wpAny _ _ (execs (stmtsFrom 5 (defParts 6).1) _) Q (fun _ _ => False) _
  refine take_join (k := 2) (wpAny_mono (lev_post1 (s := { s with heap := h1, toks := tk1 }) B F1 X T a1 b1 c1 N1 lx ly (sub20 hn) hd hu (Q := thenQ _ _ _ _ _ Q) ?_) (fun _ _ x => x) fun _ _ x => x)
  intro m2 h2 tk2 q ta2 tb2 tc2 tq2 F2 a2 b2 c2 q2 N2 S
  show wpAny _ _ (execs (stmtsFrom 7 (defParts 6).1) _) Q (fun _ _ => False) _
  refine take_join (k := 2) (wpAny_mono (lev_post2 (s := { s with heap := h2, toks := tk2 }) B F2 X T a2 b2 c2 q2 N2 (len20 lx hn) (len20 ly hn) hd hu (Q := thenQ _ _ _ _ _ Q) ?_) (fun _ _ x => x) fun _ _ x => x)
  intro m3 h3 tk3 ta3 tb3 tc3 F3 a3 b3 c3 N3
  show wpAny _ _ (execs (stmtsFrom 9 (defParts 6).1) _) Q (fun _ _ => False) _
  have s0 := S.1
  have s1 := S.2.1
  have l3 := cut_len (x := Txt.slice x (some (k : Int)) none) (q := q) s0 (by rw [lx]; exact s1)
  have l4 := cut_len (x := Txt.slice y (some (k : Int)) none) (q := q) s0 (by rw [ly]; exact s1)
  obtain ⟨j, hj⟩ := cut_j s1
  have hA3 := (hA.from hx hy (Int.ofNat_le.mp p1 : k ≤ n)).cut lx ly s0 s1 hj
  refine wpAny_mono (lev_rows (s := { s with heap := h3, toks := tk3 }) (n := j) (c := cD (cutS (Txt.slice x (some (k : Int)) none) q) (cutS (Txt.slice y (some (k : Int)) none) q)) B F3 X T a3 b3 c3 N3 (cut_eq l3 lx hj) (cut_eq l4 ly hj) (cut20 hj (sub20 hn) s0) (fun i _ => cD_bounds _ _ i) (hA3.sub (cut_eq l3 lx hj) (cut_eq l4 ly hj)) hd hu ?_) (fun _ _ x => x) fun _ _ x => x
  intro m4 h4 tk4 t4 r F4 N4 e
  rw [e, lev_sum hx hy P S (cut_sum hj p1)]
  exact hret m4 h4 tk4 t4 F4 N4
end Mine
end
section
theorem Mine.off_VA : True := by
  w_top off
  (try walk1)
  k_with_none
  (k_with "lt" => (with_reducible first | assumption | ((fail_if_success (fail_if_success (refine' Mine.guardLt ?qg ?qh; (case qg => assumption)))); first | (refine' And.left ?qx; case qx => first | assumption | (refine' And.right ?qx; case qx => first | assumption | (refine' And.right ?qx; case qx => first | assumption | (refine' And.right ?qx; case qx => first | assumption | (refine' And.right ?qx; case qx => first | assumption | (refine' And.right ?qx; case qx => first | assumption | (refine' And.right ?qx; case qx => first | assumption | (refine' And.right ?qx; case qx => first | assumption | (refine' And.right ?qx; case qx => first | assumption | (refine' And.right ?qx; case qx => first | assumption | (refine' And.right ?qx; case qx => first | assumption | (refine' And.right ?qx; case qx => first | assumption | (refine' And.right ?qx; case qx => first | assumption | (refine' And.right ?qx; case qx => first | assumption | (refine' And.right ?qx; case qx => first | assumption | (refine' And.right ?qx; case qx => first | assumption | (refine' And.right ?qx; case qx => first | assumption | (refine' And.right ?qx; case qx => first | assumption | (refine' And.right ?qx; case qx => first | assumption | (refine' And.right ?qx; case qx => first | assumption | (refine' And.right ?qx; case qx => assumption))))))))))))))))))))) | (refine' And.right ?qx; case qx => first | assumption | (refine' And.right ?qx; case qx => first | assumption | (refine' And.right ?qx; case qx => first | assumption | (refine' And.right ?qx; case qx => first | assumption | (refine' And.right ?qx; case qx => first | assumption | (refine' And.right ?qx; case qx => first | assumption | (refine' And.right ?qx; case qx => first | assumption | (refine' And.right ?qx; case qx => first | assumption | (refine' And.right ?qx; case qx => first | assumption | (refine' And.right ?qx; case qx => first | assumption | (refine' And.right ?qx; case qx => first | assumption | (refine' And.right ?qx; case qx => first | assumption | (refine' And.right ?qx; case qx => first | assumption | (refine' And.right ?qx; case qx => first | assumption | (refine' And.right ?qx; case qx => first | assumption | (refine' And.right ?qx; case qx => first | assumption | (refine' And.right ?qx; case qx => first | assumption | (refine' And.right ?qx; case qx => first | assumption | (refine' And.right ?qx; case qx => first | assumption | (refine' And.right ?qx; case qx => first | assumption | (refine' And.right ?qx; case qx => assumption)))))))))))))))))))))) | (refine Nat.lt_trans ?_ (by assumption); k_extra "lt")))
  (k_with "omega" => (first | (with_reducible assumption) | (with_reducible exact Ne.symm (by assumption)) | (with_reducible refine Nat.ne_of_lt ?_; k_extra "lt") | (with_reducible refine Nat.ne_of_gt ?_; k_extra "lt") | ((with_reducible refine' Mine.room ?qx ?qy); (case qx => with_reducible assumption); (case qy => exact rfl)) | ((with_reducible refine' Mine.room2 ?qx ?qy); (case qx => with_reducible assumption); (case qy => exact rfl)) | ((with_reducible refine' Mine.room0 ?qx); (case qx => with_reducible assumption)) | (with_reducible refine Mine.isLt ?_; k_extra "lt")))
  trivial
open PySem PySem.W PyProof.Rows PySem.Calls PySem.Spec
namespace Mine
theorem sumC_self (x : Str) : ∀ n, sumC (cD x x) n = 0
  | 0 => rfl
  | n + 1 => by simp only [sumC]; rw [sumC_self x n]; unfold cD; rw [if_pos rfl]; rfl
theorem sumC_same {x y : Str} {n : Nat} (h : (x == y) = true) : 0 = sumC (cD x y) n := by
  rw [← eq_of_beq h, sumC_self]
section
variable {w : World} {mean : ExcName → Option Value} {mg mb : Str → Option Value} {dp un : Nat} {gd : Option (List Code)} {cn : Str} {cs : Scope} {a : Addr} {ccd : Value} {cl : List (Str × Addr)} {outer : List Env} {A₀ : Around} {base h₀ : Heap} {L : Addr} {m : Str → Option Value} {news : List (Addr × Obj)} {s : Shared} {Q E : Value → Shared → Prop}
set_option maxRecDepth 100000 in
set_option maxHeartbeats 1000000 in
theorem lev_tells {x y : Str} {ta tb tc : Tok} {n : Nat} (B : Below A₀ base outer h₀) (F : Fr h₀ L s.heap m) (X : (Mine.hd.heap_39 w.params).In h₀) (T : Top topProg LOOSE mean mg mb h₀) (hk : cs.kind = .function) (N : News h₀ L s.heap news) (hx : x.length = n) (hy : y.length = n) (hn : n ≤ 20) (hA : Alike n x y) (hd : dp + 8 < recursionLimit) (hu : un + 64 < cLine)
    (hret : ∀ t h' tk', Fr h₀ L h' m → News h₀ L h' news → Q (.int (sumC (cD x y) n) t) { s with heap := h', toks := tk' }) :
    wpAny (model PySem.Challenge.rw_pg0203_01.row.prog w) (ktrTop dp un gd cn cs L a ccd cl outer) (call (.ref 69) [.str x ta, .str y tb, .int 24 tc]) Q E s := by
  revert X; k_fill; intro X
  (k_with "execs cons Assign cons" => (k_here; (with_reducible show wpAny _ _ (execs [Stmt.Assign _ _ _, Stmt.While _ _ _ _, Stmt.Assign _ _ _, Stmt.Assign _ _ _, Stmt.Assign _ _ _, Stmt.While _ _ _ _, Stmt.Assign _ _ _, Stmt.Assign _ _ _, Stmt.If _ _ _ _, Stmt.If _ _ _ _, Stmt.If _ _ _ _, Stmt.If _ _ _ _, Stmt.Assign _ _ _, Stmt.Assign _ _ _, Stmt.For _ _ _ _ _, Stmt.Return _ _] _) _ _ _); k_dflt (refine' wpAny_mono (lev_mid (cl' := []) ?zzqB ?zzqF ?zzqX ?zzqT ?zzqa ?zzqb ?zzqc ?zzqN ?zzqx ?zzqy ?zzqn ?zzqA ?zzqd ?zzqu ?_) (fun _ _ x => x) (fun _ _ x => x.elim)); (case zzqB => k_asm); (case zzqF => k_asm); (case zzqX => k_asm); (case zzqT => k_asm); (case zzqa => exact rfl); (case zzqb => exact rfl); (case zzqc => exact rfl); (case zzqN => k_asm); (case zzqx => assumption); (case zzqy => assumption); (case zzqn => assumption); (case zzqA => assumption); (case zzqd => ktr_room); (case zzqu => ktr_units); k_whole; intro m9 h9 tk9 t9 F9 N9; (try dsimp only)))
  k_dflt (refine wpAny_call ?_; refine' code_def (binds := [(Str.ofString "a", .str x ta), (Str.ofString "b", .str y tb), (Str.ofString "max_cost", .int 24 tc)]) ?k1 ?k2 ?k3 ?k4 ?k5 ?kA ?kF ?kK ?k6 ?k7 ?k8 ?k9 ?kB ?_ ?c2 ?c3 ?c4 ?c5; (case kA => exact rfl); (case kF => exact rfl); (case kK => assumption); (case k1 => k_asm); (case k2 => k_asm); (case k3 => k_asm); (case k4 => k_asm); (case k5 => k_asm); (case k6 => k_is); (case k7 => k_is); (case k8 => ktr_room); (case k9 => exact BindsTo.of_eq rfl); (case c5 => decide); (case kB => exact locs rfl); (case c2 => exact rfl); (case c3 => exact rfl); (case c4 => exact rfl); k_whole; intro g' L' h' FG' F' N' B' X' T'; (try dsimp only); (try k_lift B'); (try k_fold))
  k_steps
  all_goals first
    | exact cb_retI hret rfl (by k_asm) (by k_asm)
    | exact cb_retI hret (sumC_same (by assumption)) (by k_asm) (by k_asm)
end
end Mine
end
section
theorem Mine.off_B0 : True := by
  w_top off
  (try walk1)
  k_with_none
  (k_with "lt" => (with_reducible first | assumption | ((fail_if_success (fail_if_success (refine' Mine.guardLt ?qg ?qh; (case qg => assumption)))); first | (refine' And.left ?qx; case qx => first | assumption | (refine' And.right ?qx; case qx => first | assumption | (refine' And.right ?qx; case qx => first | assumption | (refine' And.right ?qx; case qx => first | assumption | (refine' And.right ?qx; case qx => first | assumption | (refine' And.right ?qx; case qx => first | assumption | (refine' And.right ?qx; case qx => first | assumption | (refine' And.right ?qx; case qx => first | assumption | (refine' And.right ?qx; case qx => first | assumption | (refine' And.right ?qx; case qx => first | assumption | (refine' And.right ?qx; case qx => first | assumption | (refine' And.right ?qx; case qx => first | assumption | (refine' And.right ?qx; case qx => first | assumption | (refine' And.right ?qx; case qx => first | assumption | (refine' And.right ?qx; case qx => first | assumption | (refine' And.right ?qx; case qx => first | assumption | (refine' And.right ?qx; case qx => first | assumption | (refine' And.right ?qx; case qx => first | assumption | (refine' And.right ?qx; case qx => first | assumption | (refine' And.right ?qx; case qx => first | assumption | (refine' And.right ?qx; case qx => assumption))))))))))))))))))))) | (refine' And.right ?qx; case qx => first | assumption | (refine' And.right ?qx; case qx => first | assumption | (refine' And.right ?qx; case qx => first | assumption | (refine' And.right ?qx; case qx => first | assumption | (refine' And.right ?qx; case qx => first | assumption | (refine' And.right ?qx; case qx => first | assumption | (refine' And.right ?qx; case qx => first | assumption | (refine' And.right ?qx; case qx => first | assumption | (refine' And.right ?qx; case qx => first | assumption | (refine' And.right ?qx; case qx => first | assumption | (refine' And.right ?qx; case qx => first | assumption | (refine' And.right ?qx; case qx => first | assumption | (refine' And.right ?qx; case qx => first | assumption | (refine' And.right ?qx; case qx => first | assumption | (refine' And.right ?qx; case qx => first | assumption | (refine' And.right ?qx; case qx => first | assumption | (refine' And.right ?qx; case qx => first | assumption | (refine' And.right ?qx; case qx => first | assumption | (refine' And.right ?qx; case qx => first | assumption | (refine' And.right ?qx; case qx => first | assumption | (refine' And.right ?qx; case qx => assumption)))))))))))))))))))))) | (refine Nat.lt_trans ?_ (by assumption); k_extra "lt")))
  (k_with "omega" => (first | (with_reducible assumption) | (with_reducible exact Ne.symm (by assumption)) | (with_reducible refine Nat.ne_of_lt ?_; k_extra "lt") | (with_reducible refine Nat.ne_of_gt ?_; k_extra "lt") | ((with_reducible refine' Mine.room ?qx ?qy); (case qx => with_reducible assumption); (case qy => exact rfl)) | ((with_reducible refine' Mine.room2 ?qx ?qy); (case qx => with_reducible assumption); (case qy => exact rfl)) | ((with_reducible refine' Mine.room0 ?qx); (case qx => with_reducible assumption)) | (with_reducible refine Mine.isLt ?_; k_extra "lt")))
  trivial
open PySem PySem.W PyProof.Rows PySem.Calls PySem.Spec
namespace Mine
/-- all orders of a list -/
noncomputable def insAll (x : Int) : List Int → List (List Int)
  | [] => [[x]]
  | y :: r => (x :: y :: r) :: (insAll x r).map (y :: ·)
noncomputable def perms : List Int → List (List Int)
  | [] => [[]]
  | x :: r => (perms r).flatMap (insAll x)
noncomputable def IsOrder (ns : List Int) : Prop := ns ∈ perms [0, 1, 2, 3, 4]
theorem of_order {P : List Int → Bool} (h : (perms [0, 1, 2, 3, 4]).all P = true) {ns : List Int} (J : IsOrder ns) : P ns = true := List.all_eq_true.mp h ns J
/-- the word's letters -/
noncomputable def wordL (ns : List Int) : List Nat := (List.range 5).flatMap fun i => (List.range 4).map fun j => if ((j : Nat) : Int) < ns.getD i 0 then 65 + 4 * i + j else 97 + 4 * i + j
set_option maxRecDepth 100000 in
theorem word_all : ((perms [0, 1, 2, 3, 4]).all fun ns => decide ((wordF ns).cps.toList = wordL ns)) = true := by decide +kernel
set_option maxRecDepth 100000 in
theorem sub_all : ((List.range 20).all fun i => (List.range 20).all fun j => [65, 97].all fun a => [65, 97].all fun b => decide (subF ⟨#[a + i]⟩ ⟨#[b + j]⟩ = if i = j then (if a = b then 0 else 1) else 2)) = true := by decide +kernel
set_option maxRecDepth 100000 in
theorem wordL_all : ((perms [0, 1, 2, 3, 4]).all fun ns => (List.range 20).all fun i => decide ((wordL ns).getD i 0 = 65 + i) || decide ((wordL ns).getD i 0 = 97 + i)) = true := by decide +kernel
theorem wordL_len : ((perms [0, 1, 2, 3, 4]).all fun ns => decide ((wordL ns).length = 20)) = true := by decide +kernel
theorem word_eq {ns : List Int} (J : IsOrder ns) : (wordF ns).cps.toList = wordL ns := of_decide_eq_true (of_order word_all J)
theorem ch_word {ns : List Int} (J : IsOrder ns) (i : Nat) : ch (wordF ns) i = (wordL ns).getD i 0 := by rw [ch_self, word_eq J]
theorem word_len {ns : List Int} (J : IsOrder ns) : (wordF ns).length = 20 := by
  rw [str_len, ← Array.length_toList, word_eq J]
  exact of_decide_eq_true (of_order wordL_len J)
theorem wordL_at {ns : List Int} (J : IsOrder ns) {i : Nat} (hi : i < 20) : (wordL ns).getD i 0 = 65 + i ∨ (wordL ns).getD i 0 = 97 + i := by
  have h := of_order wordL_all J
  simp only [List.all_eq_true, List.mem_range, Bool.or_eq_true, decide_eq_true_eq] at h
  exact h i hi
theorem sub_at {i j a b : Nat} (hi : i < 20) (hj : j < 20) (ha : a = 65 ∨ a = 97) (hb : b = 65 ∨ b = 97) : subF ⟨#[a + i]⟩ ⟨#[b + j]⟩ = if i = j then (if a = b then 0 else 1) else 2 := by
  have h := sub_all
  simp only [List.all_eq_true, List.mem_range, decide_eq_true_eq] at h
  exact h i hi j hj a (by rcases ha with rfl | rfl <;> simp) b (by rcases hb with rfl | rfl <;> simp)
theorem alike_words {ns ms : List Int} (J : IsOrder ns) (K : IsOrder ms) : Alike 20 (wordF ns) (wordF ms) := by
  intro i j hi hj
  unfold cD
  rw [ch_word K, ch_word J, ch_word J]
  obtain ⟨a, ha, ea⟩ : ∃ a, (a = 65 ∨ a = 97) ∧ (wordL ms).getD i 0 = a + i := by
    rcases wordL_at K hi with e | e
    · exact ⟨65, .inl rfl, e⟩
    · exact ⟨97, .inr rfl, e⟩
  obtain ⟨b, hb, eb⟩ : ∃ b, (b = 65 ∨ b = 97) ∧ (wordL ns).getD j 0 = b + j := by
    rcases wordL_at J hj with e | e
    · exact ⟨65, .inl rfl, e⟩
    · exact ⟨97, .inr rfl, e⟩
  rw [ea, eb, sub_at hi hj ha hb]
  by_cases q : i = j
  · subst q
    rw [if_pos rfl, if_pos rfl, eb]
    by_cases r : a = b
    · rw [if_pos r, if_pos (by lia)]
    · rw [if_neg r, if_neg (by lia)]
  · rw [if_neg q, if_neg q]
noncomputable def levL (ns : List Int) : Int := sumC (fun i => if (wordL ns).getD i 0 = (wordL [0, 1, 2, 3, 4]).getD i 0 then 0 else 1) 20
theorem order_id : IsOrder [0, 1, 2, 3, 4] := by unfold IsOrder; decide +kernel
/-- the distance of the words -/
noncomputable def distF (ns : List Int) : Int := sumC (cD (wordF ns) (wordF [0, 1, 2, 3, 4])) 20
theorem dist_eq {ns : List Int} (J : IsOrder ns) : distF ns = levL ns := by
  unfold distF levL
  refine sumC_ext 20 fun i _ => ?_
  unfold cD
  rw [ch_word J, ch_word order_id]
theorem order_inR_all : ((perms [0, 1, 2, 3, 4]).all fun ns => decide (ns.length = 5) && (List.range 5).all fun k => decide (0 ≤ ns.getD k 0) && decide (ns.getD k 0 < 5)) = true := by decide +kernel
theorem order_inR {ns : List Int} (J : IsOrder ns) : InR ns := by
  have h := of_order order_inR_all J
  simp only [List.all_eq_true, List.mem_range, Bool.and_eq_true, decide_eq_true_eq] at h
  exact ⟨h.1, fun k h0 h1 => h.2 k.toNat (by lia)⟩
noncomputable abbrev W0 (a b c d e : Int) : List Int := insR (insR (insR (insR (insR [] a) b) c) d) e
noncomputable abbrev W1 (a b c d e : Int) : List Int := popAt (W0 a b c d e) (bisL (W0 a b c d e) a)
noncomputable abbrev W2 (a b c d e : Int) : List Int := popAt (W1 a b c d e) (bisL (W1 a b c d e) b)
noncomputable abbrev W3 (a b c d e : Int) : List Int := popAt (W2 a b c d e) (bisL (W2 a b c d e) c)
noncomputable abbrev W4 (a b c d e : Int) : List Int := popAt (W3 a b c d e) (bisL (W3 a b c d e) d)
/-- what a property of five ints says of a list -/
noncomputable def on5 (P : Int → Int → Int → Int → Int → Bool) : List Int → Bool
  | [a, b, c, d, e] => P a b c d e
  | _ => true
noncomputable abbrev M1 (a : Int) : List Int := insR [] a
noncomputable abbrev M2 (a b : Int) : List Int := insR (M1 a) b
noncomputable abbrev M3 (a b c : Int) : List Int := insR (M2 a b) c
noncomputable abbrev M4 (a b c d : Int) : List Int := insR (M3 a b c) d
noncomputable abbrev gr (xs : List Int) (r : Int) : Int := (xs.length : Int) - bisR xs r
noncomputable abbrev po (xs ws : List Int) (r : Int) : Int := if bisL ws r < (xs.length : Int) - bisR xs r then bisL ws r else (xs.length : Int) - bisR xs r
noncomputable abbrev cutP (xs : List Int) (r : Int) : List Int := setCut xs (bisL xs (-r)) (-r)
noncomputable abbrev P5 (a b c d e : Int) : List Int := cutP (cutP (cutP (cutP (cutP [] a) b) c) d) e
noncomputable abbrev inv5 (a b c d e : Int) : Int := 0 + gr [] a + gr (M1 a) b + gr (M2 a b) c + gr (M3 a b c) d + gr (M4 a b c d) e
noncomputable abbrev poo5 (a b c d e : Int) : Int := 0 + po [] (W0 a b c d e) a + po (M1 a) (W1 a b c d e) b + po (M2 a b) (W2 a b c d e) c + po (M3 a b c) (W3 a b c d e) d + po (M4 a b c d) (W4 a b c d e) e
section
variable {a b c d e : Int}
theorem by_order {P : Int → Int → Int → Int → Int → Bool} (h : (perms [0, 1, 2, 3, 4]).all (on5 P) = true) (J : IsOrder [a, b, c, d, e]) : P a b c d e = true := of_order h J
theorem less0 (J : IsOrder [a, b, c, d, e]) : bisL (W0 a b c d e) a < (W0 a b c d e).length := of_decide_eq_true (by_order (P := fun a b c d e => decide (bisL (W0 a b c d e) a < (W0 a b c d e).length)) (by decide +kernel) J)
theorem less1 (J : IsOrder [a, b, c, d, e]) : bisL (W1 a b c d e) b < (W1 a b c d e).length := of_decide_eq_true (by_order (P := fun a b c d e => decide (bisL (W1 a b c d e) b < (W1 a b c d e).length)) (by decide +kernel) J)
theorem less2 (J : IsOrder [a, b, c, d, e]) : bisL (W2 a b c d e) c < (W2 a b c d e).length := of_decide_eq_true (by_order (P := fun a b c d e => decide (bisL (W2 a b c d e) c < (W2 a b c d e).length)) (by decide +kernel) J)
theorem less3 (J : IsOrder [a, b, c, d, e]) : bisL (W3 a b c d e) d < (W3 a b c d e).length := of_decide_eq_true (by_order (P := fun a b c d e => decide (bisL (W3 a b c d e) d < (W3 a b c d e).length)) (by decide +kernel) J)
theorem less4 (J : IsOrder [a, b, c, d, e]) : bisL (W4 a b c d e) e < (W4 a b c d e).length := of_decide_eq_true (by_order (P := fun a b c d e => decide (bisL (W4 a b c d e) e < (W4 a b c d e).length)) (by decide +kernel) J)
theorem endA (J : IsOrder [a, b, c, d, e]) : distF [a, b, c, d, e] = (List.map (fun k' => if [a, b, c, d, e].getD k'.toNat 0 - k' < 0 then -([a, b, c, d, e].getD k'.toNat 0 - k') else [a, b, c, d, e].getD k'.toNat 0 - k') (rangeKs 0 (5 - 0 : Int).toNat)).sum := by
  rw [dist_eq J]
  exact of_decide_eq_true (by_order (P := fun a b c d e => decide (levL [a, b, c, d, e] = (List.map (fun k' => if [a, b, c, d, e].getD k'.toNat 0 - k' < 0 then -([a, b, c, d, e].getD k'.toNat 0 - k') else [a, b, c, d, e].getD k'.toNat 0 - k') (rangeKs 0 (5 - 0 : Int).toNat)).sum)) (by decide +kernel) J)
theorem endB (J : IsOrder [a, b, c, d, e]) : distF [a, b, c, d, e] = 2 * inv5 a b c d e - 2 * poo5 a b c d e := by
  rw [dist_eq J]
  exact of_decide_eq_true (by_order (P := fun a b c d e => decide (levL [a, b, c, d, e] = 2 * inv5 a b c d e - 2 * poo5 a b c d e)) (by decide +kernel) J)
theorem endC (J : IsOrder [a, b, c, d, e]) : ¬ distF [a, b, c, d, e] < inv5 a b c d e + exchF [a, b, c, d, e] := by
  rw [dist_eq J]
  exact of_decide_eq_true (by_order (P := fun a b c d e => decide (¬ levL [a, b, c, d, e] < inv5 a b c d e + exchF [a, b, c, d, e])) (by decide +kernel) J)
theorem endD (J : IsOrder [a, b, c, d, e]) : ((distF [a, b, c, d, e] == 2 * inv5 a b c d e) == decide (((P5 a b c d e).length : Int) < 3)) = true := by
  rw [dist_eq J]
  exact by_order (P := fun a b c d e => (levL [a, b, c, d, e] == 2 * inv5 a b c d e) == decide (((P5 a b c d e).length : Int) < 3)) (by decide +kernel) J
end
end Mine
end
section
theorem Mine.off_B4 : True := by
  w_top off
  (try walk1)
  k_with_none
  (k_with "lt" => (with_reducible first | assumption | ((fail_if_success (fail_if_success (refine' Mine.guardLt ?qg ?qh; (case qg => assumption)))); first | (refine' And.left ?qx; case qx => first | assumption | (refine' And.right ?qx; case qx => first | assumption | (refine' And.right ?qx; case qx => first | assumption | (refine' And.right ?qx; case qx => first | assumption | (refine' And.right ?qx; case qx => first | assumption | (refine' And.right ?qx; case qx => first | assumption | (refine' And.right ?qx; case qx => first | assumption | (refine' And.right ?qx; case qx => first | assumption | (refine' And.right ?qx; case qx => first | assumption | (refine' And.right ?qx; case qx => first | assumption | (refine' And.right ?qx; case qx => first | assumption | (refine' And.right ?qx; case qx => first | assumption | (refine' And.right ?qx; case qx => first | assumption | (refine' And.right ?qx; case qx => first | assumption | (refine' And.right ?qx; case qx => first | assumption | (refine' And.right ?qx; case qx => first | assumption | (refine' And.right ?qx; case qx => first | assumption | (refine' And.right ?qx; case qx => first | assumption | (refine' And.right ?qx; case qx => first | assumption | (refine' And.right ?qx; case qx => first | assumption | (refine' And.right ?qx; case qx => assumption))))))))))))))))))))) | (refine' And.right ?qx; case qx => first | assumption | (refine' And.right ?qx; case qx => first | assumption | (refine' And.right ?qx; case qx => first | assumption | (refine' And.right ?qx; case qx => first | assumption | (refine' And.right ?qx; case qx => first | assumption | (refine' And.right ?qx; case qx => first | assumption | (refine' And.right ?qx; case qx => first | assumption | (refine' And.right ?qx; case qx => first | assumption | (refine' And.right ?qx; case qx => first | assumption | (refine' And.right ?qx; case qx => first | assumption | (refine' And.right ?qx; case qx => first | assumption | (refine' And.right ?qx; case qx => first | assumption | (refine' And.right ?qx; case qx => first | assumption | (refine' And.right ?qx; case qx => first | assumption | (refine' And.right ?qx; case qx => first | assumption | (refine' And.right ?qx; case qx => first | assumption | (refine' And.right ?qx; case qx => first | assumption | (refine' And.right ?qx; case qx => first | assumption | (refine' And.right ?qx; case qx => first | assumption | (refine' And.right ?qx; case qx => first | assumption | (refine' And.right ?qx; case qx => assumption)))))))))))))))))))))) | (refine Nat.lt_trans ?_ (by assumption); k_extra "lt")))
  (k_with "omega" => (first | (with_reducible assumption) | (with_reducible exact Ne.symm (by assumption)) | (with_reducible refine Nat.ne_of_lt ?_; k_extra "lt") | (with_reducible refine Nat.ne_of_gt ?_; k_extra "lt") | ((with_reducible refine' Mine.room ?qx ?qy); (case qx => with_reducible assumption); (case qy => exact rfl)) | ((with_reducible refine' Mine.room2 ?qx ?qy); (case qx => with_reducible assumption); (case qy => exact rfl)) | ((with_reducible refine' Mine.room0 ?qx); (case qx => with_reducible assumption)) | (with_reducible refine Mine.isLt ?_; k_extra "lt")))
  trivial
open PySem PySem.W PyProof.Rows PySem.Calls PySem.Spec
namespace Mine
section
variable {w : World} {mean : ExcName → Option Value} {mg mb : Str → Option Value} {dp un : Nat} {gd : Option (List Code)} {cn : Str} {cs : Scope} {a : Addr} {ccd : Value} {cl : List (Str × Addr)} {outer : List Env} {A₀ : Around} {base h₀ : Heap} {L : Addr} {m : Str → Option Value} {news : List (Addr × Obj)} {s : Shared} {Q E : Value → Shared → Prop}
theorem lev_at {x y : Str} {ta tb tc : Tok} {n : Nat} {d : Int} (B : Below A₀ base outer h₀) (F : Fr h₀ L s.heap m) (X : (Mine.hd.heap_39 w.params).In h₀) (T : Top topProg LOOSE mean mg mb h₀) (hk : cs.kind = .function) (N : News h₀ L s.heap news) (hx : x.length = n) (hy : y.length = n) (hn : n ≤ 20) (hA : Alike n x y) (e : sumC (cD x y) n = d) (hd : dp + 8 < recursionLimit) (hu : un + 64 < cLine)
    (hret : ∀ t h' tk', Fr h₀ L h' m → News h₀ L h' news → Q (.int d t) { s with heap := h', toks := tk' }) :
    wpAny (model PySem.Challenge.rw_pg0203_01.row.prog w) (ktrTop dp un gd cn cs L a ccd cl outer) (call (.ref 69) [.str x ta, .str y tb, .int 24 tc]) Q E s := by
  subst e
  exact lev_tells B F X T hk N hx hy hn hA hd hu hret
theorem exch_at {l x1 x2 x3 x4 : Addr} {o1 o2 o3 o4 : Obj} {vs : List Value} {ns : List Int} {n : Nat} {d : Int} (B : Below A₀ base outer h₀) (F : Fr h₀ L s.heap m) (X : (Mine.hd.heap_39 w.params).In h₀) (T : Top topProg LOOSE mean mg mb h₀) (hk : cs.kind = .function) (N : News h₀ L s.heap [(l, listOf vs.toArray n), (x1, o1), (x2, o2), (x3, o3), (x4, o4)]) (hi : IntsAre vs ns) (hR : InR ns) (e : exchF ns = d) (hd : dp + 8 < recursionLimit) (hu : un + 64 < cLine)
    (hret : ∀ t h' tk', Fr h₀ L h' m → News h₀ L h' [(l, listOf vs.toArray n), (x1, o1), (x2, o2), (x3, o3), (x4, o4)] → Q (.int d t) { s with heap := h', toks := tk' }) :
    wpAny (model PySem.Challenge.rw_pg0203_01.row.prog w) (ktrTop dp un gd cn cs L a ccd cl outer) (call (.ref 86) [.ref l]) Q E s := by
  subst e
  exact exch_tells B F X T hk N hi hR hd hu hret
end
theorem k63 {k : Int} (h : k < (0 : Int) + (((5 : Int) - 0).toNat : Int)) : k < (2 : Int) ^ 63 := Int.lt_trans h (by decide)
theorem k5 {k : Int} (h : k < (0 : Int) + (((5 : Int) - 0).toNat : Int)) : k < ((1 + 1 + 1 + 1 + 1 : Nat) : Int) := Int.lt_of_lt_of_le h (by decide)
set_option maxRecDepth 100000 in
set_option maxHeartbeats 2000000 in
theorem end_tells {w : World} {mean : ExcName → Option Value} {mg mb : Str → Option Value} {dp un : Nat} {gd : Option (List Code)} {a : Addr} {ccd : Value} {outer : List Env} {A₀ : Around} {base h₀ : Heap} {L : Addr} {m : Str → Option Value} {s : Shared} {c1 c2 c3 : Addr} {o2 : Obj} {lR lP : Addr} {r0 r1 r2 r3 r4 : Int} {t0 t1 t2 t3 t4 : Tok} {nR nP : Nat} {vP : List Value} {nsP : List Int} {inv poo : Int} {ta tb : Tok} {Q : Flow → Shared → Prop} (B : Below A₀ base outer h₀) (F : Fr h₀ L s.heap m) (X : (Mine.hd.heap_39 w.params).In h₀) (T : Top topProg LOOSE mean mg mb h₀)
    (hma : m (Str.ofString "inversions") = some (.int inv ta)) (hmb : m (Str.ofString "poorer") = some (.int poo tb)) (hmp : m (Str.ofString "piles") = some (.ref lP))
    (N : News h₀ L s.heap [(lP, listOf vP.toArray nP), (lR, listOf #[.int r0 t0, .int r1 t1, .int r2 t2, .int r3 t3, .int r4 t4] nR), (c2, o2)]) (hc : o2.data = .cell (some (.ref lR))) (hlt : @Ne Nat c2 lR) (hlp : @LT.lt Nat _ lR lP) (hl2 : @LT.lt Nat _ c2 lP) (J : IsOrder [r0, r1, r2, r3, r4])
    (hA : distF [r0, r1, r2, r3, r4] = (List.map (fun k' => if [r0, r1, r2, r3, r4].getD k'.toNat 0 - k' < 0 then -([r0, r1, r2, r3, r4].getD k'.toNat 0 - k') else [r0, r1, r2, r3, r4].getD k'.toNat 0 - k') (rangeKs 0 (5 - 0 : Int).toNat)).sum)
    (hB : distF [r0, r1, r2, r3, r4] = 2 * inv - 2 * poo)
    (hC : ¬ distF [r0, r1, r2, r3, r4] < inv + exchF [r0, r1, r2, r3, r4])
    (hD : ((distF [r0, r1, r2, r3, r4] == 2 * inv) == decide ((nsP.length : Int) < 3)) = true)
    (IP : IntsAre vP nsP) (sP : Short 20 nsP)
    (hd : dp + 9 < recursionLimit) (hu : un + 72 < cLine)
    (hret : ∀ m' h' tk' news', Fr h₀ L h' m' → News h₀ L h' news' → Q (.ret (.bool true)) { s with heap := h', toks := tk' }) :
    wpAny (model PySem.Challenge.rw_pg0203_01.row.prog w) (ktrTop dp un gd (Str.ofString "law") lawParts.2 L a ccd [(Str.ofString "lights", c3), (Str.ofString "ranks", c2), (Str.ofString "numbers", c1)] outer) (execs (stmtsFrom 12 lawParts.1) (envX (Str.ofString "law") lawParts.2 L a ccd [(Str.ofString "lights", c3), (Str.ofString "ranks", c2), (Str.ofString "numbers", c1)])) Q (fun _ _ => False) s := by
  obtain ⟨d, ed⟩ : ∃ d, distF [r0, r1, r2, r3, r4] = d := ⟨_, rfl⟩
  obtain ⟨z, ez⟩ : ∃ z, exchF [r0, r1, r2, r3, r4] = z := ⟨_, rfl⟩
  rw [ed] at hA hB hC hD
  rw [ez] at hC
  revert X; k_fill; intro X
  (k_with "call builtin:len" => (k_here; (with_reducible show wpAny _ _ (call (Value.builtin "len") [Value.ref _]) _ _ _); k_dflt (refine' len_made ?zzN ?zzm ?zzi ?zzf ?_; (case zzN => k_asm); (case zzm => k_mem); (case zzi => l_ints); (case zzf => exact short_lt (k := 40) (by repeat (with_reducible first | refine short_insR ?_ | refine short_pop ?_ | refine short_cut ?_ | refine short_cons ?_ | exact short_nil | exact short_mono (by assumption) (by decide))) (by decide)); k_whole)))
  (k_with "call ref" => (fail "by hand"))
  (k_with "omega" => (with_reducible first | exact k63 (by assumption) | exact k5 (by assumption)))
  unfold lawParts PySem.Challenge.pw_pg0203_01; dsimp only [lastDef, stmtsFrom]
  have F1 := fr_head (x := Str.ofString "piles") F hmp
  have F2 := fr_head (x := Str.ofString "poorer") F1 hmb
  have F3 := fr_head (x := Str.ofString "inversions") F2 hma
  clear F F1 F2
  iterate 13 (try (focus (first | (k_unfold; (try dsimp only)) | (k_end; wrow_close) | walk1 | (dsimp only; walk1) | (leave1; walk_say "STEP leave1"; try dsimp only) | fail "no step")))
  (k_dflt (refine' word_tells (l := lR) (x1 := lP) (x2 := c2) (x3 := c2) (x4 := c2) ?k1 ?k2 ?k3 ?k5 ?kK ?kN ?ki ?kt ?kd ?ku ?_; (case k1 => k_asm); (case k2 => k_asm); (case k3 => k_asm); (case k5 => k_asm); (case kK => first | exact rfl | assumption); (case kN => exact cb_drop (by k_asm) (by lcg_sub)); (case ki => l_ints); (case kt => exact rfl); (case kd => ktr_room); (case ku => ktr_units); k_whole))
  intro t9 h9 tk9 F9 N9
  have N8 : News h₀ L h9 [(lP, listOf vP.toArray nP), (lR, listOf #[.int r0 t0, .int r1 t1, .int r2 t2, .int r3 t3, .int r4 t4] nR), (c2, o2)] := cb_drop N9 (by lcg_sub)
  clear N9
  (try dsimp only); (try k_fold)
  iterate 20 (try (focus (first | (k_unfold; (try dsimp only)) | (k_end; wrow_close) | walk1 | (dsimp only; walk1) | (leave1; walk_say "STEP leave1"; try dsimp only) | fail "no step")))
  (k_dflt (refine' word_tells (x1 := lP) (x2 := lR) (x3 := c2) (x4 := c2) ?k1 ?k2 ?k3 ?k5 ?kK ?kN ?ki ?kt ?kd ?ku ?_; (case k1 => k_asm); (case k2 => k_asm); (case k3 => k_asm); (case k5 => k_asm); (case kK => first | exact rfl | assumption); (case kN => exact cb_drop (by k_asm) (by lcg_sub)); (case ki => l_ints); (case kt => exact rfl); (case kd => ktr_room); (case ku => ktr_units); k_whole))
  intro t9 h9 tk9 F9 N9
  have N8 : News h₀ L h9 [(lP, listOf vP.toArray nP), (lR, listOf #[.int r0 t0, .int r1 t1, .int r2 t2, .int r3 t3, .int r4 t4] nR), (c2, o2)] := cb_drop N9 (by lcg_sub)
  clear N9
  (try dsimp only); (try k_fold)
  iterate 4 (try (focus (first | (k_unfold; (try dsimp only)) | (k_end; wrow_close) | walk1 | (dsimp only; walk1) | (leave1; walk_say "STEP leave1"; try dsimp only) | fail "no step")))
  (k_dflt (refine' lev_at ?k1 ?k2 ?k3 ?k5 ?kK ?kN (word_len J) (word_len order_id) ?kn (alike_words J order_id) ed ?kd ?ku ?_; (case k1 => k_asm); (case k2 => k_asm); (case k3 => k_asm); (case k5 => k_asm); (case kK => first | exact rfl | assumption); (case kN => k_asm); (case kn => exact Nat.le_refl _); (case kd => ktr_room); (case ku => ktr_units); k_whole))
  clear ed
  intro t9 h9 tk9 F9 N9
  (try dsimp only); (try k_fold)
  k_steps
  all_goals (first | exact absurd hA (by with_reducible assumption) | exact absurd hB (by with_reducible assumption) | skip)
  (k_dflt (refine' exch_at (l := lR) (x1 := lP) (x2 := c2) (x3 := c2) (x4 := c2) ?k1 ?k2 ?k3 ?k5 ?kK ?kN ?ki (order_inR J) ez ?kd ?ku ?_; (case k1 => k_asm); (case k2 => k_asm); (case k3 => k_asm); (case k5 => k_asm); (case kK => first | exact rfl | assumption); (case kN => exact cb_drop (by k_asm) (by lcg_sub)); (case ki => l_ints); (case kd => ktr_room); (case ku => ktr_units); k_whole))
  clear ez
  intro t9 h9 tk9 F9 N9
  have N8 : News h₀ L h9 [(lP, listOf vP.toArray nP), (lR, listOf #[.int r0 t0, .int r1 t1, .int r2 t2, .int r3 t3, .int r4 t4] nR), (c2, o2)] := cb_drop N9 (by lcg_sub)
  clear N9
  (try dsimp only); (try k_fold)
  k_steps
  all_goals first
    | (rw [hD]; exact hret _ _ _ _ (by k_asm) (by k_asm))
end Mine
end
section
theorem Mine.off_B5 : True := by
  w_top off
  (try walk1)
  k_with_none
  (k_with "lt" => (with_reducible first | assumption | ((fail_if_success (fail_if_success (refine' Mine.guardLt ?qg ?qh; (case qg => assumption)))); first | (refine' And.left ?qx; case qx => first | assumption | (refine' And.right ?qx; case qx => first | assumption | (refine' And.right ?qx; case qx => first | assumption | (refine' And.right ?qx; case qx => first | assumption | (refine' And.right ?qx; case qx => first | assumption | (refine' And.right ?qx; case qx => first | assumption | (refine' And.right ?qx; case qx => first | assumption | (refine' And.right ?qx; case qx => first | assumption | (refine' And.right ?qx; case qx => first | assumption | (refine' And.right ?qx; case qx => first | assumption | (refine' And.right ?qx; case qx => first | assumption | (refine' And.right ?qx; case qx => first | assumption | (refine' And.right ?qx; case qx => first | assumption | (refine' And.right ?qx; case qx => first | assumption | (refine' And.right ?qx; case qx => first | assumption | (refine' And.right ?qx; case qx => first | assumption | (refine' And.right ?qx; case qx => first | assumption | (refine' And.right ?qx; case qx => first | assumption | (refine' And.right ?qx; case qx => first | assumption | (refine' And.right ?qx; case qx => first | assumption | (refine' And.right ?qx; case qx => assumption))))))))))))))))))))) | (refine' And.right ?qx; case qx => first | assumption | (refine' And.right ?qx; case qx => first | assumption | (refine' And.right ?qx; case qx => first | assumption | (refine' And.right ?qx; case qx => first | assumption | (refine' And.right ?qx; case qx => first | assumption | (refine' And.right ?qx; case qx => first | assumption | (refine' And.right ?qx; case qx => first | assumption | (refine' And.right ?qx; case qx => first | assumption | (refine' And.right ?qx; case qx => first | assumption | (refine' And.right ?qx; case qx => first | assumption | (refine' And.right ?qx; case qx => first | assumption | (refine' And.right ?qx; case qx => first | assumption | (refine' And.right ?qx; case qx => first | assumption | (refine' And.right ?qx; case qx => first | assumption | (refine' And.right ?qx; case qx => first | assumption | (refine' And.right ?qx; case qx => first | assumption | (refine' And.right ?qx; case qx => first | assumption | (refine' And.right ?qx; case qx => first | assumption | (refine' And.right ?qx; case qx => first | assumption | (refine' And.right ?qx; case qx => first | assumption | (refine' And.right ?qx; case qx => assumption)))))))))))))))))))))) | (refine Nat.lt_trans ?_ (by assumption); k_extra "lt")))
  (k_with "omega" => (first | (with_reducible assumption) | (with_reducible exact Ne.symm (by assumption)) | (with_reducible refine Nat.ne_of_lt ?_; k_extra "lt") | (with_reducible refine Nat.ne_of_gt ?_; k_extra "lt") | ((with_reducible refine' Mine.room ?qx ?qy); (case qx => with_reducible assumption); (case qy => exact rfl)) | ((with_reducible refine' Mine.room2 ?qx ?qy); (case qx => with_reducible assumption); (case qy => exact rfl)) | ((with_reducible refine' Mine.room0 ?qx); (case qx => with_reducible assumption)) | (with_reducible refine Mine.isLt ?_; k_extra "lt")))
  trivial
open PySem PySem.W PyProof.Rows PySem.Calls PySem.Spec
namespace Mine
set_option maxRecDepth 100000 in
set_option maxHeartbeats 8000000 in
theorem tail_tells {w : World} {mean : ExcName → Option Value} {mg mb : Str → Option Value} {dp un : Nat} {gd : Option (List Code)} {a : Addr} {ccd : Value} {outer : List Env} {A₀ : Around} {base h₀ : Heap} {L : Addr} {m : Str → Option Value} {s : Shared} {c1 c2 c3 : Addr} {o2 : Obj} {lR : Addr} {r0 r1 r2 r3 r4 : Int} {t0 t1 t2 t3 t4 : Tok} {nR : Nat} {Q : Flow → Shared → Prop} (B : Below A₀ base outer h₀) (F : Fr h₀ L s.heap m) (X : (Mine.hd.heap_39 w.params).In h₀) (T : Top topProg LOOSE mean mg mb h₀)
    (N : News h₀ L s.heap [(lR, listOf #[.int r0 t0, .int r1 t1, .int r2 t2, .int r3 t3, .int r4 t4] nR), (c2, o2)]) (hc : o2.data = .cell (some (.ref lR))) (hlt : @Ne Nat c2 lR) (J : IsOrder [r0, r1, r2, r3, r4])
    (hd : dp + 9 < recursionLimit) (hu : un + 72 < cLine)
    (hret : ∀ m' h' tk' news', Fr h₀ L h' m' → News h₀ L h' news' → Q (.ret (.bool true)) { s with heap := h', toks := tk' }) :
    wpAny (model PySem.Challenge.rw_pg0203_01.row.prog w) (ktrTop dp un gd (Str.ofString "law") lawParts.2 L a ccd [(Str.ofString "lights", c3), (Str.ofString "ranks", c2), (Str.ofString "numbers", c1)] outer) (execs (stmtsFrom 5 lawParts.1) (envX (Str.ofString "law") lawParts.2 L a ccd [(Str.ofString "lights", c3), (Str.ofString "ranks", c2), (Str.ofString "numbers", c1)])) Q (fun _ _ => False) s := by
  revert X; k_fill; intro X
  (k_with "exec For Name Name cons nil" => (k_here; (rename Fr _ _ _ _ => lF'); (with_unfolding_all refine' For_invVF lF' ?zzk1 ?zzk2 ?_; (case zzk1 => exact rfl); (case zzk2 => exact rfl); k_whole)))
  (k_with "pyIter ref" => ((with_reducible show wpAny _ _ (pyIter (Value.ref _)) (fun it s₂ => LoopAtV _ _ _ _ _ _ _ _ _ it s₂) _ _); k_listUnr))
  (k_with "execs cons" => (k_here; (with_reducible show wpAny _ _ (execs [Stmt.Expr _ _] _) _ _ _); k_dflt (refine' wpAny_mono (turn1 ?zzqB ?zzqF ?zzqX ?zzqT ?zzqr ?zzqw ?zzqN ?zzq1 ?zzq0 ?zzq2 ?zzq3 ?zzq4 ?zzq5 ?zzqI ?zzqS ?zzqd ?zzqu ?_) (fun _ _ x => x) (fun _ _ x => x.elim); (case zzqB => k_asm); (case zzqF => k_asm); (case zzqX => k_asm); (case zzqT => k_asm); (case zzqr => first | exact rfl | assumption); (case zzqw => first | exact rfl | assumption); (case zzqN => k_asm); (case zzq1 => omega); (case zzq0 => omega); (case zzq2 => omega); (case zzq3 => omega); (case zzq4 => omega); (case zzq5 => omega); (case zzqI => l_ints); (case zzqS => (repeat (with_reducible first | refine short_insR ?_ | refine short_pop ?_ | refine short_cut ?_ | refine short_cons ?_ | exact short_nil))); (case zzqd => ktr_room); (case zzqu => ktr_units); k_whole); intro h9 tk9 vs9 n9 F9 N9 I9; (try dsimp only); (try k_sweep)))
  (k_with "execs cons Assign cons" => (k_here; (with_reducible show wpAny _ _ (execs [Stmt.Assign _ _ _, Stmt.Expr _ _, Stmt.Assign _ _ _, Stmt.Expr _ _, Stmt.AugAssign _ _ _ _, Stmt.AugAssign _ _ _ _, Stmt.Assign _ _ _, Stmt.Assign _ _ _] _) _ _ _); k_dflt (refine' wpAny_mono (turn2 ?zzqB ?zzqF ?zzqX ?zzqT ?zzqr ?zzqw ?zzqp ?zzqm ?zzqa ?zzqb ?zzqN ?zzq1 ?zzq0 ?zzq2 ?zzq3 ?zzq4 ?zzq5 ?zzqI ?zzqJ ?zzqK ?zzqS ?zzqU ?zzqV ?zzql ?zzqd ?zzqu ?_) (fun _ _ x => x) (fun _ _ x => x.elim); (case zzqB => k_asm); (case zzqF => k_asm); (case zzqX => k_asm); (case zzqT => k_asm); (case zzqr => first | exact rfl | assumption); (case zzqw => first | exact rfl | assumption); (case zzqp => first | exact rfl | assumption); (case zzqm => first | exact rfl | assumption); (case zzqa => first | exact rfl | assumption); (case zzqb => first | exact rfl | assumption); (case zzqN => k_asm); (case zzq1 => omega); (case zzq0 => omega); (case zzq2 => omega); (case zzq3 => omega); (case zzq4 => omega); (case zzq5 => omega); (case zzqI => l_ints); (case zzqJ => l_ints); (case zzqK => l_ints); (case zzqS => (repeat (with_reducible first | refine short_insR ?_ | refine short_pop ?_ | refine short_cut ?_ | refine short_cons ?_ | exact short_nil))); (case zzqU => (repeat (with_reducible first | refine short_insR ?_ | refine short_pop ?_ | refine short_cut ?_ | refine short_cons ?_ | exact short_nil))); (case zzqV => (repeat (with_reducible first | refine short_insR ?_ | refine short_pop ?_ | refine short_cut ?_ | refine short_cons ?_ | exact short_nil))); (case zzql => with_reducible first | exact less0 (by assumption) | exact less1 (by assumption) | exact less2 (by assumption) | exact less3 (by assumption) | exact less4 (by assumption)); (case zzqd => ktr_room); (case zzqu => ktr_units); k_whole); intro m9 h9 tk9 vW9 nW9 vP9 nP9 vM9 nM9 ta9 tb9 F9 hw9 hp9 hm9 ha9 hb9 N9 iW9 iP9 iM9; (try dsimp only); (try k_sweep)))
  (k_with "execs cons Assign cons" => (k_here; (with_reducible show wpAny _ _ (execs [Stmt.Assign _ _ _, Stmt.If _ _ _ _, Stmt.If _ _ _ _, Stmt.Return _ _] _) _ _ _); k_dflt (refine' wpAny_mono (end_tells ?zzqB ?zzqF ?zzqX ?zzqT ?zzqa ?zzqb ?zzqp ?zzqN ?zzqc ?zzq1 ?zzq2 ?zzq7 ?zzqJ ?zzq3 ?zzq4 ?zzq5 ?zzq6 ?zzqI ?zzqS ?zzqd ?zzqu ?_) (fun _ _ x => x) (fun _ _ x => x.elim); (case zzqB => k_asm); (case zzqF => k_asm); (case zzqX => k_asm); (case zzqT => k_asm); (case zzqa => first | exact rfl | assumption); (case zzqb => first | exact rfl | assumption); (case zzqp => first | exact rfl | assumption); (case zzqN => exact cb_drop (by k_asm) (by lcg_sub)); (case zzqc => assumption); (case zzq1 => assumption); (case zzq2 => omega); (case zzq7 => omega); (case zzqJ => assumption); (case zzqI => l_ints); (case zzq3 => with_reducible exact endA (by assumption)); (case zzq4 => with_reducible exact endB (by assumption)); (case zzq5 => with_reducible exact endC (by assumption)); (case zzq6 => with_reducible exact endD (by assumption)); (case zzqS => (repeat (with_reducible first | refine short_insR ?_ | refine short_pop ?_ | refine short_cut ?_ | refine short_cons ?_ | exact short_nil))); (case zzqd => ktr_room); (case zzqu => ktr_units); k_whole); intro m9 h9 tk9 news9 F9 N9; (try dsimp only); (try k_sweep)))
  unfold lawParts PySem.Challenge.pw_pg0203_01; dsimp only [lastDef, stmtsFrom]
  k_steps
  all_goals exact hret _ _ _ _ (by k_asm) (by k_asm)
end Mine
end
section
theorem Mine.off_O0 : True := by
  w_top off
  (try walk1)
  k_with_none
  (k_with "lt" => (with_reducible first | assumption | ((fail_if_success (fail_if_success (refine' Mine.guardLt ?qg ?qh; (case qg => assumption)))); first | (refine' And.left ?qx; case qx => first | assumption | (refine' And.right ?qx; case qx => first | assumption | (refine' And.right ?qx; case qx => first | assumption | (refine' And.right ?qx; case qx => first | assumption | (refine' And.right ?qx; case qx => first | assumption | (refine' And.right ?qx; case qx => first | assumption | (refine' And.right ?qx; case qx => first | assumption | (refine' And.right ?qx; case qx => first | assumption | (refine' And.right ?qx; case qx => first | assumption | (refine' And.right ?qx; case qx => first | assumption | (refine' And.right ?qx; case qx => first | assumption | (refine' And.right ?qx; case qx => first | assumption | (refine' And.right ?qx; case qx => first | assumption | (refine' And.right ?qx; case qx => first | assumption | (refine' And.right ?qx; case qx => first | assumption | (refine' And.right ?qx; case qx => first | assumption | (refine' And.right ?qx; case qx => first | assumption | (refine' And.right ?qx; case qx => first | assumption | (refine' And.right ?qx; case qx => first | assumption | (refine' And.right ?qx; case qx => first | assumption | (refine' And.right ?qx; case qx => assumption))))))))))))))))))))) | (refine' And.right ?qx; case qx => first | assumption | (refine' And.right ?qx; case qx => first | assumption | (refine' And.right ?qx; case qx => first | assumption | (refine' And.right ?qx; case qx => first | assumption | (refine' And.right ?qx; case qx => first | assumption | (refine' And.right ?qx; case qx => first | assumption | (refine' And.right ?qx; case qx => first | assumption | (refine' And.right ?qx; case qx => first | assumption | (refine' And.right ?qx; case qx => first | assumption | (refine' And.right ?qx; case qx => first | assumption | (refine' And.right ?qx; case qx => first | assumption | (refine' And.right ?qx; case qx => first | assumption | (refine' And.right ?qx; case qx => first | assumption | (refine' And.right ?qx; case qx => first | assumption | (refine' And.right ?qx; case qx => first | assumption | (refine' And.right ?qx; case qx => first | assumption | (refine' And.right ?qx; case qx => first | assumption | (refine' And.right ?qx; case qx => first | assumption | (refine' And.right ?qx; case qx => first | assumption | (refine' And.right ?qx; case qx => first | assumption | (refine' And.right ?qx; case qx => assumption)))))))))))))))))))))) | (refine Nat.lt_trans ?_ (by assumption); k_extra "lt")))
  (k_with "omega" => (first | (with_reducible assumption) | (with_reducible exact Ne.symm (by assumption)) | (with_reducible refine Nat.ne_of_lt ?_; k_extra "lt") | (with_reducible refine Nat.ne_of_gt ?_; k_extra "lt") | ((with_reducible refine' Mine.room ?qx ?qy); (case qx => with_reducible assumption); (case qy => exact rfl)) | ((with_reducible refine' Mine.room2 ?qx ?qy); (case qx => with_reducible assumption); (case qy => exact rfl)) | ((with_reducible refine' Mine.room0 ?qx); (case qx => with_reducible assumption)) | (with_reducible refine Mine.isLt ?_; k_extra "lt")))
  trivial
open PySem PySem.W PyProof.Rows PySem.Calls PySem.Spec PySem.Flt
namespace Mine
/-- max, min of three floats -/
noncomputable def max3 (x y z : UInt64) : UInt64 := if (Float64.cmp x y == some .lt) = true then (if (Float64.cmp y z == some .lt) = true then z else y) else (if (Float64.cmp x z == some .lt) = true then z else x)
noncomputable def min3 (x y z : UInt64) : UInt64 := if (Float64.cmp y x == some .lt) = true then (if (Float64.cmp z y == some .lt) = true then z else y) else (if (Float64.cmp z x == some .lt) = true then z else x)
section
variable {prog : Program} {w : World} {A : Around} {E : Value → Shared → Prop} {s : Shared} {Q : Value → Shared → Prop} {x y z : UInt64} {t u v : Tok} {h₀ : Heap} {L : Addr} {m : Str → Option Value} {news : List (Addr × Obj)}
theorem three_num : ∀ d ∈ #[Value.float x t, Value.float y u, Value.float z v], NumV d := by
  intro d hd
  simp only [List.mem_toArray, List.mem_cons, List.not_mem_nil, or_false] at hd
  rcases hd with rfl | rfl | rfl <;> exact NumV.float _ _
theorem three_top (h : Heap) (o : Obj) : h.objs.size ≠ (h.push o).objs.size := by rw [Heap.size_push]; lia
theorem three_low (h : Heap) (o o' : Obj) : ∀ d ∈ [(h.push o).objs.size, h.objs.size], d < ((h.push o).push o').objs.size := by
  intro d hd
  simp only [Heap.size_push, List.mem_cons, List.not_mem_nil, or_false] at hd ⊢
  rcases hd with rfl | rfl
  · exact Nat.lt_succ_self _
  · exact Nat.lt_succ_of_lt (Nat.lt_succ_self _)
theorem three_keep {h h' : Heap} {o o' : Obj} (hk : ∀ b q, b ∉ [(h.push o).objs.size] → ((h.push o).push o').get? b = some q → h'.get? b = some q) : ∀ b q, h.get? b = some q → h'.get? b = some q := by
  intro b q e
  have hb := Heap.lt_size e
  refine hk b q (fun hm => ?_) (Heap.get?_push_of_some _ (Heap.get?_push_of_some _ e))
  rw [Heap.size_push] at hm
  simp only [List.mem_cons, List.not_mem_nil, or_false] at hm
  subst hm
  exact absurd hb (Nat.not_lt.mpr (Nat.le_succ _))
theorem best_max {r : Value} (h : #[Value.float x t, Value.float y u, Value.float z v][argBest (fun i j => ltV (#[Value.float x t, Value.float y u, Value.float z v].getD j .none) (#[Value.float x t, Value.float y u, Value.float z v].getD i .none)) 2]? = some r) : ∃ k, r = .float (max3 x y z) k := by
  unfold max3
  cases h1 : (Float64.cmp x y == some .lt) <;> cases h2 : (Float64.cmp y z == some .lt) <;> cases h3 : (Float64.cmp x z == some .lt) <;>
    simp [argBest, ltV, h1, h2, h3] at h ⊢ <;> exact ⟨_, h.symm⟩
theorem best_min {r : Value} (h : #[Value.float x t, Value.float y u, Value.float z v][argBest (fun i j => ltV (#[Value.float x t, Value.float y u, Value.float z v].getD i .none) (#[Value.float x t, Value.float y u, Value.float z v].getD j .none)) 2]? = some r) : ∃ k, r = .float (min3 x y z) k := by
  unfold min3
  cases h1 : (Float64.cmp y x == some .lt) <;> cases h2 : (Float64.cmp z y == some .lt) <;> cases h3 : (Float64.cmp z x == some .lt) <;>
    simp [argBest, ltV, h1, h2, h3] at h ⊢ <;> exact ⟨_, h.symm⟩
theorem max_three_ff (hh : A.handled = none) (F : Fr h₀ L s.heap m) (N : News h₀ L s.heap news) (h : ∀ h' tk k, Fr h₀ L h' m → News h₀ L h' news → Q (.float (max3 x y z) k) { s with heap := h', toks := tk }) :
    wpAny (model prog w) A (call (.builtin "max") [.float x t, .float y u, .float z v]) Q E s := by
  have hT : (s.heap.push { cls := .type "tuple", data := .seq #[.float x t, .float y u, .float z v] }).IsTuple s.heap.objs.size #[.float x t, .float y u, .float z v] := ⟨_, Heap.get?_push_size _ rfl, rfl, 0, rfl⟩
  refine call_max_three (wpAny_pyIter_tuple hT ⟨_, [_, s.heap.objs.size], [_], _, _, _, _, rfl, Walks.tuple (A := A.in1) hh _ s.heap.objs.size (three_top _ _) _,
    ⟨⟨_, Heap.get?_push_size _ rfl, rfl, rfl⟩, hT.push _⟩, three_low _ _ _, by simp, cmpOf_gt _ three_num, fun r h' tk hP hk => ?_⟩)
  obtain ⟨k, rfl⟩ := best_max (show #[Value.float x t, Value.float y u, Value.float z v][argBest _ 2]? = some r from hP)
  have kp := three_keep hk
  exact h h' tk k (F.grownK kp) (N.grown kp)
theorem min_three_ff (hh : A.handled = none) (F : Fr h₀ L s.heap m) (N : News h₀ L s.heap news) (h : ∀ h' tk k, Fr h₀ L h' m → News h₀ L h' news → Q (.float (min3 x y z) k) { s with heap := h', toks := tk }) :
    wpAny (model prog w) A (call (.builtin "min") [.float x t, .float y u, .float z v]) Q E s := by
  have hT : (s.heap.push { cls := .type "tuple", data := .seq #[.float x t, .float y u, .float z v] }).IsTuple s.heap.objs.size #[.float x t, .float y u, .float z v] := ⟨_, Heap.get?_push_size _ rfl, rfl, 0, rfl⟩
  refine call_min_three (wpAny_pyIter_tuple hT ⟨_, [_, s.heap.objs.size], [_], _, _, _, _, rfl, Walks.tuple (A := A.in1) hh _ s.heap.objs.size (three_top _ _) _,
    ⟨⟨_, Heap.get?_push_size _ rfl, rfl, rfl⟩, hT.push _⟩, three_low _ _ _, by simp, cmpOf_lt _ three_num, fun r h' tk hP hk => ?_⟩)
  obtain ⟨k, rfl⟩ := best_min (show #[Value.float x t, Value.float y u, Value.float z v][argBest _ 2]? = some r from hP)
  have kp := three_keep hk
  exact h h' tk k (F.grownK kp) (N.grown kp)
end
end Mine
end
section
theorem Mine.off_O1 : True := by
  w_top off
  (try walk1)
  k_with_none
  (k_with "lt" => (with_reducible first | assumption | ((fail_if_success (fail_if_success (refine' Mine.guardLt ?qg ?qh; (case qg => assumption)))); first | (refine' And.left ?qx; case qx => first | assumption | (refine' And.right ?qx; case qx => first | assumption | (refine' And.right ?qx; case qx => first | assumption | (refine' And.right ?qx; case qx => first | assumption | (refine' And.right ?qx; case qx => first | assumption | (refine' And.right ?qx; case qx => first | assumption | (refine' And.right ?qx; case qx => first | assumption | (refine' And.right ?qx; case qx => first | assumption | (refine' And.right ?qx; case qx => first | assumption | (refine' And.right ?qx; case qx => first | assumption | (refine' And.right ?qx; case qx => first | assumption | (refine' And.right ?qx; case qx => first | assumption | (refine' And.right ?qx; case qx => first | assumption | (refine' And.right ?qx; case qx => first | assumption | (refine' And.right ?qx; case qx => first | assumption | (refine' And.right ?qx; case qx => first | assumption | (refine' And.right ?qx; case qx => first | assumption | (refine' And.right ?qx; case qx => first | assumption | (refine' And.right ?qx; case qx => first | assumption | (refine' And.right ?qx; case qx => first | assumption | (refine' And.right ?qx; case qx => assumption))))))))))))))))))))) | (refine' And.right ?qx; case qx => first | assumption | (refine' And.right ?qx; case qx => first | assumption | (refine' And.right ?qx; case qx => first | assumption | (refine' And.right ?qx; case qx => first | assumption | (refine' And.right ?qx; case qx => first | assumption | (refine' And.right ?qx; case qx => first | assumption | (refine' And.right ?qx; case qx => first | assumption | (refine' And.right ?qx; case qx => first | assumption | (refine' And.right ?qx; case qx => first | assumption | (refine' And.right ?qx; case qx => first | assumption | (refine' And.right ?qx; case qx => first | assumption | (refine' And.right ?qx; case qx => first | assumption | (refine' And.right ?qx; case qx => first | assumption | (refine' And.right ?qx; case qx => first | assumption | (refine' And.right ?qx; case qx => first | assumption | (refine' And.right ?qx; case qx => first | assumption | (refine' And.right ?qx; case qx => first | assumption | (refine' And.right ?qx; case qx => first | assumption | (refine' And.right ?qx; case qx => first | assumption | (refine' And.right ?qx; case qx => first | assumption | (refine' And.right ?qx; case qx => assumption)))))))))))))))))))))) | (refine Nat.lt_trans ?_ (by assumption); k_extra "lt")))
  (k_with "omega" => (first | (with_reducible assumption) | (with_reducible exact Ne.symm (by assumption)) | (with_reducible refine Nat.ne_of_lt ?_; k_extra "lt") | (with_reducible refine Nat.ne_of_gt ?_; k_extra "lt") | ((with_reducible refine' Mine.room ?qx ?qy); (case qx => with_reducible assumption); (case qy => exact rfl)) | ((with_reducible refine' Mine.room2 ?qx ?qy); (case qx => with_reducible assumption); (case qy => exact rfl)) | ((with_reducible refine' Mine.room0 ?qx); (case qx => with_reducible assumption)) | (with_reducible refine Mine.isLt ?_; k_extra "lt")))
  trivial
open PySem PySem.W PyProof.Rows PySem.Calls PySem.Spec PySem.Flt
namespace Mine
section
variable {prog : Program} {w : World} {A : Around} {E : Value → Shared → Prop} {s : Shared} {Q : Value → Shared → Prop} {x : UInt64} {t : Tok} {i : Int}
theorem call_int_i (hA : A.handled = none) (hf : Float64.isFinite x = true) (hi : toInt Float64.truncOf x = i) (h : Q (.int i s.toks) { s with toks := s.toks + 1 }) : wpAny (model prog w) A (call (.type "int") [.float x t]) Q E s :=
  call_int_float3 hA (fun c => by rw [not_nan_of_finite hf] at c; cases c) (fun c => by rw [not_inf_of_finite hf] at c; cases c) (fun _ => hi ▸ h)
end
/-- the six arms of hsv_to_rgb -/
noncomputable def hsvG (h s v : UInt64) (i : Int) : UInt64 × UInt64 × UInt64 :=
  if i = 0 then (v, Float64.mul v (Float64.sub 4607182418800017408 (Float64.mul s (Float64.sub 4607182418800017408 (Float64.sub (Float64.mul h 4618441417868443648) (Float64.ofInt i))))), Float64.mul v (Float64.sub 4607182418800017408 s))
  else if i = 1 then (Float64.mul v (Float64.sub 4607182418800017408 (Float64.mul s (Float64.sub (Float64.mul h 4618441417868443648) (Float64.ofInt i)))), v, Float64.mul v (Float64.sub 4607182418800017408 s))
  else if i = 2 then (Float64.mul v (Float64.sub 4607182418800017408 s), v, Float64.mul v (Float64.sub 4607182418800017408 (Float64.mul s (Float64.sub 4607182418800017408 (Float64.sub (Float64.mul h 4618441417868443648) (Float64.ofInt i))))))
  else if i = 3 then (Float64.mul v (Float64.sub 4607182418800017408 s), Float64.mul v (Float64.sub 4607182418800017408 (Float64.mul s (Float64.sub (Float64.mul h 4618441417868443648) (Float64.ofInt i)))), v)
  else if i = 4 then (Float64.mul v (Float64.sub 4607182418800017408 (Float64.mul s (Float64.sub 4607182418800017408 (Float64.sub (Float64.mul h 4618441417868443648) (Float64.ofInt i))))), Float64.mul v (Float64.sub 4607182418800017408 s), v)
  else (v, Float64.mul v (Float64.sub 4607182418800017408 s), Float64.mul v (Float64.sub 4607182418800017408 (Float64.mul s (Float64.sub (Float64.mul h 4618441417868443648) (Float64.ofInt i)))))
section
variable {w : World} {mean : ExcName → Option Value} {mg mb : Str → Option Value} {dp un : Nat} {gd : Option (List Code)} {cn : Str} {cs : Scope} {a : Addr} {ccd : Value} {cl : List (Str × Addr)} {outer : List Env} {A₀ : Around} {base h₀ : Heap} {L : Addr} {m : Str → Option Value} {news : List (Addr × Obj)} {s : Shared} {Q E : Value → Shared → Prop}
theorem hsv_fin {D : Addr} {x y z a1 b1 c1 : UInt64} {i : Int} {t0 t1 t2 : Tok} {h' : Heap} {tk' : Nat}
    (hret : ∀ D t0 t1 t2 h' tk', Fr h₀ L h' m → News h₀ L h' ((D, { cls := .type "tuple", data := .seq #[.float (hsvG a1 b1 c1 i).1 t0, .float (hsvG a1 b1 c1 i).2.1 t1, .float (hsvG a1 b1 c1 i).2.2 t2] }) :: news) → (∀ p ∈ news, p.1 < D) → Q (.ref D) { s with heap := h', toks := tk' })
    (e : hsvG a1 b1 c1 i = (x, y, z)) (F : Fr h₀ L h' m) (N : News h₀ L h' ((D, { cls := .type "tuple", data := .seq #[.float x t0, .float y t1, .float z t2] }) :: news)) (l1 : ∀ p ∈ news, p.1 < D) : Q (.ref D) { s with heap := h', toks := tk' } := by
  have h := hret D t0 t1 t2 h' tk' F
  rw [e] at h
  exact h N l1
theorem six_fm {i : Int} (h0 : 0 ≤ i) (h1 : i < 6) : i.fmod 6 = i := by
  rw [Int.fmod_eq_emod_of_nonneg _ (by decide)]
  lia
theorem six_no {i : Int} (h0 : 0 ≤ i) (h1 : i < 6) (n0 : i.fmod 6 ≠ 0) (n1 : i.fmod 6 ≠ 1) (n2 : i.fmod 6 ≠ 2) (n3 : i.fmod 6 ≠ 3) (n4 : i.fmod 6 ≠ 4) (n5 : i.fmod 6 ≠ 5) : False := by
  rw [six_fm h0 h1] at *
  lia
theorem six_at {i k : Int} (h0 : 0 ≤ i) (h1 : i < 6) (e : i.fmod 6 = k) : i = k := (six_fm h0 h1).symm.trans e
set_option maxRecDepth 100000 in
set_option maxHeartbeats 1000000 in
theorem hsv_tells {a1 b1 c1 : UInt64} {ta tb tc : Tok} {i : Int} (B : Below A₀ base outer h₀) (F : Fr h₀ L s.heap m) (X : (Mine.hd.heap_39 w.params).In h₀) (T : Top topProg LOOSE mean mg mb h₀) (hk : cs.kind = .function) (N : News h₀ L s.heap news) (hs0 : (Float64.cmp b1 0 == some Ordering.eq) = false) (hfin : Float64.isFinite (Float64.mul a1 4618441417868443648) = true) (hi : toInt Float64.truncOf (Float64.mul a1 4618441417868443648) = i) (hi0 : 0 ≤ i) (hi1 : i < 6) (hd : dp + 1 < recursionLimit) (hu : un + 8 < cLine)
    (hret : ∀ D t0 t1 t2 h' tk', Fr h₀ L h' m → News h₀ L h' ((D, { cls := .type "tuple", data := .seq #[.float (hsvG a1 b1 c1 i).1 t0, .float (hsvG a1 b1 c1 i).2.1 t1, .float (hsvG a1 b1 c1 i).2.2 t2] }) :: news) → (∀ p ∈ news, p.1 < D) → Q (.ref D) { s with heap := h', toks := tk' }) :
    wpAny (model PySem.Challenge.rw_pg0203_01.row.prog w) (ktrTop dp un gd cn cs L a ccd cl outer) (call (.ref 55) [.float a1 ta, .float b1 tb, .float c1 tc]) Q E s := by
  revert X; k_fill; intro X
  (k_with "call type:int" => (k_here; (with_reducible show wpAny _ _ (call _ [Value.float _ _]) _ _ _); k_dflt (refine' call_int_i ?zza ?zzb ?zzc ?_; (case zza => exact rfl); (case zzb => assumption); (case zzc => assumption); k_whole)))
  k_dflt (refine wpAny_call ?_; refine' code_def (binds := [(Str.ofString "h", .float a1 ta), (Str.ofString "s", .float b1 tb), (Str.ofString "v", .float c1 tc)]) ?k1 ?k2 ?k3 ?k4 ?k5 ?kA ?kF ?kK ?k6 ?k7 ?k8 ?k9 ?kB ?_ ?c2 ?c3 ?c4 ?c5; (case kA => exact rfl); (case kF => exact rfl); (case kK => assumption); (case k1 => k_asm); (case k2 => k_asm); (case k3 => k_asm); (case k4 => k_asm); (case k5 => k_asm); (case k6 => k_is); (case k7 => k_is); (case k8 => ktr_room); (case k9 => exact BindsTo.of_eq rfl); (case c5 => decide); (case kB => exact locs rfl); (case c2 => exact rfl); (case c3 => exact rfl); (case c4 => exact rfl); k_whole; intro g' L' h' FG' F' N' B' X' T'; (try dsimp only); (try k_lift B'); (try k_fold))
  k_steps
  all_goals first
    | exact (six_no hi0 hi1 (by with_reducible assumption) (by with_reducible assumption) (by with_reducible assumption) (by with_reducible assumption) (by with_reducible assumption) (by with_reducible assumption)).elim
    | (have e : i = 0 := six_at hi0 hi1 (by with_reducible assumption)
       (refine' hsv_fin hret ?qe ?qF ?qN ?ql; (case qN => k_asm); (case qF => k_asm); (case ql => assumption); (case qe => rw [e]; exact rfl)))
    | (have e : i = 1 := six_at hi0 hi1 (by with_reducible assumption)
       (refine' hsv_fin hret ?qe ?qF ?qN ?ql; (case qN => k_asm); (case qF => k_asm); (case ql => assumption); (case qe => rw [e]; exact rfl)))
    | (have e : i = 2 := six_at hi0 hi1 (by with_reducible assumption)
       (refine' hsv_fin hret ?qe ?qF ?qN ?ql; (case qN => k_asm); (case qF => k_asm); (case ql => assumption); (case qe => rw [e]; exact rfl)))
    | (have e : i = 3 := six_at hi0 hi1 (by with_reducible assumption)
       (refine' hsv_fin hret ?qe ?qF ?qN ?ql; (case qN => k_asm); (case qF => k_asm); (case ql => assumption); (case qe => rw [e]; exact rfl)))
    | (have e : i = 4 := six_at hi0 hi1 (by with_reducible assumption)
       (refine' hsv_fin hret ?qe ?qF ?qN ?ql; (case qN => k_asm); (case qF => k_asm); (case ql => assumption); (case qe => rw [e]; exact rfl)))
    | (have e : i = 5 := six_at hi0 hi1 (by with_reducible assumption)
       (refine' hsv_fin hret ?qe ?qF ?qN ?ql; (case qN => k_asm); (case qF => k_asm); (case ql => assumption); (case qe => rw [e]; exact rfl)))
end
end Mine
end
section
theorem Mine.off_O2 : True := by
  w_top off
  (try walk1)
  k_with_none
  (k_with "lt" => (with_reducible first | assumption | ((fail_if_success (fail_if_success (refine' Mine.guardLt ?qg ?qh; (case qg => assumption)))); first | (refine' And.left ?qx; case qx => first | assumption | (refine' And.right ?qx; case qx => first | assumption | (refine' And.right ?qx; case qx => first | assumption | (refine' And.right ?qx; case qx => first | assumption | (refine' And.right ?qx; case qx => first | assumption | (refine' And.right ?qx; case qx => first | assumption | (refine' And.right ?qx; case qx => first | assumption | (refine' And.right ?qx; case qx => first | assumption | (refine' And.right ?qx; case qx => first | assumption | (refine' And.right ?qx; case qx => first | assumption | (refine' And.right ?qx; case qx => first | assumption | (refine' And.right ?qx; case qx => first | assumption | (refine' And.right ?qx; case qx => first | assumption | (refine' And.right ?qx; case qx => first | assumption | (refine' And.right ?qx; case qx => first | assumption | (refine' And.right ?qx; case qx => first | assumption | (refine' And.right ?qx; case qx => first | assumption | (refine' And.right ?qx; case qx => first | assumption | (refine' And.right ?qx; case qx => first | assumption | (refine' And.right ?qx; case qx => first | assumption | (refine' And.right ?qx; case qx => assumption))))))))))))))))))))) | (refine' And.right ?qx; case qx => first | assumption | (refine' And.right ?qx; case qx => first | assumption | (refine' And.right ?qx; case qx => first | assumption | (refine' And.right ?qx; case qx => first | assumption | (refine' And.right ?qx; case qx => first | assumption | (refine' And.right ?qx; case qx => first | assumption | (refine' And.right ?qx; case qx => first | assumption | (refine' And.right ?qx; case qx => first | assumption | (refine' And.right ?qx; case qx => first | assumption | (refine' And.right ?qx; case qx => first | assumption | (refine' And.right ?qx; case qx => first | assumption | (refine' And.right ?qx; case qx => first | assumption | (refine' And.right ?qx; case qx => first | assumption | (refine' And.right ?qx; case qx => first | assumption | (refine' And.right ?qx; case qx => first | assumption | (refine' And.right ?qx; case qx => first | assumption | (refine' And.right ?qx; case qx => first | assumption | (refine' And.right ?qx; case qx => first | assumption | (refine' And.right ?qx; case qx => first | assumption | (refine' And.right ?qx; case qx => first | assumption | (refine' And.right ?qx; case qx => assumption)))))))))))))))))))))) | (refine Nat.lt_trans ?_ (by assumption); k_extra "lt")))
  (k_with "omega" => (first | (with_reducible assumption) | (with_reducible exact Ne.symm (by assumption)) | (with_reducible refine Nat.ne_of_lt ?_; k_extra "lt") | (with_reducible refine Nat.ne_of_gt ?_; k_extra "lt") | ((with_reducible refine' Mine.room ?qx ?qy); (case qx => with_reducible assumption); (case qy => exact rfl)) | ((with_reducible refine' Mine.room2 ?qx ?qy); (case qx => with_reducible assumption); (case qy => exact rfl)) | ((with_reducible refine' Mine.room0 ?qx); (case qx => with_reducible assumption)) | (with_reducible refine Mine.isLt ?_; k_extra "lt")))
  trivial
open PySem PySem.W PyProof.Rows PySem.Calls PySem.Spec PySem.Flt
namespace Mine
section
variable {prog : Program} {w : World} {A : Around} {E : Value → Shared → Prop} {s : Shared} {Q : Value → Shared → Prop} {x y z M : UInt64} {t u v : Tok} {h₀ : Heap} {L : Addr} {m : Str → Option Value} {news : List (Addr × Obj)}
theorem div_nz (hA : A.handled = none) (hz : Float64.isZero y = false) (h : Q (.float (Float64.div x y) s.toks) { s with toks := s.toks + 1 }) : wpAny (model prog w) A (binaryOp .Div (.float x t) (.float y u)) Q E s :=
  truediv_float_or hA (fun c => by rw [hz] at c; cases c) (fun _ => h)
theorem mod_nz (hA : A.handled = none) (hz : Float64.isZero y = false) (h : Q (.float (Float64.divmod x y).2 s.toks) { s with toks := s.toks + 1 }) : wpAny (model prog w) A (binaryOp .Mod (.float x t) (.float y u)) Q E s :=
  mod_ff hA (fun c => by rw [hz] at c; cases c) (fun _ => h)
theorem max_at (hh : A.handled = none) (F : Fr h₀ L s.heap m) (N : News h₀ L s.heap news) (e : max3 x y z = M) (h : ∀ h' tk k, Fr h₀ L h' m → News h₀ L h' news → Q (.float M k) { s with heap := h', toks := tk }) :
    wpAny (model prog w) A (call (.builtin "max") [.float x t, .float y u, .float z v]) Q E s := max_three_ff hh F N (e.symm ▸ h)
theorem min_at (hh : A.handled = none) (F : Fr h₀ L s.heap m) (N : News h₀ L s.heap news) (e : min3 x y z = M) (h : ∀ h' tk k, Fr h₀ L h' m → News h₀ L h' news → Q (.float M k) { s with heap := h', toks := tk }) :
    wpAny (model prog w) A (call (.builtin "min") [.float x t, .float y u, .float z v]) Q E s := min_three_ff hh F N (e.symm ▸ h)
end
/-- the hue, before it is cut to a turn -/
noncomputable def hueG (r g b M n : UInt64) : UInt64 :=
  if (Float64.cmp r M == some .eq) = true then Float64.sub (Float64.div (Float64.sub M b) (Float64.sub M n)) (Float64.div (Float64.sub M g) (Float64.sub M n))
  else if (Float64.cmp g M == some .eq) = true then Float64.sub (Float64.add 4611686018427387904 (Float64.div (Float64.sub M r) (Float64.sub M n))) (Float64.div (Float64.sub M b) (Float64.sub M n))
  else Float64.sub (Float64.add 4616189618054758400 (Float64.div (Float64.sub M g) (Float64.sub M n))) (Float64.div (Float64.sub M r) (Float64.sub M n))
noncomputable def hueF (r g b M n : UInt64) : UInt64 := (Float64.divmod (Float64.div (hueG r g b M n) 4618441417868443648) 4607182418800017408).2
noncomputable def lightF (M n : UInt64) : UInt64 := Float64.div (Float64.add M n) 4611686018427387904
section
variable {w : World} {mean : ExcName → Option Value} {mg mb : Str → Option Value} {dp un : Nat} {gd : Option (List Code)} {cn : Str} {cs : Scope} {a : Addr} {ccd : Value} {cl : List (Str × Addr)} {outer : List Env} {A₀ : Around} {base h₀ : Heap} {L : Addr} {m : Str → Option Value} {news : List (Addr × Obj)} {s : Shared} {Q E : Value → Shared → Prop}
theorem bfq {b : Bool} (h : b = false) : ¬ b = true := by rw [h]; decide
theorem hls_fin {D : Addr} {a1 b1 c1 M n x l z : UInt64} {t0 t1 t2 : Tok} {h' : Heap} {tk' : Nat}
    (hret : ∀ D z t0 t1 t2 h' tk', Fr h₀ L h' m → News h₀ L h' ((D, { cls := .type "tuple", data := .seq #[.float (hueF a1 b1 c1 M n) t0, .float (lightF M n) t1, .float z t2] }) :: news) → (∀ p ∈ news, p.1 < D) → Q (.ref D) { s with heap := h', toks := tk' })
    (e : hueF a1 b1 c1 M n = x) (e2 : lightF M n = l) (F : Fr h₀ L h' m) (N : News h₀ L h' ((D, { cls := .type "tuple", data := .seq #[.float x t0, .float l t1, .float z t2] }) :: news)) (l1 : ∀ p ∈ news, p.1 < D) : Q (.ref D) { s with heap := h', toks := tk' } := by
  subst e e2
  exact hret D z t0 t1 t2 h' tk' F N l1
set_option maxRecDepth 100000 in
set_option maxHeartbeats 1000000 in
theorem rgb_tells {a1 b1 c1 M n : UInt64} {ta tb tc : Tok} (B : Below A₀ base outer h₀) (F : Fr h₀ L s.heap m) (X : (Mine.hd.heap_39 w.params).In h₀) (T : Top topProg LOOSE mean mg mb h₀) (hk : cs.kind = .function) (N : News h₀ L s.heap news) (hM : max3 a1 b1 c1 = M) (hn : min3 a1 b1 c1 = n) (hne : (Float64.cmp n M == some Ordering.eq) = false) (hz1 : Float64.isZero (Float64.sub M n) = false) (hz2 : Float64.isZero (Float64.add M n) = false)
    (hz3 : Float64.isZero (Float64.sub (Float64.sub 4611686018427387904 M) n) = false) (hd : dp + 1 < recursionLimit) (hu : un + 8 < cLine)
    (hret : ∀ D z t0 t1 t2 h' tk', Fr h₀ L h' m → News h₀ L h' ((D, { cls := .type "tuple", data := .seq #[.float (hueF a1 b1 c1 M n) t0, .float (lightF M n) t1, .float z t2] }) :: news) → (∀ p ∈ news, p.1 < D) → Q (.ref D) { s with heap := h', toks := tk' }) :
    wpAny (model PySem.Challenge.rw_pg0203_01.row.prog w) (ktrTop dp un gd cn cs L a ccd cl outer) (call (.ref 48) [.float a1 ta, .float b1 tb, .float c1 tc]) Q E s := by
  revert X; k_fill; intro X
  (k_with "call builtin:max" => (k_here; (with_reducible show wpAny _ _ (call _ [Value.float _ _, Value.float _ _, Value.float _ _]) _ _ _); k_dflt (refine' max_at ?zza ?zzF ?zzN ?zze ?_; (case zza => exact rfl); (case zzF => k_asm); (case zzN => k_asm); (case zze => assumption); k_whole); intro h' k' u' F' N'; (try k_sweep)))
  (k_with "call builtin:min" => (k_here; (with_reducible show wpAny _ _ (call _ [Value.float _ _, Value.float _ _, Value.float _ _]) _ _ _); k_dflt (refine' min_at ?zza ?zzF ?zzN ?zze ?_; (case zza => exact rfl); (case zzF => k_asm); (case zzN => k_asm); (case zze => assumption); k_whole); intro h' k' u' F' N'; (try k_sweep)))
  (k_with "binaryOp Div float float" => (k_here; k_dflt (refine' div_nz ?zza ?zzb ?_; (case zza => exact rfl); (case zzb => first | assumption | decide +kernel); k_whole)))
  (k_with "binaryOp Mod float float" => (k_here; k_dflt (refine' mod_nz ?zza ?zzb ?_; (case zza => exact rfl); (case zzb => first | assumption | decide +kernel); k_whole)))
  k_dflt (refine wpAny_call ?_; refine' code_def (binds := [(Str.ofString "r", .float a1 ta), (Str.ofString "g", .float b1 tb), (Str.ofString "b", .float c1 tc)]) ?k1 ?k2 ?k3 ?k4 ?k5 ?kA ?kF ?kK ?k6 ?k7 ?k8 ?k9 ?kB ?_ ?c2 ?c3 ?c4 ?c5; (case kA => exact rfl); (case kF => exact rfl); (case kK => assumption); (case k1 => k_asm); (case k2 => k_asm); (case k3 => k_asm); (case k4 => k_asm); (case k5 => k_asm); (case k6 => k_is); (case k7 => k_is); (case k8 => ktr_room); (case k9 => exact BindsTo.of_eq rfl); (case c5 => decide); (case kB => exact locs rfl); (case c2 => exact rfl); (case c3 => exact rfl); (case c4 => exact rfl); k_whole; intro g' L' h' FG' F' N' B' X' T'; (try dsimp only); (try k_lift B'); (try k_fold))
  k_steps
  all_goals first
    | (refine' hls_fin hret ?qe ?q2 ?qF ?qN ?ql; (case qN => k_asm); (case qF => k_asm); (case ql => assumption); (case q2 => exact rfl); (case qe => unfold hueF hueG; first | (rw [if_pos (by assumption)]; done) | (rw [if_neg (bfq (by assumption)), if_pos (by assumption)]; done) | (rw [if_neg (bfq (by assumption)), if_neg (bfq (by assumption))]; done)))
end
end Mine
end
section
theorem Mine.off_O3a : True := by
  w_top off
  (try walk1)
  k_with_none
  (k_with "lt" => (with_reducible first | assumption | ((fail_if_success (fail_if_success (refine' Mine.guardLt ?qg ?qh; (case qg => assumption)))); first | (refine' And.left ?qx; case qx => first | assumption | (refine' And.right ?qx; case qx => first | assumption | (refine' And.right ?qx; case qx => first | assumption | (refine' And.right ?qx; case qx => first | assumption | (refine' And.right ?qx; case qx => first | assumption | (refine' And.right ?qx; case qx => first | assumption | (refine' And.right ?qx; case qx => first | assumption | (refine' And.right ?qx; case qx => first | assumption | (refine' And.right ?qx; case qx => first | assumption | (refine' And.right ?qx; case qx => first | assumption | (refine' And.right ?qx; case qx => first | assumption | (refine' And.right ?qx; case qx => first | assumption | (refine' And.right ?qx; case qx => first | assumption | (refine' And.right ?qx; case qx => first | assumption | (refine' And.right ?qx; case qx => first | assumption | (refine' And.right ?qx; case qx => first | assumption | (refine' And.right ?qx; case qx => first | assumption | (refine' And.right ?qx; case qx => first | assumption | (refine' And.right ?qx; case qx => first | assumption | (refine' And.right ?qx; case qx => first | assumption | (refine' And.right ?qx; case qx => assumption))))))))))))))))))))) | (refine' And.right ?qx; case qx => first | assumption | (refine' And.right ?qx; case qx => first | assumption | (refine' And.right ?qx; case qx => first | assumption | (refine' And.right ?qx; case qx => first | assumption | (refine' And.right ?qx; case qx => first | assumption | (refine' And.right ?qx; case qx => first | assumption | (refine' And.right ?qx; case qx => first | assumption | (refine' And.right ?qx; case qx => first | assumption | (refine' And.right ?qx; case qx => first | assumption | (refine' And.right ?qx; case qx => first | assumption | (refine' And.right ?qx; case qx => first | assumption | (refine' And.right ?qx; case qx => first | assumption | (refine' And.right ?qx; case qx => first | assumption | (refine' And.right ?qx; case qx => first | assumption | (refine' And.right ?qx; case qx => first | assumption | (refine' And.right ?qx; case qx => first | assumption | (refine' And.right ?qx; case qx => first | assumption | (refine' And.right ?qx; case qx => first | assumption | (refine' And.right ?qx; case qx => first | assumption | (refine' And.right ?qx; case qx => first | assumption | (refine' And.right ?qx; case qx => assumption)))))))))))))))))))))) | (refine Nat.lt_trans ?_ (by assumption); k_extra "lt")))
  (k_with "omega" => (first | (with_reducible assumption) | (with_reducible exact Ne.symm (by assumption)) | (with_reducible refine Nat.ne_of_lt ?_; k_extra "lt") | (with_reducible refine Nat.ne_of_gt ?_; k_extra "lt") | ((with_reducible refine' Mine.room ?qx ?qy); (case qx => with_reducible assumption); (case qy => exact rfl)) | ((with_reducible refine' Mine.room2 ?qx ?qy); (case qx => with_reducible assumption); (case qy => exact rfl)) | ((with_reducible refine' Mine.room0 ?qx); (case qx => with_reducible assumption)) | (with_reducible refine Mine.isLt ?_; k_extra "lt")))
  trivial
open PySem PySem.W PyProof.Rows PySem.Calls PySem.Spec PySem.Flt
namespace Mine
/-- the colour drawn by h eighths of a turn, s and v quarters -/
noncomputable def rgbN (H S V : Nat) : UInt64 × UInt64 × UInt64 := hsvG (Float64.ofFrac false H 8) (Float64.ofFrac false (1 + S) 4) (Float64.ofFrac false (1 + V) 4) (toInt Float64.truncOf (Float64.mul (Float64.ofFrac false H 8) 4618441417868443648))
noncomputable def maxN (H S V : Nat) : UInt64 := max3 (rgbN H S V).1 (rgbN H S V).2.1 (rgbN H S V).2.2
noncomputable def minN (H S V : Nat) : UInt64 := min3 (rgbN H S V).1 (rgbN H S V).2.1 (rgbN H S V).2.2
noncomputable def fine (H S V : Nat) : Bool :=
  let h := Float64.ofFrac false H 8
  let s := Float64.ofFrac false (1 + S) 4
  let i := toInt Float64.truncOf (Float64.mul h 4618441417868443648)
  !(Float64.cmp s 0 == some Ordering.eq) && Float64.isFinite (Float64.mul h 4618441417868443648) && decide (0 ≤ i) && decide (i < 6) &&
  !(Float64.cmp (minN H S V) (maxN H S V) == some Ordering.eq) && !Float64.isZero (Float64.sub (maxN H S V) (minN H S V)) && !Float64.isZero (Float64.add (maxN H S V) (minN H S V)) &&
  !Float64.isZero (Float64.sub (Float64.sub 4611686018427387904 (maxN H S V)) (minN H S V)) &&
  (hueF (rgbN H S V).1 (rgbN H S V).2.1 (rgbN H S V).2.2 (maxN H S V) (minN H S V) == Float64.ofFrac false H 8) && (lightF (maxN H S V) (minN H S V) == Float64.ofFrac false ((1 + V) * (7 - S)) 32)
set_option maxRecDepth 100000 in
theorem fine_h0 : ((List.range 4).all fun S => (List.range 4).all fun V => fine 0 S V) = true := by decide +kernel
set_option maxRecDepth 100000 in
theorem fine_h1 : ((List.range 4).all fun S => (List.range 4).all fun V => fine 1 S V) = true := by decide +kernel
set_option maxRecDepth 100000 in
theorem fine_h2 : ((List.range 4).all fun S => (List.range 4).all fun V => fine 2 S V) = true := by decide +kernel
set_option maxRecDepth 100000 in
theorem fine_h3 : ((List.range 4).all fun S => (List.range 4).all fun V => fine 3 S V) = true := by decide +kernel
set_option maxRecDepth 100000 in
theorem fine_h4 : ((List.range 4).all fun S => (List.range 4).all fun V => fine 4 S V) = true := by decide +kernel
set_option maxRecDepth 100000 in
theorem fine_h5 : ((List.range 4).all fun S => (List.range 4).all fun V => fine 5 S V) = true := by decide +kernel
set_option maxRecDepth 100000 in
theorem fine_h6 : ((List.range 4).all fun S => (List.range 4).all fun V => fine 6 S V) = true := by decide +kernel
set_option maxRecDepth 100000 in
theorem fine_h7 : ((List.range 4).all fun S => (List.range 4).all fun V => fine 7 S V) = true := by decide +kernel
theorem fine_at {H S V : Nat} (h1 : H < 8) (h2 : S < 4) (h3 : V < 4) : fine H S V = true := by
  have h : ((List.range 4).all fun S => (List.range 4).all fun V => fine H S V) = true := by
    have hc : H = 0 ∨ H = 1 ∨ H = 2 ∨ H = 3 ∨ H = 4 ∨ H = 5 ∨ H = 6 ∨ H = 7 := by lia
    rcases hc with rfl | rfl | rfl | rfl | rfl | rfl | rfl | rfl
    · exact fine_h0
    · exact fine_h1
    · exact fine_h2
    · exact fine_h3
    · exact fine_h4
    · exact fine_h5
    · exact fine_h6
    · exact fine_h7
  simp only [List.all_eq_true, List.mem_range] at h
  exact h S h2 V h3
set_option maxRecDepth 100000 in
theorem cmp_hues : ((List.range 8).all fun a => (List.range 8).all fun b => (Float64.cmp (Float64.ofFrac false a 8) (Float64.ofFrac false b 8) == some Ordering.lt) == decide (a < b)) = true := by decide +kernel
set_option maxRecDepth 100000 in
theorem cmp_lights : ((List.range 29).all fun a => (List.range 29).all fun b => (Float64.cmp (Float64.ofFrac false a 32) (Float64.ofFrac false b 32) == some Ordering.lt) == decide (a < b)) = true := by decide +kernel
end Mine
end
section
theorem Mine.off_P1 : True := by
  w_top off
  (try walk1)
  k_with_none
  (k_with "lt" => (with_reducible first | assumption | ((fail_if_success (fail_if_success (refine' Mine.guardLt ?qg ?qh; (case qg => assumption)))); first | (refine' And.left ?qx; case qx => first | assumption | (refine' And.right ?qx; case qx => first | assumption | (refine' And.right ?qx; case qx => first | assumption | (refine' And.right ?qx; case qx => first | assumption | (refine' And.right ?qx; case qx => first | assumption | (refine' And.right ?qx; case qx => first | assumption | (refine' And.right ?qx; case qx => first | assumption | (refine' And.right ?qx; case qx => first | assumption | (refine' And.right ?qx; case qx => first | assumption | (refine' And.right ?qx; case qx => first | assumption | (refine' And.right ?qx; case qx => first | assumption | (refine' And.right ?qx; case qx => first | assumption | (refine' And.right ?qx; case qx => first | assumption | (refine' And.right ?qx; case qx => first | assumption | (refine' And.right ?qx; case qx => first | assumption | (refine' And.right ?qx; case qx => first | assumption | (refine' And.right ?qx; case qx => first | assumption | (refine' And.right ?qx; case qx => first | assumption | (refine' And.right ?qx; case qx => first | assumption | (refine' And.right ?qx; case qx => first | assumption | (refine' And.right ?qx; case qx => assumption))))))))))))))))))))) | (refine' And.right ?qx; case qx => first | assumption | (refine' And.right ?qx; case qx => first | assumption | (refine' And.right ?qx; case qx => first | assumption | (refine' And.right ?qx; case qx => first | assumption | (refine' And.right ?qx; case qx => first | assumption | (refine' And.right ?qx; case qx => first | assumption | (refine' And.right ?qx; case qx => first | assumption | (refine' And.right ?qx; case qx => first | assumption | (refine' And.right ?qx; case qx => first | assumption | (refine' And.right ?qx; case qx => first | assumption | (refine' And.right ?qx; case qx => first | assumption | (refine' And.right ?qx; case qx => first | assumption | (refine' And.right ?qx; case qx => first | assumption | (refine' And.right ?qx; case qx => first | assumption | (refine' And.right ?qx; case qx => first | assumption | (refine' And.right ?qx; case qx => first | assumption | (refine' And.right ?qx; case qx => first | assumption | (refine' And.right ?qx; case qx => first | assumption | (refine' And.right ?qx; case qx => first | assumption | (refine' And.right ?qx; case qx => first | assumption | (refine' And.right ?qx; case qx => assumption)))))))))))))))))))))) | (refine Nat.lt_trans ?_ (by assumption); k_extra "lt")))
  (k_with "omega" => (first | (with_reducible assumption) | (with_reducible exact Ne.symm (by assumption)) | (with_reducible refine Nat.ne_of_lt ?_; k_extra "lt") | (with_reducible refine Nat.ne_of_gt ?_; k_extra "lt") | ((with_reducible refine' Mine.room ?qx ?qy); (case qx => with_reducible assumption); (case qy => exact rfl)) | ((with_reducible refine' Mine.room2 ?qx ?qy); (case qx => with_reducible assumption); (case qy => exact rfl)) | ((with_reducible refine' Mine.room0 ?qx); (case qx => with_reducible assumption)) | (with_reducible refine Mine.isLt ?_; k_extra "lt")))
  trivial
open PySem PySem.W PyProof.Rows PySem.Calls PySem.Spec PySem.Flt
namespace Mine
/-- the search by halves under a test «to the left»; fuel: the places left -/
noncomputable def bisGo (left : Int → Bool) : Nat → Int → Int → Int
  | 0, lo, _ => lo
  | f + 1, lo, hi => if lo < hi then (if left ((lo + hi).fdiv 2) = true then bisGo left f lo ((lo + hi).fdiv 2) else bisGo left f ((lo + hi).fdiv 2 + 1) hi) else lo
theorem bisGo_fuel (left : Int → Bool) : ∀ (f g : Nat) (lo hi : Int), hi - lo ≤ f → hi - lo ≤ g → bisGo left f lo hi = bisGo left g lo hi := by
  intro f
  induction f with
  | zero =>
    intro g lo hi h1 _
    cases g with
    | zero => rfl
    | succ g => simp only [bisGo]; rw [if_neg (by lia)]
  | succ f ih =>
    intro g lo hi h1 h2
    cases g with
    | zero => simp only [bisGo]; rw [if_neg (by lia)]
    | succ g =>
      simp only [bisGo]
      by_cases h : lo < hi
      · rw [if_pos h, if_pos h, mid_eq]
        rw [ih g lo ((lo + hi) / 2) (by lia) (by lia), ih g ((lo + hi) / 2 + 1) hi (by lia) (by lia)]
      · rw [if_neg h, if_neg h]
/-- whether the colour x comes before the k-th of ns -/
noncomputable abbrev leftK (key : Int → UInt64) (ns : List Int) (x : UInt64) (k : Int) : Bool := Float64.cmp x (key (ns.getD k.toNat 0)) == some Ordering.lt
noncomputable def bisK (key : Int → UInt64) (ns : List Int) (x : UInt64) : Int := bisGo (leftK key ns x) ns.length 0 ns.length
noncomputable def BisKInv (left : Int → Bool) (n : Nat) (r lo hi : Int) : Prop := 0 ≤ lo ∧ lo ≤ hi ∧ hi ≤ n ∧ bisGo left (hi - lo).toNat lo hi = r
theorem BisKInv.start {key : Int → UInt64} {ns : List Int} {x : UInt64} : BisKInv (leftK key ns x) ns.length (bisK key ns x) 0 ns.length := ⟨by lia, by lia, by lia, by simp [bisK]⟩
theorem BisKInv.stop {left : Int → Bool} {n : Nat} {r lo hi : Int} (h : ¬ lo < hi) (e : BisKInv left n r lo hi) : lo = r := by
  rw [← e.2.2.2]
  have : (hi - lo).toNat = 0 := by lia
  rw [this]; rfl
theorem BisKInv.left {left : Int → Bool} {n : Nat} {r lo hi : Int} (h : lo < hi) (e : BisKInv left n r lo hi) (hx : left ((lo + hi).fdiv 2) = true) : BisKInv left n r lo ((lo + hi).fdiv 2) := by
  obtain ⟨e1, e2, e3, e⟩ := e
  have q := mid_eq lo hi
  refine ⟨e1, by rw [q]; lia, by rw [q]; lia, ?_⟩
  rw [← e]
  obtain ⟨f, hf⟩ : ∃ f, (hi - lo).toNat = f + 1 := ⟨(hi - lo).toNat - 1, by lia⟩
  rw [hf]; simp only [bisGo]; rw [if_pos h, if_pos hx]
  exact bisGo_fuel _ _ _ _ _ (by rw [q]; lia) (by rw [q]; lia)
theorem BisKInv.right {left : Int → Bool} {n : Nat} {r lo hi : Int} (h : lo < hi) (e : BisKInv left n r lo hi) (hx : left ((lo + hi).fdiv 2) = false) : BisKInv left n r ((lo + hi).fdiv 2 + 1) hi := by
  obtain ⟨e1, e2, e3, e⟩ := e
  have q := mid_eq lo hi
  refine ⟨by rw [q]; lia, by rw [q]; lia, e3, ?_⟩
  rw [← e]
  obtain ⟨f, hf⟩ : ∃ f, (hi - lo).toNat = f + 1 := ⟨(hi - lo).toNat - 1, by lia⟩
  rw [hf]; simp only [bisGo]; rw [if_pos h, if_neg (by rw [hx]; decide)]
  exact bisGo_fuel _ _ _ _ _ (by rw [q]; lia) (by rw [q]; lia)
/-- what a call of the key f gives; kn: the objects that it reads -/
noncomputable def KeyOf (w : World) (mean : ExcName → Option Value) (mg mb : Str → Option Value) (f : Addr) (key : Int → UInt64) (kn : List (Addr × Obj)) : Prop :=
  ∀ {dp un : Nat} {gd : Option (List Code)} {cn : Str} {cs : Scope} {a : Addr} {ccd : Value} {cl : List (Str × Addr)} {outer : List Env} {A₀ : Around} {base h₀ : Heap} {L : Addr} {m : Str → Option Value} {news : List (Addr × Obj)} {s : Shared} {Q E : Value → Shared → Prop} {j : Int} {tj : Tok},
    Below A₀ base outer h₀ → Fr h₀ L s.heap m → (Mine.hd.heap_39 w.params).In h₀ → Top topProg LOOSE mean mg mb h₀ → cs.kind = .function → News h₀ L s.heap news → (∀ p ∈ kn, p ∈ news) → 0 ≤ j → j < 5 → dp + 1 < recursionLimit → un + 8 < cLine →
    (∀ t h' tk', Fr h₀ L h' m → News h₀ L h' news → Q (.float (key j) t) { s with heap := h', toks := tk' }) →
    wpAny (model PySem.Challenge.rw_pg0203_01.row.prog w) (ktrTop dp un gd cn cs L a ccd cl outer) (call (.ref f) [.int j tj]) Q E s
noncomputable def In5 (ns : List Int) : Prop := ∀ i : Nat, 0 ≤ ns.getD i 0 ∧ ns.getD i 0 < 5
theorem sub_dup {kn news : List (Addr × Obj)} {p : Addr × Obj} (h : ∀ q ∈ kn, q ∈ news) : ∀ q ∈ kn, q ∈ p :: news := fun q hq => .tail _ (h q hq)
theorem in5_at {ns : List Int} (h : In5 ns) (i : Nat) : 0 ≤ ns.getD i 0 ∧ ns.getD i 0 < 5 := h i
section
variable {w : World} {mean : ExcName → Option Value} {mg mb : Str → Option Value} {dp un : Nat} {gd : Option (List Code)} {cn : Str} {cs : Scope} {a : Addr} {ccd : Value} {cl : List (Str × Addr)} {outer : List Env} {A₀ : Around} {base h₀ : Heap} {L : Addr} {m : Str → Option Value} {news : List (Addr × Obj)} {s : Shared} {Q E : Value → Shared → Prop}
theorem key_at {f : Addr} {key : Int → UInt64} {kn : List (Addr × Obj)} {j : Int} {tj : Tok} (B : Below A₀ base outer h₀) (F : Fr h₀ L s.heap m) (X : (Mine.hd.heap_39 w.params).In h₀) (T : Top topProg LOOSE mean mg mb h₀) (hk : cs.kind = .function) (hkey : KeyOf w mean mg mb f key kn) (N : News h₀ L s.heap news) (hs : ∀ p ∈ kn, p ∈ news) (h0 : 0 ≤ j) (h1 : j < 5) (hd : dp + 1 < recursionLimit) (hu : un + 8 < cLine)
    (hret : ∀ t h' tk', Fr h₀ L h' m → News h₀ L h' news → Q (.float (key j) t) { s with heap := h', toks := tk' }) :
    wpAny (model PySem.Challenge.rw_pg0203_01.row.prog w) (ktrTop dp un gd cn cs L a ccd cl outer) (call (.ref f) [.int j tj]) Q E s := hkey B F X T hk N hs h0 h1 hd hu hret
set_option maxRecDepth 100000 in
set_option maxHeartbeats 8000000 in
theorem bisK_tells {l f : Addr} {vs : List Value} {ns : List Int} {n : Nat} {x : UInt64} {tx t0 : Tok} {key : Int → UInt64} {kn : List (Addr × Obj)} (B : Below A₀ base outer h₀) (F : Fr h₀ L s.heap m) (X : (Mine.hd.heap_39 w.params).In h₀) (T : Top topProg LOOSE mean mg mb h₀) (hk : cs.kind = .function) (N : News h₀ L s.heap news) (hl : (l, listOf vs.toArray n) ∈ news) (hi : IntsAre vs ns) (hfit : ns.length < 2 ^ 62) (hin : In5 ns)
    (hkey : KeyOf w mean mg mb f key kn) {oc : Value} {od : Option Addr} {fd : FuncData} {sl : Array (Option Value)} (hfm : (f, (⟨oc, od, .func fd, sl⟩ : Obj)) ∈ news) (hsub : ∀ p ∈ kn, p ∈ news) (hd : dp + 2 < recursionLimit) (hu : un + 16 < cLine)
    (hret : ∀ t h' tk', Fr h₀ L h' m → News h₀ L h' news → Q (.int (bisK key ns x) t) { s with heap := h', toks := tk' }) :
    wpAny (model PySem.Challenge.rw_pg0203_01.row.prog w) (ktrTop dp un gd cn cs L a ccd cl outer) (call (.ref 32) [.ref l, .float x tx, .int 0 t0, .none] [(Str.ofString "key", .ref f)]) Q E s := by
  revert X; k_fill; intro X
  (k_with "callWith ref" => (k_here; k_dflt (refine' callWith_F ?zzk1 ?_; (case zzk1 => exact FnAt.of (by k_asm) (by k_mem)); k_whole)))
  (k_with "call ref" => (k_dflt (refine' key_at ?zzk1 ?zzk2 ?zzk3 ?zzk5 ?zzkK ?zzky ?zzkN ?zzks ?zzka ?zzkb ?zzkd ?zzku ?_; (case zzk1 => k_asm); (case zzk2 => k_asm); (case zzk3 => k_asm); (case zzk5 => k_asm); (case zzkK => first | exact rfl | assumption); (case zzky => assumption); (case zzkN => k_asm); (case zzks => first | assumption | exact sub_dup (by assumption) | exact sub_dup (sub_dup (by assumption))); (case zzka => exact (in5_at (by assumption) _).1); (case zzkb => exact (in5_at (by assumption) _).2); (case zzkd => ktr_room); (case zzku => ktr_units); k_whole); intro t9 h9 tk9 F9 N9; (try dsimp only); (try k_fold)))
  replace N := news_dup (news_dup N hfm) (.tail _ hl)
  k_dflt (refine wpAny_call ?_; refine' code_def (binds := [(Str.ofString "a", .ref l), (Str.ofString "x", .float x tx), (Str.ofString "lo", .int 0 t0), (Str.ofString "hi", .none), (Str.ofString "key", .ref f)]) ?k1 ?k2 ?k3 ?k4 ?k5 ?kA ?kF ?kK ?k6 ?k7 ?k8 ?k9 ?kB ?_ ?c2 ?c3 ?c4 ?c5; (case kA => exact rfl); (case kF => exact rfl); (case kK => assumption); (case k1 => k_asm); (case k2 => k_asm); (case k3 => k_asm); (case k4 => k_asm); (case k5 => k_asm); (case k6 => k_is); (case k7 => k_is); (case k8 => ktr_room); (case k9 => (refine' kp_binds ?kx ?ke; (case kx => k_in); (case ke => exact fun _ => rfl))); (case c5 => decide); (case kB => exact locs rfl); (case c2 => exact rfl); (case c3 => exact rfl); (case c4 => exact rfl); k_whole; intro g' L' h' FG' F' N' B' X' T'; (try dsimp only); (try k_lift B'); (try k_fold))
  (k_with "exec While Compare cons nil" => k_while (fun xs lo hi => (0 ≤ lo ∧ lo ≤ hi ∧ hi ≤ xs.length) ∧ BisKInv (leftK key ns x) ns.length (bisK key ns x) lo hi) (fun xs lo hi => (hi - lo).toNat) "lo" "hi")
  (k_with "state" => first
    | exact ⟨⟨by omega, by omega, by omega⟩, BisKInv.start⟩
    | exact (fun q => ⟨⟨q.1, q.2.1, q.2.2.1⟩, q⟩) (BisKInv.left (by assumption) (by assumption) (by assumption))
    | exact (fun q => ⟨⟨q.1, q.2.1, q.2.2.1⟩, q⟩) (BisKInv.right (by assumption) (by assumption) (by assumption)))
  (k_with "measure" => first | exact mid_less1 (by assumption) | exact mid_less2 (by assumption))
  k_steps
  all_goals exact cb_retI hret (BisKInv.stop (by assumption) (by assumption)) (by k_asm) (news_tail (news_tail (by k_asm)))
end
end Mine
end
section
theorem Mine.off_P2 : True := by
  w_top off
  (try walk1)
  k_with_none
  (k_with "lt" => (with_reducible first | assumption | ((fail_if_success (fail_if_success (refine' Mine.guardLt ?qg ?qh; (case qg => assumption)))); first | (refine' And.left ?qx; case qx => first | assumption | (refine' And.right ?qx; case qx => first | assumption | (refine' And.right ?qx; case qx => first | assumption | (refine' And.right ?qx; case qx => first | assumption | (refine' And.right ?qx; case qx => first | assumption | (refine' And.right ?qx; case qx => first | assumption | (refine' And.right ?qx; case qx => first | assumption | (refine' And.right ?qx; case qx => first | assumption | (refine' And.right ?qx; case qx => first | assumption | (refine' And.right ?qx; case qx => first | assumption | (refine' And.right ?qx; case qx => first | assumption | (refine' And.right ?qx; case qx => first | assumption | (refine' And.right ?qx; case qx => first | assumption | (refine' And.right ?qx; case qx => first | assumption | (refine' And.right ?qx; case qx => first | assumption | (refine' And.right ?qx; case qx => first | assumption | (refine' And.right ?qx; case qx => first | assumption | (refine' And.right ?qx; case qx => first | assumption | (refine' And.right ?qx; case qx => first | assumption | (refine' And.right ?qx; case qx => first | assumption | (refine' And.right ?qx; case qx => assumption))))))))))))))))))))) | (refine' And.right ?qx; case qx => first | assumption | (refine' And.right ?qx; case qx => first | assumption | (refine' And.right ?qx; case qx => first | assumption | (refine' And.right ?qx; case qx => first | assumption | (refine' And.right ?qx; case qx => first | assumption | (refine' And.right ?qx; case qx => first | assumption | (refine' And.right ?qx; case qx => first | assumption | (refine' And.right ?qx; case qx => first | assumption | (refine' And.right ?qx; case qx => first | assumption | (refine' And.right ?qx; case qx => first | assumption | (refine' And.right ?qx; case qx => first | assumption | (refine' And.right ?qx; case qx => first | assumption | (refine' And.right ?qx; case qx => first | assumption | (refine' And.right ?qx; case qx => first | assumption | (refine' And.right ?qx; case qx => first | assumption | (refine' And.right ?qx; case qx => first | assumption | (refine' And.right ?qx; case qx => first | assumption | (refine' And.right ?qx; case qx => first | assumption | (refine' And.right ?qx; case qx => first | assumption | (refine' And.right ?qx; case qx => first | assumption | (refine' And.right ?qx; case qx => assumption)))))))))))))))))))))) | (refine Nat.lt_trans ?_ (by assumption); k_extra "lt")))
  (k_with "omega" => (first | (with_reducible assumption) | (with_reducible exact Ne.symm (by assumption)) | (with_reducible refine Nat.ne_of_lt ?_; k_extra "lt") | (with_reducible refine Nat.ne_of_gt ?_; k_extra "lt") | ((with_reducible refine' Mine.room ?qx ?qy); (case qx => with_reducible assumption); (case qy => exact rfl)) | ((with_reducible refine' Mine.room2 ?qx ?qy); (case qx => with_reducible assumption); (case qy => exact rfl)) | ((with_reducible refine' Mine.room0 ?qx); (case qx => with_reducible assumption)) | (with_reducible refine Mine.isLt ?_; k_extra "lt")))
  trivial
open PySem PySem.W PyProof.Rows PySem.Calls PySem.Spec PySem.Flt
namespace Mine
/-- k put into ns behind all that do not come after it by the key -/
noncomputable def insK (key : Int → UInt64) (ns : List Int) (k : Int) : List Int := insAt ns (bisK key ns (key k)) k
theorem bisGo_bounds (left : Int → Bool) : ∀ (f : Nat) (lo hi : Int), lo ≤ hi → lo ≤ bisGo left f lo hi ∧ bisGo left f lo hi ≤ hi := by
  intro f
  induction f with
  | zero => intro lo hi h; exact ⟨Int.le_refl _, h⟩
  | succ f ih =>
    intro lo hi h
    simp only [bisGo]
    have e := mid_eq lo hi
    split
    · split
      · have := ih lo ((lo + hi).fdiv 2) (by rw [e]; lia)
        rw [e] at this ⊢; lia
      · have := ih ((lo + hi).fdiv 2 + 1) hi (by rw [e]; lia)
        rw [e] at this ⊢; lia
    · lia
theorem bisK_bounds (key : Int → UInt64) (xs : List Int) (x : UInt64) : 0 ≤ bisK key xs x ∧ bisK key xs x ≤ xs.length := bisGo_bounds _ _ _ _ (by lia)
theorem insK_length (key : Int → UInt64) (xs : List Int) (x : Int) : (insK key xs x).length = xs.length + 1 := insAt_length _ _ _
theorem mem_front {x y : Addr × Obj} {pre post : List (Addr × Obj)} (h : x ∈ pre ++ y :: post) : x ∈ y :: (pre ++ post) := by
  simp only [List.mem_cons, List.mem_append] at h ⊢; rcases h with h | h | h <;> simp [h]
theorem sub_front {kn : List (Addr × Obj)} {y : Addr × Obj} {pre post : List (Addr × Obj)} (h : ∀ p ∈ kn, p ∈ pre ++ y :: post) : ∀ p ∈ kn, p ∈ y :: (pre ++ post) := fun p hp => mem_front (h p hp)
section
variable {w : World} {mean : ExcName → Option Value} {mg mb : Str → Option Value} {dp un : Nat} {gd : Option (List Code)} {cn : Str} {cs : Scope} {a : Addr} {ccd : Value} {cl : List (Str × Addr)} {outer : List Env} {A₀ : Around} {base h₀ : Heap} {L : Addr} {m : Str → Option Value} {news : List (Addr × Obj)} {s : Shared} {Q E : Value → Shared → Prop}
set_option maxRecDepth 100000 in
set_option maxHeartbeats 8000000 in
theorem insK_tells {l f : Addr} {g : Obj → List (Addr × Obj)} {vs : List Value} {ns : List Int} {n : Nat} {x : Int} {tx : Tok} {key : Int → UInt64} {kn : List (Addr × Obj)} {oc : Value} {od : Option Addr} {fd : FuncData} {sl : Array (Option Value)} (B : Below A₀ base outer h₀) (F : Fr h₀ L s.heap m) (X : (Mine.hd.heap_39 w.params).In h₀) (T : Top topProg LOOSE mean mg mb h₀) (hk : cs.kind = .function) (N : News h₀ L s.heap news)
    (U : UpdF l (listOf vs.toArray n) news g) (hi : IntsAre vs ns) (hfit : ns.length < 2 ^ 20) (hin : In5 ns) (hx0 : 0 ≤ x) (hx1 : x < 5) (hkey : KeyOf w mean mg mb f key kn) (hfm : (f, (⟨oc, od, .func fd, sl⟩ : Obj)) ∈ news) (hsub : ∀ p ∈ kn, p ∈ news) (hd : dp + 3 < recursionLimit) (hu : un + 24 < cLine)
    (hret : ∀ vs' n' h' tk', Fr h₀ L h' m → News h₀ L h' (g (listOf vs'.toArray n')) → IntsAre vs' (insK key ns x) → Q .none { s with heap := h', toks := tk' }) :
    wpAny (model PySem.Challenge.rw_pg0203_01.row.prog w) (ktrTop dp un gd cn cs L a ccd cl outer) (call (.ref 23) [.ref l, .int x tx] [(Str.ofString "key", .ref f)]) Q E s := by
  revert X; k_fill; intro X
  (k_with "callWith ref" => (k_here; k_dflt (refine' callWith_F ?zzk1 ?_; (case zzk1 => exact FnAt.of (by k_asm) (by assumption)); k_whole)))
  (k_with "FnAt" => (k_dflt (exact FnAt.of (by k_asm) (by assumption))))
  (k_with "call ref" => (k_dflt (refine' key_at ?zzk1 ?zzk2 ?zzk3 ?zzk5 ?zzkK ?zzky ?zzkN ?zzks ?zzka ?zzkb ?zzkd ?zzku ?_; (case zzk1 => k_asm); (case zzk2 => k_asm); (case zzk3 => k_asm); (case zzk5 => k_asm); (case zzkK => first | exact rfl | assumption); (case zzky => assumption); (case zzkN => k_asm); (case zzks => assumption); (case zzka => assumption); (case zzkb => assumption); (case zzkd => ktr_room); (case zzku => ktr_units); k_whole); intro t9 h9 tk9 F9 N9; (try dsimp only); (try k_fold)))
  (k_with "call ref" => (k_dflt (refine' bisK_tells ?zzk1 ?zzk2 ?zzk3 ?zzk5 ?zzkK ?zzkN ?zzkl ?zzki ?zzkt ?zzkj ?zzky ?zzkf ?zzks ?zzkd ?zzku ?_; (case zzk1 => k_asm); (case zzk2 => k_asm); (case zzk3 => k_asm); (case zzk5 => k_asm); (case zzkK => first | exact rfl | assumption); (case zzkN => k_asm); (case zzkl => k_mem); (case zzki => k_asm); (case zzkt => assumption); (case zzkj => assumption); (case zzky => assumption); (case zzkf => assumption); (case zzks => assumption); (case zzkd => ktr_room); (case zzku => ktr_units); k_whole); intro t9 h9 tk9 F9 N9; (try dsimp only); (try k_fold)))
  (k_with "call builtin:list.insert" => (k_here; k_dflt (refine' kl_insert ?zzF ?zzN ?zzf rfl ?zzU ?zzz ?_; (case zzF => k_asm); (case zzN => k_asm); (case zzU => exact Upd.head (by assumption)); (case zzf => exact fits_index (bisK_bounds _ _ _).1 (bisK_bounds _ _ _).2 (by assumption)); (case zzz => (have hLen9 := IntsAre.length (by assumption)); rw [sizeLine_eq]; simp only [List.size_toArray, Array.length_toList]; omega)); intro h' F' N'))
  obtain ⟨pre, post, rfl, hg, ha, hb⟩ := U.split
  have hne := apart_both ha hb
  clear U ha hb
  replace N := news_front N
  replace hfm := mem_front hfm
  replace hsub := sub_front hsub
  have hf62 : ns.length < 2 ^ 62 := by omega
  k_dflt (refine wpAny_call ?_; refine' code_def (binds := [(Str.ofString "a", .ref l), (Str.ofString "x", .int x tx), (Str.ofString "lo", .int 0 189), (Str.ofString "hi", .none), (Str.ofString "key", .ref f)]) ?k1 ?k2 ?k3 ?k4 ?k5 ?kA ?kF ?kK ?k6 ?k7 ?k8 ?k9 ?kB ?_ ?c2 ?c3 ?c4 ?c5; (case kA => exact rfl); (case kF => exact rfl); (case kK => assumption); (case k1 => k_asm); (case k2 => k_asm); (case k3 => k_asm); (case k4 => k_asm); (case k5 => k_asm); (case k6 => k_is); (case k7 => k_is); (case k8 => ktr_room); (case k9 => (refine' kp_binds ?kx ?ke; (case kx => k_in); (case ke => exact fun _ => rfl))); (case c5 => decide); (case kB => exact locs rfl); (case c2 => exact rfl); (case c3 => exact rfl); (case c4 => exact rfl); k_whole; intro g' L' h' FG' F' N' B' X' T'; (try dsimp only); (try k_lift B'); (try k_fold))
  k_steps
  all_goals first | exact hret _ _ _ _ (by k_asm) (insert_ends hg (by k_asm)) (kl_ins_ints (by assumption) (bisK_bounds _ _ _).1 (bisK_bounds _ _ _).2 _ _)
end
end Mine
end
section
theorem Mine.off_P3 : True := by
  w_top off
  (try walk1)
  k_with_none
  (k_with "lt" => (with_reducible first | assumption | ((fail_if_success (fail_if_success (refine' Mine.guardLt ?qg ?qh; (case qg => assumption)))); first | (refine' And.left ?qx; case qx => first | assumption | (refine' And.right ?qx; case qx => first | assumption | (refine' And.right ?qx; case qx => first | assumption | (refine' And.right ?qx; case qx => first | assumption | (refine' And.right ?qx; case qx => first | assumption | (refine' And.right ?qx; case qx => first | assumption | (refine' And.right ?qx; case qx => first | assumption | (refine' And.right ?qx; case qx => first | assumption | (refine' And.right ?qx; case qx => first | assumption | (refine' And.right ?qx; case qx => first | assumption | (refine' And.right ?qx; case qx => first | assumption | (refine' And.right ?qx; case qx => first | assumption | (refine' And.right ?qx; case qx => first | assumption | (refine' And.right ?qx; case qx => first | assumption | (refine' And.right ?qx; case qx => first | assumption | (refine' And.right ?qx; case qx => first | assumption | (refine' And.right ?qx; case qx => first | assumption | (refine' And.right ?qx; case qx => first | assumption | (refine' And.right ?qx; case qx => first | assumption | (refine' And.right ?qx; case qx => first | assumption | (refine' And.right ?qx; case qx => assumption))))))))))))))))))))) | (refine' And.right ?qx; case qx => first | assumption | (refine' And.right ?qx; case qx => first | assumption | (refine' And.right ?qx; case qx => first | assumption | (refine' And.right ?qx; case qx => first | assumption | (refine' And.right ?qx; case qx => first | assumption | (refine' And.right ?qx; case qx => first | assumption | (refine' And.right ?qx; case qx => first | assumption | (refine' And.right ?qx; case qx => first | assumption | (refine' And.right ?qx; case qx => first | assumption | (refine' And.right ?qx; case qx => first | assumption | (refine' And.right ?qx; case qx => first | assumption | (refine' And.right ?qx; case qx => first | assumption | (refine' And.right ?qx; case qx => first | assumption | (refine' And.right ?qx; case qx => first | assumption | (refine' And.right ?qx; case qx => first | assumption | (refine' And.right ?qx; case qx => first | assumption | (refine' And.right ?qx; case qx => first | assumption | (refine' And.right ?qx; case qx => first | assumption | (refine' And.right ?qx; case qx => first | assumption | (refine' And.right ?qx; case qx => first | assumption | (refine' And.right ?qx; case qx => assumption)))))))))))))))))))))) | (refine Nat.lt_trans ?_ (by assumption); k_extra "lt")))
  (k_with "omega" => (first | (with_reducible assumption) | (with_reducible exact Ne.symm (by assumption)) | (with_reducible refine Nat.ne_of_lt ?_; k_extra "lt") | (with_reducible refine Nat.ne_of_gt ?_; k_extra "lt") | ((with_reducible refine' Mine.room ?qx ?qy); (case qx => with_reducible assumption); (case qy => exact rfl)) | ((with_reducible refine' Mine.room2 ?qx ?qy); (case qx => with_reducible assumption); (case qy => exact rfl)) | ((with_reducible refine' Mine.room0 ?qx); (case qx => with_reducible assumption)) | (with_reducible refine Mine.isLt ?_; k_extra "lt")))
  trivial
open PySem PySem.W PyProof.Rows PySem.Calls PySem.Spec PySem.Flt
namespace Mine
noncomputable abbrev tup3 (x y z : UInt64) (t u v : Tok) : Obj := { cls := .type "tuple", data := .seq #[.float x t, .float y u, .float z v] }
/-- lambda j: told[j][i] -/
noncomputable abbrev lamBody (i : Int) (p1 p2 p3 p4 p5 : Pos) : PySem.Expr := PySem.Expr.Subscript (PySem.Expr.Subscript (PySem.Expr.Name (Str.ofString "told") p1) (PySem.Expr.Name (Str.ofString "j") p2) p3) (PySem.Expr.Constant (PySem.Const.int i) 0 p4) p5
noncomputable abbrev lamArgs (q : Pos) : PySem.Arguments := { posonlyargs := [], args := [{ arg := Str.ofString "j", annotation := none, pos := q }], vararg := none, kwonlyargs := [], kw_defaults := [], kwarg := none, defaults := [] }
noncomputable abbrev lamScope : PySem.Scope := { kind := PySem.ScopeKind.function, names := [(PySem.Str.ofString "j", PySem.NameKind.local), (PySem.Str.ofString "told", PySem.NameKind.free)], isGenerator := false, isCoroutine := false, more := [] }
theorem news_more {h₀ h : Heap} {L : Addr} {kn news : List (Addr × Obj)} (N : News h₀ L h news) (hs : ∀ p ∈ kn, p ∈ news) : News h₀ L h (kn ++ news) := fun p hp => (List.mem_append.mp hp).elim (fun q => N p (hs p q)) (fun q => N p q)
theorem news_less {h₀ h : Heap} {L : Addr} {kn news : List (Addr × Obj)} (N : News h₀ L h (kn ++ news)) : News h₀ L h news := fun p hp => N p (List.mem_append.mpr (.inr hp))
set_option maxRecDepth 100000 in
set_option maxHeartbeats 8000000 in
theorem lam_key0 {w : World} {mean : ExcName → Option Value} {mg mb : Str → Option Value} {f c' cT lT D0 D1 D2 D3 D4 : Addr} {oc oT : Obj} {vs : Array Value} {name qual : Str} {p1 p2 p3 p4 p5 q : Pos} {pm ctv : Value} {nT : Nat} {x0 x1 x2 x3 x4 y0 y1 y2 y3 y4 z0 z1 z2 z3 z4 : UInt64} {t u0 u1 u2 u3 u4 v0 v1 v2 v3 v4 w0 w1 w2 w3 w4 : Tok}
    (hoc : oc.data = .fields vs) (hvs : vs[1]? = some (.str qual t)) (hoT : oT.data = .cell (some (.ref lT))) :
    KeyOf w mean mg mb f (fun j => [x0, x1, x2, x3, x4].getD j.toNat 0)
      [(f, kla_obj name qual (lamArgs q) (lamBody 0 p1 p2 p3 p4 p5) lamScope [(Str.ofString "told", cT)] pm c' ctv), (c', oc), (cT, oT), (lT, listOf #[.ref D0, .ref D1, .ref D2, .ref D3, .ref D4] nT),
        (D0, tup3 x0 y0 z0 u0 v0 w0), (D1, tup3 x1 y1 z1 u1 v1 w1), (D2, tup3 x2 y2 z2 u2 v2 w2), (D3, tup3 x3 y3 z3 u3 v3 w3), (D4, tup3 x4 y4 z4 u4 v4 w4)] := by
  intro dp un gd cn cs a ccd cl outer A₀ base h₀ L m news s Q E j tj B F X T hk N hs h0 h1 hd hu hret
  revert X; k_fill; intro X
  (k_with "eval Name" => (k_here; k_dflt (refine' nameX_F ?zzN ?zzc ?zzm ?zzd ?_ ?zza ?zzb; (case zza => rfl); (case zzb => rfl); (case zzN => k_asm); (case zzc => rfl); (case zzm => k_mem); (case zzd => k_asm); k_whole)))
  have N9 := news_more N hs
  simp only [List.cons_append, List.nil_append] at N9
  clear N
  have hj : j = 0 ∨ j = 1 ∨ j = 2 ∨ j = 3 ∨ j = 4 := by omega
  rcases hj with rfl | rfl | rfl | rfl | rfl
  all_goals (k_dflt (refine wpAny_call ?_; refine' kla_code ?k1 ?k2 ?k3 ?k4 ?k5 ?kA ?kF ?kK ?k6 ?k7 ?k8 ?k9 ?kB ?_ ?c2 ?c3 ?c4 ?c5; (case kA => exact rfl); (case kF => exact rfl); (case kK => assumption); (case k1 => k_asm); (case k2 => k_asm); (case k3 => k_asm); (case k4 => k_asm); (case k5 => k_asm); (case k6 => k_mem); (case k7 => exact codeRec_news (by k_asm) (by k_mem) (by assumption) (by assumption)); (case k8 => ktr_room); (case k9 => exact rfl); (case c5 => decide); (case kB => exact locs rfl); (case c2 => exact rfl); (case c3 => exact rfl); (case c4 => exact rfl); k_whole; intro g' L' h' FG' F' N' B' X' T'; (try dsimp only); (try k_lift B'); (try k_fold)))
  all_goals k_steps
  all_goals exact hret _ _ _ (by k_asm) (news_tail (news_tail (news_tail (news_tail (news_tail (news_tail (news_tail (news_tail (news_tail (by k_asm))))))))))
set_option maxRecDepth 100000 in
set_option maxHeartbeats 8000000 in
theorem lam_key1 {w : World} {mean : ExcName → Option Value} {mg mb : Str → Option Value} {f c' cT lT D0 D1 D2 D3 D4 : Addr} {oc oT : Obj} {vs : Array Value} {name qual : Str} {p1 p2 p3 p4 p5 q : Pos} {pm ctv : Value} {nT : Nat} {x0 x1 x2 x3 x4 y0 y1 y2 y3 y4 z0 z1 z2 z3 z4 : UInt64} {t u0 u1 u2 u3 u4 v0 v1 v2 v3 v4 w0 w1 w2 w3 w4 : Tok}
    (hoc : oc.data = .fields vs) (hvs : vs[1]? = some (.str qual t)) (hoT : oT.data = .cell (some (.ref lT))) :
    KeyOf w mean mg mb f (fun j => [y0, y1, y2, y3, y4].getD j.toNat 0)
      [(f, kla_obj name qual (lamArgs q) (lamBody 1 p1 p2 p3 p4 p5) lamScope [(Str.ofString "told", cT)] pm c' ctv), (c', oc), (cT, oT), (lT, listOf #[.ref D0, .ref D1, .ref D2, .ref D3, .ref D4] nT),
        (D0, tup3 x0 y0 z0 u0 v0 w0), (D1, tup3 x1 y1 z1 u1 v1 w1), (D2, tup3 x2 y2 z2 u2 v2 w2), (D3, tup3 x3 y3 z3 u3 v3 w3), (D4, tup3 x4 y4 z4 u4 v4 w4)] := by
  intro dp un gd cn cs a ccd cl outer A₀ base h₀ L m news s Q E j tj B F X T hk N hs h0 h1 hd hu hret
  revert X; k_fill; intro X
  have N9 := news_more N hs
  simp only [List.cons_append, List.nil_append] at N9
  clear N
  have hj : j = 0 ∨ j = 1 ∨ j = 2 ∨ j = 3 ∨ j = 4 := by omega
  rcases hj with rfl | rfl | rfl | rfl | rfl
  all_goals (k_dflt (refine wpAny_call ?_; refine' kla_code ?k1 ?k2 ?k3 ?k4 ?k5 ?kA ?kF ?kK ?k6 ?k7 ?k8 ?k9 ?kB ?_ ?c2 ?c3 ?c4 ?c5; (case kA => exact rfl); (case kF => exact rfl); (case kK => assumption); (case k1 => k_asm); (case k2 => k_asm); (case k3 => k_asm); (case k4 => k_asm); (case k5 => k_asm); (case k6 => k_mem); (case k7 => exact codeRec_news (by k_asm) (by k_mem) (by assumption) (by assumption)); (case k8 => ktr_room); (case k9 => exact rfl); (case c5 => decide); (case kB => exact locs rfl); (case c2 => exact rfl); (case c3 => exact rfl); (case c4 => exact rfl); k_whole; intro g' L' h' FG' F' N' B' X' T'; (try dsimp only); (try k_lift B'); (try k_fold)))
  all_goals k_steps
  all_goals exact hret _ _ _ (by k_asm) (news_tail (news_tail (news_tail (news_tail (news_tail (news_tail (news_tail (news_tail (news_tail (by k_asm))))))))))
end Mine
end
section
theorem Mine.off_P4 : True := by
  w_top off
  (try walk1)
  k_with_none
  (k_with "lt" => (with_reducible first | assumption | ((fail_if_success (fail_if_success (refine' Mine.guardLt ?qg ?qh; (case qg => assumption)))); first | (refine' And.left ?qx; case qx => first | assumption | (refine' And.right ?qx; case qx => first | assumption | (refine' And.right ?qx; case qx => first | assumption | (refine' And.right ?qx; case qx => first | assumption | (refine' And.right ?qx; case qx => first | assumption | (refine' And.right ?qx; case qx => first | assumption | (refine' And.right ?qx; case qx => first | assumption | (refine' And.right ?qx; case qx => first | assumption | (refine' And.right ?qx; case qx => first | assumption | (refine' And.right ?qx; case qx => first | assumption | (refine' And.right ?qx; case qx => first | assumption | (refine' And.right ?qx; case qx => first | assumption | (refine' And.right ?qx; case qx => first | assumption | (refine' And.right ?qx; case qx => first | assumption | (refine' And.right ?qx; case qx => first | assumption | (refine' And.right ?qx; case qx => first | assumption | (refine' And.right ?qx; case qx => first | assumption | (refine' And.right ?qx; case qx => first | assumption | (refine' And.right ?qx; case qx => first | assumption | (refine' And.right ?qx; case qx => first | assumption | (refine' And.right ?qx; case qx => assumption))))))))))))))))))))) | (refine' And.right ?qx; case qx => first | assumption | (refine' And.right ?qx; case qx => first | assumption | (refine' And.right ?qx; case qx => first | assumption | (refine' And.right ?qx; case qx => first | assumption | (refine' And.right ?qx; case qx => first | assumption | (refine' And.right ?qx; case qx => first | assumption | (refine' And.right ?qx; case qx => first | assumption | (refine' And.right ?qx; case qx => first | assumption | (refine' And.right ?qx; case qx => first | assumption | (refine' And.right ?qx; case qx => first | assumption | (refine' And.right ?qx; case qx => first | assumption | (refine' And.right ?qx; case qx => first | assumption | (refine' And.right ?qx; case qx => first | assumption | (refine' And.right ?qx; case qx => first | assumption | (refine' And.right ?qx; case qx => first | assumption | (refine' And.right ?qx; case qx => first | assumption | (refine' And.right ?qx; case qx => first | assumption | (refine' And.right ?qx; case qx => first | assumption | (refine' And.right ?qx; case qx => first | assumption | (refine' And.right ?qx; case qx => first | assumption | (refine' And.right ?qx; case qx => assumption)))))))))))))))))))))) | (refine Nat.lt_trans ?_ (by assumption); k_extra "lt")))
  (k_with "omega" => (first | (with_reducible assumption) | (with_reducible exact Ne.symm (by assumption)) | (with_reducible refine Nat.ne_of_lt ?_; k_extra "lt") | (with_reducible refine Nat.ne_of_gt ?_; k_extra "lt") | ((with_reducible refine' Mine.room ?qx ?qy); (case qx => with_reducible assumption); (case qy => exact rfl)) | ((with_reducible refine' Mine.room2 ?qx ?qy); (case qx => with_reducible assumption); (case qy => exact rfl)) | ((with_reducible refine' Mine.room0 ?qx); (case qx => with_reducible assumption)) | (with_reducible refine Mine.isLt ?_; k_extra "lt")))
  trivial
open PySem PySem.W PyProof.Rows PySem.Calls PySem.Spec PySem.Flt
namespace Mine
section
variable {prog : Program} {w : World} {A : Around} {E : Value → Shared → Prop} {s : Shared} {Q : Value → Shared → Prop} {a b : Int} {x y : Nat} {t u : Tok}
theorem div_at (hA : A.handled = none) (ha : a = (x : Int)) (hb : b = (y : Int)) (hy : y ≠ 0) (hx : x < 1000) (h : Q (.float (Float64.ofFrac false x y) s.toks) { s with toks := s.toks + 1 }) : wpAny (model prog w) A (binaryOp .Div (.int a t) (.int b u)) Q E s := by
  subst ha hb
  refine div_ii_fits hA ?_ (fun c => absurd c (by omega)) (fun _ _ => ?_)
  · refine Nat.lt_of_lt_of_le (show ((x : Int)).natAbs < 2 ^ 10 by omega) (Nat.pow_le_pow_right (by decide) (by decide))
  · have e : (decide ((x : Int) < 0) != decide ((y : Int) < 0)) = false := by
      rw [decide_eq_false (by omega), decide_eq_false (by omega)]; rfl
    rw [e, Int.natAbs_natCast, Int.natAbs_natCast]
    exact h
end
noncomputable abbrev lightN (S V : Nat) : UInt64 := Float64.ofFrac false ((1 + V) * (7 - S)) 32
noncomputable abbrev hueN (H : Nat) : UInt64 := Float64.ofFrac false H 8
structure Fine (H S V : Nat) : Prop where
  s0 : (Float64.cmp (Float64.ofFrac false (1 + S) 4) 0 == some Ordering.eq) = false
  fin : Float64.isFinite (Float64.mul (hueN H) 4618441417868443648) = true
  i0 : 0 ≤ toInt Float64.truncOf (Float64.mul (hueN H) 4618441417868443648)
  i1 : toInt Float64.truncOf (Float64.mul (hueN H) 4618441417868443648) < 6
  ne : (Float64.cmp (minN H S V) (maxN H S V) == some Ordering.eq) = false
  z1 : Float64.isZero (Float64.sub (maxN H S V) (minN H S V)) = false
  z2 : Float64.isZero (Float64.add (maxN H S V) (minN H S V)) = false
  z3 : Float64.isZero (Float64.sub (Float64.sub 4611686018427387904 (maxN H S V)) (minN H S V)) = false
  hue : hueF (rgbN H S V).1 (rgbN H S V).2.1 (rgbN H S V).2.2 (maxN H S V) (minN H S V) = hueN H
  light : lightF (maxN H S V) (minN H S V) = lightN S V
theorem fine_of {H S V : Nat} (h : fine H S V = true) : Fine H S V := by
  unfold fine at h
  simp only [Bool.and_eq_true, Bool.not_eq_true', decide_eq_true_eq, beq_iff_eq] at h
  obtain ⟨⟨⟨⟨⟨⟨⟨⟨⟨a, b⟩, c⟩, d⟩, e⟩, f⟩, g⟩, i⟩, j⟩, k⟩ := h
  exact ⟨a, b, c, d, e, f, g, i, j, k⟩
noncomputable abbrev OCL (c1 c2 : Addr) : List (Str × Addr) := [(Str.ofString "told", c2), (Str.ofString "by_light", c1)]
local macro_rules | `(tactic| k_all) => `(tactic| assumption)
theorem turn_fin {h₀ h' : Heap} {s : Shared} {L c2 i lT D : Addr} {oi oT : Obj} {q : Addr × Obj} {rest : List (Addr × Obj)} {vT : List Value} {n' tk' : Nat} {H S V : Nat} {x l z : UInt64} {t u v : Tok} {m' : Str → Option Value} {Q : Flow → Shared → Prop}
    (hret : ∀ m' h' tk' D t u v z nT', Fr h₀ L h' m' → News h₀ L h' ((i, oi) :: (lT, listOf (vT ++ [Value.ref D]).toArray nT') :: (c2, oT) :: (D, tup3 (hueN H) (lightN S V) z t u v) :: rest) → @LT.lt Nat _ i D → Q .next { s with heap := h', toks := tk' })
    (hx : x = hueN H) (hl : l = lightN S V) (F : Fr h₀ L h' m') (N : News h₀ L h' ((D, tup3 x l z t u v) :: q :: (i, oi) :: (lT, listOf (vT.toArray.push (.ref D)) n') :: (c2, oT) :: rest)) (hlt : @LT.lt Nat _ i D) : Q .next { s with heap := h', toks := tk' } := by
  subst hx hl
  refine hret m' h' tk' D t u v z n' F (fun p hp => N p ?_) hlt
  rw [← List.push_toArray] at hp
  simp only [List.mem_cons] at hp ⊢
  rcases hp with h | h | h | h | h <;> simp [h]
set_option maxRecDepth 100000 in
set_option maxHeartbeats 1000000 in
theorem ord_turn {w : World} {mean : ExcName → Option Value} {mg mb : Str → Option Value} {dp un : Nat} {gd : Option (List Code)} {a : Addr} {ccd : Value} {outer : List Env} {A₀ : Around} {base h₀ : Heap} {L : Addr} {m : Str → Option Value} {s : Shared} {c1 c2 i lT : Addr} {oi oT : Obj} {rest : List (Addr × Obj)} {vT : List Value} {nT : Nat} {n : Int} {tn : Tok} {H S V : Nat} {Q : Flow → Shared → Prop} (B : Below A₀ base outer h₀) (F : Fr h₀ L s.heap m) (X : (Mine.hd.heap_39 w.params).In h₀) (T : Top topProg LOOSE mean mg mb h₀)
    (hmN : m (Str.ofString "number") = some (.int n tn)) (hH : n.fmod 8 = ((H : Nat) : Int)) (hS : 1 + (n.fdiv 8).fmod 4 = (((1 + S) : Nat) : Int)) (hV : 1 + (n.fdiv 32).fmod 4 = (((1 + V) : Nat) : Int)) (hH8 : H < 8) (hS4 : S < 4) (hV4 : V < 4)
    (N : News h₀ L s.heap ((i, oi) :: (lT, listOf vT.toArray nT) :: (c2, oT) :: rest)) (hoT : oT.data = .cell (some (.ref lT)))
    (h1 : @LT.lt Nat _ lT i) (h2 : @LT.lt Nat _ c2 lT) (h3 : ∀ p ∈ rest, p.1 ≠ lT) (hlen : vT.length < 2 ^ 20)
    (hd : dp + 6 < recursionLimit) (hu : un + 48 < cLine)
    (hret : ∀ m' h' tk' D t u v z nT', Fr h₀ L h' m' → News h₀ L h' ((i, oi) :: (lT, listOf (vT ++ [Value.ref D]).toArray nT') :: (c2, oT) :: (D, tup3 (hueN H) (lightN S V) z t u v) :: rest) → @LT.lt Nat _ i D → Q .next { s with heap := h', toks := tk' }) :
    wpAny (model PySem.Challenge.rw_pg0203_01.row.prog w) (ktrTop dp un gd (Str.ofString "_law_order") (defParts 8).2 L a ccd (OCL c1 c2) outer) (execs (forBodyAt 1 (defParts 8).1) (envX (Str.ofString "_law_order") (defParts 8).2 L a ccd (OCL c1 c2))) Q (fun _ _ => False) s := by
  revert X; k_fill; intro X
  (k_with "binaryOp Div int int" => (k_here; k_dflt (refine' div_at ?zza ?zzx ?zzy ?zzn ?zzl ?_; (case zza => exact rfl); (case zzx => assumption); (case zzy => exact rfl); (case zzn => decide); (case zzl => omega); k_whole)))
  (k_with "call ref" => (k_dflt (refine' hsv_tells ?zzk1 ?zzk2 ?zzk3 ?zzk5 ?zzkK ?zzkN ?zzka ?zzkb ?zzkc ?zzke ?zzkf ?zzkd ?zzku ?_; (case zzk1 => k_asm); (case zzk2 => k_asm); (case zzk3 => k_asm); (case zzk5 => k_asm); (case zzkK => first | exact rfl | assumption); (case zzkN => k_asm); (case zzka => exact Fine.s0 (by assumption)); (case zzkb => exact Fine.fin (by assumption)); (case zzkc => exact rfl); (case zzke => exact Fine.i0 (by assumption)); (case zzkf => exact Fine.i1 (by assumption)); (case zzkd => ktr_room); (case zzku => ktr_units); k_whole); intro D9 t9 u9 v9 h9 tk9 F9 N9 l9; (try k_lt l9); (try dsimp only); (try k_fold)))
  (k_with "call ref" => (k_dflt (refine' rgb_tells ?zzk1 ?zzk2 ?zzk3 ?zzk5 ?zzkK ?zzkN ?zzka ?zzkb ?zzkc ?zzke ?zzkf ?zzkg ?zzkd ?zzku ?_; (case zzk1 => k_asm); (case zzk2 => k_asm); (case zzk3 => k_asm); (case zzk5 => k_asm); (case zzkK => first | exact rfl | assumption); (case zzkN => k_asm); (case zzka => exact rfl); (case zzkb => exact rfl); (case zzkc => exact Fine.ne (by assumption)); (case zzke => exact Fine.z1 (by assumption)); (case zzkf => exact Fine.z2 (by assumption)); (case zzkg => exact Fine.z3 (by assumption)); (case zzkd => ktr_room); (case zzku => ktr_units); k_whole); intro D9 z9 t9 u9 v9 h9 tk9 F9 N9 l9; (try k_lt l9); (try dsimp only); (try k_fold)))
  (k_with "loadName" => (k_here; (rename Fr _ _ _ _ => lF'); k_dflt (refine' wpAny_loadName_local ?zzk ?zzl lF'.ns ?zzv ?_; (case zzk => exact rfl); (case zzl => exact rfl); (case zzv => exact rfl); k_whole)))
  unfold forBodyAt; unfold defParts PySem.Challenge.pw_pg0203_01; dsimp only [nthDef, stmtsFrom]
  dsimp only [forBodyAt]
  have F1 := fr_head (x := Str.ofString "number") F hmN
  have hF := fine_of (fine_at hH8 hS4 hV4)
  clear F
  k_steps
  all_goals (refine' turn_fin hret ?qx ?ql ?qF ?qN ?qt; (case qN => k_asm); (case qF => k_asm); (case qt => omega); (case qx => exact hF.hue); (case ql => exact hF.light))
end Mine
end
section
theorem Mine.off_P5 : True := by
  w_top off
  (try walk1)
  k_with_none
  (k_with "lt" => (with_reducible first | assumption | ((fail_if_success (fail_if_success (refine' Mine.guardLt ?qg ?qh; (case qg => assumption)))); first | (refine' And.left ?qx; case qx => first | assumption | (refine' And.right ?qx; case qx => first | assumption | (refine' And.right ?qx; case qx => first | assumption | (refine' And.right ?qx; case qx => first | assumption | (refine' And.right ?qx; case qx => first | assumption | (refine' And.right ?qx; case qx => first | assumption | (refine' And.right ?qx; case qx => first | assumption | (refine' And.right ?qx; case qx => first | assumption | (refine' And.right ?qx; case qx => first | assumption | (refine' And.right ?qx; case qx => first | assumption | (refine' And.right ?qx; case qx => first | assumption | (refine' And.right ?qx; case qx => first | assumption | (refine' And.right ?qx; case qx => first | assumption | (refine' And.right ?qx; case qx => first | assumption | (refine' And.right ?qx; case qx => first | assumption | (refine' And.right ?qx; case qx => first | assumption | (refine' And.right ?qx; case qx => first | assumption | (refine' And.right ?qx; case qx => first | assumption | (refine' And.right ?qx; case qx => first | assumption | (refine' And.right ?qx; case qx => first | assumption | (refine' And.right ?qx; case qx => assumption))))))))))))))))))))) | (refine' And.right ?qx; case qx => first | assumption | (refine' And.right ?qx; case qx => first | assumption | (refine' And.right ?qx; case qx => first | assumption | (refine' And.right ?qx; case qx => first | assumption | (refine' And.right ?qx; case qx => first | assumption | (refine' And.right ?qx; case qx => first | assumption | (refine' And.right ?qx; case qx => first | assumption | (refine' And.right ?qx; case qx => first | assumption | (refine' And.right ?qx; case qx => first | assumption | (refine' And.right ?qx; case qx => first | assumption | (refine' And.right ?qx; case qx => first | assumption | (refine' And.right ?qx; case qx => first | assumption | (refine' And.right ?qx; case qx => first | assumption | (refine' And.right ?qx; case qx => first | assumption | (refine' And.right ?qx; case qx => first | assumption | (refine' And.right ?qx; case qx => first | assumption | (refine' And.right ?qx; case qx => first | assumption | (refine' And.right ?qx; case qx => first | assumption | (refine' And.right ?qx; case qx => first | assumption | (refine' And.right ?qx; case qx => first | assumption | (refine' And.right ?qx; case qx => assumption)))))))))))))))))))))) | (refine Nat.lt_trans ?_ (by assumption); k_extra "lt")))
  (k_with "omega" => (first | (with_reducible assumption) | (with_reducible exact Ne.symm (by assumption)) | (with_reducible refine Nat.ne_of_lt ?_; k_extra "lt") | (with_reducible refine Nat.ne_of_gt ?_; k_extra "lt") | ((with_reducible refine' Mine.room ?qx ?qy); (case qx => with_reducible assumption); (case qy => exact rfl)) | ((with_reducible refine' Mine.room2 ?qx ?qy); (case qx => with_reducible assumption); (case qy => exact rfl)) | ((with_reducible refine' Mine.room0 ?qx); (case qx => with_reducible assumption)) | (with_reducible refine Mine.isLt ?_; k_extra "lt")))
  trivial
open PySem PySem.W PyProof.Rows PySem.Calls PySem.Spec PySem.Flt
namespace Mine
noncomputable abbrev keyL (x0 x1 x2 x3 x4 : UInt64) : Int → UInt64 := fun j => [x0, x1, x2, x3, x4].getD j.toNat 0
theorem in5_nil : In5 [] := fun i => by simp
theorem in5_ins {key : Int → UInt64} {ns : List Int} {k : Int} (h : In5 ns) (h0 : 0 ≤ k) (h1 : k < 5) : In5 (insK key ns k) := by
  intro i
  unfold insK insAt
  have hm : ∀ x ∈ ns, 0 ≤ x ∧ x < 5 := fun x hx => by
    obtain ⟨j, hj, e⟩ := List.getElem_of_mem hx
    have := h j
    rw [List.getD_eq_getElem?_getD, List.getElem?_eq_getElem hj] at this
    simpa [e] using this
  rw [List.getD_eq_getElem?_getD]
  cases e : (List.take (bisK key ns (key k)).toNat ns ++ k :: List.drop (bisK key ns (key k)).toNat ns)[i]? with
  | none => simp
  | some x =>
    have hx := List.mem_of_getElem? e
    simp only [List.mem_append, List.mem_cons] at hx
    rcases hx with hx | rfl | hx
    · exact hm _ (List.mem_of_mem_take hx)
    · exact ⟨h0, h1⟩
    · exact hm _ (List.mem_of_mem_drop hx)
local macro_rules | `(tactic| k_all) => `(tactic| assumption)
local macro_rules | `(tactic| walk_at "call ref") => `(tactic| (k_here; (with_reducible show wpAny _ _ (call (Value.ref 23) _ _) _ _ _); (first
  | (k_dflt (refine' insK_tells (kn := _) ?k1 ?k2 ?k3 ?k5 ?kK ?kN ?kU ?ki ?kt ?kj ?ka ?kb (lam_key0 ?h1 ?h2 ?h3) ?kf ?ks ?kd ?ku ?_; (case k1 => k_asm); (case k2 => k_asm); (case k3 => k_asm); (case k5 => k_asm); (case kK => first | exact rfl | assumption); (case kN => k_asm); (case kU => k_updF); (case ki => l_ints); (case kt => assumption); (case kj => assumption); (case ka => assumption); (case kb => assumption); (case kf => k_mem); (case ks => lcg_sub); (case h1 => assumption); (case h2 => assumption); (case h3 => assumption); (case kd => ktr_room); (case ku => ktr_units); k_whole))
  | (k_dflt (refine' insK_tells (kn := _) ?k1 ?k2 ?k3 ?k5 ?kK ?kN ?kU ?ki ?kt ?kj ?ka ?kb (lam_key1 ?h1 ?h2 ?h3) ?kf ?ks ?kd ?ku ?_; (case k1 => k_asm); (case k2 => k_asm); (case k3 => k_asm); (case k5 => k_asm); (case kK => first | exact rfl | assumption); (case kN => k_asm); (case kU => k_updF); (case ki => l_ints); (case kt => assumption); (case kj => assumption); (case ka => assumption); (case kb => assumption); (case kf => k_mem); (case ks => lcg_sub); (case h1 => assumption); (case h2 => assumption); (case h3 => assumption); (case kd => ktr_room); (case ku => ktr_units); k_whole))); intro vs9 n9 h9 tk9 F9 N9 I9; (try dsimp only at N9); (try dsimp only); (try k_fold)))
noncomputable abbrev ord2News (i lB lA lT c2 c1 D4 D3 D2 D1 D0 : Addr) (oi oA oB oT oC tab : Obj) (nT : Nat) (x0 x1 x2 x3 x4 y0 y1 y2 y3 y4 z0 z1 z2 z3 z4 : UInt64) (u0 u1 u2 u3 u4 v0 v1 v2 v3 v4 w0 w1 w2 w3 w4 : Tok) (rest : List (Addr × Obj)) : List (Addr × Obj) :=
  (i, oi) :: (lB, oB) :: (lA, oA) :: (lT, listOf #[.ref D0, .ref D1, .ref D2, .ref D3, .ref D4] nT) :: (c2, oT) :: (c1, oC) ::
    (D4, tup3 x4 y4 z4 u4 v4 w4) :: (D3, tup3 x3 y3 z3 u3 v3 w3) :: (D2, tup3 x2 y2 z2 u2 v2 w2) :: (D1, tup3 x1 y1 z1 u1 v1 w1) :: (D0, tup3 x0 y0 z0 u0 v0 w0) :: (76, tab) :: rest
noncomputable abbrev lamQ : Str := Str.ofString "_law_order" ++ Str.ofString ".<locals>." ++ Str.ofString "<lambda>"
noncomputable abbrev lamTab (ca cb : Addr) : Obj := tabObj #[rawInt 152, rawInt 36, .ref ca, rawInt 153, rawInt 38, .ref cb]
theorem tab_eq {a b c d e f : Value} : (#[] ++ #[a, b, c] ++ #[d, e, f] : Array Value) = #[a, b, c, d, e, f] := rfl
/-- the order of the addresses in the second loop -/
structure Apart2 (c1 c2 lT D0 D1 D2 D3 D4 lA lB i : Addr) (rest : List (Addr × Obj)) : Prop where
  q1 : @LT.lt Nat _ 76 c1
  q2 : @LT.lt Nat _ c1 c2
  q3 : @LT.lt Nat _ c2 lT
  q4 : @LT.lt Nat _ lT D0
  q5 : @LT.lt Nat _ lT D1
  q6 : @LT.lt Nat _ lT D2
  q7 : @LT.lt Nat _ lT D3
  q8 : @LT.lt Nat _ lT D4
  q9 : @LT.lt Nat _ D0 lA
  q10 : @LT.lt Nat _ D1 lA
  q11 : @LT.lt Nat _ D2 lA
  q12 : @LT.lt Nat _ D3 lA
  q13 : @LT.lt Nat _ D4 lA
  q14 : @LT.lt Nat _ lA lB
  q15 : @LT.lt Nat _ lB i
  r1 : ∀ p ∈ rest, p.1 ≠ lA
  r2 : ∀ p ∈ rest, p.1 ≠ lB
  r3 : ∀ p ∈ rest, p.1 ≠ (76 : Nat)
set_option maxRecDepth 100000 in
set_option maxHeartbeats 1000000 in
theorem ord_turn0 {w : World} {mean : ExcName → Option Value} {mg mb : Str → Option Value} {dp un : Nat} {gd : Option (List Code)} {a : Addr} {outer : List Env} {A₀ : Around} {base h₀ : Heap} {L : Addr} {m : Str → Option Value} {s : Shared}
    {c1 c2 i lT lA lB D0 D1 D2 D3 D4 : Addr} {oi oT oC : Obj} {rest : List (Addr × Obj)} {vA vB : List Value} {nsA nsB : List Int} {nA nB nT : Nat} {k : Int} {tk0 : Tok} {x0 x1 x2 x3 x4 y0 y1 y2 y3 y4 z0 z1 z2 z3 z4 : UInt64} {u0 u1 u2 u3 u4 v0 v1 v2 v3 v4 w0 w1 w2 w3 w4 : Tok} {Q : Flow → Shared → Prop} (B : Below A₀ base outer h₀) (F : Fr h₀ L s.heap m) (X : (Mine.hd.heap_39 w.params).In h₀) (T : Top topProg LOOSE mean mg mb h₀)
    (hC : CodeHd h₀ 78 76) (hmA : m (Str.ofString "by_hue") = some (.ref lA)) (hmK : m (Str.ofString "k") = some (.int k tk0)) (hk0 : 0 ≤ k) (hk5 : k < 5)
    (N : News h₀ L s.heap (ord2News i lB lA lT c2 c1 D4 D3 D2 D1 D0 oi (listOf vA.toArray nA) (listOf vB.toArray nB) oT oC (tabObj #[]) nT x0 x1 x2 x3 x4 y0 y1 y2 y3 y4 z0 z1 z2 z3 z4 u0 u1 u2 u3 u4 v0 v1 v2 v3 v4 w0 w1 w2 w3 w4 rest))
    (hoT : oT.data = .cell (some (.ref lT))) (hoC : oC.data = .cell (some (.ref lB))) (IA : IntsAre vA nsA) (IB : IntsAre vB nsB) (hA5 : In5 nsA) (hB5 : In5 nsB) (hA2 : nsA.length < 2 ^ 20) (hB2 : nsB.length < 2 ^ 20)
    (hq : Apart2 c1 c2 lT D0 D1 D2 D3 D4 lA lB i rest)
    (hd : dp + 6 < recursionLimit) (hu : un + 48 < cLine)
    (hret : ∀ h' tk' vA' nA' vB' nB' ca oca cb ocb va vb ta tb, Fr h₀ L h' m → News h₀ L h' (ord2News i lB lA lT c2 c1 D4 D3 D2 D1 D0 oi (listOf vA'.toArray nA') (listOf vB'.toArray nB') oT oC (lamTab ca cb) nT x0 x1 x2 x3 x4 y0 y1 y2 y3 y4 z0 z1 z2 z3 z4 u0 u1 u2 u3 u4 v0 v1 v2 v3 v4 w0 w1 w2 w3 w4 ((ca, oca) :: (cb, ocb) :: rest)) →
      IntsAre vA' (insK (keyL x0 x1 x2 x3 x4) nsA k) → IntsAre vB' (insK (keyL y0 y1 y2 y3 y4) nsB k) → oca.data = .fields va → va[1]? = some (.str lamQ ta) → ocb.data = .fields vb → vb[1]? = some (.str lamQ tb) → @LT.lt Nat _ i ca → @LT.lt Nat _ i cb → Apart2 c1 c2 lT D0 D1 D2 D3 D4 lA lB i rest → Q .next { s with heap := h', toks := tk' }) :
    wpAny (model PySem.Challenge.rw_pg0203_01.row.prog w) (ktrTop dp un gd (Str.ofString "_law_order") (defParts 8).2 L a (.ref 78) (OCL c1 c2) outer) (execs (forBodyAt 4 (defParts 8).1) (envX (Str.ofString "_law_order") (defParts 8).2 L a (.ref 78) (OCL c1 c2))) Q (fun _ _ => False) s := by
  have ⟨q1, q2, q3, q4, q5, q6, q7, q8, q9, q10, q11, q12, q13, q14, q15, r1, r2, r3⟩ := hq
  revert X; k_fill; intro X
  (k_with "loadName" => (k_here; (rename Fr _ _ _ _ => lF'); k_dflt (refine' wpAny_loadName_local ?zzk ?zzl lF'.ns ?zzv ?_; (case zzk => exact rfl); (case zzl => exact rfl); (case zzv => exact rfl); k_whole)))
  unfold forBodyAt; unfold defParts PySem.Challenge.pw_pg0203_01; dsimp only [nthDef, stmtsFrom]
  dsimp only [forBodyAt]
  have F1 := fr_head (x := Str.ofString "by_hue") F hmA
  have F2 := fr_head (x := Str.ofString "k") F1 hmK
  clear F F1
  k_steps
  all_goals (refine' hret _ _ _ _ _ _ _ _ _ _ _ _ _ _ ?qF ?qN ?qA ?qB ?q1 ?q2 ?q3 ?q4 ?q5 ?q6 hq; (case qN => refine cb_drop (by k_asm) ?_; (repeat (refine List.forall_mem_cons.mpr ⟨by k_mem, ?_⟩)); exact fun p hp => by (repeat (first | exact hp | apply List.Mem.tail))); (case qF => exact (fr_unhead (x := Str.ofString "by_hue") (fr_unhead (x := Str.ofString "k") (by k_asm) hmK) hmA)); (case qA => k_asm); (case qB => k_asm); (case q1 => assumption); (case q2 => assumption); (case q3 => assumption); (case q4 => assumption); (case q5 => omega); (case q6 => omega))
set_option maxRecDepth 100000 in
set_option maxHeartbeats 1000000 in
theorem ord_turnK {ca cb : Addr} {oca ocb : Obj} {va vb : Array Value} {ta tb : Tok} {w : World} {mean : ExcName → Option Value} {mg mb : Str → Option Value} {dp un : Nat} {gd : Option (List Code)} {a : Addr} {outer : List Env} {A₀ : Around} {base h₀ : Heap} {L : Addr} {m : Str → Option Value} {s : Shared}
    {c1 c2 i lT lA lB D0 D1 D2 D3 D4 : Addr} {oi oT oC : Obj} {rest : List (Addr × Obj)} {vA vB : List Value} {nsA nsB : List Int} {nA nB nT : Nat} {k : Int} {tk0 : Tok} {x0 x1 x2 x3 x4 y0 y1 y2 y3 y4 z0 z1 z2 z3 z4 : UInt64} {u0 u1 u2 u3 u4 v0 v1 v2 v3 v4 w0 w1 w2 w3 w4 : Tok} {Q : Flow → Shared → Prop} (B : Below A₀ base outer h₀) (F : Fr h₀ L s.heap m) (X : (Mine.hd.heap_39 w.params).In h₀) (T : Top topProg LOOSE mean mg mb h₀)
    (hC : CodeHd h₀ 78 76) (hmA : m (Str.ofString "by_hue") = some (.ref lA)) (hmK : m (Str.ofString "k") = some (.int k tk0)) (hk0 : 0 ≤ k) (hk5 : k < 5)
    (N : News h₀ L s.heap (ord2News i lB lA lT c2 c1 D4 D3 D2 D1 D0 oi (listOf vA.toArray nA) (listOf vB.toArray nB) oT oC (lamTab ca cb) nT x0 x1 x2 x3 x4 y0 y1 y2 y3 y4 z0 z1 z2 z3 z4 u0 u1 u2 u3 u4 v0 v1 v2 v3 v4 w0 w1 w2 w3 w4 ((ca, oca) :: (cb, ocb) :: rest)))
    (hoT : oT.data = .cell (some (.ref lT))) (hoC : oC.data = .cell (some (.ref lB))) (IA : IntsAre vA nsA) (IB : IntsAre vB nsB) (hA5 : In5 nsA) (hB5 : In5 nsB) (hA2 : nsA.length < 2 ^ 20) (hB2 : nsB.length < 2 ^ 20)
    (hq : Apart2 c1 c2 lT D0 D1 D2 D3 D4 lA lB i rest)
    (hd : dp + 6 < recursionLimit) (hu : un + 48 < cLine)
    (g1 : oca.data = .fields va) (g2 : va[1]? = some (.str lamQ ta)) (g3 : ocb.data = .fields vb) (g4 : vb[1]? = some (.str lamQ tb)) (g5 : @LT.lt Nat _ i ca) (g6 : @LT.lt Nat _ i cb)
    (hret : ∀ h' tk' vA' nA' vB' nB', Fr h₀ L h' m → News h₀ L h' (ord2News i lB lA lT c2 c1 D4 D3 D2 D1 D0 oi (listOf vA'.toArray nA') (listOf vB'.toArray nB') oT oC (lamTab ca cb) nT x0 x1 x2 x3 x4 y0 y1 y2 y3 y4 z0 z1 z2 z3 z4 u0 u1 u2 u3 u4 v0 v1 v2 v3 v4 w0 w1 w2 w3 w4 ((ca, oca) :: (cb, ocb) :: rest)) →
      IntsAre vA' (insK (keyL x0 x1 x2 x3 x4) nsA k) → IntsAre vB' (insK (keyL y0 y1 y2 y3 y4) nsB k) → Q .next { s with heap := h', toks := tk' }) :
    wpAny (model PySem.Challenge.rw_pg0203_01.row.prog w) (ktrTop dp un gd (Str.ofString "_law_order") (defParts 8).2 L a (.ref 78) (OCL c1 c2) outer) (execs (forBodyAt 4 (defParts 8).1) (envX (Str.ofString "_law_order") (defParts 8).2 L a (.ref 78) (OCL c1 c2))) Q (fun _ _ => False) s := by
  have ⟨q1, q2, q3, q4, q5, q6, q7, q8, q9, q10, q11, q12, q13, q14, q15, r1, r2, r3⟩ := hq
  revert X; k_fill; intro X
  unfold forBodyAt; unfold defParts PySem.Challenge.pw_pg0203_01; dsimp only [nthDef, stmtsFrom]
  dsimp only [forBodyAt]
  have F1 := fr_head (x := Str.ofString "by_hue") F hmA
  have F2 := fr_head (x := Str.ofString "k") F1 hmK
  clear F F1
  k_steps
  all_goals (refine' hret _ _ _ _ _ _ ?qF ?qN ?qA ?qB; (case qN => refine cb_drop (by k_asm) ?_; (repeat (refine List.forall_mem_cons.mpr ⟨by k_mem, ?_⟩)); exact fun p hp => by (repeat (first | exact hp | apply List.Mem.tail))); (case qF => exact (fr_unhead (x := Str.ofString "by_hue") (fr_unhead (x := Str.ofString "k") (by k_asm) hmK) hmA)); (case qA => k_asm); (case qB => k_asm))
end Mine
end
section
theorem Mine.off_G0 : True := by
  w_top off
  (try walk1)
  k_with_none
  (k_with "lt" => (with_reducible first | assumption | ((fail_if_success (fail_if_success (refine' Mine.guardLt ?qg ?qh; (case qg => assumption)))); first | (refine' And.left ?qx; case qx => first | assumption | (refine' And.right ?qx; case qx => first | assumption | (refine' And.right ?qx; case qx => first | assumption | (refine' And.right ?qx; case qx => first | assumption | (refine' And.right ?qx; case qx => first | assumption | (refine' And.right ?qx; case qx => first | assumption | (refine' And.right ?qx; case qx => first | assumption | (refine' And.right ?qx; case qx => first | assumption | (refine' And.right ?qx; case qx => first | assumption | (refine' And.right ?qx; case qx => first | assumption | (refine' And.right ?qx; case qx => first | assumption | (refine' And.right ?qx; case qx => first | assumption | (refine' And.right ?qx; case qx => first | assumption | (refine' And.right ?qx; case qx => first | assumption | (refine' And.right ?qx; case qx => first | assumption | (refine' And.right ?qx; case qx => first | assumption | (refine' And.right ?qx; case qx => first | assumption | (refine' And.right ?qx; case qx => first | assumption | (refine' And.right ?qx; case qx => first | assumption | (refine' And.right ?qx; case qx => first | assumption | (refine' And.right ?qx; case qx => assumption))))))))))))))))))))) | (refine' And.right ?qx; case qx => first | assumption | (refine' And.right ?qx; case qx => first | assumption | (refine' And.right ?qx; case qx => first | assumption | (refine' And.right ?qx; case qx => first | assumption | (refine' And.right ?qx; case qx => first | assumption | (refine' And.right ?qx; case qx => first | assumption | (refine' And.right ?qx; case qx => first | assumption | (refine' And.right ?qx; case qx => first | assumption | (refine' And.right ?qx; case qx => first | assumption | (refine' And.right ?qx; case qx => first | assumption | (refine' And.right ?qx; case qx => first | assumption | (refine' And.right ?qx; case qx => first | assumption | (refine' And.right ?qx; case qx => first | assumption | (refine' And.right ?qx; case qx => first | assumption | (refine' And.right ?qx; case qx => first | assumption | (refine' And.right ?qx; case qx => first | assumption | (refine' And.right ?qx; case qx => first | assumption | (refine' And.right ?qx; case qx => first | assumption | (refine' And.right ?qx; case qx => first | assumption | (refine' And.right ?qx; case qx => first | assumption | (refine' And.right ?qx; case qx => assumption)))))))))))))))))))))) | (refine Nat.lt_trans ?_ (by assumption); k_extra "lt")))
  (k_with "omega" => (first | (with_reducible assumption) | (with_reducible exact Ne.symm (by assumption)) | (with_reducible refine Nat.ne_of_lt ?_; k_extra "lt") | (with_reducible refine Nat.ne_of_gt ?_; k_extra "lt") | ((with_reducible refine' Mine.room ?qx ?qy); (case qx => with_reducible assumption); (case qy => exact rfl)) | ((with_reducible refine' Mine.room2 ?qx ?qy); (case qx => with_reducible assumption); (case qy => exact rfl)) | ((with_reducible refine' Mine.room0 ?qx); (case qx => with_reducible assumption)) | (with_reducible refine Mine.isLt ?_; k_extra "lt")))
  trivial
open PySem PySem.W PyProof.Rows PySem.Calls PySem.Spec
namespace Mine
theorem kf_ints_of : ∀ {vs : List Value} {ns : List Int}, IntsAre vs ns → kf_ints vs = true
  | _, _, .nil => rfl
  | _, _, .cons _ _ r => by unfold kf_ints; exact kf_ints_of r
theorem kf_at_of {k : Int} : ∀ {vs : List Value} {ns : List Int}, IntsAre vs ns → k ∈ ns → kf_at k vs = some (ns.idxOf k)
  | _, _, .nil, h => by cases h
  | _, _, .cons a t r, h => by
    unfold kf_at
    rw [List.idxOf_cons]
    by_cases e : a = k
    · subst e
      simp [PyProof.Rows.isInt]
    · have hk := kf_at_of r ((List.mem_cons.mp h).resolve_left (fun q => e q.symm))
      have e2 : (a == k) = false := by simpa using e
      simp [PyProof.Rows.isInt, e2, hk]
section
variable {prog : Program} {w : World} {A : Around} {E : Value → Shared → Prop} {s : Shared} {h₀ : Heap} {L D : Addr} {news : List (Addr × Obj)} {n : Nat}
theorem index_ints {vs : List Value} {ns : List Int} {k : Int} {t : Tok} {Q : Value → Shared → Prop} (N : News h₀ L s.heap news) (hm : (D, listOf vs.toArray n) ∈ news) (hi : IntsAre vs ns) (hk : k ∈ ns) (hfit : ns.length < 2 ^ 20)
    (h : Q (.int ((ns.idxOf k : Nat) : Int) s.toks) { s with toks := s.toks + 1 }) : wpAny (model prog w) A (call (.builtin "list.index") [.ref D, .int k t]) Q E s := by
  have hl := hi.length
  exact kf_index N hm (by simpa using kf_ints_of hi) (by simpa using kf_at_of hi hk) rfl (by rw [sizeLine_eq]; simp; omega) h
end
theorem mem_of {l ns : List Int} {k : Int} (h : ∀ k ∈ l, k ∈ ns) (hk : k ∈ l) : k ∈ ns := h k hk
theorem five_ints {vs : List Value} {ns : List Int} (hi : IntsAre vs ns) (h : ns.length = 5) : ∃ a b c d e ta tb tc td te, ns = [a, b, c, d, e] ∧ vs = [.int a ta, .int b tb, .int c tc, .int d td, .int e te] := by
  cases hi with
  | nil => simp at h
  | cons a ta hi => cases hi with
    | nil => simp at h
    | cons b tb hi => cases hi with
      | nil => simp at h
      | cons c tc hi => cases hi with
        | nil => simp at h
        | cons d td hi => cases hi with
          | nil => simp at h
          | cons e te hi => cases hi with
            | nil => exact ⟨a, b, c, d, e, ta, tb, tc, td, te, rfl, rfl⟩
            | cons => simp at h
end Mine
end
section
theorem Mine.off_P8 : True := by
  w_top off
  (try walk1)
  k_with_none
  (k_with "lt" => (with_reducible first | assumption | ((fail_if_success (fail_if_success (refine' Mine.guardLt ?qg ?qh; (case qg => assumption)))); first | (refine' And.left ?qx; case qx => first | assumption | (refine' And.right ?qx; case qx => first | assumption | (refine' And.right ?qx; case qx => first | assumption | (refine' And.right ?qx; case qx => first | assumption | (refine' And.right ?qx; case qx => first | assumption | (refine' And.right ?qx; case qx => first | assumption | (refine' And.right ?qx; case qx => first | assumption | (refine' And.right ?qx; case qx => first | assumption | (refine' And.right ?qx; case qx => first | assumption | (refine' And.right ?qx; case qx => first | assumption | (refine' And.right ?qx; case qx => first | assumption | (refine' And.right ?qx; case qx => first | assumption | (refine' And.right ?qx; case qx => first | assumption | (refine' And.right ?qx; case qx => first | assumption | (refine' And.right ?qx; case qx => first | assumption | (refine' And.right ?qx; case qx => first | assumption | (refine' And.right ?qx; case qx => first | assumption | (refine' And.right ?qx; case qx => first | assumption | (refine' And.right ?qx; case qx => first | assumption | (refine' And.right ?qx; case qx => first | assumption | (refine' And.right ?qx; case qx => assumption))))))))))))))))))))) | (refine' And.right ?qx; case qx => first | assumption | (refine' And.right ?qx; case qx => first | assumption | (refine' And.right ?qx; case qx => first | assumption | (refine' And.right ?qx; case qx => first | assumption | (refine' And.right ?qx; case qx => first | assumption | (refine' And.right ?qx; case qx => first | assumption | (refine' And.right ?qx; case qx => first | assumption | (refine' And.right ?qx; case qx => first | assumption | (refine' And.right ?qx; case qx => first | assumption | (refine' And.right ?qx; case qx => first | assumption | (refine' And.right ?qx; case qx => first | assumption | (refine' And.right ?qx; case qx => first | assumption | (refine' And.right ?qx; case qx => first | assumption | (refine' And.right ?qx; case qx => first | assumption | (refine' And.right ?qx; case qx => first | assumption | (refine' And.right ?qx; case qx => first | assumption | (refine' And.right ?qx; case qx => first | assumption | (refine' And.right ?qx; case qx => first | assumption | (refine' And.right ?qx; case qx => first | assumption | (refine' And.right ?qx; case qx => first | assumption | (refine' And.right ?qx; case qx => assumption)))))))))))))))))))))) | (refine Nat.lt_trans ?_ (by assumption); k_extra "lt")))
  (k_with "omega" => (first | (with_reducible assumption) | (with_reducible exact Ne.symm (by assumption)) | (with_reducible refine Nat.ne_of_lt ?_; k_extra "lt") | (with_reducible refine Nat.ne_of_gt ?_; k_extra "lt") | ((with_reducible refine' Mine.room ?qx ?qy); (case qx => with_reducible assumption); (case qy => exact rfl)) | ((with_reducible refine' Mine.room2 ?qx ?qy); (case qx => with_reducible assumption); (case qy => exact rfl)) | ((with_reducible refine' Mine.room0 ?qx); (case qx => with_reducible assumption)) | (with_reducible refine Mine.isLt ?_; k_extra "lt")))
  trivial
open PySem PySem.W PyProof.Rows PySem.Calls PySem.Spec PySem.Flt
namespace Mine
set_option maxRecDepth 100000 in
set_option maxHeartbeats 1000000 in
theorem ord_ret {w : World} {mean : ExcName → Option Value} {mg mb : Str → Option Value} {dp un : Nat} {gd : Option (List Code)} {a : Addr} {outer : List Env} {A₀ : Around} {base h₀ : Heap} {L : Addr} {m : Str → Option Value} {s : Shared}
    {c1 c2 l lA lB x1 x2 x3 : Addr} {oC ol o1 o2 o3 tab : Obj} {vB : List Value} {nsB : List Int} {k0 k1 k2 k3 k4 : Int} {t0 t1 t2 t3 t4 : Tok} {nA nB : Nat} {Q : Flow → Shared → Prop} (B : Below A₀ base outer h₀) (F : Fr h₀ L s.heap m) (X : (Mine.hd.heap_39 w.params).In h₀) (T : Top topProg LOOSE mean mg mb h₀) (hmA : m (Str.ofString "by_hue") = some (.ref lA))
    (N : News h₀ L s.heap [(lB, listOf vB.toArray nB), (lA, listOf #[.int k0 t0, .int k1 t1, .int k2 t2, .int k3 t3, .int k4 t4] nA), (c1, oC), (l, ol), (x3, o3), (x2, o2), (x1, o1), (76, tab)])
    (hC : CodeHd h₀ 78 76) (hoC : oC.data = .cell (some (.ref lB))) (IB : IntsAre vB nsB) (hB2 : nsB.length < 2 ^ 20) (hall : ∀ k ∈ [k0, k1, k2, k3, k4], k ∈ nsB)
    (q1 : @LT.lt Nat _ 76 x1) (q2 : @LT.lt Nat _ x1 x2) (q3 : @LT.lt Nat _ x2 x3) (q4 : @LT.lt Nat _ x3 l) (q5 : @LT.lt Nat _ l c1) (q7 : @LT.lt Nat _ c1 lA) (q8 : @LT.lt Nat _ lA lB) (hd : dp + 6 < recursionLimit) (hu : un + 48 < cLine)
    (hret : ∀ l' vR n' h' tk' m', Fr h₀ L h' m' → News h₀ L h' [(l', listOf vR.toArray n'), (l, ol), (x3, o3), (x2, o2), (x1, o1), (76, tab)] → IntsAre vR ([k0, k1, k2, k3, k4].map fun k => ((nsB.idxOf k : Nat) : Int)) → (l ≠ l' ∧ x3 ≠ l' ∧ x2 ≠ l' ∧ x1 ≠ l' ∧ (76 : Nat) ≠ l') → Q (.ret (.ref l')) { s with heap := h', toks := tk' }) :
    wpAny (model PySem.Challenge.rw_pg0203_01.row.prog w) (ktrTop dp un gd (Str.ofString "_law_order") (defParts 8).2 L a (.ref 78) (OCL c1 c2) outer) (execs (stmtsFrom 5 (defParts 8).1) (envX (Str.ofString "_law_order") (defParts 8).2 L a (.ref 78) (OCL c1 c2))) Q (fun _ _ => False) s := by
  revert X; k_fill; intro X
  (k_with "call builtin:list.index" => (k_here; (with_reducible show wpAny _ _ (call (Value.builtin _) [Value.ref _, Value.int _ _]) _ _ _); k_dflt (refine' index_ints ?zzN ?zzm ?zzi ?zze ?zzz ?_; (case zzN => k_asm); (case zzm => k_mem); (case zzi => with_reducible assumption); (case zze => exact mem_of (by assumption) (by assumption)); (case zzz => assumption); k_whole)))
  unfold defParts PySem.Challenge.pw_pg0203_01; dsimp only [nthDef, stmtsFrom]
  have F1 := fr_head (x := Str.ofString "by_hue") F hmA
  clear F
  k_steps
  all_goals (rename_i o1; obtain ⟨a1, a2, a3, a4, a5, a6, a7, a8⟩ := o1; refine' hret _ _ _ _ _ _ ?qF ?qN ?qI ?qo; (case qN => exact cb_drop (by k_asm) (by lcg_sub)); (case qF => k_asm); (case qI => with_reducible assumption); (case qo => exact ⟨a4, a5, a6, a7, a8⟩))
end Mine
end
section
theorem Mine.off_P7 : True := by
  w_top off
  (try walk1)
  k_with_none
  (k_with "lt" => (with_reducible first | assumption | ((fail_if_success (fail_if_success (refine' Mine.guardLt ?qg ?qh; (case qg => assumption)))); first | (refine' And.left ?qx; case qx => first | assumption | (refine' And.right ?qx; case qx => first | assumption | (refine' And.right ?qx; case qx => first | assumption | (refine' And.right ?qx; case qx => first | assumption | (refine' And.right ?qx; case qx => first | assumption | (refine' And.right ?qx; case qx => first | assumption | (refine' And.right ?qx; case qx => first | assumption | (refine' And.right ?qx; case qx => first | assumption | (refine' And.right ?qx; case qx => first | assumption | (refine' And.right ?qx; case qx => first | assumption | (refine' And.right ?qx; case qx => first | assumption | (refine' And.right ?qx; case qx => first | assumption | (refine' And.right ?qx; case qx => first | assumption | (refine' And.right ?qx; case qx => first | assumption | (refine' And.right ?qx; case qx => first | assumption | (refine' And.right ?qx; case qx => first | assumption | (refine' And.right ?qx; case qx => first | assumption | (refine' And.right ?qx; case qx => first | assumption | (refine' And.right ?qx; case qx => first | assumption | (refine' And.right ?qx; case qx => first | assumption | (refine' And.right ?qx; case qx => assumption))))))))))))))))))))) | (refine' And.right ?qx; case qx => first | assumption | (refine' And.right ?qx; case qx => first | assumption | (refine' And.right ?qx; case qx => first | assumption | (refine' And.right ?qx; case qx => first | assumption | (refine' And.right ?qx; case qx => first | assumption | (refine' And.right ?qx; case qx => first | assumption | (refine' And.right ?qx; case qx => first | assumption | (refine' And.right ?qx; case qx => first | assumption | (refine' And.right ?qx; case qx => first | assumption | (refine' And.right ?qx; case qx => first | assumption | (refine' And.right ?qx; case qx => first | assumption | (refine' And.right ?qx; case qx => first | assumption | (refine' And.right ?qx; case qx => first | assumption | (refine' And.right ?qx; case qx => first | assumption | (refine' And.right ?qx; case qx => first | assumption | (refine' And.right ?qx; case qx => first | assumption | (refine' And.right ?qx; case qx => first | assumption | (refine' And.right ?qx; case qx => first | assumption | (refine' And.right ?qx; case qx => first | assumption | (refine' And.right ?qx; case qx => first | assumption | (refine' And.right ?qx; case qx => assumption)))))))))))))))))))))) | (refine Nat.lt_trans ?_ (by assumption); k_extra "lt")))
  (k_with "omega" => (first | (with_reducible assumption) | (with_reducible exact Ne.symm (by assumption)) | (with_reducible refine Nat.ne_of_lt ?_; k_extra "lt") | (with_reducible refine Nat.ne_of_gt ?_; k_extra "lt") | ((with_reducible refine' Mine.room ?qx ?qy); (case qx => with_reducible assumption); (case qy => exact rfl)) | ((with_reducible refine' Mine.room2 ?qx ?qy); (case qx => with_reducible assumption); (case qy => exact rfl)) | ((with_reducible refine' Mine.room0 ?qx); (case qx => with_reducible assumption)) | (with_reducible refine Mine.isLt ?_; k_extra "lt")))
  trivial
open PySem PySem.W PyProof.Rows PySem.Calls PySem.Spec PySem.Flt
namespace Mine
/-- the five indices in the order of their keys -/
noncomputable def ordK (key : Int → UInt64) : List Int := insK key (insK key (insK key (insK key (insK key [] 0) 1) 2) 3) 4
noncomputable def ranksK (ka kb : Int → UInt64) : List Int := (ordK ka).map fun k => (((ordK kb).idxOf k : Nat) : Int)
theorem mem_insK {key : Int → UInt64} {ns : List Int} {k x : Int} : x ∈ insK key ns k ↔ x = k ∨ x ∈ ns := by
  unfold insK insAt
  rw [List.mem_append, List.mem_cons]
  constructor
  · rintro (h | h | h)
    · exact .inr (List.mem_of_mem_take h)
    · exact .inl h
    · exact .inr (List.mem_of_mem_drop h)
  · rintro (h | h)
    · exact .inr (.inl h)
    · rw [← List.take_append_drop (bisK key ns (key k)).toNat ns, List.mem_append] at h
      rcases h with h | h
      · exact .inl h
      · exact .inr (.inr h)
theorem mem_ordK {ka kb : Int → UInt64} {x : Int} (h : x ∈ ordK ka) : x ∈ ordK kb := by
  unfold ordK at *
  simp only [mem_insK] at *
  exact h
theorem ordK_length {key : Int → UInt64} : (ordK key).length = 5 := by
  unfold ordK; simp only [insK_length, List.length_nil]
set_option maxRecDepth 100000 in
set_option maxHeartbeats 2000000 in
theorem ord_tail {w : World} {mean : ExcName → Option Value} {mg mb : Str → Option Value} {dp un : Nat} {gd : Option (List Code)} {a : Addr} {outer : List Env} {A₀ : Around} {base h₀ : Heap} {L : Addr} {m : Str → Option Value} {s : Shared}
    {c1 c2 l lT x1 x2 x3 D0 D1 D2 D3 D4 : Addr} {oT oC ol o1 o2 o3 : Obj} {cC : Option Value} {nT : Nat} {x0 x1' x2' x3' x4 y0 y1 y2 y3 y4 z0 z1 z2 z3 z4 : UInt64} {u0 u1 u2 u3 u4 v0 v1 v2 v3 v4 w0 w1 w2 w3 w4 : Tok} {Q : Flow → Shared → Prop} (B : Below A₀ base outer h₀) (F : Fr h₀ L s.heap m) (X : (Mine.hd.heap_39 w.params).In h₀) (T : Top topProg LOOSE mean mg mb h₀)
    (N : News h₀ L s.heap [(lT, listOf #[.ref D0, .ref D1, .ref D2, .ref D3, .ref D4] nT), (c2, oT), (D4, tup3 x4 y4 z4 u4 v4 w4), (D3, tup3 x3' y3 z3 u3 v3 w3), (D2, tup3 x2' y2 z2 u2 v2 w2), (D1, tup3 x1' y1 z1 u1 v1 w1), (D0, tup3 x0 y0 z0 u0 v0 w0), (c1, oC), (l, ol), (x3, o3), (x2, o2), (x1, o1), (76, tabObj #[])])
    (hC : CodeHd h₀ 78 76) (hoT : oT.data = .cell (some (.ref lT))) (hoC : oC.data = .cell cC)
    (q1 : @LT.lt Nat _ 76 x1) (q2 : @LT.lt Nat _ x1 x2) (q3 : @LT.lt Nat _ x2 x3) (q4 : @LT.lt Nat _ x3 l) (q5 : @LT.lt Nat _ l c1) (q6 : @LT.lt Nat _ c1 c2) (q7 : @LT.lt Nat _ c2 lT)
    (g0 : @LT.lt Nat _ lT D0) (g1 : @LT.lt Nat _ lT D1) (g2 : @LT.lt Nat _ lT D2) (g3 : @LT.lt Nat _ lT D3) (g4 : @LT.lt Nat _ lT D4) (hd : dp + 6 < recursionLimit) (hu : un + 48 < cLine)
    (hret : ∀ (ps : Array Value) l' vR n' h' tk' m', Fr h₀ L h' m' → News h₀ L h' [(l', listOf vR.toArray n'), (l, ol), (x3, o3), (x2, o2), (x1, o1), (76, tabObj ps)] → IntsAre vR (ranksK (keyL x0 x1' x2' x3' x4) (keyL y0 y1 y2 y3 y4)) → (l ≠ l' ∧ x3 ≠ l' ∧ x2 ≠ l' ∧ x1 ≠ l' ∧ (76 : Nat) ≠ l') → Q (.ret (.ref l')) { s with heap := h', toks := tk' }) :
    wpAny (model PySem.Challenge.rw_pg0203_01.row.prog w) (ktrTop dp un gd (Str.ofString "_law_order") (defParts 8).2 L a (.ref 78) (OCL c1 c2) outer) (execs (stmtsFrom 2 (defParts 8).1) (envX (Str.ofString "_law_order") (defParts 8).2 L a (.ref 78) (OCL c1 c2))) Q (fun _ _ => False) s := by
  revert X; k_fill; intro X
  unfold defParts PySem.Challenge.pw_pg0203_01; dsimp only [nthDef, stmtsFrom]
  iterate 25 (try (focus (first | (k_unfold; (try dsimp only)) | (k_end; wrow_close) | walk1 | (dsimp only; walk1) | (leave1; walk_say "STEP leave1"; try dsimp only) | fail "no step")))
  (k_dflt (refine' wpAny_mono (ord_turn0 (rest := [(l, ol), (x3, o3), (x2, o2), (x1, o1)]) ?qB ?qF ?qX ?qT hC ?qmA ?qmK ?qk0 ?qk5 ?qN hoT ?qoC ?qIA ?qIB ?qA5 ?qB5 ?qA2 ?qB2 ?hq ?qd ?qu ?_) (fun _ _ x => x) (fun _ _ x => x.elim)); (case qB => k_asm); (case qF => k_asm); (case qX => k_asm); (case qT => k_asm); (case qmA => exact rfl); (case qmK => exact rfl); (case qk0 => decide); (case qk5 => decide); (case qN => refine cb_drop (by k_asm) ?_; (repeat (refine List.forall_mem_cons.mpr ⟨by k_mem, ?_⟩)); exact List.forall_mem_nil _); (case qoC => assumption); (case qIA => first | with_reducible assumption | exact .nil); (case qIB => first | with_reducible assumption | exact .nil); (case qA5 => with_reducible (repeat (first | exact in5_nil | refine in5_ins ?_ (by decide) (by decide)))); (case qB5 => with_reducible (repeat (first | exact in5_nil | refine in5_ins ?_ (by decide) (by decide)))); (case qA2 => simp only [insK_length, List.length_nil]; decide); (case qB2 => simp only [insK_length, List.length_nil]; decide); (case hq => exact ⟨by omega, by omega, by omega, by omega, by omega, by omega, by omega, by omega, by omega, by omega, by omega, by omega, by omega, by omega, by omega, by k_all, by k_all, by k_all⟩); (case qd => ktr_room); (case qu => ktr_units); k_whole)
  intro h9 tk9 vA9 nA9 vB9 nB9 ca9 oca9 cb9 ocb9 va9 vb9 ta9 tb9 F9 N9 IA9 IB9 e1 e2 e3 e4 e5 e6 e7
  dsimp only [ord2News, lamTab] at N9
  (try dsimp only)
  iterate 3 (try (focus (first | (k_unfold; (try dsimp only)) | (k_end; wrow_close) | walk1 | (dsimp only; walk1) | (leave1; walk_say "STEP leave1"; try dsimp only) | fail "no step")))
  (k_dflt (refine' wpAny_mono (ord_turnK (rest := [(l, ol), (x3, o3), (x2, o2), (x1, o1)]) ?qB ?qF ?qX ?qT hC ?qmA ?qmK ?qk0 ?qk5 ?qN hoT ?qoC ?qIA ?qIB ?qA5 ?qB5 ?qA2 ?qB2 e7 ?qd ?qu e1 e2 e3 e4 ?e5 ?e6 ?_) (fun _ _ x => x) (fun _ _ x => x.elim)); (case qB => k_asm); (case qF => k_asm); (case qX => k_asm); (case qT => k_asm); (case qmA => exact rfl); (case qmK => exact rfl); (case qk0 => decide); (case qk5 => decide); (case qN => refine cb_drop (by k_asm) ?_; (repeat (refine List.forall_mem_cons.mpr ⟨by k_mem, ?_⟩)); exact List.forall_mem_nil _); (case qoC => assumption); (case qIA => first | with_reducible assumption | exact .nil); (case qIB => first | with_reducible assumption | exact .nil); (case qA5 => with_reducible (repeat (first | exact in5_nil | refine in5_ins ?_ (by decide) (by decide)))); (case qB5 => with_reducible (repeat (first | exact in5_nil | refine in5_ins ?_ (by decide) (by decide)))); (case qA2 => simp only [insK_length, List.length_nil]; decide); (case qB2 => simp only [insK_length, List.length_nil]; decide); (case qd => ktr_room); (case qu => ktr_units); (case e5 => exact e5); (case e6 => exact e6); k_whole)
  intro h9 tk9 vA9 nA9 vB9 nB9 F9 N9 IA9 IB9
  dsimp only [ord2News, lamTab] at N9
  (try dsimp only)
  iterate 3 (try (focus (first | (k_unfold; (try dsimp only)) | (k_end; wrow_close) | walk1 | (dsimp only; walk1) | (leave1; walk_say "STEP leave1"; try dsimp only) | fail "no step")))
  (k_dflt (refine' wpAny_mono (ord_turnK (rest := [(l, ol), (x3, o3), (x2, o2), (x1, o1)]) ?qB ?qF ?qX ?qT hC ?qmA ?qmK ?qk0 ?qk5 ?qN hoT ?qoC ?qIA ?qIB ?qA5 ?qB5 ?qA2 ?qB2 e7 ?qd ?qu e1 e2 e3 e4 ?e5 ?e6 ?_) (fun _ _ x => x) (fun _ _ x => x.elim)); (case qB => k_asm); (case qF => k_asm); (case qX => k_asm); (case qT => k_asm); (case qmA => exact rfl); (case qmK => exact rfl); (case qk0 => decide); (case qk5 => decide); (case qN => refine cb_drop (by k_asm) ?_; (repeat (refine List.forall_mem_cons.mpr ⟨by k_mem, ?_⟩)); exact List.forall_mem_nil _); (case qoC => assumption); (case qIA => first | with_reducible assumption | exact .nil); (case qIB => first | with_reducible assumption | exact .nil); (case qA5 => with_reducible (repeat (first | exact in5_nil | refine in5_ins ?_ (by decide) (by decide)))); (case qB5 => with_reducible (repeat (first | exact in5_nil | refine in5_ins ?_ (by decide) (by decide)))); (case qA2 => simp only [insK_length, List.length_nil]; decide); (case qB2 => simp only [insK_length, List.length_nil]; decide); (case qd => ktr_room); (case qu => ktr_units); (case e5 => exact e5); (case e6 => exact e6); k_whole)
  intro h9 tk9 vA9 nA9 vB9 nB9 F9 N9 IA9 IB9
  dsimp only [ord2News, lamTab] at N9
  (try dsimp only)
  iterate 3 (try (focus (first | (k_unfold; (try dsimp only)) | (k_end; wrow_close) | walk1 | (dsimp only; walk1) | (leave1; walk_say "STEP leave1"; try dsimp only) | fail "no step")))
  (k_dflt (refine' wpAny_mono (ord_turnK (rest := [(l, ol), (x3, o3), (x2, o2), (x1, o1)]) ?qB ?qF ?qX ?qT hC ?qmA ?qmK ?qk0 ?qk5 ?qN hoT ?qoC ?qIA ?qIB ?qA5 ?qB5 ?qA2 ?qB2 e7 ?qd ?qu e1 e2 e3 e4 ?e5 ?e6 ?_) (fun _ _ x => x) (fun _ _ x => x.elim)); (case qB => k_asm); (case qF => k_asm); (case qX => k_asm); (case qT => k_asm); (case qmA => exact rfl); (case qmK => exact rfl); (case qk0 => decide); (case qk5 => decide); (case qN => refine cb_drop (by k_asm) ?_; (repeat (refine List.forall_mem_cons.mpr ⟨by k_mem, ?_⟩)); exact List.forall_mem_nil _); (case qoC => assumption); (case qIA => first | with_reducible assumption | exact .nil); (case qIB => first | with_reducible assumption | exact .nil); (case qA5 => with_reducible (repeat (first | exact in5_nil | refine in5_ins ?_ (by decide) (by decide)))); (case qB5 => with_reducible (repeat (first | exact in5_nil | refine in5_ins ?_ (by decide) (by decide)))); (case qA2 => simp only [insK_length, List.length_nil]; decide); (case qB2 => simp only [insK_length, List.length_nil]; decide); (case qd => ktr_room); (case qu => ktr_units); (case e5 => exact e5); (case e6 => exact e6); k_whole)
  intro h9 tk9 vA9 nA9 vB9 nB9 F9 N9 IA9 IB9
  dsimp only [ord2News, lamTab] at N9
  (try dsimp only)
  iterate 3 (try (focus (first | (k_unfold; (try dsimp only)) | (k_end; wrow_close) | walk1 | (dsimp only; walk1) | (leave1; walk_say "STEP leave1"; try dsimp only) | fail "no step")))
  (k_dflt (refine' wpAny_mono (ord_turnK (rest := [(l, ol), (x3, o3), (x2, o2), (x1, o1)]) ?qB ?qF ?qX ?qT hC ?qmA ?qmK ?qk0 ?qk5 ?qN hoT ?qoC ?qIA ?qIB ?qA5 ?qB5 ?qA2 ?qB2 e7 ?qd ?qu e1 e2 e3 e4 ?e5 ?e6 ?_) (fun _ _ x => x) (fun _ _ x => x.elim)); (case qB => k_asm); (case qF => k_asm); (case qX => k_asm); (case qT => k_asm); (case qmA => exact rfl); (case qmK => exact rfl); (case qk0 => decide); (case qk5 => decide); (case qN => refine cb_drop (by k_asm) ?_; (repeat (refine List.forall_mem_cons.mpr ⟨by k_mem, ?_⟩)); exact List.forall_mem_nil _); (case qoC => assumption); (case qIA => first | with_reducible assumption | exact .nil); (case qIB => first | with_reducible assumption | exact .nil); (case qA5 => with_reducible (repeat (first | exact in5_nil | refine in5_ins ?_ (by decide) (by decide)))); (case qB5 => with_reducible (repeat (first | exact in5_nil | refine in5_ins ?_ (by decide) (by decide)))); (case qA2 => simp only [insK_length, List.length_nil]; decide); (case qB2 => simp only [insK_length, List.length_nil]; decide); (case qd => ktr_room); (case qu => ktr_units); (case e5 => exact e5); (case e6 => exact e6); k_whole)
  intro h9 tk9 vA9 nA9 vB9 nB9 F9 N9 IA9 IB9
  dsimp only [ord2News, lamTab] at N9
  (try dsimp only)
  iterate 3 (try (focus (first | (k_unfold; (try dsimp only)) | (k_end; wrow_close) | walk1 | (dsimp only; walk1) | (leave1; walk_say "STEP leave1"; try dsimp only) | fail "no step")))
  have IA : IntsAre vA9 (ordK (keyL x0 x1' x2' x3' x4)) := IA9
  have IB : IntsAre vB9 (ordK (keyL y0 y1 y2 y3 y4)) := IB9
  clear IA9 IB9
  obtain ⟨k0, k1, k2, k3, k4, s0, s1, s2, s3, s4, ek, ev⟩ := five_ints IA ordK_length
  have hall : ∀ k ∈ [k0, k1, k2, k3, k4], k ∈ ordK (keyL y0 y1 y2 y3 y4) := fun k hk => mem_ordK (ek ▸ hk : k ∈ ordK (keyL x0 x1' x2' x3' x4))
  subst ev
  (k_dflt (refine' wpAny_mono (ord_ret (l := l) (x1 := x1) (x2 := x2) (x3 := x3) (ol := ol) (o1 := o1) (o2 := o2) (o3 := o3) ?qB ?qF ?qX ?qT ?qmA ?qN hC ?qoC IB ?qB2 hall ?q1 ?q2 ?q3 ?q4 ?q5 ?q7 ?q8 ?qd ?qu ?_) (fun _ _ x => x) (fun _ _ x => x.elim)); (case qB => k_asm); (case qF => k_asm); (case qX => k_asm); (case qT => k_asm); (case qmA => exact rfl); (case qN => exact cb_drop (by k_asm) (by lcg_sub)); (case qoC => assumption); (case qB2 => rw [ordK_length]; decide); (case q1 => omega); (case q2 => omega); (case q3 => omega); (case q4 => omega); (case q5 => omega); (case q7 => omega); (case q8 => omega); (case qd => ktr_room); (case qu => ktr_units); k_whole)
  intro l9 vR9 n9 h9 tk9 m9 F9 N9 I9 o9
  rw [← ek] at I9
  (try dsimp only)
  k_steps
  all_goals exact hret _ _ _ _ _ _ _ F9 N9 I9 o9
end Mine
end
section
theorem Mine.off_P6 : True := by
  w_top off
  (try walk1)
  k_with_none
  (k_with "lt" => (with_reducible first | assumption | ((fail_if_success (fail_if_success (refine' Mine.guardLt ?qg ?qh; (case qg => assumption)))); first | (refine' And.left ?qx; case qx => first | assumption | (refine' And.right ?qx; case qx => first | assumption | (refine' And.right ?qx; case qx => first | assumption | (refine' And.right ?qx; case qx => first | assumption | (refine' And.right ?qx; case qx => first | assumption | (refine' And.right ?qx; case qx => first | assumption | (refine' And.right ?qx; case qx => first | assumption | (refine' And.right ?qx; case qx => first | assumption | (refine' And.right ?qx; case qx => first | assumption | (refine' And.right ?qx; case qx => first | assumption | (refine' And.right ?qx; case qx => first | assumption | (refine' And.right ?qx; case qx => first | assumption | (refine' And.right ?qx; case qx => first | assumption | (refine' And.right ?qx; case qx => first | assumption | (refine' And.right ?qx; case qx => first | assumption | (refine' And.right ?qx; case qx => first | assumption | (refine' And.right ?qx; case qx => first | assumption | (refine' And.right ?qx; case qx => first | assumption | (refine' And.right ?qx; case qx => first | assumption | (refine' And.right ?qx; case qx => first | assumption | (refine' And.right ?qx; case qx => assumption))))))))))))))))))))) | (refine' And.right ?qx; case qx => first | assumption | (refine' And.right ?qx; case qx => first | assumption | (refine' And.right ?qx; case qx => first | assumption | (refine' And.right ?qx; case qx => first | assumption | (refine' And.right ?qx; case qx => first | assumption | (refine' And.right ?qx; case qx => first | assumption | (refine' And.right ?qx; case qx => first | assumption | (refine' And.right ?qx; case qx => first | assumption | (refine' And.right ?qx; case qx => first | assumption | (refine' And.right ?qx; case qx => first | assumption | (refine' And.right ?qx; case qx => first | assumption | (refine' And.right ?qx; case qx => first | assumption | (refine' And.right ?qx; case qx => first | assumption | (refine' And.right ?qx; case qx => first | assumption | (refine' And.right ?qx; case qx => first | assumption | (refine' And.right ?qx; case qx => first | assumption | (refine' And.right ?qx; case qx => first | assumption | (refine' And.right ?qx; case qx => first | assumption | (refine' And.right ?qx; case qx => first | assumption | (refine' And.right ?qx; case qx => first | assumption | (refine' And.right ?qx; case qx => assumption)))))))))))))))))))))) | (refine Nat.lt_trans ?_ (by assumption); k_extra "lt")))
  (k_with "omega" => (first | (with_reducible assumption) | (with_reducible exact Ne.symm (by assumption)) | (with_reducible refine Nat.ne_of_lt ?_; k_extra "lt") | (with_reducible refine Nat.ne_of_gt ?_; k_extra "lt") | ((with_reducible refine' Mine.room ?qx ?qy); (case qx => with_reducible assumption); (case qy => exact rfl)) | ((with_reducible refine' Mine.room2 ?qx ?qy); (case qx => with_reducible assumption); (case qy => exact rfl)) | ((with_reducible refine' Mine.room0 ?qx); (case qx => with_reducible assumption)) | (with_reducible refine Mine.isLt ?_; k_extra "lt")))
  trivial
open PySem PySem.W PyProof.Rows PySem.Calls PySem.Spec PySem.Flt
namespace Mine
/-- the drawn hue, saturation and value -/
noncomputable def hN (n : Int) : Nat := (n.fmod 8).toNat
noncomputable def sN (n : Int) : Nat := ((n.fdiv 8).fmod 4).toNat
noncomputable def vN (n : Int) : Nat := ((n.fdiv 32).fmod 4).toNat
/-- the keys: hue and lightness of the five colours -/
noncomputable abbrev keyH (n0 n1 n2 n3 n4 : Int) : Int → UInt64 := keyL (hueN (hN n0)) (hueN (hN n1)) (hueN (hN n2)) (hueN (hN n3)) (hueN (hN n4))
noncomputable abbrev keyV (n0 n1 n2 n3 n4 : Int) : Int → UInt64 := keyL (lightN (sN n0) (vN n0)) (lightN (sN n1) (vN n1)) (lightN (sN n2) (vN n2)) (lightN (sN n3) (vN n3)) (lightN (sN n4) (vN n4))
theorem fm8 (n : Int) : 0 ≤ n.fmod 8 ∧ n.fmod 8 < 8 := by rw [Int.fmod_eq_emod_of_nonneg _ (by decide)]; lia
theorem fm4 (n : Int) : 0 ≤ n.fmod 4 ∧ n.fmod 4 < 4 := by rw [Int.fmod_eq_emod_of_nonneg _ (by decide)]; lia
theorem hN_eq (n : Int) : n.fmod 8 = ((hN n : Nat) : Int) := by have := fm8 n; unfold hN; lia
theorem sN_eq (n : Int) : 1 + (n.fdiv 8).fmod 4 = (((1 + sN n) : Nat) : Int) := by have := fm4 (n.fdiv 8); unfold sN; lia
theorem vN_eq (n : Int) : 1 + (n.fdiv 32).fmod 4 = (((1 + vN n) : Nat) : Int) := by have := fm4 (n.fdiv 32); unfold vN; lia
theorem hN_lt (n : Int) : hN n < 8 := by have := fm8 n; unfold hN; lia
theorem sN_lt (n : Int) : sN n < 4 := by have := fm4 (n.fdiv 8); unfold sN; lia
theorem vN_lt (n : Int) : vN n < 4 := by have := fm4 (n.fdiv 32); unfold vN; lia
set_option maxRecDepth 100000 in
set_option maxHeartbeats 1000000 in
theorem ord_body {w : World} {mean : ExcName → Option Value} {mg mb : Str → Option Value} {dp un : Nat} {gd : Option (List Code)} {a : Addr} {outer : List Env} {A₀ : Around} {base h₀ : Heap} {L : Addr} {m : Str → Option Value} {s : Shared}
    {c1 c2 l x1 x2 x3 : Addr} {oT oC o1 o2 o3 : Obj} {cT cC : Option Value} {n0 n1 n2 n3 n4 : Int} {u0 u1 u2 u3 u4 : Tok} {n : Nat} {Q : Flow → Shared → Prop} (B : Below A₀ base outer h₀) (F : Fr h₀ L s.heap m) (X : (Mine.hd.heap_39 w.params).In h₀) (T : Top topProg LOOSE mean mg mb h₀) (hm : m (Str.ofString "numbers") = some (.ref l))
    (N : News h₀ L s.heap [(c2, oT), (c1, oC), (l, listOf #[.int n0 u0, .int n1 u1, .int n2 u2, .int n3 u3, .int n4 u4] n), (x3, o3), (x2, o2), (x1, o1), (76, tabObj #[])]) (hC : CodeHd h₀ 78 76) (hoT : oT.data = .cell cT) (hoC : oC.data = .cell cC)
    (q1 : @LT.lt Nat _ 76 x1) (q2 : @LT.lt Nat _ x1 x2) (q3 : @LT.lt Nat _ x2 x3) (q4 : @LT.lt Nat _ x3 l) (q5 : @LT.lt Nat _ l c1) (q6 : @LT.lt Nat _ c1 c2) (hd : dp + 6 < recursionLimit) (hu : un + 48 < cLine)
    (hret : ∀ (ps : Array Value) l' vR n' h' tk' m', Fr h₀ L h' m' → News h₀ L h' [(l', listOf vR.toArray n'), (l, listOf #[.int n0 u0, .int n1 u1, .int n2 u2, .int n3 u3, .int n4 u4] n), (x3, o3), (x2, o2), (x1, o1), (76, tabObj ps)] → IntsAre vR (ranksK (keyH n0 n1 n2 n3 n4) (keyV n0 n1 n2 n3 n4)) → (l ≠ l' ∧ x3 ≠ l' ∧ x2 ≠ l' ∧ x1 ≠ l' ∧ (76 : Nat) ≠ l') → Q (.ret (.ref l')) { s with heap := h', toks := tk' }) :
    wpAny (model PySem.Challenge.rw_pg0203_01.row.prog w) (ktrTop dp un gd (Str.ofString "_law_order") (defParts 8).2 L a (.ref 78) (OCL c1 c2) outer) (execs (stmtsFrom 0 (defParts 8).1) (envX (Str.ofString "_law_order") (defParts 8).2 L a (.ref 78) (OCL c1 c2))) Q (fun _ _ => False) s := by
  revert X; k_fill; intro X
  (k_with "exec For Name Name cons nil" => (k_here; (rename Fr _ _ _ _ => lF'); (with_unfolding_all refine' For_invVF lF' ?zzk1 ?zzk2 ?_; (case zzk1 => exact rfl); (case zzk2 => exact rfl); k_whole)))
  (k_with "pyIter ref" => ((with_reducible show wpAny _ _ (pyIter (Value.ref _)) (fun it s₂ => LoopAtV _ _ _ _ _ _ _ _ _ it s₂) _ _); k_listUnr))
  (k_with "execs cons Assign cons" => (k_here; (with_reducible show wpAny _ _ (execs [Stmt.Assign _ _ _, Stmt.Expr _ _] _) _ _ _); k_dflt (refine' wpAny_mono (ord_turn ?zzqB ?zzqF ?zzqX ?zzqT ?zzqn ?zzqh ?zzqs ?zzqv ?zzqi ?zzqj ?zzqk ?zzqN ?zzqo ?zzq1 ?zzq2 ?zzq3 ?zzq4 ?zzqd ?zzqu ?_) (fun _ _ x => x) (fun _ _ x => x.elim); (case zzqB => k_asm); (case zzqF => k_asm); (case zzqX => k_asm); (case zzqT => k_asm); (case zzqn => first | exact rfl | assumption); (case zzqh => exact hN_eq _); (case zzqs => exact sN_eq _); (case zzqv => exact vN_eq _); (case zzqi => exact hN_lt _); (case zzqj => exact sN_lt _); (case zzqk => exact vN_lt _); (case zzqN => k_asm); (case zzqo => assumption); (case zzq1 => omega); (case zzq2 => omega); (case zzq3 => k_all); (case zzq4 => exact Nat.le_of_ble_eq_true rfl); (case zzqd => ktr_room); (case zzqu => ktr_units); k_whole); intro m9 h9 tk9 D9 t9 u9 v9 z9 n9 F9 N9 l9; (try simp only [List.nil_append, List.cons_append] at N9); (try dsimp only)))
  unfold defParts PySem.Challenge.pw_pg0203_01; dsimp only [nthDef, stmtsFrom]
  have F1 := fr_head (x := Str.ofString "numbers") F hm
  clear F
  iterate 32 (try (focus (first | (k_unfold; (try dsimp only)) | (k_end; wrow_close) | walk1 | (dsimp only; walk1) | (leave1; walk_say "STEP leave1"; try dsimp only) | fail "no step")))
  (k_dflt (refine' wpAny_mono (ord_tail (l := l) (x1 := x1) (x2 := x2) (x3 := x3) (o1 := o1) (o2 := o2) (o3 := o3) ?qB ?qF ?qX ?qT ?qN hC ?qoT ?qoC ?q1 ?q2 ?q3 ?q4 ?q5 ?q6 ?q7 ?g0 ?g1 ?g2 ?g3 ?g4 ?qd ?qu ?_) (fun _ _ x => x) (fun _ _ x => x.elim)); (case qB => k_asm); (case qF => k_asm); (case qX => k_asm); (case qT => k_asm); (case qN => exact cb_drop (by k_asm) (by lcg_sub)); (case qoT => assumption); (case qoC => assumption); (case q1 => omega); (case q2 => omega); (case q3 => omega); (case q4 => omega); (case q5 => omega); (case q6 => omega); (case q7 => omega); (case g0 => omega); (case g1 => omega); (case g2 => omega); (case g3 => omega); (case g4 => omega); (case qd => ktr_room); (case qu => ktr_units); k_whole)
  intro o9 l9 vR9 n9 h9 tk9 m9 F9 N9 I9 e9
  (try dsimp only)
  k_steps
  all_goals exact hret _ _ _ _ _ _ _ F9 N9 I9 e9
end Mine
end
section
theorem Mine.off_P9 : True := by
  w_top off
  (try walk1)
  k_with_none
  (k_with "lt" => (with_reducible first | assumption | ((fail_if_success (fail_if_success (refine' Mine.guardLt ?qg ?qh; (case qg => assumption)))); first | (refine' And.left ?qx; case qx => first | assumption | (refine' And.right ?qx; case qx => first | assumption | (refine' And.right ?qx; case qx => first | assumption | (refine' And.right ?qx; case qx => first | assumption | (refine' And.right ?qx; case qx => first | assumption | (refine' And.right ?qx; case qx => first | assumption | (refine' And.right ?qx; case qx => first | assumption | (refine' And.right ?qx; case qx => first | assumption | (refine' And.right ?qx; case qx => first | assumption | (refine' And.right ?qx; case qx => first | assumption | (refine' And.right ?qx; case qx => first | assumption | (refine' And.right ?qx; case qx => first | assumption | (refine' And.right ?qx; case qx => first | assumption | (refine' And.right ?qx; case qx => first | assumption | (refine' And.right ?qx; case qx => first | assumption | (refine' And.right ?qx; case qx => first | assumption | (refine' And.right ?qx; case qx => first | assumption | (refine' And.right ?qx; case qx => first | assumption | (refine' And.right ?qx; case qx => first | assumption | (refine' And.right ?qx; case qx => first | assumption | (refine' And.right ?qx; case qx => assumption))))))))))))))))))))) | (refine' And.right ?qx; case qx => first | assumption | (refine' And.right ?qx; case qx => first | assumption | (refine' And.right ?qx; case qx => first | assumption | (refine' And.right ?qx; case qx => first | assumption | (refine' And.right ?qx; case qx => first | assumption | (refine' And.right ?qx; case qx => first | assumption | (refine' And.right ?qx; case qx => first | assumption | (refine' And.right ?qx; case qx => first | assumption | (refine' And.right ?qx; case qx => first | assumption | (refine' And.right ?qx; case qx => first | assumption | (refine' And.right ?qx; case qx => first | assumption | (refine' And.right ?qx; case qx => first | assumption | (refine' And.right ?qx; case qx => first | assumption | (refine' And.right ?qx; case qx => first | assumption | (refine' And.right ?qx; case qx => first | assumption | (refine' And.right ?qx; case qx => first | assumption | (refine' And.right ?qx; case qx => first | assumption | (refine' And.right ?qx; case qx => first | assumption | (refine' And.right ?qx; case qx => first | assumption | (refine' And.right ?qx; case qx => first | assumption | (refine' And.right ?qx; case qx => assumption)))))))))))))))))))))) | (refine Nat.lt_trans ?_ (by assumption); k_extra "lt")))
  (k_with "omega" => (first | (with_reducible assumption) | (with_reducible exact Ne.symm (by assumption)) | (with_reducible refine Nat.ne_of_lt ?_; k_extra "lt") | (with_reducible refine Nat.ne_of_gt ?_; k_extra "lt") | ((with_reducible refine' Mine.room ?qx ?qy); (case qx => with_reducible assumption); (case qy => exact rfl)) | ((with_reducible refine' Mine.room2 ?qx ?qy); (case qx => with_reducible assumption); (case qy => exact rfl)) | ((with_reducible refine' Mine.room0 ?qx); (case qx => with_reducible assumption)) | (with_reducible refine Mine.isLt ?_; k_extra "lt")))
  trivial
open PySem PySem.W PyProof.Rows PySem.Calls PySem.Spec PySem.Flt
namespace Mine
section
variable {w : World} {mean : ExcName → Option Value} {mg mb : Str → Option Value} {dp un : Nat} {gd : Option (List Code)} {cn : Str} {cs : Scope} {a : Addr} {ccd : Value} {cl : List (Str × Addr)} {outer : List Env} {A₀ : Around} {base h₀ : Heap} {L : Addr} {m : Str → Option Value} {news : List (Addr × Obj)} {s : Shared} {Q E : Value → Shared → Prop}
set_option maxRecDepth 100000 in
set_option maxHeartbeats 1000000 in
theorem order_tells {l x1 x2 x3 : Addr} {o1 o2 o3 : Obj} {n0 n1 n2 n3 n4 : Int} {u0 u1 u2 u3 u4 : Tok} {n : Nat} (B : Below A₀ base outer h₀) (F : Fr h₀ L s.heap m) (X : (Mine.hd.heap_39 w.params).In h₀) (T : Top topProg LOOSE mean mg mb h₀) (hk : cs.kind = .function) (N : News h₀ L s.heap [(l, listOf #[.int n0 u0, .int n1 u1, .int n2 u2, .int n3 u3, .int n4 u4] n), (x3, o3), (x2, o2), (x1, o1), (76, tabObj #[])]) (hC : CodeHd base 78 76)
    (q1 : @LT.lt Nat _ 76 x1) (q2 : @LT.lt Nat _ x1 x2) (q3 : @LT.lt Nat _ x2 x3) (q4 : @LT.lt Nat _ x3 l) (hd : dp + 8 < recursionLimit) (hu : un + 64 < cLine)
    (hret : ∀ (ps : Array Value) l' vR n' h' tk', Fr h₀ L h' m → News h₀ L h' [(l', listOf vR.toArray n'), (l, listOf #[.int n0 u0, .int n1 u1, .int n2 u2, .int n3 u3, .int n4 u4] n), (x3, o3), (x2, o2), (x1, o1), (76, tabObj ps)] → IntsAre vR (ranksK (keyH n0 n1 n2 n3 n4) (keyV n0 n1 n2 n3 n4)) → (l ≠ l' ∧ x3 ≠ l' ∧ x2 ≠ l' ∧ x1 ≠ l' ∧ (76 : Nat) ≠ l') → Q (.ref l') { s with heap := h', toks := tk' }) :
    wpAny (model PySem.Challenge.rw_pg0203_01.row.prog w) (ktrTop dp un gd cn cs L a ccd cl outer) (call (.ref 79) [.ref l]) Q E s := by
  revert X; k_fill; intro X
  k_dflt (refine wpAny_call ?_; refine' code_defC (binds := [(Str.ofString "numbers", .ref l)]) ?k1 ?k2 ?k3 ?k4 ?k5 ?kA ?kF ?kK ?k6 ?k7 ?k8 ?k9 ?kB ?kD ?_ ?c2 ?c3 ?c4; (case kA => exact rfl); (case kF => exact rfl); (case kK => assumption); (case k1 => k_asm); (case k2 => k_asm); (case k3 => k_asm); (case k4 => k_asm); (case k5 => k_asm); (case k6 => k_is); (case k7 => k_is); (case k8 => ktr_room); (case k9 => exact BindsTo.of_eq rfl); (case kB => exact rfl); (case kD => decide +kernel); (case c2 => exact rfl); (case c3 => exact rfl); (case c4 => exact rfl); k_whole; intro g' L' h' tk' cells' FG' F' N' Y' B' X' T' l1; (try k_lt l1); k_cells Y'; (try simp only [List.cons_append, List.nil_append] at N'); (try dsimp only); (try k_lift B'); (try k_fold))
  (k_dflt (refine' wpAny_mono (ord_body (l := l) (x1 := x1) (x2 := x2) (x3 := x3) (o1 := o1) (o2 := o2) (o3 := o3) ?qB ?qF ?qX ?qT ?qm ?qN ?qC ?qoT ?qoC ?q1 ?q2 ?q3 ?q4 ?q5 ?q6 ?qd ?qu ?_) (fun _ _ x => x) (fun _ _ x => x.elim)); (case qB => k_asm); (case qF => k_asm); (case qX => k_asm); (case qT => k_asm); (case qm => exact rfl); (case qN => k_asm); (case qC => kn_code); (case qoT => assumption); (case qoC => assumption); (case q1 => omega); (case q2 => omega); (case q3 => omega); (case q4 => omega); (case q5 => omega); (case q6 => omega); (case qd => ktr_room); (case qu => ktr_units); k_whole)
  intro o9 l9 vR9 n9 h9 tk9 m9 F9 N9 I9 e9
  (try dsimp only)
  k_steps
  all_goals exact hret _ _ _ _ _ _ (by k_asm) (by k_asm) I9 e9
end
end Mine
end
section
theorem Mine.off_G1 : True := by
  w_top off
  (try walk1)
  k_with_none
  (k_with "lt" => (with_reducible first | assumption | ((fail_if_success (fail_if_success (refine' Mine.guardLt ?qg ?qh; (case qg => assumption)))); first | (refine' And.left ?qx; case qx => first | assumption | (refine' And.right ?qx; case qx => first | assumption | (refine' And.right ?qx; case qx => first | assumption | (refine' And.right ?qx; case qx => first | assumption | (refine' And.right ?qx; case qx => first | assumption | (refine' And.right ?qx; case qx => first | assumption | (refine' And.right ?qx; case qx => first | assumption | (refine' And.right ?qx; case qx => first | assumption | (refine' And.right ?qx; case qx => first | assumption | (refine' And.right ?qx; case qx => first | assumption | (refine' And.right ?qx; case qx => first | assumption | (refine' And.right ?qx; case qx => first | assumption | (refine' And.right ?qx; case qx => first | assumption | (refine' And.right ?qx; case qx => first | assumption | (refine' And.right ?qx; case qx => first | assumption | (refine' And.right ?qx; case qx => first | assumption | (refine' And.right ?qx; case qx => first | assumption | (refine' And.right ?qx; case qx => first | assumption | (refine' And.right ?qx; case qx => first | assumption | (refine' And.right ?qx; case qx => first | assumption | (refine' And.right ?qx; case qx => assumption))))))))))))))))))))) | (refine' And.right ?qx; case qx => first | assumption | (refine' And.right ?qx; case qx => first | assumption | (refine' And.right ?qx; case qx => first | assumption | (refine' And.right ?qx; case qx => first | assumption | (refine' And.right ?qx; case qx => first | assumption | (refine' And.right ?qx; case qx => first | assumption | (refine' And.right ?qx; case qx => first | assumption | (refine' And.right ?qx; case qx => first | assumption | (refine' And.right ?qx; case qx => first | assumption | (refine' And.right ?qx; case qx => first | assumption | (refine' And.right ?qx; case qx => first | assumption | (refine' And.right ?qx; case qx => first | assumption | (refine' And.right ?qx; case qx => first | assumption | (refine' And.right ?qx; case qx => first | assumption | (refine' And.right ?qx; case qx => first | assumption | (refine' And.right ?qx; case qx => first | assumption | (refine' And.right ?qx; case qx => first | assumption | (refine' And.right ?qx; case qx => first | assumption | (refine' And.right ?qx; case qx => first | assumption | (refine' And.right ?qx; case qx => first | assumption | (refine' And.right ?qx; case qx => assumption)))))))))))))))))))))) | (refine Nat.lt_trans ?_ (by assumption); k_extra "lt")))
  (k_with "omega" => (first | (with_reducible assumption) | (with_reducible exact Ne.symm (by assumption)) | (with_reducible refine Nat.ne_of_lt ?_; k_extra "lt") | (with_reducible refine Nat.ne_of_gt ?_; k_extra "lt") | ((with_reducible refine' Mine.room ?qx ?qy); (case qx => with_reducible assumption); (case qy => exact rfl)) | ((with_reducible refine' Mine.room2 ?qx ?qy); (case qx => with_reducible assumption); (case qy => exact rfl)) | ((with_reducible refine' Mine.room0 ?qx); (case qx => with_reducible assumption)) | (with_reducible refine Mine.isLt ?_; k_extra "lt")))
  trivial
open PySem PySem.W PyProof.Rows PySem.Calls PySem.Spec
namespace Mine
/-- the tree of questions under an oracle -/
noncomputable def kev {α : Type} (o : Nat → Nat → Bool) : KasT α → α
  | .ret a => a
  | .ask i j k => kev o (k (o i j))
noncomputable def inb {α : Type} : KasT α → Bool
  | .ret _ => true
  | .ask i j k => decide (i < 5) && decide (j < 5) && inb (k true) && inb (k false)
theorem inb_at {α : Type} {i j : Nat} {k : Bool → KasT α} (h : inb (.ask i j k) = true) (b : Bool) : inb (k b) = true := by
  unfold inb at h
  simp only [Bool.and_eq_true, decide_eq_true_eq] at h
  cases b
  · exact h.2
  · exact h.1.2
theorem kas_ev {α : Type} {cmp : Nat → Nat → (Bool → Shared → Prop) → Shared → Prop} {o : Nat → Nat → Bool} {s : Shared} {Q : α → Shared → Prop} (hc : ∀ i j C, i < 5 → j < 5 → C (o i j) s → cmp i j C s) : ∀ t : KasT α, inb t = true → Q (kev o t) s → t.kasWp cmp Q s
  | .ret _, _, h => h
  | .ask i j k, hb, h => by
    have h5 := hb
    unfold inb at h5
    simp only [Bool.and_eq_true, decide_eq_true_eq] at h5
    exact hc i j _ h5.1.1.1 h5.1.1.2 (kas_ev hc (k (o i j)) (inb_at hb _) h)
set_option maxRecDepth 100000 in
theorem inb_sort : inb (kas_sort 5) = true := by decide +kernel
/-- pairs in their order -/
noncomputable def orc (as : List Int) (i j : Nat) : Bool := if as.getD i 0 = as.getD j 0 then decide (i < j) else decide (as.getD i 0 < as.getD j 0)
noncomputable def sortP (as : List Int) : List Nat := (kev (orc as) (kas_sort 5)).toList
noncomputable abbrev pr (a i : Int) (t u : Tok) : Obj := { cls := .type "tuple", data := .seq #[.int a t, .int i u] }
section
variable {prog : Program} {w : World} {A : Around} {E : Value → Shared → Prop} {s : Shared} {h₀ : Heap} {L : Addr} {m : Str → Option Value} {news : List (Addr × Obj)}
theorem lex_two {a b : Int} {i j : Nat} {t u t' u' : Tok} {C : Bool → Shared → Prop} {as : List Int} (ha : as.getD i 0 = a) (hb : as.getD j 0 = b) (h : C (orc as i j) s) :
    KatLex prog w A true (decide (2 < 2)) C [(.int a t, .int b u), (.int (i : Int) t', .int (j : Int) u')] 0 s := by
  unfold orc at h
  rw [ha, hb] at h
  refine kat_cons (wpAny_eqBool_int ?_)
  by_cases e : a = b
  · rw [if_pos e] at h
    rw [show (a == b) = true by simpa using e]
    refine kat_yes (kat_cons (wpAny_eqBool_int ?_))
    by_cases e2 : i = j
    · rw [show ((i : Int) == (j : Int)) = true by subst e2; simp]
      refine kat_yes (kat_nil ?_)
      rw [show decide (2 < 2) = decide (i < j) by rw [decide_eq_false (by omega), decide_eq_false (by omega)]]
      exact h
    · rw [show ((i : Int) == (j : Int)) = false by simp; omega]
      refine kat_no (kat_one _ _ (lt_int ?_))
      show C (decide ((i : Int) < (j : Int))) s
      rw [show decide ((i : Int) < (j : Int)) = decide (i < j) by simp]
      exact h
  · rw [if_neg e] at h
    rw [show (a == b) = false by simpa using e]
    exact kat_no (oneLt_int h)
theorem sorted5 {l T0 T1 T2 T3 T4 : Addr} {a0 a1 a2 a3 a4 : Int} {t0 t1 t2 t3 t4 u0 u1 u2 u3 u4 : Tok} {n : Nat} {Q : Value → Shared → Prop} (F : Fr h₀ L s.heap m) (N : News h₀ L s.heap news) (hl : (l, listOf #[.ref T0, .ref T1, .ref T2, .ref T3, .ref T4] n) ∈ news)
    (g0 : (T0, pr a0 0 t0 u0) ∈ news) (g1 : (T1, pr a1 1 t1 u1) ∈ news) (g2 : (T2, pr a2 2 t2 u2) ∈ news) (g3 : (T3, pr a3 3 t3 u3) ∈ news) (g4 : (T4, pr a4 4 t4 u4) ∈ news)
    (h : ∀ D c h', Fr h₀ L h' m → News h₀ L h' ((D, listOf (List.toArray ((sortP [a0, a1, a2, a3, a4]).map fun i => [Value.ref T0, .ref T1, .ref T2, .ref T3, .ref T4].getD i .none)) c) :: news) → (∀ q ∈ news, q.1 < D) → Q (.ref D) { s with heap := h' }) :
    wpAny (model prog w) A (call (.builtin "sorted") [.ref l]) Q E s := by
  refine kat_sorted (vs := [.ref T0, .ref T1, .ref T2, .ref T3, .ref T4]) F N (N.isList hl) (by simp) (by simp) fun D e1 h' F' N' l1 => ?_
  have G : ∀ p ∈ news, h'.get? p.1 = some p.2 := fun p hp => (N' p (.tail _ hp)).1
  refine kat_kind (s := { s with heap := h' }) (fs := [.int a0 t0, .int a1 t1, .int a2 t2, .int a3 t3, .int a4 t4]) (T := .type "int")
    (KatTups.cons (G _ g0) rfl rfl rfl (KatTups.cons (G _ g1) rfl rfl rfl (KatTups.cons (G _ g2) rfl rfl rfl (KatTups.cons (G _ g3) rfl rfl rfl (KatTups.cons (G _ g4) rfl rfl rfl KatTups.nil))))) (by simp) (by kas_types) rfl ?_
  refine kas_ev (o := orc [a0, a1, a2, a3, a4]) (fun i j C hi hj hC => ?_) _ inb_sort ?_
  · obtain ⟨Ti, ti, ui, e1, e2⟩ : ∃ Ti ti ui, [Value.ref T0, .ref T1, .ref T2, .ref T3, .ref T4].getD i .none = .ref Ti ∧ h'.get? Ti = some (pr ([a0, a1, a2, a3, a4].getD i 0) i ti ui) := by
      have : i = 0 ∨ i = 1 ∨ i = 2 ∨ i = 3 ∨ i = 4 := by omega
      rcases this with rfl | rfl | rfl | rfl | rfl
      · exact ⟨T0, t0, u0, rfl, G _ g0⟩
      · exact ⟨T1, t1, u1, rfl, G _ g1⟩
      · exact ⟨T2, t2, u2, rfl, G _ g2⟩
      · exact ⟨T3, t3, u3, rfl, G _ g3⟩
      · exact ⟨T4, t4, u4, rfl, G _ g4⟩
    obtain ⟨Tj, tj, uj, f1, f2⟩ : ∃ Ti ti ui, [Value.ref T0, .ref T1, .ref T2, .ref T3, .ref T4].getD j .none = .ref Ti ∧ h'.get? Ti = some (pr ([a0, a1, a2, a3, a4].getD j 0) j ti ui) := by
      have : j = 0 ∨ j = 1 ∨ j = 2 ∨ j = 3 ∨ j = 4 := by omega
      rcases this with rfl | rfl | rfl | rfl | rfl
      · exact ⟨T0, t0, u0, rfl, G _ g0⟩
      · exact ⟨T1, t1, u1, rfl, G _ g1⟩
      · exact ⟨T2, t2, u2, rfl, G _ g2⟩
      · exact ⟨T3, t3, u3, rfl, G _ g3⟩
      · exact ⟨T4, t4, u4, rfl, G _ g4⟩
    unfold kas_ask
    rw [e1, f1]
    exact kat_lt (s := { s with heap := h' }) e2 rfl f2 rfl (lex_two rfl rfl hC)
  · refine KasFin.intro F' N' (UpdF.head fun p hp => Nat.ne_of_lt (l1 p hp)) fun h2 c F2 N2 => h D c h2 F2 N2 l1
end
end Mine
end
section
theorem Mine.off_G2 : True := by
  w_top off
  (try walk1)
  k_with_none
  (k_with "lt" => (with_reducible first | assumption | ((fail_if_success (fail_if_success (refine' Mine.guardLt ?qg ?qh; (case qg => assumption)))); first | (refine' And.left ?qx; case qx => first | assumption | (refine' And.right ?qx; case qx => first | assumption | (refine' And.right ?qx; case qx => first | assumption | (refine' And.right ?qx; case qx => first | assumption | (refine' And.right ?qx; case qx => first | assumption | (refine' And.right ?qx; case qx => first | assumption | (refine' And.right ?qx; case qx => first | assumption | (refine' And.right ?qx; case qx => first | assumption | (refine' And.right ?qx; case qx => first | assumption | (refine' And.right ?qx; case qx => first | assumption | (refine' And.right ?qx; case qx => first | assumption | (refine' And.right ?qx; case qx => first | assumption | (refine' And.right ?qx; case qx => first | assumption | (refine' And.right ?qx; case qx => first | assumption | (refine' And.right ?qx; case qx => first | assumption | (refine' And.right ?qx; case qx => first | assumption | (refine' And.right ?qx; case qx => first | assumption | (refine' And.right ?qx; case qx => first | assumption | (refine' And.right ?qx; case qx => first | assumption | (refine' And.right ?qx; case qx => first | assumption | (refine' And.right ?qx; case qx => assumption))))))))))))))))))))) | (refine' And.right ?qx; case qx => first | assumption | (refine' And.right ?qx; case qx => first | assumption | (refine' And.right ?qx; case qx => first | assumption | (refine' And.right ?qx; case qx => first | assumption | (refine' And.right ?qx; case qx => first | assumption | (refine' And.right ?qx; case qx => first | assumption | (refine' And.right ?qx; case qx => first | assumption | (refine' And.right ?qx; case qx => first | assumption | (refine' And.right ?qx; case qx => first | assumption | (refine' And.right ?qx; case qx => first | assumption | (refine' And.right ?qx; case qx => first | assumption | (refine' And.right ?qx; case qx => first | assumption | (refine' And.right ?qx; case qx => first | assumption | (refine' And.right ?qx; case qx => first | assumption | (refine' And.right ?qx; case qx => first | assumption | (refine' And.right ?qx; case qx => first | assumption | (refine' And.right ?qx; case qx => first | assumption | (refine' And.right ?qx; case qx => first | assumption | (refine' And.right ?qx; case qx => first | assumption | (refine' And.right ?qx; case qx => first | assumption | (refine' And.right ?qx; case qx => assumption)))))))))))))))))))))) | (refine Nat.lt_trans ?_ (by assumption); k_extra "lt")))
  (k_with "omega" => (first | (with_reducible assumption) | (with_reducible exact Ne.symm (by assumption)) | (with_reducible refine Nat.ne_of_lt ?_; k_extra "lt") | (with_reducible refine Nat.ne_of_gt ?_; k_extra "lt") | ((with_reducible refine' Mine.room ?qx ?qy); (case qx => with_reducible assumption); (case qy => exact rfl)) | ((with_reducible refine' Mine.room2 ?qx ?qy); (case qx => with_reducible assumption); (case qy => exact rfl)) | ((with_reducible refine' Mine.room0 ?qx); (case qx => with_reducible assumption)) | (with_reducible refine Mine.isLt ?_; k_extra "lt")))
  trivial
open PySem PySem.W PyProof.Rows PySem.Calls PySem.Spec
namespace Mine
/-- every end of the tree is an order of 0 .. 4 -/
noncomputable def ends5 : KasT (Array Nat) → Bool
  | .ret p => decide (p.toList.length = 5) && p.toList.all fun i => decide (i < 5)
  | .ask _ _ k => ends5 (k true) && ends5 (k false)
theorem ends5_ev {o : Nat → Nat → Bool} : ∀ t : KasT (Array Nat), ends5 t = true → (kev o t).toList.length = 5 ∧ ∀ i ∈ (kev o t).toList, i < 5
  | .ret p, h => by
    unfold ends5 at h
    simp only [Bool.and_eq_true, decide_eq_true_eq, List.all_eq_true] at h
    exact h
  | .ask i j k, h => by
    unfold ends5 at h
    simp only [Bool.and_eq_true] at h
    show (kev o (k (o i j))).toList.length = 5 ∧ ∀ z ∈ (kev o (k (o i j))).toList, z < 5
    cases o i j
    · exact ends5_ev _ h.2
    · exact ends5_ev _ h.1
set_option maxRecDepth 100000 in
theorem ends5_sort : ends5 (kas_sort 5) = true := by decide +kernel
theorem sortP_five (as : List Int) : (sortP as).length = 5 ∧ ∀ i ∈ sortP as, i < 5 := ends5_ev _ ends5_sort
/-- every end of the tree has each of 0 .. 4 -/
noncomputable def full5 : KasT (Array Nat) → Bool
  | .ret p => (List.range 5).all fun i => p.toList.contains i
  | .ask _ _ k => full5 (k true) && full5 (k false)
theorem full5_ev {o : Nat → Nat → Bool} : ∀ t : KasT (Array Nat), full5 t = true → ∀ z, z < 5 → z ∈ (kev o t).toList
  | .ret p, h => by
    unfold full5 at h
    simp only [List.all_eq_true, List.mem_range, List.contains_iff_mem] at h
    exact h
  | .ask i j k, h => by
    unfold full5 at h
    simp only [Bool.and_eq_true] at h
    show ∀ z, z < 5 → z ∈ (kev o (k (o i j))).toList
    cases o i j
    · exact full5_ev _ h.2
    · exact full5_ev _ h.1
set_option maxRecDepth 100000 in
theorem full5_sort : full5 (kas_sort 5) = true := by decide +kernel
theorem sortP_full (as : List Int) : ∀ z, z < 5 → z ∈ sortP as := full5_ev _ full5_sort
/-- an index of one order stands in the other one -/
theorem sortP_mem {as bs : List Int} {ks ds : List Int} (hk : ks = (sortP as).map fun i => ((i : Nat) : Int)) (hd : ds = (sortP bs).map fun i => ((i : Nat) : Int)) : ∀ d ∈ ds, d ∈ ks := by
  subst hk hd
  intro d hd
  simp only [List.mem_map] at hd ⊢
  obtain ⟨i, hi, rfl⟩ := hd
  exact ⟨i, sortP_full as i ((sortP_five bs).2 i hi), rfl⟩
theorem five_nats {l : List Nat} (h : l.length = 5 ∧ ∀ i ∈ l, i < 5) : ∃ a b c d e, l = [a, b, c, d, e] ∧ a < 5 ∧ b < 5 ∧ c < 5 ∧ d < 5 ∧ e < 5 := by
  obtain ⟨h1, h2⟩ := h
  match l, h1 with
  | [a, b, c, d, e], _ => exact ⟨a, b, c, d, e, rfl, h2 a (by simp), h2 b (by simp), h2 c (by simp), h2 d (by simp), h2 e (by simp)⟩
section
variable {prog : Program} {w : World} {A : Around} {E : Value → Shared → Prop} {s : Shared} {h₀ : Heap} {L : Addr} {m : Str → Option Value} {news : List (Addr × Obj)}
theorem sorted5b (lo : Nat) {l T0 T1 T2 T3 T4 : Addr} {a0 a1 a2 a3 a4 : Int} {t0 t1 t2 t3 t4 u0 u1 u2 u3 u4 : Tok} {n : Nat} {Q : Value → Shared → Prop} (F : Fr h₀ L s.heap m) (N : News h₀ L s.heap news) (hl : (l, listOf #[.ref T0, .ref T1, .ref T2, .ref T3, .ref T4] n) ∈ news)
    (g0 : (T0, pr a0 0 t0 u0) ∈ news) (g1 : (T1, pr a1 1 t1 u1) ∈ news) (g2 : (T2, pr a2 2 t2 u2) ∈ news) (g3 : (T3, pr a3 3 t3 u3) ∈ news) (g4 : (T4, pr a4 4 t4 u4) ∈ news)
    (o0 : @LT.lt Nat _ lo T0) (o1 : @LT.lt Nat _ lo T1) (o2 : @LT.lt Nat _ lo T2) (o3 : @LT.lt Nat _ lo T3) (o4 : @LT.lt Nat _ lo T4)
    (h : ∀ D c h' S0 S1 S2 S3 S4 b0 b1 b2 b3 b4 k0 k1 k2 k3 k4 v0 v1 v2 v3 v4 w0 w1 w2 w3 w4, Fr h₀ L h' m →
      News h₀ L h' ((D, listOf #[.ref S0, .ref S1, .ref S2, .ref S3, .ref S4] c) :: (S0, pr b0 k0 v0 w0) :: (S1, pr b1 k1 v1 w1) :: (S2, pr b2 k2 v2 w2) :: (S3, pr b3 k3 v3 w3) :: (S4, pr b4 k4 v4 w4) :: news) → (∀ q ∈ news, q.1 < D) →
      (@LT.lt Nat _ lo S0 ∧ @LT.lt Nat _ lo S1 ∧ @LT.lt Nat _ lo S2 ∧ @LT.lt Nat _ lo S3 ∧ @LT.lt Nat _ lo S4) → [k0, k1, k2, k3, k4] = (sortP [a0, a1, a2, a3, a4]).map (fun i => ((i : Nat) : Int)) → Q (.ref D) { s with heap := h' }) :
    wpAny (model prog w) A (call (.builtin "sorted") [.ref l]) Q E s := by
  refine sorted5 F N hl g0 g1 g2 g3 g4 fun D c h' F' N' l1 => ?_
  obtain ⟨p0, p1, p2, p3, p4, ep, e0, e1, e2, e3, e4⟩ := five_nats (sortP_five [a0, a1, a2, a3, a4])
  have G : ∀ i : Nat, i < 5 → ∃ (S : Addr) (b : Int) (v u : Tok), [Value.ref T0, .ref T1, .ref T2, .ref T3, .ref T4].getD i .none = .ref S ∧ (S, pr b i v u) ∈ news ∧ @LT.lt Nat _ lo S := by
    intro i hi
    have : i = 0 ∨ i = 1 ∨ i = 2 ∨ i = 3 ∨ i = 4 := by omega
    rcases this with rfl | rfl | rfl | rfl | rfl
    · exact ⟨T0, a0, t0, u0, rfl, g0, o0⟩
    · exact ⟨T1, a1, t1, u1, rfl, g1, o1⟩
    · exact ⟨T2, a2, t2, u2, rfl, g2, o2⟩
    · exact ⟨T3, a3, t3, u3, rfl, g3, o3⟩
    · exact ⟨T4, a4, t4, u4, rfl, g4, o4⟩
  obtain ⟨S0, b0, v0, w0, r0, s0, y0⟩ := G p0 e0
  obtain ⟨S1, b1, v1, w1, r1, s1, y1⟩ := G p1 e1
  obtain ⟨S2, b2, v2, w2, r2, s2, y2⟩ := G p2 e2
  obtain ⟨S3, b3, v3, w3, r3, s3, y3⟩ := G p3 e3
  obtain ⟨S4, b4, v4, w4, r4, s4, y4⟩ := G p4 e4
  rw [ep] at N'
  simp only [List.map_cons, List.map_nil] at N'
  rw [r0, r1, r2, r3, r4] at N'
  refine h D c h' S0 S1 S2 S3 S4 b0 b1 b2 b3 b4 _ _ _ _ _ v0 v1 v2 v3 v4 w0 w1 w2 w3 w4 F' (fun p hp => ?_) l1 ⟨y0, y1, y2, y3, y4⟩ (by rw [ep]; rfl)
  simp only [List.mem_cons] at hp
  rcases hp with rfl | rfl | rfl | rfl | rfl | rfl | hp
  · exact N' _ (.head _)
  · exact N' _ (.tail _ s0)
  · exact N' _ (.tail _ s1)
  · exact N' _ (.tail _ s2)
  · exact N' _ (.tail _ s3)
  · exact N' _ (.tail _ s4)
  · exact N' _ (.tail _ hp)
end
end Mine
end
section
theorem Mine.off_F5 : True := by
  w_top off
  (try walk1)
  k_with_none
  (k_with "lt" => (with_reducible first | assumption | ((fail_if_success (fail_if_success (refine' Mine.guardLt ?qg ?qh; (case qg => assumption)))); first | (refine' And.left ?qx; case qx => first | assumption | (refine' And.right ?qx; case qx => first | assumption | (refine' And.right ?qx; case qx => first | assumption | (refine' And.right ?qx; case qx => first | assumption | (refine' And.right ?qx; case qx => first | assumption | (refine' And.right ?qx; case qx => first | assumption | (refine' And.right ?qx; case qx => first | assumption | (refine' And.right ?qx; case qx => first | assumption | (refine' And.right ?qx; case qx => first | assumption | (refine' And.right ?qx; case qx => first | assumption | (refine' And.right ?qx; case qx => first | assumption | (refine' And.right ?qx; case qx => first | assumption | (refine' And.right ?qx; case qx => first | assumption | (refine' And.right ?qx; case qx => first | assumption | (refine' And.right ?qx; case qx => first | assumption | (refine' And.right ?qx; case qx => first | assumption | (refine' And.right ?qx; case qx => first | assumption | (refine' And.right ?qx; case qx => first | assumption | (refine' And.right ?qx; case qx => first | assumption | (refine' And.right ?qx; case qx => first | assumption | (refine' And.right ?qx; case qx => assumption))))))))))))))))))))) | (refine' And.right ?qx; case qx => first | assumption | (refine' And.right ?qx; case qx => first | assumption | (refine' And.right ?qx; case qx => first | assumption | (refine' And.right ?qx; case qx => first | assumption | (refine' And.right ?qx; case qx => first | assumption | (refine' And.right ?qx; case qx => first | assumption | (refine' And.right ?qx; case qx => first | assumption | (refine' And.right ?qx; case qx => first | assumption | (refine' And.right ?qx; case qx => first | assumption | (refine' And.right ?qx; case qx => first | assumption | (refine' And.right ?qx; case qx => first | assumption | (refine' And.right ?qx; case qx => first | assumption | (refine' And.right ?qx; case qx => first | assumption | (refine' And.right ?qx; case qx => first | assumption | (refine' And.right ?qx; case qx => first | assumption | (refine' And.right ?qx; case qx => first | assumption | (refine' And.right ?qx; case qx => first | assumption | (refine' And.right ?qx; case qx => first | assumption | (refine' And.right ?qx; case qx => first | assumption | (refine' And.right ?qx; case qx => first | assumption | (refine' And.right ?qx; case qx => assumption)))))))))))))))))))))) | (refine Nat.lt_trans ?_ (by assumption); k_extra "lt")))
  (k_with "omega" => (first | (with_reducible assumption) | (with_reducible exact Ne.symm (by assumption)) | (with_reducible refine Nat.ne_of_lt ?_; k_extra "lt") | (with_reducible refine Nat.ne_of_gt ?_; k_extra "lt") | ((with_reducible refine' Mine.room ?qx ?qy); (case qx => with_reducible assumption); (case qy => exact rfl)) | ((with_reducible refine' Mine.room2 ?qx ?qy); (case qx => with_reducible assumption); (case qy => exact rfl)) | ((with_reducible refine' Mine.room0 ?qx); (case qx => with_reducible assumption)) | (with_reducible refine Mine.isLt ?_; k_extra "lt")))
  trivial
open PySem PySem.W PyProof.Rows PySem.Calls PySem.Spec
namespace Mine
/-- parts of law's fifth statement, and the values that its third and fourth ones store -/
noncomputable def noExpr : PySem.Expr := PySem.Expr.Constant PySem.Const.none 0 ⟨0, 0, 0, 0⟩
noncomputable def ifTest : List Stmt → PySem.Expr
  | .If t _ _ _ :: _ => t
  | _ => noExpr
noncomputable def cmpRight : PySem.Expr → PySem.Expr
  | .Compare _ _ (e :: _) _ => e
  | _ => noExpr
noncomputable def compElt : PySem.Expr → PySem.Expr
  | .ListComp e _ _ _ => e
  | _ => noExpr
noncomputable def compScope : PySem.Expr → Scope
  | .ListComp _ _ sc _ => sc
  | _ => { kind := .function, names := [], isGenerator := false, isCoroutine := false }
noncomputable def storedVal : List Stmt → PySem.Expr
  | .Assign _ v _ :: _ => v
  | _ => noExpr
local macro_rules | `(tactic| lcg_off) => `(tactic| (simp only [LCg.Off3, and_true]; with_reducible assumption))
set_option maxRecDepth 100000 in
set_option maxHeartbeats 2000000 in
theorem eval_elem {w : World} {mean : ExcName → Option Value} {mg mb : Str → Option Value} {dp un : Nat} {gd : Option (List Code)} {a : Addr} {ccd : Value} {outer : List Env} {A₀ : Around} {base h₀ : Heap} {L : Addr} {m : Str → Option Value} {s : Shared} {c1 c2 c3 lL I C D x0 x1 x2 x3 x4 x5 x6 x7 S0 S1 S2 S3 S4 : Addr} {o1 o2 o3 oI oC oD a0 a1 a2 a3 a4 a5 a6 a7 : Obj} {nL : Nat} {b0 b1 b2 b3 b4 k0 k1 k2 k3 k4 d : Int} {t v0 v1 v2 v3 v4 w0 w1 w2 w3 w4 : Tok} {m₂ : Str → Option Value} {Q E : Value → Shared → Prop} (B : Below A₀ base outer h₀) (F : Fr h₀ L s.heap m) (X : (Mine.hd.heap_39 w.params).In h₀) (T : Top topProg LOOSE mean mg mb h₀)
    (hC : LCg.NsObj oC m₂) (hx : m₂ (Str.ofString "k") = some (.int d t))
    (N : News h₀ L s.heap [(I, oI), (C, oC), (D, oD), (x0, a0), (x1, a1), (x2, a2), (x3, a3), (x4, a4), (x5, a5),
      (lL, listOf #[.ref S0, .ref S1, .ref S2, .ref S3, .ref S4] nL), (S0, pr b0 k0 v0 w0), (S1, pr b1 k1 v1 w1), (S2, pr b2 k2 v2 w2), (S3, pr b3 k3 v3 w3), (S4, pr b4 k4 v4 w4), (x6, a6), (x7, a7), (c3, o3), (c2, o2), (c1, o1)])
    (hc3 : o3.data = .cell (some (.ref lL))) (p0 : d ∈ [k0, k1, k2, k3, k4]) (hd : dp + 9 < recursionLimit) (hu : un + 72 < cLine)
    (hret : ∀ t' h' tk', Fr h₀ L h' m → News h₀ L h' [(I, oI), (C, oC), (D, oD), (x0, a0), (x1, a1), (x2, a2), (x3, a3), (x4, a4), (x5, a5),
      (lL, listOf #[.ref S0, .ref S1, .ref S2, .ref S3, .ref S4] nL), (S0, pr b0 k0 v0 w0), (S1, pr b1 k1 v1 w1), (S2, pr b2 k2 v2 w2), (S3, pr b3 k3 v3 w3), (S4, pr b4 k4 v4 w4), (x6, a6), (x7, a7), (c3, o3), (c2, o2), (c1, o1)] → Q (.int (([k0, k1, k2, k3, k4].idxOf d : Nat) : Int) t') { s with heap := h', toks := tk' }) :
    wpAny (model PySem.Challenge.rw_pg0203_01.row.prog w) (ktrTop dp un gd (Str.ofString "law") lawParts.2 L a ccd [(Str.ofString "lights", c3), (Str.ofString "ranks", c2), (Str.ofString "numbers", c1)] outer) (eval (compElt (cmpRight (ifTest (stmtsFrom 4 lawParts.1)))) (compEnvC (compScope (cmpRight (ifTest (stmtsFrom 4 lawParts.1)))) [(Str.ofString "lights", c3)] C (envX (Str.ofString "law") lawParts.2 L a ccd [(Str.ofString "lights", c3), (Str.ofString "ranks", c2), (Str.ofString "numbers", c1)]))) Q E s := by
  revert X; k_fill; intro X
  (k_with "CompEnd" => lcg_end)
  (k_with "call builtin:list.index" => (k_here; (with_reducible show wpAny _ _ (call (Value.builtin _) [Value.ref _, Value.int _ _]) _ _ _); k_dflt (refine' index_ints ?zzN ?zzm ?zzi ?zze ?zzz ?_; (case zzN => k_asm); (case zzm => k_mem); (case zzi => exact .cons _ _ (.cons _ _ (.cons _ _ (.cons _ _ (.cons _ _ .nil))))); (case zze => assumption); (case zzz => exact Nat.le_of_ble_eq_true rfl); k_whole)))
  unfold lawParts PySem.Challenge.pw_pg0203_01; dsimp only [lastDef, stmtsFrom]
  dsimp only [ifTest, cmpRight, compElt, compScope]
  k_steps
  all_goals first
    | exact hret _ _ _ (by k_asm) (news_tail (by k_asm))
end Mine
end
section
theorem Mine.off_F4 : True := by
  w_top off
  (try walk1)
  k_with_none
  (k_with "lt" => (with_reducible first | assumption | ((fail_if_success (fail_if_success (refine' Mine.guardLt ?qg ?qh; (case qg => assumption)))); first | (refine' And.left ?qx; case qx => first | assumption | (refine' And.right ?qx; case qx => first | assumption | (refine' And.right ?qx; case qx => first | assumption | (refine' And.right ?qx; case qx => first | assumption | (refine' And.right ?qx; case qx => first | assumption | (refine' And.right ?qx; case qx => first | assumption | (refine' And.right ?qx; case qx => first | assumption | (refine' And.right ?qx; case qx => first | assumption | (refine' And.right ?qx; case qx => first | assumption | (refine' And.right ?qx; case qx => first | assumption | (refine' And.right ?qx; case qx => first | assumption | (refine' And.right ?qx; case qx => first | assumption | (refine' And.right ?qx; case qx => first | assumption | (refine' And.right ?qx; case qx => first | assumption | (refine' And.right ?qx; case qx => first | assumption | (refine' And.right ?qx; case qx => first | assumption | (refine' And.right ?qx; case qx => first | assumption | (refine' And.right ?qx; case qx => first | assumption | (refine' And.right ?qx; case qx => first | assumption | (refine' And.right ?qx; case qx => first | assumption | (refine' And.right ?qx; case qx => assumption))))))))))))))))))))) | (refine' And.right ?qx; case qx => first | assumption | (refine' And.right ?qx; case qx => first | assumption | (refine' And.right ?qx; case qx => first | assumption | (refine' And.right ?qx; case qx => first | assumption | (refine' And.right ?qx; case qx => first | assumption | (refine' And.right ?qx; case qx => first | assumption | (refine' And.right ?qx; case qx => first | assumption | (refine' And.right ?qx; case qx => first | assumption | (refine' And.right ?qx; case qx => first | assumption | (refine' And.right ?qx; case qx => first | assumption | (refine' And.right ?qx; case qx => first | assumption | (refine' And.right ?qx; case qx => first | assumption | (refine' And.right ?qx; case qx => first | assumption | (refine' And.right ?qx; case qx => first | assumption | (refine' And.right ?qx; case qx => first | assumption | (refine' And.right ?qx; case qx => first | assumption | (refine' And.right ?qx; case qx => first | assumption | (refine' And.right ?qx; case qx => first | assumption | (refine' And.right ?qx; case qx => first | assumption | (refine' And.right ?qx; case qx => first | assumption | (refine' And.right ?qx; case qx => assumption)))))))))))))))))))))) | (refine Nat.lt_trans ?_ (by assumption); k_extra "lt")))
  (k_with "omega" => (first | (with_reducible assumption) | (with_reducible exact Ne.symm (by assumption)) | (with_reducible refine Nat.ne_of_lt ?_; k_extra "lt") | (with_reducible refine Nat.ne_of_gt ?_; k_extra "lt") | ((with_reducible refine' Mine.room ?qx ?qy); (case qx => with_reducible assumption); (case qy => exact rfl)) | ((with_reducible refine' Mine.room2 ?qx ?qy); (case qx => with_reducible assumption); (case qy => exact rfl)) | ((with_reducible refine' Mine.room0 ?qx); (case qx => with_reducible assumption)) | (with_reducible refine Mine.isLt ?_; k_extra "lt")))
  trivial
open PySem PySem.W PyProof.Rows PySem.Calls PySem.Spec
namespace Mine
local macro_rules | `(tactic| lcg_off) => `(tactic| (simp only [LCg.Off3, and_true]; with_reducible assumption))
set_option maxRecDepth 100000 in
set_option maxHeartbeats 1000000 in
theorem front4 {w : World} {mean : ExcName → Option Value} {mg mb : Str → Option Value} {dp un : Nat} {gd : Option (List Code)} {a : Addr} {ccd : Value} {outer : List Env} {A₀ : Around} {base h₀ : Heap} {L : Addr} {m : Str → Option Value} {s : Shared} {c1 c2 c3 lN lR lL lH H0 H1 H2 H3 H4 S0 S1 S2 S3 S4 : Addr} {o1 o2 o3 : Obj} {nH nL nR : Nat} {oN : Obj} {vR : List Value} {nsR : List Int} {e0 e1 e2 e3 e4 d0 d1 d2 d3 d4 b0 b1 b2 b3 b4 k0 k1 k2 k3 k4 : Int} {t0 t1 t2 t3 t4 u0 u1 u2 u3 u4 v0 v1 v2 v3 v4 w0 w1 w2 w3 w4 : Tok} {Q : Flow → Shared → Prop} (B : Below A₀ base outer h₀) (F : Fr h₀ L s.heap m) (X : (Mine.hd.heap_39 w.params).In h₀) (T : Top topProg LOOSE mean mg mb h₀)
    (hmH : m (Str.ofString "hues") = some (.ref lH))
    (N : News h₀ L s.heap [(lH, listOf #[.ref H0, .ref H1, .ref H2, .ref H3, .ref H4] nH), (H0, pr e0 d0 t0 u0), (H1, pr e1 d1 t1 u1), (H2, pr e2 d2 t2 u2), (H3, pr e3 d3 t3 u3), (H4, pr e4 d4 t4 u4),
      (lL, listOf #[.ref S0, .ref S1, .ref S2, .ref S3, .ref S4] nL), (S0, pr b0 k0 v0 w0), (S1, pr b1 k1 v1 w1), (S2, pr b2 k2 v2 w2), (S3, pr b3 k3 v3 w3), (S4, pr b4 k4 v4 w4), (lR, listOf vR.toArray nR), (lN, oN), (c3, o3), (c2, o2), (c1, o1)])
    (p0 : d0 ∈ [k0, k1, k2, k3, k4]) (p1 : d1 ∈ [k0, k1, k2, k3, k4]) (p2 : d2 ∈ [k0, k1, k2, k3, k4]) (p3 : d3 ∈ [k0, k1, k2, k3, k4]) (p4 : d4 ∈ [k0, k1, k2, k3, k4])
    (hc2 : o2.data = .cell (some (.ref lR))) (hc3 : o3.data = .cell (some (.ref lL))) (IR : IntsAre vR nsR)
    (hd : dp + 9 < recursionLimit) (hu : un + 72 < cLine)
    (heq : nsR = [(([k0, k1, k2, k3, k4].idxOf d0 : Nat) : Int), (([k0, k1, k2, k3, k4].idxOf d1 : Nat) : Int), (([k0, k1, k2, k3, k4].idxOf d2 : Nat) : Int), (([k0, k1, k2, k3, k4].idxOf d3 : Nat) : Int), (([k0, k1, k2, k3, k4].idxOf d4 : Nat) : Int)])
    (hret : ∀ m' h' tk', Fr h₀ L h' m' → News h₀ L h' [(lR, listOf vR.toArray nR), (c2, o2)] → Q .next { s with heap := h', toks := tk' }) :
    wpAny (model PySem.Challenge.rw_pg0203_01.row.prog w) (ktrTop dp un gd (Str.ofString "law") lawParts.2 L a ccd [(Str.ofString "lights", c3), (Str.ofString "ranks", c2), (Str.ofString "numbers", c1)] outer) (execs ((stmtsFrom 4 lawParts.1).take 1) (envX (Str.ofString "law") lawParts.2 L a ccd [(Str.ofString "lights", c3), (Str.ofString "ranks", c2), (Str.ofString "numbers", c1)])) Q (fun _ _ => False) s := by
  revert X; k_fill; intro X
  (k_with "CompEnd" => lcg_end)
  (k_with "eval Call Attribute" => (k_here; k_dflt (refine' eval_elem ?zzqB ?zzqF ?zzqX ?zzqT ?zzqC ?zzqx ?zzqN ?zzqc ?zzqp ?zzqd ?zzqu ?_; (case zzqB => k_asm); (case zzqF => k_asm); (case zzqX => k_asm); (case zzqT => k_asm); (case zzqN => k_asm); (case zzqC => assumption); (case zzqx => assumption); (case zzqc => assumption); (case zzqp => assumption); (case zzqd => ktr_room); (case zzqu => ktr_units); k_whole); intro t9 h9 tk9 F9 N9; (try dsimp only)))
  unfold lawParts PySem.Challenge.pw_pg0203_01; dsimp only [lastDef, stmtsFrom]
  dsimp only [List.take]
  have F1 := fr_head (x := Str.ofString "hues") F hmH
  clear F
  k_steps
  all_goals first
    | exact absurd heq (by with_reducible assumption)
    | exact hret _ _ _ (by k_asm) (cb_drop (by k_asm) (by lcg_sub))
end Mine
end
section
theorem Mine.off_F9 : True := by
  w_top off
  (try walk1)
  k_with_none
  (k_with "lt" => (with_reducible first | assumption | ((fail_if_success (fail_if_success (refine' Mine.guardLt ?qg ?qh; (case qg => assumption)))); first | (refine' And.left ?qx; case qx => first | assumption | (refine' And.right ?qx; case qx => first | assumption | (refine' And.right ?qx; case qx => first | assumption | (refine' And.right ?qx; case qx => first | assumption | (refine' And.right ?qx; case qx => first | assumption | (refine' And.right ?qx; case qx => first | assumption | (refine' And.right ?qx; case qx => first | assumption | (refine' And.right ?qx; case qx => first | assumption | (refine' And.right ?qx; case qx => first | assumption | (refine' And.right ?qx; case qx => first | assumption | (refine' And.right ?qx; case qx => first | assumption | (refine' And.right ?qx; case qx => first | assumption | (refine' And.right ?qx; case qx => first | assumption | (refine' And.right ?qx; case qx => first | assumption | (refine' And.right ?qx; case qx => first | assumption | (refine' And.right ?qx; case qx => first | assumption | (refine' And.right ?qx; case qx => first | assumption | (refine' And.right ?qx; case qx => first | assumption | (refine' And.right ?qx; case qx => first | assumption | (refine' And.right ?qx; case qx => first | assumption | (refine' And.right ?qx; case qx => assumption))))))))))))))))))))) | (refine' And.right ?qx; case qx => first | assumption | (refine' And.right ?qx; case qx => first | assumption | (refine' And.right ?qx; case qx => first | assumption | (refine' And.right ?qx; case qx => first | assumption | (refine' And.right ?qx; case qx => first | assumption | (refine' And.right ?qx; case qx => first | assumption | (refine' And.right ?qx; case qx => first | assumption | (refine' And.right ?qx; case qx => first | assumption | (refine' And.right ?qx; case qx => first | assumption | (refine' And.right ?qx; case qx => first | assumption | (refine' And.right ?qx; case qx => first | assumption | (refine' And.right ?qx; case qx => first | assumption | (refine' And.right ?qx; case qx => first | assumption | (refine' And.right ?qx; case qx => first | assumption | (refine' And.right ?qx; case qx => first | assumption | (refine' And.right ?qx; case qx => first | assumption | (refine' And.right ?qx; case qx => first | assumption | (refine' And.right ?qx; case qx => first | assumption | (refine' And.right ?qx; case qx => first | assumption | (refine' And.right ?qx; case qx => first | assumption | (refine' And.right ?qx; case qx => assumption)))))))))))))))))))))) | (refine Nat.lt_trans ?_ (by assumption); k_extra "lt")))
  (k_with "omega" => (first | (with_reducible assumption) | (with_reducible exact Ne.symm (by assumption)) | (with_reducible refine Nat.ne_of_lt ?_; k_extra "lt") | (with_reducible refine Nat.ne_of_gt ?_; k_extra "lt") | ((with_reducible refine' Mine.room ?qx ?qy); (case qx => with_reducible assumption); (case qy => exact rfl)) | ((with_reducible refine' Mine.room2 ?qx ?qy); (case qx => with_reducible assumption); (case qy => exact rfl)) | ((with_reducible refine' Mine.room0 ?qx); (case qx => with_reducible assumption)) | (with_reducible refine Mine.isLt ?_; k_extra "lt")))
  trivial
open PySem PySem.W PyProof.Rows PySem.Calls PySem.Spec
namespace Mine
/-- the comprehension that a call takes as its one argument -/
noncomputable def callArg : PySem.Expr → PySem.Expr
  | .Call _ (e :: _) _ _ => e
  | _ => noExpr
noncomputable abbrev lightI (n : Int) : Int := (1 + (n.fdiv 32).fmod 4) * (7 - (n.fdiv 8).fmod 4)
noncomputable abbrev hueI (n : Int) : Int := n.fmod 8
theorem news_skip {h₀ h : Heap} {L : Addr} {x a b c : Addr × Obj} {news : List (Addr × Obj)} (N : News h₀ L h (x :: a :: b :: c :: news)) : News h₀ L h (x :: news) := fun p hp => N p (by
  rcases List.mem_cons.mp hp with rfl | hp
  · exact .head _
  · exact .tail _ (.tail _ (.tail _ (.tail _ hp))))
theorem allLt_all {d : Addr} : ∀ (l : List (Addr × Obj)), AllLt d l → ∀ p ∈ l, p.1 < d
  | [], _, p, hp => nomatch hp
  | q :: r, h, p, hp => by
    rcases List.mem_cons.mp hp with e | hp
    · rw [e]; exact h.1
    · exact allLt_all r h.2 p hp
theorem lt_skip {a b c : Addr × Obj} {news : List (Addr × Obj)} {D : Addr} (l : ∀ p ∈ a :: b :: c :: news, p.1 < D) : ∀ p ∈ news, p.1 < D := fun p hp => l p (.tail _ (.tail _ (.tail _ hp)))
set_option maxRecDepth 100000 in
set_option maxHeartbeats 1000000 in
theorem elt_lights {w : World} {mean : ExcName → Option Value} {mg mb : Str → Option Value} {dp un : Nat} {gd : Option (List Code)} {a : Addr} {ccd : Value} {outer : List Env} {A₀ : Around} {base h₀ : Heap} {L : Addr} {m : Str → Option Value} {s : Shared} {c1 c2 c3 C lN : Addr} {oC o1 : Obj} {vs : List Value} {ns : List Int} {n : Nat} {k : Int} {t : Tok} {m₂ : Str → Option Value} {news : List (Addr × Obj)} {Q E : Value → Shared → Prop} (B : Below A₀ base outer h₀) (F : Fr h₀ L s.heap m) (X : (Mine.hd.heap_39 w.params).In h₀) (T : Top topProg LOOSE mean mg mb h₀)
    (hC : LCg.NsObj oC m₂) (hx : m₂ (Str.ofString "k") = some (.int k t)) (N : News h₀ L s.heap news) (g1 : (C, oC) ∈ news) (g2 : (c1, o1) ∈ news) (g3 : (lN, listOf vs.toArray n) ∈ news) (hc1 : o1.data = .cell (some (.ref lN))) (I : IntsAre vs ns) (h0 : 0 ≤ k) (h1 : k < ns.length) (h2 : k < 1000)
    (hret : ∀ D t' u' h' tk', Fr h₀ L h' m → News h₀ L h' ((D, pr (lightI (ns.getD k.toNat 0)) k t' u') :: news) → (∀ p ∈ news, p.1 < D) → Q (.ref D) { s with heap := h', toks := tk' }) :
    wpAny (model PySem.Challenge.rw_pg0203_01.row.prog w) (ktrTop dp un gd (Str.ofString "law") lawParts.2 L a ccd [(Str.ofString "lights", c3), (Str.ofString "ranks", c2), (Str.ofString "numbers", c1)] outer) (eval (compElt (callArg (storedVal (stmtsFrom 2 lawParts.1)))) (compEnvC (compScope (callArg (storedVal (stmtsFrom 2 lawParts.1)))) [(Str.ofString "numbers", c1)] C (envX (Str.ofString "law") lawParts.2 L a ccd [(Str.ofString "lights", c3), (Str.ofString "ranks", c2), (Str.ofString "numbers", c1)]))) Q E s := by
  revert X; k_fill; intro X
  (k_with "subscriptTail Name Name ref int" => (k_here; k_dflt (refine' ksa_sub ?zzN ?zzm ?zzi ?zza ?zzb ?zzc ?_ ?zzd; (case zzN => k_asm); (case zzm => k_mem); (case zzi => with_reducible assumption); (case zza => assumption); (case zzb => assumption); (case zzc => omega); (case zzd => with_unfolding_all rfl); k_whole); intro _))
  unfold lawParts PySem.Challenge.pw_pg0203_01; dsimp only [lastDef, stmtsFrom]
  dsimp only [storedVal, callArg, compElt, compScope]
  have N9 := news_dup (news_dup (news_dup N g3) (.tail _ g2)) (.tail _ (.tail _ g1))
  clear N
  k_steps
  all_goals exact hret _ _ _ _ _ (by k_asm) (news_skip (by k_asm)) (allLt_all _ (And.right (And.right (And.right (by assumption)))))
set_option maxRecDepth 100000 in
set_option maxHeartbeats 1000000 in
theorem elt_hues {w : World} {mean : ExcName → Option Value} {mg mb : Str → Option Value} {dp un : Nat} {gd : Option (List Code)} {a : Addr} {ccd : Value} {outer : List Env} {A₀ : Around} {base h₀ : Heap} {L : Addr} {m : Str → Option Value} {s : Shared} {c1 c2 c3 C lN : Addr} {oC o1 : Obj} {vs : List Value} {ns : List Int} {n : Nat} {k : Int} {t : Tok} {m₂ : Str → Option Value} {news : List (Addr × Obj)} {Q E : Value → Shared → Prop} (B : Below A₀ base outer h₀) (F : Fr h₀ L s.heap m) (X : (Mine.hd.heap_39 w.params).In h₀) (T : Top topProg LOOSE mean mg mb h₀)
    (hC : LCg.NsObj oC m₂) (hx : m₂ (Str.ofString "k") = some (.int k t)) (N : News h₀ L s.heap news) (g1 : (C, oC) ∈ news) (g2 : (c1, o1) ∈ news) (g3 : (lN, listOf vs.toArray n) ∈ news) (hc1 : o1.data = .cell (some (.ref lN))) (I : IntsAre vs ns) (h0 : 0 ≤ k) (h1 : k < ns.length) (h2 : k < 1000)
    (hret : ∀ D t' u' h' tk', Fr h₀ L h' m → News h₀ L h' ((D, pr (hueI (ns.getD k.toNat 0)) k t' u') :: news) → (∀ p ∈ news, p.1 < D) → Q (.ref D) { s with heap := h', toks := tk' }) :
    wpAny (model PySem.Challenge.rw_pg0203_01.row.prog w) (ktrTop dp un gd (Str.ofString "law") lawParts.2 L a ccd [(Str.ofString "lights", c3), (Str.ofString "ranks", c2), (Str.ofString "numbers", c1)] outer) (eval (compElt (callArg (storedVal (stmtsFrom 3 lawParts.1)))) (compEnvC (compScope (callArg (storedVal (stmtsFrom 3 lawParts.1)))) [(Str.ofString "numbers", c1)] C (envX (Str.ofString "law") lawParts.2 L a ccd [(Str.ofString "lights", c3), (Str.ofString "ranks", c2), (Str.ofString "numbers", c1)]))) Q E s := by
  revert X; k_fill; intro X
  unfold lawParts PySem.Challenge.pw_pg0203_01; dsimp only [lastDef, stmtsFrom]
  dsimp only [storedVal, callArg, compElt, compScope]
  have N9 := news_dup (news_dup (news_dup N g3) (.tail _ g2)) (.tail _ (.tail _ g1))
  clear N
  k_steps
  all_goals exact hret _ _ _ _ _ (by k_asm) (news_skip (by k_asm)) (allLt_all _ (And.right (And.right (And.right (by assumption)))))
end Mine
end
section
theorem Mine.off_F6 : True := by
  w_top off
  (try walk1)
  k_with_none
  (k_with "lt" => (with_reducible first | assumption | ((fail_if_success (fail_if_success (refine' Mine.guardLt ?qg ?qh; (case qg => assumption)))); first | (refine' And.left ?qx; case qx => first | assumption | (refine' And.right ?qx; case qx => first | assumption | (refine' And.right ?qx; case qx => first | assumption | (refine' And.right ?qx; case qx => first | assumption | (refine' And.right ?qx; case qx => first | assumption | (refine' And.right ?qx; case qx => first | assumption | (refine' And.right ?qx; case qx => first | assumption | (refine' And.right ?qx; case qx => first | assumption | (refine' And.right ?qx; case qx => first | assumption | (refine' And.right ?qx; case qx => first | assumption | (refine' And.right ?qx; case qx => first | assumption | (refine' And.right ?qx; case qx => first | assumption | (refine' And.right ?qx; case qx => first | assumption | (refine' And.right ?qx; case qx => first | assumption | (refine' And.right ?qx; case qx => first | assumption | (refine' And.right ?qx; case qx => first | assumption | (refine' And.right ?qx; case qx => first | assumption | (refine' And.right ?qx; case qx => first | assumption | (refine' And.right ?qx; case qx => first | assumption | (refine' And.right ?qx; case qx => first | assumption | (refine' And.right ?qx; case qx => assumption))))))))))))))))))))) | (refine' And.right ?qx; case qx => first | assumption | (refine' And.right ?qx; case qx => first | assumption | (refine' And.right ?qx; case qx => first | assumption | (refine' And.right ?qx; case qx => first | assumption | (refine' And.right ?qx; case qx => first | assumption | (refine' And.right ?qx; case qx => first | assumption | (refine' And.right ?qx; case qx => first | assumption | (refine' And.right ?qx; case qx => first | assumption | (refine' And.right ?qx; case qx => first | assumption | (refine' And.right ?qx; case qx => first | assumption | (refine' And.right ?qx; case qx => first | assumption | (refine' And.right ?qx; case qx => first | assumption | (refine' And.right ?qx; case qx => first | assumption | (refine' And.right ?qx; case qx => first | assumption | (refine' And.right ?qx; case qx => first | assumption | (refine' And.right ?qx; case qx => first | assumption | (refine' And.right ?qx; case qx => first | assumption | (refine' And.right ?qx; case qx => first | assumption | (refine' And.right ?qx; case qx => first | assumption | (refine' And.right ?qx; case qx => first | assumption | (refine' And.right ?qx; case qx => assumption)))))))))))))))))))))) | (refine Nat.lt_trans ?_ (by assumption); k_extra "lt")))
  (k_with "omega" => (first | (with_reducible assumption) | (with_reducible exact Ne.symm (by assumption)) | (with_reducible refine Nat.ne_of_lt ?_; k_extra "lt") | (with_reducible refine Nat.ne_of_gt ?_; k_extra "lt") | ((with_reducible refine' Mine.room ?qx ?qy); (case qx => with_reducible assumption); (case qy => exact rfl)) | ((with_reducible refine' Mine.room2 ?qx ?qy); (case qx => with_reducible assumption); (case qy => exact rfl)) | ((with_reducible refine' Mine.room0 ?qx); (case qx => with_reducible assumption)) | (with_reducible refine Mine.isLt ?_; k_extra "lt")))
  trivial
open PySem PySem.W PyProof.Rows PySem.Calls PySem.Spec
namespace Mine
local macro_rules | `(tactic| lcg_off) => `(tactic| first
  | (simp only [LCg.Off3, and_true]; with_reducible assumption)
  | (refine And.intro ⟨by k_ne, by k_ne, by k_ne⟩ ?_; simp only [LCg.Off3, and_true]; with_reducible assumption))
set_option maxRecDepth 100000 in
set_option maxHeartbeats 2500000 in
theorem eval_lights {w : World} {mean : ExcName → Option Value} {mg mb : Str → Option Value} {dp un : Nat} {gd : Option (List Code)} {a : Addr} {ccd : Value} {outer : List Env} {A₀ : Around} {base h₀ : Heap} {L : Addr} {m : Str → Option Value} {s : Shared} {c1 c2 c3 lN lR : Addr} {o1 o2 o3 : Obj} {n0 n1 n2 n3 n4 : Int} {u0 u1 u2 u3 u4 : Tok} {nN nR : Nat} {vR : List Value} {Q E : Value → Shared → Prop} (B : Below A₀ base outer h₀) (F : Fr h₀ L s.heap m) (X : (Mine.hd.heap_39 w.params).In h₀) (T : Top topProg LOOSE mean mg mb h₀)
    (N : News h₀ L s.heap [(lR, listOf vR.toArray nR), (lN, listOf #[.int n0 u0, .int n1 u1, .int n2 u2, .int n3 u3, .int n4 u4] nN), (c3, o3), (c2, o2), (c1, o1)]) (hc1 : o1.data = .cell (some (.ref lN)))
    (hd : dp + 9 < recursionLimit) (hu : un + 72 < cLine)
    (hret : ∀ h' tk' lL S0 S1 S2 S3 S4 c b0 b1 b2 b3 b4 k0 k1 k2 k3 k4 v0 v1 v2 v3 v4 w0 w1 w2 w3 w4, Fr h₀ L h' m → News h₀ L h' [(lL, listOf #[.ref S0, .ref S1, .ref S2, .ref S3, .ref S4] c), (S0, pr b0 k0 v0 w0), (S1, pr b1 k1 v1 w1), (S2, pr b2 k2 v2 w2), (S3, pr b3 k3 v3 w3), (S4, pr b4 k4 v4 w4),
      (lR, listOf vR.toArray nR), (lN, listOf #[.int n0 u0, .int n1 u1, .int n2 u2, .int n3 u3, .int n4 u4] nN), (c3, o3), (c2, o2), (c1, o1)] →
      (@LT.lt Nat _ c3 S0 ∧ @LT.lt Nat _ c3 S1 ∧ @LT.lt Nat _ c3 S2 ∧ @LT.lt Nat _ c3 S3 ∧ @LT.lt Nat _ c3 S4) → (@LT.lt Nat _ lR lL ∧ @LT.lt Nat _ lN lL ∧ @LT.lt Nat _ c3 lL) →
      [k0, k1, k2, k3, k4] = (sortP [lightI n0, lightI n1, lightI n2, lightI n3, lightI n4]).map (fun i => ((i : Nat) : Int)) → Q (.ref lL) { s with heap := h', toks := tk' }) :
    wpAny (model PySem.Challenge.rw_pg0203_01.row.prog w) (ktrTop dp un gd (Str.ofString "law") lawParts.2 L a ccd [(Str.ofString "lights", c3), (Str.ofString "ranks", c2), (Str.ofString "numbers", c1)] outer) (eval (storedVal (stmtsFrom 2 lawParts.1)) (envX (Str.ofString "law") lawParts.2 L a ccd [(Str.ofString "lights", c3), (Str.ofString "ranks", c2), (Str.ofString "numbers", c1)])) Q E s := by
  revert X; k_fill; intro X
  (k_with "CompSrc" => (k_here; k_dflt (refine LCg.CompSrc.range (by rfl) (by k_asm) (by k_asm) (by assumption) (by first | decide | rfl) (by first | rfl | decide) (by first | size_fits | exact Nat.le_of_ble_eq_true rfl) ?_; intro g'; lcg_lit)))
  (k_with "CompEnd" => lcg_end)
  (k_with "eval Tuple" => (k_here; k_dflt (refine' elt_lights ?zzqB ?zzqF ?zzqX ?zzqT ?zzqC ?zzqx ?zzqN ?zzg1 ?zzg2 ?zzg3 ?zzqc ?zzqI ?zzh0 ?zzh1 ?zzh2 ?_; (case zzqB => k_asm); (case zzqF => k_asm); (case zzqX => k_asm); (case zzqT => k_asm); (case zzqN => k_asm); (case zzqC => assumption); (case zzqx => assumption); (case zzg1 => k_mem); (case zzg2 => k_mem); (case zzqc => with_reducible assumption); (case zzg3 => k_mem); (case zzqI => exact .cons _ _ (.cons _ _ (.cons _ _ (.cons _ _ (.cons _ _ .nil))))); (case zzh0 => decide); (case zzh1 => simp); (case zzh2 => decide); k_whole); intro D' t9 u9 h9 tk9 F9 N9 l9; (try k_lt l9)))
  unfold lawParts PySem.Challenge.pw_pg0203_01; dsimp only [lastDef, stmtsFrom]
  dsimp only [storedVal]
  k_steps
  (k_dflt (refine' sorted5b c3 ?F ?N ?l ?a ?b ?c ?d ?e ?y0 ?y1 ?y2 ?y3 ?y4 ?_; (case F => k_asm); (case N => k_asm); (case l => k_mem); (case a => k_mem); (case b => k_mem); (case c => k_mem); (case d => k_mem); (case e => k_mem); (case y0 => omega); (case y1 => omega); (case y2 => omega); (case y3 => omega); (case y4 => omega); k_whole))
  intro D9 e9 h9 S0 S1 S2 S3 S4 b0 b1 b2 b3 b4 k0 k1 k2 k3 k4 v0 v1 v2 v3 v4 w0 w1 w2 w3 w4 F9 N9 l9 y9 z9
  exact hret _ _ D9 S0 S1 S2 S3 S4 e9 b0 b1 b2 b3 b4 k0 k1 k2 k3 k4 v0 v1 v2 v3 v4 w0 w1 w2 w3 w4 F9 (cb_drop N9 (by lcg_sub)) y9 ⟨l9 _ (show (lR, _) ∈ _ by k_mem), l9 _ (show (lN, _) ∈ _ by k_mem), l9 _ (show (c3, _) ∈ _ by k_mem)⟩ z9
end Mine
end
section
theorem Mine.off_F7 : True := by
  w_top off
  (try walk1)
  k_with_none
  (k_with "lt" => (with_reducible first | assumption | ((fail_if_success (fail_if_success (refine' Mine.guardLt ?qg ?qh; (case qg => assumption)))); first | (refine' And.left ?qx; case qx => first | assumption | (refine' And.right ?qx; case qx => first | assumption | (refine' And.right ?qx; case qx => first | assumption | (refine' And.right ?qx; case qx => first | assumption | (refine' And.right ?qx; case qx => first | assumption | (refine' And.right ?qx; case qx => first | assumption | (refine' And.right ?qx; case qx => first | assumption | (refine' And.right ?qx; case qx => first | assumption | (refine' And.right ?qx; case qx => first | assumption | (refine' And.right ?qx; case qx => first | assumption | (refine' And.right ?qx; case qx => first | assumption | (refine' And.right ?qx; case qx => first | assumption | (refine' And.right ?qx; case qx => first | assumption | (refine' And.right ?qx; case qx => first | assumption | (refine' And.right ?qx; case qx => first | assumption | (refine' And.right ?qx; case qx => first | assumption | (refine' And.right ?qx; case qx => first | assumption | (refine' And.right ?qx; case qx => first | assumption | (refine' And.right ?qx; case qx => first | assumption | (refine' And.right ?qx; case qx => first | assumption | (refine' And.right ?qx; case qx => assumption))))))))))))))))))))) | (refine' And.right ?qx; case qx => first | assumption | (refine' And.right ?qx; case qx => first | assumption | (refine' And.right ?qx; case qx => first | assumption | (refine' And.right ?qx; case qx => first | assumption | (refine' And.right ?qx; case qx => first | assumption | (refine' And.right ?qx; case qx => first | assumption | (refine' And.right ?qx; case qx => first | assumption | (refine' And.right ?qx; case qx => first | assumption | (refine' And.right ?qx; case qx => first | assumption | (refine' And.right ?qx; case qx => first | assumption | (refine' And.right ?qx; case qx => first | assumption | (refine' And.right ?qx; case qx => first | assumption | (refine' And.right ?qx; case qx => first | assumption | (refine' And.right ?qx; case qx => first | assumption | (refine' And.right ?qx; case qx => first | assumption | (refine' And.right ?qx; case qx => first | assumption | (refine' And.right ?qx; case qx => first | assumption | (refine' And.right ?qx; case qx => first | assumption | (refine' And.right ?qx; case qx => first | assumption | (refine' And.right ?qx; case qx => first | assumption | (refine' And.right ?qx; case qx => assumption)))))))))))))))))))))) | (refine Nat.lt_trans ?_ (by assumption); k_extra "lt")))
  (k_with "omega" => (first | (with_reducible assumption) | (with_reducible exact Ne.symm (by assumption)) | (with_reducible refine Nat.ne_of_lt ?_; k_extra "lt") | (with_reducible refine Nat.ne_of_gt ?_; k_extra "lt") | ((with_reducible refine' Mine.room ?qx ?qy); (case qx => with_reducible assumption); (case qy => exact rfl)) | ((with_reducible refine' Mine.room2 ?qx ?qy); (case qx => with_reducible assumption); (case qy => exact rfl)) | ((with_reducible refine' Mine.room0 ?qx); (case qx => with_reducible assumption)) | (with_reducible refine Mine.isLt ?_; k_extra "lt")))
  trivial
open PySem PySem.W PyProof.Rows PySem.Calls PySem.Spec
namespace Mine
local macro_rules | `(tactic| lcg_off) => `(tactic| first
  | (simp only [LCg.Off3, and_true]; with_reducible assumption)
  | (refine And.intro ⟨by k_ne, by k_ne, by k_ne⟩ ?_; simp only [LCg.Off3, and_true]; with_reducible assumption))
set_option maxRecDepth 100000 in
set_option maxHeartbeats 2500000 in
theorem eval_hues {w : World} {mean : ExcName → Option Value} {mg mb : Str → Option Value} {dp un : Nat} {gd : Option (List Code)} {a : Addr} {ccd : Value} {outer : List Env} {A₀ : Around} {base h₀ : Heap} {L : Addr} {m : Str → Option Value} {s : Shared} {c1 c2 c3 lN lR : Addr} {o1 o2 o3 : Obj} {n0 n1 n2 n3 n4 : Int} {u0 u1 u2 u3 u4 : Tok} {nN : Nat} {lL x0 x1 x2 x3 x4 : Addr} {oR oL a0 a1 a2 a3 a4 : Obj} {Q E : Value → Shared → Prop} (B : Below A₀ base outer h₀) (F : Fr h₀ L s.heap m) (X : (Mine.hd.heap_39 w.params).In h₀) (T : Top topProg LOOSE mean mg mb h₀)
    (N : News h₀ L s.heap [(lL, oL), (x0, a0), (x1, a1), (x2, a2), (x3, a3), (x4, a4), (lR, oR), (lN, listOf #[.int n0 u0, .int n1 u1, .int n2 u2, .int n3 u3, .int n4 u4] nN), (c3, o3), (c2, o2), (c1, o1)]) (hc1 : o1.data = .cell (some (.ref lN)))
    (hd : dp + 9 < recursionLimit) (hu : un + 72 < cLine)
    (hret : ∀ h' tk' lH S0 S1 S2 S3 S4 c b0 b1 b2 b3 b4 k0 k1 k2 k3 k4 v0 v1 v2 v3 v4 w0 w1 w2 w3 w4, Fr h₀ L h' m → News h₀ L h' [(lH, listOf #[.ref S0, .ref S1, .ref S2, .ref S3, .ref S4] c), (S0, pr b0 k0 v0 w0), (S1, pr b1 k1 v1 w1), (S2, pr b2 k2 v2 w2), (S3, pr b3 k3 v3 w3), (S4, pr b4 k4 v4 w4),
      (lL, oL), (x0, a0), (x1, a1), (x2, a2), (x3, a3), (x4, a4), (lR, oR), (lN, listOf #[.int n0 u0, .int n1 u1, .int n2 u2, .int n3 u3, .int n4 u4] nN), (c3, o3), (c2, o2), (c1, o1)] →
      [k0, k1, k2, k3, k4] = (sortP [hueI n0, hueI n1, hueI n2, hueI n3, hueI n4]).map (fun i => ((i : Nat) : Int)) → Q (.ref lH) { s with heap := h', toks := tk' }) :
    wpAny (model PySem.Challenge.rw_pg0203_01.row.prog w) (ktrTop dp un gd (Str.ofString "law") lawParts.2 L a ccd [(Str.ofString "lights", c3), (Str.ofString "ranks", c2), (Str.ofString "numbers", c1)] outer) (eval (storedVal (stmtsFrom 3 lawParts.1)) (envX (Str.ofString "law") lawParts.2 L a ccd [(Str.ofString "lights", c3), (Str.ofString "ranks", c2), (Str.ofString "numbers", c1)])) Q E s := by
  revert X; k_fill; intro X
  (k_with "CompSrc" => (k_here; k_dflt (refine LCg.CompSrc.range (by rfl) (by k_asm) (by k_asm) (by assumption) (by first | decide | rfl) (by first | rfl | decide) (by first | size_fits | exact Nat.le_of_ble_eq_true rfl) ?_; intro g'; lcg_lit)))
  (k_with "CompEnd" => lcg_end)
  (k_with "eval Tuple" => (k_here; k_dflt (refine' elt_hues ?zzqB ?zzqF ?zzqX ?zzqT ?zzqC ?zzqx ?zzqN ?zzg1 ?zzg2 ?zzg3 ?zzqc ?zzqI ?zzh0 ?zzh1 ?zzh2 ?_; (case zzqB => k_asm); (case zzqF => k_asm); (case zzqX => k_asm); (case zzqT => k_asm); (case zzqN => k_asm); (case zzqC => assumption); (case zzqx => assumption); (case zzg1 => k_mem); (case zzg2 => k_mem); (case zzqc => with_reducible assumption); (case zzg3 => k_mem); (case zzqI => exact .cons _ _ (.cons _ _ (.cons _ _ (.cons _ _ (.cons _ _ .nil))))); (case zzh0 => decide); (case zzh1 => simp); (case zzh2 => decide); k_whole); intro D' t9 u9 h9 tk9 F9 N9 l9; (try k_lt l9)))
  unfold lawParts PySem.Challenge.pw_pg0203_01; dsimp only [lastDef, stmtsFrom]
  dsimp only [storedVal]
  k_steps
  (k_dflt (refine' sorted5b c3 ?F ?N ?l ?a ?b ?c ?d ?e ?y0 ?y1 ?y2 ?y3 ?y4 ?_; (case F => k_asm); (case N => k_asm); (case l => k_mem); (case a => k_mem); (case b => k_mem); (case c => k_mem); (case d => k_mem); (case e => k_mem); (case y0 => omega); (case y1 => omega); (case y2 => omega); (case y3 => omega); (case y4 => omega); k_whole))
  intro D9 e9 h9 S0 S1 S2 S3 S4 b0 b1 b2 b3 b4 k0 k1 k2 k3 k4 v0 v1 v2 v3 v4 w0 w1 w2 w3 w4 F9 N9 l9 y9 z9
  exact hret _ _ D9 S0 S1 S2 S3 S4 e9 b0 b1 b2 b3 b4 k0 k1 k2 k3 k4 v0 v1 v2 v3 v4 w0 w1 w2 w3 w4 F9 (cb_drop N9 (by lcg_sub)) z9
end Mine
end
section
theorem Mine.off_F8 : True := by
  w_top off
  (try walk1)
  k_with_none
  (k_with "lt" => (with_reducible first | assumption | ((fail_if_success (fail_if_success (refine' Mine.guardLt ?qg ?qh; (case qg => assumption)))); first | (refine' And.left ?qx; case qx => first | assumption | (refine' And.right ?qx; case qx => first | assumption | (refine' And.right ?qx; case qx => first | assumption | (refine' And.right ?qx; case qx => first | assumption | (refine' And.right ?qx; case qx => first | assumption | (refine' And.right ?qx; case qx => first | assumption | (refine' And.right ?qx; case qx => first | assumption | (refine' And.right ?qx; case qx => first | assumption | (refine' And.right ?qx; case qx => first | assumption | (refine' And.right ?qx; case qx => first | assumption | (refine' And.right ?qx; case qx => first | assumption | (refine' And.right ?qx; case qx => first | assumption | (refine' And.right ?qx; case qx => first | assumption | (refine' And.right ?qx; case qx => first | assumption | (refine' And.right ?qx; case qx => first | assumption | (refine' And.right ?qx; case qx => first | assumption | (refine' And.right ?qx; case qx => first | assumption | (refine' And.right ?qx; case qx => first | assumption | (refine' And.right ?qx; case qx => first | assumption | (refine' And.right ?qx; case qx => first | assumption | (refine' And.right ?qx; case qx => assumption))))))))))))))))))))) | (refine' And.right ?qx; case qx => first | assumption | (refine' And.right ?qx; case qx => first | assumption | (refine' And.right ?qx; case qx => first | assumption | (refine' And.right ?qx; case qx => first | assumption | (refine' And.right ?qx; case qx => first | assumption | (refine' And.right ?qx; case qx => first | assumption | (refine' And.right ?qx; case qx => first | assumption | (refine' And.right ?qx; case qx => first | assumption | (refine' And.right ?qx; case qx => first | assumption | (refine' And.right ?qx; case qx => first | assumption | (refine' And.right ?qx; case qx => first | assumption | (refine' And.right ?qx; case qx => first | assumption | (refine' And.right ?qx; case qx => first | assumption | (refine' And.right ?qx; case qx => first | assumption | (refine' And.right ?qx; case qx => first | assumption | (refine' And.right ?qx; case qx => first | assumption | (refine' And.right ?qx; case qx => first | assumption | (refine' And.right ?qx; case qx => first | assumption | (refine' And.right ?qx; case qx => first | assumption | (refine' And.right ?qx; case qx => first | assumption | (refine' And.right ?qx; case qx => assumption)))))))))))))))))))))) | (refine Nat.lt_trans ?_ (by assumption); k_extra "lt")))
  (k_with "omega" => (first | (with_reducible assumption) | (with_reducible exact Ne.symm (by assumption)) | (with_reducible refine Nat.ne_of_lt ?_; k_extra "lt") | (with_reducible refine Nat.ne_of_gt ?_; k_extra "lt") | ((with_reducible refine' Mine.room ?qx ?qy); (case qx => with_reducible assumption); (case qy => exact rfl)) | ((with_reducible refine' Mine.room2 ?qx ?qy); (case qx => with_reducible assumption); (case qy => exact rfl)) | ((with_reducible refine' Mine.room0 ?qx); (case qx => with_reducible assumption)) | (with_reducible refine Mine.isLt ?_; k_extra "lt")))
  trivial
open PySem PySem.W PyProof.Rows PySem.Calls PySem.Spec
namespace Mine
/-- ranks as law itself reckons them -/
noncomputable def rankI (ls hs : List Int) : List Int := ((sortP hs).map fun i => ((i : Nat) : Int)).map fun d => (((((sortP ls).map fun i => ((i : Nat) : Int)).idxOf d : Nat)) : Int)
set_option maxRecDepth 100000 in
set_option maxHeartbeats 2000000 in
theorem law_rest {w : World} {mean : ExcName → Option Value} {mg mb : Str → Option Value} {dp un : Nat} {gd : Option (List Code)} {a : Addr} {ccd : Value} {outer : List Env} {A₀ : Around} {base h₀ : Heap} {L : Addr} {m : Str → Option Value} {s : Shared} {c1 c2 c3 lN lR : Addr} {o1 o2 o3 : Obj} {v3 : Option Value} {n0 n1 n2 n3 n4 : Int} {u0 u1 u2 u3 u4 : Tok} {nN nR : Nat} {vR : List Value} {nsR : List Int} {Q : Flow → Shared → Prop} (B : Below A₀ base outer h₀) (F : Fr h₀ L s.heap m) (X : (Mine.hd.heap_39 w.params).In h₀) (T : Top topProg LOOSE mean mg mb h₀)
    (N : News h₀ L s.heap [(lR, listOf vR.toArray nR), (lN, listOf #[.int n0 u0, .int n1 u1, .int n2 u2, .int n3 u3, .int n4 u4] nN), (c3, o3), (c2, o2), (c1, o1)]) (hc1 : o1.data = .cell (some (.ref lN))) (hc2 : o2.data = .cell (some (.ref lR))) (hc3 : o3.data = .cell v3)
    (q1 : @LT.lt Nat _ c1 c2) (q2 : @LT.lt Nat _ c2 c3) (q3 : @LT.lt Nat _ c3 lN) (e1 : @Ne Nat c1 lR) (e2 : @Ne Nat c2 lR) (e3 : @Ne Nat c3 lR) (e4 : @Ne Nat lN lR)
    (IR : IntsAre vR nsR) (J : IsOrder nsR) (heq : nsR = rankI [lightI n0, lightI n1, lightI n2, lightI n3, lightI n4] [hueI n0, hueI n1, hueI n2, hueI n3, hueI n4])
    (hd : dp + 9 < recursionLimit) (hu : un + 72 < cLine)
    (hret : ∀ m' h' tk' news', Fr h₀ L h' m' → News h₀ L h' news' → Q (.ret (.bool true)) { s with heap := h', toks := tk' }) :
    wpAny (model PySem.Challenge.rw_pg0203_01.row.prog w) (ktrTop dp un gd (Str.ofString "law") lawParts.2 L a ccd [(Str.ofString "lights", c3), (Str.ofString "ranks", c2), (Str.ofString "numbers", c1)] outer) (execs (stmtsFrom 2 lawParts.1) (envX (Str.ofString "law") lawParts.2 L a ccd [(Str.ofString "lights", c3), (Str.ofString "ranks", c2), (Str.ofString "numbers", c1)])) Q (fun _ _ => False) s := by
  revert X; k_fill; intro X
  unfold lawParts PySem.Challenge.pw_pg0203_01; dsimp only [lastDef, stmtsFrom]
  iterate 2 (try (focus (first | (k_unfold; (try dsimp only)) | (k_end; wrow_close) | walk1 | (dsimp only; walk1) | (leave1; walk_say "STEP leave1"; try dsimp only) | fail "no step")))
  (k_dflt (refine' eval_lights ?qB ?qF ?qX ?qT ?qN hc1 ?qd ?qu ?_; (case qB => k_asm); (case qF => k_asm); (case qX => k_asm); (case qT => k_asm); (case qN => k_asm); (case qd => ktr_room); (case qu => ktr_units); k_whole))
  intro h9 tk9 lL S0 S1 S2 S3 S4 cL b0 b1 b2 b3 b4 k0 k1 k2 k3 k4 v0 v1 v2 v3 v4 w0 w1 w2 w3 w4 F9 N9 y9 g9 z9
  obtain ⟨y0, y1, y2, y3, y4⟩ := y9
  obtain ⟨g0, g1, g2⟩ := g9
  (try dsimp only)
  iterate 4 (try (focus (first | (k_unfold; (try dsimp only)) | (k_end; wrow_close) | walk1 | (dsimp only; walk1) | (leave1; walk_say "STEP leave1"; try dsimp only) | fail "no step")))
  (k_dflt (refine' eval_hues ?qB ?qF ?qX ?qT ?qN hc1 ?qd ?qu ?_; (case qB => k_asm); (case qF => k_asm); (case qX => k_asm); (case qT => k_asm); (case qN => k_asm); (case qd => ktr_room); (case qu => ktr_units); k_whole))
  intro h8 tk8 lH H0 H1 H2 H3 H4 cH f0 f1 f2 f3 f4 d0 d1 d2 d3 d4 x0 x1 x2 x3 x4 r0 r1 r2 r3 r4 F8 N8 z8
  (try dsimp only)
  have hm := sortP_mem z9 z8
  have heq2 : nsR = [(([k0, k1, k2, k3, k4].idxOf d0 : Nat) : Int), (([k0, k1, k2, k3, k4].idxOf d1 : Nat) : Int), (([k0, k1, k2, k3, k4].idxOf d2 : Nat) : Int), (([k0, k1, k2, k3, k4].idxOf d3 : Nat) : Int), (([k0, k1, k2, k3, k4].idxOf d4 : Nat) : Int)] := by
    unfold rankI at heq
    rw [← z8, ← z9] at heq
    exact heq
  clear heq z8 z9
  iterate 2 (try (focus (first | (k_unfold; (try dsimp only)) | (k_end; wrow_close) | walk1 | (dsimp only; walk1) | (leave1; walk_say "STEP leave1"; try dsimp only) | fail "no step")))
  refine take_join (k := 1) ?_
  (k_dflt (refine' wpAny_mono (front4 ?qB ?qF ?qX ?qT ?qm ?qN (hm d0 (by simp)) (hm d1 (by simp)) (hm d2 (by simp)) (hm d3 (by simp)) (hm d4 (by simp)) hc2 ?qc IR ?qd ?qu heq2 ?_) (fun _ _ x => x) (fun _ _ x => x.elim); (case qB => k_asm); (case qF => k_asm); (case qX => k_asm); (case qT => k_asm); (case qm => exact rfl); (case qN => k_asm); (case qc => assumption); (case qd => ktr_room); (case qu => ktr_units); k_whole))
  intro m7 h7 tk7 F7 N7
  clear heq2 hm
  obtain ⟨i0, i1, i2, i3, i4, s0, s1, s2, s3, s4, ek, ev⟩ := five_ints IR (order_inR J).1
  subst ek ev
  show wpAny _ _ (execs (stmtsFrom 5 lawParts.1) (envX (Str.ofString "law") lawParts.2 L a ccd [(Str.ofString "lights", c3), (Str.ofString "ranks", c2), (Str.ofString "numbers", c1)])) Q (fun _ _ => False) _
  (k_dflt (refine' wpAny_mono (tail_tells ?qB ?qF ?qX ?qT ?qN hc2 e2 J hd hu ?_) (fun _ _ x => x) (fun _ _ x => x.elim); (case qB => k_asm); (case qF => k_asm); (case qX => k_asm); (case qT => k_asm); (case qN => k_asm); k_whole))
  intro m6 h6 tk6 news6 F6 N6
  exact hret m6 h6 tk6 news6 F6 N6
end Mine
end
section
theorem Mine.off_H1 : True := by
  w_top off
  (try walk1)
  k_with_none
  (k_with "lt" => (with_reducible first | assumption | ((fail_if_success (fail_if_success (refine' Mine.guardLt ?qg ?qh; (case qg => assumption)))); first | (refine' And.left ?qx; case qx => first | assumption | (refine' And.right ?qx; case qx => first | assumption | (refine' And.right ?qx; case qx => first | assumption | (refine' And.right ?qx; case qx => first | assumption | (refine' And.right ?qx; case qx => first | assumption | (refine' And.right ?qx; case qx => first | assumption | (refine' And.right ?qx; case qx => first | assumption | (refine' And.right ?qx; case qx => first | assumption | (refine' And.right ?qx; case qx => first | assumption | (refine' And.right ?qx; case qx => first | assumption | (refine' And.right ?qx; case qx => first | assumption | (refine' And.right ?qx; case qx => first | assumption | (refine' And.right ?qx; case qx => first | assumption | (refine' And.right ?qx; case qx => first | assumption | (refine' And.right ?qx; case qx => first | assumption | (refine' And.right ?qx; case qx => first | assumption | (refine' And.right ?qx; case qx => first | assumption | (refine' And.right ?qx; case qx => first | assumption | (refine' And.right ?qx; case qx => first | assumption | (refine' And.right ?qx; case qx => first | assumption | (refine' And.right ?qx; case qx => assumption))))))))))))))))))))) | (refine' And.right ?qx; case qx => first | assumption | (refine' And.right ?qx; case qx => first | assumption | (refine' And.right ?qx; case qx => first | assumption | (refine' And.right ?qx; case qx => first | assumption | (refine' And.right ?qx; case qx => first | assumption | (refine' And.right ?qx; case qx => first | assumption | (refine' And.right ?qx; case qx => first | assumption | (refine' And.right ?qx; case qx => first | assumption | (refine' And.right ?qx; case qx => first | assumption | (refine' And.right ?qx; case qx => first | assumption | (refine' And.right ?qx; case qx => first | assumption | (refine' And.right ?qx; case qx => first | assumption | (refine' And.right ?qx; case qx => first | assumption | (refine' And.right ?qx; case qx => first | assumption | (refine' And.right ?qx; case qx => first | assumption | (refine' And.right ?qx; case qx => first | assumption | (refine' And.right ?qx; case qx => first | assumption | (refine' And.right ?qx; case qx => first | assumption | (refine' And.right ?qx; case qx => first | assumption | (refine' And.right ?qx; case qx => first | assumption | (refine' And.right ?qx; case qx => assumption)))))))))))))))))))))) | (refine Nat.lt_trans ?_ (by assumption); k_extra "lt")))
  (k_with "omega" => (first | (with_reducible assumption) | (with_reducible exact Ne.symm (by assumption)) | (with_reducible refine Nat.ne_of_lt ?_; k_extra "lt") | (with_reducible refine Nat.ne_of_gt ?_; k_extra "lt") | ((with_reducible refine' Mine.room ?qx ?qy); (case qx => with_reducible assumption); (case qy => exact rfl)) | ((with_reducible refine' Mine.room2 ?qx ?qy); (case qx => with_reducible assumption); (case qy => exact rfl)) | ((with_reducible refine' Mine.room0 ?qx); (case qx => with_reducible assumption)) | (with_reducible refine Mine.isLt ?_; k_extra "lt")))
  trivial
open PySem PySem.W PyProof.Rows PySem.Calls PySem.Spec PySem.Flt
namespace Mine
noncomputable def leftB (B : Int → Int → Bool) (ns : List Int) (k p : Int) : Bool := B k (ns.getD p.toNat 0)
noncomputable def insB (B : Int → Int → Bool) (ns : List Int) (k : Int) : List Int := insAt ns (bisGo (leftB B ns k) ns.length 0 ns.length) k
noncomputable def ordB (B : Int → Int → Bool) : List Int := insB B (insB B (insB B (insB B (insB B [] 0) 1) 2) 3) 4
theorem ordK_eq (key : Int → UInt64) : ordK key = ordB (fun i j => Float64.cmp (key i) (key j) == some Ordering.lt) := rfl
theorem bisGo_congr {l l' : Int → Bool} : ∀ (f : Nat) (lo hi : Int), 0 ≤ lo → (∀ p, lo ≤ p → p < hi → l p = l' p) → bisGo l f lo hi = bisGo l' f lo hi
  | 0, _, _, _, _ => rfl
  | f + 1, lo, hi, h0, h => by
    simp only [bisGo]
    by_cases q : lo < hi
    · rw [if_pos q, if_pos q, mid_eq, h ((lo + hi) / 2) (by lia) (by lia)]
      rw [bisGo_congr f lo ((lo + hi) / 2) h0 (fun p a b => h p a (by lia)), bisGo_congr f ((lo + hi) / 2 + 1) hi (by lia) (fun p a b => h p (by lia) b)]
    · rw [if_neg q, if_neg q]
theorem insB_congr {B B' : Int → Int → Bool} {ns : List Int} {k : Int} (h : ∀ x ∈ ns, B k x = B' k x) : insB B ns k = insB B' ns k := by
  unfold insB
  rw [bisGo_congr (l := leftB B ns k) (l' := leftB B' ns k) _ _ _ (Int.le_refl _) fun p a b => ?_]
  unfold leftB
  refine h _ ?_
  have hp : p.toNat < ns.length := by lia
  rw [List.getD_eq_getElem?_getD, List.getElem?_eq_getElem hp]
  exact List.getElem_mem hp
theorem mem_insB {B : Int → Int → Bool} {ns : List Int} {k x : Int} : x ∈ insB B ns k ↔ x = k ∨ x ∈ ns := by
  unfold insB insAt
  generalize (bisGo (leftB B ns k) ns.length 0 ns.length).toNat = c
  rw [List.mem_append, List.mem_cons]
  constructor
  · rintro (h | h | h)
    · exact .inr (List.mem_of_mem_take h)
    · exact .inl h
    · exact .inr (List.mem_of_mem_drop h)
  · rintro (h | h)
    · exact .inr (.inl h)
    · rw [← List.take_append_drop c ns, List.mem_append] at h
      rcases h with h | h
      · exact .inl h
      · exact .inr (.inr h)
theorem ordB_congr {B B' : Int → Int → Bool} (h : ∀ i j : Int, 0 ≤ j → j < i → i < 5 → B i j = B' i j) : ordB B = ordB B' := by
  have e0 : insB B [] 0 = insB B' [] 0 := insB_congr (by simp)
  have e1 : insB B (insB B [] 0) 1 = insB B' (insB B' [] 0) 1 := by
    rw [e0]; refine insB_congr fun x hx => h 1 x ?_ ?_ (by decide) <;> (simp only [mem_insB, List.not_mem_nil, or_false] at hx; lia)
  have e2 : insB B (insB B (insB B [] 0) 1) 2 = insB B' (insB B' (insB B' [] 0) 1) 2 := by
    rw [e1]; refine insB_congr fun x hx => h 2 x ?_ ?_ (by decide) <;> (simp only [mem_insB, List.not_mem_nil, or_false] at hx; lia)
  have e3 : insB B (insB B (insB B (insB B [] 0) 1) 2) 3 = insB B' (insB B' (insB B' (insB B' [] 0) 1) 2) 3 := by
    rw [e2]; refine insB_congr fun x hx => h 3 x ?_ ?_ (by decide) <;> (simp only [mem_insB, List.not_mem_nil, or_false] at hx; lia)
  unfold ordB
  rw [e3]
  refine insB_congr fun x hx => h 4 x ?_ ?_ (by decide) <;> (simp only [mem_insB, List.not_mem_nil, or_false] at hx; lia)
theorem kev_congr {α : Type} {o o' : Nat → Nat → Bool} (h : ∀ i j, i < 5 → j < 5 → o i j = o' i j) : ∀ t : KasT α, inb t = true → kev o t = kev o' t
  | .ret _, _ => rfl
  | .ask i j k, hb => by
    have h5 := hb
    unfold inb at h5
    simp only [Bool.and_eq_true, decide_eq_true_eq] at h5
    show kev o (k (o i j)) = kev o' (k (o' i j))
    rw [h i j h5.1.1.1 h5.1.1.2]
    exact kev_congr h (k (o' i j)) (inb_at hb _)
/-- ten answers: whether i comes before an earlier j -/
noncomputable def ofBits (l : List Bool) (i j : Nat) : Bool := if j < i then l.getD (i * (i - 1) / 2 + j) false else false
noncomputable def orcB (b : Nat → Nat → Bool) (i j : Nat) : Bool := if i < j then !(b j i) else if j < i then b i j else false
noncomputable def sortB (b : Nat → Nat → Bool) : List Int := (kev (orcB b) (kas_sort 5)).toList.map fun i => ((i : Nat) : Int)
noncomputable def ordN (b : Nat → Nat → Bool) : List Int := ordB fun i j => b i.toNat j.toNat
noncomputable def transB (b : Nat → Nat → Bool) : Bool := (List.range 5).all fun i => (List.range 5).all fun j => (List.range 5).all fun k => !(decide (i < j) && decide (j < k)) || ((!(b j i && b k j) || b k i) && ((b j i || b k j) || !b k i))
noncomputable def boolLists : Nat → List (List Bool)
  | 0 => [[]]
  | n + 1 => (boolLists n).flatMap fun l => [false :: l, true :: l]
theorem mem_boolLists : ∀ l : List Bool, l ∈ boolLists l.length
  | [] => by simp [boolLists]
  | b :: l => by
    simp only [List.length_cons, boolLists, List.mem_flatMap]
    exact ⟨l, mem_boolLists l, by cases b <;> simp⟩
/-- ten answers: the sort and the insertions give one order -/
noncomputable def bitP (l : List Bool) : Bool := !(transB (ofBits l)) || (decide (sortB (ofBits l) = ordN (ofBits l)) && decide (ordN (ofBits l)).Nodup)
set_option maxRecDepth 100000 in
theorem bits_ff : ((boolLists 8).all fun l => bitP (false :: false :: l)) = true := by decide +kernel
set_option maxRecDepth 100000 in
theorem bits_ft : ((boolLists 8).all fun l => bitP (false :: true :: l)) = true := by decide +kernel
set_option maxRecDepth 100000 in
theorem bits_tf : ((boolLists 8).all fun l => bitP (true :: false :: l)) = true := by decide +kernel
set_option maxRecDepth 100000 in
theorem bits_tt : ((boolLists 8).all fun l => bitP (true :: true :: l)) = true := by decide +kernel
theorem bits_all : ∀ (a b : Bool) (l : List Bool), l ∈ boolLists 8 → bitP (a :: b :: l) = true
  | false, false, l, h => List.all_eq_true.mp bits_ff l h
  | false, true, l, h => List.all_eq_true.mp bits_ft l h
  | true, false, l, h => List.all_eq_true.mp bits_tf l h
  | true, true, l, h => List.all_eq_true.mp bits_tt l h
end Mine
end
section
theorem Mine.off_H2 : True := by
  w_top off
  (try walk1)
  k_with_none
  (k_with "lt" => (with_reducible first | assumption | ((fail_if_success (fail_if_success (refine' Mine.guardLt ?qg ?qh; (case qg => assumption)))); first | (refine' And.left ?qx; case qx => first | assumption | (refine' And.right ?qx; case qx => first | assumption | (refine' And.right ?qx; case qx => first | assumption | (refine' And.right ?qx; case qx => first | assumption | (refine' And.right ?qx; case qx => first | assumption | (refine' And.right ?qx; case qx => first | assumption | (refine' And.right ?qx; case qx => first | assumption | (refine' And.right ?qx; case qx => first | assumption | (refine' And.right ?qx; case qx => first | assumption | (refine' And.right ?qx; case qx => first | assumption | (refine' And.right ?qx; case qx => first | assumption | (refine' And.right ?qx; case qx => first | assumption | (refine' And.right ?qx; case qx => first | assumption | (refine' And.right ?qx; case qx => first | assumption | (refine' And.right ?qx; case qx => first | assumption | (refine' And.right ?qx; case qx => first | assumption | (refine' And.right ?qx; case qx => first | assumption | (refine' And.right ?qx; case qx => first | assumption | (refine' And.right ?qx; case qx => first | assumption | (refine' And.right ?qx; case qx => first | assumption | (refine' And.right ?qx; case qx => assumption))))))))))))))))))))) | (refine' And.right ?qx; case qx => first | assumption | (refine' And.right ?qx; case qx => first | assumption | (refine' And.right ?qx; case qx => first | assumption | (refine' And.right ?qx; case qx => first | assumption | (refine' And.right ?qx; case qx => first | assumption | (refine' And.right ?qx; case qx => first | assumption | (refine' And.right ?qx; case qx => first | assumption | (refine' And.right ?qx; case qx => first | assumption | (refine' And.right ?qx; case qx => first | assumption | (refine' And.right ?qx; case qx => first | assumption | (refine' And.right ?qx; case qx => first | assumption | (refine' And.right ?qx; case qx => first | assumption | (refine' And.right ?qx; case qx => first | assumption | (refine' And.right ?qx; case qx => first | assumption | (refine' And.right ?qx; case qx => first | assumption | (refine' And.right ?qx; case qx => first | assumption | (refine' And.right ?qx; case qx => first | assumption | (refine' And.right ?qx; case qx => first | assumption | (refine' And.right ?qx; case qx => first | assumption | (refine' And.right ?qx; case qx => first | assumption | (refine' And.right ?qx; case qx => assumption)))))))))))))))))))))) | (refine Nat.lt_trans ?_ (by assumption); k_extra "lt")))
  (k_with "omega" => (first | (with_reducible assumption) | (with_reducible exact Ne.symm (by assumption)) | (with_reducible refine Nat.ne_of_lt ?_; k_extra "lt") | (with_reducible refine Nat.ne_of_gt ?_; k_extra "lt") | ((with_reducible refine' Mine.room ?qx ?qy); (case qx => with_reducible assumption); (case qy => exact rfl)) | ((with_reducible refine' Mine.room2 ?qx ?qy); (case qx => with_reducible assumption); (case qy => exact rfl)) | ((with_reducible refine' Mine.room0 ?qx); (case qx => with_reducible assumption)) | (with_reducible refine Mine.isLt ?_; k_extra "lt")))
  trivial
open PySem PySem.W PyProof.Rows PySem.Calls PySem.Spec PySem.Flt
namespace Mine
noncomputable def lessB (as : List Int) (i j : Nat) : Bool := decide (as.getD i 0 < as.getD j 0)
noncomputable def bitsOf (as : List Int) : List Bool := [lessB as 1 0, lessB as 2 0, lessB as 2 1, lessB as 3 0, lessB as 3 1, lessB as 3 2, lessB as 4 0, lessB as 4 1, lessB as 4 2, lessB as 4 3]
theorem bits_at {as : List Int} {i j : Nat} (h : j < i) (hi : i < 5) : ofBits (bitsOf as) i j = lessB as i j := by
  have hc : i = 1 ∨ i = 2 ∨ i = 3 ∨ i = 4 := by lia
  rcases hc with rfl | rfl | rfl | rfl
  · have hj : j = 0 := by lia
    subst hj; rfl
  · have hj : j = 0 ∨ j = 1 := by lia
    rcases hj with rfl | rfl <;> rfl
  · have hj : j = 0 ∨ j = 1 ∨ j = 2 := by lia
    rcases hj with rfl | rfl | rfl <;> rfl
  · have hj : j = 0 ∨ j = 1 ∨ j = 2 ∨ j = 3 := by lia
    rcases hj with rfl | rfl | rfl | rfl <;> rfl
theorem trans_bits (as : List Int) : transB (ofBits (bitsOf as)) = true := by
  unfold transB
  simp only [List.all_eq_true, List.mem_range]
  intro i hi j hj k hk
  by_cases h1 : i < j
  · by_cases h2 : j < k
    · rw [bits_at h1 hj, bits_at h2 hk, bits_at (Nat.lt_trans h1 h2) hk]
      unfold lessB
      by_cases a : as.getD j 0 < as.getD i 0 <;> by_cases b : as.getD k 0 < as.getD j 0 <;> by_cases c : as.getD k 0 < as.getD i 0 <;> simp [a, b, c, h1, h2] <;> lia
    · simp [h2]
  · simp [h1]
theorem orc_bits (as : List Int) {i j : Nat} (hi : i < 5) (hj : j < 5) : orc as i j = orcB (ofBits (bitsOf as)) i j := by
  unfold orc orcB
  by_cases h1 : i < j
  · rw [if_pos h1, bits_at h1 hj]
    unfold lessB
    by_cases a : as.getD i 0 = as.getD j 0
    · rw [if_pos a, decide_eq_true h1, decide_eq_false (by lia)]; rfl
    · rw [if_neg a]
      by_cases b : as.getD i 0 < as.getD j 0
      · rw [decide_eq_true b, decide_eq_false (by lia)]; rfl
      · rw [decide_eq_false b, decide_eq_true (by lia)]; rfl
  · rw [if_neg h1]
    by_cases h2 : j < i
    · rw [if_pos h2, bits_at h2 hi]
      unfold lessB
      by_cases a : as.getD i 0 = as.getD j 0
      · rw [if_pos a, decide_eq_false h1, decide_eq_false (by lia)]
      · rw [if_neg a]
    · rw [if_neg h2]
      have e : i = j := by lia
      subst e
      rw [if_pos rfl, decide_eq_false h1]
theorem sort_ord {as : List Int} {key : Int → UInt64} (h : ∀ i j : Nat, i < 5 → j < 5 → (Float64.cmp (key (i : Int)) (key (j : Int)) == some Ordering.lt) = decide (as.getD i 0 < as.getD j 0)) :
    ((sortP as).map fun i => ((i : Nat) : Int)) = ordK key ∧ (ordK key).Nodup := by
  have h1 : bitP (bitsOf as) = true := bits_all _ _ _ (mem_boolLists [lessB as 2 1, lessB as 3 0, lessB as 3 1, lessB as 3 2, lessB as 4 0, lessB as 4 1, lessB as 4 2, lessB as 4 3])
  unfold bitP at h1
  rw [trans_bits as] at h1
  simp only [Bool.not_true, Bool.false_or, Bool.and_eq_true, decide_eq_true_eq] at h1
  obtain ⟨h1, h2⟩ := h1
  have e1 : ((sortP as).map fun i => ((i : Nat) : Int)) = sortB (ofBits (bitsOf as)) := by
    unfold sortP sortB
    rw [kev_congr (fun i j hi hj => orc_bits as hi hj) _ inb_sort]
  have e2 : ordK key = ordN (ofBits (bitsOf as)) := by
    rw [ordK_eq]
    unfold ordN
    refine ordB_congr fun i j h0 hji hi => ?_
    have hh := h i.toNat j.toNat (by lia) (by lia)
    rw [show ((i.toNat : Nat) : Int) = i by lia, show ((j.toNat : Nat) : Int) = j by lia] at hh
    rw [hh, bits_at (by lia) (by lia)]
    rfl
  rw [e1, e2]
  exact ⟨h1, h2⟩
theorem idx5 {P : Nat → Prop} (h0 : P 0) (h1 : P 1) (h2 : P 2) (h3 : P 3) (h4 : P 4) : ∀ i, i < 5 → P i := by
  intro i hi
  have : i = 0 ∨ i = 1 ∨ i = 2 ∨ i = 3 ∨ i = 4 := by lia
  rcases this with rfl | rfl | rfl | rfl | rfl <;> assumption
/-- keys in the order of the numbers that they came from -/
theorem keyL_at (x0 x1 x2 x3 x4 : UInt64) : keyL x0 x1 x2 x3 x4 ((0 : Nat) : Int) = x0 ∧ keyL x0 x1 x2 x3 x4 ((1 : Nat) : Int) = x1 ∧ keyL x0 x1 x2 x3 x4 ((2 : Nat) : Int) = x2 ∧ keyL x0 x1 x2 x3 x4 ((3 : Nat) : Int) = x3 ∧ keyL x0 x1 x2 x3 x4 ((4 : Nat) : Int) = x4 := ⟨rfl, rfl, rfl, rfl, rfl⟩
theorem keys_like {f : Nat → UInt64} {M : Nat} (hf : ∀ a b, a < M → b < M → (Float64.cmp (f a) (f b) == some Ordering.lt) = decide (a < b)) {k0 k1 k2 k3 k4 : Nat} (g0 : k0 < M) (g1 : k1 < M) (g2 : k2 < M) (g3 : k3 < M) (g4 : k4 < M) :
    ∀ i j : Nat, i < 5 → j < 5 → (Float64.cmp (keyL (f k0) (f k1) (f k2) (f k3) (f k4) (i : Int)) (keyL (f k0) (f k1) (f k2) (f k3) (f k4) (j : Int)) == some Ordering.lt) = decide (([(k0 : Int), k1, k2, k3, k4] : List Int).getD i 0 < ([(k0 : Int), k1, k2, k3, k4] : List Int).getD j 0) := by
  have key : ∀ i, i < 5 → ∃ k, k < M ∧ keyL (f k0) (f k1) (f k2) (f k3) (f k4) ((i : Nat) : Int) = f k ∧ ([(k0 : Int), k1, k2, k3, k4] : List Int).getD i 0 = (k : Int) :=
    idx5 ⟨k0, g0, rfl, rfl⟩ ⟨k1, g1, rfl, rfl⟩ ⟨k2, g2, rfl, rfl⟩ ⟨k3, g3, rfl, rfl⟩ ⟨k4, g4, rfl, rfl⟩
  intro i j hi hj
  obtain ⟨a, ha, ea, va⟩ := key i hi
  obtain ⟨b, hb, eb, vb⟩ := key j hj
  rw [ea, eb, va, vb, hf a b ha hb]
  by_cases q : a < b
  · rw [decide_eq_true q, decide_eq_true (by lia)]
  · rw [decide_eq_false q, decide_eq_false (by lia)]
theorem hue_cmp {a b : Nat} (ha : a < 8) (hb : b < 8) : (Float64.cmp (hueN a) (hueN b) == some Ordering.lt) = decide (a < b) := by
  have h := cmp_hues
  simp only [List.all_eq_true, List.mem_range] at h
  exact eq_of_beq (h a ha b hb)
theorem light_cmp {a b : Nat} (ha : a < 29) (hb : b < 29) : (Float64.cmp (Float64.ofFrac false a 32) (Float64.ofFrac false b 32) == some Ordering.lt) = decide (a < b) := by
  have h := cmp_lights
  simp only [List.all_eq_true, List.mem_range] at h
  exact eq_of_beq (h a ha b hb)
theorem hueI_eq (n : Int) : hueI n = ((hN n : Nat) : Int) := hN_eq n
noncomputable def lN (n : Int) : Nat := (1 + vN n) * (7 - sN n)
theorem lightI_eq (n : Int) : lightI n = ((lN n : Nat) : Int) := by
  have h1 := sN_eq n
  have h2 := vN_eq n
  have h3 := sN_lt n
  unfold lightI lN
  rw [h2, show (7 - (n.fdiv 8).fmod 4) = ((7 - sN n : Nat) : Int) by lia]
  exact (Int.natCast_mul _ _).symm
theorem lN_lt (n : Int) : lN n < 29 := by
  have h2 := vN_lt n
  have h3 := sN_lt n
  unfold lN
  have : (1 + vN n) * (7 - sN n) ≤ 4 * 7 := Nat.mul_le_mul (by lia) (by lia)
  lia
theorem ranks_eq (n0 n1 n2 n3 n4 : Int) : ranksK (keyH n0 n1 n2 n3 n4) (keyV n0 n1 n2 n3 n4) = rankI [lightI n0, lightI n1, lightI n2, lightI n3, lightI n4] [hueI n0, hueI n1, hueI n2, hueI n3, hueI n4] := by
  have hH := (sort_ord (keys_like (f := hueN) (M := 8) (fun a b ha hb => hue_cmp ha hb) (hN_lt n0) (hN_lt n1) (hN_lt n2) (hN_lt n3) (hN_lt n4))).1
  have hV := (sort_ord (keys_like (f := fun k => Float64.ofFrac false k 32) (M := 29) (fun a b ha hb => light_cmp ha hb) (lN_lt n0) (lN_lt n1) (lN_lt n2) (lN_lt n3) (lN_lt n4))).1
  unfold ranksK rankI
  rw [hueI_eq, hueI_eq, hueI_eq, hueI_eq, hueI_eq, lightI_eq, lightI_eq, lightI_eq, lightI_eq, lightI_eq]
  rw [hH, hV]
  rfl
/-- any list of five ints of 0 .. 4, no two alike, is an order -/
noncomputable def lists5 : Nat → List (List Int)
  | 0 => [[]]
  | n + 1 => (lists5 n).flatMap fun l => [0 :: l, 1 :: l, 2 :: l, 3 :: l, 4 :: l]
theorem mem_lists5 : ∀ l : List Int, (∀ x ∈ l, 0 ≤ x ∧ x < 5) → l ∈ lists5 l.length
  | [], _ => by simp [lists5]
  | b :: l, h => by
    simp only [List.length_cons, lists5, List.mem_flatMap]
    refine ⟨l, mem_lists5 l fun x hx => h x (by simp [hx]), ?_⟩
    have := h b (by simp)
    have : b = 0 ∨ b = 1 ∨ b = 2 ∨ b = 3 ∨ b = 4 := by lia
    rcases this with rfl | rfl | rfl | rfl | rfl <;> simp
set_option maxRecDepth 100000 in
theorem nodup_all : ((lists5 5).all fun l => !decide l.Nodup || decide (l ∈ perms [0, 1, 2, 3, 4])) = true := by decide +kernel
theorem order_of {l : List Int} (h5 : l.length = 5) (hm : ∀ x ∈ l, 0 ≤ x ∧ x < 5) (hn : l.Nodup) : IsOrder l := by
  have h := nodup_all
  rw [List.all_eq_true] at h
  have h1 := h l (h5 ▸ mem_lists5 l hm)
  rw [decide_eq_true hn] at h1
  show l ∈ perms [0, 1, 2, 3, 4]
  simpa using h1
theorem ranks_order (n0 n1 n2 n3 n4 : Int) : IsOrder (ranksK (keyH n0 n1 n2 n3 n4) (keyV n0 n1 n2 n3 n4)) := by
  have hH := (sort_ord (keys_like (f := hueN) (M := 8) (fun a b ha hb => hue_cmp ha hb) (hN_lt n0) (hN_lt n1) (hN_lt n2) (hN_lt n3) (hN_lt n4))).2
  refine order_of ?_ ?_ ?_
  · unfold ranksK; rw [List.length_map, ordK_length]
  · intro x hx
    unfold ranksK at hx
    simp only [List.mem_map] at hx
    obtain ⟨k, hk, rfl⟩ := hx
    have hl := List.idxOf_lt_length_iff.mpr (mem_ordK (kb := keyV n0 n1 n2 n3 n4) hk)
    rw [ordK_length] at hl
    lia
  · unfold ranksK
    refine List.pairwise_map.mpr (List.Pairwise.imp_of_mem (fun {a b} ha hb hab e => hab ?_) hH)
    have e' : (ordK (keyV n0 n1 n2 n3 n4)).idxOf a = (ordK (keyV n0 n1 n2 n3 n4)).idxOf b := by lia
    have ha' := List.idxOf_lt_length_iff.mpr (mem_ordK (kb := keyV n0 n1 n2 n3 n4) ha)
    have hb' := List.idxOf_lt_length_iff.mpr (mem_ordK (kb := keyV n0 n1 n2 n3 n4) hb)
    have g1 := List.getElem_idxOf ha'
    have g2 := List.getElem_idxOf hb'
    rw [← g1, ← g2]
    congr 1
end Mine
end
section
theorem Mine.off_T0 : True := by
  w_top off
  (try walk1)
  k_with_none
  (k_with "lt" => (with_reducible first | assumption | ((fail_if_success (fail_if_success (refine' Mine.guardLt ?qg ?qh; (case qg => assumption)))); first | (refine' And.left ?qx; case qx => first | assumption | (refine' And.right ?qx; case qx => first | assumption | (refine' And.right ?qx; case qx => first | assumption | (refine' And.right ?qx; case qx => first | assumption | (refine' And.right ?qx; case qx => first | assumption | (refine' And.right ?qx; case qx => first | assumption | (refine' And.right ?qx; case qx => first | assumption | (refine' And.right ?qx; case qx => first | assumption | (refine' And.right ?qx; case qx => first | assumption | (refine' And.right ?qx; case qx => first | assumption | (refine' And.right ?qx; case qx => first | assumption | (refine' And.right ?qx; case qx => first | assumption | (refine' And.right ?qx; case qx => first | assumption | (refine' And.right ?qx; case qx => first | assumption | (refine' And.right ?qx; case qx => first | assumption | (refine' And.right ?qx; case qx => first | assumption | (refine' And.right ?qx; case qx => first | assumption | (refine' And.right ?qx; case qx => first | assumption | (refine' And.right ?qx; case qx => first | assumption | (refine' And.right ?qx; case qx => first | assumption | (refine' And.right ?qx; case qx => assumption))))))))))))))))))))) | (refine' And.right ?qx; case qx => first | assumption | (refine' And.right ?qx; case qx => first | assumption | (refine' And.right ?qx; case qx => first | assumption | (refine' And.right ?qx; case qx => first | assumption | (refine' And.right ?qx; case qx => first | assumption | (refine' And.right ?qx; case qx => first | assumption | (refine' And.right ?qx; case qx => first | assumption | (refine' And.right ?qx; case qx => first | assumption | (refine' And.right ?qx; case qx => first | assumption | (refine' And.right ?qx; case qx => first | assumption | (refine' And.right ?qx; case qx => first | assumption | (refine' And.right ?qx; case qx => first | assumption | (refine' And.right ?qx; case qx => first | assumption | (refine' And.right ?qx; case qx => first | assumption | (refine' And.right ?qx; case qx => first | assumption | (refine' And.right ?qx; case qx => first | assumption | (refine' And.right ?qx; case qx => first | assumption | (refine' And.right ?qx; case qx => first | assumption | (refine' And.right ?qx; case qx => first | assumption | (refine' And.right ?qx; case qx => first | assumption | (refine' And.right ?qx; case qx => assumption)))))))))))))))))))))) | (refine Nat.lt_trans ?_ (by assumption); k_extra "lt")))
  (k_with "omega" => (first | (with_reducible assumption) | (with_reducible exact Ne.symm (by assumption)) | (with_reducible refine Nat.ne_of_lt ?_; k_extra "lt") | (with_reducible refine Nat.ne_of_gt ?_; k_extra "lt") | ((with_reducible refine' Mine.room ?qx ?qy); (case qx => with_reducible assumption); (case qy => exact rfl)) | ((with_reducible refine' Mine.room2 ?qx ?qy); (case qx => with_reducible assumption); (case qy => exact rfl)) | ((with_reducible refine' Mine.room0 ?qx); (case qx => with_reducible assumption)) | (with_reducible refine Mine.isLt ?_; k_extra "lt")))
  trivial
open PySem PySem.W PyProof.Rows PySem.Calls PySem.Spec
namespace Mine
/-- an object of the ledger that no one changes any more goes into the ground -/
theorem rebase {h₀ h : Heap} {L P : Addr} {m : Str → Option Value} {ps : Array Value} {news : List (Addr × Obj)} (F : Fr h₀ L h m) (hP : (P, tabObj ps) ∈ news) (N : News h₀ L h news) (hsz : @LT.lt Nat _ P h₀.objs.size) :
    ∃ g : Heap, (∀ b o, h₀.get? b = some o → g.get? b = some o) ∧ g.get? P = some (tabObj ps) ∧ Fr g L h m ∧ ∀ news', (∀ p ∈ news', p ∈ news ∧ p.1 ≠ P) → News g L h news' := by
  have z := N _ hP
  have hne : ∀ b, b ≠ P → ({ h₀ with objs := h₀.objs.set P (tabObj ps) hsz } : Heap).get? b = h₀.get? b := fun b hb => by
    unfold Heap.get?
    simp only [Array.getElem?_set, if_neg (Ne.symm hb)]
  have hat : ({ h₀ with objs := h₀.objs.set P (tabObj ps) hsz } : Heap).get? P = some (tabObj ps) := by
    unfold Heap.get?
    simp only [Array.getElem?_set, if_true]
  have hk : ∀ b o, h₀.get? b = some o → ({ h₀ with objs := h₀.objs.set P (tabObj ps) hsz } : Heap).get? b = some o := fun b o e => by
    by_cases q : b = P
    · subst q; rw [z.2.2] at e; cases e
    · rw [hne b q]; exact e
  refine ⟨_, hk, hat, ⟨F.ns, fun b o e => ?_, ?_⟩, fun news' hs p hp => ?_⟩
  · by_cases q : b = P
    · subst q; rw [hat] at e; cases e; exact z.1
    · rw [hne b q] at e; exact F.keep b o e
  · show (h₀.objs.set P (tabObj ps) hsz).size ≤ L
    rw [Array.size_set]; exact F.above
  · have y := N p (hs p hp).1
    exact ⟨y.1, y.2.1, by rw [hne _ (hs p hp).2]; exact y.2.2⟩
theorem unbase {h₀ g h h' : Heap} {L P : Addr} {m : Str → Option Value} {ps : Array Value} {news news' : List (Addr × Obj)} (hk : ∀ b o, h₀.get? b = some o → g.get? b = some o) (hg : g.get? P = some (tabObj ps)) (hP : (P, tabObj ps) ∈ news) (N : News h₀ L h news) (hab : @LE.le Nat _ h₀.objs.size L) (F : Fr g L h' m) (N' : News g L h' news') :
    Fr h₀ L h' m ∧ News h₀ L h' ((P, tabObj ps) :: news') := by
  have z := N _ hP
  refine ⟨⟨F.ns, fun b o e => F.keep b o (hk b o e), hab⟩, fun p hp => ?_⟩
  rcases List.mem_cons.mp hp with rfl | hp
  · exact ⟨F.keep _ _ hg, z.2⟩
  · have y := N' p hp
    refine ⟨y.1, y.2.1, ?_⟩
    cases e : h₀.get? p.1 with
    | none => rfl
    | some o => rw [hk _ _ e] at y; cases y.2.2
theorem law_rest2 {w : World} {mean : ExcName → Option Value} {mg mb : Str → Option Value} {dp un : Nat} {gd : Option (List Code)} {a : Addr} {ccd : Value} {h₀ : Heap} {L : Addr} {m : Str → Option Value} {s : Shared} {ps : Array Value}
    {c1 c2 c3 lN lR : Addr} {o1 o2 o3 : Obj} {v3 : Option Value} {n0 n1 n2 n3 n4 : Int} {u0 u1 u2 u3 u4 : Tok} {nN nR : Nat} {vR : List Value} {nsR : List Int} {Q : Flow → Shared → Prop} (F : Fr h₀ L s.heap m) (X : (Mine.hd.heap_39 w.params).In h₀) (T : Top topProg LOOSE mean mg mb h₀)
    (N : News h₀ L s.heap [(lR, listOf vR.toArray nR), (lN, listOf #[.int n0 u0, .int n1 u1, .int n2 u2, .int n3 u3, .int n4 u4] nN), (c3, o3), (c2, o2), (c1, o1), (76, tabObj ps)]) (hsz : @LT.lt Nat _ 76 h₀.objs.size) (hc1 : o1.data = .cell (some (.ref lN))) (hc2 : o2.data = .cell (some (.ref lR))) (hc3 : o3.data = .cell v3)
    (q0 : @LT.lt Nat _ 76 c1) (q1 : @LT.lt Nat _ c1 c2) (q2 : @LT.lt Nat _ c2 c3) (q3 : @LT.lt Nat _ c3 lN) (e0 : @Ne Nat 76 lR) (e1 : @Ne Nat c1 lR) (e2 : @Ne Nat c2 lR) (e3 : @Ne Nat c3 lR) (e4 : @Ne Nat lN lR)
    (IR : IntsAre vR nsR) (J : IsOrder nsR) (heq : nsR = rankI [lightI n0, lightI n1, lightI n2, lightI n3, lightI n4] [hueI n0, hueI n1, hueI n2, hueI n3, hueI n4])
    (hd : dp + 9 < recursionLimit) (hu : un + 72 < cLine)
    (hret : ∀ m' h' tk' news', Fr h₀ L h' m' → News h₀ L h' ((76, tabObj ps) :: news') → Q (.ret (.bool true)) { s with heap := h', toks := tk' }) :
    wpAny (model PySem.Challenge.rw_pg0203_01.row.prog w) (ktrTop dp un gd (Str.ofString "law") lawParts.2 L a ccd [(Str.ofString "lights", c3), (Str.ofString "ranks", c2), (Str.ofString "numbers", c1)] []) (execs (stmtsFrom 2 lawParts.1) (envX (Str.ofString "law") lawParts.2 L a ccd [(Str.ofString "lights", c3), (Str.ofString "ranks", c2), (Str.ofString "numbers", c1)])) Q (fun _ _ => False) s := by
  have hP : ((76 : Addr), tabObj ps) ∈ [(lR, listOf vR.toArray nR), (lN, listOf #[.int n0 u0, .int n1 u1, .int n2 u2, .int n3 u3, .int n4 u4] nN), (c3, o3), (c2, o2), (c1, o1), (76, tabObj ps)] := by k_mem
  obtain ⟨g, hk, hg, F', N'⟩ := rebase F hP N hsz
  refine law_rest (nR := nR) (nN := nN) (u0 := u0) (u1 := u1) (u2 := u2) (u3 := u3) (u4 := u4) (below_caller g) F' (X.keeps hk) (T.keeps hk) (N' _ fun p hp => ⟨?_, ?_⟩) hc1 hc2 hc3 q1 q2 q3 e1 e2 e3 e4 IR J heq hd hu fun m' h' tk' news' F2 N2 => ?_
  · simp only [List.mem_cons, List.not_mem_nil, or_false] at hp ⊢
    rcases hp with h | h | h | h | h <;> simp [h]
  · simp only [List.mem_cons, List.not_mem_nil, or_false] at hp
    rcases hp with rfl | rfl | rfl | rfl | rfl
    · exact Ne.symm e0
    all_goals (refine neN ?_; try dsimp only); omega
  · obtain ⟨F3, N3⟩ := unbase hk hg hP N F.above F2 N2
    exact hret m' h' tk' news' F3 N3
end Mine
end
section
theorem Mine.off_T1 : True := by
  w_top off
  (try walk1)
  k_with_none
  (k_with "lt" => (with_reducible first | assumption | ((fail_if_success (fail_if_success (refine' Mine.guardLt ?qg ?qh; (case qg => assumption)))); first | (refine' And.left ?qx; case qx => first | assumption | (refine' And.right ?qx; case qx => first | assumption | (refine' And.right ?qx; case qx => first | assumption | (refine' And.right ?qx; case qx => first | assumption | (refine' And.right ?qx; case qx => first | assumption | (refine' And.right ?qx; case qx => first | assumption | (refine' And.right ?qx; case qx => first | assumption | (refine' And.right ?qx; case qx => first | assumption | (refine' And.right ?qx; case qx => first | assumption | (refine' And.right ?qx; case qx => first | assumption | (refine' And.right ?qx; case qx => first | assumption | (refine' And.right ?qx; case qx => first | assumption | (refine' And.right ?qx; case qx => first | assumption | (refine' And.right ?qx; case qx => first | assumption | (refine' And.right ?qx; case qx => first | assumption | (refine' And.right ?qx; case qx => first | assumption | (refine' And.right ?qx; case qx => first | assumption | (refine' And.right ?qx; case qx => first | assumption | (refine' And.right ?qx; case qx => first | assumption | (refine' And.right ?qx; case qx => first | assumption | (refine' And.right ?qx; case qx => assumption))))))))))))))))))))) | (refine' And.right ?qx; case qx => first | assumption | (refine' And.right ?qx; case qx => first | assumption | (refine' And.right ?qx; case qx => first | assumption | (refine' And.right ?qx; case qx => first | assumption | (refine' And.right ?qx; case qx => first | assumption | (refine' And.right ?qx; case qx => first | assumption | (refine' And.right ?qx; case qx => first | assumption | (refine' And.right ?qx; case qx => first | assumption | (refine' And.right ?qx; case qx => first | assumption | (refine' And.right ?qx; case qx => first | assumption | (refine' And.right ?qx; case qx => first | assumption | (refine' And.right ?qx; case qx => first | assumption | (refine' And.right ?qx; case qx => first | assumption | (refine' And.right ?qx; case qx => first | assumption | (refine' And.right ?qx; case qx => first | assumption | (refine' And.right ?qx; case qx => first | assumption | (refine' And.right ?qx; case qx => first | assumption | (refine' And.right ?qx; case qx => first | assumption | (refine' And.right ?qx; case qx => first | assumption | (refine' And.right ?qx; case qx => first | assumption | (refine' And.right ?qx; case qx => assumption)))))))))))))))))))))) | (refine Nat.lt_trans ?_ (by assumption); k_extra "lt")))
  (k_with "omega" => (first | (with_reducible assumption) | (with_reducible exact Ne.symm (by assumption)) | (with_reducible refine Nat.ne_of_lt ?_; k_extra "lt") | (with_reducible refine Nat.ne_of_gt ?_; k_extra "lt") | ((with_reducible refine' Mine.room ?qx ?qy); (case qx => with_reducible assumption); (case qy => exact rfl)) | ((with_reducible refine' Mine.room2 ?qx ?qy); (case qx => with_reducible assumption); (case qy => exact rfl)) | ((with_reducible refine' Mine.room0 ?qx); (case qx => with_reducible assumption)) | (with_reducible refine Mine.isLt ?_; k_extra "lt")))
  trivial
open PySem PySem.W PyProof.Rows
namespace Mine
theorem news_cut3 {h₀ h : Heap} {L : Addr} {a b c d : Addr × Obj} {rest : List (Addr × Obj)} (N : News h₀ L h (a :: b :: c :: d :: rest)) : News h₀ L h (a :: rest) := fun p hp => N p (by
  rcases List.mem_cons.mp hp with rfl | hp
  · exact .head _
  · exact .tail _ (.tail _ (.tail _ (.tail _ hp))))
theorem five_len (ns : List Int) : (ns.take 5 ++ [35, 66, 0, 102, 4].drop ns.length).length = 5 := by simp; lia
local macro_rules | `(tactic| walk_at "call ref") => `(tactic| (fail "by hand"))
set_option maxRecDepth 100000 in
set_option maxHeartbeats 8000000 in
theorem law_holds : PySem.Challenge.rw_pg0203_01.Holds := Mine.hd (by
  (k_with "subscriptTail List cons Slice ref ref" => (k_here; k_dflt (refine kba_turn (value' := PySem.Expr.Name (PySem.Str.ofString "_") ⟨0, 0, 0, 0⟩) (fun _ => rfl) ?_); k_dflt (refine' kmk_slice_ints ?zzF ?zzN ?zzl ?zzp ?zzq ?zzi ?zzm ?zzc ?_ ?zzs ?zzt ?zzz; (case zzF => k_asm); (case zzN => k_asm); (case zzl => kmk_list); (case zzp => kmk_part); (case zzq => kmk_part); (case zzi => exact .cons _ _ (.cons _ _ (.cons _ _ (.cons _ _ (.cons _ _ .nil))))); (case zzm => exact kmk_from (.cons _ _ (.cons _ _ (.cons _ _ (.cons _ _ (.cons _ _ .nil))))) (Int.natCast_nonneg _)); (case zzc => exact List.length_drop ..); (case zzs => with_unfolding_all rfl); (case zzt => kmk_pure); (case zzz => exact Nat.le_of_ble_eq_true rfl)); intro D' ws' h' F' N' l1 hI' hC' hL'; (try simp only [Int.toNat_natCast] at hI' hC' hL'); (try k_lt l1); (try k_sweep)))
  k_go0
  (all_goals try k_fold)
  iterate 49 (try (focus (first | (k_unfold; (try dsimp only)) | (k_end; wrow_close) | walk1 | (dsimp only; walk1) | (leave1; walk_say "STEP leave1"; try dsimp only) | fail "no step")))
  (rename IntsAre _ (List.take 5 _ ++ _) => hI5)
  obtain ⟨n0, n1, n2, n3, n4, u0, u1, u2, u3, u4, e5, ev⟩ := five_ints hI5 (five_len _)
  subst ev
  clear hI5 e5
  (rename CodeHd _ _ _ => hCd)
  (k_dflt (refine' order_tells ?k1 ?k2 ?k3 ?k5 ?kK ?kN hCd ?q1 ?q2 ?q3 ?q4 ?kd ?ku ?_; (case k1 => k_asm); (case k2 => k_asm); (case k3 => k_asm); (case k5 => k_asm); (case kK => first | exact rfl | assumption); (case kN => exact news_cut3 (by k_asm)); (case q1 => omega); (case q2 => omega); (case q3 => omega); (case q4 => omega); (case kd => ktr_room); (case ku => ktr_units); k_whole))
  intro o9 l9 vR9 n9 h9 tk9 F9 N9 I9 e9
  obtain ⟨e91, e92, e93, e94, e95⟩ := e9
  (try dsimp only)
  iterate 2 (try (focus (first | (k_unfold; (try dsimp only)) | (k_end; wrow_close) | walk1 | (dsimp only; walk1) | (leave1; walk_say "STEP leave1"; try dsimp only) | fail "no step")))
  (rename News _ _ _ _ => hNn)
  (try simp only [List.cons_append, List.nil_append] at hNn)
  have hro := ranks_order n0 n1 n2 n3 n4
  have hre := ranks_eq n0 n1 n2 n3 n4
  (k_dflt (refine' wpAny_mono (law_rest2 ?qF ?qX ?qT ?qN ?qs ?h1 ?h2 ?h3 ?q0 ?q1 ?q2 ?q3 ?e0 ?e1 ?e2 ?e3 ?e4 I9 hro hre ?qd ?qu ?_) (fun _ _ x => x) (fun _ _ x => x.elim); (case qF => k_asm); (case qX => k_asm); (case qT => k_asm); (case qN => exact hNn); (case qs => exact Nat.lt_of_lt_of_eq (by assumption) (hideAll_size _ _).symm); (case h1 => with_reducible assumption); (case h2 => with_reducible assumption); (case h3 => with_reducible assumption); (case q0 => omega); (case q1 => omega); (case q2 => omega); (case q3 => omega); (case e0 => omega); (case e1 => omega); (case e2 => omega); (case e3 => omega); (case e4 => omega); (case qd => ktr_room); (case qu => ktr_units); k_whole))
  clear hro hre I9 hNn
  intro m7 h7 tk7 news7 F7 N7
  (try dsimp only)
  k_steps
  done)
end Mine
end
theorem PySem.Challenge.cw_pg0203_01_holds : PySem.Challenge.rw_pg0203_01.Holds :=
  Mine.law_holds
