import PyProof.Rows.All
import Wide.All
import OpenK.AllK
import Wide.FinOn
import PySem.Challenge.RW_pg0017_01
open PySem PySem.W PyProof.Rows PySem.Calls
set_option Elab.async false
set_option maxRecDepth 100000
set_option maxHeartbeats 8000000
-- part Head17
namespace Mine
open_top hd for PySem.Challenge.rw_pg0017_01
end Mine
-- part Base17
namespace Mine
noncomputable abbrev prg : Program := PySem.Challenge.rw_pg0017_01.row.prog
noncomputable abbrev vw : Program := Mine.hd.view_39
theorem fill0 : (PySem.Challenge.rw_pg0017_01, Mine.hd.heap_39) = (PySem.Challenge.rw_pg0017_01, Mine.hd.heap_39) := by
  w_top off
  k_fill
  rfl
/-- what the top has left, and stands in every heap of the call -/
structure Gr (w : World) (h : Heap) : Prop where
  X : (Mine.hd.heap_39 w.params).In h
  T : ∃ mean mg mb, Top Mine.hd.view_39 (looseW Mine.hd.view_39 []) mean mg mb h
theorem Gr.keeps {w : World} {h h' : Heap} (G : Gr w h) (k : ∀ b o, h.get? b = some o → h'.get? b = some o) : Gr w h' :=
  ⟨G.X.keeps k, let ⟨a, b, c, T⟩ := G.T; ⟨a, b, c, T.keeps k⟩⟩
theorem enter {w : World} {A : Around} {E : Value → Shared → Prop} {s : Shared} {name qual : Str} {params : Arguments} {body : List Stmt} {scope : Scope} {dV kV doc pm cdv ct oc : Value} {an od : Option Addr} {osl : Array (Option Value)} {f : Addr} {args : List Value} {binds : List (Str × Value)} {Q : Value → Shared → Prop}
    (G : Gr w s.heap)
    (ho : (Mine.hd.heap_39 w.params).lookup f = some ⟨oc, od, .func (fnOf name qual params body scope dV kV doc pm an cdv ct), osl⟩) (hcd : codeIn (Mine.hd.heap_39 w.params) cdv qual = true) (hroom : A.depth < recursionLimit)
    (hbind : BindsTo s (fnOf name qual params body scope dV kV doc pm an cdv ct) ⟨args, []⟩ binds) (hloc : ∀ y ∈ binds, scope.names.lookup y.1 = some .local)
    (hco : scope.isCoroutine = false) (hgen : scope.isGenerator = false) (hk : scope.kind = .function) (hcell : ∀ x ∈ scope.names, x.2 ≠ .cell)
    (h : ∀ h₁, Fr s.heap s.heap.objs.size h₁ (fun y => binds.reverse.lookup y) →
      wpAny (model prg w) (A.deeper (envOf qual scope s.heap.objs.size f cdv)) (execs body (envOf qual scope s.heap.objs.size f cdv))
        (fun fl s' => Q (match fl with | .ret v => v | _ => .none) s') (fun _ _ => False)
        { s with heap := h₁, toks := s.toks + binds.length }) :
    wpAny (model prg w) A (call (.ref f) args) Q E s := by
  refine wpAny_call ?_
  obtain ⟨mean, mg, mb, T⟩ := G.T
  refine codeAny_call_def (fd := fnX name qual params body scope [] dV kV doc pm an cdv ct) (body := body) (binds := binds) hroom (G.X _ _ ho) rfl T.nolimit (codeRec_of G.X hcd) rfl hbind hcell hloc (fun h₁ hns hk₁ => ?_) hco hgen hk
  exact wpAny_mono (h h₁ ⟨hns, hk₁, Nat.le_refl _⟩) (fun fl s' hl => hl) fun _ _ x => x.elim
theorem fr_see {h₀ h : Heap} {L : Addr} {m : Str → Option Value} (ps : List (Str × Value)) (F : Fr h₀ L h m) (hp : ∀ p ∈ ps, m p.1 = some p.2) :
    Fr h₀ L h (fun y => match ps.lookup y with | some v => some v | none => m y) := by
  have e : (fun y => match ps.lookup y with | some v => some v | none => m y) = m := by
    funext y
    induction ps with
    | nil => rfl
    | cons p r ih =>
      obtain ⟨x, v⟩ := p
      simp only [List.lookup_cons]
      cases hxy : y == x with
      | true => exact (beq_iff_eq.mp hxy ▸ (hp (x, v) (List.mem_cons_self ..))).symm
      | false => exact ih fun p hp' => hp p (List.mem_cons_of_mem _ hp')
  rw [e]
  exact F
theorem see_eq {m : Str → Option Value} (ps : List (Str × Value)) (hp : ∀ p ∈ ps, m p.1 = some p.2) :
    (fun y => match ps.lookup y with | some v => some v | none => m y) = m := by
  funext y
  induction ps with
  | nil => rfl
  | cons p r ih =>
    obtain ⟨x, v⟩ := p
    simp only [List.lookup_cons]
    cases hxy : y == x with
    | true => exact (beq_iff_eq.mp hxy ▸ (hp (x, v) (List.mem_cons_self ..))).symm
    | false => exact ih fun p hp' => hp p (List.mem_cons_of_mem _ hp')
theorem fr_see2 {h₀ h : Heap} {L : Addr} {m : Str → Option Value} {x : Str} {v : Value} (ps : List (Str × Value)) (F : Fr h₀ L h (fun y => if y = x then some v else m y)) (hp : ∀ p ∈ ps, m p.1 = some p.2) :
    Fr h₀ L h (fun y => if y = x then some v else match ps.lookup y with | some v => some v | none => m y) := by
  have e := see_eq ps hp
  have e2 : (fun y => if y = x then some v else match ps.lookup y with | some v => some v | none => m y) = fun y => if y = x then some v else m y := by
    funext y
    rw [congrFun e y]
  rw [e2]
  exact F
theorem passF {M : Model} {A : Around} {env : Env} : PassesOwn M A env (fun _ _ => False) := fun _ _ h => h.elim
end Mine
-- part W1
namespace Mine
theorem fill1 : (PySem.Challenge.rw_pg0017_01, Mine.hd.heap_39) = (PySem.Challenge.rw_pg0017_01, Mine.hd.heap_39) := by
  w_top off
  k_fill
  rfl
def octF (d : Int) : Int := if d.fmod 4 = 0 then 65 + (d.fdiv 4).fmod 16 else if d.fmod 4 = 1 then 193 + (d.fdiv 4).fmod 16 else if d.fmod 4 = 2 then (d.fdiv 4).fmod 256 else 65 + (d.fdiv 4).fmod 26
theorem octet_c {w : World} {A : Around} {E : Value → Shared → Prop} {s : Shared} {n : Int} {t : Tok} {Q : Value → Shared → Prop}
    (G : Gr w s.heap) (hd : A.depth < recursionLimit)
    (h : ∀ t' h' tk', (∀ b o, s.heap.get? b = some o → h'.get? b = some o) → Q (.int (octF n) t') { s with heap := h', toks := tk' }) :
    wpAny (model prg w) A (call (.ref 56) [.int n t]) Q E s := by
  refine enter (binds := [(Str.ofString "d", .int n t)]) G (by k_is) (by k_is) hd (BindsTo.of_eq rfl) (locs rfl) rfl rfl rfl (by decide) ?_
  intro h₁ F
  obtain ⟨KX, mean, mg, mb, T⟩ := G
  have N : News s.heap s.heap.objs.size h₁ [] := News.nil
  repeat' walk1
  all_goals (try dsimp only)
  all_goals (
    first
    | (have e : octF n = 65 + (n.fdiv 4).fmod 16 := by simp [octF, *])
    | (have e : octF n = 193 + (n.fdiv 4).fmod 16 := by simp [octF, *])
    | (have e : octF n = (n.fdiv 4).fmod 256 := by simp [octF, *])
    | (have e : octF n = 65 + (n.fdiv 4).fmod 26 := by simp [octF, *])
    rw [e] at h
    exact h _ _ _ F.keep)
theorem ctoi_c {w : World} {A : Around} {E : Value → Shared → Prop} {s : Shared} {n : Int} {t : Tok} {Q : Value → Shared → Prop}
    (G : Gr w s.heap) (hd : A.depth < recursionLimit)
    (h : ∀ h' tk', (∀ b o, s.heap.get? b = some o → h'.get? b = some o) → Q (.int n t) { s with heap := h', toks := tk' }) :
    wpAny (model prg w) A (call (.ref 21) [.int n t]) Q E s := by
  refine enter (binds := [(Str.ofString "c", .int n t)]) G (by k_is) (by k_is) hd (BindsTo.of_eq rfl) (locs rfl) rfl rfl rfl (by decide) ?_
  intro h₁ F
  obtain ⟨KX, mean, mg, mb, T⟩ := G
  have N : News s.heap s.heap.objs.size h₁ [] := News.nil
  repeat' walk1
  all_goals (try dsimp only)
  exact h _ _ F.keep
local macro_rules | `(tactic| walk_at "call ref") => `(tactic| (refine ctoi_c (Gr.keeps (by assumption) (Fr.keep (by assumption))) (by first | omega | (simp only [depth_deeper]; omega)) ?_; intro h' tk' kp'; (have F' := Fr.keeps (by assumption) kp')))
theorem isupper_c {w : World} {A : Around} {E : Value → Shared → Prop} {s : Shared} {n : Int} {t : Tok} {Q : Value → Shared → Prop}
    (G : Gr w s.heap) (hd : A.depth + 1 < recursionLimit)
    (h : ∀ h' tk', (∀ b o, s.heap.get? b = some o → h'.get? b = some o) → Q (.bool (decide (65 ≤ n ∧ n ≤ 90))) { s with heap := h', toks := tk' }) :
    wpAny (model prg w) A (call (.ref 28) [.int n t]) Q E s := by
  refine enter (binds := [(Str.ofString "c", .int n t)]) G (by k_is) (by k_is) (Nat.lt_of_succ_lt hd) (BindsTo.of_eq rfl) (locs rfl) rfl rfl rfl (by decide) ?_
  intro h₁ F
  have KX := G.X
  obtain ⟨mean, mg, mb, T⟩ := G.T
  have N : News s.heap s.heap.objs.size h₁ [] := News.nil
  repeat' walk1
  all_goals (try dsimp only)
  · have e : decide (65 ≤ n ∧ n ≤ 90) = decide (n ≤ 90) := by simp [*]
    rw [e] at h
    exact h _ _ (Fr.keep (by assumption))
  · have e : decide (65 ≤ n ∧ n ≤ 90) = decide (65 ≤ n) := by simp [*]
    rw [e] at h
    exact h _ _ (Fr.keep (by assumption))
theorem byte_all {P : Int → Prop} (h : ∀ k : Fin 256, P (k.val : Int)) {n : Int} (h0 : 0 ≤ n) (h1 : n < 256) : P n := by
  have := h ⟨n.toNat, by omega⟩
  rwa [show ((n.toNat : Nat) : Int) = n from by omega] at this
theorem band31 {n : Int} (h0 : 0 ≤ n) (h1 : n < 256) : Builtin.bitAnd n 31 = n % 32 :=
  byte_all (P := fun n => Builtin.bitAnd n 31 = n % 32) (by decide +kernel) h0 h1
theorem bor128 {n : Int} (h0 : 0 ≤ n) (h1 : n < 256) : Builtin.bitOr n 128 = n % 128 + 128 :=
  byte_all (P := fun n => Builtin.bitOr n 128 = n % 128 + 128) (by decide +kernel) h0 h1
theorem ctrl_c {w : World} {A : Around} {E : Value → Shared → Prop} {s : Shared} {n : Int} {t : Tok} {Q : Value → Shared → Prop}
    (G : Gr w s.heap) (hd : A.depth + 1 < recursionLimit) (h0 : 0 ≤ n) (h1 : n < 256)
    (h : ∀ t' h' tk', (∀ b o, s.heap.get? b = some o → h'.get? b = some o) → Q (.int (n % 32) t') { s with heap := h', toks := tk' }) :
    wpAny (model prg w) A (call (.ref 35) [.int n t]) Q E s := by
  refine enter (binds := [(Str.ofString "c", .int n t)]) G (by k_is) (by k_is) (Nat.lt_of_succ_lt hd) (BindsTo.of_eq rfl) (locs rfl) rfl rfl rfl (by decide) ?_
  intro h₁ F
  have KX := G.X
  obtain ⟨mean, mg, mb, T⟩ := G.T
  have N : News s.heap s.heap.objs.size h₁ [] := News.nil
  repeat' walk1
  all_goals (try dsimp only)
  rw [band31 h0 h1]
  exact h _ _ _ (Fr.keep (by assumption))
theorem alt_c {w : World} {A : Around} {E : Value → Shared → Prop} {s : Shared} {n : Int} {t : Tok} {Q : Value → Shared → Prop}
    (G : Gr w s.heap) (hd : A.depth + 1 < recursionLimit) (h0 : 0 ≤ n) (h1 : n < 256)
    (h : ∀ t' h' tk', (∀ b o, s.heap.get? b = some o → h'.get? b = some o) → Q (.int (n % 128 + 128) t') { s with heap := h', toks := tk' }) :
    wpAny (model prg w) A (call (.ref 42) [.int n t]) Q E s := by
  refine enter (binds := [(Str.ofString "c", .int n t)]) G (by k_is) (by k_is) (Nat.lt_of_succ_lt hd) (BindsTo.of_eq rfl) (locs rfl) rfl rfl rfl (by decide) ?_
  intro h₁ F
  have KX := G.X
  obtain ⟨mean, mg, mb, T⟩ := G.T
  have N : News s.heap s.heap.objs.size h₁ [] := News.nil
  repeat' walk1
  all_goals (try dsimp only)
  rw [bor128 h0 h1]
  exact h _ _ _ (Fr.keep (by assumption))
end Mine
-- part W2
namespace Mine
theorem fill2 : (PySem.Challenge.rw_pg0017_01, Mine.hd.heap_39) = (PySem.Challenge.rw_pg0017_01, Mine.hd.heap_39) := by
  w_top off
  k_fill
  rfl
def hexI (n : Nat) : List Int := if _h : n = 0 then [] else hexI (n / 16) ++ [65 + ((n % 16 : Nat) : Int)]
termination_by n
decreasing_by omega
def apB : Array UInt8 := #[65, 66, 67, 68, 69, 70, 71, 72, 73, 74, 75, 76, 77, 78, 79, 80]
def apL : List Int := [65, 66, 67, 68, 69, 70, 71, 72, 73, 74, 75, 76, 77, 78, 79, 80]
theorem apB_ints : KBw.bInts apB = apL := by decide +kernel
theorem hexI_zero : hexI 0 = [] := by rw [hexI]; rfl
theorem hexI_step {k : Nat} (h : k ≠ 0) : hexI k = hexI (k / 16) ++ [65 + ((k % 16 : Nat) : Int)] := by
  rw [hexI, dif_neg h]
theorem ap_pick {j : Nat} (h : j < 16) : List.take (clipAt apL.length ((j : Int) + 1) - clipAt apL.length (j : Int)) (List.drop (clipAt apL.length (j : Int)) apL) = [65 + (j : Int)] := by
  have : ∀ j : Fin 16, List.take (clipAt apL.length ((j.val : Int) + 1) - clipAt apL.length (j.val : Int)) (List.drop (clipAt apL.length (j.val : Int)) apL) = [65 + (j.val : Int)] := by decide +kernel
  exact this ⟨j, h⟩
theorem int2ap_c {w : World} {A : Around} {E : Value → Shared → Prop} {s : Shared} {n : Int} {t : Tok} {Q : Value → Shared → Prop}
    (G : Gr w s.heap) (hd : A.depth < recursionLimit) (hh : A.handled = none) (hlen : (hexI n.natAbs).length ≤ 1000)
    (h : ∀ b t' h' tk', KBw.bInts b = hexI n.natAbs → (∀ b o, s.heap.get? b = some o → h'.get? b = some o) → Q (.bytes b t') { s with heap := h', toks := tk' }) :
    wpAny (model prg w) A (call (.ref 49) [.int n t]) Q E s := by
  obtain ⟨hA, dp, fr, gd, un⟩ := A
  obtain rfl : hA = none := hh
  refine enter (binds := [(Str.ofString "num", .int n t)]) G (by k_is) (by k_is) (hd) (BindsTo.of_eq rfl) (locs rfl) rfl rfl rfl (by decide) ?_
  intro h₁ F
  have KX := G.X
  obtain ⟨mean, mg, mb, T⟩ := G.T
  have N : News s.heap s.heap.objs.size h₁ [] := News.nil
  repeat' ((fail_if_success (show wpAny _ _ (exec (Stmt.While _ _ _ _) _) _ _ _)); walk1)
  rename Fr _ _ _ _ => F1
  rw [show (if n < 0 then -n else n) = (n.natAbs : Int) from by split <;> omega] at F1
  refine While_inv (fun k m₁ news₁ => ∃ (t : Tok) (v : Array UInt8) (tv ta : Tok), m₁ (Str.ofString "num") = some (.int (k : Int) t) ∧ m₁ (Str.ofString "val") = some (.bytes v tv) ∧ m₁ (Str.ofString "AP") = some (.bytes apB ta) ∧ hexI n.natAbs = hexI k ++ KBw.bInts v) (n₀ := n.natAbs) F1 News.nil ?_ ?_ passF
  · exact ⟨_, _, _, _, rfl, rfl, rfl, by simp [KBw.bInts]⟩
  · clear F1
    rintro k m₁ news₁ h₂ tk₂ F2 - ⟨t₂, v, tv, ta, e1, e2, e3, hx⟩
    replace F2 := fr_see [(Str.ofString "num", .int (k : Int) t₂), (Str.ofString "val", .bytes v tv), (Str.ofString "AP", .bytes apB ta)] F2 (by simp [e1, e2, e3])
    have N2 : News s.heap s.heap.objs.size h₂ [] := News.nil
    have hap := apB_ints
    have hapl : apL.length = 16 := rfl
    have hv : KBw.bInts v = KBw.bInts v := rfl
    have hvl : (KBw.bInts v).length ≤ 1000 := by
      have := congrArg List.length hx
      rw [List.length_append] at this
      omega
    repeat' walk1
    all_goals (try dsimp only)
    · rename Fr _ _ _ _ => F3
      rename News _ _ _ _ => N3
      rename (k : Int) ≠ 0 => hk0
      rename KBw.bInts (_ ++ _) = _ => hb
      have hk0' : k ≠ 0 := by omega
      have ef : (k : Int).fdiv 16 = ((k / 16 : Nat) : Int) := by
        rw [Int.fdiv_eq_ediv_of_nonneg _ (by decide)]; omega
      have em : (k : Int).fmod 16 = ((k % 16 : Nat) : Int) := by
        rw [Int.fmod_eq_emod_of_nonneg _ (by decide)]; omega
      rw [ef, em] at F3
      rw [em, ap_pick (Nat.mod_lt _ (by decide))] at hb
      refine WhileStep.intro (n' := k / 16) F3 N3 (by omega) ⟨_, _, _, _, rfl, rfl, rfl, ?_⟩
      rw [hb, hx, hexI_step hk0', List.append_assoc]
    · rename (k : Int) = 0 => hk0
      have hk0' : k = 0 := by omega
      subst hk0'
      rw [hexI_zero, List.nil_append] at hx
      exact h _ _ _ _ hx.symm (Fr.keep (by assumption))
end Mine
-- part W3
namespace Mine
theorem fill3 : (PySem.Challenge.rw_pg0017_01, Mine.hd.heap_39) = (PySem.Challenge.rw_pg0017_01, Mine.hd.heap_39) := by
  w_top off
  k_fill
  rfl
theorem own_one {h₀ h : Heap} {L I : Addr} {own rest : List (Addr × Obj)} {oI : Obj} (N : News h₀ L h (own ++ rest)) (hs : ∀ p ∈ own, p.1 ∈ [I]) (hI : h.get? I = some oI) : ∀ p ∈ own, p = (I, oI) := by
  rintro ⟨a, o⟩ hp
  have e : a = I := List.mem_singleton.mp (hs _ hp)
  subst e
  have := (N _ (List.mem_append_left _ hp)).1
  rw [hI] at this
  cases this
  rfl
/-- what a turn leaves: the list at D turned, the iterator at I as it was -/
def TurnD (h₀ : Heap) (L D I : Addr) (oI : Obj) (s : Shared) (J : (Str → Option Value) → Obj → Prop) (f : Flow) (s₂ : Shared) : Prop :=
  f = .next ∧ ∃ h' tk' m' o', s₂ = { s with heap := h', toks := tk' } ∧ Fr h₀ L h' m' ∧ News h₀ L h' [(D, o'), (I, oI)] ∧ J m' o'
/-- a loop over bytes whose body changes one list of the frame's own -/
theorem iter_bytesD {prog : Program} {w : World} {A : Around} {E : Value → Shared → Prop} {s : Shared} {env : Env} {h₀ : Heap} {x : Str} {body : List Stmt} {Q : Flow → Shared → Prop} {b : Array UInt8} {tb : Tok} {D : Addr} {o : Obj} {m : Str → Option Value}
    (J : Nat → (Str → Option Value) → Obj → Prop) (hh : A.handled = none) (F : Fr h₀ env.locals s.heap m) (N : News h₀ env.locals s.heap [(D, o)]) (h0 : J 0 m o)
    (turn : ∀ i c t m₁ o₁ I oI h tk, b[i]? = some c → @Ne Nat D I → J i m₁ o₁ → Fr h₀ env.locals h (fun y => if y = x then some (.int ((c.toNat : Nat) : Int) t) else m₁ y) → News h₀ env.locals h [(D, o₁), (I, oI)] →
      wpAny (model prog w) A (execs body env) (TurnD h₀ env.locals D I oI s (J (i + 1))) E { s with heap := h, toks := tk })
    (done : ∀ h' tk m' o', Fr h₀ env.locals h' m' → News h₀ env.locals h' [(D, o')] → J b.size m' o' → Q .next { s with heap := h', toks := tk }) :
    wpAny (model prog w) A (pyIter (.bytes b tb)) (fun it s₂ => LoopAtV prog w A h₀ env x body Q E it s₂) E s := by
  refine KBw.pyIter_bytes ?_
  have hDlt := Heap.lt_size (N _ (List.mem_singleton.mpr rfl)).1
  have hDI : @Ne Nat D s.heap.objs.size := Nat.ne_of_lt hDlt
  refine ⟨s.heap.objs.size, [s.heap.objs.size], [s.heap.objs.size], b.size, _, _, m, [(D, o)], fun i m₁ news₁ => ∃ o₁, news₁ = [(D, o₁)] ∧ J i m₁ o₁, rfl, KBw.walks hh _ b tb, ?_, ?_, ?_, ⟨_, Heap.get?_push_size _ rfl, rfl, rfl⟩, F.push _, ?_, ⟨o, rfl, h0⟩, ?_, ?_⟩
  · intro hm
    exact absurd F.ns.lt ((List.mem_singleton.mp hm) ▸ Nat.lt_irrefl _)
  · intro b' hb
    rw [List.mem_singleton.mp hb]
    exact next_is_new F
  · intro p hp
    rw [List.mem_singleton.mp hp]
    intro hI
    exact hDI (List.mem_singleton.mp hI)
  · exact fun p hp => ⟨Heap.get?_push_of_some _ (N p hp).1, (N p hp).2⟩
  · rintro i v m₁ news₁ s₁ own ⟨h, tk, rfl⟩ hin ⟨c, t, hc, rfl⟩ ⟨o₁, rfl, hJ⟩ hoff hs hget hmem hst F₁ N₁
    have hfree : h₀.get? s.heap.objs.size = none := next_is_new F
    obtain ⟨oI, hI, _⟩ := hst
    have own1 := own_one N₁ hs hI
    have hmI : (s.heap.objs.size, oI) ∈ own := hmem _ (List.mem_singleton.mpr rfl) hfree _ hI
    have N₂ : News h₀ env.locals h [(D, o₁), (s.heap.objs.size, oI)] := by
      intro p hp
      rcases List.mem_cons.mp hp with rfl | hp
      · exact N₁ _ (List.mem_append_right _ (List.mem_singleton.mpr rfl))
      · rw [List.mem_singleton.mp hp]
        exact N₁ _ (List.mem_append_left _ hmI)
    refine wpAny_mono (turn i c t m₁ o₁ _ oI h tk hc hDI hJ F₁ N₂) (fun f s₂ p => ?_) fun _ _ e => e
    obtain ⟨rfl, h', tk', m', o', rfl, F', N', hJ'⟩ := p
    refine LoopStepV.next (LoopStepU.intro (news₂ := [(D, o')]) F' ?_ ?_ ⟨o', rfl, hJ'⟩)
    · intro p hp
      rcases List.mem_append.mp hp with hp | hp
      · rw [own1 p hp]
        exact N' _ (List.mem_cons_of_mem _ (List.mem_singleton.mpr rfl))
      · rw [List.mem_singleton.mp hp]
        exact N' _ (List.mem_cons_self ..)
    · intro p hp
      rw [List.mem_singleton.mp hp]
      intro hI
      exact hDI (List.mem_singleton.mp hI)
  · rintro h' tk m' news' F' N' _ ⟨o', rfl, hJ⟩
    exact done h' tk m' o' F' N' hJ
theorem last_get {prog : Program} {w : World} {A : Around} {E : Value → Shared → Prop} {s : Shared} {h₀ : Heap} {L : Addr} {news : List (Addr × Obj)} {value slice : Expr} {D : Addr} {its : Array Value} {pre : List Value} {n : Nat} {u : Tok} {x : Value} {Q : Value → Shared → Prop}
    (N : News h₀ L s.heap news) (hm : (D, listOf its n) ∈ news) (e : its = (pre ++ [x]).toArray) (h : Q x s)
    (hs : subscripted slice false (.ref D) (.int (-1) u) = operate [.ref D, .int (-1) u] (getItem (.ref D) (.int (-1) u))) (hg : ∀ r, letTemporaryGo value (.ref D) r = pure ()) :
    wpAny (model prog w) A (subscriptTail value slice (.ref D) (.int (-1) u)) Q E s := by
  subst e
  refine kim_back N hm rfl rfl (by decide) ?_ (by decide) ?_ h hs hg
  · rw [List.length_append, List.length_singleton]; omega
  · have : ((-1 : Int) + ((pre ++ [x]).length : Int)).toNat = pre.length := by rw [List.length_append, List.length_singleton]; omega
    rw [this]
    simp
theorem last_set {prog : Program} {w : World} {A : Around} {E : Value → Shared → Prop} {s : Shared} {h₀ : Heap} {L : Addr} {m : Str → Option Value} {news news' : List (Addr × Obj)} {D : Addr} {its its' : Array Value} {pre : List Value} {n : Nat} {u : Tok} {x v : Value} {Q : Unit → Shared → Prop}
    (F : Fr h₀ L s.heap m) (N : News h₀ L s.heap news) (U : Upd D (listOf its n) (listOf its' n) news news') (e : its = (pre ++ [x]).toArray) (e' : its' = (pre ++ [v]).toArray)
    (h : ∀ h', Fr h₀ L h' m → News h₀ L h' news' → Q () { s with heap := h' }) :
    wpAny (model prog w) A (setItem (.ref D) (.int (-1) u) v) Q E s := by
  subst e e'
  obtain ⟨p1, p2, rfl, rfl, a, b⟩ := U.split
  have z := N (D, listOf (pre ++ [x]).toArray n) (List.mem_append.mpr (.inr (.head _)))
  have hsz : (pre ++ [x]).toArray.size = pre.length + 1 := by simp
  refine ki_setBack z.1 (by decide) (by rw [hsz]; omega) (by decide) (h _ (F.change (Heap.SameBut.update ..) z.2.1 z.2.2) (ki_turn _ N a b ?_ ?_))
  · show (pre ++ [x]).toArray.setIfInBounds ((-1 : Int) + ((pre ++ [x]).toArray.size : Int)).toNat v = (pre ++ [v]).toArray
    have : ((-1 : Int) + ((pre ++ [x]).toArray.size : Int)).toNat = pre.length := by rw [hsz]; omega
    rw [this]
    apply Array.toList_inj.mp
    simp
  · simp
theorem ints_snoc : ∀ {vs : List Value} {ns : List Int}, IntsAre vs ns → vs ≠ [] → ∃ pre a t npre, vs = pre ++ [Value.int a t] ∧ ns = npre ++ [a] ∧ IntsAre pre npre
  | _, _, .nil, h => absurd rfl h
  | _, _, .cons n t (vs := []) (ns := _) r, _ => by cases r; exact ⟨[], n, t, [], rfl, rfl, .nil⟩
  | _, _, .cons n t (vs := v :: vs) (ns := ns) r, _ => by
    obtain ⟨pre, a, t', npre, e1, e2, r'⟩ := ints_snoc r (by simp)
    exact ⟨.int n t :: pre, a, t', n :: npre, by rw [e1]; rfl, by rw [e2]; rfl, .cons n t r'⟩
theorem ints_push : ∀ {vs : List Value} {ns : List Int} {a : Int} {t : Tok}, IntsAre vs ns → IntsAre (vs ++ [.int a t]) (ns ++ [a])
  | _, _, a, t, .nil => .cons a t .nil
  | _, _, _, _, .cons n t r => .cons n t (ints_push r)
/-- what one octet makes of the numbers read so far -/
def readStep (p : List Int × Bool) (o : Int) : List Int × Bool :=
  let r := if p.2 then p.1 else p.1 ++ [0]
  (r.dropLast ++ [16 * r.getLastD 0 + o % 32 - 1], decide (65 ≤ o ∧ o ≤ 90))
def readF (l : List Int) : List Int := (l.foldl readStep ([], false)).1
local macro_rules | `(tactic| walk_at "call ref") => `(tactic| ((first
  | (refine ctrl_c (Gr.keeps (by assumption) (Fr.keep (by with_reducible assumption))) (by (first | omega | (simp only [depth_deeper]; omega))) (by omega) (by omega) ?_; intro t' h' tk' kp')
  | (refine isupper_c (Gr.keeps (by assumption) (Fr.keep (by with_reducible assumption))) (by first | omega | (simp only [depth_deeper]; omega)) ?_; intro h' tk' kp')); (have F' := Fr.keeps (by with_reducible assumption) kp'); (have N' := News.grown (by with_reducible assumption) kp')))
local macro_rules | `(tactic| walk_at "subscriptTail") => `(tactic| ((with_reducible show wpAny _ _ (subscriptTail _ _ (Value.ref _) (Value.int (-1) _)) _ _ _); (with_unfolding_all refine' last_get (by k_asm) ?hm ?e ?_ ?hs ?hg); (case hm => k_mem); (case e => first | rfl | exact List.push_toArray _ _); (case hs => with_unfolding_all rfl); (case hg => intro _; with_unfolding_all rfl)))
local macro_rules | `(tactic| walk_at "setItem ref int") => `(tactic| ((with_reducible show wpAny _ _ (setItem (Value.ref _) (Value.int (-1) _) _) _ _ _); k_dflt (refine' last_set (by k_asm) (by k_asm) ?U ?e ?e2 ?_; (case U => k_upd); (case e => first | rfl | exact List.push_toArray _ _); (case e2 => rfl); intro h' F' N')))
theorem read_c {w : World} {A : Around} {E : Value → Shared → Prop} {s : Shared} {b : Array UInt8} {tb : Tok} {Q : Value → Shared → Prop}
    (G : Gr w s.heap) (hd : A.depth + 2 < recursionLimit) (hh : A.handled = none) (hlen : (KBw.bInts b).length ≤ 1000)
    (h : ∀ D vs n h' tk', s.heap.get? D = none → h'.get? D = some (listOf vs.toArray n) → IntsAre vs (readF (KBw.bInts b)) → (∀ b o, s.heap.get? b = some o → h'.get? b = some o) → Q (.ref D) { s with heap := h', toks := tk' }) :
    wpAny (model prg w) A (call (.ref 63) [.bytes b tb]) Q E s := by
  obtain ⟨hA, dp, fr, gd, un⟩ := A
  obtain rfl : hA = none := hh
  refine enter (binds := [(Str.ofString "octets", .bytes b tb)]) G (by k_is) (by k_is) (Nat.lt_of_succ_lt (Nat.lt_of_succ_lt hd)) (BindsTo.of_eq rfl) (locs rfl) rfl rfl rfl (by decide) ?_
  intro h₁ F
  have KX := G.X
  obtain ⟨mean, mg, mb, T⟩ := G.T
  have N : News s.heap s.heap.objs.size h₁ [] := News.nil
  repeat' ((fail_if_success (show wpAny _ _ (exec (Stmt.For _ _ _ _ _) _) _ _ _)); walk1)
  refine For_invV s.heap rfl rfl ?_ (fun _ => rfl) passF
  walk1
  rename Fr _ _ _ _ => F1
  rename News _ _ _ _ => N1
  rename_i D _ _ _ _
  refine iter_bytesD (fun i m₁ o₁ => ∃ vs n, o₁ = listOf vs.toArray n ∧ vs.length ≤ i ∧ IntsAre vs (((KBw.bInts b).take i).foldl readStep ([], false)).1 ∧ m₁ (Str.ofString "read") = some (.ref D) ∧ m₁ (Str.ofString "goes") = some (.bool (((KBw.bInts b).take i).foldl readStep ([], false)).2) ∧ ((((KBw.bInts b).take i).foldl readStep ([], false)).2 = true → vs ≠ [])) rfl F1 N1 ?_ ?_ ?_
  · exact ⟨[], 0, rfl, Nat.le_refl _, .nil, rfl, rfl, fun e => nomatch e⟩
  · clear F1 N1
    rintro i c t m₁ o₁ I oI h₂ tk₂ hc hDI ⟨vs, n, rfl, hvl, hvs, e1, e2, hne⟩ F2 N2
    have hc256 := c.toNat_lt
    have hil : i < b.size := by
      rcases Nat.lt_or_ge i b.size with h | h
      · exact h
      · rw [Array.getElem?_eq_none h] at hc; cases hc
    have hst : ((KBw.bInts b).take (i + 1)).foldl readStep ([], false) = readStep (((KBw.bInts b).take i).foldl readStep ([], false)) (c.toNat : Int) := by
      rw [List.take_add_one, KBw.ints_get hc]; simp
    rw [hst]
    generalize hp : ((KBw.bInts b).take i).foldl readStep ([], false) = p at *
    obtain ⟨ns, g⟩ := p
    rw [KBw.ints_length] at hlen
    have hvl' : vs.length ≤ 1000 := by omega
    replace F2 := fr_see2 [(Str.ofString "read", .ref D), (Str.ofString "goes", .bool g)] F2 (by simp [e1, e2])
    cases g with
    | false =>
      repeat' walk1
      all_goals (try dsimp only)
      rename Fr _ _ _ _ => F3
      rename News _ _ _ _ => N3
      refine ⟨rfl, _, _, _, _, rfl, F3, N3, ?_⟩
      refine ⟨_, _, rfl, ?_, ?_, rfl, ?_, ?_⟩
      · rw [List.length_append, List.length_singleton]; omega
      · have hvs' : IntsAre vs ns := hvs
        have e : (readStep (ns, false) (c.toNat : Int)).1 = ns ++ [16 * 0 + (c.toNat : Int) % 32 - 1] := by simp [readStep]
        rw [e]
        exact ints_push hvs'
      · exact (if_pos rfl).trans (by simp [readStep])
      · intro _ e
        simp at e
    | true =>
      obtain ⟨pre, a, ta, npre, rfl, rfl, hpre⟩ := ints_snoc hvs (hne rfl)
      repeat' walk1
      all_goals (try dsimp only)
      rename Fr _ _ _ _ => F3
      rename News _ _ _ _ => N3
      refine ⟨rfl, _, _, _, _, rfl, F3, N3, ?_⟩
      refine ⟨_, _, rfl, ?_, ?_, rfl, ?_, ?_⟩
      · rw [List.length_append, List.length_singleton] at hvl ⊢; omega
      · have e : (readStep (npre ++ [a], true) (c.toNat : Int)).1 = npre ++ [16 * a + (c.toNat : Int) % 32 - 1] := by simp [readStep]
        rw [e]
        exact ints_push hpre
      · exact (if_pos rfl).trans (by simp [readStep])
      · intro _ e
        simp at e
  · rintro h' tk m' o' F' N' ⟨vs, n, rfl, -, hvs, e1, e2, -⟩
    rw [List.take_of_length_le (by rw [KBw.ints_length]; exact Nat.le_refl _)] at hvs
    replace F' := fr_see [(Str.ofString "read", .ref D)] F' (by simp [e1])
    repeat' walk1
    all_goals (try dsimp only)
    exact h D vs n h' _ (N' _ (List.mem_singleton.mpr rfl)).2.2 (N' _ (List.mem_singleton.mpr rfl)).1 hvs F'.keep
end Mine
-- part W4
namespace Mine
theorem fill4 : (PySem.Challenge.rw_pg0017_01, Mine.hd.heap_39) = (PySem.Challenge.rw_pg0017_01, Mine.hd.heap_39) := by
  w_top off
  k_fill
  rfl
theorem noI_bytes_add : typeLookup (.type "bytes") (dunderI "add") = pure none := by rw [typeLookup_type, builtinLookup_eq_fast]; kernel_rfl
/-- row += word -/
theorem iadd_bytes {prog : Program} {w : World} {A : Around} {E : Value → Shared → Prop} {s : Shared} {b c : Array UInt8} {t u : Tok} {ks ls : List Int} {Q : Value → Shared → Prop} (hb : KBw.bInts b = ks) (hc : KBw.bInts c = ls) (hsz : ks.length + ls.length ≤ 16777216)
    (h : ∀ t' k, KBw.bInts (b ++ c) = ks ++ ls → Q (.bytes (b ++ c) t') { s with toks := k }) : wpAny (model prog w) A (inplaceOp .Add (.bytes b t) (.bytes c u)) Q E s := by
  have hz : b.size + c.size ≤ 16777216 := by rw [← KBw.ints_length b, ← KBw.ints_length c, hb, hc]; exact hsz
  have hi := KBw.ints_app hb hc
  refine iconcat_gives (typeIs_bytes s b t) (typeIs_bytes s c u) noI_bytes_add KBy.noFill_bytes_add KBy.seq_bytes_add FB.slot_bytes_add FB.entry_bytes_add (FB.args_bytes_add_2 _ _) (KBy.gives_bytes_add (KBy.tooLong_not hz)) ?_
  split
  · rename_i q
    obtain rfl := Array.isEmpty_iff.1 q
    have := h u s.toks hi
    rw [Array.empty_append] at this
    exact this
  · split
    · rename_i q
      obtain rfl := Array.isEmpty_iff.1 q
      have := h t s.toks hi
      rw [Array.append_empty] at this
      exact this
    · exact ⟨by rw [Array.size_append, sizeLine_eq]; exact hz, h s.toks (s.toks + 1) hi⟩
/-- what a turn leaves: the objects that it must keep stand, or it returns -/
def TurnK (h₀ : Heap) (L : Addr) (keep : List (Addr × Obj)) (s : Shared) (J : (Str → Option Value) → Prop) (Qr : Value → Shared → Prop) (f : Flow) (s₂ : Shared) : Prop :=
  (f = .next ∧ ∃ h' tk' m' news', s₂ = { s with heap := h', toks := tk' } ∧ Fr h₀ L h' m' ∧ News h₀ L h' news' ∧ (∀ p ∈ keep, p ∈ news') ∧ J m') ∨ ∃ v, f = .ret v ∧ Qr v s₂
/-- a loop over a list of the base's -/
theorem iter_listB {prog : Program} {w : World} {A : Around} {E : Value → Shared → Prop} {s : Shared} {env : Env} {h₀ : Heap} {x : Str} {body : List Stmt} {Q : Flow → Shared → Prop} {l : Addr} {vs : List Value} {m : Str → Option Value}
    (J : Nat → (Str → Option Value) → Prop) (hh : A.handled = none) (hl : h₀.IsList l vs.toArray) (F : Fr h₀ env.locals s.heap m) (h0 : J 0 m)
    (turn : ∀ i v m₁ I oI h tk, vs[i]? = some v → J i m₁ → Fr h₀ env.locals h (fun y => if y = x then some v else m₁ y) → News h₀ env.locals h [(I, oI)] →
      wpAny (model prog w) A (execs body env) (TurnK h₀ env.locals [(I, oI)] s (J (i + 1)) (fun v s' => Q (.ret v) s')) E { s with heap := h, toks := tk })
    (done : ∀ h' tk m', Fr h₀ env.locals h' m' → J vs.length m' → Q .next { s with heap := h', toks := tk }) :
    wpAny (model prog w) A (pyIter (.ref l)) (fun it s₂ => LoopAtV prog w A h₀ env x body Q E it s₂) E s := by
  have hls : s.heap.IsList l vs.toArray := hl.at fun o e => F.keep l o e
  obtain ⟨ol, hol, _⟩ := id hl
  have hlt : l < h₀.objs.size := Heap.lt_size hol
  have hne : l ≠ s.heap.objs.size := Nat.ne_of_lt (Nat.lt_trans (Nat.lt_of_lt_of_le hlt F.above) F.ns.lt)
  refine wpAny_pyIter_list hls ?_
  have W := Walks.list (prog := prog) (w := w) hh s.heap.objs.size l hne vs.toArray
  refine ⟨s.heap.objs.size, [s.heap.objs.size, l], [s.heap.objs.size], vs.toArray.size, _, _, m, [], fun i m₁ news₁ => news₁ = [] ∧ J i m₁, rfl, W, ?_, ?_, (fun p hp => nomatch hp), ⟨⟨_, Heap.get?_push_size _ rfl, rfl, rfl⟩, hls.at fun o e => Heap.get?_push_of_some _ e⟩, F.push _, (fun p hp => nomatch hp), ⟨rfl, h0⟩, ?_, ?_⟩
  · intro hm
    rcases List.mem_cons.mp hm with e | hm
    · exact absurd F.ns.lt (e ▸ Nat.lt_irrefl _)
    · exact absurd (Nat.lt_of_lt_of_le hlt F.above) ((List.mem_singleton.mp hm) ▸ Nat.lt_irrefl _)
  · intro b hb
    rw [List.mem_singleton.mp hb]
    exact next_is_new F
  · rintro i v m₁ news₁ s₁ own ⟨h, tk, rfl⟩ hin hP ⟨rfl, hJ⟩ hoff hs hget hmem hst F₁ N₁
    have hfree : h₀.get? s.heap.objs.size = none := next_is_new F
    obtain ⟨⟨oI, hI, _⟩, _⟩ := hst
    have own1 : ∀ p ∈ own, p = (s.heap.objs.size, oI) := by
      rintro ⟨a, o⟩ hp
      have hn := N₁ _ (List.mem_append_left _ hp)
      rcases List.mem_cons.mp (hs _ hp) with e | e
      · have e' : a = s.heap.objs.size := e
        subst e'
        have := hn.1
        rw [hI] at this
        cases this
        rfl
      · have e' : a = l := List.mem_singleton.mp e
        subst e'
        have := hn.2.2
        rw [hol] at this
        cases this
    have hmI : (s.heap.objs.size, oI) ∈ own := hmem _ (List.mem_cons_self ..) hfree _ hI
    have N₂ : News h₀ env.locals h [(s.heap.objs.size, oI)] := by
      intro p hp
      rw [List.mem_singleton.mp hp]
      exact N₁ _ (List.mem_append_left _ hmI)
    refine wpAny_mono (turn i v m₁ _ oI h tk (by simpa using hP) hJ F₁ N₂) (fun f s₂ p => ?_) fun _ _ e => e
    rcases p with ⟨rfl, h', tk', m', news', rfl, F', N', hk, hJ'⟩ | ⟨v, rfl, hr⟩
    · refine LoopStepV.next (LoopStepU.intro (news₂ := []) F' ?_ (fun p hp => nomatch hp) ⟨rfl, hJ'⟩)
      intro p hp
      rw [List.append_nil] at hp
      rw [own1 p hp]
      exact N' _ (hk _ (List.mem_singleton.mpr rfl))
    · exact LoopStepV.ret hr
  · rintro h' tk m' news' F' N' _ ⟨rfl, hJ⟩
    rw [List.size_toArray] at hJ
    exact done h' tk m' F' hJ
theorem hexI_n0 : hexI (Int.natAbs 0) = [] := hexI_zero
theorem hexI_pos {n : Int} (h : n ≠ 0) : 1 ≤ (hexI n.natAbs).length := by
  rw [hexI_step (by omega)]; simp
def wordF (n : Int) : List Int := (if n = 0 then [] else (hexI n.natAbs).dropLast) ++ [if n = 0 then 65 % 128 + 128 else (hexI n.natAbs).getLastD 0 % 128 + 128]
def writeF (ns : List Int) : List Int := (ns.map wordF).flatten
theorem take_neg1 {w : List Int} (h : 1 ≤ w.length) : List.take (clipAt w.length (-1)) w = w.dropLast := by
  have e : clipAt w.length (-1) = w.length - 1 := by
    unfold clipAt
    omega
  rw [e, List.dropLast_eq_take]
theorem getD_neg1 {w : List Int} : w.getD (-1 + (w.length : Int)).toNat 0 = w.getLastD 0 := by
  have e : (-1 + (w.length : Int)).toNat = w.length - 1 := by omega
  rw [e]
  rcases List.eq_nil_or_concat w with rfl | ⟨pre, x, rfl⟩
  · rfl
  · simp
theorem turn_end {h₀ h' : Heap} {L : Addr} {keep news' : List (Addr × Obj)} {s : Shared} {J : (Str → Option Value) → Prop} {Qr : Value → Shared → Prop} {tk' : Nat} {m' : Str → Option Value} (F : Fr h₀ L h' m') (N : News h₀ L h' news') (hk : ∀ p ∈ keep, p ∈ news') (hJ : J m') :
    TurnK h₀ L keep s J Qr .next { s with heap := h', toks := tk' } := .inl ⟨rfl, h', tk', m', news', rfl, F, N, hk, hJ⟩
local macro_rules | `(tactic| walk_at "call ref") => `(tactic| ((first
  | (refine int2ap_c (Gr.keeps (by assumption) (Fr.keep (by with_reducible assumption))) (by (dsimp only [Around.deeper]; omega)) rfl (by assumption) ?_; intro b' t' h' tk' hb' kp'; (try rw [hexI_n0] at hb'))
  | (refine alt_c (Gr.keeps (by assumption) (Fr.keep (by with_reducible assumption))) (by (dsimp only [Around.deeper]; omega)) (by assumption) (by assumption) ?_; intro t' h' tk' kp')); (have F' := Fr.keeps (by with_reducible assumption) kp'); (have N' := News.grown (by with_reducible assumption) kp')))
local macro_rules | `(tactic| walk_at "inplaceOp Add bytes bytes") => `(tactic| (refine iadd_bytes (by kba_ints2) (by kba_ints2) (by kba_size) ?_; intro t' k' hb'))
theorem write_c {w : World} {A : Around} {E : Value → Shared → Prop} {s : Shared} {l : Addr} {vs : List Value} {ns : List Int} {Q : Value → Shared → Prop}
    (G : Gr w s.heap) (hd : A.depth + 2 < recursionLimit) (hh : A.handled = none) (hl : s.heap.IsList l vs.toArray) (hi : IntsAre vs ns) (hlen : ns.length ≤ 1000) (hx : ∀ n ∈ ns, (hexI n.natAbs).length ≤ 1000)
    (h : ∀ b t h' tk', KBw.bInts b = writeF ns → (∀ b o, s.heap.get? b = some o → h'.get? b = some o) → Q (.bytes b t) { s with heap := h', toks := tk' }) :
    wpAny (model prg w) A (call (.ref 70) [.ref l]) Q E s := by
  obtain ⟨hA, dp, fr, gd, un⟩ := A
  obtain rfl : hA = none := hh
  replace hd : dp + 2 < recursionLimit := hd
  refine enter (binds := [(Str.ofString "numbers", .ref l)]) G (by k_is) (by k_is) (by (dsimp only; omega)) (BindsTo.of_eq rfl) (locs rfl) rfl rfl rfl (by decide) ?_
  intro h₁ F
  have KX := G.X
  obtain ⟨mean, mg, mb, T⟩ := G.T
  have N : News s.heap s.heap.objs.size h₁ [] := News.nil
  repeat' ((fail_if_success (show wpAny _ _ (exec (Stmt.For _ _ _ _ _) _) _ _ _)); walk1)
  refine For_invV s.heap rfl rfl ?_ (fun _ => rfl) passF
  walk1
  rename Fr _ _ _ _ => F1
  refine iter_listB (fun i m₁ => ∃ b t, m₁ (Str.ofString "row") = some (.bytes b t) ∧ KBw.bInts b = writeF (ns.take i) ∧ (KBw.bInts b).length ≤ 1001 * i) rfl hl F1 ?_ ?_ ?_
  · exact ⟨_, _, rfl, rfl, Nat.le_refl _⟩
  · clear F1
    rintro i v m₁ I oI h₂ tk₂ hv ⟨b, t, e1, hb, hbl⟩ F2 N2
    have hil : i < ns.length := by
      rw [← hi.length]
      rcases Nat.lt_or_ge i vs.length with h | h
      · exact h
      · rw [List.getElem?_eq_none h] at hv; cases hv
    obtain ⟨tn, hv'⟩ := hi.get i ns[i] (by simp)
    rw [hv] at hv'
    obtain rfl := Option.some.inj hv'
    have hxn := hx _ (List.getElem_mem hil)
    have hst : writeF (ns.take (i + 1)) = writeF (ns.take i) ++ wordF ns[i] := by
      rw [writeF, List.take_add_one, List.getElem?_eq_getElem hil]; simp only [Option.toList_some, List.map_append, List.map_cons, List.map_nil, List.flatten_append, List.flatten_cons, List.flatten_nil, List.append_nil, writeF]
    rw [hst]
    generalize ns[i] = n at *
    generalize hks : KBw.bInts b = ks at *
    replace F2 := fr_see2 [(Str.ofString "row", .bytes b t)] F2 (by simp [e1])
    obtain ⟨lA, hlA, hlA1⟩ : ∃ lA : List Int, lA = [65] ∧ lA.length = 1 := ⟨[65], rfl, rfl⟩
    have h65 : KBw.bInts #[65] = lA := by rw [hlA]; rfl
    have hks' : ks.length ≤ 1001 * 1000 := by omega
    by_cases hn : n = 0
    · subst hn
      repeat' walk1
      all_goals (try dsimp only)
      rename Fr _ _ _ _ => F3
      rename News _ _ _ _ => N3
      rename KBw.bInts (b ++ _) = _ => hb3
      rename _ = (_ % 128 + 128 : Int) => hb9
      have hb4 := hb3.trans (congrArg (ks ++ ·) (by rw [List.map_cons, List.map_nil, hb9, List.nil_append, take_neg1 (by omega), getD_neg1, hlA]))
      refine turn_end F3 N3 (by simp) ⟨_, _, rfl, ?_, ?_⟩
      · refine hb4.trans ?_; rw [← hb]; simp [wordF]
      · refine Nat.le_trans (Nat.le_of_eq (congrArg List.length hb4)) ?_; simp; omega
    · have hpos := hexI_pos hn
      repeat' walk1
      all_goals (try dsimp only)
      · omega
      rename Fr _ _ _ _ => F3
      rename News _ _ _ _ => N3
      rename KBw.bInts (b ++ _) = _ => hb3
      rename _ = (_ % 128 + 128 : Int) => hb9
      have hb4 := hb3.trans (congrArg (ks ++ ·) (by rw [List.map_cons, List.map_nil, hb9, take_neg1 (by omega), getD_neg1]))
      refine turn_end F3 N3 (by simp) ⟨_, _, rfl, ?_, ?_⟩
      · refine hb4.trans ?_; rw [← hb]; simp [wordF, hn]
      · refine Nat.le_trans (Nat.le_of_eq (congrArg List.length hb4)) ?_; simp; omega
  · rintro h' tk m' F' ⟨b, t, e1, hb, -⟩
    rw [List.take_of_length_le (by rw [hi.length]; exact Nat.le_refl _)] at hb
    replace F' := fr_see [(Str.ofString "row", .bytes b t)] F' (by simp [e1])
    repeat' walk1
    all_goals (try dsimp only)
    exact h b t h' _ hb F'.keep
end Mine
-- part WC
namespace Mine
/-- a comprehension's block over pairs: «[elt for a, b in it]» -/
theorem compT {prog : Program} {w : World} {A : Around} {E : Value → Shared → Prop} {env : Env} {elt iter : Expr} {a b : Str} {pa pb tp : Pos} {kk : Nat} {scope : Scope} {cl : List (Str × Addr)} {pos : Pos} {s₂ : Shared} {I : Addr} {fp wr : List Addr} {n : Nat}
    {Pt : Nat → Array Value → Prop} {St : Nat → Heap → Prop} {Mid : Nat → Addr → Heap → Prop} {P2 : Nat → Value → Value → Prop} {RR : Value → Addr → Result → Shared → Prop}
    (W : WalksT prog w A I fp wr n Pt St Mid) (hsz : n ≤ sizeLine) (hh : A.handled = none) (F : Nat → Value → Prop)
    (hcell : ∀ y ∈ scope.names, y.2 ≠ .cell) (hkind : scope.kind = .function) (ha : scope.names.lookup a = some .local) (hb : scope.names.lookup b = some .local) (hab : a ≠ b)
    (hst : St 0 s₂.heap) (hfp : ∀ c ∈ fp, c < s₂.heap.objs.size) (h2 : ∀ i vals, Pt i vals → ∃ x y, vals = #[x, y] ∧ P2 i x y)
    (helt : ∀ C i x y s₃ m₃ E', s₂.heap.objs.size ≤ C → i < n → P2 i x y → s₃.heap.Ns C m₃ → m₃ a = some x → m₃ b = some y → (∀ c o, c ∉ wr → s₂.heap.get? c = some o → s₃.heap.get? c = some o) →
      wpAny (model prog w) A (eval elt (compEnvC scope cl C env)) (fun v s₄ => F i v ∧ Keeps s₃ s₄) E' s₃)
    (hRR : ∀ D C h' tk m' (ys : Array Value), s₂.heap.get? D = none → s₂.heap.get? C = none → D ≠ C → h'.Ns C m' → h'.PlainList D ys → ys.size = n → (∀ j v, ys[j]? = some v → F j v) →
      (∀ c o, c ∉ wr → s₂.heap.get? c = some o → h'.get? c = some o) → RR (.ref D) C (.ok .next) { s₂ with heap := h', toks := tk }) :
    wpAny (model prog w) A (newList []) (fun acc s₃ => wpAny (model prog w) A (newFunctionEnv scope env.globals cl [] env.qual none .none (some env)) (fun cenv s₄ =>
      codeAny (model prog w) A (.compStart (.ListComp elt [⟨.Tuple [.Name a pa, .Name b pb] kk tp, iter, [], 0⟩] scope pos) 0 (.ref I) acc { cenv with scope := relabel scope env }) (RR acc cenv.locals) s₄) E s₃) E s₂ := by
  refine wpAny_newObj_type (wpAny_newFunctionEnv hcell (by intro y hy; simp at hy) (fun h₁ hns₁ hsb₁ => ?_) hkind)
  dsimp only at hns₁ hsb₁ ⊢
  generalize hH2 : s₂.heap.push { cls := .type "list", dict := none, data := .seq ([] : List Value).toArray } = H2 at hns₁ hsb₁ ⊢
  have hC : H2.objs.size = s₂.heap.objs.size + 1 := by rw [← hH2, Heap.size_push]
  have hDC : s₂.heap.objs.size ≠ H2.objs.size := by rw [hC]; exact Nat.ne_of_lt (Nat.lt_succ_self _)
  have hCle : s₂.heap.objs.size ≤ H2.objs.size := by rw [hC]; exact Nat.le_succ _
  have below : ∀ c, c < s₂.heap.objs.size → c ≠ H2.objs.size ∧ c ≠ s₂.heap.objs.size := fun c hc => ⟨by rw [hC]; exact Nat.ne_of_lt (Nat.lt_succ_of_lt hc), Nat.ne_of_lt hc⟩
  have hDf : s₂.heap.objs.size ∉ fp := fun hm => Nat.lt_irrefl _ (hfp _ hm)
  have hCf : H2.objs.size ∉ fp := fun hm => by have := hfp _ hm; rw [hC] at this; exact Nat.lt_irrefl _ (Nat.lt_of_succ_lt this)
  have hDw : s₂.heap.objs.size ∉ wr := fun h => hDf (W.sub _ h)
  have hCw : H2.objs.size ∉ wr := fun h => hCf (W.sub _ h)
  have old : ∀ c o, s₂.heap.get? c = some o → h₁.get? c = some o := fun c o e => hsb₁.extBut c o (below c (Heap.lt_size e)).1 (Heap.get?_push_of_some _ (hH2 ▸ Heap.get?_push_of_some _ e))
  have hacc : h₁.PlainList s₂.heap.objs.size #[] := ⟨_, hsb₁.extBut _ _ hDC (Heap.get?_push_of_some _ (hH2 ▸ Heap.get?_push_size _ rfl))⟩
  have hst₁ : St 0 h₁ := W.frame _ _ _ hst fun c _ o e => old c o e
  have fresh : ∀ c, s₂.heap.objs.size ≤ c → s₂.heap.get? c = none := fun c hc => by
    cases e : s₂.heap.get? c with
    | none => rfl
    | some o' => exact absurd (Heap.lt_size e) (Nat.not_lt.mpr hc)
  have loop : ∀ s₃ : Shared, s₃ = { s₂ with heap := h₁, toks := s₂.toks + ([] : List (Str × Value)).length } →
      codeAny (model prog w) A (.compLoop (.ListComp elt [⟨.Tuple [.Name a pa, .Name b pb] kk tp, iter, [], 0⟩] scope pos) 0 (.ref I) (.ref s₂.heap.objs.size) (compEnvC scope cl H2.objs.size env))
        (RR (.ref s₂.heap.objs.size) H2.objs.size) s₃ := by
    rintro s₃ rfl
    refine kcp_loop (fun k s' => ∃ h' tk m' ys i, s' = { s₂ with heap := h', toks := tk } ∧ St i h' ∧ h'.PlainList s₂.heap.objs.size ys ∧ h'.Ns H2.objs.size m' ∧ ys.size = i ∧ (∀ j v, ys[j]? = some v → F j v) ∧ i ≤ n ∧ k = n + 1 - i ∧
      (∀ c o, c ∉ wr → s₂.heap.get? c = some o → h'.get? c = some o)) ?_ (n + 1)
      ⟨h₁, _, _, #[], 0, rfl, hst₁, hacc, hns₁, rfl, (fun j v hj => by simp at hj), Nat.zero_le _, rfl, fun c o _ e => old c o e⟩
    rintro k s' ⟨H, tk, m', ys, i, rfl, hst', hacc', hn', hys, hF, hi, rfl, hk⟩
    by_cases hlt : i < n
    · refine W.item i _ _ _ hlt hst' fun T vals h₂ tk₂ hPt _ hT hMid hk₂ => ?_
      obtain ⟨x, y, rfl, hP2⟩ := h2 i vals hPt
      refine W.go _ kk tp i T _ _ _ hMid fun h₃ hst₃ hk₃ => ?_
      have hT₃ : h₃.IsTuple T #[x, y] := hT.at fun o e => hk₃ T o (W.apart i T h₂ hMid) e
      have hn₃ : h₃.Ns H2.objs.size m' := (hn'.at' fun o e => hk₂ _ o hCw e).at' fun o e => hk₃ _ o hCw e
      refine kcp_assign (env := compEnvC scope cl H2.objs.size env) (s := { s₂ with heap := h₃, toks := tk₂ }) hh hT₃ (lookup_relabel_local ha) (lookup_relabel_local hb) (by simp [compEnvC, relabel, hkind]) hn₃ fun h₄ tk₄ hn₄ hk₄ => ?_
      have hk₄' : ∀ c o, c ≠ H2.objs.size → h₃.get? c = some o → h₄.get? c = some o := hk₄
      have up : ∀ c o, c ∉ wr → s₂.heap.get? c = some o → h₄.get? c = some o := fun c o hc e => hk₄' c o (below c (Heap.lt_size e)).1 (hk₃ c o hc (hk₂ c o hc (hk c o hc e)))
      refine wpAny_mono (helt H2.objs.size i x y { s₂ with heap := h₄, toks := tk₄ } _ _ hCle hlt hP2 hn₄ (by simp [hab]) (by simp) up) (fun v s₅ h₅ => ?_) fun _ _ e => e
      obtain ⟨hFv, h₅, tk₅, rfl, hk₅⟩ := h₅
      have hk₅' : ∀ c o, h₄.get? c = some o → h₅.get? c = some o := hk₅
      have hacc₅ : h₅.PlainList s₂.heap.objs.size ys := hacc'.at fun o e => hk₅' _ o (hk₄' _ o hDC (hk₃ _ o hDw (hk₂ _ o hDw e)))
      have hst₅ : St (i + 1) h₅ := W.frame _ _ _ hst₃ fun c hc o e => hk₅' c o (hk₄' c o (fun q => hCf (q ▸ hc)) e)
      refine wpAny_list_append_plain (s := { s₂ with heap := h₅, toks := tk₅ }) (hsz := by rw [hys]; omega) hacc₅ fun h₆ hl₆ hs₆ => ?_
      replace hs₆ : Heap.SameBut s₂.heap.objs.size h₅ h₆ := hs₆
      refine ⟨n + 1 - (i + 1), by omega, h₆, tk₅, _, ys.push v, i + 1, rfl, W.frame _ _ _ hst₅ fun c hc o e => hs₆.extBut c o (fun q => hDf (q ▸ hc)) e, hl₆, (hn₄.keeps hk₅').sameBut hs₆ (Ne.symm hDC), by rw [Array.size_push, hys], ?_, hlt, rfl,
        fun c o hc e => hs₆.extBut c o (below c (Heap.lt_size e)).2 (hk₅' c o (up c o hc e))⟩
      intro j u hj
      rw [Array.getElem?_push] at hj
      split at hj
      · rename_i q
        cases hj
        rw [q, hys]
        exact hFv
      · exact hF j u hj
    · obtain rfl : i = n := by omega
      refine W.done _ _ _ hst' fun h₂ tk₂ hk₂ => ?_
      exact hRR _ _ h₂ tk₂ m' ys (fresh _ (Nat.le_refl _)) (fresh _ hCle) hDC (hn'.at' fun o e => hk₂ _ o hCw e) (hacc'.at fun o e => hk₂ _ o hDw e) hys hF fun c o hc e => hk₂ c o hc (hk c o hc e)
  exact codeAny_compStart_list (loop _ rfl) (W.self 0 _ _ _ hst₁ (loop _ rfl))
/-- «[elt for a, b in it]» as an expression -/
theorem ListComp_T {prog : Program} {w : World} {A : Around} {E : Value → Shared → Prop} {env : Env} {s : Shared} {elt iter : Expr} {a b : Str} {pa pb tp : Pos} {kk : Nat} {scope : Scope} {cl : List (Str × Addr)} {pos : Pos} {Q : Value → Shared → Prop}
    (hh : A.handled = none) (F : Nat → Value → Prop) (hclos : closureFor scope env = pure cl)
    (hcell : ∀ y ∈ scope.names, y.2 ≠ .cell) (hkind : scope.kind = .function) (hnames : ∀ y ∈ scope.names, y.2 = .local → scope.names.lookup y.1 = some .local)
    (ha : scope.names.lookup a = some .local) (hb : scope.names.lookup b = some .local) (hab : a ≠ b)
    (h : wpAny (model prog w) A (eval iter env) (fun xv s₁ => wpAny (model prog w) A (pyIter xv) (fun it s₂ => ∃ I fp wr n Pt St Mid, ∃ P2 : Nat → Value → Value → Prop, it = .ref I ∧ WalksT prog w A I fp wr n Pt St Mid ∧ n ≤ sizeLine ∧ St 0 s₂.heap ∧
      (∀ c ∈ fp, c < s₂.heap.objs.size) ∧ (∀ i vals, Pt i vals → ∃ x y, vals = #[x, y] ∧ P2 i x y) ∧
      (∀ C i x y s₃ m₃ E', s₂.heap.objs.size ≤ C → i < n → P2 i x y → s₃.heap.Ns C m₃ → m₃ a = some x → m₃ b = some y → (∀ c o, c ∉ wr → s₂.heap.get? c = some o → s₃.heap.get? c = some o) →
        wpAny (model prog w) A (eval elt (compEnvC scope cl C env)) (fun v s₄ => F i v ∧ Keeps s₃ s₄) E' s₃) ∧
      (∀ D h' tk (ys : Array Value), s₂.heap.get? D = none → h'.PlainList D ys → ys.size = n → (∀ j v, ys[j]? = some v → F j v) →
        (∀ c o, c ∉ wr → s₂.heap.get? c = some o → h'.get? c = some o) → Q (.ref D) { s₂ with heap := h', toks := tk })) E s₁) E s)
    (hs : ∀ x, foldedSetIterable iter env x = pure x) :
    wpAny (model prog w) A (eval (.ListComp elt [⟨.Tuple [.Name a pa, .Name b pb] kk tp, iter, [], 0⟩] scope pos) env) Q E s := by
  rw [eval_ListComp]
  refine wpAny_comprehension_free (use := none) rfl hs hclos hkind hnames (wpAny_mono h (fun xv s₁ h₁ => wpAny_mono h₁ (fun it s₂ h₂ => ?_) fun _ _ e => e) fun _ _ e => e)
  obtain ⟨I, fp, wr, n, Pt, St, Mid, P2, rfl, W, hsz, hst, hfp, h2, helt, hQ⟩ := h₂
  refine compT (RR := fun acc C => compPost (model prog w) A E none Q acc C) W hsz hh F hcell hkind ha hb hab hst hfp h2 helt ?_
  intro D C h' tk m' ys hD hC hDC hn hpl hlen hF hk
  exact ⟨m', hn, fun h'' hs'' => hQ D h'' tk ys hD (hpl.extBut hs''.extBut hDC) hlen hF fun c o hc e => hs''.extBut c o (by rintro rfl; rw [hC] at e; cases e) (hk c o hc e)⟩
/-- «y = [elt for a, b in it]» -/
theorem Assign_ListComp_T {prog : Program} {w : World} {A : Around} {E : Value → Shared → Prop} {env : Env} {s : Shared} {elt iter : Expr} {a b y : Str} {pa pb tp py : Pos} {kk : Nat} {scope : Scope} {cl : List (Str × Addr)} {pos spos : Pos} {Q : Flow → Shared → Prop}
    (hh : A.handled = none) (F : Nat → Value → Prop) (hsw : swapsWith (.ListComp elt [⟨.Tuple [.Name a pa, .Name b pb] kk tp, iter, [], 0⟩] scope pos) (some (.Name y py)) spos.line env = pure true) (hclos : closureFor scope env = pure cl)
    (hcell : ∀ y ∈ scope.names, y.2 ≠ .cell) (hkind : scope.kind = .function) (hnames : ∀ y ∈ scope.names, y.2 = .local → scope.names.lookup y.1 = some .local)
    (ha : scope.names.lookup a = some .local) (hb : scope.names.lookup b = some .local) (hab : a ≠ b) (hy : env.kindOf y = some .local) (hp : (env.scope.kind == .class || (env.scope.kind == .module && env.locals != env.globals)) = false)
    (h : wpAny (model prog w) A (eval iter env) (fun xv s₁ => wpAny (model prog w) A (pyIter xv) (fun it s₂ => ∃ I fp wr n Pt St Mid, ∃ P2 : Nat → Value → Value → Prop, ∃ m, it = .ref I ∧ WalksT prog w A I fp wr n Pt St Mid ∧ n ≤ sizeLine ∧ St 0 s₂.heap ∧
      (∀ c ∈ fp, c < s₂.heap.objs.size) ∧ (∀ i vals, Pt i vals → ∃ x y, vals = #[x, y] ∧ P2 i x y) ∧ env.locals ∉ wr ∧ s₂.heap.Ns env.locals m ∧
      (∀ C i x y s₃ m₃ E', s₂.heap.objs.size ≤ C → i < n → P2 i x y → s₃.heap.Ns C m₃ → m₃ a = some x → m₃ b = some y → (∀ c o, c ∉ wr → s₂.heap.get? c = some o → s₃.heap.get? c = some o) →
        wpAny (model prog w) A (eval elt (compEnvC scope cl C env)) (fun v s₄ => F i v ∧ Keeps s₃ s₄) E' s₃) ∧
      (∀ D h' tk (ys : Array Value), s₂.heap.get? D = none → h'.PlainList D ys → ys.size = n → (∀ j v, ys[j]? = some v → F j v) → h'.Ns env.locals (fun z => if z = y then some (.ref D) else m z) →
        (∀ c o, c ≠ env.locals → c ∉ wr → s₂.heap.get? c = some o → h'.get? c = some o) → Q .next { s₂ with heap := h', toks := tk })) E s₁) E s)
    (hs : ∀ x, foldedSetIterable iter env x = pure x) :
    wpAny (model prog w) A (exec (.Assign [.Name y py] (.ListComp elt [⟨.Tuple [.Name a pa, .Name b pb] kk tp, iter, [], 0⟩] scope pos) spos) env) Q E s := by
  rw [exec_Assign_Name_used _ _ _ _ hsw]
  refine wpAny_bind (wpAny_standAt (wpAny_bind ?_))
  show wpAny _ A (do let _ ← comprehension (.ListComp elt [⟨.Tuple [.Name a pa, .Name b pb] kk tp, iter, [], 0⟩] scope pos) scope env _ (newList []) false (eval iter env) (some (assign (.Name y py) env))) _ _ s
  refine wpAny_bind (wpAny_mono (wpAny_comprehension_free (use := some (assign (.Name y py) env)) (Q := fun _ s' => Q .next s') rfl hs hclos hkind hnames
    (wpAny_mono h (fun xv s₁ h₁ => wpAny_mono h₁ (fun it s₂ h₂ => ?_) fun _ _ e => e) fun _ _ e => e)) (fun _ s' hq => wpAny_pure (wpAny_pure hq)) fun _ _ e => e)
  obtain ⟨I, fp, wr, n, Pt, St, Mid, P2, m, rfl, W, hsz, hst, hfp, h2, hLf, hn, helt, hQ⟩ := h₂
  refine compT (RR := fun acc C => compPost (model prog w) A E (some (assign (.Name y py) env)) (fun _ s' => Q .next s') acc C) W hsz hh F hcell hkind ha hb hab hst hfp h2 helt ?_
  intro D C h' tk m' ys hD hC hDC hnC hplD hlen hF hk
  have hLC : env.locals ≠ C := by rintro rfl; obtain ⟨o, _, _, ho, _⟩ := hn; rw [hC] at ho; cases ho
  have hLD : env.locals ≠ D := by rintro rfl; obtain ⟨o, _, _, ho, _⟩ := hn; rw [hD] at ho; cases ho
  show wpAny _ A (assign (.Name y py) env (.ref D)) _ _ _
  refine wpAny_assign_Name (wpAny_storeName_local hy (hn.at' fun o e => hk _ o hLf e) (fun h₂ hn₂ hs₂ => ?_) hp)
  refine ⟨m', hnC.sameBut hs₂ (Ne.symm hLC), fun h₃ hs₃ => ?_⟩
  exact hQ D h₃ _ ys hD ((hplD.extBut hs₂.extBut (Ne.symm hLD)).extBut hs₃.extBut hDC) hlen hF (hn₂.sameBut hs₃ hLC) fun c o hcL hc e =>
    hs₃.extBut c o (by rintro rfl; rw [hC] at e; cases e) (hs₂.extBut c o hcL (hk c o hc e))
end Mine
-- part WN
namespace Mine
/-- a def's call by its body, where a parameter is a cell -/
theorem enterC {w : World} {A : Around} {E : Value → Shared → Prop} {s : Shared} {name qual : Str} {params : Arguments} {body : List Stmt} {scope : Scope} {dV kV doc pm cdv ct oc : Value} {an od : Option Addr} {osl : Array (Option Value)} {f : Addr} {args : List Value} {binds : List (Str × Value)} {Q : Value → Shared → Prop}
    (G : Gr w s.heap)
    (ho : (Mine.hd.heap_39 w.params).lookup f = some ⟨oc, od, .func (fnOf name qual params body scope dV kV doc pm an cdv ct), osl⟩) (hcd : codeIn (Mine.hd.heap_39 w.params) cdv qual = true) (hroom : A.depth < recursionLimit)
    (hbind : BindsTo s (fnOf name qual params body scope dV kV doc pm an cdv ct) ⟨args, []⟩ binds)
    (hkind : (binds.all fun y => scope.names.lookup y.1 == some .local || scope.names.lookup y.1 == some .cell) = true)
    (hnd : ((cellsFrom 0 scope.names []).map (·.1)).Nodup)
    (hco : scope.isCoroutine = false) (hgen : scope.isGenerator = false) (hk : scope.kind = .function)
    (h : ∀ h₁ tk cells, Fr s.heap s.heap.objs.size h₁ (bindL (envOfC qual scope s.heap.objs.size f cdv).kindOf binds fun _ => none) → News s.heap s.heap.objs.size h₁ cells →
      CellsAre (bindC (envOfC qual scope s.heap.objs.size f cdv).kindOf binds fun _ => none) (cellsFrom (s.heap.objs.size + 1) scope.names []) cells →
      wpAny (model prg w) (A.deeper (envOfC qual scope s.heap.objs.size f cdv)) (execs body (envOfC qual scope s.heap.objs.size f cdv))
        (fun fl s' => Q (match fl with | .ret v => v | _ => .none) s') (fun _ _ => False) { s with heap := h₁, toks := tk }) :
    wpAny (model prg w) A (call (.ref f) args) Q E s := by
  refine wpAny_call ?_
  obtain ⟨mean, mg, mb, T⟩ := G.T
  refine codeAny_call_function hroom (G.X _ _ ho) rfl hco hgen rfl (codeRec_of G.X hcd) (hbind _ _ _ _ ?_)
  refine wpAny_newFunctionEnv_cells hk (kindsX hkind _) fun env' he s' x => ?_
  subst he
  refine ⟨T.nolimit.keeps x.toInCall.keep, codeAny_func ?_⟩
  obtain ⟨h₁, tk, rfl, _⟩ := x.done
  obtain ⟨cells, NC, Y⟩ := Cl.news (h₀ := s.heap) (Nat.le_refl _) fun n c hm => ⟨x.cell n c (lookup_of_mem_nodup (cellsFrom_names scope.names 0 (s.heap.objs.size + 1) [] [] rfl ▸ hnd) hm), x.above n c hm⟩
  exact wpAny_mono (h h₁ tk cells ⟨x.toInCall.ns, x.toInCall.keep, Nat.le_refl _⟩ NC Y) (fun fl s' hl => hl) fun _ _ y => y.elim
section
variable {M : Model} {A : Around} {E : Value → Shared → Prop} {s : Shared} {env : Env} {h₀ : Heap} {L : Addr} {m mg mb : Str → Option Value} {x : Str} {pos : Pos} {v : Value} {Q : Value → Shared → Prop} {news : List (Addr × Obj)} {c : Addr} {o : Obj} {K : Frag} {p : Program} {loose : List Str}
theorem nmL (F : Fr h₀ L s.heap m) (hL : env.locals = L) (hv : m x = some v) (hk : env.scope.kind = .function) (hl : env.kindOf x = some .local) (hd : (x == ("__debug__" : Str)) = false) (h : Q v s) :
    wpAny M A (eval (.Name x pos) env) Q E s := wpAny_Name (wpAny_loadName_local hk hl (hL ▸ F.ns) hv h) hd
theorem nmC (N : News h₀ L s.heap news) (hc : env.cells.lookup x = some c) (hm : (c, o) ∈ news) (ho : o.data = .cell (some v)) (hk : env.scope.kind = .function) (hl : env.kindOf x = some .cell) (hd : (x == ("__debug__" : Str)) = false) (h : Q v s) :
    wpAny M A (eval (.Name x pos) env) Q E s := wpAny_Name (wpAny_loadName_cell hk hl hc ⟨o, N.get hm, ho⟩ h) hd
theorem nmB (F : Fr h₀ L s.heap m) (X : K.In h₀) (T : TopRead p loose mg mb h₀) (e : nsIn K mainGlobals x = some none) (hv : bootBuiltins x = some v) (hn : x ≠ "__name__") (hg : env.globals = mainGlobals) (hb : env.builtins = builtinsNs)
    (hk : env.scope.kind = .function) (hl : env.kindOf x = some .globalImplicit) (hd : (x == ("__debug__" : Str)) = false) (h : Q v s) : wpAny M A (eval (.Name x pos) env) Q E s :=
  Name_function_global hk hl (loadGlobal_builtin (env := env) (by rw [hg]; exact T.g.keeps F.keep) (mg_none_of X T.g e) (by rw [hb]; exact T.b.keeps F.keep) ((T.builtins x hn).trans hv) h) hd
end
/-- the frame of a comprehension's block -/
theorem fr_block {h₀ h : Heap} {C : Addr} {m : Str → Option Value} (hn : h.Ns C m) (hk : ∀ b o, h₀.get? b = some o → h.get? b = some o) (hC : h₀.objs.size ≤ C) : Fr h₀ C h m := ⟨hn, hk, hC⟩
end Mine
-- part W5
namespace Mine
theorem fill5 : (PySem.Challenge.rw_pg0017_01, Mine.hd.heap_39) = (PySem.Challenge.rw_pg0017_01, Mine.hd.heap_39) := by
  w_top off
  k_fill
  rfl
def isEnd (ks : List Int) (k : Int) : Bool := decide (k = (ks.length : Int)) || decide (ks.getD (k - 1).toNat 0 < 65) || decide (ks.getD (k - 1).toNat 0 > 90)
def endsF (ks : List Int) : List Int := ((List.range ks.length).map fun (i : Nat) => 1 + (i : Int)).filter (isEnd ks)
def cutF (ks : List Int) (b e : Int) : List Int := (ks.drop b.toNat).take (e.toNat - b.toNat)
def piecesF (ks : List Int) : List (List Int) := List.zipWith (cutF ks) (0 :: endsF ks) (endsF ks)
def BytesAre (vs : List Value) (ps : List (List Int)) : Prop := vs.length = ps.length ∧ ∀ (j : Nat) (v : Value), vs[j]? = some v → ∃ b t, v = Value.bytes b t ∧ ps[j]? = some (KBw.bInts b)
theorem isL {h₀ h : Heap} {L a : Addr} {news : List (Addr × Obj)} {its : Array Value} {n : Nat} (N : News h₀ L h news) (hm : (a, listOf its n) ∈ news) : h.IsList a its := ⟨_, (N _ hm).1, rfl, n, rfl⟩
theorem paired_eq : ∀ {l₁ l₂ : List Value}, Paired (fun v y => y = v) l₁ l₂ → l₂ = l₁
  | _, _, .nil => rfl
  | _, _, .cons h t => by rw [h, paired_eq t]
theorem ints_of_get : ∀ {vs : List Value} {ns : List Int}, vs.length = ns.length → (∀ (j : Nat) (v : Value), vs[j]? = some v → ∃ t, v = Value.int (ns.getD j 0) t) → IntsAre vs ns
  | [], [], _, _ => .nil
  | [], _ :: _, h, _ => by simp at h
  | _ :: _, [], h, _ => by simp at h
  | v :: vs, n :: ns, h, hg => by
    obtain ⟨t, e⟩ := hg 0 v rfl
    have e' : v = Value.int n t := e
    subst e'
    exact .cons n t (ints_of_get (by simpa using h) fun j u hu => hg (j + 1) u (by simpa using hu))
theorem ints_filter {p : Value → Bool} {pz : Int → Bool} (hp : ∀ n t, p (.int n t) = pz n) : ∀ {vs : List Value} {ns : List Int}, IntsAre vs ns → IntsAre (vs.filter p) (ns.filter pz)
  | _, _, .nil => .nil
  | _, _, .cons n t r => by
    have ih := ints_filter hp r
    cases h : pz n with
    | true => rw [List.filter_cons_of_pos (by rw [hp, h]), List.filter_cons_of_pos h]; exact .cons n t ih
    | false => rw [List.filter_cons_of_neg (by rw [hp, h]; exact Bool.false_ne_true), List.filter_cons_of_neg (by rw [h]; exact Bool.false_ne_true)]; exact ih
theorem walks_lt {prog : Program} {w : World} {A : Around} {I : Addr} {fp wr : List Addr} {n : Nat} {P : Nat → Value → Prop} {St : Nat → Heap → Prop} (W : Walks prog w A I fp wr n P St) : Walks prog w A I fp wr n (fun i v => i < n ∧ P i v) St where
  sub := W.sub
  frame := W.frame
  item := fun i s Q E hi st hQ => W.item i s Q E hi st fun v h' tk hP => hQ v h' tk ⟨hi, hP⟩
  done := W.done
  self := W.self
theorem range_iter {prog : Program} {w : World} {A : Around} {E : Value → Shared → Prop} {s : Shared} {lo hi : Int} {t u : Tok} {K : Value → Shared → Prop} (h1 : -(2 ^ 62) ≤ lo) (h2 : lo < 2 ^ 62) (h3 : -(2 ^ 62) ≤ hi) (h4 : hi < 2 ^ 62)
    (h : ∀ I h' tk', s.heap.objs.size ≤ I → I < h'.objs.size → IsRangeIter h' I (lo + ((0 : Nat) : Int) * 1) (((hi - lo).toNat : Int) - ((0 : Nat) : Int)) 1 → (∀ c o, s.heap.get? c = some o → h'.get? c = some o) → K (.ref I) { s with heap := h', toks := tk' }) :
    wpAny (model prog w) A (call (.type "range") [.int lo t, .int hi u]) (fun xv s₁ => wpAny (model prog w) A (pyIter xv) K E s₁) E s := by
  refine call_range_2 ?_
  refine wpAny_pyIter_range (IsRange.new ..) (small_one h1 h2 h3 h4) ?_
  refine h _ _ _ ?_ ?_ ?_ ?_
  · simp [Heap.size_push]
  · simp [Heap.size_push]
  · have e1 : (lo + ((0 : Nat) : Int) * 1) = lo := by simp
    have e2 : (((hi - lo).toNat : Int) - ((0 : Nat) : Int)) = Builtin.Range.rangeSize lo hi 1 := by rw [rangeSize_one]; split <;> omega
    rw [e1, e2]
    exact Heap.get?_push_size _ rfl
  · exact fun c o e => Heap.get?_push_of_some _ (Heap.get?_push_of_some _ e)
/-- a cut of bytes: what stood stands -/
theorem slice_keep {prog : Program} {w : World} {A : Around} {E : Value → Shared → Prop} {s : Shared} {value slice : Expr} {b : Array UInt8} {t : Tok} {l u : Value} {lo hi : Option Int} {Q : Value → Shared → Prop} {ks : List Int}
    (hk : KBw.bInts b = ks) (hl : IsPart l lo) (hu : IsPart u hi) (hz : ks.length ≤ 16777216)
    (h : ∀ t' k, KBw.bInts (KBy.picked b lo hi) = (ks.drop (lo.elim 0 (clipAt ks.length))).take (hi.elim ks.length (clipAt ks.length) - lo.elim 0 (clipAt ks.length)) →
      Q (.bytes (KBy.picked b lo hi) t') { s with heap := s.heap.push { cls := .type "slice", data := .fields #[l, u, .none] }, toks := k })
    (hs : subscripted slice false (.bytes b t) (.ref s.heap.objs.size) = operate [.ref s.heap.objs.size, .bytes b t] (getItem (.bytes b t) (.ref s.heap.objs.size)))
    (ht : ∀ r, letTemporaryGo value (.bytes b t) r = pure ()) :
    wpAny (model prog w) A (subscriptTail value slice (.bytes b t) (.ref s.heap.objs.size)) Q E { s with heap := s.heap.push { cls := .type "slice", data := .fields #[l, u, .none] } } := by
  have hz' : (KBy.picked b lo hi).size ≤ sizeLine := by
    refine Nat.le_trans (KBc.size_picked_le b lo hi) ?_
    rw [← KBw.ints_length b, hk, sizeLine_eq]
    exact hz
  exact tail_of_ItemOn ⟨"bytes", _, FB.slot_bytes_getitem.lookup, typeIs_bytes _ _ _, getItem_meets (typeIs_bytes _ _ _) (by decide) FB.slot_bytes_getitem FB.entry_bytes_getitem (FB.args_bytes_getitem_2 _ _) (KBc.meets_slice2 b t _ hl hu)
    ⟨Heap.IsSliceOf.new _ _ _ _, hz', fun t' k => h t' k (KBc.ints_picked hk lo hi)⟩⟩ hs ht
theorem ends_in {ks : List Int} {k : Int} (h : k ∈ endsF ks) : 1 ≤ k ∧ k ≤ (ks.length : Int) := by
  have := (List.mem_filter.mp h).1
  obtain ⟨i, hi, rfl⟩ := List.mem_map.mp this
  have := List.mem_range.mp hi
  omega
theorem getD_mem {l : List Int} {i : Nat} (h : i < l.length) : l.getD i 0 ∈ l := by
  rw [List.getD_eq_getElem?_getD, List.getElem?_eq_getElem h]
  exact List.getElem_mem h
theorem clip_in {n : Nat} {k : Int} (h0 : 0 ≤ k) (h1 : k ≤ (n : Int)) : clipAt n k = k.toNat := by
  unfold clipAt
  rw [if_neg (by omega)]
  omega
local macro_rules | `(tactic| walk_at "eval Name") => `(tactic| (first
  | (with_unfolding_all refine nmL (by with_reducible assumption) (by rfl) (by rfl) rfl (by rfl) (by decide) ?_)
  | (with_unfolding_all refine nmC (by with_reducible assumption) (by rfl) (by k_mem) (by assumption) rfl (by rfl) (by decide) ?_)
  | (with_unfolding_all refine' nmB ?F ?X ?T ?e ?hv ?hn rfl rfl rfl (by rfl) (by decide) ?_; (case F => k_asm); (case X => k_asm); (case T => k_asm); (case e => k_is); (case hv => boot_fast); (case hn => decide))))
theorem pieces_c {w : World} {A : Around} {E : Value → Shared → Prop} {s : Shared} {b : Array UInt8} {tb : Tok} {Q : Value → Shared → Prop}
    (G : Gr w s.heap) (hd : A.depth < recursionLimit) (hh : A.handled = none) (hlen : (KBw.bInts b).length ≤ 1000000)
    (h : ∀ D vs n h' tk', s.heap.get? D = none → h'.get? D = some (listOf vs.toArray n) → BytesAre vs (piecesF (KBw.bInts b)) → (∀ b o, s.heap.get? b = some o → h'.get? b = some o) → Q (.ref D) { s with heap := h', toks := tk' }) :
    wpAny (model prg w) A (call (.ref 75) [.bytes b tb]) Q E s := by
  obtain ⟨hA, dp, fr, gd, un⟩ := A
  obtain rfl : hA = none := hh
  refine enterC (binds := [(Str.ofString "octets", .bytes b tb)]) G (by k_is) (by k_is) hd (BindsTo.of_eq rfl) rfl (by decide +kernel) rfl rfl rfl ?_
  intro h₁ tk cells F N Y
  obtain ⟨o', rfl, d1⟩ := CellsAre.one Y
  replace d1 : o'.data = .cell (some (.bytes b tb)) := d1
  clear Y
  have hcfree : s.heap.get? (s.heap.objs.size + 1) = none := (N _ (List.mem_singleton.mpr rfl)).2.2
  have KX := G.X
  obtain ⟨mean, mg, mb, T⟩ := G.T
  generalize hks : KBw.bInts b = ks at *
  have hsz : b.size = ks.length := by rw [← hks, KBw.ints_length]
  refine wpAny_execs_cons ?_
  refine wpAny_Assign_ListComp_free (fun v => match v with | .int k _ => isEnd ks k | _ => false) (fun v y => y = v) rfl rfl (by decide) rfl (by decide) rfl rfl rfl ?_ (fun _ => rfl)
  repeat' ((fail_if_success (show wpAny _ _ (call (Value.type "range") _) _ _ _)); walk1)
  refine range_iter (by decide) (by decide) (by omega) (by omega) ?_
  intro I H2 tk₂ hI0 hI1 hit up
  dsimp only at hI0 hI1 up ⊢
  have hn1 : ((ks.length : Int) + 1 - 1).toNat = ks.length := by omega
  rw [hn1] at hit
  have hLlt : @LT.lt Nat _ s.heap.objs.size h₁.objs.size := F.ns.lt
  have hcell : h₁.get? (s.heap.objs.size + 1) = some o' := (N _ (List.mem_singleton.mpr rfl)).1
  have hclt : @LT.lt Nat _ (s.heap.objs.size + 1) h₁.objs.size := Heap.lt_size hcell
  have hclt2 : @LT.lt Nat _ (s.heap.objs.size + 1) H2.objs.size := Heap.lt_size (up _ _ hcell)
  replace hI0 : @LE.le Nat _ h₁.objs.size I := hI0
  replace hI1 : @LT.lt Nat _ I H2.objs.size := hI1
  refine ⟨I, [I], [I], ks.length, _, _, _, rfl, walks_lt (Walks.range rfl I 1 1 ks.length), by rw [sizeLine_eq]; omega, hit, ?_, ?_, F.ns.keeps up, ?_, ?_⟩
  · intro c hc
    rw [List.mem_singleton.mp hc]; exact hI1
  · intro hm
    have : @Eq Nat s.heap.objs.size I := List.mem_singleton.mp hm
    omega
  · have keep3 : ∀ h : Heap, (∀ c o, c ∉ [I] → H2.get? c = some o → h.get? c = some o) → ∀ c o, h₁.get? c = some o → h.get? c = some o := fun h hk c o e =>
      hk c o (fun q => by have h1 : @LT.lt Nat _ c h₁.objs.size := Heap.lt_size e; have h2 : @Eq Nat c I := List.mem_singleton.mp q; omega) (up c o e)
    constructor
    · rintro C i v s₃ m₃ E' hC ⟨hil, t, rfl⟩ hns hm hk _
      replace hC : @LE.le Nat _ H2.objs.size C := hC
      have F3 : Fr s.heap C s₃.heap m₃ := fr_block hns (fun c o e => keep3 _ hk c o (F.keep c o e)) (show @LE.le Nat _ s.heap.objs.size C by omega)
      have N3 : News s.heap C s₃.heap [(s.heap.objs.size + 1, o')] := fun p hp => by
        rw [List.mem_singleton.mp hp]
        exact ⟨keep3 _ hk _ _ hcell, neN (show @Ne Nat (s.heap.objs.size + 1) C by omega), hcfree⟩
      replace F3 := fr_see [(Str.ofString "k", .int (1 + (i : Int) * 1) t)] F3 (by simp [hm])
      refine wpAny_tests_one ?_
      repeat' ((fail_if_success (with_reducible show _ ∧ _)); walk1)
      all_goals (try dsimp only)
      all_goals (refine ⟨?_, _, _, rfl, fun _ _ e => e⟩)
      all_goals (simp only [isEnd, *, eq_self, decide_true, decide_false, Bool.true_or, Bool.or_true, Bool.or_self, Bool.false_or, Bool.or_false])
    · rintro C i v s₃ m₃ E' hC ⟨hil, t, rfl⟩ _ hns hm hk _
      replace hC : @LE.le Nat _ H2.objs.size C := hC
      have F3 : Fr s.heap C s₃.heap m₃ := fr_block hns (fun c o e => keep3 _ hk c o (F.keep c o e)) (show @LE.le Nat _ s.heap.objs.size C by omega)
      replace F3 := fr_see [(Str.ofString "k", .int (1 + (i : Int) * 1) t)] F3 (by simp [hm])
      walk1
      exact ⟨rfl, _, _, rfl, fun _ _ e => e⟩
  · rintro D h₅ tk₅ ys vs hD - ⟨n5, hD5⟩ hvl hvs hpair hns5 hk5
    have hends : IntsAre ys.toList (endsF ks) := by
      rw [paired_eq hpair]
      refine ints_filter (fun _ _ => rfl) (ints_of_get (by simp [hvl]) ?_)
      intro j v hj
      obtain ⟨hjl, t, e⟩ := hvs j v hj
      refine ⟨t, e.trans ?_⟩
      simp [List.getD_eq_getElem?_getD, List.getElem?_map, List.getElem?_range hjl]
    obtain ⟨vs5, rfl⟩ : ∃ l : List Value, ys = l.toArray := ⟨ys.toList, by simp⟩
    rw [List.toList_toArray] at hends
    have keep5 : ∀ c o, @Ne Nat c s.heap.objs.size → h₁.get? c = some o → h₅.get? c = some o := fun c o hc e =>
      hk5 c o hc (fun q => by have h1 : @LT.lt Nat _ c h₁.objs.size := Heap.lt_size e; have h2 : @Eq Nat c I := List.mem_singleton.mp q; omega) (up c o e)
    have hDf : s.heap.get? D = none := by
      cases e : s.heap.get? D with
      | none => rfl
      | some o => have := up _ _ (F.keep _ _ e); rw [hD] at this; cases this
    have hDL : @Ne Nat D s.heap.objs.size := by
      intro e
      obtain ⟨oL, _, _, hoL, _⟩ := F.ns
      have := up _ _ hoL
      rw [← e, hD] at this
      cases this
    have F5 : Fr s.heap s.heap.objs.size h₅ (fun z => if z = Str.ofString "ends" then some (.ref D) else bindL _ _ _ z) :=
      ⟨hns5, fun c o e => keep5 c o (fun q => by have h1 : @LT.lt Nat _ c s.heap.objs.size := Heap.lt_size e; omega) (F.keep c o e), Nat.le_refl _⟩
    have N5 : News s.heap s.heap.objs.size h₅ [(D, listOf vs5.toArray n5), (s.heap.objs.size + 1, o')] := by
      intro p hp
      rcases List.mem_cons.mp hp with rfl | hp
      · exact ⟨hD5, hDL, hDf⟩
      · rw [List.mem_singleton.mp hp]
        exact ⟨keep5 _ _ (by omega) hcell, (N _ (List.mem_singleton.mpr rfl)).2⟩
    repeat' ((fail_if_success (show wpAny _ _ (eval (Expr.ListComp _ _ _ _) _) _ _ _)); walk1)
    refine ListComp_T rfl (fun j v => ∃ b' t', v = Value.bytes b' t' ∧ KBw.bInts b' = cutF ks ((0 :: endsF ks).getD j 0) ((endsF ks).getD j 0)) rfl (by decide) rfl (by decide) rfl rfl (by decide) ?_ (fun _ => rfl)
    have hel : (endsF ks).length ≤ ks.length := by
      refine Nat.le_trans (List.length_filter_le _ _) ?_
      simp
    repeat' walk1
    rename Fr _ _ _ _ => F6
    rename News _ _ _ _ => N6
    rename ZipApart _ _ _ _ _ _ _ => hap
    rename IsZip _ _ _ _ _ ∧ _ => hst6
    rename IntsAre _ ([0] ++ endsF ks) => hI6
    rename_i lz hz0 l1z Dz wsz h5b F5b N5b l2z hLKz h6 z6 TI6 TO6 i16 i26 hk6 kz6 kTO6 k16 k26 a6z _ _ _ _ _
    dsimp only at hk6 kz6 kTO6 k16 k26
    have notin : ∀ c : Addr, @LT.lt Nat _ c h5b.objs.size → c ∉ [z6, TO6, i16, i26] := by
      intro c hc hm
      replace kz6 : @LE.le Nat _ h5b.objs.size z6 := kz6
      replace kTO6 : @LE.le Nat _ h5b.objs.size TO6 := kTO6
      replace k16 : @LE.le Nat _ h5b.objs.size i16 := k16
      replace k26 : @LE.le Nat _ h5b.objs.size i26 := k26
      simp only [List.mem_cons, List.not_mem_nil, or_false] at hm
      rcases hm with hm | hm | hm | hm
      · have e : @Eq Nat c z6 := hm
        omega
      · have e : @Eq Nat c TO6 := hm
        omega
      · have e : @Eq Nat c i16 := hm
        omega
      · have e : @Eq Nat c i26 := hm
        omega
    have hcell6 : h6.get? (s.heap.objs.size + 1) = some o' := (N6 _ (List.mem_cons_of_mem _ (List.mem_cons_of_mem _ (List.mem_cons_of_mem _ (List.mem_cons_self ..))))).1
    have hcelln := notin _ (Heap.lt_size (N5b _ (List.mem_cons_of_mem _ (List.mem_cons_of_mem _ (List.mem_cons_of_mem _ (List.mem_cons_self ..))))).1)
    have hbase : ∀ c o, s.heap.get? c = some o → h6.get? c = some o ∧ c ∉ [z6, TO6, i16, i26] := fun c o e => ⟨F6.keep c o e, notin _ (Heap.lt_size (F5b.keep c o e))⟩
    refine wpAny_pyIter_zip hst6.1 ?_
    have hlen6 := hI6.length
    have hlen5 := hends.length
    obtain ⟨hz6, hTI6, ⟨a6, b6, hTO6⟩, hi16, hi26, hl16, hl26⟩ := id hst6
    have lt6 : ∀ {h : Heap} {c : Addr} {o : Obj}, h.get? c = some o → c < h.objs.size := fun e => Heap.lt_size e
    refine ⟨_, _, _, _, _, _, _, fun i x y => i < (endsF ks).length ∧ ∃ t t', x = Value.int ((0 :: endsF ks).getD i 0) t ∧ y = Value.int ((endsF ks).getD i 0) t', rfl, WalksT.zip2 rfl _ _ _ _ _ _ _ hap _ _, ?_, hst6, ?_, ?_, ?_, ?_⟩
    · rw [sizeLine_eq, List.size_toArray, List.size_toArray, hlen5]
      omega
    · intro c hc
      simp only [List.mem_cons, List.not_mem_nil, or_false] at hc
      rcases hc with rfl | rfl | rfl | rfl | rfl | rfl | rfl
      · exact lt6 hz6
      · exact lt6 hTI6
      · exact lt6 hTO6
      · obtain ⟨_, e, _⟩ := hi16; exact lt6 e
      · obtain ⟨_, e, _⟩ := hi26; exact lt6 e
      · obtain ⟨_, e, _⟩ := hl16; exact lt6 e
      · obtain ⟨_, e, _⟩ := hl26; exact lt6 e
    · rintro i vals ⟨x, y, hx, hy, rfl⟩
      refine ⟨x, y, rfl, ?_⟩
      rw [List.getElem?_toArray] at hx hy
      have hi : i < (endsF ks).length := by
        rw [← hlen5]
        rcases Nat.lt_or_ge i vs5.length with q | q
        · exact q
        · rw [List.getElem?_eq_none q] at hy; cases hy
      obtain ⟨t', ey⟩ := hends.get i ((endsF ks).getD i 0) (by simp [List.getD_eq_getElem?_getD, hi])
      obtain ⟨t, ex⟩ := hI6.get i ((0 :: endsF ks).getD i 0) (by
        have : i < (0 :: endsF ks).length := by rw [List.length_cons]; omega
        show (0 :: endsF ks)[i]? = _
        rw [List.getD_eq_getElem?_getD, List.getElem?_eq_getElem this]; rfl)
      rw [ex] at hx
      rw [ey] at hy
      exact ⟨hi, t, t', (Option.some.inj hx).symm, (Option.some.inj hy).symm⟩
    · rintro C i x y s₃ m₃ E' hC _ ⟨hi, t, t', rfl, rfl⟩ hns ha hb hk
      dsimp only at hC hk
      replace hC : @LE.le Nat _ h6.objs.size C := hC
      have hcl : @LT.lt Nat _ (s.heap.objs.size + 1) h6.objs.size := Heap.lt_size hcell6
      have F3 : Fr s.heap C s₃.heap m₃ := fr_block hns (fun c o e => hk c o (hbase c o e).2 (hbase c o e).1) (show @LE.le Nat _ s.heap.objs.size C by omega)
      have N3 : News s.heap C s₃.heap [(s.heap.objs.size + 1, o')] := fun p hp => by
        rw [List.mem_singleton.mp hp]
        exact ⟨hk _ _ hcelln hcell6, neN (show @Ne Nat (s.heap.objs.size + 1) C by omega), hcfree⟩
      replace F3 := fr_see [(Str.ofString "begin", Value.int ((0 :: endsF ks).getD i 0) t), (Str.ofString "end", Value.int ((endsF ks).getD i 0) t')] F3 (by simp [ha, hb])
      repeat' ((fail_if_success (show wpAny _ _ (subscriptTail _ _ _ _) _ _ _)); walk1)
      refine slice_keep hks (.int _ _) (.int _ _) (by omega) ?_ (by with_unfolding_all rfl) (by intro _; with_unfolding_all rfl)
      intro t₄ k₄ hcut
      have hb1 : 0 ≤ (0 :: endsF ks).getD i 0 ∧ (0 :: endsF ks).getD i 0 ≤ (ks.length : Int) := by
        rcases List.mem_cons.mp (getD_mem (l := 0 :: endsF ks) (i := i) (by rw [List.length_cons]; omega)) with e | e
        · rw [e]; omega
        · have := ends_in e; omega
      have he1 := ends_in (getD_mem hi)
      refine ⟨⟨_, _, rfl, hcut.trans ?_⟩, _, _, rfl, fun c o e => Heap.get?_push_of_some _ e⟩
      simp only [Option.elim, cutF]
      rw [clip_in hb1.1 hb1.2, clip_in (by omega) he1.2]
    · rintro D₉ h₉ tk₉ ys hD₉ ⟨n9, hpl⟩ hys hF hk
      dsimp only at hD₉ hk ⊢
      have e1 : wsz.toArray.size = (endsF ks).length + 1 := by rw [List.size_toArray, hlen6, List.length_append, List.length_singleton]; omega
      have e2 : vs5.toArray.size = (endsF ks).length := by rw [List.size_toArray, hlen5]
      rw [e1, e2] at hys
      have hlp : (piecesF ks).length = (endsF ks).length := by
        rw [piecesF, List.length_zipWith, List.length_cons]; omega
      refine h D₉ ys.toList n9 h₉ tk₉ ?_ hpl ⟨?_, ?_⟩ fun c o e => hk c o (hbase c o e).2 (hbase c o e).1
      · cases e : s.heap.get? D₉ with
        | none => rfl
        | some o => have := (hbase _ _ e).1; rw [hD₉] at this; cases this
      · rw [Array.length_toList, hys, hlp]; omega
      · intro j v hj
        rw [Array.getElem?_toList] at hj
        obtain ⟨b', t', rfl, e⟩ := hF j v hj
        refine ⟨b', t', rfl, ?_⟩
        have hjl : j < (endsF ks).length := by
          rcases Nat.lt_or_ge j ys.size with q | q
          · omega
          · rw [Array.getElem?_eq_none q] at hj; cases hj
        have hjl' : j < (0 :: endsF ks).length := by rw [List.length_cons]; omega
        rw [e, piecesF, List.getElem?_zipWith, List.getElem?_eq_getElem hjl, List.getElem?_eq_getElem hjl', List.getD_eq_getElem?_getD, List.getD_eq_getElem?_getD, List.getElem?_eq_getElem hjl, List.getElem?_eq_getElem hjl']
        rfl
end Mine
-- part WL
namespace Mine
theorem paired_ints' {p : Value → Bool} {pz : Int → Bool} {f : Int → Int} (hp : ∀ n t, p (.int n t) = pz n) : ∀ {vs : List Value} {ns : List Int} {ys : List Value}, IntsAre vs ns → Paired (fun v y => ∀ k t, v = Value.int k t → ∃ u, y = Value.int (f k) u) (vs.filter p) ys → IntsAre ys ((ns.filter pz).map f)
  | _, _, _, .nil, h => by cases h; exact .nil
  | _, _, _, .cons n t r, h => by
    cases hz : pz n with
    | true =>
      rw [List.filter_cons_of_pos (by rw [hp, hz])] at h
      rw [List.filter_cons_of_pos hz, List.map_cons]
      cases h with
      | cons h1 h2 =>
        obtain ⟨u, rfl⟩ := h1 n t rfl
        exact .cons _ _ (paired_ints' hp r h2)
    | false =>
      rw [List.filter_cons_of_neg (by rw [hp, hz]; exact Bool.false_ne_true)] at h
      rw [List.filter_cons_of_neg (by rw [hz]; exact Bool.false_ne_true)]
      exact paired_ints' hp r h
theorem bytes_ints (b : Array UInt8) {vs : List Value} (hl : vs.length = b.size) (hv : ∀ (j : Nat) (v : Value), vs[j]? = some v → ∃ (c : UInt8) (u : Tok), b[j]? = some c ∧ v = Value.int ((c.toNat : Nat) : Int) u) : IntsAre vs (KBw.bInts b) := by
  refine ints_of_get (by rw [hl, KBw.ints_length]) ?_
  intro j v hj
  obtain ⟨c, u, hc, rfl⟩ := hv j v hj
  refine ⟨u, ?_⟩
  rw [List.getD_eq_getElem?_getD, KBw.ints_get hc]
  rfl
/-- «[elt for x in bytes if ..]», ints -/
theorem ListComp_B {prog : Program} {w : World} {A : Around} {E : Value → Shared → Prop} {env : Env} {s : Shared} {elt iter : Expr} {x : Str} {px : Pos} {ifs : List Expr} {scope : Scope} {cl : List (Str × Addr)} {pos : Pos} {Q : Value → Shared → Prop}
    (hh : A.handled = none) (pz : Int → Bool) (f : Int → Int) (hclos : closureFor scope env = pure cl)
    (hcell : ∀ y ∈ scope.names, y.2 ≠ .cell) (hkind : scope.kind = .function) (hnames : ∀ y ∈ scope.names, y.2 = .local → scope.names.lookup y.1 = some .local) (hx : scope.names.lookup x = some .local)
    (h : wpAny (model prog w) A (eval iter env) (fun xv s₁ => ∃ b t, xv = Value.bytes b t ∧ b.size ≤ sizeLine ∧
      (∀ C k t s₃ m₃ E', s₁.heap.objs.size ≤ C → k ∈ KBw.bInts b → s₃.heap.Ns C m₃ → m₃ x = some (.int k t) → (∀ c o, s₁.heap.get? c = some o → s₃.heap.get? c = some o) →
        wpAny (model prog w) A (forIn ifs true fun c r => if r = true then do let ok ← isTrue c (compEnvC scope cl C env) (eval c (compEnvC scope cl C env)); pure (ForInStep.yield ok) else pure (ForInStep.yield r))
          (fun ok s₄ => ok = pz k ∧ Keeps s₃ s₄) E' s₃) ∧
      (∀ C k t s₃ m₃ E', s₁.heap.objs.size ≤ C → k ∈ KBw.bInts b → pz k = true → s₃.heap.Ns C m₃ → m₃ x = some (.int k t) → (∀ c o, s₁.heap.get? c = some o → s₃.heap.get? c = some o) →
        wpAny (model prog w) A (eval elt (compEnvC scope cl C env)) (fun y s₄ => (∃ u, y = .int (f k) u) ∧ Keeps s₃ s₄) E' s₃) ∧
      (∀ D vs n h' tk, s₁.heap.get? D = none → h'.get? D = some (listOf vs.toArray n) → IntsAre vs (((KBw.bInts b).filter pz).map f) → (∀ c o, s₁.heap.get? c = some o → h'.get? c = some o) → Q (.ref D) { s₁ with heap := h', toks := tk })) E s)
    (hs : ∀ x, foldedSetIterable iter env x = pure x) :
    wpAny (model prog w) A (eval (.ListComp elt [⟨.Name x px, iter, ifs, 0⟩] scope pos) env) Q E s := by
  refine wpAny_ListComp_free (fun v => match v with | .int k _ => pz k | _ => false) (fun v y => ∀ k t, v = Value.int k t → ∃ u, y = Value.int (f k) u) hclos hcell hkind hnames hx (wpAny_mono h (fun xv s₁ h₁ => ?_) fun _ _ e => e) hs
  obtain ⟨b, t, rfl, hsz, htests, helt, hQ⟩ := h₁
  refine KBw.pyIter_bytes ?_
  have up : ∀ c o, s₁.heap.get? c = some o → (s₁.heap.push { cls := .type "bytes_iterator", data := .fields #[.bytes b t, .int 0 0] }).get? c = some o := fun c o e => Heap.get?_push_of_some _ e
  have old : ∀ h' : Heap, (∀ c o, c ∉ [s₁.heap.objs.size] → (s₁.heap.push { cls := .type "bytes_iterator", data := .fields #[.bytes b t, .int 0 0] }).get? c = some o → h'.get? c = some o) → ∀ c o, s₁.heap.get? c = some o → h'.get? c = some o := fun h' hk c o e =>
    hk c o (fun q => Nat.lt_irrefl _ ((List.mem_singleton.mp q) ▸ Heap.lt_size e)) (up c o e)
  have le : ∀ C : Nat, (s₁.heap.push { cls := .type "bytes_iterator", data := .fields #[.bytes b t, .int 0 0] }).objs.size ≤ C → s₁.heap.objs.size ≤ C := fun C hC => by
    rw [Heap.size_push] at hC; omega
  refine ⟨s₁.heap.objs.size, [s₁.heap.objs.size], [s₁.heap.objs.size], b.size, _, _, rfl, KBw.walks hh _ b t, hsz, ⟨_, Heap.get?_push_size _ rfl, rfl, rfl⟩, ?_, ?_, ?_⟩
  · intro c hc
    rw [List.mem_singleton.mp hc]
    show _ < (s₁.heap.push _).objs.size
    rw [Heap.size_push]
    exact Nat.lt_succ_self _
  · constructor
    · rintro C i v s₃ m₃ E' hC ⟨c, u, hc, rfl⟩ hns hm hk _
      exact htests C _ u s₃ m₃ E' (le C hC) (List.mem_of_getElem? (KBw.ints_get hc)) hns hm (old _ hk)
    · rintro C i v s₃ m₃ E' hC ⟨c, u, hc, rfl⟩ hpz hns hm hk _
      refine wpAny_mono (helt C _ u s₃ m₃ E' (le C hC) (List.mem_of_getElem? (KBw.ints_get hc)) hpz hns hm (old _ hk)) (fun y s₄ q => ⟨?_, q.2⟩) fun _ _ e => e
      intro k t e
      cases e
      exact q.1
  · rintro D h' tk ys vs hD - ⟨n, hD'⟩ hvl hvs hpair hk
    have hDs : s₁.heap.get? D = none := by
      cases e : s₁.heap.get? D with
      | none => rfl
      | some o => have := up _ _ e; rw [hD] at this; cases this
    exact hQ D ys.toList n h' tk hDs hD' (paired_ints' (fun _ _ => rfl) (bytes_ints b hvl hvs) hpair) (old _ hk)
/-- «[elt for x in ints]» -/
theorem ListComp_L {prog : Program} {w : World} {A : Around} {E : Value → Shared → Prop} {env : Env} {s : Shared} {elt iter : Expr} {x : Str} {px : Pos} {scope : Scope} {cl : List (Str × Addr)} {pos : Pos} {Q : Value → Shared → Prop}
    (hh : A.handled = none) (f : Int → Int) (hclos : closureFor scope env = pure cl)
    (hcell : ∀ y ∈ scope.names, y.2 ≠ .cell) (hkind : scope.kind = .function) (hnames : ∀ y ∈ scope.names, y.2 = .local → scope.names.lookup y.1 = some .local) (hx : scope.names.lookup x = some .local)
    (h : wpAny (model prog w) A (eval iter env) (fun xv s₁ => ∃ l vs ns, xv = Value.ref l ∧ s₁.heap.IsList l (List.toArray vs) ∧ IntsAre vs ns ∧ vs.length ≤ sizeLine ∧
      (∀ C k t s₃ m₃ E', s₁.heap.objs.size ≤ C → k ∈ ns → s₃.heap.Ns C m₃ → m₃ x = some (.int k t) → (∀ c o, s₁.heap.get? c = some o → s₃.heap.get? c = some o) →
        wpAny (model prog w) A (eval elt (compEnvC scope cl C env)) (fun y s₄ => (∃ u, y = .int (f k) u) ∧ Keeps s₃ s₄) E' s₃) ∧
      (∀ D vs' n h' tk, s₁.heap.get? D = none → h'.get? D = some (listOf vs'.toArray n) → IntsAre vs' (ns.map f) → (∀ c o, s₁.heap.get? c = some o → h'.get? c = some o) → Q (.ref D) { s₁ with heap := h', toks := tk })) E s)
    (hs : ∀ x, foldedSetIterable iter env x = pure x) :
    wpAny (model prog w) A (eval (.ListComp elt [⟨.Name x px, iter, [], 0⟩] scope pos) env) Q E s := by
  refine wpAny_ListComp_free (fun _ => true) (fun v y => ∀ k t, v = Value.int k t → ∃ u, y = Value.int (f k) u) hclos hcell hkind hnames hx (wpAny_mono h (fun xv s₁ h₁ => ?_) fun _ _ e => e) hs
  obtain ⟨l, vs, ns, rfl, hl, hi, hsz, helt, hQ⟩ := h₁
  refine wpAny_pyIter_list hl ?_
  obtain ⟨ol, hol, _⟩ := id hl
  have hlt : l < s₁.heap.objs.size := Heap.lt_size hol
  have up : ∀ c o, s₁.heap.get? c = some o → (s₁.heap.push { cls := .type "list_iterator", data := .fields #[.ref l, .int 0 0] }).get? c = some o := fun c o e => Heap.get?_push_of_some _ e
  have old : ∀ h' : Heap, (∀ c o, c ∉ [s₁.heap.objs.size] → (s₁.heap.push { cls := .type "list_iterator", data := .fields #[.ref l, .int 0 0] }).get? c = some o → h'.get? c = some o) → ∀ c o, s₁.heap.get? c = some o → h'.get? c = some o := fun h' hk c o e =>
    hk c o (fun q => Nat.lt_irrefl _ ((List.mem_singleton.mp q) ▸ Heap.lt_size e)) (up c o e)
  have le : ∀ C : Nat, (s₁.heap.push { cls := .type "list_iterator", data := .fields #[.ref l, .int 0 0] }).objs.size ≤ C → s₁.heap.objs.size ≤ C := fun C hC => by
    rw [Heap.size_push] at hC; omega
  have typ : ∀ (i : Nat) (v : Value), vs.toArray[i]? = some v → ∃ k t, v = Value.int k t ∧ k ∈ ns := fun i v hv => by
    rw [List.getElem?_toArray] at hv
    have hil : i < ns.length := by
      rw [← hi.length]
      rcases Nat.lt_or_ge i vs.length with q | q
      · exact q
      · rw [List.getElem?_eq_none q] at hv; cases hv
    obtain ⟨t, e⟩ := hi.get i ns[i] (by simp)
    rw [hv] at e
    exact ⟨_, t, Option.some.inj e, List.getElem_mem hil⟩
  refine ⟨s₁.heap.objs.size, [s₁.heap.objs.size, l], [s₁.heap.objs.size], vs.toArray.size, _, _, rfl, Walks.list hh _ l (Nat.ne_of_lt hlt) vs.toArray, by rw [List.size_toArray]; exact hsz, ⟨⟨_, Heap.get?_push_size _ rfl, rfl, rfl⟩, hl.push _⟩, ?_, ?_, ?_⟩
  · intro c hc
    show _ < (s₁.heap.push _).objs.size
    rw [Heap.size_push]
    rcases List.mem_cons.mp hc with rfl | hc
    · exact Nat.lt_succ_self _
    · rw [List.mem_singleton.mp hc]; exact Nat.lt_succ_of_lt hlt
  · constructor
    · intro C i v s₃ m₃ E' hC hv hns hm hk _
      exact wpAny_tests_nil ⟨rfl, _, _, rfl, fun _ _ e => e⟩
    · intro C i v s₃ m₃ E' hC hv _ hns hm hk _
      obtain ⟨k, t, rfl, hmem⟩ := typ i v hv
      refine wpAny_mono (helt C k t s₃ m₃ E' (le C hC) hmem hns hm (old _ hk)) (fun y s₄ q => ⟨?_, q.2⟩) fun _ _ e => e
      intro k' t' e
      cases e
      exact q.1
  · rintro D h' tk ys us hD - ⟨n, hD'⟩ hvl hvs hpair hk
    have hDs : s₁.heap.get? D = none := by
      cases e : s₁.heap.get? D with
      | none => rfl
      | some o => have := up _ _ e; rw [hD] at this; cases this
    have hus : us = vs := by
      apply List.ext_getElem?
      intro j
      rcases Nat.lt_or_ge j us.length with q | q
      · have e1 := hvs j us[j] (by simp)
        rw [List.getElem?_toArray] at e1
        rw [e1]; simp
      · rw [List.getElem?_eq_none q, List.getElem?_eq_none (by rw [hvl, List.size_toArray] at q; exact q)]
    subst hus
    have := paired_ints' (pz := fun _ => true) (fun _ _ => rfl) hi hpair
    rw [List.filter_eq_self.mpr (fun _ _ => rfl)] at this
    exact hQ D ys.toList n h' tk hDs hD' this (old _ hk)
end Mine
-- part W6
namespace Mine
theorem fill6 : (PySem.Challenge.rw_pg0017_01, Mine.hd.heap_39) = (PySem.Challenge.rw_pg0017_01, Mine.hd.heap_39) := by
  w_top off
  k_fill
  rfl
/-- a loop over a list that the call has made -/
theorem iter_listN {prog : Program} {w : World} {A : Around} {E : Value → Shared → Prop} {s : Shared} {env : Env} {h₀ : Heap} {x : Str} {body : List Stmt} {Q : Flow → Shared → Prop} {D : Addr} {vs : List Value} {n : Nat} {m : Str → Option Value}
    (J : Nat → (Str → Option Value) → Prop) (hh : A.handled = none) (F : Fr h₀ env.locals s.heap m) (N : News h₀ env.locals s.heap [(D, listOf vs.toArray n)]) (h0 : J 0 m)
    (turn : ∀ i v m₁ I oI h tk, vs[i]? = some v → @Ne Nat D I → J i m₁ → Fr h₀ env.locals h (fun y => if y = x then some v else m₁ y) → News h₀ env.locals h [(D, listOf vs.toArray n), (I, oI)] →
      wpAny (model prog w) A (execs body env) (TurnK h₀ env.locals [(D, listOf vs.toArray n), (I, oI)] s (J (i + 1)) (fun v s' => Q (.ret v) s')) E { s with heap := h, toks := tk })
    (done : ∀ h' tk m', Fr h₀ env.locals h' m' → J vs.length m' → Q .next { s with heap := h', toks := tk }) :
    wpAny (model prog w) A (pyIter (.ref D)) (fun it s₂ => LoopAtV prog w A h₀ env x body Q E it s₂) E s := by
  have hD := N _ (List.mem_singleton.mpr rfl)
  have hls : s.heap.IsList D vs.toArray := isL N (List.mem_singleton.mpr rfl)
  have hDI : @Ne Nat D s.heap.objs.size := Nat.ne_of_lt (Heap.lt_size hD.1)
  refine wpAny_pyIter_list hls ?_
  have W := Walks.list (prog := prog) (w := w) hh s.heap.objs.size D hDI vs.toArray
  refine ⟨s.heap.objs.size, [s.heap.objs.size, D], [s.heap.objs.size], vs.toArray.size, _, _, m, [(D, listOf vs.toArray n)], fun i m₁ news₁ => news₁ = [(D, listOf vs.toArray n)] ∧ J i m₁, rfl, W, ?_, ?_, ?_, ⟨⟨_, Heap.get?_push_size _ rfl, rfl, rfl⟩, hls.at fun o e => Heap.get?_push_of_some _ e⟩, F.push _, ?_, ⟨rfl, h0⟩, ?_, ?_⟩
  · intro hm
    rcases List.mem_cons.mp hm with e | hm
    · exact absurd F.ns.lt (e ▸ Nat.lt_irrefl _)
    · exact hD.2.1 (List.mem_singleton.mp hm).symm
  · intro b hb
    rw [List.mem_singleton.mp hb]
    exact next_is_new F
  · intro p hp hI
    rw [List.mem_singleton.mp hp] at hI
    exact hDI (List.mem_singleton.mp hI)
  · exact fun p hp => ⟨Heap.get?_push_of_some _ (N p hp).1, (N p hp).2⟩
  · rintro i v m₁ news₁ s₁ own ⟨h, tk, rfl⟩ hin hP ⟨rfl, hJ⟩ hoff hs hget hmem hst F₁ N₁
    have hfree : h₀.get? s.heap.objs.size = none := next_is_new F
    obtain ⟨⟨oI, hI, _⟩, _⟩ := hst
    have hD₁ := (N₁ _ (List.mem_append_right _ (List.mem_singleton.mpr rfl))).1
    have own1 : ∀ p ∈ own, p = (s.heap.objs.size, oI) ∨ p = (D, listOf vs.toArray n) := by
      rintro ⟨a, o⟩ hp
      have hn := (N₁ _ (List.mem_append_left _ hp)).1
      rcases List.mem_cons.mp (hs _ hp) with e | e
      · have e' : a = s.heap.objs.size := e
        subst e'
        rw [hI] at hn
        cases hn
        exact .inl rfl
      · have e' : a = D := List.mem_singleton.mp e
        subst e'
        rw [hD₁] at hn
        cases hn
        exact .inr rfl
    have hmI : (s.heap.objs.size, oI) ∈ own := hmem _ (List.mem_cons_self ..) hfree _ hI
    have N₂ : News h₀ env.locals h [(D, listOf vs.toArray n), (s.heap.objs.size, oI)] := by
      intro p hp
      rcases List.mem_cons.mp hp with rfl | hp
      · exact N₁ _ (List.mem_append_right _ (List.mem_singleton.mpr rfl))
      · rw [List.mem_singleton.mp hp]
        exact N₁ _ (List.mem_append_left _ hmI)
    refine wpAny_mono (turn i v m₁ _ oI h tk (by simpa using hP) hDI hJ F₁ N₂) (fun f s₂ p => ?_) fun _ _ e => e
    rcases p with ⟨rfl, h', tk', m', news', rfl, F', N', hk, hJ'⟩ | ⟨v, rfl, hr⟩
    · refine LoopStepV.next (LoopStepU.intro (news₂ := [(D, listOf vs.toArray n)]) F' ?_ ?_ ⟨rfl, hJ'⟩)
      · intro p hp
        rcases List.mem_append.mp hp with hp | hp
        · rcases own1 p hp with rfl | rfl
          · exact N' _ (hk _ (List.mem_cons_of_mem _ (List.mem_singleton.mpr rfl)))
          · exact N' _ (hk _ (List.mem_cons_self ..))
        · rw [List.mem_singleton.mp hp]
          exact N' _ (hk _ (List.mem_cons_self ..))
      · intro p hp hI
        rw [List.mem_singleton.mp hp] at hI
        exact hDI (List.mem_singleton.mp hI)
    · exact LoopStepV.ret hr
  · rintro h' tk m' news' F' N' _ ⟨rfl, hJ⟩
    rw [List.size_toArray] at hJ
    exact done h' tk m' F' hJ
def okPiece (p : List Int) : Bool :=
  !(decide (p.getLastD 0 < 193) || decide (p.getLastD 0 > 208) || decide (p.dropLast.filter (fun o => decide (o > 80)) ≠ [])) && !(decide ((p.length : Int) > 1) && decide (p.getD 0 0 = 65))
def orderF (ks : List Int) : Bool := (piecesF ks).all okPiece
theorem okP1 {p : List Int} (h : p.getLastD 0 < 193) : okPiece p = false := by
  simp only [okPiece, decide_eq_true h, Bool.true_or, Bool.not_true, Bool.false_and]
theorem okP2 {p : List Int} (h : 208 < p.getLastD 0) : okPiece p = false := by
  simp only [okPiece, decide_eq_true (show p.getLastD 0 > 208 from h), Bool.true_or, Bool.or_true, Bool.not_true, Bool.false_and]
theorem okP3 {p : List Int} (h : p.dropLast.filter (fun o => decide (o > 80)) ≠ []) : okPiece p = false := by
  simp only [okPiece, decide_eq_true h, Bool.or_true, Bool.not_true, Bool.false_and]
theorem okP4 {p : List Int} (h : (p.length : Int) > 1) (h' : p.getD 0 0 = 65) : okPiece p = false := by
  simp only [okPiece, decide_eq_true h, decide_eq_true h', Bool.and_self, Bool.not_true, Bool.and_false]
theorem okP5 {p : List Int} (h1 : ¬ p.getLastD 0 < 193) (h2 : ¬ 208 < p.getLastD 0) (h3 : p.dropLast.filter (fun o => decide (o > 80)) = []) (h4 : ¬ ((p.length : Int) > 1 ∧ p.getD 0 0 = 65)) : okPiece p = true := by
  simp only [okPiece, decide_eq_false h1, decide_eq_false (show ¬ p.getLastD 0 > 208 from h2), decide_eq_false (not_not_intro h3), Bool.or_self, Bool.not_false, Bool.true_and]
  rw [Bool.not_eq_true', ← Bool.not_eq_true, Bool.and_eq_true, decide_eq_true_eq, decide_eq_true_eq]
  exact h4
theorem all_false {α : Type} {l : List α} {p : α → Bool} {x : α} (h : x ∈ l) (hp : p x = false) : l.all p = false := by
  cases e : l.all p with
  | false => rfl
  | true => rw [List.all_eq_true.mp e x h] at hp; cases hp
/-- the frame and the ledger behind a comprehension -/
theorem fr_past {h₀ h h' : Heap} {L I : Addr} {m : Str → Option Value} (F : Fr h₀ L h m) (hI : h.objs.size ≤ I) (hk : ∀ c o, c ∉ [I] → h.get? c = some o → h'.get? c = some o) : Fr h₀ L h' m :=
  F.keeps fun c o e => hk c o (fun q => Nat.lt_irrefl _ (Nat.lt_of_lt_of_le ((List.mem_singleton.mp q) ▸ Heap.lt_size e) hI)) e
theorem news_past {h₀ h h' : Heap} {L I : Addr} {news : List (Addr × Obj)} (N : News h₀ L h news) (hI : h.objs.size ≤ I) (hk : ∀ c o, c ∉ [I] → h.get? c = some o → h'.get? c = some o) : News h₀ L h' news :=
  N.grown fun c o e => hk c o (fun q => Nat.lt_irrefl _ (Nat.lt_of_lt_of_le ((List.mem_singleton.mp q) ▸ Heap.lt_size e) hI)) e
theorem fresh_past {h₀ h : Heap} {L D : Addr} {m : Str → Option Value} (F : Fr h₀ L h m) (hD : h.get? D = none) : D ≠ L ∧ h₀.get? D = none := by
  refine ⟨?_, ?_⟩
  · rintro rfl
    obtain ⟨oL, _, _, hoL, _⟩ := F.ns
    rw [hD] at hoL
    cases hoL
  · cases e : h₀.get? D with
    | none => rfl
    | some o => have := F.keep _ _ e; rw [hD] at this; cases this
theorem piece_len {ks p : List Int} (h : p ∈ piecesF ks) : p.length ≤ ks.length := by
  unfold piecesF at h
  rw [List.mem_iff_getElem] at h
  obtain ⟨i, hi, e⟩ := h
  rw [List.getElem_zipWith] at e
  rw [← e, cutF, List.length_take, List.length_drop]
  omega
local macro_rules | `(tactic| walk_at "eval Name") => `(tactic| (first
  | (with_unfolding_all refine nmL (by with_reducible assumption) (by rfl) (by rfl) rfl (by rfl) (by decide) ?_)
  | (with_unfolding_all refine nmC (by with_reducible assumption) (by rfl) (by k_mem) (by assumption) rfl (by rfl) (by decide) ?_)
  | (with_unfolding_all refine' nmB ?F ?X ?T ?e ?hv ?hn rfl rfl rfl (by rfl) (by decide) ?_; (case F => k_asm); (case X => k_asm); (case T => k_asm); (case e => k_is); (case hv => boot_fast); (case hn => decide))))
local macro_rules | `(tactic| walk_at "call ref") => `(tactic| (refine pieces_c (Gr.keeps (by assumption) (Fr.keep (by with_reducible assumption))) (by (dsimp only [Around.deeper]; omega)) rfl (by assumption) ?_))
theorem in_order_c {w : World} {A : Around} {E : Value → Shared → Prop} {s : Shared} {b : Array UInt8} {tb : Tok} {Q : Value → Shared → Prop}
    (G : Gr w s.heap) (hd : A.depth + 1 < recursionLimit) (hh : A.handled = none) (hu : A.units + 100 < cLine) (hlen : (KBw.bInts b).length ≤ 1000000) (hne : ∀ p ∈ piecesF (KBw.bInts b), p ≠ [])
    (h : ∀ h' tk', (∀ b o, s.heap.get? b = some o → h'.get? b = some o) → Q (.bool (orderF (KBw.bInts b))) { s with heap := h', toks := tk' }) :
    wpAny (model prg w) A (call (.ref 80) [.bytes b tb]) Q E s := by
  obtain ⟨hA, dp, fr, gd, un⟩ := A
  obtain rfl : hA = none := hh
  replace hd : dp + 1 < recursionLimit := hd
  replace hu : un + 100 < cLine := hu
  refine enter (binds := [(Str.ofString "octets", .bytes b tb)]) G (by k_is) (by k_is) (by (dsimp only; omega)) (BindsTo.of_eq rfl) (locs rfl) rfl rfl rfl (by decide) ?_
  intro h₁ F
  have KX := G.X
  obtain ⟨mean, mg, mb, T⟩ := G.T
  have N : News s.heap s.heap.objs.size h₁ [] := News.nil
  repeat' ((fail_if_success (show wpAny _ _ (exec (Stmt.For _ _ _ _ _) _) _ _ _)); walk1)
  refine For_invV s.heap rfl rfl ?_ (fun _ => rfl) passF
  repeat' walk1
  rename_i D vs n h₂ tk₂ hDf hD2 hB kp2
  dsimp only at hDf kp2 ⊢
  have F2 := F.keeps kp2
  have hDs : s.heap.get? D = none := by
    cases e : s.heap.get? D with
    | none => rfl
    | some o => have := F.keep _ _ e; rw [hDf] at this; cases this
  have hDL : @Ne Nat D s.heap.objs.size := by
    intro e
    obtain ⟨oL, _, _, hoL, _⟩ := F.ns
    rw [← e, hDf] at hoL
    cases hoL
  have N2 : News s.heap s.heap.objs.size h₂ [(D, listOf vs.toArray n)] := by
    intro p hp
    rw [List.mem_singleton.mp hp]
    exact ⟨hD2, hDL, hDs⟩
  generalize hks : KBw.bInts b = ks at *
  clear F N hDf kp2 hD2
  refine iter_listN (fun i m₁ => ∀ p ∈ (piecesF ks).take i, okPiece p = true) rfl F2 N2 (by simp) ?_ ?_
  · clear F2 N2
    intro i v m₁ I oI h₃ tk₃ hv hDI hJ F3 N3
    obtain ⟨b', t', rfl, hp⟩ := hB.2 i v hv
    have hpm := List.mem_of_getElem? hp
    have hpne := hne _ hpm
    have hpl := piece_len hpm
    have hst : (piecesF ks).take (i + 1) = (piecesF ks).take i ++ [KBw.bInts b'] := by
      rw [List.take_add_one, hp]; rfl
    have hpos : 1 ≤ (KBw.bInts b').length := List.length_pos_iff.mpr hpne
    have hbb : ∀ k ∈ KBw.bInts b', 0 ≤ k ∧ k < 256 := fun k hk => KBw.ints_in hk
    generalize hq : KBw.bInts b' = q at *
    repeat' ((fail_if_success (show wpAny _ _ (eval (Expr.ListComp _ _ _ _) _) _ _ _)); walk1)
    all_goals (try dsimp only)
    · refine .inr ⟨_, rfl, ?_⟩
      rename q.getD (-1 + (q.length : Int)).toNat 0 < 193 => h1
      rw [getD_neg1] at h1
      have e : orderF ks = false := all_false hpm (okP1 h1)
      rw [e] at h
      exact h _ _ (Fr.keep (by assumption))
    · refine .inr ⟨_, rfl, ?_⟩
      rename 208 < q.getD (-1 + (q.length : Int)).toNat 0 => h1
      rw [getD_neg1] at h1
      have e : orderF ks = false := all_false hpm (okP2 h1)
      rw [e] at h
      exact h _ _ (Fr.keep (by assumption))
    rename ¬ q.getD (-1 + (q.length : Int)).toNat 0 < 193 => h1
    rename ¬ 208 < q.getD (-1 + (q.length : Int)).toNat 0 => h2
    rw [getD_neg1] at h1 h2
    refine ListComp_B rfl (fun k => decide (k > 80)) (fun k => k) rfl (by decide) rfl (by decide) rfl ?_ (fun _ => rfl)
    repeat' ((fail_if_success (with_reducible show Exists _)); walk1)
    rename Fr _ _ _ _ => F5
    rename News _ _ _ _ => N5
    rename KBw.bInts (KBy.picked b' none (some (-1))) = _ => hcut
    rw [take_neg1 hpos] at hcut
    generalize KBy.picked b' none (some (-1)) = bq at *
    rename_i h₅ t₅ k₅
    dsimp only at F5 N5 ⊢
    have hbq : bq.size ≤ 1000000 := by
      rw [← KBw.ints_length, hcut, List.length_dropLast]; omega
    refine ⟨bq, _, rfl, by rw [sizeLine_eq]; omega, ?_, ?_, ?_⟩
    · intro C k t s₄ m₄ E' hC _ hns hm hk
      have F6 : Fr s.heap C s₄.heap m₄ := fr_block hns (fun c o e => hk c o (F5.keep c o e)) (Nat.le_trans (Nat.le_of_lt (Nat.lt_of_le_of_lt F5.above F5.ns.lt)) hC)
      replace F6 := fr_see [(Str.ofString "octet", .int k t)] F6 (by simp [hm])
      refine wpAny_tests_one ?_
      repeat' ((fail_if_success (with_reducible show _ ∧ _)); walk1)
      exact ⟨rfl, _, _, rfl, fun _ _ e => e⟩
    · intro C k t s₄ m₄ E' hC _ _ hns hm hk
      have F6 : Fr s.heap C s₄.heap m₄ := fr_block hns (fun c o e => hk c o (F5.keep c o e)) (Nat.le_trans (Nat.le_of_lt (Nat.lt_of_le_of_lt F5.above F5.ns.lt)) hC)
      replace F6 := fr_see [(Str.ofString "octet", .int k t)] F6 (by simp [hm])
      repeat' ((fail_if_success (with_reducible show _ ∧ _)); walk1)
      exact ⟨⟨_, rfl⟩, _, _, rfl, fun _ _ e => e⟩
    · intro D₉ vs₉ n₉ h₉ tk₉ hD₉ hD₉' hi₉ hk₉
      rw [hcut, List.map_id'] at hi₉
      have F9 := F5.keeps hk₉
      have N9 : News s.heap s.heap.objs.size h₉ [(D₉, listOf vs₉.toArray n₉), (D, listOf vs.toArray n), (I, oI)] := by
        intro p hp
        rcases List.mem_cons.mp hp with rfl | hp
        · have := fresh_past F5 hD₉
          exact ⟨hD₉', this.1, this.2⟩
        · exact (N5.grown hk₉) p hp
      clear F5 N5
      repeat' ((fail_if_success (show wpAny _ _ (compareOp CmpOp.NotEq (Value.ref _) (Value.ref _)) _ _ _)); walk1)
      rename News _ _ _ _ => N10
      refine ke_ne_ints (isL N10 (List.mem_cons_of_mem _ (List.mem_cons_self ..))) (isL N10 (List.mem_cons_self ..)) hi₉ .nil (by (dsimp only [Around.deeper]; omega)) ?_
      repeat' walk1
      all_goals (try dsimp only)
      · rename (1 : Int) < (q.length : Int) => h3
        rename q.getD (Int.toNat 0) 0 = 65 => h4
        have e : orderF ks = false := all_false hpm (okP4 h3 h4)
        rw [e] at h
        exact .inr ⟨_, rfl, h _ _ (Fr.keep (by assumption))⟩
      · rename decide (_ = _) = true => hf
        rename q.getD (Int.toNat 0) 0 ≠ 65 => h4
        have e : okPiece q = true := okP5 h1 h2 (of_decide_eq_true hf) (fun c => h4 c.2)
        refine turn_end (by assumption) N10 (by simp) ?_
        intro p hp
        rw [hst] at hp
        rcases List.mem_append.mp hp with hp | hp
        · exact hJ p hp
        · rw [List.mem_singleton.mp hp]; exact e
      · rename decide (_ = _) = true => hf
        rename ¬ (1 : Int) < (q.length : Int) => h4
        have e : okPiece q = true := okP5 h1 h2 (of_decide_eq_true hf) (fun c => h4 c.1)
        refine turn_end (by assumption) N10 (by simp) ?_
        intro p hp
        rw [hst] at hp
        rcases List.mem_append.mp hp with hp | hp
        · exact hJ p hp
        · rw [List.mem_singleton.mp hp]; exact e
      · rename decide (_ = _) = false => hf
        have e : orderF ks = false := all_false hpm (okP3 (of_decide_eq_false hf))
        rw [e] at h
        exact .inr ⟨_, rfl, h _ _ (Fr.keep (by assumption))⟩
  · intro h₃ tk₃ m' F3 hJ
    rw [hB.1, List.take_length] at hJ
    repeat' walk1
    all_goals (try dsimp only)
    have e : orderF ks = true := List.all_eq_true.mpr hJ
    rw [e] at h
    exact h _ _ F3.keep
end Mine
-- part WE
namespace Mine
section
variable {prog : Program} {w : World} {A : Around} {E : Value → Shared → Prop} {s : Shared} {b : Array UInt8} {t : Tok}
theorem meets_enumB (b : Array UInt8) (t : Tok) :
    Meets (Builtin.«enumerate.__new__» ⟨[.type "enumerate", .bytes b t], []⟩) (fun _ R s =>
      R (.ok (.ret (.ref (s.heap.push { cls := .type "bytes_iterator", data := .fields #[.bytes b t, .int 0 0] }).objs.size)))
        { s with heap := (s.heap.push { cls := .type "bytes_iterator", data := .fields #[.bytes b t, .int 0 0] }).push { cls := .type "enumerate", data := .fields #[.none, .bool false, .ref s.heap.objs.size, rawInt 0, .none, .none] } }) :=
  .of_wp fun prog w A R s h => by
    obtain ⟨hp, g, d, tk, os⟩ := s
    have hsub := sub_enumerate
    wp_walk
    refine wpAny_stack_any fun st => wpAny_pure ?_
    split
    · rename_i c _ _ _ _ _
      cases (c == Value.type "enumerate")
      · wp_walk using KBw.pyIter_bytes
        exact ⟨_, rfl, h⟩
      · wp_walk using KBw.pyIter_bytes
        exact ⟨_, rfl, h⟩
    · wp_walk using KBw.pyIter_bytes
      exact ⟨_, rfl, h⟩
theorem enum_bytes {Q : Value → Shared → Prop}
    (h : ∀ h', IsEnum h' (s.heap.objs.size + 1) s.heap.objs.size 0 .none → KBw.IsBytesIter h' s.heap.objs.size b t 0 → h'.objs.size = s.heap.objs.size + 2 →
      (∀ c o, s.heap.get? c = some o → h'.get? c = some o) → Q (.ref (s.heap.objs.size + 1)) { s with heap := h' }) :
    wpAny (model prog w) A (call (.type "enumerate") [.bytes b t]) Q E s := by
  refine callType_new F.called_enumerate (by decide) (F.typeCall_enumerate_1 _) (F.newCall_enumerate_1 _) (fun obj => F.args_object_init_2 obj _) F.entry_enumerate_new (meets_enumB b t) ?_
  have hz : (s.heap.push { cls := .type "bytes_iterator", data := .fields #[.bytes b t, .int 0 0] }).objs.size = s.heap.objs.size + 1 := Heap.size_push ..
  show _ ∧ _
  rw [hz]
  have he : IsEnum ((s.heap.push { cls := .type "bytes_iterator", data := .fields #[.bytes b t, .int 0 0] }).push
      { cls := .type "enumerate", data := .fields #[.none, .bool false, .ref s.heap.objs.size, rawInt 0, .none, .none] }) (s.heap.objs.size + 1) s.heap.objs.size 0 .none := by
    have := Heap.get?_push_size (s.heap.push { cls := .type "bytes_iterator", data := .fields #[.bytes b t, .int 0 0] })
      (o := { cls := .type "enumerate", data := .fields #[.none, .bool false, .ref s.heap.objs.size, rawInt 0, .none, .none] }) rfl
    rw [hz] at this; exact this
  exact ⟨⟨_, he, rfl⟩, h _ he ⟨_, Heap.get?_push_of_some _ (Heap.get?_push_size _ rfl), rfl, rfl⟩ (by rw [Heap.size_push, hz]) fun c o x => Heap.get?_push_of_some _ (Heap.get?_push_of_some _ x)⟩
theorem nextB_item {it : Addr} {i : Nat} {c : UInt8} {Q : Value → Shared → Prop} (hit : KBw.IsBytesIter s.heap it b t i) (hx : b[i]? = some c)
    (hQ : ∀ h', KBw.IsBytesIter h' it b t (i + 1) → Heap.SameBut it s.heap h' → Q (.int ((c.toNat : Nat) : Int) s.toks) { s with heap := h', toks := s.toks + 1 }) : wpAny (model prog w) A (Builtin.SmallTypes.nextOf (.ref it)) Q E s := by
  obtain ⟨o, ho, hc, hd⟩ := id hit
  unfold Builtin.SmallTypes.nextOf
  refine wpAny_bind (wpAny_callSpecial?_slot (name := Str.ofString "__next__") (KBw.iter_typeIs hit) KBw.slot_next (wpAny_call_entry KBw.slot_next (KBw.iter_typeIs hit) KBw.entry_next ?_ (KBw.args_next _)))
  show wpAny _ _ (field (.ref it) 0 >>= _) _ _ s
  refine wpAny_bind (wpAny_field ho hd (x := .bytes b t) rfl ?_)
  show wpAny _ _ (if (Value.bytes b t == Value.none) = true then _ else _) _ _ s
  rw [if_neg (show ¬ ((Value.bytes b t == Value.none) = true) from Bool.false_ne_true)]
  show wpAny _ _ (field (.ref it) 1 >>= _) _ _ s
  refine wpAny_bind (wpAny_field ho hd (x := .int i 0) rfl ?_)
  refine wpAny_bind (wpAny_of_eq (a := b) rfl ?_)
  simp only [Int.toNat_natCast, hx]
  refine wpAny_bind (wpAny_setField ho hd (by simp) (wpAny_bind (wpAny_mkInt (wpAny_pure ⟨_, rfl, wpAny_pure (hQ _ ?_ (Heap.SameBut.update ..))⟩))))
  exact ⟨_, Heap.get?_update_self _ ho (Obj.isFreed_of_fields (Obj.data_mapFields hd _)), (Obj.cls_mapFields ..).trans hc, by rw [Obj.data_mapFields hd]; simp [rawInt]⟩
theorem nextB_end {it : Addr} {i : Nat} {Q : Value → Shared → Prop} (hh : A.handled = none) (hit : KBw.IsBytesIter s.heap it b t i) (hx : b[i]? = none)
    (hE : ∀ h' e, Heap.ExtBut it s.heap h' → (∃ o, h'.get? e = some o ∧ o.cls = .type "StopIteration") → E (.ref e) { s with heap := h' }) : wpAny (model prog w) A (Builtin.SmallTypes.nextOf (.ref it)) Q E s := by
  obtain ⟨o, ho, hc, hd⟩ := id hit
  unfold Builtin.SmallTypes.nextOf
  refine wpAny_bind (wpAny_callSpecial?_slot (name := Str.ofString "__next__") (KBw.iter_typeIs hit) KBw.slot_next (wpAny_call_entry KBw.slot_next (KBw.iter_typeIs hit) KBw.entry_next ?_ (KBw.args_next _)))
  show wpAny _ _ (field (.ref it) 0 >>= _) _ _ s
  refine wpAny_bind (wpAny_field ho hd (x := .bytes b t) rfl ?_)
  show wpAny _ _ (if (Value.bytes b t == Value.none) = true then _ else _) _ _ s
  rw [if_neg (show ¬ ((Value.bytes b t == Value.none) = true) from Bool.false_ne_true)]
  show wpAny _ _ (field (.ref it) 1 >>= _) _ _ s
  refine wpAny_bind (wpAny_field ho hd (x := .int i 0) rfl ?_)
  refine wpAny_bind (wpAny_of_eq (a := b) rfl ?_)
  simp only [Int.toNat_natCast, hx]
  refine wpAny_bind (wpAny_rule (wpAny_bind (wpAny_setField ho hd (by simp) ?_)))
  show wpAny _ _ (newExc (.type "StopIteration") [] >>= _) _ _ _
  refine wpAny_bind ?_
  simp only [newExc, newTuple]
  refine wpAny_bind (wpAny_newObj_type ?_ (by size_fits))
  refine wpAny_bind (m := firstArgMember _ _) (wpAny_of_eq (a := Value.none) (by first | rfl | (simp only [firstArgMember]; rfl)) ?_)
  refine wpAny_newObj_type ?_ (by size_fits)
  simp only [raiseNew]
  refine wpAny_bind (wpAny_handled ?_)
  first | rw [show A.in1.handled = none from hh] | rw [hh]
  refine wpAny_bind (wpAny_pure (wpAny_throw ?_))
  exact hE _ _ (((Heap.SameBut.update ..).extBut.push _).push _) ⟨_, Heap.get?_push_size _ rfl, rfl⟩
end
theorem drawsB {prog : Program} {w : World} {A : Around} (hh : A.handled = none) (it : Addr) (b : Array UInt8) (t : Tok) :
    Draws prog w A it [it] b.size (fun i v => ∃ c u, b[i]? = some c ∧ v = .int ((c.toNat : Nat) : Int) u) (fun i h => KBw.IsBytesIter h it b t i) where
  live := fun _ _ st => let ⟨o, ho, _⟩ := st; ⟨o, ho⟩
  frame := fun _ _ _ st hk => let ⟨o, ho, r⟩ := st; ⟨o, hk it (by simp) o ho, r⟩
  item := fun i s Q E hi st hQ => by
    refine nextB_item st (c := b[i]) (by simp [hi]) fun h' hit' hs' => ?_
    exact hQ _ h' (s.toks + 1) ⟨_, _, by simp [hi], rfl⟩ hit' hs'
  done := fun s Q E st hE => nextB_end hh st (by simp) hE
theorem meets_rev (b : Array UInt8) (t tk : Tok) (a : Addr) :
    Meets (Builtin.«bytes.__getitem__» ⟨[.bytes b t, .ref a], []⟩) (fun _ R s => s.heap.IsSliceOf a .none .none (.int (-1) tk) ∧ b.size ≤ sizeLine ∧ ∀ t' k, R (.ok (.ret (.bytes b.toList.reverse.toArray t'))) { s with toks := k }) := by
  refine .of_wp fun prog w A R s hS => ?_
  obtain ⟨⟨o, ho, hc, hd⟩, hsz, h⟩ := hS
  have hT : s.TypeIs (.ref a) "slice" := ⟨o, ho, hc⟩
  show wpAny _ _ (Builtin.Bytes.payload (.bytes b t) >>= fun r => _) _ _ s
  refine wpAny_bind (wpAny_of_eq (a := b) rfl ?_)
  show wpAny _ _ (Builtin.Bytes.subscript? (.ref a) >>= fun r => _) _ _ s
  refine wpAny_bind ?_
  unfold Builtin.Bytes.subscript?
  refine wpAny_bind (wpAny_specialOf hT slice_no_index (wpAny_pure ?_))
  refine wpAny_bind (wpAny_typeOf hT ?_)
  show wpAny _ _ (Builtin.Bytes.sliceParts (.ref a) >>= fun r => _) _ _ s
  refine wpAny_bind ?_
  unfold Builtin.Bytes.sliceParts
  refine wpAny_bind (wpAny_field (x := .int (-1) tk) ho hd rfl ?_)
  refine wpAny_bind (wpAny_ite (KBy.ite_no (show ¬ ((Value.int (-1) tk == Value.none) = true) from Bool.false_ne_true) ?_))
  refine wpAny_bind (wpAny_specialOf (T := "int") (typeIs_int _ _ _) PySem.F.slot_int_index.lookup ?_)
  refine wpAny_ite (KBy.ite_no (show ¬ (Option.isNone (some (Value.builtin "int.__index__")) = true) from Bool.false_ne_true) ?_)
  refine wpAny_bind (wpAny_of_eq (a := (-1 : Int)) rfl (wpAny_pure ?_))
  refine wpAny_ite (KBy.ite_no (show ¬ ((rawInt (-1) == rawInt 0) = true) by decide) ?_)
  refine wpAny_bind (wpAny_field (x := .none) ho hd rfl ?_)
  refine wpAny_bind (wpAny_of_eq (a := Value.none) rfl ?_)
  refine wpAny_bind (wpAny_field (x := .none) ho hd rfl ?_)
  refine wpAny_bind (wpAny_of_eq (a := Value.none) rfl (wpAny_pure ?_))
  refine wpAny_bind (wpAny_of_eq (sliceIndices_raw none none (some (-1)) b.size (by decide)) ?_)
  rw [krv_bounds]
  refine wpAny_ite (KBy.ite_no ?_ ?_)
  · simp
  · have e : Builtin.Bytes.sliced b ((b.size : Int) - 1) (-1) (-1) = b.toList.reverse.toArray := by
      unfold Builtin.Bytes.sliced
      rw [krv_sliceRange, krv_range, List.filterMap_reverse, krv_all]
    refine wpAny_bind (wpAny_mkBytes (wpAny_pure ⟨_, rfl, ?_⟩) ?_)
    · (try dsimp only)
      rw [e]
      exact h _ _
    · (try dsimp only)
      rw [e]
      simpa using hsz
/-- piece[::-1] -/
theorem rev_keep {prog : Program} {w : World} {A : Around} {E : Value → Shared → Prop} {s : Shared} {value slice : Expr} {b : Array UInt8} {t tk : Tok} {Q : Value → Shared → Prop} (hz : b.size ≤ sizeLine)
    (h : ∀ t' k, Q (.bytes b.toList.reverse.toArray t') { s with heap := s.heap.push { cls := .type "slice", data := .fields #[.none, .none, .int (-1) tk] }, toks := k })
    (hs : subscripted slice false (.bytes b t) (.ref s.heap.objs.size) = operate [.bytes b t, .ref s.heap.objs.size] (getItem (.bytes b t) (.ref s.heap.objs.size)))
    (ht : ∀ r, letTemporaryGo value (.bytes b t) r = pure ()) :
    wpAny (model prog w) A (subscriptTail value slice (.bytes b t) (.ref s.heap.objs.size)) Q E { s with heap := s.heap.push { cls := .type "slice", data := .fields #[.none, .none, .int (-1) tk] } } :=
  tail_of_ItemOn ⟨"bytes", _, FB.slot_bytes_getitem.lookup, typeIs_bytes _ _ _, getItem_meets (typeIs_bytes _ _ _) (by decide) FB.slot_bytes_getitem FB.entry_bytes_getitem (FB.args_bytes_getitem_2 _ _) (meets_rev b t tk _)
    ⟨Heap.IsSliceOf.new _ _ _ _, hz, h⟩⟩ hs ht
end Mine
-- part W7
namespace Mine
/-- the law's own record, taken from the head -/
noncomputable abbrev dOf {q : Program} {l : List Str} {XP : (Str → Option Value) → Heap → Prop} {YP : World → Heap → Prop} {r : RowW} {d : DefRec} {k : List (Str × Expr)} {run : Value → List Value → Sem Value} {P : Prop} (_ : WalkO q l XP YP r d k run → P) : DefRec := d
section
variable {prog : Program} {w : World} {A : Around} {E : Value → Shared → Prop} {s : Shared}
theorem sum_keep {l : Addr} {vs : List Value} {ns : List Int} {Q : Value → Shared → Prop} (hh : A.handled = none) (hl : s.heap.IsList l vs.toArray) (hi : IntsAre vs ns)
    (h : ∀ t' h' tk', (∀ b o, s.heap.get? b = some o → h'.get? b = some o) → Q (.int ns.sum t') { s with heap := h', toks := tk' }) :
    wpAny (model prog w) A (call (.builtin "sum") [.ref l]) Q E s := by
  obtain ⟨xs, e⟩ := hi.allInts.items
  rw [e] at hl
  have e2 : ns = PySem.numsOf (intItems xs).toList := by rw [← e]; exact hi.numsOf.symm
  rw [nums_intItems] at e2
  refine sum_intListG hh hl fun h' tk t' hk => ?_
  rw [preSum_eq, List.take_of_length_le (by simp), ← e2]
  exact h t' h' tk hk
/-- script[k::10] -/
theorem cut_keep {value slice : Expr} {l : Addr} {vs : List Value} {ns : List Int} {vl vu vst : Value} {lo hi st : Option Int} {Q : Value → Shared → Prop}
    (hl : s.heap.IsList l vs.toArray) (hi' : IntsAre vs ns) (pl : IsPart vl lo) (pu : IsPart vu hi) (ps : IsPart vst st) (h0 : st ≠ some 0) (hz : vs.length ≤ sizeLine)
    (h : ∀ D ws n h' ms, h'.get? D = some (listOf ws.toArray n) → IntsAre ws ms → ws.length ≤ vs.length → (∀ b o, s.heap.get? b = some o → h'.get? b = some o) → Q (.ref D) { s with heap := h' })
    (hs : subscripted slice false (.ref l) (.ref s.heap.objs.size) = operate [.ref l, .ref s.heap.objs.size] (getItem (.ref l) (.ref s.heap.objs.size)))
    (ht : ∀ r, letTemporaryGo value (.ref l) r = pure ()) :
    wpAny (model prog w) A (subscriptTail value slice (.ref l) (.ref s.heap.objs.size)) Q E { s with heap := s.heap.push { cls := .type "slice", data := .fields #[vl, vu, vst] } } := by
  refine subscriptTail_ops (Heap.IsList.typeIs (s := { s with heap := s.heap.push { cls := .type "slice", data := .fields #[vl, vu, vst] } }) (hl.push _)) list_getitem_lookup
    (wpAny_getItem_list_slice (hl.push _) (Heap.IsSliceOf.new ..) pl pu ps h0 ?_ (by rw [List.size_toArray]; exact hz)) hs ht
  have e : (slicePick vs.toArray lo hi st) = (slicePick vs.toArray lo hi st).toList.toArray := by simp
  refine h _ (slicePick vs.toArray lo hi st).toList 0 _ _ ?_ (hi'.pick lo hi st) ?_ fun b o e => Heap.get?_push_of_some _ (Heap.get?_push_of_some _ e)
  · rw [← e]; exact Heap.get?_push_size _ rfl
  · have := slicePick_size_le vs.toArray lo hi st
    rw [List.size_toArray] at this
    rwa [Array.length_toList]
end
theorem ints_ex : ∀ {vs : List Value}, (∀ v ∈ vs, ∃ k t, v = Value.int k t) → ∃ ns, IntsAre vs ns
  | [], _ => ⟨[], .nil⟩
  | v :: vs, h => by
    obtain ⟨k, t, rfl⟩ := h v (List.mem_cons_self ..)
    obtain ⟨ns, hn⟩ := ints_ex (vs := vs) fun v hv => h v (List.mem_cons_of_mem _ hv)
    exact ⟨k :: ns, .cons k t hn⟩
theorem octF_in (d : Int) : 0 ≤ octF d ∧ octF d < 256 := by
  unfold octF
  have h1 : ∀ a b : Int, 0 < b → 0 ≤ a.fmod b ∧ a.fmod b < b := fun a b hb => ⟨Int.fmod_nonneg_of_pos _ hb, Int.fmod_lt_of_pos _ hb⟩
  have a := h1 (d.fdiv 4) 16 (by decide)
  have b := h1 (d.fdiv 4) 256 (by decide)
  have c := h1 (d.fdiv 4) 26 (by decide)
  split
  · omega
  · split
    · omega
    · split <;> omega
noncomputable abbrev lawD : DefRec := dOf Mine.hd
theorem paired_bytes {f : List Int → Int} : ∀ {vs : List Value} {ps : List (List Int)} {ys : List Value}, BytesAre vs ps → Paired (fun v y => ∀ b t, v = Value.bytes b t → ∃ u, y = Value.int (f (KBw.bInts b)) u) vs ys → IntsAre ys (ps.map f)
  | [], [], _, _, h => by cases h; exact .nil
  | [], _ :: _, _, hb, _ => by have := hb.1; simp at this
  | _ :: _, [], _, hb, _ => by have := hb.1; simp at this
  | v :: vs, p :: ps, _, hb, h => by
    obtain ⟨b, t, rfl, e⟩ := hb.2 0 v rfl
    cases h with
    | cons h1 h2 =>
      obtain ⟨u, rfl⟩ := h1 b t rfl
      have e' : p = KBw.bInts b := Option.some.inj e
      subst e'
      exact .cons _ _ (paired_bytes ⟨by have := hb.1; simpa using this, fun j v hj => hb.2 (j + 1) v (by simpa using hj)⟩ h2)
/-- «y = [elt for x in pieces]» -/
theorem Assign_Bs {prog : Program} {w : World} {A : Around} {E : Value → Shared → Prop} {env : Env} {s : Shared} {elt iter : Expr} {x y : Str} {px py : Pos} {scope : Scope} {cl : List (Str × Addr)} {pos spos : Pos} {Q : Flow → Shared → Prop}
    (hh : A.handled = none) (f : List Int → Int)
    (hsw : swapsWith (.ListComp elt [⟨.Name x px, iter, [], 0⟩] scope pos) (some (.Name y py)) spos.line env = pure true)
    (hclos : closureFor scope env = pure cl) (hcell : ∀ z ∈ scope.names, z.2 ≠ .cell) (hkind : scope.kind = .function)
    (hnames : ∀ z ∈ scope.names, z.2 = .local → scope.names.lookup z.1 = some .local) (hx : scope.names.lookup x = some .local)
    (hy : env.kindOf y = some .local) (hp : (env.scope.kind == .class || (env.scope.kind == .module && env.locals != env.globals)) = false)
    (h : wpAny (model prog w) A (eval iter env) (fun xv s₁ => ∃ l vs ps m, xv = Value.ref l ∧ s₁.heap.IsList l (List.toArray vs) ∧ BytesAre vs ps ∧ vs.length ≤ sizeLine ∧ s₁.heap.Ns env.locals m ∧
      (∀ C b t s₃ m₃ E', s₁.heap.objs.size ≤ C → KBw.bInts b ∈ ps → s₃.heap.Ns C m₃ → m₃ x = some (.bytes b t) → (∀ c o, s₁.heap.get? c = some o → s₃.heap.get? c = some o) →
        wpAny (model prog w) A (eval elt (compEnvC scope cl C env)) (fun y s₄ => (∃ u, y = .int (f (KBw.bInts b)) u) ∧ Keeps s₃ s₄) E' s₃) ∧
      (∀ D vs' n h' tk, s₁.heap.get? D = none → h'.get? D = some (listOf vs'.toArray n) → IntsAre vs' (ps.map f) → h'.Ns env.locals (fun z => if z = y then some (.ref D) else m z) → (∀ c o, c ≠ env.locals → s₁.heap.get? c = some o → h'.get? c = some o) → Q .next { s₁ with heap := h', toks := tk })) E s)
    (hs : ∀ x, foldedSetIterable iter env x = pure x) :
    wpAny (model prog w) A (exec (.Assign [.Name y py] (.ListComp elt [⟨.Name x px, iter, [], 0⟩] scope pos) spos) env) Q E s := by
  refine wpAny_Assign_ListComp_free (fun _ => true) (fun v y => ∀ b t, v = Value.bytes b t → ∃ u, y = Value.int (f (KBw.bInts b)) u) hsw hclos hcell hkind hnames hx hy hp (wpAny_mono h (fun xv s₁ h₁ => ?_) fun _ _ e => e) hs
  obtain ⟨l, vs, ps, m, rfl, hl, hi, hsz, hns, helt, hQ⟩ := h₁
  refine wpAny_pyIter_list hl ?_
  obtain ⟨ol, hol, _⟩ := id hl
  have hlt : l < s₁.heap.objs.size := Heap.lt_size hol
  have up : ∀ c o, s₁.heap.get? c = some o → (s₁.heap.push { cls := .type "list_iterator", data := .fields #[.ref l, .int 0 0] }).get? c = some o := fun c o e => Heap.get?_push_of_some _ e
  have nin : ∀ c o, s₁.heap.get? c = some o → c ∉ [s₁.heap.objs.size] := fun c o e q => Nat.lt_irrefl _ ((List.mem_singleton.mp q) ▸ Heap.lt_size e)
  have le : ∀ C : Nat, (s₁.heap.push { cls := .type "list_iterator", data := .fields #[.ref l, .int 0 0] }).objs.size ≤ C → s₁.heap.objs.size ≤ C := fun C hC => by
    rw [Heap.size_push] at hC; omega
  have typ : ∀ (i : Nat) (v : Value), vs.toArray[i]? = some v → ∃ b t, v = Value.bytes b t ∧ KBw.bInts b ∈ ps := fun i v hv => by
    rw [List.getElem?_toArray] at hv
    obtain ⟨b, t, rfl, e⟩ := hi.2 i v hv
    exact ⟨b, t, rfl, List.mem_of_getElem? e⟩
  refine ⟨s₁.heap.objs.size, [s₁.heap.objs.size, l], [s₁.heap.objs.size], vs.toArray.size, _, _, m, rfl, Walks.list hh _ l (Nat.ne_of_lt hlt) vs.toArray, by rw [List.size_toArray]; exact hsz, ⟨⟨_, Heap.get?_push_size _ rfl, rfl, rfl⟩, hl.push _⟩, ?_, ?_, hns.keeps up, ?_, ?_⟩
  · intro c hc
    show _ < (s₁.heap.push _).objs.size
    rw [Heap.size_push]
    rcases List.mem_cons.mp hc with rfl | hc
    · exact Nat.lt_succ_self _
    · rw [List.mem_singleton.mp hc]; exact Nat.lt_succ_of_lt hlt
  · obtain ⟨oL, _, _, hoL, _⟩ := hns
    exact nin _ _ hoL
  · constructor
    · intro C i v s₃ m₃ E' hC hv hns hm hk _
      exact wpAny_tests_nil ⟨rfl, _, _, rfl, fun _ _ e => e⟩
    · intro C i v s₃ m₃ E' hC hv _ hns hm hk _
      obtain ⟨k, t, rfl, hmem⟩ := typ i v hv
      refine wpAny_mono (helt C k t s₃ m₃ E' (le C hC) hmem hns hm (fun c o e => hk c o (nin c o e) (up c o e))) (fun y s₄ q => ⟨?_, q.2⟩) fun _ _ e => e
      intro k' t' e
      cases e
      exact q.1
  · rintro D h' tk ys us hD - ⟨n, hD'⟩ hvl hvs hpair hns' hk
    have hDs : s₁.heap.get? D = none := by
      cases e : s₁.heap.get? D with
      | none => rfl
      | some o => have := up _ _ e; rw [hD] at this; cases this
    have hus : us = vs := by
      apply List.ext_getElem?
      intro j
      rcases Nat.lt_or_ge j us.length with q | q
      · have e1 := hvs j us[j] (by simp)
        rw [List.getElem?_toArray] at e1
        rw [e1]; simp
      · rw [List.getElem?_eq_none q, List.getElem?_eq_none (by rw [hvl, List.size_toArray] at q; exact q)]
    subst hus
    rw [List.filter_eq_self.mpr (fun _ _ => rfl)] at hpair
    exact hQ D ys.toList n h' tk hDs hD' (paired_bytes hi hpair) hns' fun c o hc e => hk c o hc (nin c o e) (up c o e)
end Mine
-- part PL1
namespace Mine
def upB (o : Int) : Bool := decide (65 ≤ o ∧ o ≤ 90)
def consP (o : Int) : List (List Int) → List (List Int)
  | [] => [[o]]
  | p :: ps => (o :: p) :: ps
def splitR : List Int → List (List Int)
  | [] => []
  | o :: r => if upB o then consP o (splitR r) else [o] :: splitR r
theorem zipWith_on {α β γ : Type} {f g : α → β → γ} : ∀ {l₁ : List α} {l₂ : List β}, (∀ a ∈ l₁, ∀ b ∈ l₂, f a b = g a b) → List.zipWith f l₁ l₂ = List.zipWith g l₁ l₂
  | [], _, _ => rfl
  | _ :: _, [], _ => rfl
  | a :: l₁, b :: l₂, h => by
    rw [List.zipWith_cons_cons, List.zipWith_cons_cons, h a (List.mem_cons_self ..) b (List.mem_cons_self ..), zipWith_on fun a ha b hb => h a (List.mem_cons_of_mem _ ha) b (List.mem_cons_of_mem _ hb)]
theorem cut_cons {o : Int} {r : List Int} {a b : Int} (ha : 0 ≤ a) (hb : 0 ≤ b) : cutF (o :: r) (a + 1) (b + 1) = cutF r a b := by
  unfold cutF
  rw [show (a + 1).toNat = a.toNat + 1 by omega, show (b + 1).toNat = b.toNat + 1 by omega, List.drop_succ_cons]
  congr 1
  omega
theorem cut_zero {o : Int} {r : List Int} {b : Int} (hb : 0 ≤ b) : cutF (o :: r) 0 (b + 1) = o :: cutF r 0 b := by
  unfold cutF
  rw [show (b + 1).toNat = b.toNat + 1 by omega]
  simp
theorem isEnd_shift (o : Int) (r : List Int) (i : Nat) : isEnd (o :: r) (1 + (i : Int) + 1) = isEnd r (1 + (i : Int)) := by
  have h1 : (1 + (i : Int) + 1 - 1).toNat = i + 1 := by omega
  have h2 : (1 + (i : Int) - 1).toNat = i := by omega
  rw [Bool.eq_iff_iff]
  simp only [isEnd, Bool.or_eq_true, decide_eq_true_eq]
  rw [h1, h2, List.getD_cons_succ, List.length_cons]
  have h3 : (1 + (i : Int) + 1 = ((r.length + 1 : Nat) : Int)) ↔ (1 + (i : Int) = (r.length : Int)) := by omega
  rw [h3]
theorem ends_cons (o : Int) (r : List Int) : endsF (o :: r) = (if isEnd (o :: r) 1 then [1] else []) ++ (endsF r).map (· + 1) := by
  unfold endsF
  rw [List.length_cons, List.range_succ_eq_map, List.map_cons, List.map_map, List.filter_cons]
  have e : List.filter (isEnd (o :: r)) (List.map ((fun (i : Nat) => 1 + (i : Int)) ∘ Nat.succ) (List.range r.length)) = List.map (· + 1) (List.filter (isEnd r) (List.map (fun (i : Nat) => 1 + (i : Int)) (List.range r.length))) := by
    rw [List.filter_map, List.filter_map, List.map_map]
    have e1 : (fun (i : Nat) => 1 + (i : Int)) ∘ Nat.succ = (fun (x : Int) => x + 1) ∘ (fun (i : Nat) => 1 + (i : Int)) := by
      funext i; simp only [Function.comp]; omega
    rw [e1]
    congr 1
    apply List.filter_congr
    intro i hi
    exact isEnd_shift o r i
  rw [e]
  have h0 : (1 + ((0 : Nat) : Int)) = 1 := rfl
  rw [h0]
  split <;> rfl
theorem ends_pos {r : List Int} : ∀ k ∈ endsF r, 0 ≤ k := fun k hk => by have := ends_in hk; omega
theorem isEnd_one (o : Int) (r : List Int) : isEnd (o :: r) 1 = (decide (r = []) || !upB o) := by
  unfold isEnd upB
  rw [show ((1 : Int) - 1).toNat = 0 from rfl, List.getD_cons_zero, List.length_cons]
  rw [Bool.eq_iff_iff]
  simp only [Bool.or_eq_true, decide_eq_true_eq, Bool.not_eq_true', decide_eq_false_iff_not]
  have : (1 = ((r.length + 1 : Nat) : Int)) ↔ r = [] := by
    rw [← List.length_eq_zero_iff]; omega
  rw [this]
  constructor
  · rintro ((h | h) | h)
    · exact .inl h
    · exact .inr (by omega)
    · exact .inr (by omega)
  · rintro (h | h)
    · exact .inl (.inl h)
    · by_cases h2 : o < 65
      · exact .inl (.inr h2)
      · exact .inr (by omega)
theorem ends_ne : ∀ {r : List Int}, r ≠ [] → endsF r ≠ []
  | [], h => absurd rfl h
  | o :: r, _ => by
    rw [ends_cons, isEnd_one]
    by_cases hr : r = []
    · subst hr; simp
    · have := ends_ne hr
      intro h
      rw [List.append_eq_nil_iff, List.map_eq_nil_iff] at h
      exact this h.2
theorem pieces_nil : piecesF [] = [] := rfl
theorem pieces_split : ∀ ks : List Int, piecesF ks = splitR ks
  | [] => rfl
  | o :: r => by
    have ih := pieces_split r
    have shift : ∀ (E : List Int) (a : Int), 0 ≤ a → (∀ k ∈ E, 0 ≤ k) → List.zipWith (cutF (o :: r)) ((a + 1) :: E.map (· + 1)) (E.map (· + 1)) = List.zipWith (cutF r) (a :: E) E := by
      intro E a ha hE
      rw [show ((a + 1) :: E.map (· + 1)) = (a :: E).map (· + 1) from rfl, List.zipWith_map]
      refine zipWith_on ?_
      intro x hx y hy
      refine cut_cons ?_ (hE y hy)
      rcases List.mem_cons.mp hx with rfl | hx
      · exact ha
      · exact hE x hx
    unfold piecesF
    rw [ends_cons, isEnd_one, splitR]
    cases hu : upB o with
    | false =>
      rw [Bool.not_false, Bool.or_true, if_pos rfl, if_neg Bool.false_ne_true, List.singleton_append, List.zipWith_cons_cons]
      rw [show (1 : Int) :: (endsF r).map (· + 1) = ((0 : Int) + 1) :: (endsF r).map (· + 1) from rfl, shift _ 0 (Int.le_refl _) ends_pos, ← ih]
      congr 1
    | true =>
      rw [Bool.not_true, Bool.or_false, if_pos rfl]
      by_cases hr : r = []
      · subst hr
        rfl
      · rw [decide_eq_false hr, if_neg Bool.false_ne_true, List.nil_append]
        unfold piecesF at ih
        have hne := ends_ne hr
        have hpos : ∀ k ∈ endsF r, 0 ≤ k := ends_pos
        cases hE : endsF r with
        | nil => exact absurd hE hne
        | cons e es =>
          rw [hE] at ih hpos
          have he := hpos e (List.mem_cons_self ..)
          rw [List.zipWith_cons_cons] at ih
          rw [← ih, List.map_cons, List.zipWith_cons_cons, cut_zero he, shift _ e he fun k hk => hpos k (List.mem_cons_of_mem _ hk)]
          rfl
end Mine
-- part PL2
namespace Mine
def toldF (p : List Int) : Int := (p.reverse.mapIdx (fun i o => (o.fmod 32 - 1) * 16 ^ i)).sum
def hor (a o : Int) : Int := 16 * a + o % 32 - 1
def valF (p : List Int) : Int := p.foldl hor 0
theorem mapIdx_sum (l : List Int) : (l.mapIdx (fun i o => (o.fmod 32 - 1) * 16 ^ (i + 1))).sum = 16 * (l.mapIdx (fun i o => (o.fmod 32 - 1) * 16 ^ i)).sum := by
  have e : l.mapIdx (fun i o => (o.fmod 32 - 1) * 16 ^ (i + 1)) = (l.mapIdx (fun i o => (o.fmod 32 - 1) * 16 ^ i)).map (fun x => 16 * x) := by
    apply List.ext_getElem?
    intro i
    rw [List.getElem?_map, List.getElem?_mapIdx, List.getElem?_mapIdx, Option.map_map]
    congr 1
    funext o
    simp only [Function.comp]
    rw [Int.pow_succ, ← Int.mul_assoc, Int.mul_comm]
  rw [e]
  generalize l.mapIdx (fun i o => (o.fmod 32 - 1) * 16 ^ i) = m
  induction m with
  | nil => rfl
  | cons a m ih => rw [List.map_cons, List.sum_cons, List.sum_cons, ih, Int.mul_add]
theorem told_snoc (p : List Int) (o : Int) : toldF (p ++ [o]) = hor (toldF p) o := by
  unfold toldF hor
  rw [List.reverse_append, List.reverse_singleton, List.singleton_append, List.mapIdx_cons, List.sum_cons, mapIdx_sum, Int.fmod_eq_emod_of_nonneg _ (by decide)]
  rw [Int.pow_zero]
  omega
theorem val_snoc (p : List Int) (o : Int) : valF (p ++ [o]) = hor (valF p) o := by
  unfold valF; rw [List.foldl_append]; rfl
theorem told_val (p : List Int) : toldF p = valF p := by
  have : ∀ n (p : List Int), p.length = n → toldF p = valF p := by
    intro n
    induction n with
    | zero => intro p h; rw [List.length_eq_zero_iff.mp h]; rfl
    | succ n ih =>
      intro p h
      rcases List.eq_nil_or_concat p with rfl | ⟨q, o, rfl⟩
      · rfl
      · rw [List.concat_eq_append] at h ⊢
        rw [told_snoc, val_snoc, ih q (by simpa using h)]
  exact this _ p rfl
theorem step_false (ns : List Int) (o : Int) : readStep (ns, false) o = (ns ++ [hor 0 o], upB o) := by
  simp [readStep, hor, upB]
theorem step_true (ns : List Int) (a o : Int) : readStep (ns ++ [a], true) o = (ns ++ [hor a o], upB o) := by
  simp [readStep, hor, upB]
theorem read_both : ∀ l : List Int, (∀ ns, (l.foldl readStep (ns, false)).1 = ns ++ (splitR l).map valF) ∧
    (∀ ns a, (l.foldl readStep (ns ++ [a], true)).1 = match splitR l with | [] => ns ++ [a] | p :: ps => ns ++ (p.foldl hor a :: ps.map valF))
  | [] => ⟨fun ns => by simp [splitR], fun ns a => by simp [splitR]⟩
  | o :: r => by
    obtain ⟨h1, h2⟩ := read_both r
    constructor
    · intro ns
      rw [List.foldl_cons, step_false, splitR]
      cases hu : upB o with
      | true =>
        rw [h2, if_pos rfl]
        cases hs : splitR r with
        | nil => rfl
        | cons p ps => rfl
      | false =>
        rw [h1, if_neg Bool.false_ne_true, List.append_assoc]
        rfl
    · intro ns a
      rw [List.foldl_cons, step_true, splitR]
      cases hu : upB o with
      | true =>
        rw [h2, if_pos rfl]
        cases hs : splitR r with
        | nil => rfl
        | cons p ps => rfl
      | false =>
        rw [h1, if_neg Bool.false_ne_true, List.append_assoc]
        rfl
theorem read_split (l : List Int) : readF l = (splitR l).map valF := by
  unfold readF
  rw [(read_both l).1 [], List.nil_append]
/-- a piece: all but the last goes on -/
def Sh (p : List Int) : Prop := p ≠ [] ∧ ∀ o ∈ p.dropLast, upB o = true
theorem split_sh : ∀ (l : List Int), ∀ p ∈ splitR l, Sh p
  | [], p, h => by cases h
  | o :: r, p, h => by
    have ih := split_sh r
    rw [splitR] at h
    cases hu : upB o with
    | false =>
      rw [hu, if_neg Bool.false_ne_true] at h
      rcases List.mem_cons.mp h with rfl | h
      · exact ⟨by simp, by simp⟩
      · exact ih p h
    | true =>
      rw [hu, if_pos rfl] at h
      cases hs : splitR r with
      | nil =>
        rw [hs] at h
        rw [List.mem_singleton.mp h]
        exact ⟨by simp, by simp⟩
      | cons q qs =>
        rw [hs] at h ih
        rcases List.mem_cons.mp h with rfl | h
        · have hq := ih q (List.mem_cons_self ..)
          refine ⟨by simp, ?_⟩
          intro x hx
          rw [List.dropLast_cons_of_ne_nil hq.1] at hx
          rcases List.mem_cons.mp hx with rfl | hx
          · exact hu
          · exact hq.2 x hx
        · exact ih p (List.mem_cons_of_mem _ h)
theorem split_flat : ∀ (l : List Int), (splitR l).flatten = l
  | [] => rfl
  | o :: r => by
    have ih := split_flat r
    rw [splitR]
    cases hu : upB o with
    | false => rw [if_neg Bool.false_ne_true, List.flatten_cons, ih]; rfl
    | true =>
      rw [if_pos rfl]
      cases hs : splitR r with
      | nil => rw [hs] at ih; rw [← ih]; rfl
      | cons q qs => rw [hs] at ih; rw [← ih]; rfl
theorem split_app : ∀ (w : List Int) (z : Int) (r : List Int), (∀ o ∈ w, upB o = true) → upB z = false → splitR (w ++ z :: r) = (w ++ [z]) :: splitR r
  | [], z, r, _, hz => by rw [List.nil_append, splitR, hz, if_neg Bool.false_ne_true]; rfl
  | o :: w, z, r, hw, hz => by
    rw [List.cons_append, splitR, hw o (List.mem_cons_self ..), if_pos rfl, split_app w z r (fun o ho => hw o (List.mem_cons_of_mem _ ho)) hz]
    rfl
end Mine
-- part PL3
namespace Mine
def Dig (o : Int) : Prop := 65 ≤ o ∧ o ≤ 80
theorem hexI_ind {P : Nat → Prop} (h0 : P 0) (hs : ∀ n, n ≠ 0 → P (n / 16) → P n) : ∀ n, P n := by
  intro n
  induction n using Nat.strongRecOn with
  | _ n ih =>
    by_cases h : n = 0
    · subst h; exact h0
    · exact hs n h (ih (n / 16) (by omega))
theorem hexI_dig : ∀ n, ∀ o ∈ hexI n, Dig o := by
  refine hexI_ind ?_ ?_
  · intro o h; rw [hexI_zero] at h; cases h
  · intro n hn ih o ho
    rw [hexI_step hn] at ho
    rcases List.mem_append.mp ho with ho | ho
    · exact ih o ho
    · rw [List.mem_singleton.mp ho]
      unfold Dig
      omega
theorem hexI_val : ∀ n : Nat, valF (hexI n) = (n : Int) := by
  refine hexI_ind ?_ ?_
  · rw [hexI_zero]; rfl
  · intro n hn ih
    rw [hexI_step hn, val_snoc, ih]
    unfold hor
    omega
theorem hexI_head : ∀ n : Nat, (hexI n).head? ≠ some 65 := by
  refine hexI_ind ?_ ?_
  · rw [hexI_zero]; simp
  · intro n hn ih
    rw [hexI_step hn]
    by_cases h : n / 16 = 0
    · rw [h, hexI_zero]
      simp only [List.nil_append, List.head?_cons, ne_eq, Option.some.injEq]
      omega
    · intro e
      apply ih
      rw [List.head?_append] at e
      cases hh : (hexI (n / 16)).head? with
      | none =>
        rw [List.head?_eq_none_iff, hexI_step h] at hh
        simp at hh
      | some v => rw [hh] at e; simpa using e
theorem hexI_len : ∀ (k n : Nat), n < 16 ^ k → (hexI n).length ≤ k
  | 0, n, h => by
    have : n = 0 := by simpa using h
    rw [this, hexI_zero]; exact Nat.le_refl _
  | k + 1, n, h => by
    by_cases hn : n = 0
    · rw [hn, hexI_zero]; exact Nat.zero_le _
    · rw [hexI_step hn, List.length_append, List.length_singleton]
      have := hexI_len k (n / 16) (by rw [Nat.pow_succ] at h; omega)
      omega
/-- the figures of a number, read and written again -/
theorem hex_back (ds : List Int) : (∀ o ∈ ds, Dig o) → ds.head? ≠ some 65 → ∃ m : Nat, valF ds = (m : Int) ∧ hexI m = ds := by
  have : ∀ n (ds : List Int), ds.length = n → (∀ o ∈ ds, Dig o) → ds.head? ≠ some 65 → ∃ m : Nat, valF ds = (m : Int) ∧ hexI m = ds := by
    intro n
    induction n with
    | zero => intro p h _ _; rw [List.length_eq_zero_iff.mp h]; exact ⟨0, rfl, hexI_zero⟩
    | succ n ih =>
      intro p h hd hh
      rcases List.eq_nil_or_concat p with rfl | ⟨q, o, rfl⟩
      · exact ⟨0, rfl, hexI_zero⟩
      · rw [List.concat_eq_append] at h hd hh ⊢
        have ho : Dig o := hd o (List.mem_append_right _ (List.mem_singleton.mpr rfl))
        obtain ⟨m, h1, h2⟩ := ih q (by simpa using h) (fun x hx => hd x (List.mem_append_left _ hx)) (by
          intro e
          apply hh
          rw [List.head?_append, e]; rfl)
        unfold Dig at ho
        refine ⟨16 * m + (o - 65).toNat, ?_, ?_⟩
        · rw [val_snoc, h1]
          unfold hor
          omega
        · have hne : 16 * m + (o - 65).toNat ≠ 0 := by
            intro e
            have hm : m = 0 := by omega
            have ho' : o = 65 := by omega
            rw [hm, hexI_zero] at h2
            rw [← h2, ho'] at hh
            exact hh rfl
          rw [hexI_step hne, show (16 * m + (o - 65).toNat) / 16 = m by omega, h2]
          congr 2
          omega
  exact this _ ds rfl
theorem word_zero : wordF 0 = [193] := by simp [wordF]
theorem word_snoc {n : Int} {q : List Int} {d : Int} (h : hexI n.natAbs = q ++ [d]) : wordF n = q ++ [d % 128 + 128] := by
  have hn : n ≠ 0 := by
    rintro rfl
    rw [hexI_n0] at h
    simp at h
  unfold wordF
  rw [if_neg hn, if_neg hn, h]
  simp
/-- a word: figures, none but the last one's highest bit set, no figure 0 ahead -/
theorem word_is (n : Int) : ∃ (q : List Int) (z : Int), wordF n = q ++ [z] ∧ (∀ o ∈ q, Dig o) ∧ (193 ≤ z ∧ z ≤ 208) ∧ q.head? ≠ some 65 ∧ valF (q ++ [z]) = (n.natAbs : Int) := by
  by_cases hn : n = 0
  · subst hn
    exact ⟨[], 193, word_zero, by simp, by omega, by simp, rfl⟩
  · rcases List.eq_nil_or_concat (hexI n.natAbs) with h | ⟨q, d, h⟩
    · have := hexI_pos hn
      rw [h] at this
      simp at this
    · rw [List.concat_eq_append] at h
      have hd := hexI_dig n.natAbs
      have hh := hexI_head n.natAbs
      have hv := hexI_val n.natAbs
      rw [h] at hd hh hv
      have hdd : Dig d := hd d (List.mem_append_right _ (List.mem_singleton.mpr rfl))
      unfold Dig at hdd
      refine ⟨q, d % 128 + 128, word_snoc h, fun o ho => hd o (List.mem_append_left _ ho), by omega, ?_, ?_⟩
      · intro e
        apply hh
        rw [List.head?_append, e]; rfl
      · rw [val_snoc] at hv ⊢
        rw [← hv]
        unfold hor
        omega
theorem okPiece_iff {q : List Int} {z : Int} : okPiece (q ++ [z]) = true ↔ (193 ≤ z ∧ z ≤ 208) ∧ (∀ o ∈ q, o ≤ 80) ∧ q.head? ≠ some 65 := by
  have h1 : (q ++ [z]).getLastD 0 = z := by simp
  have h2 : (q ++ [z]).dropLast = q := by simp
  have h3 : (q.filter (fun o => decide (o > 80)) ≠ []) ↔ ¬ ∀ o ∈ q, o ≤ 80 := by
    rw [ne_eq, List.filter_eq_nil_iff]
    simp only [decide_eq_true_eq, gt_iff_lt, Int.not_lt]
  have h4 : (((q ++ [z]).length : Int) > 1 ∧ (q ++ [z]).getD 0 0 = 65) ↔ q.head? = some 65 := by
    cases q with
    | nil => simp
    | cons a q =>
      simp only [List.cons_append, List.getD_cons_zero, List.head?_cons, Option.some.injEq, List.length_cons, List.length_append, List.length_nil]
      constructor
      · exact fun h => h.2
      · exact fun h => ⟨by omega, h⟩
  unfold okPiece
  rw [h1, h2]
  simp only [Bool.and_eq_true, Bool.not_eq_true', Bool.or_eq_false_iff, Bool.and_eq_false_iff, decide_eq_false_iff_not]
  rw [← Classical.not_and_iff_not_or_not, h4, h3]
  constructor
  · rintro ⟨⟨⟨a, b⟩, c⟩, d⟩
    exact ⟨⟨by omega, by omega⟩, Classical.not_not.mp c, d⟩
  · rintro ⟨⟨a, b⟩, c, d⟩
    exact ⟨⟨⟨by omega, by omega⟩, fun f => f c⟩, d⟩
theorem dig_up {o : Int} (h : Dig o) : upB o = true := by
  unfold Dig at h
  exact decide_eq_true (by omega)
theorem word_ok (n : Int) : okPiece (wordF n) = true := by
  obtain ⟨q, z, e, hq, hz, hh, _⟩ := word_is n
  rw [e, okPiece_iff]
  exact ⟨hz, fun o ho => (hq o ho).2, hh⟩
theorem word_val (n : Int) : valF (wordF n) = (n.natAbs : Int) := by
  obtain ⟨q, z, e, _, _, _, hv⟩ := word_is n
  rw [e, hv]
theorem split_words : ∀ ns : List Int, splitR (writeF ns) = ns.map wordF
  | [] => rfl
  | n :: ns => by
    have ih := split_words ns
    unfold writeF at ih ⊢
    rw [List.map_cons, List.flatten_cons]
    obtain ⟨q, z, e, hq, hz, _, _⟩ := word_is n
    rw [e, List.append_assoc, List.singleton_append, split_app q z _ (fun o ho => dig_up (hq o ho)) (decide_eq_false (by omega)), ih]
/-- a piece in order is the word of its number -/
theorem ok_word {p : List Int} (hs : Sh p) (ho : okPiece p = true) : wordF (valF p) = p := by
  rcases List.eq_nil_or_concat p with rfl | ⟨q, z, rfl⟩
  · exact absurd rfl hs.1
  · rw [List.concat_eq_append] at hs ho ⊢
    obtain ⟨hz, hq, hh⟩ := okPiece_iff.mp ho
    have hd : ∀ o ∈ q, Dig o := fun o h => by
      have h1 := hs.2 o (by simpa using h)
      have h2 := of_decide_eq_true h1
      exact ⟨h2.1, hq o h⟩
    by_cases hc : q = [] ∧ z = 193
    · obtain ⟨rfl, rfl⟩ := hc
      exact word_zero
    · have hdd : ∀ o ∈ q ++ [z - 128], Dig o := fun o h => by
        rcases List.mem_append.mp h with h | h
        · exact hd o h
        · rw [List.mem_singleton.mp h]; unfold Dig; omega
      have hhd : (q ++ [z - 128]).head? ≠ some 65 := by
        cases q with
        | nil =>
          simp only [List.nil_append, List.head?_cons, ne_eq, Option.some.injEq]
          intro e
          exact hc ⟨rfl, by omega⟩
        | cons a q => simpa using hh
      obtain ⟨m, h1, h2⟩ := hex_back _ hdd hhd
      have hv : valF (q ++ [z]) = (m : Int) := by
        rw [← h1, val_snoc, val_snoc]
        unfold hor
        omega
      rw [hv, word_snoc (by rw [Int.natAbs_natCast]; exact h2)]
      congr 2
      omega
theorem order_write (ns : List Int) : orderF (writeF ns) = true := by
  unfold orderF
  rw [pieces_split, split_words, List.all_map, List.all_eq_true]
  intro n _
  exact word_ok n
theorem val_bound (p : List Int) : (valF p).natAbs + 3 ≤ 3 * 16 ^ p.length := by
  have : ∀ n (p : List Int), p.length = n → (valF p).natAbs + 3 ≤ 3 * 16 ^ n := by
    intro n
    induction n with
    | zero => intro p h; rw [List.length_eq_zero_iff.mp h]; decide
    | succ n ih =>
      intro p h
      rcases List.eq_nil_or_concat p with rfl | ⟨q, o, rfl⟩
      · simp at h
      · rw [List.concat_eq_append] at h ⊢
        have := ih q (by simpa using h)
        rw [val_snoc, Nat.pow_succ]
        unfold hor
        omega
  exact this _ p rfl
def Byt (ks : List Int) : Prop := ∀ k ∈ ks, 0 ≤ k ∧ k < 256
theorem pl_ne (ks : List Int) : ∀ p ∈ piecesF ks, p ≠ [] := by
  intro p hp
  rw [pieces_split] at hp
  exact (split_sh ks p hp).1
theorem pl_read {ks : List Int} (_h : Byt ks) : readF ks = (piecesF ks).map toldF := by
  rw [read_split, pieces_split]
  exact List.map_congr_left fun p _ => (told_val p).symm
theorem pl_order {ks : List Int} (_h : Byt ks) : decide (writeF (readF ks) = ks) = orderF ks := by
  rw [Bool.eq_iff_iff, decide_eq_true_eq]
  constructor
  · intro e
    rw [← e]
    exact order_write _
  · intro ho
    unfold orderF at ho
    rw [pieces_split, List.all_eq_true] at ho
    unfold writeF
    rw [read_split, List.map_map]
    have e : (splitR ks).map (wordF ∘ valF) = splitR ks := by
      have : (splitR ks).map (wordF ∘ valF) = (splitR ks).map id := List.map_congr_left fun p hp => ok_word (split_sh ks p hp) (ho p hp)
      rw [this, List.map_id]
    rw [e, split_flat]
theorem pl_again {ks : List Int} (_h : Byt ks) : orderF (writeF (readF ks)) = true := order_write _
theorem pl_rewrite {ks : List Int} (_h : Byt ks) : readF (writeF (readF ks)) = (readF ks).map (fun n => if n < 0 then -n else n) := by
  rw [read_split (writeF _), split_words, List.map_map]
  refine List.map_congr_left fun n _ => ?_
  simp only [Function.comp]
  rw [word_val]
  split <;> omega
theorem pl_len (ks : List Int) : (readF ks).length ≤ ks.length := by
  rw [read_split, List.length_map, ← pieces_split]
  have hel : (endsF ks).length ≤ ks.length := by
    refine Nat.le_trans (List.length_filter_le _ _) ?_
    simp
  rw [piecesF, List.length_zipWith, List.length_cons]; omega
theorem pl_hex {ks : List Int} (_h : Byt ks) (hl : ks.length ≤ 10) : ∀ n ∈ readF ks, (hexI n.natAbs).length ≤ 11 := by
  intro n hn
  rw [read_split] at hn
  obtain ⟨p, hp, rfl⟩ := List.mem_map.mp hn
  rw [← pieces_split] at hp
  have hpl := piece_len hp
  have hb := val_bound p
  refine hexI_len 11 _ ?_
  have : 16 ^ p.length ≤ 16 ^ 10 := Nat.pow_le_pow_right (by decide) (by omega)
  have e : 16 ^ 11 = 16 * 16 ^ 10 := by decide
  omega
theorem word_len {n : Int} (h : (hexI n.natAbs).length ≤ 11) : (wordF n).length ≤ 11 := by
  unfold wordF
  by_cases hn : n = 0
  · subst hn; simp
  · have := hexI_pos hn
    rw [if_neg hn, if_neg hn, List.length_append, List.length_dropLast, List.length_singleton]
    omega
theorem write_len : ∀ {ns : List Int}, (∀ n ∈ ns, (hexI n.natAbs).length ≤ 11) → (writeF ns).length ≤ 11 * ns.length
  | [], _ => Nat.le_refl _
  | n :: ns, h => by
    have ih := write_len (ns := ns) fun m hm => h m (List.mem_cons_of_mem _ hm)
    have h1 := word_len (h n (List.mem_cons_self ..))
    unfold writeF at ih ⊢
    rw [List.map_cons, List.flatten_cons, List.length_append, List.length_cons]
    omega
theorem pl_wlen {ks : List Int} (h : Byt ks) (hl : ks.length ≤ 10) : (writeF (readF ks)).length ≤ 1000 := by
  have h1 := write_len (pl_hex h hl)
  have h2 := pl_len ks
  omega
end Mine
-- part W9
namespace Mine
theorem fill9 : (PySem.Challenge.rw_pg0017_01, Mine.hd.heap_39) = (PySem.Challenge.rw_pg0017_01, Mine.hd.heap_39) := by
  w_top off
  k_fill
  rfl
theorem bInts_rev (b : Array UInt8) : KBw.bInts b.toList.reverse.toArray = (KBw.bInts b).reverse := by
  simp [KBw.bInts]
theorem bytes_beq (a b : Array UInt8) : (a.toList == b.toList) = decide (KBw.bInts a = KBw.bInts b) := by
  have inj : ∀ l m : List UInt8, l.map (fun c => ((c.toNat : Nat) : Int)) = m.map (fun c => ((c.toNat : Nat) : Int)) ↔ l = m := by
    intro l
    induction l with
    | nil => intro m; cases m <;> simp
    | cons x xs ih =>
      intro m
      cases m with
      | nil => simp
      | cons y ys =>
        simp only [List.map_cons, List.cons.injEq, ih, Int.ofNat_inj]
        constructor
        · rintro ⟨h1, h2⟩; exact ⟨UInt8.toNat_inj.mp h1, h2⟩
        · rintro ⟨rfl, h2⟩; exact ⟨rfl, h2⟩
  have e : KBw.bInts a = KBw.bInts b ↔ a.toList = b.toList := inj _ _
  refine Bool.eq_iff_iff.mpr ?_
  rw [beq_iff_eq, decide_eq_true_iff]
  exact e.symm
theorem pieces_len (ks : List Int) : (piecesF ks).length ≤ ks.length := by
  have hel : (endsF ks).length ≤ ks.length := by
    refine Nat.le_trans (List.length_filter_le _ _) ?_
    simp
  rw [piecesF, List.length_zipWith, List.length_cons]; omega
section
-- the walk keeps its lines by their count: one line more than the part before has, so that it looks anew
local macro_rules | `(tactic| walk_at "no such step") => `(tactic| fail)
local macro_rules | `(tactic| walk_at "eval Name") => `(tactic| (first
  | (with_unfolding_all refine nmL (by with_reducible assumption) (by rfl) (by rfl) rfl (by rfl) (by decide) ?_)
  | (with_unfolding_all refine nmC (by with_reducible assumption) (by rfl) (by k_mem) (by assumption) rfl (by rfl) (by decide) ?_)
  | (with_unfolding_all refine' nmB ?F ?X ?T ?e ?hv ?hn rfl rfl rfl (by rfl) (by decide) ?_; (case F => k_asm); (case X => k_asm); (case T => k_asm); (case e => k_is); (case hv => boot_fast); (case hn => decide))))
local macro_rules | `(tactic| walk_at "call ref") => `(tactic| ((first
  | (refine alt_c (Gr.keeps (by assumption) (Fr.keep (by with_reducible assumption))) (by (dsimp only [Around.deeper]; omega)) (by assumption) (by assumption) ?_; intro t' h' tk' kp')
  | (refine pieces_c (Gr.keeps (by assumption) (Fr.keep (by with_reducible assumption))) (by (dsimp only [Around.deeper]; omega)) rfl (by omega) ?_; intro D' vs' n' h' tk' hD' hD'' hB' kp')); (have F' := Fr.keeps (by with_reducible assumption) kp')))
theorem law_b {w : World} {A : Around} {s : Shared} {E : Value → Shared → Prop} {fa : Addr} {cdv : Value} {row : Array UInt8} {D : Addr} {tr : Tok} {h₁ : Heap} {tk : Nat} {Q : Flow → Shared → Prop}
    (G : Gr w s.heap) (hd : A.depth + 5 < recursionLimit) (hh : A.handled = none) (hu : A.units + 200 < cLine)
    (hrl : (KBw.bInts row).length = 10)
    (F : Fr s.heap s.heap.objs.size h₁ (fun y => if y = Str.ofString "row" then some (.bytes row tr) else if y = Str.ofString "drawn" then some (.ref D) else none))
    (hQ : ∀ h' tk' m, Fr s.heap s.heap.objs.size h' m → Q (.ret (.bool true)) { s with heap := h', toks := tk' }) :
    wpAny (model prg w) A (execs (lawD.body.drop 2) (envOfC lawD.name lawD.scope s.heap.objs.size fa cdv)) Q E { s with heap := h₁, toks := tk } := by
  obtain ⟨hA, dp, fr, gd, un⟩ := A
  obtain rfl : hA = none := hh
  replace hd : dp + 5 < recursionLimit := hd
  replace hu : un + 200 < cLine := hu
  have KX := G.X
  obtain ⟨mean, mg, mb, T⟩ := G.T
  have hrb : ∀ k ∈ KBw.bInts row, 0 ≤ k ∧ k < 256 := fun k hk => KBw.ints_in hk
  dsimp only [lawD, dOf, List.drop]
  refine wpAny_execs_cons ?_
  refine Assign_Bs rfl toldF rfl rfl (by decide) rfl (by decide) rfl rfl rfl ?_ (fun _ => rfl)
  have N : News s.heap s.heap.objs.size h₁ [] := News.nil
  repeat' ((fail_if_success (with_reducible show Exists _)); walk1)
  rename_i D1 vs1 n1 h1 tk1 hD1 hD1' hB1 hk1 F1
  dsimp only at hD1 hk1 ⊢
  refine ⟨_, _, _, _, rfl, ⟨_, hD1', rfl, _, rfl⟩, hB1, by rw [sizeLine_eq, hB1.1]; exact Nat.le_trans (pieces_len _) (by omega), F1.ns, ?_, ?_⟩
  · intro C b t s₃ m₃ E' hC hbm hns hm hk
    replace hC : @LE.le Nat _ h1.objs.size C := hC
    have hl1 : @LT.lt Nat _ s.heap.objs.size h1.objs.size := F1.ns.lt
    have hbl : b.size ≤ 10 := by
      rw [← KBw.ints_length]
      exact Nat.le_trans (piece_len hbm) (by omega)
    have F3 : Fr s.heap C s₃.heap m₃ := fr_block hns (fun c o e => hk c o (F1.keep c o e)) (show @LE.le Nat _ s.heap.objs.size C by omega)
    replace F3 := fr_see [(Str.ofString "piece", Value.bytes b t)] F3 (by simp [hm])
    repeat' ((fail_if_success (with_reducible show wpAny _ _ (eval (Expr.ListComp _ _ _ _) _) _ _ _)); walk1)
    refine ListComp_T rfl (fun i v => ∃ t, v = Value.int ((((KBw.bInts b).reverse.getD i 0).fmod 32 - 1) * 16 ^ i) t) rfl (by decide) rfl (by decide) rfl rfl (by decide) ?_ (fun _ => rfl)
    repeat' ((fail_if_success (with_reducible show wpAny _ _ (subscriptTail _ _ _ _) _ _ _)); walk1)
    refine rev_keep (by rw [sizeLine_eq]; omega) ?_ (by with_unfolding_all rfl) (by intro _; with_unfolding_all rfl)
    intro t4 k4
    have F4 := F3.push { cls := .type "slice", data := .fields #[.none, .none, .int (-1) (s₃.toks + 1)] }
    have hk4 : ∀ c o, s₃.heap.get? c = some o → (s₃.heap.push { cls := .type "slice", data := .fields #[.none, .none, .int (-1) (s₃.toks + 1)] }).get? c = some o := fun c o e => Heap.get?_push_of_some _ e
    dsimp only
    generalize s₃.heap.push { cls := .type "slice", data := .fields #[.none, .none, .int (-1) (s₃.toks + 1)] } = h4 at *
    have hb4 := bInts_rev b
    have hs4 : b.toList.reverse.toArray.size = b.size := by simp
    generalize b.toList.reverse.toArray = b4 at *
    clear F3
    repeat' ((fail_if_success (with_reducible show wpAny _ _ (call (Value.type "enumerate") _) _ _ _)); walk1)
    refine enum_bytes fun h5 he5 hi5 hz5 hk5 => ?_
    dsimp only at he5 hi5 hz5 hk5 ⊢
    refine wpAny_pyIter_enum he5 ?_
    have hC4 : @LT.lt Nat _ C h4.objs.size := F4.ns.lt
    replace hz5 : @Eq Nat h5.objs.size (h4.objs.size + 2) := hz5
    have nin : ∀ c : Addr, @LT.lt Nat _ c h4.objs.size → c ∉ [h4.objs.size + 1, h4.objs.size] := by
      intro c hc hm
      rcases List.mem_cons.mp hm with e | e
      · have e : @Eq Nat c (h4.objs.size + 1) := e
        omega
      · have e : @Eq Nat c h4.objs.size := List.mem_singleton.mp e
        omega
    have hbr : ∀ i c, b4[i]? = some c → ((c.toNat : Nat) : Int) = (KBw.bInts b).reverse.getD i 0 := fun i c hc => by
      rw [← hb4, List.getD_eq_getElem?_getD, KBw.ints_get hc]
      rfl
    refine ⟨_, _, _, _, _, _, _, fun i x y => (∃ t, x = Value.int (i : Int) t) ∧ ∃ t, y = Value.int ((KBw.bInts b).reverse.getD i 0) t, rfl, WalksT.enumerateD (drawsB rfl _ b4 t4) _ (neN (show @Ne Nat (h4.objs.size + 1) h4.objs.size by omega)) (fun q => neN (show @Ne Nat (h4.objs.size + 1) h4.objs.size by omega) (List.mem_singleton.mp q)) (List.mem_singleton.mpr rfl), by rw [sizeLine_eq]; omega, ⟨⟨_, he5⟩, hi5⟩, ?_, ?_, ?_, ?_⟩
    · intro c hc
      show @LT.lt Nat _ c h5.objs.size
      simp only [List.mem_cons, List.not_mem_nil, or_false] at hc
      rcases hc with e | e
      · have e : @Eq Nat c (h4.objs.size + 1) := e
        omega
      · have e : @Eq Nat c h4.objs.size := e
        omega
    · rintro i vals ⟨t, x, ⟨c, u, hc, rfl⟩, rfl⟩
      exact ⟨_, _, rfl, ⟨t, rfl⟩, u, by rw [hbr i c hc]⟩
    · rintro C6 i x y s6 m6 E6 hC6 hi6 ⟨⟨t6, rfl⟩, t6', rfl⟩ hns6 ha6 hb6 hk6
      dsimp only at hC6 hk6
      replace hC6 : @LE.le Nat _ h5.objs.size C6 := hC6
      have F6 : Fr s.heap C6 s6.heap m6 := fr_block hns6 (fun c o e => hk6 c o (nin c (Heap.lt_size (F4.keep c o e))) (hk5 _ _ (F4.keep c o e))) (show @LE.le Nat _ s.heap.objs.size C6 by omega)
      replace F6 := fr_see [(Str.ofString "k", Value.int (i : Int) t6), (Str.ofString "octet", Value.int ((KBw.bInts b).reverse.getD i 0) t6')] F6 (by simp [ha6, hb6])
      have hi10 : (i : Int) ≤ 10 := by omega
      repeat' ((fail_if_success (with_reducible show _ ∧ Keeps _ _)); walk1)
      exact ⟨⟨_, rfl⟩, _, _, rfl, fun _ _ e => e⟩
    · rintro D7 h7 tk7 ys7 hD7 ⟨n7, hpl7⟩ hys7 hF7 hk7
      dsimp only at hk7 hD7 ⊢
      have keep7 : ∀ c o, s₃.heap.get? c = some o → h7.get? c = some o := fun c o e => hk7 c o (nin c (Heap.lt_size (hk4 c o e))) (hk5 _ _ (hk4 c o e))
      obtain ⟨vs7, rfl⟩ : ∃ l : List Value, ys7 = l.toArray := ⟨ys7.toList, by simp⟩
      have hi7 : IntsAre vs7 ((KBw.bInts b).reverse.mapIdx (fun i o => (o.fmod 32 - 1) * 16 ^ i)) := by
        refine ints_of_get ?_ ?_
        · rw [List.size_toArray] at hys7
          rw [hys7, hs4, List.length_mapIdx, List.length_reverse, KBw.ints_length]
        · intro j v hj
          have hjl : j < (KBw.bInts b).reverse.length := by
            rw [List.length_reverse, KBw.ints_length, ← hs4, ← hys7, List.size_toArray]
            rcases Nat.lt_or_ge j vs7.length with q | q
            · exact q
            · rw [List.getElem?_eq_none q] at hj; cases hj
          obtain ⟨t, rfl⟩ := hF7 j v (by rw [List.getElem?_toArray]; exact hj)
          refine ⟨t, ?_⟩
          rw [List.getD_eq_getElem?_getD, List.getD_eq_getElem?_getD, List.getElem?_mapIdx, List.getElem?_eq_getElem hjl]
          rfl
      have F7 := (F4.keeps hk5)
      repeat' ((fail_if_success (with_reducible show wpAny _ _ (call (Value.builtin "sum") _) _ _ _)); walk1)
      refine sum_keep rfl ⟨_, hpl7, rfl, _, rfl⟩ hi7 fun t8 h8 tk8 hk8 => ?_
      dsimp only at hk8 ⊢
      exact ⟨⟨_, rfl⟩, _, _, rfl, fun b o e => hk8 b o (keep7 b o e)⟩
  · intro D2 vs2 n2 h2 tk2 hD2 hD2' hi2 hns2 hk2
    have hDf := fresh_past F1 hD2
    have F2 : Fr s.heap s.heap.objs.size h2 (fun z => if z = Str.ofString "told" then some (.ref D2) else if z = Str.ofString "row" then some (.bytes row tr) else if z = Str.ofString "drawn" then some (.ref D) else none) :=
      ⟨hns2, fun c o e => hk2 c o (neN (fun q => by have h1 : @LT.lt Nat _ c s.heap.objs.size := Heap.lt_size e; have h2 : @Eq Nat c s.heap.objs.size := q; omega)) (F1.keep c o e), Nat.le_refl _⟩
    have N2 : News s.heap s.heap.objs.size h2 [(D2, listOf vs2.toArray n2)] := by
      intro p hp
      rw [List.mem_singleton.mp hp]
      exact ⟨hD2', hDf.1, hDf.2⟩
    have hne := pl_ne (KBw.bInts row)
    have hrd := pl_read hrb
    have hor := pl_order hrb
    have hag := pl_again hrb
    have hrw := pl_rewrite hrb
    have hln := pl_len (KBw.bInts row)
    have hhx := pl_hex hrb (Nat.le_of_eq hrl)
    have hwl := pl_wlen hrb (Nat.le_of_eq hrl)
    rw [hrl] at hln
    rw [← hrd] at hi2
    clear F1 hk2 hns2 hk1 hD1 hD1' hB1
    repeat' ((fail_if_success (with_reducible show wpAny _ _ (call (Value.ref _) _) _ _ _)); walk1)
    rename Fr _ _ _ _ => F3
    rename News _ _ _ _ => N3
    refine read_c (G.keeps F3.keep) (by (dsimp only; omega)) rfl (by omega) ?_
    intro D4 vs4 n4 h4 tk4 hD4 hD4' hi4 hk4
    dsimp only at hD4 hk4 ⊢
    have F4 := F3.keeps hk4
    have hD4f := fresh_past F3 hD4
    have N4 : News s.heap s.heap.objs.size h4 [(D4, listOf vs4.toArray n4), (D2, listOf vs2.toArray n2)] := by
      intro p hp
      rcases List.mem_cons.mp hp with rfl | hp
      · exact ⟨hD4', hD4f.1, hD4f.2⟩
      · exact N3.grown hk4 p hp
    clear F3 N3 hk4 hD4 hD4'
    repeat' ((fail_if_success (with_reducible show wpAny _ _ (call (Value.ref _) _) _ _ _)); walk1)
    rename Fr _ _ _ _ => F5
    rename News _ _ _ _ => N5
    refine write_c (G.keeps F5.keep) (by (dsimp only; omega)) rfl (isL N5 (List.mem_cons_self ..)) hi4 (by omega) (fun n hn => Nat.le_trans (hhx n hn) (by decide)) ?_
    intro b6 t6 h6 tk6 hb6 hk6
    dsimp only at hk6 ⊢
    have F6 := F5.keeps hk6
    have N6 := N5.grown hk6
    clear F5 N5 hk6
    repeat' ((fail_if_success (with_reducible show wpAny _ _ (compareOp CmpOp.NotEq (Value.ref _) (Value.ref _)) _ _ _)); walk1)
    rename News _ _ _ _ => N7
    refine ke_ne_ints (isL N7 (List.mem_cons_self ..)) (isL N7 (List.mem_cons_of_mem _ (List.mem_cons_self ..))) hi4 hi2 (by (dsimp only [Around.deeper]; omega)) ?_
    repeat' ((fail_if_success (with_reducible show wpAny _ _ (call (Value.ref _) _) _ _ _)); walk1)
    rotate_left
    · rename ¬ readF _ = readF _ => hc
      exact absurd rfl hc
    rename Fr _ _ _ _ => F8
    rw [bytes_beq, hb6, hor]
    refine in_order_c (G.keeps F8.keep) (by (dsimp only; omega)) rfl (by (dsimp only; omega)) (by omega) hne ?_
    intro h9 tk9 hk9
    dsimp only at hk9 ⊢
    have F9 := F8.keeps hk9
    have N9 := N7.grown hk9
    clear F8 N7 hk9
    repeat' ((fail_if_success (with_reducible show wpAny _ _ (eval (Expr.ListComp _ _ _ _) _) _ _ _)); walk1)
    · rename (_ != _) = true => hc
      simp at hc
    refine ListComp_B rfl (fun _ => true) (fun k => k % 128 + 128) rfl (by decide) rfl (by decide) rfl ?_ (fun _ => rfl)
    repeat' ((fail_if_success (with_reducible show Exists _)); walk1)
    refine ⟨row, _, rfl, by rw [sizeLine_eq, ← KBw.ints_length]; omega, ?_, ?_, ?_⟩
    · intro C k t s₄ m₄ E' hC _ hns hm hk
      exact wpAny_tests_nil ⟨rfl, _, _, rfl, fun _ _ e => e⟩
    · intro C k t s₄ m₄ E' hC hkm _ hns hm hk
      have hk0 := (hrb k hkm).1
      have hk1 := (hrb k hkm).2
      have F10 : Fr s.heap C s₄.heap m₄ := fr_block hns (fun c o e => hk c o (F9.keep c o e)) (Nat.le_trans (Nat.le_of_lt (Nat.lt_of_le_of_lt F9.above F9.ns.lt)) hC)
      replace F10 := fr_see [(Str.ofString "octet", .int k t)] F10 (by simp [hm])
      repeat' ((fail_if_success (with_reducible show _ ∧ Keeps _ _)); walk1)
      exact ⟨⟨_, rfl⟩, _, _, rfl, by assumption⟩
    intro D10 vs10 n10 h10 tk10 hD10 hD10' hi10 hk10
    dsimp only at hD10 hk10 ⊢
    have F10 := F9.keeps hk10
    have hD10f := fresh_past F9 hD10
    have N10 : News s.heap s.heap.objs.size h10 [(D10, listOf vs10.toArray n10), (D4, listOf vs4.toArray n4), (D2, listOf vs2.toArray n2)] := by
      intro p hp
      rcases List.mem_cons.mp hp with rfl | hp
      · exact ⟨hD10', hD10f.1, hD10f.2⟩
      · exact N9.grown hk10 p hp
    clear F9 N9 hk10 hD10 hD10'
    repeat' ((fail_if_success (with_reducible show wpAny _ _ (eval (Expr.ListComp _ _ _ _) _) _ _ _)); walk1)
    refine ListComp_B rfl (fun _ => true) (fun k => k.fmod 128 + 128) rfl (by decide) rfl (by decide) rfl ?_ (fun _ => rfl)
    repeat' ((fail_if_success (with_reducible show Exists _)); walk1)
    refine ⟨row, _, rfl, by rw [sizeLine_eq, ← KBw.ints_length]; omega, ?_, ?_, ?_⟩
    · intro C k t s₄ m₄ E' hC _ hns hm hk
      exact wpAny_tests_nil ⟨rfl, _, _, rfl, fun _ _ e => e⟩
    · intro C k t s₄ m₄ E' hC hkm _ hns hm hk
      have F11 : Fr s.heap C s₄.heap m₄ := fr_block hns (fun c o e => hk c o (F10.keep c o e)) (Nat.le_trans (Nat.le_of_lt (Nat.lt_of_le_of_lt F10.above F10.ns.lt)) hC)
      replace F11 := fr_see [(Str.ofString "octet", .int k t)] F11 (by simp [hm])
      repeat' ((fail_if_success (with_reducible show _ ∧ Keeps _ _)); walk1)
      exact ⟨⟨_, rfl⟩, _, _, rfl, fun _ _ e => e⟩
    intro D11 vs11 n11 h11 tk11 hD11 hD11' hi11 hk11
    dsimp only at hD11 hk11 ⊢
    have e11 : (fun k : Int => k.fmod 128 + 128) = fun k => k % 128 + 128 := by
      funext k; rw [Int.fmod_eq_emod_of_nonneg _ (by decide)]
    rw [e11] at hi11
    have F11 := F10.keeps hk11
    have hD11f := fresh_past F10 hD11
    have N11 : News s.heap s.heap.objs.size h11 [(D11, listOf vs11.toArray n11), (D10, listOf vs10.toArray n10), (D4, listOf vs4.toArray n4), (D2, listOf vs2.toArray n2)] := by
      intro p hp
      rcases List.mem_cons.mp hp with rfl | hp
      · exact ⟨hD11', hD11f.1, hD11f.2⟩
      · exact N10.grown hk11 p hp
    clear F10 N10 hk11 hD11 hD11'
    repeat' ((fail_if_success (with_reducible show wpAny _ _ (compareOp CmpOp.NotEq (Value.ref _) (Value.ref _)) _ _ _)); walk1)
    rename News _ _ _ _ => N12
    refine ke_ne_ints (isL N12 (List.mem_cons_of_mem _ (List.mem_cons_self ..))) (isL N12 (List.mem_cons_self ..)) hi10 hi11 (by (dsimp only [Around.deeper]; omega)) ?_
    repeat' ((fail_if_success (with_reducible show wpAny _ _ (call (Value.ref _) _) _ _ _)); walk1)
    rotate_left
    · rename ¬ _ = _ => hc
      exact absurd rfl hc
    refine in_order_c (G.keeps F11.keep) (by (dsimp only; omega)) rfl (by (dsimp only; omega)) (by rw [hb6]; omega) (pl_ne _) ?_
    intro h13 tk13 hk13
    rw [hb6, hag]
    dsimp only at hk13 ⊢
    have F13 := F11.keeps hk13
    have N13 := N12.grown hk13
    clear F11 N12 hk13
    repeat' ((fail_if_success (with_reducible show wpAny _ _ (call (Value.ref _) _) _ _ _)); walk1)
    refine read_c (G.keeps F13.keep) (by (dsimp only; omega)) rfl (by rw [hb6]; omega) ?_
    intro D14 vs14 n14 h14 tk14 hD14 hD14' hi14 hk14
    rw [hb6, hrw] at hi14
    dsimp only at hD14 hk14 ⊢
    have F14 := F13.keeps hk14
    have hD14f := fresh_past F13 hD14
    have N14 : News s.heap s.heap.objs.size h14 [(D14, listOf vs14.toArray n14), (D2, listOf vs2.toArray n2)] := by
      intro p hp
      rcases List.mem_cons.mp hp with rfl | hp
      · exact ⟨hD14', hD14f.1, hD14f.2⟩
      · exact N13.grown hk14 p (List.mem_cons_of_mem _ (List.mem_cons_of_mem _ (List.mem_cons_of_mem _ hp)))
    clear F13 N13 hk14 hD14 hD14'
    repeat' ((fail_if_success (with_reducible show wpAny _ _ (eval (Expr.ListComp _ _ _ _) _) _ _ _)); walk1)
    refine ListComp_L rfl (fun n => if n < 0 then -n else n) rfl (by decide) rfl (by decide) rfl ?_ (fun _ => rfl)
    walk1
    refine ⟨_, _, _, rfl, isL N14 (List.mem_cons_of_mem _ (List.mem_cons_self ..)), hi2, by rw [sizeLine_eq, hi2.length]; omega, ?_, ?_⟩
    · intro C5 k5 t5 s5 m5 E5 hC5 _ hns5 hm5 hk5
      have F15 : Fr s.heap C5 s5.heap m5 := fr_block hns5 (fun c o e => hk5 c o (F14.keep c o e)) (Nat.le_trans (Nat.le_of_lt (Nat.lt_of_le_of_lt F14.above F14.ns.lt)) hC5)
      replace F15 := fr_see [(Str.ofString "n", Value.int k5 t5)] F15 (by simp [hm5])
      repeat' ((fail_if_success (with_reducible show _ ∧ Keeps _ _)); walk1)
      exact ⟨⟨_, rfl⟩, _, _, rfl, fun _ _ e => e⟩
    intro D16 vs16 n16 h16 tk16 hD16 hD16' hi16 hk16
    dsimp only at hD16 hk16 ⊢
    have F16 := F14.keeps hk16
    have hD16f := fresh_past F14 hD16
    have N16 : News s.heap s.heap.objs.size h16 [(D16, listOf vs16.toArray n16), (D14, listOf vs14.toArray n14)] := by
      intro p hp
      rcases List.mem_cons.mp hp with rfl | hp
      · exact ⟨hD16', hD16f.1, hD16f.2⟩
      · rw [List.mem_cons] at hp
        rcases hp with rfl | hp
        · exact N14.grown hk16 _ (List.mem_cons_self ..)
        · cases hp
    clear F14 N14 hk16 hD16 hD16'
    repeat' ((fail_if_success (with_reducible show wpAny _ _ (compareOp CmpOp.Eq (Value.ref _) (Value.ref _)) _ _ _)); walk1)
    rename News _ _ _ _ => N17
    refine ke_eq_ints (isL N17 (List.mem_cons_of_mem _ (List.mem_cons_self ..))) (isL N17 (List.mem_cons_self ..)) hi14 hi16 (by (dsimp only [Around.deeper]; omega)) ?_
    repeat' walk1
    rw [decide_eq_true rfl]
    exact hQ _ _ _ F16
end
end Mine
-- part W8
namespace Mine
theorem fill8 : (PySem.Challenge.rw_pg0017_01, Mine.hd.heap_39) = (PySem.Challenge.rw_pg0017_01, Mine.hd.heap_39) := by
  w_top off
  k_fill
  rfl
local macro_rules | `(tactic| walk_at "eval Name") => `(tactic| (first
  | (with_unfolding_all refine nmL (by with_reducible assumption) (by rfl) (by rfl) rfl (by rfl) (by decide) ?_)
  | (with_unfolding_all refine nmC (by with_reducible assumption) (by rfl) (by k_mem) (by assumption) rfl (by rfl) (by decide) ?_)
  | (with_unfolding_all refine' nmB ?F ?X ?T ?e ?hv ?hn rfl rfl rfl (by rfl) (by decide) ?_; (case F => k_asm); (case X => k_asm); (case T => k_asm); (case e => k_is); (case hv => boot_fast); (case hn => decide))))
local macro_rules | `(tactic| walk_at "call ref") => `(tactic| ((first
  | (refine octet_c (Gr.keeps (by assumption) (Fr.keep (by with_reducible assumption))) (by (dsimp only [Around.deeper]; omega)) ?_; intro t' h' tk' kp'));  (have F' := Fr.keeps (by with_reducible assumption) kp')))
theorem law_body {w : World} {A : Around} {s : Shared} {E : Value → Shared → Prop} {l fa : Addr} {cdv : Value} {vs : List Value} {ns : List Int} {o' : Obj} {h₁ : Heap} {tk : Nat} {Q : Flow → Shared → Prop}
    (G : Gr w s.heap) (hd : A.depth + 5 < recursionLimit) (hh : A.handled = none) (hu : A.units + 200 < cLine) (hl : s.heap.IsList l vs.toArray) (hI : IntsAre vs ns) (hn : ns.length ≤ 63)
    (F : Fr s.heap s.heap.objs.size h₁ (fun _ => none)) (N : News s.heap s.heap.objs.size h₁ [(s.heap.objs.size + 1, o')]) (d1 : o'.data = .cell (some (.ref l)))
    (hQ : ∀ h' tk' m, Fr s.heap s.heap.objs.size h' m → Q (.ret (.bool true)) { s with heap := h', toks := tk' }) :
    wpAny (model prg w) A (execs lawD.body (envOfC lawD.name lawD.scope s.heap.objs.size fa cdv)) Q E { s with heap := h₁, toks := tk } := by
  obtain ⟨hA, dp, fr, gd, un⟩ := A
  obtain rfl : hA = none := hh
  replace hd : dp + 5 < recursionLimit := hd
  replace hu : un + 200 < cLine := hu
  have KX := G.X
  obtain ⟨mean, mg, mb, T⟩ := G.T
  have hvl : vs.length ≤ 63 := hI.length ▸ hn
  have hcfree : s.heap.get? (s.heap.objs.size + 1) = none := (N _ (List.mem_singleton.mpr rfl)).2.2
  dsimp only [lawD, dOf]
  refine wpAny_execs_cons ?_
  refine Assign_ListComp_T rfl (fun j v => ∃ k t, v = Value.int k t) rfl rfl (by decide) rfl (by decide) rfl rfl (by decide) rfl rfl ?_ (fun _ => rfl)
  repeat' ((fail_if_success (with_reducible show wpAny _ _ (call (Value.type "enumerate") _) _ _ _)); walk1)
  rename Fr _ _ _ _ => F1
  rename News _ _ _ _ => N1
  rename_i l1 h1 l1f
  obtain ⟨items, hl1, hsz, hall⟩ : ∃ items : Array Value, h1.IsList l1 items ∧ items.size = 10 ∧ AllInts items := by
    refine ⟨_, isL N1 (List.mem_cons_self ..), rfl, ?_⟩
    intro v hv
    simp only [List.mem_toArray, List.mem_cons, List.not_mem_nil, or_false] at hv
    rcases hv with rfl | rfl | rfl | rfl | rfl | rfl | rfl | rfl | rfl | rfl <;> exact ⟨_, _, rfl⟩
  have hl1lt : @LT.lt Nat _ l1 h1.objs.size := Heap.lt_size (N1 _ (List.mem_cons_self ..)).1
  refine call_enumerate_list hl1 fun h2 he2 hi2 hz2 hk2 => ?_
  dsimp only at he2 hi2 hz2 hk2 ⊢
  refine wpAny_pyIter_enum he2 ?_
  have F2 := F1.keeps hk2
  have hcell : h1.get? (s.heap.objs.size + 1) = some o' := (N1 _ (List.mem_cons_of_mem _ (List.mem_cons_self ..))).1
  clear N1
  have hcl : @LT.lt Nat _ (s.heap.objs.size + 1) h1.objs.size := Heap.lt_size hcell
  have hLl : @LT.lt Nat _ s.heap.objs.size h1.objs.size := F1.ns.lt
  replace hz2 : @Eq Nat h2.objs.size (h1.objs.size + 2) := hz2
  have nin : ∀ c : Addr, @LT.lt Nat _ c h1.objs.size → c ∉ [h1.objs.size + 1, h1.objs.size] := by
    intro c hc hm
    rcases List.mem_cons.mp hm with e | e
    · have e : @Eq Nat c (h1.objs.size + 1) := e
      omega
    · have e : @Eq Nat c h1.objs.size := List.mem_singleton.mp e
      omega
  refine ⟨_, _, _, _, _, _, _, fun i x y => (∃ t, x = Value.int (i : Int) t) ∧ ∃ k t, y = Value.int k t, _, rfl, WalksT.enumerate rfl _ _ _ (neN (show @Ne Nat (h1.objs.size + 1) h1.objs.size by omega)) (neN (show @Ne Nat l1 (h1.objs.size + 1) by omega)) (neN (show @Ne Nat l1 h1.objs.size by omega)) _, ?_, ⟨⟨_, he2⟩, hi2, hl1.at fun o e => hk2 _ o e⟩, ?_, ?_, nin _ hLl, F2.ns, ?_, ?_⟩
  · rw [sizeLine_eq, hsz]; decide
  · intro c hc
    show @LT.lt Nat _ c h2.objs.size
    simp only [List.mem_cons, List.not_mem_nil, or_false] at hc
    rcases hc with e | e | e
    · have e : @Eq Nat c (h1.objs.size + 1) := e
      omega
    · have e : @Eq Nat c h1.objs.size := e
      omega
    · have e : @Eq Nat c l1 := e
      omega
  · rintro i vals ⟨t, x, hx, rfl⟩
    exact ⟨_, _, rfl, ⟨t, rfl⟩, hall _ (Array.mem_of_getElem? hx)⟩
  · rintro C i x y s₃ m₃ E' hC hi9 ⟨⟨t, rfl⟩, k9, t', rfl⟩ hns ha hb hk
    dsimp only at hC hk
    replace hC : @LE.le Nat _ h2.objs.size C := hC
    have F3 : Fr s.heap C s₃.heap m₃ := fr_block hns (fun c o e => hk c o (nin c (Heap.lt_size (F1.keep c o e))) (F2.keep c o e)) (show @LE.le Nat _ s.heap.objs.size C by omega)
    have N3 : News s.heap C s₃.heap [(s.heap.objs.size + 1, o')] := fun p hp => by
      rw [List.mem_singleton.mp hp]
      exact ⟨hk _ _ (nin _ hcl) (hk2 _ _ hcell), neN (show @Ne Nat (s.heap.objs.size + 1) C by omega), hcfree⟩
    replace F3 := fr_see [(Str.ofString "k", Value.int (i : Int) t), (Str.ofString "own", Value.int k9 t')] F3 (by simp [ha, hb])
    repeat' ((fail_if_success (with_reducible show wpAny _ _ (eval (Expr.ListComp _ _ _ _) _) _ _ _)); walk1)
    refine ListComp_L rfl (fun k => k.fmod 1000000) rfl (by decide) rfl (by decide) rfl ?_ (fun _ => rfl)
    repeat' ((fail_if_success (with_reducible show wpAny _ _ (subscriptTail _ _ _ _) _ _ _)); walk1)
    refine cut_keep (vs := vs) (ns := ns) (hl.at fun o e => F3.keep _ _ e) hI (.int _ _) .none (.int _ _) (by decide) (by rw [sizeLine_eq]; omega) ?_ (by with_unfolding_all rfl) (by intro _; with_unfolding_all rfl)
    intro D4 ws4 n4 h4 ms4 hD4 hi4 hw4 hk4
    dsimp only at hk4 ⊢
    refine ⟨_, _, _, rfl, ⟨_, hD4, rfl, _, rfl⟩, hi4, by rw [sizeLine_eq]; omega, ?_, ?_⟩
    · intro C5 k5 t5 s5 m5 E5 hC5 _ hns5 hm5 hk5
      have F5 : Fr s.heap C5 s5.heap m5 := fr_block hns5 (fun c o e => hk5 c o (hk4 c o (F3.keep c o e))) (by have : @LT.lt Nat _ C h4.objs.size := (F3.keeps hk4).ns.lt; have h9 : @LE.le Nat _ h4.objs.size C5 := hC5; show @LE.le Nat _ s.heap.objs.size C5; omega)
      replace F5 := fr_see [(Str.ofString "x", Value.int k5 t5)] F5 (by simp [hm5])
      repeat' ((fail_if_success (with_reducible show _ ∧ Keeps _ _)); walk1)
      exact ⟨⟨_, rfl⟩, _, _, rfl, fun _ _ e => e⟩
    · intro D6 vs6 n6 h6 tk6 hD6 hD6' hi6 hk6
      have F6 := (F3.keeps hk4).keeps hk6
      have hk36 : ∀ b o, s₃.heap.get? b = some o → h6.get? b = some o := fun b o e => hk6 b o (hk4 b o e)
      repeat' ((fail_if_success (with_reducible show wpAny _ _ (call (Value.builtin "sum") _) _ _ _)); walk1)
      refine sum_keep rfl ⟨_, hD6', rfl, _, rfl⟩ hi6 fun t7 h7 tk7 hk7 => ?_
      dsimp only at hk7 ⊢
      walk1
      exact ⟨⟨_, _, rfl⟩, _, _, rfl, fun b o e => hk7 b o (hk36 b o e)⟩
  · rintro D h3 tk3 ys hD3 ⟨n3, hD3'⟩ hys hF3 hns3 hk3
    rw [hsz] at hys
    obtain ⟨vs3, rfl⟩ : ∃ l : List Value, ys = l.toArray := ⟨ys.toList, by simp⟩
    obtain ⟨ds, hds⟩ := ints_ex (vs := vs3) fun v hv => by
      obtain ⟨j, hj⟩ := List.getElem?_of_mem hv
      exact hF3 j v (by rw [List.getElem?_toArray]; exact hj)
    have hdl : ds.length = 10 := by rw [← hds.length, ← hys, List.size_toArray]
    have keep3 : ∀ c o, @Ne Nat c s.heap.objs.size → h1.get? c = some o → h3.get? c = some o := fun c o hc e => hk3 c o hc (nin c (Heap.lt_size e)) (hk2 c o e)
    have hDf := fresh_past F2 hD3
    have F4 : Fr s.heap s.heap.objs.size h3 (fun z => if z = Str.ofString "drawn" then some (.ref D) else none) :=
      ⟨hns3, fun c o e => keep3 c o (fun q => by have h1 : @LT.lt Nat _ c s.heap.objs.size := Heap.lt_size e; omega) (F1.keep c o e), Nat.le_refl _⟩
    have N4 : News s.heap s.heap.objs.size h3 [(D, listOf vs3.toArray n3)] := by
      intro p hp
      rw [List.mem_singleton.mp hp]
      exact ⟨hD3', hDf.1, hDf.2⟩
    clear F1 F2 hk2 hk3 keep3 he2 hi2 hall hl1 hns3 hF3 nin
    repeat' ((fail_if_success (with_reducible show wpAny _ _ (eval (Expr.ListComp _ _ _ _) _) _ _ _)); walk1)
    refine ListComp_L rfl octF rfl (by decide) rfl (by decide) rfl ?_ (fun _ => rfl)
    walk1
    refine ⟨_, _, _, rfl, isL N4 (List.mem_cons_self ..), hds, by rw [sizeLine_eq, hds.length]; omega, ?_, ?_⟩
    · intro C5 k5 t5 s5 m5 E5 hC5 _ hns5 hm5 hk5
      have F5 : Fr s.heap C5 s5.heap m5 := fr_block hns5 (fun c o e => hk5 c o (F4.keep c o e)) (by have : @LT.lt Nat _ s.heap.objs.size h3.objs.size := F4.ns.lt; have h9 : @LE.le Nat _ h3.objs.size C5 := hC5; show @LE.le Nat _ s.heap.objs.size C5; omega)
      replace F5 := fr_see [(Str.ofString "d", Value.int k5 t5)] F5 (by simp [hm5])
      repeat' ((fail_if_success (with_reducible show _ ∧ Keeps _ _)); walk1)
      exact ⟨⟨_, rfl⟩, _, _, rfl, by assumption⟩
    · intro D6 vs6 n6 h6 tk6 hD6 hD6' hi6 hk6
      have F6 := F4.keeps hk6
      repeat' ((fail_if_success (with_reducible show wpAny _ _ (call (Value.type "bytes") _) _ _ _)); walk1)
      have hin6 : KBa.In (ds.map octF) := by intro n hn'; obtain ⟨d, _, rfl⟩ := List.mem_map.mp hn'; exact octF_in d
      refine call_bytes_ints ⟨_, hD6', rfl, _, rfl⟩ hi6 hin6 (by rw [sizeLine_eq, hi6.length, List.length_map]; omega) rfl ?_
      intro h7 t7 tk7 hk7
      dsimp only at hk7 ⊢
      have F7 := F6.keeps hk7
      have hrow := KBa.ints_make hin6
      generalize byteArr (ds.map octF) = row at *
      have hrl : (KBw.bInts row).length = 10 := by rw [hrow, List.length_map]; exact hdl
      have hrb : ∀ k ∈ KBw.bInts row, 0 ≤ k ∧ k < 256 := by rw [hrow]; exact hin6
      clear hrow hin6 hk7 hk6 hi6 F6 F4 N4 hD6' hD6 hds hdl
      generalize hks : KBw.bInts row = ks at *
      have N7 : News s.heap s.heap.objs.size h7 [] := News.nil
      repeat' ((fail_if_success (with_reducible show wpAny _ _ (execs _ _) _ _ _)); walk1)
      rename Fr _ _ _ _ => F8
      exact law_b G hd rfl hu (by rw [hks]; exact hrl) F8 hQ
end Mine
-- part Fin
theorem PySem.Challenge.cw_pg0017_01_holds : PySem.Challenge.rw_pg0017_01.Holds := by
  exact Mine.hd (by
    k_go0
    all_goals try k_fold
    rename IntsAre _ _ => hI
    rename Heap.IsList _ _ _ => hL
    rename Fr _ _ _ _ => F
    rename News _ _ _ _ => N
    rename Obj.data _ = Data.cell _ => hdat
    rename Top _ _ _ _ _ _ => T
    rename Frag.In _ _ => KX
    rename Shared.gens _ = _ => hg
    refine Mine.law_body ⟨KX, _, _, _, T⟩ ?_ rfl ?_ hL hI ?_ F N hdat ?_
    · show 1 + claimMargin + 1 + 5 < recursionLimit
      decide
    · simp only [units_deeper, units_caller, cLine]
      first | done | omega | decide
    · omega
    · intro h' tk' m F'
      show GoodW _ _ _ _ _ (.ok (.ret (.bool _))) _
      refine goodW_bool F' hg (raisesW_false ?_) ?_
      · wrow_none_raised
      · wrow_post)
