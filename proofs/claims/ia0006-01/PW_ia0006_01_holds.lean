import PyProof.Rows.All
import Wide.All
import OpenK.AllK
import Wide.FinOn
import PySem.Challenge.RW_ia0006_01
set_option Elab.async false
section
open PySem PySem.W PySem.Spec PySem.Calls PyProof.Rows
set_option Elab.async false
set_option maxRecDepth 100000
set_option maxHeartbeats 8000000
namespace Mine
/-- all of h but what lies at the addresses of tabs -/
noncomputable abbrev base (h : Heap) (tabs : List (Addr × Obj)) : Heap := hideAll h (tabs.map (·.1))

section
variable {prog : Program} {w : World} {A : Around} {s : Shared} {K : Frag} {B0 : Heap} {mg mb : Str → Option Value} {p : Program} {loose : List Str} {mean : ExcName → Option Value}
  {name qual : Str} {params : Arguments} {body : List Stmt} {scope : Scope} {dV kV doc pm cdv ct oc : Value} {an od : Option Addr} {osl : Array (Option Value)} {f : Addr} {args : Args} {binds : List (Str × Value)}
  {Q E : Value → Shared → Prop}

theorem base_stays {h : Heap} {tabs : List (Addr × Obj)} (S : B0.StaysIn h) (hN : ∀ q ∈ tabs, h.get? q.1 = some q.2 ∧ B0.get? q.1 = none) : B0.StaysIn (base h tabs) :=
  fun b o e => hideAll_get _ (S b o e) fun q => by
    obtain ⟨r, hr, rfl⟩ := List.mem_map.mp q
    rw [(hN r hr).2] at e; cases e

/-- what a callee's body starts from -/
structure Start (B0 : Heap) (K : Frag) (p : Program) (loose : List Str) (mean : ExcName → Option Value) (mg mb : Str → Option Value) (h : Heap) (tabs : List (Addr × Obj)) (g : Heap) (L' : Addr) : Prop where
  st : B0.StaysIn g
  old : ∀ b o, b ∉ tabs.map (·.1) → h.get? b = some o → g.get? b = some o
  of : ∀ b o, g.get? b = some o → h.get? b = some o
  hid : ∀ q ∈ tabs, g.get? q.1 = none
  size : g.objs.size = h.objs.size
  L : L' = h.objs.size
  lt : ∀ q ∈ tabs, q.1 < L'
  at_ : ∀ q ∈ tabs, h.get? q.1 = some q.2

/-- a def of the top is entered: its ground is all that stands but what tabs name -/
theorem enter_def (tabs : List (Addr × Obj)) (X0 : K.In B0) (T0 : Top p loose mean mg mb B0) (S : B0.StaysIn s.heap) (hN : ∀ q ∈ tabs, s.heap.get? q.1 = some q.2 ∧ B0.get? q.1 = none)
    (ho : K.lookup f = some ⟨oc, od, .func (fnOf name qual params body scope dV kV doc pm an cdv ct), osl⟩) (hcd : codeIn K cdv qual = true) (hroom : A.depth < recursionLimit)
    (hbind : BindsTo s (fnOf name qual params body scope dV kV doc pm an cdv ct) args binds) (hloc : ∀ y ∈ binds, scope.names.lookup y.1 = some .local)
    (h : ∀ g L' h₁, Start B0 K p loose mean mg mb s.heap tabs g L' → Fr g L' h₁ (fun y => binds.reverse.lookup y) → News g L' h₁ tabs → K.In g → Top p loose mean mg mb g →
      wpAny (model prog w) (A.deeper (envOf qual scope L' f cdv)) (execs body (envOf qual scope L' f cdv)) (fun fl s' => Q (match fl with | .ret v => v | _ => .none) s') (fun _ _ => False)
        { s with heap := h₁, toks := s.toks + binds.length })
    (hco : scope.isCoroutine = false) (hgen : scope.isGenerator = false) (hk : scope.kind = .function)
    (hcell : ∀ x ∈ scope.names, x.2 ≠ .cell) : wpAny (model prog w) A (call (.ref f) args.pos args.kw) Q E s := by
  have XS := X0.keeps S
  have TS := T0.keeps S
  have SB := base_stays S hN
  refine wpAny_call ?_
  refine codeAny_call_def (fd := fnOf name qual params body scope dV kV doc pm an cdv ct) (body := body) (binds := binds) hroom (XS _ _ ho) rfl TS.nolimit (codeRec_of XS hcd) rfl hbind hcell hloc (fun h₁ hns hk₁ => ?_) hco hgen hk
  exact wpAny_mono (h (base s.heap tabs) s.heap.objs.size h₁ ⟨SB, (fun b o hb e => hideAll_get _ e hb), fun b o e => of_hideAll _ e, fun q hq => hideAll_none _ (List.mem_map_of_mem hq), hideAll_size _ _, rfl, fun q hq => Heap.lt_size (hN q hq).1, fun q hq => (hN q hq).1⟩
    ⟨hns, fun b o e => hk₁ b o (of_hideAll _ e), Nat.le_of_eq (hideAll_size _ _)⟩
    (fun q hq => ⟨hk₁ _ _ (hN q hq).1, Nat.ne_of_lt (Heap.lt_size (hN q hq).1), hideAll_none _ (List.mem_map_of_mem hq)⟩) (X0.keeps SB) (T0.keeps SB)) (fun _ _ q => q) fun _ _ q => q.elim

/-- the same for a def that keeps cells -/
theorem enter_defC (tabs : List (Addr × Obj)) (X0 : K.In B0) (T0 : Top p loose mean mg mb B0) (S : B0.StaysIn s.heap) (hN : ∀ q ∈ tabs, s.heap.get? q.1 = some q.2 ∧ B0.get? q.1 = none)
    (ho : K.lookup f = some ⟨oc, od, .func (fnOf name qual params body scope dV kV doc pm an cdv ct), osl⟩) (hcd : codeIn K cdv qual = true) (hroom : A.depth < recursionLimit)
    (hbind : BindsTo s (fnOf name qual params body scope dV kV doc pm an cdv ct) args binds) (hkind : (binds.all fun y => scope.names.lookup y.1 == some .local || scope.names.lookup y.1 == some .cell) = true)
    (hnd : ((cellsFrom 0 scope.names []).map (·.1)).Nodup)
    (h : ∀ g L' h₁ tk cells, Start B0 K p loose mean mg mb s.heap tabs g L' → Fr g L' h₁ (bindL (envOfC qual scope L' f cdv).kindOf binds fun _ => none) → News g L' h₁ (cells ++ tabs) →
      CellsAre (bindC (envOfC qual scope L' f cdv).kindOf binds fun _ => none) (cellsFrom (L' + 1) scope.names []) cells → K.In g → Top p loose mean mg mb g →
      wpAny (model prog w) (A.deeper (envOfC qual scope L' f cdv)) (execs body (envOfC qual scope L' f cdv)) (fun fl s' => Q (match fl with | .ret v => v | _ => .none) s') (fun _ _ => False)
        { s with heap := h₁, toks := tk })
    (hco : scope.isCoroutine = false) (hgen : scope.isGenerator = false) (hk : scope.kind = .function) : wpAny (model prog w) A (call (.ref f) args.pos args.kw) Q E s := by
  have XS := X0.keeps S
  have TS := T0.keeps S
  have SB := base_stays S hN
  refine wpAny_call ?_
  refine codeAny_call_function (fd := fnOf name qual params body scope dV kV doc pm an cdv ct) (body := body) hroom (XS _ _ ho) rfl hco hgen rfl (codeRec_of XS hcd) (hbind _ _ _ _ ?_)
  refine wpAny_newFunctionEnv_cells hk (kindsX hkind _) fun env' he s' x => ?_
  subst he
  refine ⟨TS.nolimit.keeps x.toInCall.keep, codeAny_func ?_⟩
  obtain ⟨h₁, tk, rfl, _⟩ := x.done
  have hk₁ := x.toInCall.keep
  obtain ⟨cells, NC, Y⟩ := Cl.news (h₀ := s.heap) (Nat.le_refl _) fun n c hm => ⟨x.cell n c (lookup_of_mem_nodup (cellsFrom_names scope.names 0 (s.heap.objs.size + 1) [] [] rfl ▸ hnd) hm), x.above n c hm⟩
  refine wpAny_mono (h (base s.heap tabs) s.heap.objs.size h₁ tk cells ⟨SB, (fun b o hb e => hideAll_get _ e hb), fun b o e => of_hideAll _ e, fun q hq => hideAll_none _ (List.mem_map_of_mem hq), hideAll_size _ _, rfl, fun q hq => Heap.lt_size (hN q hq).1, fun q hq => (hN q hq).1⟩
    ⟨x.toInCall.ns, fun b o e => hk₁ b o (of_hideAll _ e), Nat.le_of_eq (hideAll_size _ _)⟩ (fun q hq => ?_) Y (X0.keeps SB) (T0.keeps SB)) (fun _ _ q => q) fun _ _ q => q.elim
  rcases List.mem_append.mp hq with hq | hq
  · refine ⟨(NC q hq).1, (NC q hq).2.1, ?_⟩
    cases e : (base s.heap tabs).get? q.1 with
    | none => rfl
    | some o => have := of_hideAll _ e; rw [(NC q hq).2.2] at this; cases this
  · exact ⟨hk₁ _ _ (hN q hq).1, Nat.ne_of_lt (Heap.lt_size (hN q hq).1), hideAll_none _ (List.mem_map_of_mem hq)⟩

/-- a def made in a body is entered -/
theorem enter_nest {cl : List (Str × Addr)} {ctv : Value} {c' : Addr} (tabs : List (Addr × Obj)) (X0 : K.In B0) (T0 : Top p loose mean mg mb B0) (S : B0.StaysIn s.heap) (hN : ∀ q ∈ tabs, s.heap.get? q.1 = some q.2 ∧ B0.get? q.1 = none)
    (ho : s.heap.get? f = some (fnMade name qual params body scope cl doc pm c' ctv)) (hcd : s.heap.CodeRec (.ref c') qual) (hroom : A.depth < recursionLimit)
    (hbind : BindsTo s (fnX name qual params body scope cl .none .none doc pm none (.ref c') ctv) args binds) (hloc : ∀ y ∈ binds, scope.names.lookup y.1 = some .local)
    (h : ∀ g L' h₁, Start B0 K p loose mean mg mb s.heap tabs g L' → Fr g L' h₁ (fun y => binds.reverse.lookup y) → News g L' h₁ tabs → K.In g → Top p loose mean mg mb g →
      wpAny (model prog w) (A.deeper (envX qual scope L' f (.ref c') cl)) (execs body (envX qual scope L' f (.ref c') cl)) (fun fl s' => Q (match fl with | .ret v => v | _ => .none) s') (fun _ _ => False)
        { s with heap := h₁, toks := s.toks + binds.length })
    (hco : scope.isCoroutine = false) (hgen : scope.isGenerator = false) (hk : scope.kind = .function)
    (hcell : ∀ x ∈ scope.names, x.2 ≠ .cell) : wpAny (model prog w) A (call (.ref f) args.pos args.kw) Q E s := by
  have TS := T0.keeps S
  have SB := base_stays S hN
  refine wpAny_call ?_
  refine codeAny_call_def (fd := fnX name qual params body scope cl .none .none doc pm none (.ref c') ctv) (body := body) (binds := binds) hroom ho rfl TS.nolimit hcd rfl hbind hcell hloc (fun h₁ hns hk₁ => ?_) hco hgen hk
  exact wpAny_mono (h (base s.heap tabs) s.heap.objs.size h₁ ⟨SB, (fun b o hb e => hideAll_get _ e hb), fun b o e => of_hideAll _ e, fun q hq => hideAll_none _ (List.mem_map_of_mem hq), hideAll_size _ _, rfl, fun q hq => Heap.lt_size (hN q hq).1, fun q hq => (hN q hq).1⟩
    ⟨hns, fun b o e => hk₁ b o (of_hideAll _ e), Nat.le_of_eq (hideAll_size _ _)⟩
    (fun q hq => ⟨hk₁ _ _ (hN q hq).1, Nat.ne_of_lt (Heap.lt_size (hN q hq).1), hideAll_none _ (List.mem_map_of_mem hq)⟩) (X0.keeps SB) (T0.keeps SB)) (fun _ _ q => q) fun _ _ q => q.elim

/-- behind a body: all that stood before the call, but what tabs name, stands -/
theorem Start.kept {h g h' : Heap} {L' : Addr} {m : Str → Option Value} {tabs : List (Addr × Obj)} (Z : Start B0 K p loose mean mg mb h tabs g L') (F : Fr g L' h' m) :
    ∀ b o, b ∉ tabs.map (·.1) → h.get? b = some o → h'.get? b = some o := fun b o hb e => F.keep b o (Z.old b o hb e)
/-- .. what tabs name and the body did not turn, stands too -/
theorem Start.keptBut {h g h' : Heap} {L' : Addr} {m : Str → Option Value} {tabs : List (Addr × Obj)} (Z : Start B0 K p loose mean mg mb h tabs g L') (F : Fr g L' h' m) (mu : List Addr)
    (hr : ∀ q ∈ tabs, q.1 ∉ mu → h'.get? q.1 = some q.2) : ∀ b o, b ∉ mu → h.get? b = some o → h'.get? b = some o := fun b o hb e => by
  by_cases hm : b ∈ tabs.map (·.1)
  · obtain ⟨q, hq, rfl⟩ := List.mem_map.mp hm
    have e1 := Z.at_ q hq
    rw [e] at e1; cases e1
    exact hr q hq hb
  · exact Z.kept F b o hm e
/-- what the body made did not stand before -/
theorem Start.fresh {h g : Heap} {L' D : Addr} {tabs : List (Addr × Obj)} (Z : Start B0 K p loose mean mg mb h tabs g L') (hlt : L' < D) : h.get? D = none := by
  refine Heap.get?_none_of_le ?_
  rw [← Z.L]; exact Nat.le_of_lt hlt

/-- behind a call of a contract: the caller's frame -/
theorem back_fr {h₀ h h' : Heap} {L : Addr} {m : Str → Option Value} {tabs : List Addr} (F : Fr h₀ L h m) (hk : ∀ b o, b ∉ tabs → h.get? b = some o → h'.get? b = some o)
    (ht : ∀ b ∈ tabs, h₀.get? b = none) (hL : L ∉ tabs) : Fr h₀ L h' m :=
  ⟨F.ns.at' fun o e => hk L o hL e, fun b o e => hk b o (fun q => by rw [ht b q] at e; cases e) (F.keep b o e), F.above⟩
/-- .. what the caller made -/
theorem back_old {h₀ h h' : Heap} {L : Addr} {news : List (Addr × Obj)} {tabs : List Addr} (N : News h₀ L h news) (hk : ∀ b o, b ∉ tabs → h.get? b = some o → h'.get? b = some o)
    (ht : ∀ q ∈ news, q.1 ∉ tabs) : News h₀ L h' news := fun q hq => ⟨hk _ _ (ht q hq) (N q hq).1, (N q hq).2⟩
/-- .. what the callee made -/
theorem back_new {h₀ h h' : Heap} {L D : Addr} {o : Obj} {m : Str → Option Value} {news : List (Addr × Obj)} (F : Fr h₀ L h m) (N : News h₀ L h' news) (hd : h.get? D = none) (ho : h'.get? D = some o) : News h₀ L h' ((D, o) :: news) := fun q hq => by
  rcases List.mem_cons.mp hq with rfl | hq
  · refine ⟨ho, fun e => ?_, ?_⟩
    · obtain ⟨oL, _, _, hL, _⟩ := F.ns
      have e' : D = L := e
      rw [e', hL] at hd; cases hd
    · cases e : h₀.get? D with
      | none => rfl
      | some o' => rw [F.keep _ _ e] at hd; cases hd
  · exact N q hq
end
end Mine
end
section
open PySem PySem.W PySem.Spec PySem.Calls PyProof.Rows
namespace Mine
/-- x's digits to the base 2^n are written into the places from lo up to hi -/
noncomputable def DigSet (n x lo hi : Int) (ds ds' : List Int) : Prop := ds'.length = ds.length ∧ ∀ i : Nat, i < ds.length → ds'.getD i 0 = if lo ≤ i ∧ (i : Int) < hi then (x / 2 ^ (n.toNat * (i - lo.toNat))) % 2 ^ n.toNat else ds.getD i 0
theorem dig_base {n x lo hi : Int} {ds : List Int} (h0 : 0 ≤ lo) (h1 : lo + 1 = hi) (x0 : 0 ≤ x) (x1 : x < 2 ^ (n.toNat * (hi - lo).toNat)) : DigSet n x lo hi ds (ds.set lo.toNat x) := by
  refine ⟨List.length_set .., fun i hi' => ?_⟩
  have e : (hi - lo).toNat = 1 := by omega
  rw [e, Nat.mul_one] at x1
  by_cases c : lo ≤ i ∧ (i : Int) < hi
  · have e2 : i = lo.toNat := by omega
    subst e2
    rw [if_pos c, List.getD_eq_getElem?_getD, List.getElem?_set_self hi', Nat.sub_self, Nat.mul_zero]
    simp [Int.emod_eq_of_lt x0 x1]
  · rw [if_neg c, List.getD_eq_getElem?_getD, List.getD_eq_getElem?_getD, List.getElem?_set_ne (by omega)]
theorem dig_low {x : Int} (x0 : 0 ≤ x) {a b n : Nat} (h : n ≤ b) : (x % 2 ^ (a + b)) / 2 ^ a % 2 ^ n = x / 2 ^ a % 2 ^ n := by
  obtain ⟨y, rfl⟩ := Int.eq_ofNat_of_zero_le x0
  have key : (y % 2 ^ (a + b)) / 2 ^ a % 2 ^ n = y / 2 ^ a % 2 ^ n := by
    rw [Nat.pow_add, Nat.mod_mul_right_div_self, Nat.mod_mod_of_dvd _ (Nat.pow_dvd_pow 2 h)]
  exact_mod_cast key
theorem dig_step {n x lo mid hi : Int} {ds d1 d2 : List Int} (x0 : 0 ≤ x) (h0 : 0 ≤ lo) (h1 : lo < mid) (h2 : mid < hi) (h3 : hi ≤ ds.length) (a : DigSet n (x % 2 ^ (n.toNat * (mid - lo).toNat)) lo mid ds d1) (b : DigSet n (x / 2 ^ (n.toNat * (mid - lo).toNat)) mid hi d1 d2) : DigSet n x lo hi ds d2 := by
  refine ⟨b.1.trans a.1, fun i hi' => ?_⟩
  rw [b.2 i (by rw [a.1]; exact hi')]
  by_cases c : mid ≤ i ∧ (i : Int) < hi
  · rw [if_pos c, if_pos ⟨by omega, c.2⟩, Int.ediv_ediv_of_nonneg (Int.pow_nonneg (by decide)), ← Int.pow_add, ← Nat.mul_add]
    rw [show (mid - lo).toNat + (i - mid.toNat) = i - lo.toNat by omega]
  · rw [if_neg c, a.2 i hi']
    by_cases c2 : lo ≤ i ∧ (i : Int) < mid
    · rw [if_pos c2, if_pos ⟨c2.1, by omega⟩]
      have e : n.toNat * (mid - lo).toNat = n.toNat * (i - lo.toNat) + n.toNat * ((mid - lo).toNat - (i - lo.toNat)) := by rw [← Nat.mul_add]; congr 1; omega
      rw [e]
      refine dig_low x0 (Nat.le_mul_of_pos_right _ ?_)
      omega
    · rw [if_neg c2, if_neg (by omega)]
theorem emod_le {x q : Int} (x0 : 0 ≤ x) (q0 : 0 < q) : x % q ≤ x := by
  have h1 := Int.mul_ediv_add_emod x q
  have h2 := Int.mul_nonneg (Int.le_of_lt q0) (Int.ediv_nonneg x0 (Int.le_of_lt q0))
  omega
theorem nat_and_abs (a r : Nat) : (a ||| r) &&& a = a := by
  apply Nat.eq_of_testBit_eq; intro i
  rw [Nat.testBit_and, Nat.testBit_or]
  cases a.testBit i <;> simp
theorem nat_or_abs (a r : Nat) : (a ||| r) ||| a = a ||| r := by
  apply Nat.eq_of_testBit_eq; intro i
  rw [Nat.testBit_or, Nat.testBit_or]
  cases a.testBit i <;> simp
theorem bitAnd_nat (y z : Nat) : Builtin.bitAnd (y : Int) (z : Int) = ((y &&& z : Nat) : Int) := by
  unfold Builtin.bitAnd
  rw [decide_eq_true (Int.natCast_nonneg y), decide_eq_true (Int.natCast_nonneg z)]
  simp
theorem bitOr_nat (y z : Nat) : Builtin.bitOr (y : Int) (z : Int) = ((y ||| z : Nat) : Int) := by
  have e : ∀ u : Int, Builtin.bitNot (Builtin.bitNot u) = u := fun u => by unfold Builtin.bitNot; omega
  have l : ∀ u : Nat, ¬ (0 ≤ Builtin.bitNot (u : Int)) := fun u => by unfold Builtin.bitNot; omega
  unfold Builtin.bitOr Builtin.bitAnd
  rw [decide_eq_false (l y), decide_eq_false (l z)]
  simp only [e, Int.toNat_natCast]
theorem xor_low {x : Int} {k : Nat} (x0 : 0 ≤ x) : Builtin.bitXor x (x.fdiv (2 ^ k) * 2 ^ k) = x % 2 ^ k := by
  obtain ⟨y, rfl⟩ := Int.eq_ofNat_of_zero_le x0
  rw [Int.fdiv_eq_ediv_of_nonneg _ (Int.pow_nonneg (by decide))]
  have e1 : ((y : Int) / 2 ^ k * 2 ^ k) = ((2 ^ k * (y / 2 ^ k) : Nat) : Int) := by
    rw [Int.mul_comm]; norm_cast
  have e3 : ((y : Int) % 2 ^ k) = ((y % 2 ^ k : Nat) : Int) := by norm_cast
  have e2 : y = 2 ^ k * (y / 2 ^ k) ||| y % 2 ^ k := by
    rw [← Nat.two_pow_add_eq_or_of_lt (Nat.mod_lt _ (Nat.two_pow_pos k)), Nat.div_add_mod]
  have e4 := Nat.div_add_mod y (2 ^ k)
  rw [e1, e3]
  generalize 2 ^ k * (y / 2 ^ k) = a at e2 e4 ⊢
  generalize y % 2 ^ k = r at e2 e4 ⊢
  unfold Builtin.bitXor
  show Builtin.bitOr (y : Int) (a : Int) - Builtin.bitAnd (y : Int) (a : Int) = (r : Int)
  rw [bitOr_nat, bitAnd_nat, e2, nat_or_abs, nat_and_abs, ← e2]
  omega
end Mine
namespace Mine
/-- ds are a's digits to the base 2^n, the lowest first -/
noncomputable def DigOf (n a : Int) (ds : List Int) : Prop := ds.length ≤ 60 ∧ a < 2 ^ (n.toNat * ds.length) ∧ ∀ i : Nat, i < ds.length → ds.getD i 0 = (a / 2 ^ (n.toNat * i)) % 2 ^ n.toNat
theorem digs_count {a n : Int} (_ha : 0 ≤ a) (ha2 : a < 1152921504606846976) (hn : 1 ≤ n) : ∃ N : Nat, ((Builtin.Int.intBits a : Int) + n - 1).fdiv n = N ∧ (Builtin.Int.intBits a : Int) ≤ n * N ∧ N ≤ 60 := by
  have hb : Builtin.Int.intBits a ≤ 60 := PyProof.Rows.intBits_le (by omega)
  have h0 : 0 ≤ ((Builtin.Int.intBits a : Int) + n - 1).fdiv n := Int.fdiv_nonneg (by omega) (by omega)
  obtain ⟨N, hN⟩ := Int.eq_ofNat_of_zero_le h0
  rw [Int.fdiv_eq_ediv_of_nonneg _ (by omega)] at hN
  have h1 := Int.mul_ediv_add_emod ((Builtin.Int.intBits a : Int) + n - 1) n
  have h2 := Int.emod_lt_of_pos ((Builtin.Int.intBits a : Int) + n - 1) (show 0 < n by omega)
  have h3 := Int.emod_nonneg ((Builtin.Int.intBits a : Int) + n - 1) (show n ≠ 0 by omega)
  refine ⟨N, by rw [Int.fdiv_eq_ediv_of_nonneg _ (by omega)]; exact hN, by rw [← hN]; omega, ?_⟩
  have h4 : ((Builtin.Int.intBits a : Int) + n - 1) / n ≤ 60 := by
    refine Int.le_of_lt_add_one (Int.ediv_lt_of_lt_mul (by omega) ?_)
    have : (Builtin.Int.intBits a : Int) ≤ 60 := by omega
    have h5 : n * 61 ≥ n + 60 := by omega
    show _ < (60 + 1) * n
    omega
  omega
theorem digs_room {a n : Int} {N : Nat} (ha : 0 ≤ a) (hn : 1 ≤ n) (h : (Builtin.Int.intBits a : Int) ≤ n * N) : a < 2 ^ (n.toNat * N) := by
  have e : ((n.toNat * N : Nat) : Int) = n * N := by rw [Int.natCast_mul, Int.toNat_of_nonneg (by omega)]
  have h1 : Builtin.Int.intBits a ≤ n.toNat * N := by omega
  have h2 := intBits_le_iff.mp h1
  have h3 : ((a.natAbs : Nat) : Int) < ((2 ^ (n.toNat * N) : Nat) : Int) := by exact_mod_cast h2
  push_cast at h3
  omega
theorem digs_some {a : Int} {n : Int} {N : Nat} (h0 : a ≠ 0) (h : (Builtin.Int.intBits a : Int) ≤ n * N) : 0 < N := by
  rcases Nat.eq_zero_or_pos N with e | e
  · subst e
    have : Builtin.Int.intBits a ≤ 0 := by simpa using h
    have := intBits_le_iff.mp this
    omega
  · exact e
theorem digOf_set {n a : Int} {N : Nat} {ds ds' : List Int} (hl : ds.length = N) (hN : N ≤ 60) (hr : a < 2 ^ (n.toNat * N)) (h : DigSet n a 0 N ds ds') : DigOf n a ds' := by
  obtain ⟨h1, h2⟩ := h
  refine ⟨by omega, by rw [h1, hl]; exact hr, fun i hi => ?_⟩
  rw [h2 i (by omega), if_pos ⟨by omega, by omega⟩]
  simp
end Mine
end
section
open PySem PySem.W PySem.Spec PySem.Calls PyProof.Rows
namespace Mine
/-- the number that digits say, the lowest first -/
noncomputable def valL (k : Nat) : List Int → Int
  | [] => 0
  | d :: r => d + 2 ^ k * valL k r
theorem valL_app (k : Nat) : ∀ a b : List Int, valL k (a ++ b) = valL k a + 2 ^ (k * a.length) * valL k b
  | [], b => by simp [valL]
  | d :: r, b => by
    show d + 2 ^ k * valL k (r ++ b) = d + 2 ^ k * valL k r + 2 ^ (k * (r.length + 1)) * valL k b
    rw [valL_app k r b, Nat.mul_succ, Int.pow_add, Int.mul_add, ← Int.mul_assoc, Int.mul_comm (2 ^ k) (2 ^ (k * r.length)), Int.add_assoc]
theorem valL_nonneg {k : Nat} : ∀ {l : List Int}, (∀ d ∈ l, 0 ≤ d ∧ d < 2 ^ k) → 0 ≤ valL k l ∧ valL k l < 2 ^ (k * l.length)
  | [], _ => by simp [valL]
  | d :: r, h => by
    have h1 := h d (.head _)
    have h2 := valL_nonneg (l := r) fun x hx => h x (.tail _ hx)
    have p : (0 : Int) < 2 ^ k := Int.pow_pos (by decide)
    have h3 : 0 ≤ 2 ^ k * valL k r := Int.mul_nonneg (by omega) h2.1
    have h4 : 2 ^ k * valL k r ≤ 2 ^ k * (2 ^ (k * r.length) - 1) := Int.mul_le_mul_of_nonneg_left (by omega) (by omega)
    show 0 ≤ d + 2 ^ k * valL k r ∧ d + 2 ^ k * valL k r < 2 ^ (k * (r.length + 1))
    rw [Nat.mul_succ, Int.pow_add, Int.mul_comm (2 ^ (k * r.length))]
    rw [Int.mul_sub, Int.mul_one] at h4
    omega
/-- the part from lo up to hi -/
noncomputable def seg (ds : List Int) (lo hi : Int) : List Int := (ds.drop lo.toNat).take (hi - lo).toNat
theorem seg_split {ds : List Int} {lo mid hi : Int} (h0 : 0 ≤ lo) (h1 : lo ≤ mid) (h2 : mid ≤ hi) : seg ds lo hi = seg ds lo mid ++ seg ds mid hi := by
  unfold seg
  have e : (hi - lo).toNat = (mid - lo).toNat + (hi - mid).toNat := by omega
  rw [e, List.take_add, List.drop_drop]
  congr 3; omega
theorem seg_len {ds : List Int} {lo hi : Int} (h0 : 0 ≤ lo) (h1 : lo ≤ hi) (h2 : hi ≤ ds.length) : (seg ds lo hi).length = (hi - lo).toNat := by
  unfold seg; rw [List.length_take, List.length_drop]; omega
theorem seg_one {ds : List Int} {lo : Int} (h0 : 0 ≤ lo) (h1 : lo < ds.length) : seg ds lo (lo + 1) = [ds.getD lo.toNat 0] := by
  unfold seg
  have h2 : lo.toNat < ds.length := by omega
  rw [show (lo + 1 - lo).toNat = 1 by omega, List.drop_eq_getElem_cons h2, List.take_succ_cons, List.take_zero, List.getD_eq_getElem?_getD, List.getElem?_eq_getElem h2]; rfl
theorem seg_all (ds : List Int) : seg ds 0 ds.length = ds := by unfold seg; simp
theorem seg_mem {ds : List Int} {lo hi d : Int} (h : d ∈ seg ds lo hi) : d ∈ ds := List.mem_of_mem_drop (List.mem_of_mem_take h)
theorem val_step {k : Nat} {ds : List Int} {lo mid hi : Int} (h0 : 0 ≤ lo) (h1 : lo ≤ mid) (h2 : mid ≤ hi) (h3 : hi ≤ ds.length) : valL k (seg ds mid hi) * 2 ^ (k * (mid - lo).toNat) + valL k (seg ds lo mid) = valL k (seg ds lo hi) := by
  rw [seg_split h0 h1 h2, valL_app, seg_len h0 h1 (by omega), Int.mul_comm, Int.add_comm]
theorem pow_bits {x : Int} {k : Nat} (h0 : 0 ≤ x) (h : x < 2 ^ k) : Builtin.Int.intBits x ≤ k := by
  refine intBits_le_iff.mpr ?_
  have e : ((x.natAbs : Nat) : Int) < ((2 ^ k : Nat) : Int) := by push_cast; omega
  exact_mod_cast e
end Mine
end
section
open PySem PySem.W PySem.Spec PySem.Calls PyProof.Rows
namespace Mine
/-- the number that digits say, the highest first -/
noncomputable def beVal (k : Nat) (l : List Int) : Int := l.foldl (fun v d => v * 2 ^ k + d) 0
theorem beVal_snoc (k : Nat) (l : List Int) (d : Int) : beVal k (l ++ [d]) = beVal k l * 2 ^ k + d := by unfold beVal; rw [List.foldl_append]; rfl
theorem valL_reverse (k : Nat) : ∀ l : List Int, valL k l = beVal k l.reverse
  | [] => rfl
  | d :: r => by rw [List.reverse_cons, beVal_snoc, ← valL_reverse k r]; show d + 2 ^ k * valL k r = _; rw [Int.mul_comm, Int.add_comm]
theorem valL_digs {n a : Int} : ∀ (ds : List Int) (a : Int), 0 ≤ a → a < 2 ^ (n.toNat * ds.length) → (∀ i : Nat, i < ds.length → ds.getD i 0 = (a / 2 ^ (n.toNat * i)) % 2 ^ n.toNat) → valL n.toNat ds = a
  | [], a, h0, h1, _ => by simp at h1; show (0 : Int) = a; omega
  | d :: r, a, h0, h1, h2 => by
    have p : (0 : Int) < 2 ^ n.toNat := Int.pow_pos (by decide)
    have hd : d = a % 2 ^ n.toNat := by have := h2 0 (Nat.succ_pos _); simpa using this
    have ih := valL_digs (n := n) (a := a) r (a / 2 ^ n.toNat) (Int.ediv_nonneg h0 (by omega)) (by
      refine Int.ediv_lt_of_lt_mul p ?_
      rw [← Int.pow_add]
      exact h1) fun i hi => by
        have := h2 (i + 1) (Nat.succ_lt_succ hi)
        rw [List.getD_cons_succ] at this
        rw [this, Int.ediv_ediv_of_nonneg (by omega), ← Int.pow_add, Nat.mul_succ, Nat.add_comm]
    show d + 2 ^ n.toNat * valL n.toNat r = a
    rw [ih, hd]
    exact Int.emod_add_mul_ediv a _
theorem digOf_val {n a : Int} {ds : List Int} (h0 : 0 ≤ a) (h : DigOf n a ds) : valL n.toNat ds = a := valL_digs (a := a) ds a h0 h.2.1 h.2.2
theorem digOf_mem {n a : Int} {ds : List Int} (h : DigOf n a ds) : ∀ d ∈ ds, 0 ≤ d ∧ d < 2 ^ n.toNat := fun d hd => by
  obtain ⟨i, hi, rfl⟩ := List.mem_iff_getElem.mp hd
  have := h.2.2 i hi
  rw [List.getD_eq_getElem?_getD, List.getElem?_eq_getElem hi] at this
  have p : (0 : Int) < 2 ^ n.toNat := Int.pow_pos (by decide)
  rw [show ds[i] = _ from this]
  exact ⟨Int.emod_nonneg _ (by omega), Int.emod_lt_of_pos _ p⟩
/-- what holds of a long division between two digits -/
structure LongDiv (n b : Int) (pre qs : List Int) (r : Int) : Prop where
  val : beVal n.toNat pre = beVal n.toNat qs * b + r
  lo : 0 ≤ r
  hi : r < b
  q : ∀ d ∈ qs, 0 ≤ d ∧ d < 2 ^ n.toNat
theorem LongDiv.start {n b : Int} (hb : 0 < b) : LongDiv n b [] [] 0 := ⟨by simp [beVal], by omega, hb, fun _ h => nomatch h⟩
theorem LongDiv.turn {n b r d : Int} {pre qs : List Int} (h : LongDiv n b pre qs r) (hb : 0 < b) (hd : 0 ≤ d ∧ d < 2 ^ n.toNat) :
    LongDiv n b (pre ++ [d]) (qs ++ [(r * 2 ^ n.toNat + d) / b]) ((r * 2 ^ n.toNat + d) % b) := by
  have p : (0 : Int) < 2 ^ n.toNat := Int.pow_pos (by decide)
  have h0 : 0 ≤ r * 2 ^ n.toNat := Int.mul_nonneg h.lo (by omega)
  have e := Int.mul_ediv_add_emod (r * 2 ^ n.toNat + d) b
  refine ⟨?_, Int.emod_nonneg _ (by omega), Int.emod_lt_of_pos _ hb, fun x hx => ?_⟩
  · rw [beVal_snoc, beVal_snoc, h.val]
    generalize (r * 2 ^ n.toNat + d) / b = u at e ⊢
    generalize (r * 2 ^ n.toNat + d) % b = v at e ⊢
    generalize (2 : Int) ^ n.toNat = z at e ⊢
    rw [Int.add_mul, Int.add_mul, Int.mul_right_comm, Int.mul_comm u b]
    omega
  · rcases List.mem_append.mp hx with hx | hx
    · exact h.q x hx
    · rw [List.mem_singleton.mp hx]
      refine ⟨Int.ediv_nonneg (by omega) (by omega), Int.ediv_lt_of_lt_mul hb ?_⟩
      have h1 := h.hi
      have h2 : (r + 1) * 2 ^ n.toNat ≤ b * 2 ^ n.toNat := Int.mul_le_mul_of_nonneg_right (by omega) (by omega)
      rw [Int.add_mul, Int.one_mul] at h2
      rw [Int.mul_comm (2 ^ n.toNat) b]
      omega
theorem LongDiv.done {n a b r : Int} {ds qs : List Int} (h : LongDiv n b ds.reverse qs r) (hb : 0 < b) (hv : valL n.toNat ds = a) : valL n.toNat qs.reverse = a / b ∧ r = a % b := by
  have h1 := h.val
  rw [← valL_reverse, hv] at h1
  rw [valL_reverse, List.reverse_reverse]
  have h2 : a / b = beVal n.toNat qs ∧ a % b = r := by
    refine (Int.ediv_emod_unique hb).mpr ⟨?_, h.lo, h.hi⟩
    rw [h1, Int.mul_comm]; omega
  exact ⟨h2.1.symm, h2.2.symm⟩
end Mine
end
section
open PySem PySem.W PySem.Spec PySem.Calls PyProof.Rows
set_option Elab.async false
set_option maxRecDepth 100000
set_option maxHeartbeats 400000
namespace Mine
section
variable {prog : Program} {w : World} {A : Around} {s₂ : Shared} {E : Value → Shared → Prop}

/-- the tree of a comprehension's tests -/
noncomputable abbrev testsOf (ifs : List Expr) (cenv : Env) : Sem Bool := forIn ifs true fun c r => if r = true then do let ok ← isTrue c cenv (eval c cenv); pure (ForInStep.yield ok) else pure (ForInStep.yield r)

/-- what a tree inside a comprehension does: it makes things, and turns nothing -/
noncomputable def Makes (g : Heap) (C : Addr) (s₂ : Shared) (m : Str → Option Value) (led : List (Addr × Obj)) (R : List (Addr × Obj) → Prop) (s' : Shared) : Prop :=
  ∃ h' tk' new, s' = { s₂ with heap := h', toks := tk' } ∧ Fr g C h' m ∧ News g C h' (new ++ led) ∧ (∀ q ∈ new, ∀ r ∈ led, q.1 ≠ r.1) ∧ R new

/-- what is made is a thing of the new ones -/
noncomputable abbrev RefsIn (R : Nat → Value → List (Addr × Obj) → Prop) : Prop := ∀ i y l, R i y l → ∃ r o, y = Value.ref r ∧ (r, o) ∈ l
theorem Paired.right_of {α β : Type} {F : α → β → Prop} : ∀ {l₁ : List α} {l₂ : List β}, Paired F l₁ l₂ → ∀ b ∈ l₂, ∃ a, F a b
  | _, _, .cons h r, b, hb => by
    rcases List.mem_cons.mp hb with rfl | hb
    · exact ⟨_, h⟩
    · exact Paired.right_of r b hb

/-- how the comprehension's variable stands: a local, or a cell -/
structure VarOf (prog : Program) (w : World) (A : Around) (g : Heap) (C : Addr) (s₂ : Shared) (cenv : Env) (x : Str) (cadr : List Addr) (VS : Value → (Str → Option Value) → List (Addr × Obj) → Prop) : Prop where
  set : ∀ (v : Value) (px : Pos) (h : Heap) (tk : Nat) (m : Str → Option Value) (cled rest : List (Addr × Obj)) (Q' : Unit → Shared → Prop) (E' : Value → Shared → Prop), Fr g C h m → News g C h (cled ++ rest) → cled.map (·.1) = cadr → (∀ q ∈ cled, ∃ v, q.2.data = .cell v) → (∀ r ∈ rest, r.1 ∉ cadr) →
    (∀ h' tk' m' cled', Fr g C h' m' → News g C h' (cled' ++ rest) → cled'.map (·.1) = cadr → (∀ q ∈ cled', ∃ v, q.2.data = .cell v) → VS v m' cled' → (∀ b o, b ≠ C → b ∉ cadr → h.get? b = some o → h'.get? b = some o) → Q' () { s₂ with heap := h', toks := tk' }) →
    wpAny (model prog w) A (assign (.Name x px) cenv v) Q' E' { s₂ with heap := h, toks := tk }

theorem codeAny_compLoop_own {elt iter : Expr} {x : Str} {px : Pos} {ifs : List Expr} {scope : Scope} {pos : Pos} {I C D : Addr} {fp wr : List Addr} {n : Nat} {P : Nat → Value → Prop} {St : Nat → Heap → Prop}
    {cenv : Env} {g : Heap} {cadr : List Addr} {VS : Value → (Str → Option Value) → List (Addr × Obj) → Prop} {m₀ : Str → Option Value} {cled₀ : List (Addr × Obj)} {h₀ : Heap} {tk₀ : Nat} {RR : Result → Shared → Prop}
    (W : Walks prog w A I fp wr n P St) (V : VarOf prog w A g C s₂ cenv x cadr VS) (p : Nat → Bool) (R : Nat → Value → List (Addr × Obj) → Prop) (hmono : ∀ i y l l', R i y l → (∀ q ∈ l, q ∈ l') → R i y l')
    (hCf : C ∉ fp) (hDf : D ∉ fp) (hcf : ∀ b ∈ cadr, b ∉ fp) (hDc : D ∉ cadr) (hgw : ∀ b ∈ wr, g.get? b = none) (hlive : ∀ i h, St i h → ∀ b ∈ fp, ∃ o, h.get? b = some o)
    (F₀ : Fr g C h₀ m₀) (N₀ : News g C h₀ (cled₀ ++ [(D, listOf #[] 0)])) (hca : cled₀.map (·.1) = cadr) (hcc : ∀ q ∈ cled₀, ∃ v, q.2.data = .cell v) (hst : St 0 h₀)
    (htests : ∀ i v h tk m cled led, i < n → P i v → VS v m cled → cled.map (·.1) = cadr → Fr g C h m → News g C h (cled ++ led) →
      wpAny (model prog w) A (testsOf ifs cenv) (fun ok s' => ok = p i ∧ Makes g C s₂ m (cled ++ led) (fun _ => True) s') (fun _ _ => False) { s₂ with heap := h, toks := tk })
    (helt : ∀ i v h tk m cled led, i < n → P i v → p i = true → VS v m cled → cled.map (·.1) = cadr → Fr g C h m → News g C h (cled ++ led) →
      wpAny (model prog w) A (eval elt cenv) (fun y s' => Makes g C s₂ m (cled ++ led) (R i y) s') (fun _ _ => False) { s₂ with heap := h, toks := tk })
    (hR : ∀ h' tk' m' (ys : List Value) made e, Fr g C h' m' → News g C h' ((D, listOf ys.toArray e) :: made) → Paired (fun i y => R i y made) ((List.range n).filter p) ys → (∀ q ∈ made, q.1 ≠ D ∧ q.1 ∉ fp) → (RefsIn R → ys.Nodup) → RR (.ok .next) { s₂ with heap := h', toks := tk' })
    (hsz : n ≤ sizeLine) :
    codeAny (model prog w) A (.compLoop (.ListComp elt [⟨.Name x px, iter, ifs, 0⟩] scope pos) 0 (.ref I) (.ref D) cenv) RR { s₂ with heap := h₀, toks := tk₀ } := by
  refine codeAny_compLoop_tests
    (fun k s' => ∃ (i : Nat) (h' : Heap) (tk' : Nat) (m' : Str → Option Value) (cled : List (Addr × Obj)) (ys : List Value) (made : List (Addr × Obj)) (e : Nat), s' = { s₂ with heap := h', toks := tk' } ∧ St i h' ∧ i ≤ n ∧ k = n + 1 - i ∧ Fr g C h' m' ∧ News g C h' (cled ++ ((D, listOf ys.toArray e) :: made)) ∧ cled.map (·.1) = cadr ∧ (∀ q ∈ cled, ∃ v, q.2.data = .cell v) ∧
      Paired (fun i y => R i y made) ((List.range i).filter p) ys ∧ (∀ q ∈ made, q.1 ≠ D ∧ q.1 ∉ cadr ∧ q.1 ∉ fp) ∧ ys.length ≤ i ∧ (RefsIn R → ys.Nodup)) ?_ (n + 1)
    ⟨0, h₀, tk₀, m₀, cled₀, [], [], 0, rfl, hst, Nat.zero_le _, rfl, F₀, N₀, hca, hcc, .nil, (fun _ h => nomatch h), Nat.le_refl _, fun _ => List.nodup_nil⟩
  rintro k s' ⟨i, h', tk', m', cled, ys, made, e, rfl, hst', hi, rfl, F', N', hca', hcc', hP', hmd, hyl, hyn⟩
  have hDw : D ∉ wr := fun h => hDf (W.sub _ h)
  have hCw : C ∉ wr := fun h => hCf (W.sub _ h)
  have cadr_of : ∀ q ∈ cled, q.1 ∈ cadr := fun q hq => hca' ▸ List.mem_map_of_mem hq
  by_cases hlt : i < n
  · refine W.item i _ _ _ hlt hst' fun v h₁ tk₁ hPv hst₁ hk₁ => ?_
    -- the draw turned the iterator alone
    have F₁ : Fr g C h₁ m' := ⟨F'.ns.at' fun o e => hk₁ _ o hCw e, fun b o e => hk₁ b o (fun hb => by rw [hgw b hb] at e; cases e) (F'.keep b o e), F'.above⟩
    have N₁ : News g C h₁ (cled ++ ((D, listOf ys.toArray e) :: made)) := fun q hq => by
      refine ⟨hk₁ _ _ (fun hb => ?_) (N' q hq).1, (N' q hq).2⟩
      have hb' := W.sub _ hb
      rcases List.mem_append.mp hq with hq | hq
      · exact hcf _ (cadr_of q hq) hb'
      · rcases List.mem_cons.mp hq with rfl | hq
        · exact hDf hb'
        · exact (hmd q hq).2.2 hb'
    refine V.set v px h₁ tk₁ m' cled _ _ _ F₁ N₁ hca' hcc' (fun r hr => ?_) fun h₂ tk₂ m₂ cled₂ F₂ N₂ hca₂ hcc₂ hVS hk₂ => ?_
    · rcases List.mem_cons.mp hr with rfl | hr
      · exact hDc
      · exact (hmd r hr).2.1
    have hst₂ : St (i + 1) h₂ := W.frame _ _ _ hst₁ fun b hb o e => hk₂ b o (fun q => hCf (q ▸ hb)) (fun q => hcf b q hb) e
    -- a tree that only makes keeps the iterator where it stands
    have keepSt : ∀ {hA hB : Heap} {mm : Str → Option Value} {led new : List (Addr × Obj)}, St (i + 1) hA → Fr g C hA mm → News g C hA (cled₂ ++ led) → (∀ b ∈ fp, ∀ o, hA.get? b = some o → g.get? b = none → (b, o) ∈ led) → Fr g C hB mm → News g C hB (new ++ (cled₂ ++ led)) → St (i + 1) hB := by
      intro hA hB mm led new hs FA NA hall FB NB
      refine W.frame _ _ _ hs fun b hb o eo => ?_
      cases hg : g.get? b with
      | some o' => have := FA.keep _ _ hg; rw [eo] at this; cases this; exact FB.keep _ _ hg
      | none => exact (NB (b, o) (List.mem_append_right _ (List.mem_append_right _ (hall b hb o eo hg)))).1
    -- the iterator's own part of the ledger
    have hLf : C ∉ fp := hCf
    have Nown := news_ownOf (h₀ := g) (h := h₂) (L := C) (fp := fp) hLf
    have N₃ : News g C h₂ (cled₂ ++ (ownOf g fp h₂ ++ ((D, listOf ys.toArray e) :: made))) := fun q hq => by
      rcases List.mem_append.mp hq with hq | hq
      · exact N₂ q (List.mem_append_left _ hq)
      · rcases List.mem_append.mp hq with hq | hq
        · exact Nown q hq
        · exact N₂ q (List.mem_append_right _ hq)
    refine wpAny_mono (htests i v h₂ tk₂ m₂ cled₂ _ hlt hPv hVS hca₂ F₂ N₃) (fun ok s₃ h₃ => ?_) fun _ _ f => f.elim
    obtain ⟨rfl, h₃, tk₃, new₃, rfl, F₃, N₃', hap₃, _⟩ := h₃
    have hst₃ : St (i + 1) h₃ := keepSt hst₂ F₂ N₃ (fun b hb o eo hn => List.mem_append_left _ (mem_ownOf hb hn eo)) F₃ N₃'
    have apart : ∀ {new : List (Addr × Obj)} {hX hY : Heap} {led : List (Addr × Obj)}, St (i + 1) hX → (∀ q ∈ new, ∀ r ∈ cled₂ ++ led, q.1 ≠ r.1) → (∀ b ∈ fp, ∀ o, hX.get? b = some o → g.get? b = none → ∃ r ∈ led, r.1 = b) → News g C hY (new ++ (cled₂ ++ led)) → (∃ o, (D, o) ∈ led) → ∀ q ∈ new, q.1 ≠ D ∧ q.1 ∉ cadr ∧ q.1 ∉ fp := by
      intro new hX hY led hs hap hall NY ⟨oD, hD⟩ q hq
      refine ⟨hap q hq (D, oD) (List.mem_append_right _ hD), fun hb => ?_, fun hb => ?_⟩
      · rw [← hca₂] at hb
        obtain ⟨r, hr, er⟩ := List.mem_map.mp hb
        exact hap q hq r (List.mem_append_left _ hr) er.symm
      · obtain ⟨o, ho⟩ := hlive _ _ hs q.1 hb
        obtain ⟨r, hr, er⟩ := hall q.1 hb o ho (NY q (List.mem_append_left _ hq)).2.2
        exact hap q hq r (List.mem_append_right _ hr) er.symm
    have new₃ok := apart (led := ownOf g fp h₂ ++ ((D, listOf ys.toArray e) :: made)) hst₂ hap₃ (fun b hb o eo hn => ⟨(b, o), List.mem_append_left _ (mem_ownOf hb hn eo), rfl⟩) N₃' ⟨_, List.mem_append_right _ (.head _)⟩
    have N₄ : News g C h₃ (cled₂ ++ ((D, listOf ys.toArray e) :: (new₃ ++ made))) := fun q hq => by
      rcases List.mem_append.mp hq with hq | hq
      · exact N₃' q (List.mem_append_right _ (List.mem_append_left _ hq))
      · rcases List.mem_cons.mp hq with rfl | hq
        · exact N₃' _ (List.mem_append_right _ (List.mem_append_right _ (List.mem_append_right _ (.head _))))
        · rcases List.mem_append.mp hq with hq | hq
          · exact N₃' q (List.mem_append_left _ hq)
          · exact N₃' q (List.mem_append_right _ (List.mem_append_right _ (List.mem_append_right _ (.tail _ hq))))
    have made₃ok : ∀ q ∈ new₃ ++ made, q.1 ≠ D ∧ q.1 ∉ cadr ∧ q.1 ∉ fp := fun q hq => (List.mem_append.mp hq).elim (new₃ok q) (hmd q)
    have hP₃ : Paired (fun i y => R i y (new₃ ++ made)) ((List.range i).filter p) ys := hP'.mono fun _ _ hr => hmono _ _ _ _ hr fun q hq => List.mem_append_right _ hq
    cases hp : p i with
    | false =>
      simp only [Bool.false_eq_true, if_false]
      refine ⟨n + 1 - (i + 1), by omega, i + 1, h₃, tk₃, m₂, cled₂, ys, new₃ ++ made, e, rfl, hst₃, hlt, rfl, F₃, N₄, hca₂, hcc₂, ?_, made₃ok, by omega, hyn⟩
      rw [List.range_succ, List.filter_append]; simpa [hp] using hP₃
    | true =>
      simp only [if_true]
      have Nown₃ := news_ownOf (h₀ := g) (h := h₃) (L := C) (fp := fp) hLf
      have N₅ : News g C h₃ (cled₂ ++ (ownOf g fp h₃ ++ ((D, listOf ys.toArray e) :: (new₃ ++ made)))) := fun q hq => by
        rcases List.mem_append.mp hq with hq | hq
        · exact N₄ q (List.mem_append_left _ hq)
        · rcases List.mem_append.mp hq with hq | hq
          · exact Nown₃ q hq
          · exact N₄ q (List.mem_append_right _ hq)
      refine wpAny_mono (helt i v h₃ tk₃ m₂ cled₂ _ hlt hPv hp hVS hca₂ F₃ N₅) (fun y s₄ h₄ => ?_) fun _ _ f => f.elim
      obtain ⟨h₄, tk₄, new₄, rfl, F₄, N₅', hap₄, hRy⟩ := h₄
      have hst₄ : St (i + 1) h₄ := keepSt hst₃ F₃ N₅ (fun b hb o eo hn => List.mem_append_left _ (mem_ownOf hb hn eo)) F₄ N₅'
      have new₄ok := apart (led := ownOf g fp h₃ ++ ((D, listOf ys.toArray e) :: (new₃ ++ made))) hst₃ hap₄ (fun b hb o eo hn => ⟨(b, o), List.mem_append_left _ (mem_ownOf hb hn eo), rfl⟩) N₅' ⟨_, List.mem_append_right _ (.head _)⟩
      have N₆ : News g C h₄ (cled₂ ++ ((D, listOf ys.toArray e) :: (new₄ ++ (new₃ ++ made)))) := fun q hq => by
        rcases List.mem_append.mp hq with hq | hq
        · exact N₅' q (List.mem_append_right _ (List.mem_append_left _ hq))
        · rcases List.mem_cons.mp hq with rfl | hq
          · exact N₅' _ (List.mem_append_right _ (List.mem_append_right _ (List.mem_append_right _ (.head _))))
          · rcases List.mem_append.mp hq with hq | hq
            · exact N₅' q (List.mem_append_left _ hq)
            · exact N₅' q (List.mem_append_right _ (List.mem_append_right _ (List.mem_append_right _ (.tail _ hq))))
      have hD₄ := N₆ (D, listOf ys.toArray e) (List.mem_append_right _ (.head _))
      refine append_at (hsz := by rw [List.size_toArray]; omega) hD₄.1 fun h₅ hs₅ ho₅ => ?_
      have made₄ok : ∀ q ∈ new₄ ++ (new₃ ++ made), q.1 ≠ D ∧ q.1 ∉ cadr ∧ q.1 ∉ fp := fun q hq => (List.mem_append.mp hq).elim (new₄ok q) (made₃ok q)
      have cD : ∀ q ∈ cled₂, q.1 ≠ D := fun q hq e => hDc (by rw [← e, ← hca₂]; exact List.mem_map_of_mem hq)
      have F₅ : Fr g C h₅ m₂ := F₄.change hs₅ hD₄.2.1 hD₄.2.2
      have N₇ : News g C h₅ (cled₂ ++ ((D, listOf (ys ++ [y]).toArray (e + 1)) :: (new₄ ++ (new₃ ++ made)))) := fun q hq => by
        rcases List.mem_append.mp hq with hq | hq
        · have := N₆ q (List.mem_append_left _ hq)
          exact ⟨(hs₅.2 _ (cD q hq)).trans this.1, this.2⟩
        · rcases List.mem_cons.mp hq with rfl | hq
          · exact ⟨by rw [← List.push_toArray]; exact ho₅, hD₄.2⟩
          · have := N₆ q (List.mem_append_right _ (.tail _ hq))
            exact ⟨(hs₅.2 _ (made₄ok q hq).1).trans this.1, this.2⟩
      refine ⟨n + 1 - (i + 1), by omega, i + 1, h₅, tk₄, m₂, cled₂, ys ++ [y], new₄ ++ (new₃ ++ made), e + 1, rfl, ?_, hlt, rfl, F₅, N₇, hca₂, hcc₂, ?_, made₄ok, by rw [List.length_append]; exact Nat.succ_le_succ hyl, fun hre => ?_⟩
      · exact W.frame _ _ _ hst₄ fun b hb o eo => (hs₅.2 b fun q => hDf (q ▸ hb)).trans eo
      · have hP₄ : Paired (fun i y => R i y (new₄ ++ (new₃ ++ made))) ((List.range i).filter p) ys := hP₃.mono fun _ _ hr => hmono _ _ _ _ hr fun q hq => List.mem_append_right _ hq
        rw [List.range_succ, List.filter_append]
        simpa [hp] using hP₄.snoc (hmono _ _ _ _ hRy fun q hq => List.mem_append_left _ hq)
      · refine List.nodup_append.mpr ⟨hyn hre, by simp, fun a ha b hb => ?_⟩
        rw [List.mem_singleton.mp hb]
        rintro rfl
        obtain ⟨i', hR'⟩ := Paired.right_of hP₃ a ha
        obtain ⟨r, o, e1, m1⟩ := hre _ _ _ hR'
        obtain ⟨r', o', e2, m2⟩ := hre _ _ _ hRy
        have e3 : r' = r := by rw [e1] at e2; cases e2; rfl
        exact hap₄ _ m2 (r, o) (List.mem_append_right _ (List.mem_append_right _ (.tail _ m1))) e3
  · have hin : i = n := by omega
    subst hin
    refine W.done _ _ _ hst' fun h₁ tk₁ hk₁ => ?_
    refine hR h₁ tk₁ m' ys made e ⟨F'.ns.at' fun o e => hk₁ _ o hCw e, fun b o e => hk₁ b o (fun hb => by rw [hgw b hb] at e; cases e) (F'.keep b o e), F'.above⟩ (fun q hq => ?_) hP' (fun q hq => ⟨(hmd q hq).1, (hmd q hq).2.2⟩) hyn
    refine ⟨hk₁ _ _ (fun hb => ?_) (N' q (List.mem_append_right _ hq)).1, (N' q (List.mem_append_right _ hq)).2⟩
    have hb' := W.sub _ hb
    rcases List.mem_cons.mp hq with rfl | hq
    · exact hDf hb'
    · exact (hmd q hq).2.2 hb'

theorem one_of {c : Addr} : ∀ {cled : List (Addr × Obj)}, cled.map (·.1) = [c] → ∃ o, cled = [(c, o)]
  | [], e => by cases e
  | [(a, o)], e => ⟨o, by
    have h1 : a = c := by injection e
    rw [h1]⟩
  | _ :: _ :: _, e => by injection e with _ h2; cases h2
theorem var_local {g : Heap} {C : Addr} {cenv : Env} {x : Str} (hx : cenv.kindOf x = some .local) (hL : cenv.locals = C) (hp : (cenv.scope.kind == .class || (cenv.scope.kind == .module && cenv.locals != cenv.globals)) = false) :
    VarOf prog w A g C s₂ cenv x [] (fun v m _ => m x = some v) where
  set := fun v px h tk m cled rest Q' E' F N hca hcc hr k => by
    subst hL
    have hc0 : cled = [] := List.map_eq_nil_iff.mp hca
    subst hc0
    refine wpAny_assign_Name (wpAny_storeName_local hx F.ns (fun h' hn hs => ?_) hp)
    exact k h' _ _ [] (F.set hn hs) (N.set hs) rfl (fun _ h => nomatch h) (by simp) fun b o hb _ e => (hs.2 b hb).trans e
theorem var_cell {g : Heap} {C c : Addr} {cenv : Env} {x : Str} (hk : cenv.scope.kind = .function) (hx : cenv.kindOf x = some .cell) (hc : cenv.cells.lookup x = some c) :
    VarOf prog w A g C s₂ cenv x [c] (fun v _ cled => ∃ o, cled = [(c, o)] ∧ o.data = .cell (some v)) where
  set := fun v px h tk m cled rest Q' E' F N hca hcc hr k => by
    obtain ⟨o, rfl⟩ : ∃ o, cled = [(c, o)] := one_of hca
    obtain ⟨v₀, hd⟩ := hcc _ (.head _)
    have hm := N (c, o) (.head _)
    refine wpAny_assign_Name (wpAny_storeName_cell hk hx hc ⟨o, hm.1, hd⟩ fun h' hv hs => ?_)
    obtain ⟨o', ho', hd'⟩ := hv
    refine k h' _ m [(c, o')] (F.change hs hm.2.1 hm.2.2) (fun q hq => ?_) rfl (fun q hq => by rw [List.mem_singleton.mp hq]; exact ⟨_, hd'⟩) ⟨o', rfl, hd'⟩ fun b o hb hb2 e => (hs.2 b (by simpa using hb2)).trans e
    rcases List.mem_cons.mp hq with rfl | hq
    · exact ⟨ho', hm.2⟩
    · have := N q (.tail _ hq)
      exact ⟨(hs.2 _ (by simpa using hr q hq)).trans this.1, this.2⟩

/-- what a comprehension wants of its iterator's start on -/
noncomputable def CompAt (prog : Program) (w : World) (A : Around) (cenvAt : Addr → Env) (x : Str) (VSat : Addr → Value → (Str → Option Value) → List (Addr × Obj) → Prop) (cadrAt : Addr → List Addr) (ifs : List Expr) (elt : Expr) (Q : Value → Shared → Prop) (it : Value) (s₂ : Shared) : Prop :=
  ∃ (I : Addr) (fp wr : List Addr) (n : Nat) (P : Nat → Value → Prop) (St : Nat → Heap → Prop) (p : Nat → Bool) (R : Nat → Value → List (Addr × Obj) → Prop), it = .ref I ∧ Walks prog w A I fp wr n P St ∧ n ≤ sizeLine ∧ St 0 s₂.heap ∧ (∀ b ∈ fp, b < s₂.heap.objs.size) ∧
    (∀ i h, St i h → ∀ b ∈ fp, ∃ o, h.get? b = some o) ∧ (∀ b ∈ wr, ∃ o, s₂.heap.get? b = some o ∧ ∀ es ep, o.data ≠ .dict es ep) ∧ (∀ i y l l', R i y l → (∀ q ∈ l, q ∈ l') → R i y l') ∧
    (∀ C i v h tk m cled led, i < n → P i v → VSat C v m cled → cled.map (·.1) = cadrAt C → Fr (hideAll s₂.heap wr) C h m → News (hideAll s₂.heap wr) C h (cled ++ led) →
      wpAny (model prog w) A (testsOf ifs (cenvAt C)) (fun ok s' => ok = p i ∧ Makes (hideAll s₂.heap wr) C s₂ m (cled ++ led) (fun _ => True) s') (fun _ _ => False) { s₂ with heap := h, toks := tk }) ∧
    (∀ C i v h tk m cled led, i < n → P i v → p i = true → VSat C v m cled → cled.map (·.1) = cadrAt C → Fr (hideAll s₂.heap wr) C h m → News (hideAll s₂.heap wr) C h (cled ++ led) →
      wpAny (model prog w) A (eval elt (cenvAt C)) (fun y s' => Makes (hideAll s₂.heap wr) C s₂ m (cled ++ led) (R i y) s') (fun _ _ => False) { s₂ with heap := h, toks := tk }) ∧
    (∀ D h' tk' (ys : List Value) made e, (∀ b o, b ∉ wr → s₂.heap.get? b = some o → h'.get? b = some o) → s₂.heap.get? D = none → h'.get? D = some (listOf ys.toArray e) → Paired (fun i y => R i y made) ((List.range n).filter p) ys →
      (∀ q ∈ made, h'.get? q.1 = some q.2 ∧ s₂.heap.get? q.1 = none ∧ q.1 ≠ D) → (RefsIn R → ys.Nodup) → Q (.ref D) { s₂ with heap := h', toks := tk' })

end
end Mine
end
section
open PySem PySem.W PySem.Spec PySem.Calls PyProof.Rows
set_option Elab.async false
set_option maxRecDepth 100000
set_option maxHeartbeats 400000
namespace Mine
section
variable {prog : Program} {w : World} {A : Around} {s₂ : Shared} {E : Value → Shared → Prop}
variable {s : Shared} {env : Env} {elt iter : Expr} {x : Str} {px : Pos} {ifs : List Expr} {scope : Scope} {cl : List (Str × Addr)} {pos : Pos} {Q : Value → Shared → Prop}
theorem newEnv_own {s₃ : Shared} {Q' : Env → Shared → Prop} {E' : Value → Shared → Prop} (hkind : scope.kind = .function)
    (h : Q' { scope := scope, locals := s₃.heap.objs.size, globals := env.globals, cells := cellsFrom (s₃.heap.objs.size + 1) scope.names cl, qual := env.qual, func := none, code := env.code, frame := env.frame, builtins := env.builtins }
      { s₃ with heap := pushCells (s₃.heap.push { cls := .type "dict", data := .dict #[] }) scope.names }) :
    wpAny (model prog w) A (newFunctionEnv scope env.globals cl [] env.qual none .none (some env)) Q' E' s₃ := by
  simp only [newFunctionEnv, Option.isSome_some, if_true]
  refine wpAny_bind (wpAny_alloc ?_)
  refine wpAny_bind (wpAny_layCells _ (fun name kind cells => by cases hkc : kind == NameKind.cell <;> simp [hkc]) _ _ _ _ ?_)
  rw [show ({ s₃ with heap := s₃.heap.push { cls := .type "dict", data := .dict #[] } } : Shared).heap.objs.size = s₃.heap.objs.size + 1 from Heap.size_push ..]
  exact wpAny_bind (wpAny_pure (wpAny_pure h))

theorem comp_core {C D : Addr} {cenv : Env} {H : Heap} {m₀ : Str → Option Value} {cled₀ : List (Addr × Obj)} {VS : Value → (Str → Option Value) → List (Addr × Obj) → Prop} {cadr : List Addr}
    {I : Addr} {fp wr : List Addr} {n : Nat} {P : Nat → Value → Prop} {St : Nat → Heap → Prop} {p : Nat → Bool} {R : Nat → Value → List (Addr × Obj) → Prop}
    (W : Walks prog w A I fp wr n P St) (hsz : n ≤ sizeLine) (hst : St 0 s₂.heap) (hfp : ∀ b ∈ fp, b < s₂.heap.objs.size) (hlive : ∀ i h, St i h → ∀ b ∈ fp, ∃ o, h.get? b = some o) (hmono : ∀ i y l l', R i y l → (∀ q ∈ l, q ∈ l') → R i y l')
    (V : VarOf prog w A (hideAll s₂.heap wr) C s₂ cenv x cadr VS) (hC : s₂.heap.objs.size ≤ C) (hD : s₂.heap.objs.size ≤ D) (hDC : D ≠ C) (hcd : ∀ b ∈ cadr, s₂.heap.objs.size ≤ b ∧ b ≠ D)
    (hn : H.Ns C m₀) (hk : ∀ b o, s₂.heap.get? b = some o → H.get? b = some o) (hHD : H.get? D = some (listOf #[] 0)) (hca : cled₀.map (·.1) = cadr) (hcc : ∀ q ∈ cled₀, (∃ v, q.2.data = .cell v) ∧ H.get? q.1 = some q.2 ∧ q.1 ≠ C) {tk₀ : Nat}
    (htests : ∀ i v h tk m cled led, i < n → P i v → VS v m cled → cled.map (·.1) = cadr → Fr (hideAll s₂.heap wr) C h m → News (hideAll s₂.heap wr) C h (cled ++ led) →
      wpAny (model prog w) A (testsOf ifs cenv) (fun ok s' => ok = p i ∧ Makes (hideAll s₂.heap wr) C s₂ m (cled ++ led) (fun _ => True) s') (fun _ _ => False) { s₂ with heap := h, toks := tk })
    (helt : ∀ i v h tk m cled led, i < n → P i v → p i = true → VS v m cled → cled.map (·.1) = cadr → Fr (hideAll s₂.heap wr) C h m → News (hideAll s₂.heap wr) C h (cled ++ led) →
      wpAny (model prog w) A (eval elt cenv) (fun y s' => Makes (hideAll s₂.heap wr) C s₂ m (cled ++ led) (R i y) s') (fun _ _ => False) { s₂ with heap := h, toks := tk })
    (hQ : ∀ h' tk' (ys : List Value) made e, (∀ b o, b ∉ wr → s₂.heap.get? b = some o → h'.get? b = some o) → s₂.heap.get? D = none → h'.get? D = some (listOf ys.toArray e) → Paired (fun i y => R i y made) ((List.range n).filter p) ys →
      (∀ q ∈ made, h'.get? q.1 = some q.2 ∧ s₂.heap.get? q.1 = none ∧ q.1 ≠ D) → (RefsIn R → ys.Nodup) → Q (.ref D) { s₂ with heap := h', toks := tk' }) :
    codeAny (model prog w) A (.compStart (.ListComp elt [⟨.Name x px, iter, ifs, 0⟩] scope pos) 0 (.ref I) (.ref D) cenv) (compPost (model prog w) A E none Q (.ref D) C) { s₂ with heap := H, toks := tk₀ } := by
  have fresh : ∀ a, s₂.heap.objs.size ≤ a → s₂.heap.get? a = none := fun a ha => Heap.get?_none_of_le ha
  have gfresh : ∀ a, s₂.heap.get? a = none → (hideAll s₂.heap wr).get? a = none := fun a ha => by
    cases e : (hideAll s₂.heap wr).get? a with
    | none => rfl
    | some o => have := of_hideAll _ e; rw [ha] at this; cases this
  have F₀ : Fr (hideAll s₂.heap wr) C H m₀ := ⟨hn, fun b o e => hk b o (of_hideAll _ e), by rw [hideAll_size]; exact hC⟩
  have N₀ : News (hideAll s₂.heap wr) C H (cled₀ ++ [(D, listOf #[] 0)]) := fun q hq => by
    rcases List.mem_append.mp hq with hq | hq
    · have := hcc q hq
      exact ⟨this.2.1, this.2.2, gfresh _ (fresh _ (hcd q.1 (hca ▸ List.mem_map_of_mem hq)).1)⟩
    · rw [List.mem_singleton.mp hq]
      exact ⟨hHD, hDC, gfresh _ (fresh _ hD)⟩
  have hst₁ : St 0 H := W.frame _ _ _ hst fun b _ o e => hk b o e
  have loop : codeAny (model prog w) A (.compLoop (.ListComp elt [⟨.Name x px, iter, ifs, 0⟩] scope pos) 0 (.ref I) (.ref D) cenv) (compPost (model prog w) A E none Q (.ref D) C) { s₂ with heap := H, toks := tk₀ } := by
    refine codeAny_compLoop_own W V p R hmono (fun h => absurd (hfp _ h) (Nat.not_lt.mpr hC)) (fun h => absurd (hfp _ h) (Nat.not_lt.mpr hD)) (fun b hb h => absurd (hfp _ h) (Nat.not_lt.mpr (hcd b hb).1)) (fun h => (hcd D h).2 rfl)
      (fun b hb => hideAll_none _ hb) hlive F₀ N₀ hca (fun q hq => (hcc q hq).1) hst₁ htests helt (fun h' tk' m' ys made e F' N' hP hmd hyn => ?_) hsz
    refine ⟨m', F'.ns, fun h'' hs => ?_⟩
    have hDN := N' _ (.head _)
    refine hQ h'' tk' ys made e (fun b o hb eo => ?_) (fresh _ hD) ((hs.2 _ hDN.2.1).trans hDN.1) hP (fun q hq => ?_) hyn
    · have hne : b ≠ C := Nat.ne_of_lt (Nat.lt_of_lt_of_le (Heap.lt_size eo) hC)
      exact (hs.2 b hne).trans (F'.keep b o (hideAll_get _ eo hb))
    · have hq' := N' q (.tail _ hq)
      refine ⟨(hs.2 _ hq'.2.1).trans hq'.1, ?_, (hmd q hq).1⟩
      cases eo : s₂.heap.get? q.1 with
      | none => rfl
      | some o => have := hq'.2.2; rw [hideAll_get _ eo fun hb => (hmd q hq).2 (W.sub _ hb)] at this; cases this
  exact codeAny_compStart_list loop (W.self 0 _ _ _ hst₁ loop)

theorem pushCells_none : ∀ {names : List (Str × NameKind)} (h : Heap), (∀ y ∈ names, y.2 ≠ .cell) → pushCells h names = h
  | [], _, _ => rfl
  | (n, k) :: r, h, hc => by
    unfold pushCells
    have : (k == NameKind.cell) = false := by simpa using hc (n, k) (.head _)
    rw [this]; exact pushCells_none h fun y hy => hc y (.tail _ hy)
theorem cellsFrom_none : ∀ {names : List (Str × NameKind)} (k : Nat) (acc : List (Str × Addr)), (∀ y ∈ names, y.2 ≠ .cell) → cellsFrom k names acc = acc
  | [], _, _, _ => rfl
  | (n, kd) :: r, k, acc, hc => by
    unfold cellsFrom
    have : (kd == NameKind.cell) = false := by simpa using hc (n, kd) (.head _)
    rw [this]; exact cellsFrom_none k acc fun y hy => hc y (.tail _ hy)

/-- a list comprehension over one local name -/
theorem comp_local (hclos : closureFor scope env = pure cl) (hcell : ∀ y ∈ scope.names, y.2 ≠ .cell) (hkind : scope.kind = .function) (hnames : ∀ y ∈ scope.names, y.2 = .local → scope.names.lookup y.1 = some .local) (hx : scope.names.lookup x = some .local)
    (h : wpAny (model prog w) A (eval iter env) (fun xv s₁ => wpAny (model prog w) A (pyIter xv) (fun it s₂ => CompAt prog w A (fun C => compEnvC scope cl C env) x (fun _ v m _ => m x = some v) (fun _ => []) ifs elt Q it s₂) E s₁) E s)
    (hs : ∀ x, foldedSetIterable iter env x = pure x := by intro _; rfl) :
    wpAny (model prog w) A (eval (.ListComp elt [⟨.Name x px, iter, ifs, 0⟩] scope pos) env) Q E s := by
  rw [eval_ListComp]
  refine wpAny_comprehension_free (use := none) rfl hs hclos hkind hnames (wpAny_mono h (fun xv s₁ h₁ => wpAny_mono h₁ (fun it s₂ h₂ => ?_) fun _ _ e => e) fun _ _ e => e)
  obtain ⟨I, fp, wr, n, P, St, p, R, rfl, W, hsz, hst, hfp, hlive, _, hmono, htests, helt, hQ⟩ := h₂
  refine wpAny_newObj_type (newEnv_own hkind ?_)
  rw [pushCells_none _ hcell, cellsFrom_none _ _ hcell]
  have hC : (s₂.heap.push (listOf #[] 0)).objs.size = s₂.heap.objs.size + 1 := Heap.size_push ..
  exact comp_core (cenv := compEnvC scope cl (s₂.heap.push (listOf #[] 0)).objs.size env) (C := (s₂.heap.push (listOf #[] 0)).objs.size) (D := s₂.heap.objs.size) (cled₀ := []) W hsz hst hfp hlive hmono (var_local (lookup_relabel_local hx) rfl (by simp [compEnvC, relabel, hkind])) (by rw [hC]; exact Nat.le_succ _) (Nat.le_refl _) (by rw [hC]; exact Nat.ne_of_lt (Nat.lt_succ_self _)) (fun _ h => nomatch h)
    (Heap.Ns.new _ (.type "dict")) (fun b o e => Heap.get?_push_of_some _ (Heap.get?_push_of_some _ e)) (Heap.get?_push_of_some _ (Heap.get?_push_size _ rfl)) rfl (fun _ h => nomatch h) (htests _) (helt _) (hQ _)

/-- a list comprehension over one name that is a cell -/
theorem comp_cell (hclos : closureFor scope env = pure cl) (hc1 : ∀ k acc, cellsFrom k scope.names acc = (x, k) :: acc) (hc2 : ∀ h, pushCells h scope.names = h.push { cls := .type "cell", data := .cell none }) (hkind : scope.kind = .function)
    (hnames : ∀ y ∈ scope.names, y.2 = .local → scope.names.lookup y.1 = some .local) (hx : (relabel scope env).names.lookup x = some .cell)
    (h : wpAny (model prog w) A (eval iter env) (fun xv s₁ => wpAny (model prog w) A (pyIter xv) (fun it s₂ => CompAt prog w A (fun C => compEnvC scope ((x, C + 1) :: cl) C env) x (fun C v _ cled => ∃ o, cled = [(C + 1, o)] ∧ o.data = .cell (some v)) (fun C => [C + 1]) ifs elt Q it s₂) E s₁) E s)
    (hs : ∀ x, foldedSetIterable iter env x = pure x := by intro _; rfl) :
    wpAny (model prog w) A (eval (.ListComp elt [⟨.Name x px, iter, ifs, 0⟩] scope pos) env) Q E s := by
  rw [eval_ListComp]
  refine wpAny_comprehension_free (use := none) rfl hs hclos hkind hnames (wpAny_mono h (fun xv s₁ h₁ => wpAny_mono h₁ (fun it s₂ h₂ => ?_) fun _ _ e => e) fun _ _ e => e)
  obtain ⟨I, fp, wr, n, P, St, p, R, rfl, W, hsz, hst, hfp, hlive, _, hmono, htests, helt, hQ⟩ := h₂
  refine wpAny_newObj_type (newEnv_own hkind ?_)
  rw [hc1, hc2]
  have hC : (s₂.heap.push (listOf #[] 0)).objs.size = s₂.heap.objs.size + 1 := Heap.size_push ..
  have hC2 : ((s₂.heap.push (listOf #[] 0)).push { cls := .type "dict", data := .dict #[] }).objs.size = s₂.heap.objs.size + 1 + 1 := by rw [Heap.size_push, hC]
  have e1 : (s₂.heap.push (listOf #[] 0)).objs.size + 1 = ((s₂.heap.push (listOf #[] 0)).push { cls := .type "dict", data := .dict #[] }).objs.size := (Heap.size_push ..).symm
  exact comp_core (cenv := compEnvC scope ((x, (s₂.heap.push (listOf #[] 0)).objs.size + 1) :: cl) (s₂.heap.push (listOf #[] 0)).objs.size env) (C := (s₂.heap.push (listOf #[] 0)).objs.size) (D := s₂.heap.objs.size) (cled₀ := [((s₂.heap.push (listOf #[] 0)).objs.size + 1, { cls := .type "cell", data := .cell none })]) (cadr := [(s₂.heap.push (listOf #[] 0)).objs.size + 1])
    W hsz hst hfp hlive hmono (var_cell (by simp [compEnvC, relabel, hkind]) hx (by simp [compEnvC, List.lookup_cons])) (by rw [hC]; exact Nat.le_succ _) (Nat.le_refl _) (by rw [hC]; exact Nat.ne_of_lt (Nat.lt_succ_self _))
    (fun b hb => by rw [List.mem_singleton.mp hb, hC]; exact ⟨Nat.le_trans (Nat.le_succ _) (Nat.le_succ _), Nat.ne_of_gt (Nat.lt_succ_of_lt (Nat.lt_succ_self _))⟩)
    ((Heap.Ns.new _ (.type "dict")).push _) (fun b o e => Heap.get?_push_of_some _ (Heap.get?_push_of_some _ (Heap.get?_push_of_some _ e))) (Heap.get?_push_of_some _ (Heap.get?_push_of_some _ (Heap.get?_push_size _ rfl))) rfl
    (fun q hq => by
      rw [List.mem_singleton.mp hq]
      exact ⟨⟨_, rfl⟩, by rw [e1]; exact Heap.get?_push_size _ rfl, Nat.ne_of_gt (Nat.lt_succ_self _)⟩) (htests _) (helt _) (hQ _)
end
end Mine
end
section
open PySem PySem.W PySem.Spec PySem.Calls PyProof.Rows
set_option Elab.async false
set_option maxRecDepth 100000
set_option maxHeartbeats 400000
namespace Mine
section
variable {prog : Program} {w : World} {A : Around} {E : Value → Shared → Prop} {s : Shared}

/-- what a comprehension wants, the iterator out of sight -/
noncomputable def CompDo (prog : Program) (w : World) (A : Around) (cenvAt : Addr → Env) (VSat : Addr → Value → (Str → Option Value) → List (Addr × Obj) → Prop) (cadrAt : Addr → List Addr) (ifs : List Expr) (elt : Expr) (Q : Value → Shared → Prop) (s : Shared) (n : Nat) (P : Nat → Value → Prop) : Prop :=
  ∃ (p : Nat → Bool) (R : Nat → Value → List (Addr × Obj) → Prop), (∀ i y l l', R i y l → (∀ q ∈ l, q ∈ l') → R i y l') ∧
    (∀ g C i v h tk m cled led, (∀ b o, s.heap.get? b = some o → g.get? b = some o) → (∀ b, s.heap.get? b = none → g.get? b = none) → i < n → P i v → VSat C v m cled → cled.map (·.1) = cadrAt C → Fr g C h m → News g C h (cled ++ led) →
      wpAny (model prog w) A (testsOf ifs (cenvAt C)) (fun ok s' => ok = p i ∧ Makes g C s m (cled ++ led) (fun _ => True) s') (fun _ _ => False) { s with heap := h, toks := tk }) ∧
    (∀ g C i v h tk m cled led, (∀ b o, s.heap.get? b = some o → g.get? b = some o) → (∀ b, s.heap.get? b = none → g.get? b = none) → i < n → P i v → p i = true → VSat C v m cled → cled.map (·.1) = cadrAt C → Fr g C h m → News g C h (cled ++ led) →
      wpAny (model prog w) A (eval elt (cenvAt C)) (fun y s' => Makes g C s m (cled ++ led) (R i y) s') (fun _ _ => False) { s with heap := h, toks := tk }) ∧
    (∀ D h' tk' (ys : List Value) made e, (∀ b o, s.heap.get? b = some o → h'.get? b = some o) → s.heap.get? D = none → h'.get? D = some (listOf ys.toArray e) → Paired (fun i y => R i y made) ((List.range n).filter p) ys →
      (∀ q ∈ made, h'.get? q.1 = some q.2 ∧ s.heap.get? q.1 = none ∧ q.1 ≠ D) → (RefsIn R → ys.Nodup) → Q (.ref D) { s with heap := h', toks := tk' })

variable {cenvAt : Addr → Env} {x : Str} {VSat : Addr → Value → (Str → Option Value) → List (Addr × Obj) → Prop} {cadrAt : Addr → List Addr} {ifs : List Expr} {elt : Expr} {Q : Value → Shared → Prop}

/-- a source that makes one iterator -/
theorem comp_src {fp : List Addr} {n : Nat} {P : Nat → Value → Prop} {St : Nat → Heap → Prop} {it : Obj} (W : Walks prog w A s.heap.objs.size fp [s.heap.objs.size] n P St) (hsz : n ≤ sizeLine) (hst : St 0 (s.heap.push it)) (hfp : ∀ b ∈ fp, b ≤ s.heap.objs.size)
    (hlive : ∀ i h, St i h → ∀ b ∈ fp, ∃ o, h.get? b = some o) (hfr : it.isFreed = false) (hnd : ∀ es ep, it.data ≠ .dict es ep) (h : CompDo prog w A cenvAt VSat cadrAt ifs elt Q s n P) :
    CompAt prog w A cenvAt x VSat cadrAt ifs elt Q (.ref s.heap.objs.size) { s with heap := s.heap.push it } := by
  obtain ⟨p, R, hmono, htests, helt, hQ⟩ := h
  have g1 : ∀ b o, s.heap.get? b = some o → (hideAll (s.heap.push it) [s.heap.objs.size]).get? b = some o := fun b o e =>
    hideAll_get _ (Heap.get?_push_of_some _ e) fun q => absurd (Heap.lt_size e) (by rw [List.mem_singleton.mp q]; exact Nat.lt_irrefl _)
  have g2 : ∀ b, s.heap.get? b = none → (hideAll (s.heap.push it) [s.heap.objs.size]).get? b = none := fun b e => by
    cases e' : (hideAll (s.heap.push it) [s.heap.objs.size]).get? b with
    | none => rfl
    | some o =>
      have h1 := of_hideAll _ e'
      rcases Heap.get?_push_cases h1 with ⟨hb, _⟩ | h1
      · rw [hb, hideAll_none _ (List.mem_singleton.mpr rfl)] at e'; cases e'
      · rw [e] at h1; cases h1
  refine ⟨s.heap.objs.size, fp, [s.heap.objs.size], n, P, St, p, R, rfl, W, hsz, hst, fun b hb => ?_, hlive, fun b hb => ⟨it, by rw [List.mem_singleton.mp hb]; exact Heap.get?_push_size _ hfr, hnd⟩, hmono, ?_, ?_, ?_⟩
  · show b < (s.heap.push it).objs.size
    rw [Heap.size_push]; exact Nat.lt_succ_of_le (hfp b hb)
  · exact fun C i v h tk m cled led => htests _ C i v h tk m cled led g1 g2
  · exact fun C i v h tk m cled led => helt _ C i v h tk m cled led g1 g2
  · intro D h' tk' ys made e hk hD hD' hP hm hyn
    have n1 : ∀ b, (s.heap.push it).get? b = none → s.heap.get? b = none := fun b e => by
      cases e' : s.heap.get? b with
      | none => rfl
      | some o => rw [Heap.get?_push_of_some _ e'] at e; cases e
    exact hQ D h' tk' ys made e (fun b o eb => hk b o (fun q => absurd (Heap.lt_size eb) (by rw [List.mem_singleton.mp q]; exact Nat.lt_irrefl _)) (Heap.get?_push_of_some _ eb)) (n1 _ hD) hD' hP (fun q hq => ⟨(hm q hq).1, n1 _ (hm q hq).2.1, (hm q hq).2.2⟩) hyn

theorem src_range {r : Addr} {a₀ b₀ c₀ : Int} {t₀ u₀ v₀ : Tok} {n : Nat} (hh : A.handled = none) (hr : IsRange s.heap r a₀ b₀ c₀ t₀ u₀ v₀) (hsmall : Builtin.Range.small a₀ b₀ c₀ = true) (hn : Builtin.Range.rangeSize a₀ b₀ c₀ = (n : Int)) (hsz : n ≤ sizeLine)
    (h : CompDo prog w A cenvAt VSat cadrAt ifs elt Q s n (fun i v => ∃ t, v = .int (a₀ + i * c₀) t)) :
    wpAny (model prog w) A (pyIter (.ref r)) (fun it s₂ => CompAt prog w A cenvAt x VSat cadrAt ifs elt Q it s₂) E s := by
  refine wpAny_pyIter_range hr hsmall ?_
  refine comp_src (Walks.range hh s.heap.objs.size a₀ c₀ n) hsz (by show IsRangeIter _ _ _ _ _; rw [hn]; simpa using Heap.get?_push_size _ rfl) (fun b hb => Nat.le_of_eq (List.mem_singleton.mp hb)) (fun i h st b hb => ?_) rfl (fun _ _ h => by cases h) h
  rw [List.mem_singleton.mp hb]; exact ⟨_, st⟩

theorem src_list {l : Addr} {items : Array Value} (hh : A.handled = none) (hl : s.heap.IsList l items) (hsz : items.size ≤ sizeLine) (h : CompDo prog w A cenvAt VSat cadrAt ifs elt Q s items.size (fun i v => items[i]? = some v)) :
    wpAny (model prog w) A (pyIter (.ref l)) (fun it s₂ => CompAt prog w A cenvAt x VSat cadrAt ifs elt Q it s₂) E s := by
  refine wpAny_pyIter_list hl ?_
  have hne : l ≠ s.heap.objs.size := by
    obtain ⟨o, ho, _⟩ := hl
    exact Nat.ne_of_lt (Heap.lt_size ho)
  refine comp_src (Walks.list hh s.heap.objs.size l hne items) hsz ⟨?_, ?_⟩ (fun b hb => ?_) (fun i h st b hb => ?_) rfl (fun _ _ h => by cases h) h
  · exact ⟨_, Heap.get?_push_size _ rfl, rfl, rfl⟩
  · obtain ⟨o, ho, r⟩ := hl
    exact ⟨o, Heap.get?_push_of_some _ ho, r⟩
  · simp only [List.mem_cons, List.not_mem_nil, or_false] at hb
    rcases hb with rfl | rfl
    · exact Nat.le_refl _
    · obtain ⟨o, ho, _⟩ := hl
      exact Nat.le_of_lt (Heap.lt_size ho)
  · simp only [List.mem_cons, List.not_mem_nil, or_false] at hb
    rcases hb with rfl | rfl
    · obtain ⟨o, ho, _⟩ := st.1; exact ⟨o, ho⟩
    · obtain ⟨o, ho, _⟩ := st.2; exact ⟨o, ho⟩
theorem src_list_n {l : Addr} {items : Array Value} {n : Nat} (hn : items.size = n) (hh : A.handled = none) (hl : s.heap.IsList l items) (hsz : n ≤ sizeLine) (h : CompDo prog w A cenvAt VSat cadrAt ifs elt Q s n (fun i v => items[i]? = some v)) :
    wpAny (model prog w) A (pyIter (.ref l)) (fun it s₂ => CompAt prog w A cenvAt x VSat cadrAt ifs elt Q it s₂) E s := by
  subst hn; exact src_list hh hl hsz h
theorem map_chain {m : Str → Option Value} {x : Str} {v : Value} (hv : m x = some v) : m = fun y => if y = x then some v else m y := funext fun y => by
  by_cases h : y = x
  · rw [if_pos h, h, hv]
  · rw [if_neg h]
theorem var_map {m : Str → Option Value} {x : Str} {v : Value} (hv : m x = some v) : ∃ m' : Str → Option Value, m = fun y => if y = x then some v else m' y :=
  ⟨m, funext fun y => by
    by_cases h : y = x
    · rw [if_pos h, h, hv]
    · rw [if_neg h]⟩
theorem src_bytes {b : Array UInt8} {tb : Tok} (hh : A.handled = none) (hsz : b.size ≤ sizeLine) (h : CompDo prog w A cenvAt VSat cadrAt ifs elt Q s b.size (fun i v => ∃ c u, b[i]? = some c ∧ v = .int (c.toNat : Int) u)) :
    wpAny (model prog w) A (pyIter (.bytes b tb)) (fun it s₂ => CompAt prog w A cenvAt x VSat cadrAt ifs elt Q it s₂) E s := by
  refine KBw.pyIter_bytes ?_
  refine comp_src (KBw.walks hh s.heap.objs.size b tb) hsz ⟨_, Heap.get?_push_size _ rfl, rfl, rfl⟩ (fun b hb => Nat.le_of_eq (List.mem_singleton.mp hb)) (fun i h st b hb => ?_) rfl (fun _ _ h => by cases h) h
  rw [List.mem_singleton.mp hb]
  obtain ⟨o, ho, _⟩ := st; exact ⟨o, ho⟩
/-- behind a comprehension: the things made -/
theorem back_made {h₀ h h' : Heap} {L : Addr} {m : Str → Option Value} {made news : List (Addr × Obj)} (F : Fr h₀ L h m) (N : News h₀ L h' news) (hm : ∀ q ∈ made, h'.get? q.1 = some q.2 ∧ h.get? q.1 = none) : News h₀ L h' (made ++ news) := fun q hq => by
  rcases List.mem_append.mp hq with hq | hq
  · exact back_new (o := q.2) F (fun q h => nomatch h : News h₀ L h' []) (hm q hq).2 (hm q hq).1 q (.head _)
  · exact N q hq
end
end Mine
end
section
open PySem PySem.W PySem.Spec PySem.Calls PyProof.Rows PySem.SeqAt
set_option Elab.async false
set_option maxRecDepth 100000
set_option maxHeartbeats 400000
namespace Mine
theorem Paired.at_ {α β : Type} {F : α → β → Prop} : ∀ {l₁ : List α} {l₂ : List β}, Paired F l₁ l₂ → ∀ (i : Nat) (a : α), l₁[i]? = some a → ∃ b, l₂[i]? = some b ∧ F a b
  | _, _, .cons h r, 0, a, e => ⟨_, rfl, by cases e; exact h⟩
  | _, _, .cons _ r, i + 1, a, e => Paired.at_ r i a (by simpa using e)
theorem Paired.at_r {α β : Type} {F : α → β → Prop} : ∀ {l₁ : List α} {l₂ : List β}, Paired F l₁ l₂ → ∀ (i : Nat) (b : β), l₂[i]? = some b → ∃ a, l₁[i]? = some a ∧ F a b
  | _, _, .cons h r, 0, a, e => ⟨_, rfl, by cases e; exact h⟩
  | _, _, .cons _ r, i + 1, a, e => Paired.at_r r i a (by simpa using e)
theorem Paired.drop_ {α β : Type} {F : α → β → Prop} : ∀ {l₁ : List α} {l₂ : List β}, Paired F l₁ l₂ → ∀ k, Paired F (l₁.drop k) (l₂.drop k)
  | _, _, h, 0 => h
  | _, _, .nil, _ + 1 => .nil
  | _, _, .cons _ r, k + 1 => Paired.drop_ r k
theorem Paired.take_ {α β : Type} {F : α → β → Prop} : ∀ {l₁ : List α} {l₂ : List β}, Paired F l₁ l₂ → ∀ k, Paired F (l₁.take k) (l₂.take k)
  | _, _, _, 0 => .nil
  | _, _, .nil, _ + 1 => .nil
  | _, _, .cons h r, k + 1 => .cons h (Paired.take_ r k)
theorem Paired.map_l {α β γ : Type} {F : α → β → Prop} {G : γ → β → Prop} (f : α → γ) (hm : ∀ a b, F a b → G (f a) b) : ∀ {l₁ : List α} {l₂ : List β}, Paired F l₁ l₂ → Paired G (l₁.map f) l₂
  | _, _, .nil => .nil
  | _, _, .cons h r => .cons (hm _ _ h) (Paired.map_l f hm r)
theorem Paired.mono_mem {α β : Type} {F G : α → β → Prop} : ∀ {l₁ : List α} {l₂ : List β}, Paired F l₁ l₂ → (∀ a b, a ∈ l₁ → F a b → G a b) → Paired G l₁ l₂
  | _, _, .nil, _ => .nil
  | _, _, .cons h r, hm => .cons (hm _ _ (.head _) h) (Paired.mono_mem r fun a b ha => hm a b (.tail _ ha))

/-- a list of ints at r -/
noncomputable def IntL (h : Heap) (r : Addr) (ks : List Int) : Prop := ∃ vs cnt, h.get? r = some (listOf vs.toArray cnt) ∧ IntsAre vs ks
/-- rows: refs to lists of ints -/
noncomputable def RowsV (h : Heap) (ys : List Value) (Ms : List (List Int)) : Prop := Paired (fun ks y => ∃ r, y = .ref r ∧ IntL h r ks) Ms ys
/-- a list of lists of ints at a -/
noncomputable def IsTab (h : Heap) (a : Addr) (Ms : List (List Int)) : Prop := ∃ ys cnt, h.get? a = some (listOf ys.toArray cnt) ∧ RowsV h ys Ms
noncomputable abbrev rowL (n : Nat) (f : Nat → Int) : List Int := (List.range n).map f
noncomputable abbrev matL (n : Nat) (N : Nat → Nat → Int) : List (List Int) := (List.range n).map fun j => rowL n (N j)

theorem IntL.keeps {h h' : Heap} {r : Addr} {ks : List Int} (x : IntL h r ks) (hk : ∀ b o, h.get? b = some o → h'.get? b = some o) : IntL h' r ks :=
  let ⟨vs, c, e, i⟩ := x; ⟨vs, c, hk _ _ e, i⟩
theorem RowsV.keeps {h h' : Heap} {ys : List Value} {Ms : List (List Int)} (x : RowsV h ys Ms) (hk : ∀ b o, h.get? b = some o → h'.get? b = some o) : RowsV h' ys Ms :=
  PySem.Paired.mono (fun _ _ ⟨r, e, i⟩ => ⟨r, e, i.keeps hk⟩) x
theorem IsTab.keeps {h h' : Heap} {a : Addr} {Ms : List (List Int)} (x : IsTab h a Ms) (hk : ∀ b o, h.get? b = some o → h'.get? b = some o) : IsTab h' a Ms :=
  let ⟨ys, c, e, i⟩ := x; ⟨ys, c, hk _ _ e, i.keeps hk⟩
theorem IntL.isList {h : Heap} {r : Addr} {ks : List Int} (x : IntL h r ks) : ∃ vs : List Value, h.IsList r vs.toArray ∧ IntsAre vs ks :=
  let ⟨vs, c, e, i⟩ := x; ⟨vs, ⟨_, e, rfl, c, rfl⟩, i⟩
theorem IsTab.isList {h : Heap} {r : Addr} {Ms : List (List Int)} (x : IsTab h r Ms) : ∃ ys : List Value, h.IsList r ys.toArray ∧ RowsV h ys Ms :=
  let ⟨vs, c, e, i⟩ := x; ⟨vs, ⟨_, e, rfl, c, rfl⟩, i⟩

theorem RowsV.at_ {h : Heap} {ys : List Value} {Ms : List (List Int)} (x : RowsV h ys Ms) {j : Nat} {v : Value} (e : ys.toArray[j]? = some v) : ∃ ks r, Ms[j]? = some ks ∧ v = .ref r ∧ IntL h r ks := by
  rw [List.getElem?_toArray] at e
  obtain ⟨ks, h1, r, h2, h3⟩ := Paired.at_r x j v e
  exact ⟨ks, r, h1, h2, h3⟩
theorem reads_rows {h : Heap} : ∀ {ys : List Value} {Ms : List (List Int)}, RowsV h ys Ms → ∃ as, ReadsAll h ys (Ms.map fun ks => .list (ks.map PyData.int)) as
  | _, _, .nil => ⟨_, .nil⟩
  | _, _, .cons ⟨r, e, i⟩ t => by
    obtain ⟨as, ha⟩ := reads_rows t
    obtain ⟨vs, hl, hi⟩ := i.isList
    subst e
    exact ⟨_, .cons (reads_of_ints hl hi) ha⟩
theorem reads_tab {h : Heap} {a : Addr} {Ms : List (List Int)} (T : IsTab h a Ms) : ∃ as, Reads h (.ref a) (.list (Ms.map fun ks => .list (ks.map PyData.int))) as := by
  obtain ⟨ys, ⟨o, ho, hc, n, hd⟩, i⟩ := T.isList
  obtain ⟨as, ha⟩ := reads_rows i
  exact ⟨_, Reads.list ho hc hd (by simpa using ha)⟩
theorem canLayAll0_rows : ∀ Ms : List (List Int), PyData.canLayAll0 (Ms.map fun ks => .list (ks.map PyData.int)) = true
  | [] => by simp [PyData.canLayAll0]
  | n :: r => by simp [PyData.canLayAll0, PyData.canLay0, canLayAll0_ints, canLayAll0_rows r]
theorem depthAll_rows : ∀ Ms : List (List Int), PyData.depthAll (Ms.map fun ks => .list (ks.map PyData.int)) ≤ 2
  | [] => by simp [PyData.depthAll]
  | n :: r => by
    have := depthAll_rows r
    have h2 := PySem.W.depthAll_ints n
    simp only [List.map_cons, PyData.depthAll, PyData.depth]
    omega
theorem shaped_rows (Ms : List (List Int)) : shaped (.list (Ms.map fun ks => .list (ks.map PyData.int))) = true := by
  have h1 := depthAll_rows Ms
  have h2 : PyData.depth (.list (Ms.map fun ks => .list (ks.map PyData.int))) ≤ 64 := by simp only [PyData.depth]; omega
  show (PyData.canLay0 _ && decide (PyData.depth _ ≤ 64)) = true
  rw [Bool.and_eq_true]
  exact ⟨by simp only [PyData.canLay0]; exact canLayAll0_rows Ms, decide_eq_true h2⟩

theorem allLt_mem {D : Addr} : ∀ {l : List (Addr × Obj)}, AllLt D l → ∀ p ∈ l, p.1 < D := by
  intro l
  induction l with
  | nil => intro _ _ h; cases h
  | cons x r ih =>
    intro h p hp
    rcases List.mem_cons.mp hp with rfl | hp
    · exact h.1
    · exact ih h.2 p hp
theorem ints_paired {f : Nat → Int} : ∀ {l : List Nat} {ys : List Value}, Paired (fun i y => ∃ t, y = .int (f i) t) l ys → IntsAre ys (l.map f) := by
  intro l ys h
  induction h with
  | nil => exact .nil
  | cons h _ ih => obtain ⟨t, rfl⟩ := h; exact .cons _ _ ih
theorem cut_row (n i : Nat) (hi : i < n + 1) (f : Nat → Int) : (rowL (n + 1) f).take i ++ (rowL (n + 1) f).drop (i + 1) = rowL n fun b => f (if b < i then b else b + 1) := by
  apply List.ext_getElem
  · simp; omega
  · intro b h1 h2
    rw [List.getElem_append]
    by_cases hb : b < i
    · rw [dif_pos (by simp; omega)]; simp [hb]
    · rw [dif_neg (by simp; omega)]
      have e : i + 1 + (b - min i (n + 1)) = b + 1 := by omega
      simp [hb, e]
theorem tail_row {n : Nat} {M : Nat → Nat → Int} {j : Nat} {ks : List Int} (h : (List.drop 1 (matL (n + 1) M))[j]? = some ks) : ks = rowL (n + 1) (M (j + 1)) := by
  rw [List.getElem?_drop, List.getElem?_map] at h
  cases e : (List.range (n + 1))[1 + j]? with
  | none => rw [e] at h; cases h
  | some a =>
    rw [e] at h
    have ha : a = 1 + j := by
      have := List.getElem?_eq_some_iff.mp e
      obtain ⟨h1, h2⟩ := this
      simpa using h2.symm
    subst ha
    rw [Nat.add_comm j 1]
    exact (Option.some.inj h).symm
theorem mat_get (n : Nat) (M : Nat → Nat → Int) (a b : Nat) (ha : a < n) (hb : b < n) : ((matL n M).getD a []).getD b 0 = M a b := by
  simp [List.getD_eq_getElem?_getD, ha, hb]
theorem range_all (n : Nat) : (List.range n).filter (fun _ => true) = List.range n := by simp
theorem small_nat {a b : Int} (ha : 0 ≤ a) (ha2 : a ≤ 1000) (hb : 0 ≤ b) (hb2 : b ≤ 1000) : Builtin.Range.small a b 1 = true := by
  have h := rangeSize_nat a b
  simp only [Builtin.Range.small, h, Builtin.Range.rangeFitsLong, Bool.and_eq_true, decide_eq_true_eq]
  refine ⟨by omega, ?_⟩
  rw [Bool.or_eq_true]
  right
  rw [if_pos (by decide)]
  simp only [Bool.and_eq_true, decide_eq_true_eq]
  omega
section
variable {prog : Program} {w : World} {A : Around} {s : Shared} {E : Bool → Value → Shared → Prop} {g h : Heap} {C : Addr} {m : Str → Option Value} {led : List (Addr × Obj)} {tk : Nat} {cenv : Env}
theorem tests_nil {E : Value → Shared → Prop} (F : Fr g C h m) (N : News g C h led) : wpAny (model prog w) A (testsOf [] cenv) (fun ok s' => ok = true ∧ Makes g C s m led (fun _ => True) s') E { s with heap := h, toks := tk } := by
  show wpAny _ _ (pure true) _ _ _
  exact wpAny_pure ⟨rfl, h, tk, [], rfl, F, N, (fun _ h => nomatch h), trivial⟩
theorem base_free {M : Model} {E : Value → Shared → Prop} {h₀ : Heap} {L C c : Addr} {scope : Scope} {cl : List (Str × Addr)} {env : Env} {x : Str} {pos : Pos} {v : Value} {o : Obj} {Q : Value → Shared → Prop} (F : Fr h₀ L s.heap m) (hc : cl.lookup x = some c) (hm : h₀.get? c = some o) (hd : o.data = .cell (some v)) (h : Q v s)
    (hk : (compEnvC scope cl C env).scope.kind = .function) (hx : (compEnvC scope cl C env).kindOf x = some .free) (hb : (x == ("__debug__" : Str)) = false := by decide) (hn : (x == ("__classdict__" : Str)) = false := by decide) :
    wpAny M A (eval (.Name x pos) (compEnvC scope cl C env)) Q E s := wpAny_Name (wpAny_loadName_free hk hx hc ⟨o, F.keep _ _ hm, hd⟩ h hn) hb
theorem comp_name {M : Model} {E : Value → Shared → Prop} {h₀ : Heap} {C : Addr} {scope : Scope} {cl : List (Str × Addr)} {env : Env} {x : Str} {pos : Pos} {v : Value} {Q : Value → Shared → Prop} (F : Fr h₀ C s.heap m) (hv : m x = some v) (h : Q v s)
    (hk : (compEnvC scope cl C env).scope.kind = .function) (hx : (compEnvC scope cl C env).kindOf x = some .local) (hb : (x == ("__debug__" : Str)) = false := by decide) :
    wpAny M A (eval (.Name x pos) (compEnvC scope cl C env)) Q E s := wpAny_Name (wpAny_loadName_local hk hx F.ns hv h) hb
theorem base_cell {M : Model} {E : Value → Shared → Prop} {h₀ : Heap} {L C c : Addr} {scope : Scope} {cl : List (Str × Addr)} {env : Env} {x : Str} {pos : Pos} {v : Value} {o : Obj} {Q : Value → Shared → Prop} (F : Fr h₀ L s.heap m) (hc : cl.lookup x = some c) (hm : h₀.get? c = some o) (hd : o.data = .cell (some v)) (h : Q v s)
    (hk : (compEnvC scope cl C env).scope.kind = .function) (hx : (compEnvC scope cl C env).kindOf x = some .cell) (hb : (x == ("__debug__" : Str)) = false := by decide) :
    wpAny M A (eval (.Name x pos) (compEnvC scope cl C env)) Q E s := wpAny_Name (wpAny_loadName_cell hk hx hc ⟨o, F.keep _ _ hm, hd⟩ h) hb
end
section
variable {prog : Program} {w : World} {A : Around} {E : Value → Shared → Prop} {s : Shared} {h₀ : Heap} {L a : Addr} {m : Str → Option Value} {news : List (Addr × Obj)} {Ms : List (List Int)} {ks : List Int} {k : Int} {u : Tok} {Q : Value → Shared → Prop} {value slice : Expr}
theorem tab_row (F : Fr h₀ L s.heap m) (T : IsTab h₀ a Ms) (h0 : 0 ≤ k) (h1 : k < Ms.length) (hl : Ms.length ≤ 1000) (h : ∀ r, IntL h₀ r (Ms.getD k.toNat []) → Q (.ref r) s)
    (hs : subscripted slice false (.ref a) (.int k u) = operate [.ref a, .int k u] (getItem (.ref a) (.int k u)) := by with_unfolding_all rfl) :
    wpAny (model prog w) A (subscriptTail value slice (.ref a) (.int k u)) Q E s := by
  obtain ⟨ys, il, R⟩ := T.isList
  have hlt : k.toNat < Ms.length := by omega
  obtain ⟨y, hy, r, rfl, hr⟩ := Paired.at_ R k.toNat (Ms.getD k.toNat []) (by rw [List.getD_eq_getElem?_getD, List.getElem?_eq_getElem hlt]; rfl)
  have il' : s.heap.IsList a ys.toArray := Fr.lst F il
  exact tail_any il'.typeIs slot_list_getitem.lookup (wpAny_getItem_list il' h0 (by omega) (x := .ref r) (by simpa using hy) (h r hr)) hs
theorem tab_cell (F : Fr h₀ L s.heap m) (T : IntL h₀ a ks) (h0 : 0 ≤ k) (h1 : k < ks.length) (hl : ks.length ≤ 1000) (h : ∀ t, Q (.int (ks.getD k.toNat 0) t) s)
    (hs : subscripted slice false (.ref a) (.int k u) = operate [.ref a, .int k u] (getItem (.ref a) (.int k u)) := by with_unfolding_all rfl) :
    wpAny (model prog w) A (subscriptTail value slice (.ref a) (.int k u)) Q E s := by
  obtain ⟨vs, il, hi⟩ := T.isList
  exact item_anyK (Fr.lst F il) hi h0 h1 (by omega) h hs
theorem tab_len (F : Fr h₀ L s.heap m) (T : IsTab h₀ a Ms) (hl : Ms.length ≤ 1000) (h : ∀ t tk, Q (.int Ms.length t) { s with toks := tk }) : wpAny (model prog w) A (call (.builtin "len") [.ref a]) Q E s := by
  obtain ⟨ys, il, R⟩ := T.isList
  have e : (ys.toArray.size : Int) = Ms.length := by rw [List.size_toArray, PySem.Paired.length R]
  refine len_list (Fr.lst F il) ?_ ?_
  · rw [e]; omega
  · rw [e]; exact h _ _
/-- the rows from the second on -/
theorem tab_tail (F : Fr h₀ L s.heap m) (N : News h₀ L s.heap news) (T : IsTab h₀ a Ms) (hl : Ms.length ≤ 1000) {u : Tok}
    (h : ∀ D h' zs, Fr h₀ L h' m → News h₀ L h' ((D, listOf zs.toArray 0) :: news) → (∀ p ∈ news, p.1 < D) → RowsV h₀ zs (Ms.drop 1) → Q (.ref D) { s with heap := h' })
    (hs : subscripted slice false (.ref a) (.ref s.heap.objs.size) = operate [.ref s.heap.objs.size, .ref a] (getItem (.ref a) (.ref s.heap.objs.size))) (ht : ∀ r, letTemporaryGo value (.ref a) r = pure ()) :
    wpAny (model prog w) A (subscriptTail value slice (.ref a) (.ref s.heap.objs.size)) Q E { s with heap := s.heap.push { cls := .type "slice", data := .fields #[.int 1 u, .none, .none] } } := by
  obtain ⟨ys, il, R⟩ := T.isList
  have hlen := PySem.Paired.length R
  refine kms_slice_lit (vl := .int 1 u) (vu := .none) (lo := some 1) (hi := none) (zs := ys.drop 1) F N (Fr.lst F il) (IsPart.int _ _) IsPart.none ?_ (fun D h' F' N' l => h D h' _ F' N' l (Paired.drop_ R 1)) hs ht ?_
  · show (ys.toArray.toList.drop _).take _ = _
    simp only [kms_lo, kms_hi]
    cases ys with
    | nil => rfl
    | cons y r => simp
  · have : ys.toArray.size = ys.length := by simp
    rw [this, ← hlen]; exact Nat.le_trans hl (by decide)
theorem row_from (F : Fr h₀ L s.heap m) (N : News h₀ L s.heap news) {vs : List Value} (hl : h₀.IsList a vs.toArray) (hi : IntsAre vs ks) {x : Int} {u : Tok} (h0 : 0 ≤ x) (hs : ks.length ≤ 1000)
    (h : ∀ D h' zs, Fr h₀ L h' m → News h₀ L h' ((D, listOf zs.toArray 0) :: news) → (∀ p ∈ news, p.1 < D) → IntsAre zs (ks.drop x.toNat) → Q (.ref D) { s with heap := h' })
    (he : subscripted slice false (.ref a) (.ref s.heap.objs.size) = operate [.ref s.heap.objs.size, .ref a] (getItem (.ref a) (.ref s.heap.objs.size))) (ht : ∀ r, letTemporaryGo value (.ref a) r = pure ()) :
    wpAny (model prog w) A (subscriptTail value slice (.ref a) (.ref s.heap.objs.size)) Q E { s with heap := s.heap.push { cls := .type "slice", data := .fields #[.int x u, .none, .none] } } := by
  have hlen := hi.length
  refine kms_slice_lit (vl := .int x u) (vu := .none) (lo := some x) (hi := none) (zs := vs.drop x.toNat) F N (Fr.lst F hl) (IsPart.int _ _) IsPart.none ?_ (fun D h' F' N' l => h D h' _ F' N' l (hi.drop _)) he ht ?_
  · show (vs.drop (kms_lo _ vs.length)).take (kms_hi _ vs.length - kms_lo _ vs.length) = _
    simp only [kms_lo, kms_hi, if_neg (Int.not_lt.mpr h0)]
    by_cases hx : x.toNat ≤ vs.length
    · rw [Nat.min_eq_left hx]; exact List.take_of_length_le (Nat.le_of_eq List.length_drop)
    · rw [Nat.min_eq_right (Nat.le_of_not_le hx), List.drop_of_length_le (Nat.le_of_not_le hx), List.drop_length]
      exact List.take_nil
  · have : vs.toArray.size = vs.length := by simp
    rw [this, hlen]; exact Nat.le_trans hs (by decide)
theorem row_upto (F : Fr h₀ L s.heap m) (N : News h₀ L s.heap news) {vs : List Value} (hl : h₀.IsList a vs.toArray) (hi : IntsAre vs ks) {x : Int} {u : Tok} (h0 : 0 ≤ x) (hs : ks.length ≤ 1000)
    (h : ∀ D h' zs, Fr h₀ L h' m → News h₀ L h' ((D, listOf zs.toArray 0) :: news) → (∀ p ∈ news, p.1 < D) → IntsAre zs (ks.take x.toNat) → Q (.ref D) { s with heap := h' })
    (he : subscripted slice false (.ref a) (.ref s.heap.objs.size) = operate [.ref s.heap.objs.size, .ref a] (getItem (.ref a) (.ref s.heap.objs.size))) (ht : ∀ r, letTemporaryGo value (.ref a) r = pure ()) :
    wpAny (model prog w) A (subscriptTail value slice (.ref a) (.ref s.heap.objs.size)) Q E { s with heap := s.heap.push { cls := .type "slice", data := .fields #[.none, .int x u, .none] } } := by
  have hlen := hi.length
  refine kms_slice_lit (vl := .none) (vu := .int x u) (lo := none) (hi := some x) (zs := vs.take x.toNat) F N (Fr.lst F hl) IsPart.none (IsPart.int _ _) ?_ (fun D h' F' N' l => h D h' _ F' N' l (hi.take _)) he ht ?_
  · show (vs.drop (kms_lo _ vs.length)).take (kms_hi _ vs.length - kms_lo _ vs.length) = _
    simp only [kms_lo, kms_hi, if_neg (Int.not_lt.mpr h0)]
    by_cases hx : x.toNat ≤ vs.length
    · rw [Nat.min_eq_left hx]; simp
    · rw [Nat.min_eq_right (Nat.le_of_not_le hx)]
      simp [List.take_of_length_le (Nat.le_of_not_le hx)]
  · have : vs.toArray.size = vs.length := by simp
    rw [this, hlen]; exact Nat.le_trans hs (by decide)
theorem tab_eqnil {D : Addr} (F : Fr h₀ L s.heap m) (N : News h₀ L s.heap news) (T : IsTab h₀ a Ms) (hm : (D, listOf #[] 0) ∈ news) (hu : A.units + 64 < cLine) (h : Q (.bool (decide (Ms = []))) s) : wpAny (model prog w) A (compareOp .Eq (.ref a) (.ref D)) Q E s := by
  obtain ⟨as, ra⟩ := reads_tab (T.keeps F.keep)
  have rb : Reads s.heap (.ref D) (.list ([] : List PyData)) [D] := by
    have := reads_of_ints (News.isList N (n := 0) hm) (vs := []) (ns := []) .nil
    simpa using this
  refine eq_dataH_same ra rb (shaped_rows Ms) (by decide) hu (by cases Ms <;> simp [noMix, noMixAll]) ?_
  have : PySem.Spec.same (.list (Ms.map fun ks => .list (ks.map PyData.int))) (.list []) = decide (Ms = []) := by
    cases Ms <;> simp [PySem.Spec.same, PySem.Spec.sameAll]
  rw [this]; exact h
theorem tab_eqnil_t {D : Addr} (F : Fr h₀ L s.heap m) (N : News h₀ L s.heap news) (T : IsTab h₀ a []) (hm : (D, listOf #[] 0) ∈ news) (hu : A.units + 64 < cLine) (h : Q (.bool true) s) : wpAny (model prog w) A (compareOp .Eq (.ref a) (.ref D)) Q E s :=
  tab_eqnil F N T hm hu h
theorem tab_eqnil_f {D : Addr} (F : Fr h₀ L s.heap m) (N : News h₀ L s.heap news) (T : IsTab h₀ a Ms) (hm : (D, listOf #[] 0) ∈ news) (hu : A.units + 64 < cLine) (hne : 0 < Ms.length) (h : Q (.bool false) s) : wpAny (model prog w) A (compareOp .Eq (.ref a) (.ref D)) Q E s :=
  tab_eqnil F N T hm hu (by rw [decide_eq_false (by rintro rfl; cases hne)]; exact h)
end
end Mine
end
section
open PySem PySem.W PySem.Spec PySem.Calls PyProof.Rows
set_option Elab.async false
set_option maxRecDepth 100000
set_option maxHeartbeats 400000
namespace Mine
/-- no code that holds a buffer while it decodes -/
noncomputable def okc : Code → Bool
  | .builtin id _ => !Builtin.Bytes.decodersThatHold.contains id
  | _ => true
noncomputable def ClearB (Γ : PySem.Ctx) : Prop := ∀ q ∈ Γ.below, okc q.1 = true
/-- a tree, run where no such code is at work -/
noncomputable def wpP {α : Type} (M : Model) (A : Around) (t : Sem α) (Q : α → Shared → Prop) (E : Value → Shared → Prop) (s : Shared) : Prop :=
  ∀ Γ p, Γ.In A → okc Γ.code = true → ClearB Γ → Sem.wp M Γ t (fun a _ s' => Q a s') (fun e _ s' => E e s') p s
noncomputable def codeP (M : Model) (A : Around) (c : Code) (R : Result → Shared → Prop) (s : Shared) : Prop :=
  ∀ Γ p, Γ.code = c → Γ.Below A → ClearB Γ → wpCode M Γ R p s
section
variable {α β : Type} {M : Model} {A : Around} {E : Value → Shared → Prop} {s : Shared}
theorem wpP_of {t : Sem α} {Q : α → Shared → Prop} (h : wpAny M A t Q E s) : wpP M A t Q E s := fun Γ p hΓ _ _ => h Γ p hΓ
theorem codeP_of {c : Code} {R : Result → Shared → Prop} (h : codeAny M A c R s) : codeP M A c R s := fun Γ p hc hΓ _ => h Γ p hc hΓ
theorem wpP_pure {a : α} {Q : α → Shared → Prop} (h : Q a s) : wpP M A (pure a) Q E s := fun _ _ _ _ _ => h
theorem wpP_mono {t : Sem α} {Q Q' : α → Shared → Prop} {E' : Value → Shared → Prop} (h : wpP M A t Q E s) (hQ : ∀ a s, Q a s → Q' a s) (hE : ∀ e s, E e s → E' e s) : wpP M A t Q' E' s :=
  fun Γ p hΓ h1 h2 => Sem.wp_mono M Γ t (fun a _ s => hQ a s) (fun e _ s => hE e s) p s (h Γ p hΓ h1 h2)
theorem wpP_bind {m : Sem α} {f : α → Sem β} {Q : β → Shared → Prop} (h : wpP M A m (fun a s' => wpP M A (f a) Q E s') E s) : wpP M A (m >>= f) Q E s := fun Γ p hΓ h1 h2 => by
  rw [Sem.wp_bind']
  exact Sem.wp_mono M Γ m (fun a p' s' h' => h' Γ p' hΓ h1 h2) (fun _ _ _ h' => h') p s (h Γ p hΓ h1 h2)
/-- what comes first wants no clear place -/
theorem wpP_seq {m : Sem α} {f : α → Sem β} {Q : β → Shared → Prop} (h : wpAny M A m (fun a s' => wpP M A (f a) Q E s') E s) : wpP M A (m >>= f) Q E s := wpP_bind (wpP_of h)
theorem wpP_onRaise {m : Sem α} {k : Value → Sem Unit} {Q : α → Shared → Prop} (h : wpP M A m Q (fun e s' => wpAny M A (k e) (fun _ s'' => E e s'') E s') s) : wpP M A (m.onRaise k) Q E s := fun Γ p hΓ h1 h2 => by
  rw [Sem.wp_onRaise]
  exact Sem.wp_mono M Γ m (fun _ _ _ h' => h') (fun e p' s' h' => h' Γ p' hΓ) p s (h Γ p hΓ h1 h2)
theorem wpP_holding {vs : List Value} {m : Sem α} {Q : α → Shared → Prop} (h : wpP M A m Q E s) : wpP M A (holding vs m) Q E s := fun Γ p hΓ h1 h2 => by
  rw [Sem.wp_holding]; exact h Γ p hΓ h1 h2
theorem wpP_keep {vs : List Value} {m : Sem α} {Q : α → Shared → Prop} (h : wpP M A m Q E s) : wpP M A (m.keep vs) Q E s := fun Γ p hΓ h1 h2 => by
  rw [Sem.wp_keep]; exact h Γ p hΓ h1 h2
theorem wpP_units {t : Sem α} {Q : α → Shared → Prop} (h : wpP M A.in1 t Q E s) : wpP M A t Q E s := fun Γ p hΓ =>
  h Γ p ⟨hΓ.1, hΓ.2.1, hΓ.2.2.1, hΓ.2.2.2.1, Nat.le_succ_of_le hΓ.2.2.2.2⟩
theorem clear_enter {Γ : PySem.Ctx} (h1 : okc Γ.code = true) (h2 : ClearB Γ) (c : Code) (h : Option Value) (p : Pos) : ClearB (Γ.enter c h p) := fun q hq => by
  have hq : q ∈ (Γ.code, p) :: Γ.below := hq
  rcases List.mem_cons.mp hq with rfl | hq
  · exact h1
  · exact h2 q hq
theorem wpP_call {f : Value} {pos : List Value} {kw : List (Str × Value)} {Q : Value → Shared → Prop}
    (hc : codeP M A (.call f ⟨pos, kw⟩) (fun r s' => match r with | .ok (.ret v) => Q v s' | .ok _ => False | .error e => E e s') s) : wpP M A (call f pos kw) Q E s := fun Γ p hΓ h1 h2 => by
  rw [Sem.wp_cmd_call]
  exact hc _ p rfl (hΓ.enter _ none p (by intro x; cases x)) (clear_enter h1 h2 _ _ _)
theorem codeP_of_tree {c : Code} {R : Result → Shared → Prop} (hok : okc c = true)
    (h : wpP M (A.under c) (M.den c) (fun fin s' => match fin with | .done f => R (.ok f) s' | .again c' => c'.quiet = true ∧ codeP M A c' R s') (fun e s' => R (.error e) s') s) : codeP M A c R s := fun Γ p hc hΓ h2 => by
  rw [wpCode_iff_wp, hc]
  refine Sem.wp_mono M Γ _ (fun fin p' s' h' => ?_) (fun _ _ _ h' => h') p s (h Γ p (hc ▸ hΓ.in) (by rw [hc]; exact hok) h2)
  cases fin with
  | done f => exact h'
  | again c' => exact ⟨h'.1, h'.2 (Γ.goto c') p' rfl (hΓ.goto c') h2⟩
theorem codeP_mono {c : Code} {R R' : Result → Shared → Prop} (h : codeP M A c R s) (hR : ∀ r s, R r s → R' r s) : codeP M A c R' s := fun Γ p hc hΓ h2 => wpCode_mono hR (h Γ p hc hΓ h2)
/-- no buffer is lent -/
theorem wpP_exported {a : Value} {Q : Bool → Shared → Prop} (hg : A.guards = some []) (h : Q false s) : wpP M A (Builtin.Bytes.exported a) Q E s := fun Γ p hΓ h1 h2 => by
  unfold Builtin.Bytes.exported
  show Q (List.any ((Γ.code, p) :: Γ.below) _) s
  have hgs : guardsOf ((Γ.code, p) :: Γ.below) = [] := by rw [guardsOf_cons]; exact hΓ.2.2.2.1 [] hg
  rw [List.any_eq_false.mpr]
  · exact h
  · intro q hq
    have hok : okc q.1 = true := by
      rcases List.mem_cons.mp hq with rfl | hq
      · exact h1
      · exact h2 q hq
    have hng : q.1.isGuard = false := by
      cases hb : q.1.isGuard with
      | false => rfl
      | true =>
        have : q.1 ∈ guardsOf ((Γ.code, p) :: Γ.below) := List.mem_filter.mpr ⟨List.mem_map_of_mem hq, hb⟩
        rw [hgs] at this; cases this
    obtain ⟨c, pos⟩ := q
    dsimp only at hok hng
    intro hf
    cases c with
    | builtin id args =>
      simp only [Code.isGuard] at hng
      simp only [okc, Bool.not_eq_true'] at hok
      have n1 : ¬ id = "bytearray.__contains__" := by intro e; rw [e] at hng; exact absurd hng (by decide)
      have n2 : ¬ id = "bytearray.__mod__" := by intro e; rw [e] at hng; exact absurd hng (by decide)
      have n3 : ¬ id = "bytearray.__rmod__" := by intro e; rw [e] at hng; exact absurd hng (by decide)
      have n4 : ¬ id = "_struct.pack_into.held" := by intro e; rw [e] at hng; exact absurd hng (by decide)
      have n5 : ¬ id = "bytearray.find.held" := by intro e; rw [e] at hng; exact absurd hng (by decide)
      delta Builtin.Bytes.exported.match_1 at hf
      dsimp only at hf
      with_unfolding_all change (dite (id = "bytearray.__contains__") _ _ : Bool) = true at hf
      rw [dif_neg n1, dif_neg n2, dif_neg n3, dif_neg n4, dif_neg n5] at hf
      obtain ⟨ps, kw⟩ := args
      cases ps with
      | nil => cases hf
      | cons v tl =>
        have hf : (Builtin.Bytes.sameRef v a && Builtin.Bytes.decodersThatHold.contains id) = true := hf
        rw [hok, Bool.and_false] at hf; cases hf
    | _ => cases hf
end
end Mine
end
section
open PySem PySem.W PySem.Spec PySem.Calls PyProof.Rows
set_option Elab.async false
set_option maxRecDepth 100000
set_option maxHeartbeats 4000000
namespace Mine
namespace By
theorem mro : mroOf (.type "bytearray") = pure [.type "bytearray", .type "object"] := by rw [mroOf_type]; kernel_rfl
theorem lookup_new : typeLookup (.type "bytearray") "__new__" = pure (some (.builtin "bytearray.__new__")) := by rw [typeLookup_type, builtinLookup_eq_fast]; kernel_rfl
theorem lookup_init : typeLookup (.type "bytearray") "__init__" = pure (some (.builtin "bytearray.__init__")) := by rw [typeLookup_type, builtinLookup_eq_fast]; kernel_rfl
theorem made : Bind.madeBy (.type "bytearray") = pure (some "bytearray.__new__") := madeBy_type mro lookup_new (by decide +kernel)
theorem sub : isSubtype (.type "bytearray") (.type "bytearray") = pure true := by rw [isSubtype_type]; kernel_rfl
theorem typeCall (a : Value) : checkTypeCall "bytearray" ⟨[a], []⟩ = pure () := by kernel_rfl
theorem newCall (a : Value) : checkBuiltinCall "bytearray.__new__" ⟨[.type "bytearray", a], []⟩ = pure () := by kernel_rfl
theorem plain_new : plainId "bytearray.__new__" = true := by decide +kernel
theorem plain_init : plainId "bytearray.__init__" = true := by decide +kernel
theorem entry_new : entryFor table "bytearray.__new__" = some Builtin.«list.__new__» := entryFor_alias (id' := "list.__new__") (by rw [fastTable_eq_tree]; kernel_rfl) (by first | rfl | decide +kernel) (by decide +kernel) (by rw [fastTable_eq_tree]; kernel_rfl)
theorem entry_init : entryFor table "bytearray.__init__" = some Builtin.«bytearray.__init__» := entryFor_of_tree (by kernel_rfl)
theorem slot_init : Slot "bytearray" "__init__" "bytearray.__init__" :=
  .of (owner := "bytearray") (n := "__init__") lookup_init (by decide +kernel) (by decide +kernel) (by decide +kernel)
    (by first | exact .inl (by decide +kernel) | exact .inr (by decide +kernel)) sub
theorem bind (v : Value) : Builtin.Bytes.bindOptional "bytearray.__init__" "bytearray" ["source", "encoding", "errors"] [v] [] = pure [some v, none, none] := by kernel_rfl
theorem owner : Manifest.owners.lookup (String.ofList ['y', 'a', 'r', 'r', 'a', 'e', 't', 'y', 'b'].reverse) = some Manifest.sig_bytearray := by kernel_rfl
theorem args_init (a b : Value) : argsOk "bytearray.__init__" ⟨[a, b], []⟩ := by
  unfold argsOk; rw [signature?_of (id := "bytearray.__init__") (n := ['_', '_', 't', 'i', 'n', 'i', '_', '_']) (o := ['y', 'a', 'r', 'r', 'a', 'e', 't', 'y', 'b']) (by kernel_rfl) owner]; kernel_rfl
theorem args_setitem (a b c : Value) : argsOk "bytearray.__setitem__" ⟨[a, b, c], []⟩ := by
  unfold argsOk; rw [signature?_of (id := "bytearray.__setitem__") (n := ['_', '_', 'm', 'e', 't', 'i', 't', 'e', 's', '_', '_']) (o := ['y', 'a', 'r', 'r', 'a', 'e', 't', 'y', 'b']) (by kernel_rfl) owner]; kernel_rfl
theorem look_release : typeLookup (.type "bytearray") "__release_buffer__" = pure (some (.builtin "bytearray.__release_buffer__")) := by rw [typeLookup_type, builtinLookup_eq_fast]; kernel_rfl
theorem look_buffer : typeLookup (.type "bytearray") "__buffer__" = pure (some (.builtin "bytearray.__buffer__")) := by rw [typeLookup_type, builtinLookup_eq_fast]; kernel_rfl
theorem no_bytes : typeLookup (.type "bytearray") "__bytes__" = pure none := by rw [typeLookup_type, builtinLookup_eq_fast]; kernel_rfl
theorem noindex : typeLookup (.type "bytearray") "__index__" = pure none := by rw [typeLookup_type, builtinLookup_eq_fast]; kernel_rfl
theorem slot_setitem : Slot "bytearray" "__setitem__" "bytearray.__setitem__" :=
  .of (owner := "bytearray") (n := "__setitem__") (by rw [typeLookup_type, builtinLookup_eq_fast]; kernel_rfl) (by decide +kernel) (by decide +kernel) (by decide +kernel)
    (by first | exact .inl (by decide +kernel) | exact .inr (by decide +kernel)) sub
theorem entry_setitem : entryFor table "bytearray.__setitem__" = some Builtin.«bytearray.__setitem__» := entryFor_of_tree (by kernel_rfl)
theorem split_new : ("bytearray.__new__".splitOn ".__new__").headD "" = "bytearray" := by rw [PySem.W.split_bytearray]; rfl
theorem can : ((Manifest.find? "bytearray").bind (·.mro.findSome? fun t => (Manifest.find? t).bind fun b => if b.noNew then some true else if b.attrs.any (·.1 == "__new__") then some false else none)).getD false = false := by decide +kernel
theorem noty : (Value.type "bytearray" == Value.type "type") = false := by decide +kernel
end By
end Mine
end
section
open PySem PySem.W PySem.Spec PySem.Calls PyProof.Rows
set_option Elab.async false
set_option maxRecDepth 100000
set_option maxHeartbeats 4000000
namespace Mine
noncomputable abbrev byObj (b : Array UInt8) : Obj := { cls := .type "bytearray", data := .bytearray b }
section
variable {prog : Program} {w : World} {A : Around} {E : Value → Shared → Prop} {s : Shared}
theorem codeP_builtin {id : String} {args : Args} {b : Builtin} {R : Result → Shared → Prop} (hok : okc (.builtin id args) = true) (hb : entryFor table id = some b)
    (h : wpP (model prog w) (A.under (.builtin id args)) (b args) (fun fin s' => match fin with | .done f => R (.ok f) s' | .again c' => c'.quiet = true ∧ codeP (model prog w) A c' R s') (fun e s' => R (.error e) s') s) :
    codeP (model prog w) A (.builtin id args) R s := by
  refine codeP_of_tree hok ?_
  show wpP _ _ (match entryFor table id with | some b => b args | none => unsupported ((withoutEnding? id "#data").getD id)) _ _ s
  rw [hb]; exact h
theorem codeP_call_builtin {id : String} {args : Args} {b : Builtin} {R : Result → Shared → Prop} (hok : okc (.builtin id args) = true) (hq : plainId id = true) (hb : entryFor table id = some b)
    (h : wpAny (model prog w) A.in1 (checkBuiltinCall id args) (fun _ s₁ => wpP (model prog w) A.in1 (b args)
      (fun fin s' => match fin with | .done f => R (.ok f) s' | .again c' => c'.quiet = true ∧ codeP (model prog w) A c' R s') (fun e s' => R (.error e) s') s₁) (fun e s' => R (.error e) s') s) :
    codeP (model prog w) A (.call (.builtin id) args) R s := by
  refine codeP_of_tree rfl ?_
  show wpP _ A.in1 (do checkBuiltinCall id args; again (.builtin id args)) _ _ s
  refine wpP_seq (wpAny_mono h (fun _ s₁ h₁ => wpP_pure (And.intro (plainId_quiet hq args) (codeP_builtin hok hb ?_))) fun _ _ h' => h')
  rw [Around.under_plainId hq args]
  exact h₁
theorem by_type {a : Addr} {b : Array UInt8} (h : s.heap.get? a = some (byObj b)) : s.TypeIs (.ref a) "bytearray" := ⟨_, h, rfl⟩
theorem wpP_if_false {α : Type} {M : Model} {c : Bool} {a b : Sem α} {Q : α → Shared → Prop} (hc : c = false) (h : wpP M A b Q E s) : wpP M A (if c = true then a else b) Q E s := by
  subst hc; exact h
theorem wpP_if_true {α : Type} {M : Model} {c : Bool} {a b : Sem α} {Q : α → Shared → Prop} (hc : c = true) (h : wpP M A a Q E s) : wpP M A (if c = true then a else b) Q E s := by
  subst hc; exact h
theorem by_release {M : Model} {v : Value} {Q : Bool → Shared → Prop} (hT : s.TypeIs v "bytearray") (h : Q false s) : wpAny M A (Builtin.Bytes.ownRelease v) Q E s := by
  have key : ∀ x : String, x = "bytearray" → ∀ {Q : Bool → Shared → Prop}, Q true s → wpAny M A (isInstance v (.type x)) Q E s := fun x hx Q q => by rw [hx]; exact wpAny_isInstance hT By.sub q
  unfold Builtin.Bytes.ownRelease Builtin.Bytes.slotIsOwn
  refine wpAny_bind (wpAny_bind (wpAny_specialOf hT By.look_release ?_))
  dsimp only
  split
  · rename_i hx
    exact absurd hx (by decide +kernel)
  · exact key _ (by decide +kernel) (wpAny_pure h)
theorem by_update {M : Model} {a : Addr} {b : Array UInt8} {f : Array UInt8 → Array UInt8} {Q : Unit → Shared → Prop} (ho : s.heap.get? a = some (byObj b)) (hz : (f b).size ≤ 1000)
    (h : ∀ h', Heap.SameBut a s.heap h' → h'.get? a = some (byObj (f b)) → Q () { s with heap := h' }) : wpAny M A (Builtin.Bytes.write (.ref a) f) Q E s := by
  show wpAny M A (updateBytearray a f) Q E s
  unfold updateBytearray
  refine wpAny_bind (wpAny_load ho ?_)
  show wpAny _ _ (update a (Obj.mapBytearray f) >>= fun _ => lookBehind a) _ _ _
  refine wpAny_bind (wpAny_update ho ?_)
  have ho2 : (s.heap.update a (Obj.mapBytearray f)).get? a = some (byObj (f b)) := Heap.get?_update_self (Obj.mapBytearray f) ho rfl
  refine wpAny_lookBehind ho2 ?_ (h _ (Heap.SameBut.update ..) ho2)
  show (if (f b).size > sizeLine then some "bytearray:memory" else none) = none
  rw [if_neg (by rw [sizeLine_eq]; omega)]
theorem code_by_new (a : Value) {Q₁ : Value → Shared → Prop}
    (h : Q₁ (.ref s.heap.objs.size) { s with heap := s.heap.push (byObj #[]) }) :
    codeAny (model prog w) A (.call (.builtin "bytearray.__new__") ⟨[.type "bytearray", a], []⟩) (wants Q₁ E) s := by
  refine codeAny_of_tree ?_
  show wpAny _ A.in1 (do checkBuiltinCall "bytearray.__new__" ⟨[.type "bytearray", a], []⟩; again (.builtin "bytearray.__new__" ⟨[.type "bytearray", a], []⟩)) _ _ s
  refine wpAny_bind (wpAny_of_eq (By.newCall a) (wpAny_pure ⟨plainId_quiet By.plain_new _, codeAny_builtin_stack By.entry_new rfl fun p st => ?_⟩))
  rw [Around.under_plainId By.plain_new _]
  have hsub := By.sub
  have hown := By.split_new
  obtain ⟨hp, g, d, tk, os⟩ := s
  simp only [hown]
  wp_walk
  exact h
/-- bytearray(n) -/
theorem by_init {a : Addr} {n : Int} {t : Tok} {R : Shared → Prop} (hg : A.guards = some []) (ho : s.heap.get? a = some (byObj #[])) (h0 : 0 ≤ n) (h1 : n ≤ 1000)
    (h : ∀ h', Heap.SameBut a s.heap h' → h'.get? a = some (byObj (Array.replicate n.toNat 0)) → R { s with heap := h' }) :
    wpP (model prog w) A (Builtin.«bytearray.__init__» ⟨[.ref a, .int n t], []⟩) (fun fin s' => fin = .done (.ret .none) ∧ R s') (fun _ _ => False) s := by
  have hT := by_type ho
  unfold Builtin.«bytearray.__init__»
  refine wpP_seq (by_release hT ?_)
  refine wpP_if_false rfl ?_
  refine wpP_seq (wpAny_of_eq (By.bind _) ?_)
  refine wpP_seq (wpAny_of_eq (a := ()) rfl ?_)
  refine wpP_seq (wpAny_of_eq (a := ()) rfl ?_)
  dsimp only
  refine wpP_bind ?_
  show wpP _ _ (Builtin.Bytes.exported (.ref a) >>= fun b => _) _ _ _
  refine wpP_bind (wpP_exported hg ?_)
  show wpP _ _ (Builtin.Bytes.exportsOf (.ref a) >>= fun b => _) _ _ _
  refine wpP_seq ?_
  unfold Builtin.Bytes.exportsOf
  refine wpAny_bind (wpAny_load ho (wpAny_pure ?_))
  refine wpP_pure ?_
  refine wpP_if_false (by decide) ?_
  refine wpP_seq (by_update ho (Nat.zero_le _) fun h2 hs2 ho2 => ?_)
  refine wpP_seq (wpAny_of_eq (a := none) rfl ?_)
  refine wpP_if_false rfl ?_
  refine wpP_seq (bm_if_false rfl (bm_if_false rfl (wpAny_pure ?_)))
  refine wpP_seq (wpAny_specialOf (T := "int") (typeIs_int _ n t) F.slot_int_index.lookup ?_)
  refine wpP_if_true rfl ?_
  refine wpP_seq (wpAny_attempt (wpAny_of_eq (rfl : asIndex (.int n t) = pure n) ?_))
  dsimp only
  refine wpP_if_false (by rw [show Builtin.Bytes.fitsIndex n = true by simp [Builtin.Bytes.fitsIndex]; omega]; rfl) ?_
  rw [if_neg (by omega : ¬ n < 0)]
  refine wpP_if_false (by simp; omega) ?_
  refine wpP_if_false (KBy.tooLong_not (by omega)) ?_
  refine wpP_seq (wpAny_rule ?_)
  by_cases hn : n > 0
  · rw [if_pos hn]
    refine wpP_seq (by_update ho2 (by simp; omega) fun h3 hs3 ho3 => ?_)
    exact wpP_pure ⟨rfl, h h3 (hs2.trans hs3) ho3⟩
  · rw [if_neg hn]
    have hz : n = 0 := by omega
    subst hz
    exact wpP_pure ⟨rfl, h h2 hs2 ho2⟩
/-- bytearray(n), a call -/
theorem callP_bytearray {n : Int} {t : Tok} {Q : Value → Shared → Prop} (hg : A.guards = some []) (h0 : 0 ≤ n) (h1 : n ≤ 1000)
    (h : ∀ D h', (∀ b o, s.heap.get? b = some o → h'.get? b = some o) → s.heap.get? D = none → h'.get? D = some (byObj (Array.replicate n.toNat 0)) → Q (.ref D) { s with heap := h' }) : wpP (model prog w) A (call (.type "bytearray") [.int n t]) Q E s := by
  refine wpP_call (codeP_of_tree rfl ?_)
  show wpP _ _ (callAny (.type "bytearray") _) _ _ _
  refine wpP_pure ⟨Code.quiet_builtin _ (by decide +kernel), codeP_builtin (by show (!Builtin.Bytes.decodersThatHold.contains "type.__call__") = true; decide +kernel) F.entry_type_call ?_⟩
  rw [Around.under_plain (weight_type_call_type "bytearray" [.int n t] []) rfl]
  unfold Builtin.«type.__call__»
  dsimp only
  refine wpP_if_false By.noty ?_
  refine wpP_if_false By.can ?_
  refine wpP_seq (wpAny_of_eq (By.typeCall _) ?_)
  refine wpP_seq (wpAny_of_eq By.mro ?_)
  refine wpP_if_false rfl ?_
  refine wpP_seq (wpAny_of_eq By.made ?_)
  dsimp only
  refine wpP_seq (wpAny_pure ?_)
  refine wpP_seq (wpAny_holding (wpAny_call (codeAny_mono (code_by_new (E := E) (.int n t) (Q₁ := fun v s' => v = .ref s.heap.objs.size ∧ s' = { s with heap := s.heap.push (byObj #[]) }) ⟨rfl, rfl⟩) fun r s₁ hr => ?_)))
  cases r with
  | error e => exact hr
  | ok fl =>
    cases fl with
    | ret obj =>
      obtain ⟨rfl, rfl⟩ := hr
      have ho : (s.heap.push (byObj #[])).get? s.heap.objs.size = some (byObj #[]) := Heap.get?_push_size _ rfl
      have hT : ({ s with heap := s.heap.push (byObj #[]) } : Shared).TypeIs (.ref s.heap.objs.size) "bytearray" := ⟨_, ho, rfl⟩
      refine wpP_seq (wpAny_isInstance hT By.sub ?_)
      refine wpP_if_false rfl ?_
      refine wpP_bind (wpP_holding ?_)
      simp only [callSpecial?]
      refine wpP_seq (wpAny_specialOf hT By.lookup_init ?_)
      simp only [By.slot_init.bind]
      refine wpP_holding (wpP_seq (wpAny_pure ?_))
      refine wpP_bind (wpP_call (codeP_call_builtin ?_ By.plain_init By.entry_init (By.slot_init.check _ _ _ _ _ _ _ _ hT (By.args_init _ _) ?_)))
      · show (!Builtin.Bytes.decodersThatHold.contains "bytearray.__init__") = true
        decide +kernel
      · refine wpP_mono (by_init (s := { s with heap := s.heap.push (byObj #[]) }) (A := A.in1.in1) (R := fun s' => ∃ h2, s' = { s with heap := h2 } ∧ Heap.SameBut s.heap.objs.size (s.heap.push (byObj #[])) h2 ∧ h2.get? s.heap.objs.size = some (byObj (Array.replicate n.toNat 0))) hg ho h0 h1 fun h2 hs2 ho2 => ⟨h2, rfl, hs2, ho2⟩) ?_ fun _ _ x => x.elim
        rintro fin s2 ⟨rfl, h2, rfl, hs2, ho2⟩
        refine wpP_pure ?_
        dsimp only
        refine wpP_if_false rfl ?_
        refine wpP_pure ?_
        refine h _ h2 (fun b o e => ?_) (Heap.get?_none_of_le (Nat.le_refl _)) ho2
        exact (hs2.2 b (Nat.ne_of_lt (Heap.lt_size e))).trans (Heap.get?_push_of_some _ e)
    | _ => exact hr.elim
end
end Mine
end
section
open PySem PySem.W PySem.Spec PySem.Calls PyProof.Rows
set_option Elab.async false
set_option maxRecDepth 100000
set_option maxHeartbeats 4000000
namespace Mine
section
variable {prog : Program} {w : World} {A : Around} {E : Value → Shared → Prop} {s : Shared}
theorem byteValue_int {x : Int} {v : Tok} (h0 : 0 ≤ x) (h1 : x < 256) {Q : UInt8 → Shared → Prop} {M : Model} (h : Q x.toNat.toUInt8 s) : wpAny M A (Builtin.Bytes.byteValue (.int x v)) Q E s := by
  unfold Builtin.Bytes.byteValue
  refine wpAny_bind (wpAny_of_eq (rfl : asIndex (.int x v) = pure x) ?_)
  refine bm_if_false (by simp only [Bool.or_eq_false_iff, decide_eq_false_iff_not]; omega) ?_
  exact wpAny_pure h
theorem subscript_int {k : Int} {u : Tok} (h0 : 0 ≤ k) (h1 : k ≤ 1000) {Q : Option Int → Shared → Prop} {M : Model} (h : Q (some k) s) : wpAny M A (Builtin.Bytes.subscript? (.int k u)) Q E s := by
  unfold Builtin.Bytes.subscript?
  refine wpAny_bind (wpAny_specialOf (T := "int") (typeIs_int _ k u) F.slot_int_index.lookup ?_)
  refine bm_if_false rfl ?_
  refine wpAny_bind (wpAny_of_eq (rfl : asIndex (.int k u) = pure k) ?_)
  refine bm_if_false (by rw [show Builtin.Bytes.fitsIndex k = true by simp [Builtin.Bytes.fitsIndex]; omega]; rfl) ?_
  exact wpAny_pure h
theorem by_payload {M : Model} {a : Addr} {b : Array UInt8} {Q : Array UInt8 → Shared → Prop} (ho : s.heap.get? a = some (byObj b)) (h : Q b s) : wpAny M A (Builtin.Bytes.payload (.ref a)) Q E s := by
  unfold Builtin.Bytes.payload Builtin.Bytes.payload?
  exact wpAny_bind (wpAny_bind (wpAny_load ho (wpAny_pure (wpAny_pure h))))
/-- b[k] = x -/
theorem by_set {D : Addr} {b : Array UInt8} {k x : Int} {u v : Tok} {Q : Unit → Shared → Prop} (ho : s.heap.get? D = some (byObj b)) (h0 : 0 ≤ k) (h1 : k < b.size) (hz : b.size ≤ 1000) (hx0 : 0 ≤ x) (hx1 : x < 256)
    (h : ∀ h', Heap.SameBut D s.heap h' → h'.get? D = some (byObj (b.setIfInBounds k.toNat x.toNat.toUInt8)) → Q () { s with heap := h' }) : wpAny (model prog w) A (setItem (.ref D) (.int k u) (.int x v)) Q E s := by
  have hT := by_type ho
  unfold setItem
  try with_reducible refine wpAny_holding ?_
  first | refine wpAny_bind (wpAny_pure ?_) | skip
  refine wpAny_bind (wpAny_sequenceKey hT (by decide) ?_)
  refine wpAny_bind (wpAny_callSpecial?_slot (name := Str.ofString "__setitem__") hT By.slot_setitem
    (wpAny_call_entry By.slot_setitem hT By.entry_setitem ?_ (By.args_setitem _ _ _)))
  unfold Builtin.«bytearray.__setitem__»
  refine bm_if_false rfl ?_
  refine wpAny_bind (subscript_int h0 (by omega) ?_)
  dsimp only
  refine wpAny_bind (byteValue_int hx0 hx1 ?_)
  refine wpAny_bind (by_payload ho ?_)
  have hs : seqIndex? k b.size = some k.toNat := by
    unfold seqIndex?
    simp only [if_neg (Int.not_lt.mpr h0)]
    rw [if_pos (by simp only [Bool.and_eq_true, decide_eq_true_eq]; exact ⟨h0, h1⟩)]
  rw [hs]
  dsimp only
  refine wpAny_bind (by_update ho (by simp; omega) fun h2 hs2 ho2 => ?_)
  first
    | exact wpAny_bind (wpAny_pure (wpAny_pure ⟨.none, rfl, wpAny_pure (h h2 hs2 ho2)⟩))
    | exact wpAny_pure ⟨.none, rfl, wpAny_pure (h h2 hs2 ho2)⟩
theorem by_ownbuf {M : Model} {v : Value} {Q : Bool → Shared → Prop} (hT : s.TypeIs v "bytearray") (h : Q true s) : wpAny M A (Builtin.Bytes.slotIsOwn v "__buffer__") Q E s := by
  have key : ∀ x : String, x = "bytearray" → ∀ {Q : Bool → Shared → Prop}, Q true s → wpAny M A (isInstance v (.type x)) Q E s := fun x hx Q q => by rw [hx]; exact wpAny_isInstance hT By.sub q
  unfold Builtin.Bytes.slotIsOwn
  refine wpAny_bind (wpAny_specialOf hT By.look_buffer ?_)
  dsimp only
  split
  · rename_i hx
    exact absurd hx (by decide +kernel)
  · exact key _ (by decide +kernel) h
/-- bytes of a bytearray -/
theorem by_bytes {D : Addr} {b : Array UInt8} {Q : Value → Shared → Prop} (ho : s.heap.get? D = some (byObj b)) (hz : b.size ≤ 1000)
    (h : ∀ t k, Q (.bytes b t) { s with toks := k }) : wpAny (model prog w) A (call (.type "bytes") [.ref D]) Q E s := by
  have hT := by_type ho
  refine callType_codes (Q₁ := fun obj s₁ => s₁.TypeIs obj "bytes" ∧ Q obj s₁) F.bm_called (F.bm_typeCall _) F.entry_object_init ?_ fun obj s₁ h₁ => ?_
  · refine codeAny_of_tree ?_
    show wpAny _ A.in1.in1 (do checkBuiltinCall "bytes.__new__" ⟨[.type "bytes", .ref D], []⟩; again (.builtin "bytes.__new__" ⟨[.type "bytes", .ref D], []⟩)) _ _ s
    refine wpAny_bind (wpAny_of_eq (F.bm_newCall _) (wpAny_pure ⟨plainId_quiet F.bm_plain _, codeAny_builtin F.bm_entry ?_⟩))
    rw [Around.under_plainId F.bm_plain _]
    unfold Builtin.«bytes.__new__»
    refine wpAny_bind (wpAny_of_eq (a := true) rfl ?_)
    refine bm_if_false rfl ?_
    refine wpAny_bind (wpAny_of_eq F.bm_sub ?_)
    refine bm_if_false rfl ?_
    refine wpAny_bind (wpAny_of_eq (F.bm_bind _) ?_)
    refine wpAny_bind (wpAny_of_eq (a := ()) rfl ?_)
    refine wpAny_bind (wpAny_of_eq (a := ()) rfl ?_)
    refine bm_if_false rfl ?_
    refine wpAny_bind (wpAny_specialOf hT By.no_bytes ?_)
    refine wpAny_bind (wpAny_bind ?_)
    show wpAny _ _ (load D >>= _) _ _ _
    refine wpAny_bind (wpAny_load ho ?_)
    refine wpAny_pure (wpAny_pure ?_)
    refine bm_if_false rfl ?_
    refine wpAny_bind (wpAny_specialOf hT By.noindex ?_)
    refine bm_if_true rfl ?_
    first
      | show wpAny _ _ (Builtin.Bytes.buffer? "bytes.__new__" (.ref D) true >>= _) _ _ _
      | (refine wpAny_bind ?_; show wpAny _ _ (Builtin.Bytes.buffer? "bytes.__new__" (.ref D) true >>= _) _ _ _)
    refine wpAny_bind ?_
    unfold Builtin.Bytes.buffer?
    refine wpAny_bind (wpAny_specialOf hT By.look_buffer ?_)
    (try dsimp only)
    refine wpAny_bind (by_ownbuf hT ?_)
    refine bm_if_false rfl ?_
    refine wpAny_bind (wpAny_specialOf hT By.look_buffer ?_)
    (try dsimp only)
    refine wpAny_bind (by_release hT ?_)
    refine bm_if_false rfl ?_
    refine wpAny_bind (by_payload ho ?_)
    refine wpAny_pure ?_
    (try dsimp only)
    refine wpAny_bind (wpAny_rule ?_)
    refine wpAny_bind (wpAny_mkBytes ?_ (by rw [sizeLine_eq]; omega))
    show wpAny _ _ (if (Value.type "bytes" == Value.type "bytes") = true then _ else _) _ _ _
    refine bm_if_true (by decide) ?_
    first
      | exact wpAny_pure ⟨PySem.W.typeIs_bytes _ _ _, h _ _⟩
      | exact wpAny_bind (wpAny_pure (wpAny_pure ⟨PySem.W.typeIs_bytes _ _ _, h _ _⟩))
  · exact ⟨h₁.1, F.args_object_init_2 obj _, object_init_meets F.bm_called.init.lookup F.bm_called.made (by decide) prog w A.in1 _ s₁ ⟨h₁.1, rfl, h₁.2⟩⟩
theorem rg_no_bytes : typeLookup (.type "range") "__bytes__" = pure none := by rw [typeLookup_type, builtinLookup_eq_fast]; kernel_rfl
theorem rg_no_index : typeLookup (.type "range") "__index__" = pure none := by rw [typeLookup_type, builtinLookup_eq_fast]; kernel_rfl
theorem rg_no_buffer : typeLookup (.type "range") "__buffer__" = pure none := by rw [typeLookup_type, builtinLookup_eq_fast]; kernel_rfl
theorem rg_sub : isSubtype (.type "range") (.type "range") = pure true := by rw [isSubtype_type]; kernel_rfl
/-- bytes of a walk over ints -/
theorem rg_loop {R : Result → Shared → Prop} {I S : Addr} {fp wr : List Addr} {n : Nat} {P : Nat → Value → Prop} {St : Nat → Heap → Prop} {ns : List Int} (W : Walks prog w A.in1 I fp wr n P St) (hn : ns.length = n) (hP : ∀ i v, i < n → P i v → ∃ t, v = .int (ns.getD i 0) t) (hr : ∀ x ∈ ns, 0 ≤ x ∧ x < 256) (hz : n ≤ 1000) (hS : S ∉ fp) :
    ∀ (k i : Nat) (s : Shared), n - i = k → i ≤ n → St i s.heap → s.heap.get? S = some (byObj (byteArr (ns.take i))) →
      (∀ h' t k', (∀ b o, b ∉ fp → b ≠ S → s.heap.get? b = some o → h'.get? b = some o) → R (.ok (.ret (.bytes (byteArr ns) t))) { s with heap := h', toks := k' }) →
      codeAny (model prog w) A (.builtin "bytes.__new__.loop" ⟨[.type "bytes", .ref I, .ref S], []⟩) R s := by
  intro k
  induction k with
  | zero =>
    intro i s hk hle hst ho hR
    have hin : i = n := by omega
    subst hin
    refine codeAny_builtin F.bm_entry_loop ?_
    rw [Around.under_plainId F.bm_plain_loop _]
    show wpAny _ A.in1 (pyNext (.ref I) >>= _) _ _ s
    refine wpAny_bind (W.done _ _ _ hst fun h' tk' hk' => ?_)
    have ho' : h'.get? S = some (byObj (byteArr (ns.take i))) := hk' S _ (fun hb => hS (W.sub _ hb)) ho
    dsimp only
    refine wpAny_bind (by_payload ho' ?_)
    rw [← hn, List.take_length]
    refine wpAny_bind (wpAny_mkBytes ?_ (by rw [byteArr_size, sizeLine_eq]; omega))
    show wpAny _ _ (if (Value.type "bytes" == Value.type "bytes") = true then _ else _) _ _ _
    refine bm_if_true (by decide) ?_
    first
      | exact wpAny_pure (hR h' _ _ fun b o hb _ e => hk' b o (fun hb' => hb (W.sub _ hb')) e)
      | exact wpAny_bind (wpAny_pure (wpAny_pure (hR h' _ _ fun b o hb _ e => hk' b o (fun hb' => hb (W.sub _ hb')) e)))
  | succ k ih =>
    intro i s hk hle hst ho hR
    have hlt : i < n := by omega
    refine codeAny_builtin F.bm_entry_loop ?_
    rw [Around.under_plainId F.bm_plain_loop _]
    show wpAny _ A.in1 (pyNext (.ref I) >>= _) _ _ s
    refine wpAny_bind (W.item i _ _ _ hlt hst fun v h' tk' hPv hst' hk' => ?_)
    obtain ⟨t, rfl⟩ := hP i v hlt hPv
    have hget : ns[i]? = some (ns.getD i 0) := by rw [List.getD_eq_getElem?_getD, List.getElem?_eq_getElem (by omega)]; rfl
    obtain ⟨h0, h1⟩ := hr _ (List.mem_of_getElem? hget)
    obtain ⟨x, hx⟩ : ∃ x, ns.getD i 0 = x := ⟨_, rfl⟩
    rw [hx] at h0 h1 hget ⊢
    have ho' : h'.get? S = some (byObj (byteArr (ns.take i))) := hk' S _ (fun hb => hS (W.sub _ hb)) ho
    dsimp only
    refine wpAny_bind (wpAny_holding (wpAny_of_eq (rfl : asIndex (.int x t) = pure x) ?_))
    refine wpAny_bind (wpAny_letGo ?_)
    refine bm_if_false (by simp only [Bool.or_eq_false_iff, decide_eq_false_iff_not]; omega) ?_
    refine wpAny_bind (by_update ho' (by rw [Array.size_push, byteArr_size, List.length_take]; omega) fun h2 hs2 ho2 => ?_)
    rw [← byteArr_take hget] at ho2
    refine wpAny_pure ⟨plainId_quiet F.bm_plain_loop _, ih (i + 1) _ (by omega) hlt ?_ ho2 fun h3 t' k' hk3 => ?_⟩
    · exact W.frame _ _ _ hst' fun b hb o e => (hs2.2 b (fun q => hS (q ▸ hb))).trans e
    · exact hR h3 t' k' fun b o hb hbS e => hk3 b o hb hbS ((hs2.2 b hbS).trans (hk' b o (fun hb' => hb (W.sub _ hb')) e))
/-- bytes of a range -/
theorem rg_bytes {r : Addr} {n : Nat} {t₀ u₀ v₀ : Tok} {Q : Value → Shared → Prop} (hh : A.handled = none) (hr : IsRange s.heap r 0 (n : Int) 1 t₀ u₀ v₀) (hn : n ≤ 200)
    (h : ∀ h' t k, (∀ b o, s.heap.get? b = some o → h'.get? b = some o) → Q (.bytes (byteArr ((List.range n).map fun (i : Nat) => (i : Int))) t) { s with heap := h', toks := k }) : wpAny (model prog w) A (call (.type "bytes") [.ref r]) Q E s := by
  have hT : s.TypeIs (.ref r) "range" := ⟨_, hr, rfl⟩
  have hsz : Builtin.Range.rangeSize 0 (n : Int) 1 = (n : Int) := by rw [rangeSize_nat]; omega
  refine callType_codes (Q₁ := fun obj s₁ => s₁.TypeIs obj "bytes" ∧ Q obj s₁) F.bm_called (F.bm_typeCall _) F.entry_object_init ?_ fun obj s₁ h₁ => ?_
  · refine codeAny_of_tree ?_
    show wpAny _ A.in1.in1 (do checkBuiltinCall "bytes.__new__" ⟨[.type "bytes", .ref r], []⟩; again (.builtin "bytes.__new__" ⟨[.type "bytes", .ref r], []⟩)) _ _ s
    refine wpAny_bind (wpAny_of_eq (F.bm_newCall _) (wpAny_pure ⟨plainId_quiet F.bm_plain _, codeAny_builtin F.bm_entry ?_⟩))
    rw [Around.under_plainId F.bm_plain _]
    unfold Builtin.«bytes.__new__»
    refine wpAny_bind (wpAny_of_eq (a := true) rfl ?_)
    refine bm_if_false rfl ?_
    refine wpAny_bind (wpAny_of_eq F.bm_sub ?_)
    refine bm_if_false rfl ?_
    refine wpAny_bind (wpAny_of_eq (F.bm_bind _) ?_)
    refine wpAny_bind (wpAny_of_eq (a := ()) rfl ?_)
    refine wpAny_bind (wpAny_of_eq (a := ()) rfl ?_)
    refine bm_if_false rfl ?_
    refine wpAny_bind (wpAny_specialOf hT rg_no_bytes ?_)
    refine wpAny_bind (wpAny_bind ?_)
    show wpAny _ _ (load r >>= _) _ _ _
    refine wpAny_bind (wpAny_load hr ?_)
    refine wpAny_pure (wpAny_pure ?_)
    refine bm_if_false rfl ?_
    refine wpAny_bind (wpAny_specialOf hT rg_no_index ?_)
    refine bm_if_true rfl ?_
    first
      | show wpAny _ _ (Builtin.Bytes.buffer? "bytes.__new__" (.ref r) true >>= _) _ _ _
      | (refine wpAny_bind ?_; show wpAny _ _ (Builtin.Bytes.buffer? "bytes.__new__" (.ref r) true >>= _) _ _ _)
    refine wpAny_bind ?_
    unfold Builtin.Bytes.buffer?
    refine wpAny_bind (wpAny_specialOf hT rg_no_buffer ?_)
    refine wpAny_bind (wpAny_specialOf hT rg_no_buffer ?_)
    refine wpAny_pure ?_
    have hsmall : Builtin.Range.small 0 (n : Int) 1 = true := small_nat (by decide) (by decide) (by omega) (by omega)
    refine wpAny_bind (wpAny_tryCatch (wpAny_pyIter_range hr hsmall ?_))
    refine wpAny_bind (wpAny_holding ?_)
    have hr₁ := Heap.get?_push_of_some { cls := .type "range_iterator", data := .fields #[rawInt 0, rawInt (Builtin.Range.rangeSize 0 (n : Int) 1), rawInt 1] } hr
    have hT₁ : ({ s with heap := s.heap.push { cls := .type "range_iterator", data := .fields #[rawInt 0, rawInt (Builtin.Range.rangeSize 0 (n : Int) 1), rawInt 1] } } : Shared).TypeIs (.ref r) "range" := ⟨_, hr₁, rfl⟩
    unfold Builtin.Bytes.lengthHint
    refine wpAny_bind (wpAny_specialOf hT₁ F.slot_range_len.lookup ?_)
    dsimp only
    rw [show splitId "range.__len__" = some ("range", "__len__") from by decide +kernel]
    dsimp only
    refine wpAny_bind (wpAny_isInstance hT₁ rg_sub ?_)
    refine bm_if_false rfl ?_
    refine bm_if_false (by decide +kernel) ?_
    refine bm_if_true rfl ?_
    refine wpAny_bind (wpAny_rule ?_)
    refine wpAny_bind (wpAny_attempt (call_len_range hr₁ hsz (by omega) ?_))
    dsimp only
    refine wpAny_bind (m := asInt? _) (wpAny_pure ?_)
    dsimp only
    refine bm_if_false (KBy.tooLong_not (by omega)) ?_
    refine wpAny_pure ?_
    refine wpAny_bind ?_
    unfold Builtin.Bytes.newBytearray
    refine wpAny_newObj_type ?_ (Nat.zero_le _)
    have hsz1 : (s.heap.push { cls := .type "range_iterator", data := .fields #[rawInt 0, rawInt (Builtin.Range.rangeSize 0 (n : Int) 1), rawInt 1] }).objs.size = s.heap.objs.size + 1 := Heap.size_push _ _
    have W := Walks.range (prog := prog) (w := w) (A := A.in1.in1) hh s.heap.objs.size 0 1 n
    have hit : IsRangeIter ((s.heap.push { cls := .type "range_iterator", data := .fields #[rawInt 0, rawInt (Builtin.Range.rangeSize 0 (n : Int) 1), rawInt 1] }).push (byObj #[])) s.heap.objs.size (0 + ((0 : Nat) : Int) * 1) ((n : Int) - ((0 : Nat) : Int)) 1 := by
      have : IsRangeIter (s.heap.push { cls := .type "range_iterator", data := .fields #[rawInt 0, rawInt (Builtin.Range.rangeSize 0 (n : Int) 1), rawInt 1] }) s.heap.objs.size (0 + ((0 : Nat) : Int) * 1) ((n : Int) - ((0 : Nat) : Int)) 1 := by
        show IsRangeIter _ _ _ _ _; rw [hsz]; simpa using Heap.get?_push_size _ rfl
      exact Heap.get?_push_of_some _ this
    have main := rg_loop (prog := prog) (w := w) (A := A.in1) (R := wants (fun obj s₁ => s₁.TypeIs obj "bytes" ∧ Q obj s₁) E) (S := (s.heap.push { cls := .type "range_iterator", data := .fields #[rawInt 0, rawInt (Builtin.Range.rangeSize 0 (n : Int) 1), rawInt 1] }).objs.size) (ns := (List.range n).map fun (i : Nat) => (i : Int)) W (by simp) (fun i v hi hv => ?_) (fun x hx => ?_) (by omega) (by rw [hsz1]; simp)
      n 0 { s with heap := (s.heap.push { cls := .type "range_iterator", data := .fields #[rawInt 0, rawInt (Builtin.Range.rangeSize 0 (n : Int) 1), rawInt 1] }).push (byObj #[]), toks := s.toks + 1 + 1 } (by omega) (Nat.zero_le _) hit (Heap.get?_push_size _ rfl) fun h' t k hk => ⟨PySem.W.typeIs_bytes _ _ _, h h' t k fun b o e => hk b o ?_ ?_ (Heap.get?_push_of_some _ (Heap.get?_push_of_some _ e))⟩
    · first
        | exact wpAny_pure ⟨plainId_quiet F.bm_plain_loop _, main⟩
        | exact wpAny_pure (wpAny_pure ⟨plainId_quiet F.bm_plain_loop _, main⟩)
    · obtain ⟨t, rfl⟩ := hv
      refine ⟨t, ?_⟩
      simp [List.getD_eq_getElem?_getD, hi]
    · obtain ⟨i, hi, rfl⟩ := List.mem_map.mp hx
      have := List.mem_range.mp hi
      omega
    · intro hb
      exact absurd (Heap.lt_size e) (by rw [List.mem_singleton.mp hb]; exact Nat.lt_irrefl _)
    · intro hb
      exact absurd (Heap.lt_size e) (by rw [hb, hsz1]; exact Nat.not_lt.mpr (Nat.le_succ _))
  · exact ⟨h₁.1, F.args_object_init_2 obj _, object_init_meets F.bm_called.init.lookup F.bm_called.made (by decide) prog w A.in1 _ s₁ ⟨h₁.1, rfl, h₁.2⟩⟩
end
end Mine
end
section
open PySem PySem.W PySem.Spec PySem.Calls PyProof.Rows
set_option Elab.async false
set_option maxRecDepth 100000
set_option maxHeartbeats 400000
namespace Mine
section
variable {M : Model} {A : Around} {E : Value → Shared → Prop} {s : Shared} {env : Env}
theorem execsP_cons {st : Stmt} {rest : List Stmt} {Q : Flow → Shared → Prop} (h : wpP M A (exec st env) (fun f s' => match f with | .next => wpP M A (execs rest env) Q E s' | f => Q f s') E s) : wpP M A (execs (st :: rest) env) Q E s := by
  rw [execs_cons]
  refine wpP_bind (wpP_mono h (fun f s' h' => ?_) fun _ _ e => e)
  cases f <;> first | exact h' | exact wpP_pure h'
/-- a statement that wants no clear place, then the rest -/
theorem execsP_step {st : Stmt} {rest : List Stmt} {Q : Flow → Shared → Prop} (h : wpAny M A (exec st env) (fun f s' => match f with | .next => wpP M A (execs rest env) Q E s' | f => Q f s') (fun _ _ => False) s) : wpP M A (execs (st :: rest) env) Q E s :=
  execsP_cons (wpP_of (wpAny_mono h (fun _ _ x => x) fun _ _ x => x.elim))
theorem assignP {x : Str} {pos' pos : Pos} {value : Expr} {Q : Flow → Shared → Prop} (hs : swapsWith value (some (.Name x pos')) pos.line env = pure false)
    (h : wpP M A (eval value env) (fun v s₁ => wpAny M A (storeName env x v) (fun _ => Q .next) E s₁) E s) : wpP M A (exec (.Assign [.Name x pos'] value pos) env) Q E s := by
  rw [exec_Assign_Name env x pos' value pos hs]
  refine wpP_seq (wpAny_standAt (wpP_bind (wpP_mono h (fun v s₁ h₁ => ?_) fun _ _ e => e)))
  refine wpP_seq (wpAny_standAt (wpP_seq (wpAny_bindName (wpAny_mono h₁ (fun _ _ q => wpP_pure q) fun _ _ e => e))))
theorem callNameP {x : Str} {p pos : Pos} {args : List Expr} {Q : Value → Shared → Prop}
    (h : wpAny M A (eval (.Name x p) env) (fun f s₁ => wpP M A (callWith pos f [] (backTo pos (starEach args env)) []) Q E s₁) E s) : wpP M A (eval (.Call (.Name x p) args [] pos) env) Q E s := by
  show wpP M A (eval (.Name x p) env >>= fun f => callWith pos f [] (backTo pos (starEach args env)) []) Q E s
  exact wpP_seq h
theorem callWithP_fn {pos : Pos} {a : Addr} {o : Obj} {fd : FuncData} {args : List (Bool × Sem Value)} {Q : Value → Shared → Prop}
    (h : wpAny M A (evalArgs (.ref a) true args []) (fun x s₁ => (s₁.heap.get? a = some o ∧ o.data = .func fd) ∧ wpP M A (call (.ref a) ([] ++ x.pos) x.kw) Q E s₁) E s) :
    wpP M A (callWith pos (.ref a) [] args []) Q E s := by
  unfold callWith
  refine wpP_seq (wpAny_holding (wpAny_mono h (fun x s₁ h₁ => wpP_seq (wpAny_standAt ?_)) fun _ _ x => x))
  have tail : ∀ {t : Sem Value}, wpP M A t Q E s₁ → wpP M A (t >>= fun r => holding [r] point >>= fun _ => pure r) Q E s₁ :=
    fun ht => wpP_bind (wpP_mono ht (fun r s₂ hr => wpP_of (wpAny_bind (wpAny_holding (wpAny_point (wpAny_pure hr))))) fun _ _ x => x)
  cases hs : (args.any (·.1) || ([] : List (Option Str × Sem Value)).any (·.1.isNone)) <;>
    refine wpP_seq (m := keeperOf (.ref a)) ?_ <;> unfold keeperOf <;>
    refine wpAny_bind (wpAny_load h₁.1.1 ?_) <;> rw [h₁.1.2] <;> refine wpAny_pure ?_
  · dsimp only
    split
    · exact tail h₁.2
    · exact tail (by unfold callMarked; exact wpP_keep h₁.2)
  · exact tail (by unfold callMarked; exact wpP_keep h₁.2)
theorem callWithP_type {pos : Pos} {T : String} {args : List (Bool × Sem Value)} {Q : Value → Shared → Prop} (hplain : args.any (·.1) = false)
    (h : wpAny M A (evalArgs (.type T) true args []) (fun a s₁ => wpP M A (call (.type T) ([] ++ a.pos) a.kw) Q E s₁) E s) :
    wpP M A (callWith pos (.type T) [] args []) Q E s := by
  unfold callWith
  refine wpP_seq (wpAny_holding (wpAny_mono h (fun a s₁ h₁ => wpP_seq (wpAny_standAt ?_)) fun _ _ x => x))
  simp only [hplain, List.any_nil, Bool.or_false]
  refine wpP_seq (wpAny_pure ?_)
  exact wpP_bind (wpP_mono h₁ (fun r s₂ hr => wpP_of (wpAny_bind (wpAny_holding (wpAny_point (wpAny_pure hr))))) fun _ _ x => x)
theorem callTypeP {pos : Pos} {T : String} {e : Expr} {rest : List Expr} {Q : Value → Shared → Prop}
    (h : wpAny M A (spliced (backTo pos (starEach (e :: rest) env))) (fun vs s₁ => wpP M A (call (.type T) vs) Q E s₁) E s)
    (he : starEach (e :: rest) env = (false, eval e env) :: starEach rest env := by rfl)
    (hplain : (backTo pos (starEach rest env)).any (·.1) = false := by rfl) :
    wpP M A (callWith pos (.type T) [] (backTo pos (starEach (e :: rest) env)) []) Q E s := by
  rw [he] at h ⊢
  exact callWithP_type (by show (false || (backTo pos (starEach rest env)).any (·.1)) = false; rw [hplain]; rfl) (Calls.evalArgs_plain h)
theorem callDefP {pos : Pos} {a : Addr} {o : Obj} {fd : FuncData} {e : Expr} {rest : List Expr} {Q : Value → Shared → Prop}
    (h : wpAny M A (spliced (backTo pos (starEach (e :: rest) env))) (fun vs s₁ => (s₁.heap.get? a = some o ∧ o.data = .func fd) ∧ wpP M A (call (.ref a) vs) Q E s₁) E s)
    (he : starEach (e :: rest) env = (false, eval e env) :: starEach rest env := by rfl) :
    wpP M A (callWith pos (.ref a) [] (backTo pos (starEach (e :: rest) env)) []) Q E s := by
  rw [he] at h ⊢
  exact callWithP_fn (Calls.evalArgs_plain h)
end
section
variable {prog : Program} {w : World} {A : Around} {E : Value → Shared → Prop} {s : Shared} {R : Result → Shared → Prop}
theorem codeP_func {body : List Stmt} {env : Env} (h : wpP (model prog w) (A.deeper env) (execs body env) (fun f s' => R (.ok (.ret (match f with | .ret v => v | _ => .none))) s') (fun _ _ => False) s) : codeP (model prog w) A (.func body env) R s := by
  refine codeP_of_tree rfl ?_
  show wpP _ (A.deeper env) (do point; match ← (execs body env).onRaise (leaving env) with | .ret v => ret v | _ => ret .none) _ _ s
  refine wpP_seq (wpAny_point (wpP_bind (wpP_onRaise (wpP_mono h (fun f s' h' => ?_) fun _ _ h' => h'.elim))))
  cases f <;> exact wpP_pure h'
theorem codeP_call_function {a : Addr} {args : Args} {o : Obj} {fd : FuncData} {body : List Stmt} (hroom : A.depth < recursionLimit) (ho : s.heap.get? a = some o)
    (hd' : o.data = .func fd) (hco : fd.scope.isCoroutine = false) (hgen : fd.scope.isGenerator = false) (hbody : fd.body = .stmts body) (hcd : s.heap.CodeRec fd.code fd.qualname)
    (h : wpAny (model prog w) A.in1 (bindArgs fd args) (fun binds s₁ =>
      wpAny (model prog w) A.in1 (newFunctionEnv fd.scope fd.globals fd.closure binds (fd.qualname ++ ".<locals>.") (some a) fd.code none fd.builtins)
        (fun env s₂ => s₂.heap.NoLimit ∧ codeP (model prog w) A (.func body env) R s₂) (fun e s' => R (.error e) s') s₁) (fun e s' => R (.error e) s') s) :
    codeP (model prog w) A (.call (.ref a) args) R s := by
  refine codeP_of_tree rfl ?_
  show wpP _ A.in1 (callAny (.ref a) args) _ _ s
  simp only [callAny]
  refine wpP_seq (wpAny_load ho ?_)
  obtain ⟨c, oc, vs, tq, hc, hoc, hdc, hq⟩ := hcd
  simp only [hd', callFunction, hco, hgen, hbody, hc]
  rw [hc] at h
  refine wpP_seq (m := field (.ref c) 1) (wpAny_field hoc hdc hq (wpP_seq (wpAny_pure ?_)))
  exact wpP_seq (wpAny_mono h (fun binds s₁ h₁ => wpP_seq (wpAny_mono h₁ (fun env s₂ h₂ => wpP_seq (wpAny_enterFrame h₂.1 hroom
    (wpP_pure (And.intro rfl h₂.2)))) fun _ _ h' => h')) fun _ _ h' => h')
end
end Mine
end
section
open PySem PySem.W PySem.Spec PySem.Calls PyProof.Rows
set_option Elab.async false
set_option maxRecDepth 100000
set_option maxHeartbeats 400000
namespace Mine
section
variable {prog : Program} {w : World} {A : Around} {s : Shared} {K : Frag} {B0 : Heap} {mg mb : Str → Option Value} {p : Program} {loose : List Str} {mean : ExcName → Option Value}
  {name qual : Str} {params : Arguments} {body : List Stmt} {scope : Scope} {dV kV doc pm cdv ct oc : Value} {an od : Option Addr} {osl : Array (Option Value)} {f : Addr} {args : Args} {binds : List (Str × Value)}
  {Q E : Value → Shared → Prop}
/-- enter_def, where no decoder is at work -/
theorem enter_defP (tabs : List (Addr × Obj)) (X0 : K.In B0) (T0 : Top p loose mean mg mb B0) (S : B0.StaysIn s.heap) (hN : ∀ q ∈ tabs, s.heap.get? q.1 = some q.2 ∧ B0.get? q.1 = none)
    (ho : K.lookup f = some ⟨oc, od, .func (fnOf name qual params body scope dV kV doc pm an cdv ct), osl⟩) (hcd : codeIn K cdv qual = true) (hroom : A.depth < recursionLimit)
    (hbind : BindsTo s (fnOf name qual params body scope dV kV doc pm an cdv ct) args binds) (hloc : ∀ y ∈ binds, scope.names.lookup y.1 = some .local)
    (h : ∀ g L' h₁, Start B0 K p loose mean mg mb s.heap tabs g L' → Fr g L' h₁ (fun y => binds.reverse.lookup y) → News g L' h₁ tabs → K.In g → Top p loose mean mg mb g →
      wpP (model prog w) (A.deeper (envOf qual scope L' f cdv)) (execs body (envOf qual scope L' f cdv)) (fun fl s' => Q (match fl with | .ret v => v | _ => .none) s') (fun _ _ => False)
        { s with heap := h₁, toks := s.toks + binds.length })
    (hco : scope.isCoroutine = false) (hgen : scope.isGenerator = false) (hk : scope.kind = .function)
    (hcell : ∀ x ∈ scope.names, x.2 ≠ .cell) : wpP (model prog w) A (call (.ref f) args.pos args.kw) Q E s := by
  have XS := X0.keeps S
  have TS := T0.keeps S
  have SB := base_stays S hN
  refine wpP_call ?_
  refine codeP_call_function (fd := fnOf name qual params body scope dV kV doc pm an cdv ct) (body := body) hroom (XS _ _ ho) rfl hco hgen rfl (codeRec_of XS hcd) (hbind _ _ _ _ ?_)
  refine wpAny_newFunctionEnv hcell hloc (fun h₀ hns₀ hsb₀ => ⟨TS.nolimit.fresh _ hsb₀, codeP_func ?_⟩) hk
  have hk₁ : ∀ b o, s.heap.get? b = some o → h₀.get? b = some o := fun b o e => hsb₀.extBut b o (Nat.ne_of_lt (Heap.lt_size e)) (Heap.get?_push_of_some _ e)
  exact h (base s.heap tabs) s.heap.objs.size h₀ ⟨SB, (fun b o hb e => hideAll_get _ e hb), fun b o e => of_hideAll _ e, fun q hq => hideAll_none _ (List.mem_map_of_mem hq), hideAll_size _ _, rfl, fun q hq => Heap.lt_size (hN q hq).1, fun q hq => (hN q hq).1⟩
    ⟨hns₀, fun b o e => hk₁ b o (of_hideAll _ e), Nat.le_of_eq (hideAll_size _ _)⟩
    (fun q hq => ⟨hk₁ _ _ (hN q hq).1, Nat.ne_of_lt (Heap.lt_size (hN q hq).1), hideAll_none _ (List.mem_map_of_mem hq)⟩) (X0.keeps SB) (T0.keeps SB)
/-- enter_defC, where no decoder is at work; the def stands anywhere -/
theorem enter_defCP (tabs : List (Addr × Obj)) {o : Obj} (X0 : K.In B0) (T0 : Top p loose mean mg mb B0) (S : B0.StaysIn s.heap) (hN : ∀ q ∈ tabs, s.heap.get? q.1 = some q.2 ∧ B0.get? q.1 = none)
    (ho : s.heap.get? f = some o) (hd : o.data = .func (fnOf name qual params body scope dV kV doc pm an cdv ct)) (hcd : s.heap.CodeRec cdv qual) (hroom : A.depth < recursionLimit)
    (hbind : BindsTo s (fnOf name qual params body scope dV kV doc pm an cdv ct) args binds) (hkind : (binds.all fun y => scope.names.lookup y.1 == some .local || scope.names.lookup y.1 == some .cell) = true)
    (hnd : ((cellsFrom 0 scope.names []).map (·.1)).Nodup)
    (h : ∀ g L' h₁ tk cells, Start B0 K p loose mean mg mb s.heap tabs g L' → Fr g L' h₁ (bindL (envOfC qual scope L' f cdv).kindOf binds fun _ => none) → News g L' h₁ (cells ++ tabs) →
      CellsAre (bindC (envOfC qual scope L' f cdv).kindOf binds fun _ => none) (cellsFrom (L' + 1) scope.names []) cells → K.In g → Top p loose mean mg mb g →
      wpP (model prog w) (A.deeper (envOfC qual scope L' f cdv)) (execs body (envOfC qual scope L' f cdv)) (fun fl s' => Q (match fl with | .ret v => v | _ => .none) s') (fun _ _ => False)
        { s with heap := h₁, toks := tk })
    (hco : scope.isCoroutine = false) (hgen : scope.isGenerator = false) (hk : scope.kind = .function) : wpP (model prog w) A (call (.ref f) args.pos args.kw) Q E s := by
  have TS := T0.keeps S
  have SB := base_stays S hN
  refine wpP_call ?_
  refine codeP_call_function (fd := fnOf name qual params body scope dV kV doc pm an cdv ct) (body := body) hroom ho hd hco hgen rfl hcd (hbind _ _ _ _ ?_)
  refine wpAny_newFunctionEnv_cells hk (kindsX hkind _) fun env' he s' x => ?_
  subst he
  refine ⟨TS.nolimit.keeps x.toInCall.keep, codeP_func ?_⟩
  obtain ⟨h₁, tk, rfl, _⟩ := x.done
  have hk₁ := x.toInCall.keep
  obtain ⟨cells, NC, Y⟩ := Cl.news (h₀ := s.heap) (Nat.le_refl _) fun n c hm => ⟨x.cell n c (lookup_of_mem_nodup (cellsFrom_names scope.names 0 (s.heap.objs.size + 1) [] [] rfl ▸ hnd) hm), x.above n c hm⟩
  refine h (base s.heap tabs) s.heap.objs.size h₁ tk cells ⟨SB, (fun b o hb e => hideAll_get _ e hb), fun b o e => of_hideAll _ e, fun q hq => hideAll_none _ (List.mem_map_of_mem hq), hideAll_size _ _, rfl, fun q hq => Heap.lt_size (hN q hq).1, fun q hq => (hN q hq).1⟩
    ⟨x.toInCall.ns, fun b o e => hk₁ b o (of_hideAll _ e), Nat.le_of_eq (hideAll_size _ _)⟩ (fun q hq => ?_) Y (X0.keeps SB) (T0.keeps SB)
  rcases List.mem_append.mp hq with hq | hq
  · refine ⟨(NC q hq).1, (NC q hq).2.1, ?_⟩
    cases e : (base s.heap tabs).get? q.1 with
    | none => rfl
    | some o => have := of_hideAll _ e; rw [(NC q hq).2.2] at this; cases this
  · exact ⟨hk₁ _ _ (hN q hq).1, Nat.ne_of_lt (Heap.lt_size (hN q hq).1), hideAll_none _ (List.mem_map_of_mem hq)⟩
end
end Mine
end
section
open PySem PySem.W PySem.Spec PySem.Calls PyProof.Rows
set_option Elab.async false
set_option maxRecDepth 100000
set_option maxHeartbeats 400000
namespace Mine
/-- what a claim's call must show, asked where no decoder is at work -/
noncomputable abbrev WalkP (q : Program) (loose : List Str) (XP : (Str → Option Value) → Heap → Prop) (YP : World → Heap → Prop) (r : RowW) (d : DefRec) (kwd : List (Str × Expr)) : Prop :=
  ∀ (w : World) (s₀ s₁ : Shared) (mg mb : Str → Option Value), Ground q loose r.records XP w s₀ mg mb s₁.heap → YP w s₁.heap → ∀ (a : Addr) (o : Obj) (pm cd doc dV kV : Value), s₁.heap.get? a = some o →
    o.data = .func { docDef d.name d.params d.body d.scope pm cd doc with defaults := dV, kwdefaults := kV } → s₁.heap.CodeRec cd d.name → Dflts mg s₁.heap d.params kwd dV kV → mg d.name = some (.ref a) → s₁.gens = #[] →
    ∀ (args : List WData) (vals : List Value) (as : List Addr), r.claim.pre args = true → WData.layableAll args = true → ReadsAllW r.records (classAt s₀.heap) s₁.heap vals args as → WellAll w.params s₁.heap vals args → (∀ a ∈ as, (a == sysModules) = false) →
      wpP (model r.prog w) callerA (PySem.call (.ref a) vals) (fun v s' => GoodWG r.claim (classAt s₀.heap) (ExcName.means s₀.heap) args s₁ (.ok (.ret v)) s')
        (fun e s' => GoodWG r.claim (classAt s₀.heap) (ExcName.means s₀.heap) args s₁ (.error e) s') s₁
/-- the claim's own place is clear -/
theorem caller_run {prog : Program} {w : World} {t : Sem Fin} {s : Shared} {R : Result → Shared → Prop} (hz : s.asleep)
    (h : wpP (model prog w) callerA t (fun fin s' => ∃ f, fin = .done f ∧ R (.ok f) s' ∧ leftWithCleanup s'.gens = false) (fun e s' => R (.error e) s' ∧ leftWithCleanup s'.gens = false) s) :
    ∃ n r s' s'', schedN (denote table) prog w n (.single s ⟨t, .builtin "claim.caller" {}, default, []⟩) = .halted (outcomeOf r) s'' ∧
      PySem.runN (denote table) prog w n s ⟨t, .builtin "claim.caller" {}, default, []⟩ = .halted (outcomeOf r) s'' ∧ s''.forget = s'.forget ∧ R r s' := by
  refine wp_halts_full (M := model prog w) (R := R) hz ?_
  refine Sem.wp_mono _ _ _ (fun fin p' s' q => ?_) (fun _ _ _ q => q) _ _ (h ⟨.builtin "claim.caller" {}, none, none, [], none⟩ default caller_in (by decide +kernel) (fun q hq => nomatch hq))
  obtain ⟨f, rfl, hf⟩ := q
  exact hf
/-- a call that ends well at a clear place is a call as the claim asks it -/
theorem callFrom_clear {c : ClaimW} {st : List Value → Sem Fin} {w : World} {s : Shared} {free : Addr → Prop} {gens : Prop} {kept : Heap → Prop} (hz : s.asleep) (hgn : s.gens = #[])
    (hspec : ∀ args, c.pre args = true → WData.layableAll args = true → ∀ ord : List DictEntry → List DictEntry, (∀ l, (ord l).Perm l) → ∃ vs s₁, layAllW c.records (classAt s.heap) w.params ord args s = some (vs, s₁) ∧
      wpP (model c.prog w) callerA (st vs) (fun fin s' => ∃ f, fin = .done f ∧ (c.Ends s args vs s₁ (.ok f) s' ∧ s'.os = s.os ∧ kept s'.heap) ∧ leftWithCleanup s'.gens = false)
        (fun e s' => (c.Ends s args vs s₁ (.error e) s' ∧ s'.os = s.os ∧ kept s'.heap) ∧ leftWithCleanup s'.gens = false) s₁) :
    c.CallFrom (fun vs => ⟨st vs, .builtin "claim.caller" {}, default, []⟩) w free gens kept s := fun args hpre hlay ord hord => by
  have ⟨vs, s₁, hlaid, h⟩ := hspec args hpre hlay ord hord
  have hal := layAllW_rest _ _ _ hlaid
  have ⟨n, r, s2, s3, hsched, hrun, hfo, hR⟩ := caller_run (R := fun r s' => c.Ends s args vs s₁ r s' ∧ s'.os = s.os ∧ kept s'.heap) (Shared.asleep_of_life hal.2.2.2 hz) h
  have fe := Shared.forget_eq hfo
  refine ⟨vs, s₁, hlaid, n, _, s3, hsched, ?_, fun _ i x hx => absurd hx (by rw [hgn]; simp), fe.1 ▸ hR.2.2, congrArg Life.seen ((runN_life _ _ _ hrun).trans hal.2.2.2), Shared.rest_eq (fe.2.2.2.1.trans hR.2.1)⟩
  have hE := ClaimW.Ends.congr fe.1 hR.1
  clear hspec h hsched hrun hfo hR fe hlaid hal hpre hlay hord
  exact hE.imp (Exists.imp fun v => And.imp (fun e => by rw [e]; rfl) (And.imp_right (And.imp_right (And.imp_right (And.imp_left fun d4 b o hb _ => d4 b o hb))))) (Exists.imp fun e => Exists.imp fun ob => Exists.imp fun cls => And.imp (fun q => by rw [q]; rfl) (And.imp_right (And.imp_right (And.imp_right (And.imp_right fun d5 b o hb _ => d5 b o hb)))))
namespace PySem.W
open _root_.PySem _root_.PySem.W
/-- the library's word under a name of one's own: the head's run is then checked at once, not in pieces -/
noncomputable abbrev LeftP (p q : Program) (loose : List Str) (Xt : Shared → Bool) {α : Type} (Yf : Shared → α) (Ya : World → α) (N : Nat) : Prop := LeftO p q loose Xt Yf Ya N
theorem holds_open {r : OpenRow} {q : Program} {loose : List Str} {Xt : Shared → Bool} {XP : (Str → Option Value) → Heap → Prop} {α : Type} {Yf : Shared → α} {Ya : World → α} {YP : World → Heap → Prop} {d : DefRec} {kwd : List (Str × Expr)} {N : Nat}
    (left : LeftP r.prog q loose Xt Yf Ya N) (hY : ∀ w s, Yf s = Ya w → YP w s.heap) (hYk : ∀ w h h', YP w h → (∀ b o, h.get? b = some o → h'.get? b = some o) → YP w h')
    (hX : ∀ s, Xt s = true → XP (s.heap.nsMap mainGlobals) s.heap) (hXk : ∀ mg h h', XP mg h → (∀ b o, h.get? b = some o → h'.get? b = some o) → XP mg h')
    (hdef : defOf q r.name = some (d, kwd)) (hp : r.prog.theDef r.name = some (d.params, d.body, d.scope)) (hk : kwWritten? d.params.kwonlyargs d.params.kw_defaults = some kwd) (hRf : ∀ s, Xt s = true → RecFacts r.records s.heap) (hwr : (!r.writes || r.records.isEmpty) = true)
    (k1 : r.wellSaid = true) (ok : (chainsOk q && opensWell r.prog && (frees r.toRowW && r.within.isEmpty)) = true) (hb : r.prog.bare) (hw : r.toRowW.promised)
    (call : WalkP q loose XP YP r.toRowW d kwd) : r.Holds := by
  simp only [Bool.and_eq_true] at ok
  obtain ⟨⟨hch, how⟩, hfr, hwi⟩ := ok
  obtain ⟨hsame, hu, ha, hap, hm⟩ := frees_parts hfr
  have hwi : r.toRowW.claim.within = [] := List.isEmpty_iff.mp hwi
  have hid := ident_freeW hu ha hap
  have beh := fun w => LeftO.behind (g0 := true) left (XP := fun mg h => XP mg h ∧ RecFacts r.records h) (fun s e => ⟨hX s e, hRf s e⟩) hch w
  refine ⟨k1, hw, ⟨⟨hb, how, by show r.makers.map _ = []; rw [show r.makers = [] from hm]; rfl⟩, hw.witness, fun w => ⟨(beh w).1, fun s' hs' => ?_⟩⟩⟩
  obtain ⟨s₀, hf, hg0, s, hT, hz, hgn, hns, GX, hy⟩ := (beh w).2 s' hs'
  have RF : RecFacts r.records s.heap := GX.X.2
  have G0 : Ground q loose [] XP w s (s.heap.nsMap mainGlobals) (s.heap.nsMap builtinsNs) s.heap := { GX with X := GX.X.1 }
  have G1 : Ground q loose r.records XP w s (s.heap.nsMap mainGlobals) (s.heap.nsMap builtinsNs) s.heap := RF.ground G0
  have hgn : s.gens = #[] := Array.eq_empty_of_size_eq_zero (beq_iff_eq.mp hgn)
  refine ⟨s₀, hf, hg0, s, hT, fun n hn => ?_, RF.1, RF.2.1, callFrom_clear hz hgn fun args hpre hlay ord hord => ?_⟩
  · have : n = r.name := by split at hn <;> simp_all
    subst this
    exact pinned_of_view hns G0 hdef hp hk
  obtain ⟨⟨vs, s₁⟩, hlaid⟩ := Option.isSome_iff_exists.mp (layAllW_isSome (P := w.params) (ord := ord) G1.has args r.args s (pre_splitW hpre).1)
  have keeps := layAllW_keeps _ _ _ hlaid
  have hal := layAllW_rest _ _ _ hlaid
  obtain ⟨as, hrd, hin, hold⟩ := reads_layAllW hord _ _ _ hlaid hlay s₁.heap (fun _ _ e => e)
  have L : Laid r.records w s s₁ args vs as := ⟨⟨ord, hord, hlaid⟩, hrd, hin, hold, keeps, hal.1.trans hgn, hal.2.2.1⟩
  have G2 := G1.keeps hXk keeps
  obtain ⟨a, o, pm, cd, doc, dV, kV, f1, f2, f3, f4, f5⟩ := G2.fn hdef
  have hname := defOf_name hdef
  have hcall := call w s s₁ _ _ G2 (hYk _ _ _ (hY w s hy) keeps) a o pm cd doc dV kV f2 f3 f4 f5 (hname ▸ f1) L.gens args vs as hpre hlay L.reads L.well (L.low G1.low)
  refine ⟨vs, s₁, hlaid, ?_⟩
  show wpP _ _ (do match ← nsGet mainNs r.name with | some f => do ret (← PySem.call f vs) | none => unsupported "claim.caller:no-such-global") _ _ _
  refine wpP_seq (wpAny_nsGet G2.T.g ?_)
  rw [f1]
  have told : ∀ r' s', GoodWG r.toRowW.claim (classAt s.heap) (ExcName.means s.heap) args s₁ r' s' → (r.toRowW.claim.Ends s args vs s₁ r' s' ∧ s'.os = s.os ∧ (r.writes = true → namesKept r.prog r.keeps s.heap s'.heap ∧ ∀ x ∈ r.records, ∀ a, classAt s.heap x.1 = some a → recordClass s'.heap a x.1 (x.2.map (·.1)) = true)) ∧ leftWithCleanup s'.gens = false := fun r' s' g => by
    have z := g.laid (c := r.toRowW.claim) hsame hwi hid L
    refine ⟨⟨z.1, z.2.1, fun q => ⟨namesKept_of hT hns r.keeps keeps g.2.1.old, fun x hx _ _ => ?_⟩⟩, leftWithCleanup_false_of_bare z.2.2⟩
    rw [q] at hwr
    have e : r.records = [] := List.isEmpty_iff.mp hwr
    rw [e] at hx; cases hx
  exact wpP_bind (wpP_mono hcall (fun v s' g => wpP_pure ⟨_, rfl, told _ _ g⟩) fun e s' g => told _ _ g)
end PySem.W
end Mine
end
section
open PySem PySem.W PyProof.Rows
set_option Elab.async false
set_option maxRecDepth 100000
set_option maxHeartbeats 8000000
namespace Mine
open_top hd for PySem.Challenge.rw_ia0006_01.row
theorem kfill0 : (hd.heap_1 = hd.heap_1) ∧ PySem.Challenge.rw_ia0006_01 = PySem.Challenge.rw_ia0006_01 := by
  w_top off
  k_fill; exact ⟨rfl, rfl⟩
end Mine
end
section
open PySem PySem.W PySem.Spec PySem.Calls PyProof.Rows
set_option Elab.async false
set_option maxRecDepth 100000
set_option maxHeartbeats 8000000
namespace Mine
theorem kwT1 : True := by
  k_with_none
  k_with "mem1" => (first | (with_reducible exact List.mem_cons_self) | (with_reducible assumption) | (with_reducible refine List.mem_append_right _ ?_; k_extra "mem1") | (with_reducible refine List.mem_append_left _ ?_; k_extra "mem1") | (with_reducible refine List.mem_cons_of_mem _ ?_; k_extra "mem1"))
  k_with "sub" => (first | (intro _ hq0; k_extra "tl") | (with_reducible exact List.forall_mem_nil _) | ((with_reducible refine List.forall_mem_cons.mpr (And.intro ?_ ?_)); (focus k_extra "mem1"); k_extra "sub") | ((with_reducible refine List.forall_mem_append.mpr (And.intro ?_ ?_)); (focus k_extra "sub"); k_extra "sub"))
  k_with "tl" => (first | (with_reducible assumption) | (with_reducible refine List.mem_append_right _ ?_; k_extra "tl") | (with_reducible refine List.mem_append_left _ ?_; k_extra "tl") | (with_reducible refine List.mem_cons_of_mem _ ?_; k_extra "tl"))
  k_with "my steps" => (repeat' (first | (k_unfold; (try dsimp only)) | walk1 | (dsimp only; walk1) | (leave1; try dsimp only)))
  trivial
section
variable {prog : Program} {w : World} {A : Around} {s : Shared} {B0 : Heap} {mg mb : Str → Option Value} {p : Program} {loose : List Str} {mean : ExcName → Option Value}
  {Q E : Value → Shared → Prop}
theorem call_div2 (X0 : (hd.heap_1 w.params).In B0) (T0 : Top p loose mean mg mb B0) (S : B0.StaysIn s.heap) (hroom : A.depth < recursionLimit)
   {a b n : Int} {ta tb tn : Tok} (hb : 0 < b) (hb2 : b < 1073741824) (ha : 0 ≤ a) (hl : (Builtin.Int.intBits a : Int) - n ≤ 4000)
   (ret : ∀ D h' tk t1 t2, (∀ b o, s.heap.get? b = some o → h'.get? b = some o) → s.heap.get? D = none → h'.get? D = some { cls := .type "tuple", data := .seq #[.int (a/b) t1, .int (a%b) t2] } → Q (.ref D) {s with heap := h', toks := tk}) :
   wpAny (model prog w) A (call (.ref 21) [.int a ta, .int b tb, .int n tn]) Q E s := by
  (k_dflt (refine' enter_def (args := ⟨_, _⟩) [] ?X ?T ?S ?N ?k6 ?k7 ?k8 ?k9 ?kB ?_ ?c3 ?c4 ?c5 ?c6; (case X => assumption); (case T => assumption); (case S => assumption); (case N => (intro _ h; nomatch h)); (case k6 => k_is); (case k7 => k_is); (case k8 => assumption); (case k9 => exact BindsTo.of_eq rfl); (case c6 => decide); (case kB => exact locs rfl); (case c3 => exact rfl); (case c4 => exact rfl); (case c5 => exact rfl)))
  intro g L' h₁ Z F N X T
  walk_at "my steps"
  rename Fr _ _ _ _ => F'
  rename News _ _ _ _ => N'
  have K := Z.kept F'
  refine ret _ _ _ _ _ (fun b o e => K b o (by simp) e) ?_ (by
    have := (N' _ (List.mem_cons_self ..)).1
    rw [Int.fdiv_eq_ediv_of_nonneg _ (by omega), Int.fmod_eq_emod_of_nonneg _ (by omega)] at this
    exact this)
  refine Heap.get?_none_of_le ?_
  have := F.ns.lt
  rw [Z.L] at this
  exact Nat.le_of_lt this
end
end Mine
end
section
open PySem PySem.W PySem.Spec PySem.Calls PyProof.Rows
set_option Elab.async false
set_option maxRecDepth 100000
set_option maxHeartbeats 8000000
namespace Mine
/-- a maker's table: empty, or it holds the one code made -/
noncomputable def TabIs (h : Heap) (l c : Nat) (qual : Str) (ps : Array Value) : Prop := ps = #[] ∨ ∃ c', ps = #[rawInt l, rawInt c, .ref c'] ∧ h.CodeRec (.ref c') qual
noncomputable def TabH (h : Heap) (P : Addr) (l c : Nat) (qual : Str) : Prop := ∃ ps, h.get? P = some (tabObj ps) ∧ TabIs h l c qual ps
section
variable {prog : Program} {w : World} {A : Around} {s : Shared} {Q E : Value → Shared → Prop} {h₀ : Heap} {L : Addr} {m : Str → Option Value} {news : List (Addr × Obj)}
theorem foldl_rep (v : Value) : ∀ (k : Nat) (acc : Array Value), List.foldl (fun x1 x2 => x1 ++ x2) acc (List.replicate k #[v]) = acc ++ (List.replicate k v).toArray
  | 0, acc => by simp
  | k + 1, acc => by
    rw [List.replicate_succ, List.foldl_cons, foldl_rep v k, List.replicate_succ]
    apply Array.toList_inj.mp; simp
theorem ints_rep (z : Int) (t : Tok) : ∀ k : Nat, IntsAre (List.replicate k (Value.int z t)) (List.replicate k z)
  | 0 => .nil
  | k + 1 => by rw [List.replicate_succ, List.replicate_succ]; exact .cons _ _ (ints_rep z t k)
theorem rep_int {l : Addr} {z x : Int} {tz u : Tok} {c : Nat} (F : Fr h₀ L s.heap m) (N : News h₀ L s.heap news) (hm : (l, listOf #[.int z tz] c) ∈ news) (h0 : 0 ≤ x) (h1 : x ≤ 100000)
    (h : ∀ D h' vs, Fr h₀ L h' m → News h₀ L h' ((D, listOf vs.toArray 0) :: news) → IntsAre vs (List.replicate x.toNat z) → (∀ q ∈ news, q.1 < D) → Q (.ref D) { s with heap := h' }) :
    wpAny (model prog w) A (binaryOp .Mult (.ref l) (.int x u)) Q E s := by
  refine mul_list F N (N _ hm).1 (by omega) (by omega) (by simp; omega) fun h' F' N' => ?_
  refine h _ h' (List.replicate x.toNat (.int z tz)) F' ?_ (ints_rep z tz _) fun q hq => Heap.lt_size (N q hq).1
  have e : (List.foldl (fun x1 x2 => x1 ++ x2) #[] (List.replicate (if (#[Value.int z tz] : Array Value).isEmpty = true then 0 else x.toNat) #[Value.int z tz])) = (List.replicate x.toNat (Value.int z tz)).toArray := by
    rw [if_neg (by simp), foldl_rep]; simp
  rw [e] at N'; exact N'
end
section
variable {M : Model} {A : Around} {E : Value → Shared → Prop} {s : Shared} {h₀ : Heap} {L a c P : Addr} {m mg mb : Str → Option Value} {cn : Str} {cs : Scope} {ccd : Value} {cl : List (Str × Addr)} {news : List (Addr × Obj)} {gg : Obj → List (Addr × Obj)}
  {p : Program} {loose : List Str} {mean : ExcName → Option Value} {name qual : Str} {params : Arguments} {body : List Stmt} {scope : Scope} {ps : Array Value} {pos : Pos} {firstLine : Nat} {clos : List (Str × Addr)}
theorem nest_any {Q : Value → Shared → Prop} {l k : Nat} (F : Fr h₀ L s.heap m) (N : News h₀ L s.heap news) (T : Top p loose mean mg mb h₀) (C : CodeHd h₀ c P) (hcd : ccd = .ref c) (U : UpdF P (tabObj ps) news gg)
    (ht : TabIs h₀ l k qual ps) (hl : pos.line = l) (hk : pos.col = k)
    (hcl : closureFor scope (envX cn cs L a ccd cl) = pure clos)
    (h : ∀ f e oe c' ctv doc ps' h' tk, Fr h₀ L h' m →
      News h₀ L h' ((f, fnMade name qual params body scope clos doc ((mg "__name__").getD .none) c' ctv) :: (e, oe) :: gg (tabObj ps')) → ps' = #[rawInt l, rawInt k, .ref c'] →
      (∀ h'' : Heap, (∀ b o, h₀.get? b = some o → h''.get? b = some o) → h''.get? e = some oe → h''.CodeRec (.ref c') qual) → (∀ q ∈ news, q.1 < e) → e ≤ f → (∀ q ∈ news, q.1 < f) → Q (.ref f) { s with heap := h', toks := tk }) :
    wpAny M A (makeFunction name qual params (.stmts body) scope (envX cn cs L a ccd cl) [] [] [] pos firstLine) Q E s := by
  subst hl; subst hk
  rcases ht with rfl | ⟨c', rfl, hrec⟩
  · refine nest_K F N T C hcd U trivial rfl hcl fun f c' oc vs t ctv doc h' tk F' N' hd hv l1 l2 => ?_
    exact h f c' oc c' ctv doc _ h' tk F' N' (by simp) (fun h'' _ e => ⟨c', oc, vs, t, rfl, e, hd, hv⟩) l1 (Nat.le_of_lt l2) fun q hq => Nat.lt_trans (l1 q hq) l2
  · obtain ⟨own, rest, rfl, hgr, h1, h2⟩ := U.split
    refine nestHit_K (c' := c') F N T C hcd (List.mem_append_right _ (.head _)) (by simp [TriplesOk, rawInt]) (by simp [codeAmong, rawInt]) hcl fun f ctv doc h' tk F' N' l1 => ?_
    have N2 : News h₀ L h' ((f, fnMade name qual params body scope clos doc ((mg "__name__").getD .none) c' ctv) :: (f, fnMade name qual params body scope clos doc ((mg "__name__").getD .none) c' ctv) :: gg (tabObj #[rawInt pos.line, rawInt pos.col, .ref c'])) := fun q hq => by
      rw [hgr] at hq
      rcases List.mem_cons.mp hq with rfl | hq
      · exact N' _ (.head _)
      · exact N' _ hq
    exact h f f _ c' ctv doc _ h' tk F' N2 rfl (fun h'' hk _ => hrec.keeps hk) l1 (Nat.le_refl _) l1
end
end Mine
end
section
open PySem PySem.W PySem.Spec PySem.Calls PyProof.Rows
set_option Elab.async false
set_option maxRecDepth 100000
set_option maxHeartbeats 8000000
namespace Mine
theorem kwT4 : True := by
  k_with_none
  k_with "mem1" => (first | (with_reducible exact List.mem_cons_self) | (with_reducible assumption) | (with_reducible refine List.mem_append_right _ ?_; k_extra "mem1") | (with_reducible refine List.mem_append_left _ ?_; k_extra "mem1") | (with_reducible refine List.mem_cons_of_mem _ ?_; k_extra "mem1"))
  k_with "sub" => (first | (intro _ hq0; k_extra "tl") | (with_reducible exact List.forall_mem_nil _) | ((with_reducible refine List.forall_mem_cons.mpr (And.intro ?_ ?_)); (focus k_extra "mem1"); k_extra "sub") | ((with_reducible refine List.forall_mem_append.mpr (And.intro ?_ ?_)); (focus k_extra "sub"); k_extra "sub"))
  k_with "tl" => (first | (with_reducible assumption) | (with_reducible refine List.mem_append_right _ ?_; k_extra "tl") | (with_reducible refine List.mem_append_left _ ?_; k_extra "tl") | (with_reducible refine List.mem_cons_of_mem _ ?_; k_extra "tl"))
  k_with "my steps" => (repeat' (first | (k_unfold; (try dsimp only)) | walk1 | (dsimp only; walk1) | (leave1; try dsimp only)))
  trivial
/-- the def within the def at 35 -/
noncomputable def Inner35 (w : World) (nm : Str) (params : Arguments) (body : List Stmt) (scope : Scope) : Prop := ∃ oc od osl name qual ps s1 pos s3 s4 sc dV kV doc pm an cdv ct,
  (hd.heap_1 w.params).lookup 35 = some ⟨oc, od, .func (fnOf name qual ps [s1, .FunctionDef nm params body [] none [] scope none nm pos, s3, s4] sc dV kV doc pm an cdv ct), osl⟩
section
variable {prog : Program} {w : World} {B0 : Heap} {mg mb : Str → Option Value} {p : Program} {loose : List Str} {mean : ExcName → Option Value}

theorem inner_digs {nm qual : Str} {params : Arguments} {body : List Stmt} {scope : Scope} (h35 : Inner35 w nm params body scope) (X0 : (hd.heap_1 w.params).In B0) (T0 : Top p loose mean mg mb B0)
    {doc pm ctv : Value} {f D e cA cN cI c' : Addr} {oe oA oN oI : Obj} {n : Int} {tn : Tok} (hn : 1 ≤ n) (hn2 : n ≤ 30) {C P : Addr} (CH : CodeHd B0 C P)
    (hA : oA.data = .cell (some (.ref D))) (hN : oN.data = .cell (some (.int n tn))) (hI : oI.data = .cell (some (.ref f)))
    (hrec : ∀ h'' : Heap, (∀ b o, B0.get? b = some o → h''.get? b = some o) → h''.get? e = some oe → h''.CodeRec (.ref c') qual)
    (b1 : B0.get? f = none) (b2 : B0.get? D = none) (b3 : B0.get? e = none) (b4 : B0.get? cA = none) (b5 : B0.get? cN = none) (b6 : B0.get? cI = none)
    (l1 : @LT.lt Nat _ D f ∧ @LT.lt Nat _ D e ∧ @LT.lt Nat _ cA D ∧ @LT.lt Nat _ cN D ∧ @LT.lt Nat _ cI D) : ∀ (k : Nat) (A : Around) (s : Shared) (Q E : Value → Shared → Prop) (x lo hi : Int) (tx tl tr : Tok) (vs : List Value) (ds : List Int) (cnt : Nat),
    hi - lo ≤ k → A.depth + k < recursionLimit → B0.StaysIn s.heap →
    (∀ q ∈ [(f, fnMade nm qual params body scope [(Str.ofString "n", cN), (Str.ofString "inner", cI), (Str.ofString "a_digits", cA)] doc pm c' ctv), (e, oe), (cA, oA), (cN, oN), (cI, oI)], s.heap.get? q.1 = some q.2) →
    s.heap.get? D = some (listOf vs.toArray cnt) → IntsAre vs ds → 0 ≤ lo → lo < hi → hi ≤ ds.length → ds.length ≤ 60 → 0 ≤ x → x < 2 ^ (n.toNat * (hi - lo).toNat) → x < 1152921504606846976 →
    (∀ h' tk vs' ds' cnt', (∀ b o, b ≠ D → s.heap.get? b = some o → h'.get? b = some o) → h'.get? D = some (listOf vs'.toArray cnt') → IntsAre vs' ds' → DigSet n x lo hi ds ds' → Q .none { s with heap := h', toks := tk }) →
    wpAny (model prog w) A (call (.ref f) [.int x tx, .int lo tl, .int hi tr]) Q E s := by
  obtain ⟨oc, od, osl, name, ql, ps, s1, pos, s3, s4, sc, dV, kV, doc', pm', an, cdv, ct, e1⟩ := h35
  have e2 := e1.symm.trans (show (hd.heap_1 w.params).lookup 35 = _ by k_is)
  obtain ⟨FO, hFO⟩ : ∃ FO, FO = fnMade nm qual params body scope [(Str.ofString "n", cN), (Str.ofString "inner", cI), (Str.ofString "a_digits", cA)] doc pm c' ctv := ⟨_, rfl⟩
  rw [← hFO]
  cases e2
  clear e1
  intro k
  induction k with
  | zero => intros; omega
  | succ k IH =>
    intro A s Q E x lo hi tx tl tr vs ds cnt hk hroom S hM hD hV h0 h1 h2 h3 x0 x1 x2 ret
    have hf : s.heap.get? f = some FO := hM _ (List.mem_cons_self ..)
    rw [hFO] at hf
    have hcr := hrec s.heap S (hM (e, oe) (List.mem_cons_of_mem _ (List.mem_cons_self ..)))
    (k_dflt (refine' enter_nest (args := ⟨_, _⟩) ?tabs ?X ?T ?S ?N ?k6 ?k7 ?k8 ?k9 ?kB ?_ ?c3 ?c4 ?c5 ?c6; (case X => assumption); (case T => assumption); (case S => assumption); (case k6 => assumption); (case k7 => assumption); (case k8 => omega); (case k9 => exact BindsTo.of_eq rfl); (case c6 => decide); (case kB => exact locs rfl); (case c3 => exact rfl); (case c4 => exact rfl); (case c5 => exact rfl)))
    case tabs => exact (D, listOf vs.toArray cnt) :: [(f, FO), (e, oe), (cA, oA), (cN, oN), (cI, oI)]
    case N =>
      intro q hq
      rcases List.mem_cons.mp hq with rfl | hq
      · exact ⟨hD, b2⟩
      · refine ⟨hM q hq, ?_⟩
        simp only [List.mem_cons, List.not_mem_nil, or_false] at hq
        rcases hq with rfl | rfl | rfl | rfl | rfl <;> assumption
    intro g L' h₁ Z F N X T
    have CH' := CH.keeps Z.st
    rw [hFO] at N
    walk_at "my steps"
    · -- one place
      (rename Fr _ _ _ _ => F'); (rename News _ _ _ _ => N'); (rename IntsAre (List.set _ _ _) _ => hV'); (rename lo + 1 = hi => e1)
      (try dsimp only)
      refine ret _ _ _ _ _ (fun b o hb e => ?_) (N' _ (.head _)).1 hV' (dig_base h0 e1 x0 x1)
      refine Z.keptBut F' [D] (fun q hq hb => ?_) b o (by simpa using hb) e
      rcases List.mem_cons.mp hq with rfl | hq
      · exact absurd (List.mem_singleton.mpr rfl) hb
      · rw [← hFO] at N'; exact (N' q (.tail _ hq)).1
    · (rename ¬ lo + 1 = hi => e1)
      obtain ⟨mid, hm, m1, m2⟩ : ∃ mid : Int, (lo + hi).fdiv (2 ^ (1 : Int).toNat) = mid ∧ lo < mid ∧ mid < hi := by
        refine ⟨_, rfl, ?_⟩
        show lo < (lo + hi).fdiv 2 ∧ (lo + hi).fdiv 2 < hi
        rw [Int.fdiv_eq_ediv_of_nonneg _ (by decide)]; omega
      have hs0 : 0 ≤ (mid - lo) * n := Int.mul_nonneg (by omega) (by omega)
      have hs1 : (mid - lo) * n ≤ 60 * 30 := Int.mul_le_mul (by omega) hn2 (by omega) (by omega)
      have hs2 : ((mid - lo) * n).toNat = n.toNat * (mid - lo).toNat := by rw [Int.toNat_mul (by omega) (by omega), Nat.mul_comm]
      obtain ⟨sh, hsh⟩ : ∃ sh, (mid - lo) * n = sh := ⟨_, rfl⟩
      rw [hsh] at hs0 hs1 hs2
      (rename Fr _ _ _ _ => F')
      simp only [hm, hsh] at F' ⊢
      with_reducible refine rshift_int ?_ ?_
      · exact hs0
      walk_at "my steps"
      have hlow := xor_low (k := sh.toNat) x0
      have hup : x.fdiv (2 ^ sh.toNat) = x / 2 ^ sh.toNat := Int.fdiv_eq_ediv_of_nonneg _ (Int.pow_nonneg (by decide))
      have p0 : (0 : Int) < 2 ^ sh.toNat := Int.pow_pos (by decide)
      (rename Fr _ _ _ _ => F'); (rename News _ _ _ _ => N')
      rw [hlow]
      simp only [hup] at F'
      rw [← hFO] at N'
      have hd1 : (mid - lo).toNat + (hi - mid).toNat = (hi - lo).toNat := by omega
      refine' IH _ _ _ _ _ _ _ _ _ _ vs ds cnt ?a1 ?a2 ?a3 ?a4 ?a5 hV h0 m1 ?a8 h3 ?a10 ?a11 ?a12 ?_
      case a1 => omega
      case a2 => show A.depth + 1 + k < _; omega
      case a3 => exact fun b o q => F'.keep b o (Z.st b o q)
      case a4 => exact fun q hq => (N' q (.tail _ hq)).1
      case a5 => exact (N' _ (.head _)).1
      case a8 => omega
      case a10 => exact Int.emod_nonneg _ (by omega)
      case a11 => rw [← hs2]; exact Int.emod_lt_of_pos _ p0
      case a12 => have := emod_le x0 p0; omega
      intro h2' tk2 vs2 ds2 cnt2 k2 hD2 hV2 hd2
      have F2 := back_fr F' (tabs := [D]) (fun b o hb q => k2 b o (by simpa using hb) q) (by simpa using (N' _ (.head _)).2.2) (by simpa using (N' _ (.head _)).2.1.symm)
      have N2 : News g L' h2' [(D, listOf vs2.toArray cnt2), (f, FO), (e, oe), (cA, oA), (cN, oN), (cI, oI)] := by
        intro q hq
        rcases List.mem_cons.mp hq with rfl | hq
        · exact ⟨hD2, (N' _ (.head _)).2⟩
        · have := N' q (.tail _ hq)
          refine ⟨k2 _ _ ?_ this.1, this.2⟩
          simp only [List.mem_cons, List.not_mem_nil, or_false] at hq
          rcases hq with rfl | rfl | rfl | rfl | rfl <;> k_ne
      rw [hFO] at N2
      clear N' F'
      walk_at "my steps"
      (rename Fr _ _ _ _ => F'); (rename News _ _ _ _ => N')
      rw [← hFO] at N'
      have hlen := hd2.1
      refine' IH _ _ _ _ _ _ _ _ _ _ vs2 ds2 cnt2 ?a1 ?a2 ?a3 ?a4 ?a5 hV2 ?a7 m2 ?a8 ?a9 ?a10 ?a11 ?a12 ?_
      case a1 => omega
      case a2 => show A.depth + 1 + k < _; omega
      case a3 => exact fun b o q => F'.keep b o (Z.st b o q)
      case a4 => exact fun q hq => (N' q (.tail _ hq)).1
      case a5 => exact (N' _ (.head _)).1
      case a7 => omega
      case a8 => omega
      case a9 => omega
      case a10 => exact Int.ediv_nonneg x0 (by omega)
      case a11 => rw [hs2]; refine Int.ediv_lt_of_lt_mul (by rw [← hs2]; exact p0) ?_; rw [← Int.pow_add, ← Nat.mul_add, Nat.add_comm, hd1]; exact x1
      case a12 => have := Int.ediv_le_self (2 ^ sh.toNat) x0; omega
      intro h3' tk3 vs3 ds3 cnt3 k3 hD3 hV3 hd3
      have F3 := back_fr F' (tabs := [D]) (fun b o hb q => k3 b o (by simpa using hb) q) (by simpa using (N' _ (.head _)).2.2) (by simpa using (N' _ (.head _)).2.1.symm)
      have N3 : ∀ q ∈ [(f, FO), (e, oe), (cA, oA), (cN, oN), (cI, oI)], h3'.get? q.1 = some q.2 := by
        intro q hq
        have := N' q (.tail _ hq)
        refine k3 _ _ ?_ this.1
        simp only [List.mem_cons, List.not_mem_nil, or_false] at hq
        rcases hq with rfl | rfl | rfl | rfl | rfl <;> k_ne
      clear N' F'
      walk_at "my steps"
      rw [hs2] at hd2 hd3
      refine ret _ _ _ _ _ (fun b o hb q => ?_) hD3 hV3 (dig_step x0 h0 m1 m2 h2 hd2 hd3)
      refine Z.keptBut F3 [D] (fun q hq hb => ?_) b o (by simpa using hb) q
      rcases List.mem_cons.mp hq with rfl | hq
      · exact absurd (List.mem_singleton.mpr rfl) hb
      · exact N3 q hq
end
end Mine
end
section
open PySem PySem.W PySem.Spec PySem.Calls PyProof.Rows
set_option Elab.async false
set_option maxRecDepth 100000
set_option maxHeartbeats 8000000
namespace Mine
theorem mem_e4_T3 {x a0 a1 a2 a3 : Addr × Obj} (h : x ∈ [a0, a1, a2, a3]) : x = a0 ∨ x = a1 ∨ x = a2 ∨ x = a3 := by simpa using h
theorem kwT3 : True := by
  k_with_none
  k_with "mem1" => (first | (with_reducible exact List.mem_cons_self) | (with_reducible assumption) | (with_reducible refine List.mem_append_right _ ?_; k_extra "mem1") | (with_reducible refine List.mem_append_left _ ?_; k_extra "mem1") | (with_reducible refine List.mem_cons_of_mem _ ?_; k_extra "mem1"))
  k_with "sub" => (first | (intro _ hq0; k_extra "tl") | (with_reducible exact List.forall_mem_nil _) | ((with_reducible refine List.forall_mem_cons.mpr (And.intro ?_ ?_)); (focus k_extra "mem1"); k_extra "sub") | ((with_reducible refine List.forall_mem_append.mpr (And.intro ?_ ?_)); (focus k_extra "sub"); k_extra "sub"))
  k_with "tl" => (first | (with_reducible assumption) | (with_reducible refine List.mem_append_right _ ?_; k_extra "tl") | (with_reducible refine List.mem_append_left _ ?_; k_extra "tl") | (with_reducible refine List.mem_cons_of_mem _ ?_; k_extra "tl"))
  k_with "my steps" => (repeat' (first | (k_unfold; (try dsimp only)) | k_extra "own" | walk1 | (dsimp only; (first | k_extra "own" | walk1)) | (leave1; try dsimp only)))
  k_with "my step" => ((first | (k_unfold; (try dsimp only)) | k_extra "own" | walk1 | (dsimp only; (first | k_extra "own" | walk1)) | (leave1; try dsimp only)))
  k_with "own" => ((k_here; (with_reducible show wpAny _ _ (binaryOp Operator.Mult (Value.ref _) (Value.int _ _)) _ _ _); k_dflt (refine' rep_int (by k_asm) (by k_asm) (by k_mem) (by omega) (by omega) ?_; k_whole); intro _ _ _ _ _ _ l1'; k_lt l1'); (revert l1'; intro _))
  k_with "own" => ((k_here; (with_reducible show wpAny _ _ (call (Value.builtin "len") [Value.ref _]) _ _ _); k_dflt (refine' len_own (by k_asm) (by k_mem) (by with_reducible assumption) (by omega) ?_; k_whole); intro _ _))
  trivial
section
variable {prog : Program} {w : World} {A : Around} {s : Shared} {Q E : Value → Shared → Prop} {h₀ : Heap} {L : Addr} {m : Str → Option Value} {news : List (Addr × Obj)}
theorem len_own {D : Addr} {vs : List Value} {ds : List Int} {c : Nat} (N : News h₀ L s.heap news) (hm : (D, listOf vs.toArray c) ∈ news) (hi : IntsAre vs ds) (hs : ds.length ≤ 16777216)
    (h : ∀ t tk, Q (.int ds.length t) { s with toks := tk }) : wpAny (model prog w) A (call (.builtin "len") [.ref D]) Q E s := by
  have e : (vs.toArray.size : Int) = ds.length := by rw [List.size_toArray, hi.length]
  refine len_list (N.isList (n := c) hm) ?_ ?_
  · rw [e]; omega
  · rw [e]; exact h _ _
end
section
variable {prog : Program} {w : World} {A : Around} {s : Shared} {B0 : Heap} {mg mb : Str → Option Value} {p : Program} {loose : List Str} {mean : ExcName → Option Value}
  {Q E : Value → Shared → Prop}
theorem call_i2d (X0 : (hd.heap_1 w.params).In B0) (T0 : Top p loose mean mg mb B0) (S : B0.StaysIn s.heap) (hroom : A.depth + 70 < recursionLimit) (h30 : B0.get? 30 = none) (C30 : CodeHd B0 34 30)
   {a n : Int} {ta tn : Tok} (ha : 0 ≤ a) (ha2 : a < 1152921504606846976) (hn : 1 ≤ n) (hn2 : n ≤ 30) (ht : TabH s.heap 30 32 4 "_int2digits.<locals>.inner")
   (ret : ∀ D h' tk vs ds cnt, (∀ b o, b ≠ 30 → s.heap.get? b = some o → h'.get? b = some o) → s.heap.get? D = none → h'.get? D = some (listOf vs.toArray cnt) → TabH h' 30 32 4 "_int2digits.<locals>.inner" → IntsAre vs ds → DigOf n a ds → Q (.ref D) {s with heap := h', toks := tk}) :
   wpAny (model prog w) A (call (.ref 35) [.int a ta, .int n tn]) Q E s := by
  obtain ⟨ps, ht1, ht2⟩ := ht
  (k_dflt (refine' enter_defC (args := ⟨_, _⟩) ?tabs ?X ?T ?S ?N ?k6 ?k7 ?k8 ?k9 ?kB ?kD ?_ ?c3 ?c4 ?c5; (case X => assumption); (case T => assumption); (case S => assumption); (case k6 => k_is); (case k7 => k_is); (case k8 => omega); (case k9 => exact BindsTo.of_eq rfl); (case kB => exact rfl); (case kD => decide +kernel); (case c3 => exact rfl); (case c4 => exact rfl); (case c5 => exact rfl)))
  case tabs => exact [(30, tabObj ps)]
  case N => exact fun q hq => by rw [List.mem_singleton.mp hq]; exact ⟨ht1, h30⟩
  intro g L' h₁ tk cells Z F N Y X T
  have ht3 : TabIs g 32 4 "_int2digits.<locals>.inner" ps := by
    rcases ht2 with e | ⟨c', e, c, oc, vs, t, e2, hc, hd, hv⟩
    · exact .inl e
    · cases e2
      exact .inr ⟨c', e, c', oc, vs, t, rfl, Z.old c' oc (by
        intro hm
        have : c' = 30 := List.mem_singleton.mp hm
        rw [this, ht1] at hc; cases hc; cases hd
        rw [e] at hv; cases hv) hc, hd, hv⟩
  have l1 := Z.lt
  have CH := C30.keeps Z.st
  k_lt l1
  k_dflt (have hY := CellsAre.three Y; obtain ⟨o1, o2, o3, hE, dI, dA, dN⟩ := hY)
  subst hE
  clear Y
  simp only [List.cons_append, List.nil_append] at N
  have dN' : o3.data = .cell (some (.int n tn)) := dN
  clear dN
  obtain ⟨Nn, hN1, hN2, hN3⟩ := digs_count ha ha2 hn
  walk_at "my steps"
  (rename IntsAre _ _ => hI); (rename Obj.data _ = Data.cell (some (Value.ref _)) => dA')
  rw [hN1] at hI
  simp only [Int.toNat_natCast] at hI
  (rename Fr _ _ _ _ => F'); (rename News _ _ _ _ => N')
  rename_i l0 hp0 ll0 D hp1 vs0 ll1 hp2 oA
  have hlen : (List.replicate Nn (0 : Int)).length = Nn := List.length_replicate
  k_dflt (refine nestDef_K rfl rfl rfl ?_)
  k_dflt (refine' nest_any ?F ?N ?T ?C ?cd ?U ?t ?l ?k ?cl ?_; (case F => exact F'); (case N => exact N'); (case T => k_asm); (case cd => exact rfl); (case C => kn_code); (case U => k_updF); (case t => exact ht3); (case l => rfl); (case k => rfl); (case cl => exact rfl); k_whole)
  intro f e oe c' ctv doc ps' h' tk F' N' hps hrec l3 l4 l5
  (try dsimp only at N')
  k_lt l3
  k_lt l5
  walk_at "my steps"
  · (rename Fr _ _ _ _ => F'); (rename News _ _ _ _ => N'); (rename Obj.data _ = Data.cell (some (Value.ref f)) => dI'); (rename a ≠ 0 => ha0)
    have hN0 := digs_some ha0 hN2
    rw [hlen]
    refine' inner_digs (f := f) (e := e) (cA := L' + 1 + 1) (cN := L' + 1) (cI := L' + 1 + 1 + 1) ?h35 X T hn hn2 CH dA' dN' dI' hrec ?b1 ?b2 ?b3 ?b4 ?b5 ?b6 ?l1 Nn _ _ _ _ _ _ _ _ _ _ _ _ _ ?a1 ?a2 ?a3 ?a4 ?a5 hI ?a7 ?a8 ?a9 ?a10 ?a11 ?a12 ?a13 ?_
    case h35 => refine' ⟨_, _, _, _, _, _, _, _, _, _, _, _, _, _, _, _, _, _, ?h⟩; case h => exact rfl
    case b1 => exact (N' (_, _) (by k_mem)).2.2
    case b2 => exact (N' (_, _) (by k_mem)).2.2
    case b3 => exact (N' (_, _) (by k_mem)).2.2
    case b4 => exact (N' (_, _) (by k_mem)).2.2
    case b5 => exact (N' (_, _) (by k_mem)).2.2
    case b6 => exact (N' (_, _) (by k_mem)).2.2
    case l1 => omega
    case a1 => omega
    case a2 => show A.depth + 1 + Nn < _; omega
    case a3 => exact F'.keep
    case a4 =>
      intro q hq
      simp only [List.mem_cons, List.not_mem_nil, or_false] at hq
      rcases hq with rfl | rfl | rfl | rfl | rfl <;> exact (N' (_, _) (by k_mem)).1
    case a5 => exact (N' (_, _) (by k_mem)).1
    case a7 => omega
    case a8 => omega
    case a9 => omega
    case a10 => omega
    case a11 => exact ha
    case a12 => have := digs_room ha hn hN2; simpa using this
    case a13 => exact ha2
    intro h2' tk2 vs2 ds2 cnt2 k2 hD2 hV2 hd2
    have F2 := back_fr F' (tabs := [_]) (fun b o hb q => k2 b o (by simpa using hb) q) (by simpa using (N' (_, listOf _ 0) (by k_mem)).2.2) (by simpa using (N' (_, listOf _ 0) (by k_mem)).2.1.symm)
    have N2 : News g L' h2' [(D, listOf vs2.toArray cnt2), (L' + 1 + 1, oA), (30, tabObj ps'), (e, oe)] := by
      intro q hq
      replace hq := mem_e4_T3 hq
      rcases hq with rfl | rfl | rfl | rfl
      · exact ⟨hD2, (N' (_, listOf _ 0) (by k_mem)).2⟩
      · exact ⟨k2 _ _ (by k_ne) (N' (_, _) (by k_mem)).1, (N' (_, _) (by k_mem)).2⟩
      · exact ⟨k2 _ _ (by k_ne) (N' (_, _) (by k_mem)).1, (N' (_, _) (by k_mem)).2⟩
      · exact ⟨k2 _ _ (by k_ne) (N' (_, _) (by k_mem)).1, (N' (_, _) (by k_mem)).2⟩
    clear F' N'
    walk_at "my steps"
    (try dsimp only)
    refine ret _ _ _ _ _ _ (fun b o hb q => ?_) (Z.fresh (D := D) (ltN (by omega))) (N2 _ (.head _)).1 ⟨_, (N2 (30, _) (by k_mem)).1, .inr ⟨c', hps, hrec _ F2.keep (N2 (e, _) (by k_mem)).1⟩⟩ hV2 (digOf_set hlen hN3 (digs_room ha hn hN2) hd2)
    exact Z.keptBut F2 [30] (fun q hq hb => absurd (by rw [List.mem_singleton.mp hq]; exact List.mem_singleton.mpr rfl) hb) b o (by simpa using hb) q
  · (rename Fr _ _ _ _ => F'); (rename News _ _ _ _ => N')
    have ha0 : a = 0 := by omega
    (try dsimp only)
    refine ret _ _ _ _ _ _ (fun b o hb q => ?_) (Z.fresh (D := D) (ltN (by omega))) (N' (D, _) (by k_mem)).1 ⟨_, (N' (30, _) (by k_mem)).1, .inr ⟨c', hps, hrec _ F'.keep (N' (e, _) (by k_mem)).1⟩⟩ hI ?_
    · exact Z.keptBut F' [30] (fun q hq hb => absurd (by rw [List.mem_singleton.mp hq]; exact List.mem_singleton.mpr rfl) hb) b o (by simpa using hb) q
    · refine ⟨by omega, by rw [hlen]; exact digs_room ha hn hN2, fun i hi => ?_⟩
      subst ha0
      simp [List.getD_eq_getElem?_getD, List.getElem?_replicate]
      split <;> rfl
end
end Mine
end
section
open PySem PySem.W PySem.Spec PySem.Calls PyProof.Rows
set_option Elab.async false
set_option maxRecDepth 100000
set_option maxHeartbeats 8000000
namespace Mine
theorem mem_e6_T5 {x a0 a1 a2 a3 a4 a5 : Addr × Obj} (h : x ∈ [a0, a1, a2, a3, a4, a5]) : x = a0 ∨ x = a1 ∨ x = a2 ∨ x = a3 ∨ x = a4 ∨ x = a5 := by simpa using h
theorem kwT5 : True := by
  k_with_none
  k_with "mem1" => (first | (with_reducible exact List.mem_cons_self) | (with_reducible assumption) | (with_reducible refine List.mem_append_right _ ?_; k_extra "mem1") | (with_reducible refine List.mem_append_left _ ?_; k_extra "mem1") | (with_reducible refine List.mem_cons_of_mem _ ?_; k_extra "mem1"))
  k_with "sub" => (first | (intro _ hq0; k_extra "tl") | (with_reducible exact List.forall_mem_nil _) | ((with_reducible refine List.forall_mem_cons.mpr (And.intro ?_ ?_)); (focus k_extra "mem1"); k_extra "sub") | ((with_reducible refine List.forall_mem_append.mpr (And.intro ?_ ?_)); (focus k_extra "sub"); k_extra "sub"))
  k_with "tl" => (first | (with_reducible assumption) | (with_reducible refine List.mem_append_right _ ?_; k_extra "tl") | (with_reducible refine List.mem_append_left _ ?_; k_extra "tl") | (with_reducible refine List.mem_cons_of_mem _ ?_; k_extra "tl"))
  k_with "my steps" => (repeat' (first | (k_unfold; (try dsimp only)) | k_extra "own" | walk1 | (dsimp only; (first | k_extra "own" | walk1)) | (leave1; try dsimp only)))
  k_with "own" => ((k_here; (with_reducible show wpAny _ _ (call (Value.builtin "len") [Value.ref _]) _ _ _); k_dflt (refine' len_own (by k_asm) (by k_mem) (by with_reducible assumption) (by omega) ?_; k_whole); intro _ _))
  trivial
/-- the def within the def at 42 -/
noncomputable def Inner42 (w : World) (nm : Str) (params : Arguments) (body : List Stmt) (scope : Scope) : Prop := ∃ oc od osl name qual ps pos s3 sc dV kV doc pm an cdv ct,
  (hd.heap_1 w.params).lookup 42 = some ⟨oc, od, .func (fnOf name qual ps [.FunctionDef nm params body [] none [] scope none nm pos, s3] sc dV kV doc pm an cdv ct), osl⟩
section
variable {prog : Program} {w : World} {B0 : Heap} {mg mb : Str → Option Value} {p : Program} {loose : List Str} {mean : ExcName → Option Value}
theorem inner_val {nm qual : Str} {params : Arguments} {body : List Stmt} {scope : Scope} (h42 : Inner42 w nm params body scope) (X0 : (hd.heap_1 w.params).In B0) (T0 : Top p loose mean mg mb B0)
    {doc pm ctv : Value} {f D e cA cN cI c' : Addr} {oe oA oN oI : Obj} {n : Int} {tn : Tok} (hn : 1 ≤ n) (hn2 : n ≤ 30) {C P : Addr} (CH : CodeHd B0 C P) {vs : List Value} {ds : List Int} {cnt : Nat}
    (hA : oA.data = .cell (some (.ref D))) (hN : oN.data = .cell (some (.int n tn))) (hI : oI.data = .cell (some (.ref f)))
    (hrec : ∀ h'' : Heap, (∀ b o, B0.get? b = some o → h''.get? b = some o) → h''.get? e = some oe → h''.CodeRec (.ref c') qual)
    (b1 : B0.get? f = none) (b2 : B0.get? D = none) (b3 : B0.get? e = none) (b4 : B0.get? cA = none) (b5 : B0.get? cN = none) (b6 : B0.get? cI = none)
    (hV : IntsAre vs ds) (h3 : ds.length ≤ 60) (hdd : ∀ d ∈ ds, 0 ≤ d ∧ d < 2 ^ n.toNat) : ∀ (k : Nat) (A : Around) (s : Shared) (Q E : Value → Shared → Prop) (lo hi : Int) (tl tr : Tok),
    hi - lo ≤ k → A.depth + k < recursionLimit → B0.StaysIn s.heap →
    (∀ q ∈ [(D, listOf vs.toArray cnt), (f, fnMade nm qual params body scope [(Str.ofString "n", cN), (Str.ofString "inner", cI), (Str.ofString "digits", cA)] doc pm c' ctv), (e, oe), (cA, oA), (cN, oN), (cI, oI)], s.heap.get? q.1 = some q.2) →
    0 ≤ lo → lo < hi → hi ≤ ds.length →
    (∀ h' tk t, (∀ b o, s.heap.get? b = some o → h'.get? b = some o) → Q (.int (valL n.toNat (seg ds lo hi)) t) { s with heap := h', toks := tk }) →
    wpAny (model prog w) A (call (.ref f) [.int lo tl, .int hi tr]) Q E s := by
  obtain ⟨oc, od, osl, name, ql, ps, pos, s3, sc, dV, kV, doc', pm', an, cdv, ct, e1⟩ := h42
  have e2 := e1.symm.trans (show (hd.heap_1 w.params).lookup 42 = _ by k_is)
  obtain ⟨FO, hFO⟩ : ∃ FO, FO = fnMade nm qual params body scope [(Str.ofString "n", cN), (Str.ofString "inner", cI), (Str.ofString "digits", cA)] doc pm c' ctv := ⟨_, rfl⟩
  rw [← hFO]
  cases e2
  clear e1
  intro k
  induction k with
  | zero => intros; omega
  | succ k IH =>
    intro A s Q E lo hi tl tr hk hroom S hM h0 h1 h2 ret
    have hf : s.heap.get? f = some FO := hM (f, FO) (.tail _ (.head _))
    rw [hFO] at hf
    have hcr := hrec s.heap S (hM (e, oe) (.tail _ (.tail _ (.head _))))
    (k_dflt (refine' enter_nest (args := ⟨_, _⟩) ?tabs ?X ?T ?S ?N ?k6 ?k7 ?k8 ?k9 ?kB ?_ ?c3 ?c4 ?c5 ?c6; (case X => assumption); (case T => assumption); (case S => assumption); (case k6 => assumption); (case k7 => assumption); (case k8 => omega); (case k9 => exact BindsTo.of_eq rfl); (case c6 => decide); (case kB => exact locs rfl); (case c3 => exact rfl); (case c4 => exact rfl); (case c5 => exact rfl)))
    case tabs => exact [(D, listOf vs.toArray cnt), (f, FO), (e, oe), (cA, oA), (cN, oN), (cI, oI)]
    case N =>
      intro q hq
      refine ⟨hM q hq, ?_⟩
      simp only [List.mem_cons, List.not_mem_nil, or_false] at hq
      rcases hq with rfl | rfl | rfl | rfl | rfl | rfl <;> assumption
    intro g L' h₁ Z F N X T
    have CH' := CH.keeps Z.st
    rw [hFO] at N
    walk_at "my steps"
    · (rename Fr _ _ _ _ => F'); (rename lo + 1 = hi => e1)
      (try dsimp only)
      have e3 : ds.getD lo.toNat 0 = valL n.toNat (seg ds lo hi) := by rw [← e1, seg_one h0 (by omega)]; simp [valL]
      rw [e3]
      exact ret _ _ _ (fun b o q => Z.keptBut F' [] (fun q hq _ => (N q (by rw [← hFO]; exact hq)).1) b o (by simp) q)
    · (rename ¬ lo + 1 = hi => e1)
      obtain ⟨mid, hm, m1, m2⟩ : ∃ mid : Int, (lo + hi).fdiv (2 ^ (1 : Int).toNat) = mid ∧ lo < mid ∧ mid < hi := by
        refine ⟨_, rfl, ?_⟩
        show lo < (lo + hi).fdiv 2 ∧ (lo + hi).fdiv 2 < hi
        rw [Int.fdiv_eq_ediv_of_nonneg _ (by decide)]; omega
      have hs0 : 0 ≤ (mid - lo) * n := Int.mul_nonneg (by omega) (by omega)
      have hs1 : (mid - lo) * n ≤ 60 * 30 := Int.mul_le_mul (by omega) hn2 (by omega) (by omega)
      have hs2 : ((mid - lo) * n).toNat = n.toNat * (mid - lo).toNat := by rw [Int.toNat_mul (by omega) (by omega), Nat.mul_comm]
      obtain ⟨sh, hsh⟩ : ∃ sh, (mid - lo) * n = sh := ⟨_, rfl⟩
      rw [hsh] at hs0 hs1 hs2
      (rename Fr _ _ _ _ => F')
      simp only [hm, hsh] at F' ⊢
      (rename News _ _ _ _ => N')
      rw [← hFO] at N'
      have vb := valL_nonneg (k := n.toNat) (l := seg ds mid hi) fun d hd' => hdd d (seg_mem hd')
      have vl := seg_len (ds := ds) (lo := mid) (hi := hi) (by omega) (by omega) h2
      have vi := pow_bits vb.1 vb.2
      rw [vl] at vi
      have vk : n.toNat * (hi - mid).toNat ≤ 30 * 60 := Nat.mul_le_mul (by omega) (by omega)
      refine' IH _ _ _ _ mid hi _ _ ?a1 ?a2 ?a3 ?a4 ?a5 m2 h2 ?_
      case a1 => omega
      case a2 => show A.depth + 1 + k < _; omega
      case a3 => exact fun b o q => F'.keep b o (Z.st b o q)
      case a4 => exact fun q hq => (N' q hq).1
      case a5 => omega
      intro h2' tk2 t2 k2
      have F2 := back_fr F' (tabs := []) (fun b o _ q => k2 b o q) (fun b hb => nomatch hb) (fun hb => nomatch hb)
      have N2 := back_old N' (tabs := []) (fun b o _ q => k2 b o q) (fun q _ hb => nomatch hb)
      have N3 := N2
      rw [hFO] at N3
      clear N' F' k2
      walk_at "my steps"
      with_reducible refine lshift_int ?_ ?_ ?_
      · exact hs0
      · omega
      walk_at "my steps"
      (rename Fr _ _ _ _ => F')
      refine' IH _ _ _ _ lo mid _ _ ?a1 ?a2 ?a3 ?a4 h0 m1 ?a6 ?_
      case a1 => omega
      case a2 => show A.depth + 1 + k < _; omega
      case a3 => exact fun b o q => F'.keep b o (Z.st b o q)
      case a4 => exact fun q hq => (N2 q hq).1
      case a6 => omega
      intro h3' tk3 t3 k3
      have F3 := back_fr F' (tabs := []) (fun b o _ q => k3 b o q) (fun b hb => nomatch hb) (fun hb => nomatch hb)
      have N4 := back_old N2 (tabs := []) (fun b o _ q => k3 b o q) (fun q _ hb => nomatch hb)
      walk_at "my steps"
      (try dsimp only)
      rw [hs2, val_step h0 (by omega) (by omega) h2]
      exact ret _ _ _ (fun b o q => Z.keptBut F3 [] (fun q hq _ => (N4 q hq).1) b o (by simp) q)
end
section
variable {prog : Program} {w : World} {A : Around} {s : Shared} {B0 : Heap} {mg mb : Str → Option Value} {p : Program} {loose : List Str} {mean : ExcName → Option Value}
  {Q E : Value → Shared → Prop}
theorem call_d2i (X0 : (hd.heap_1 w.params).In B0) (T0 : Top p loose mean mg mb B0) (S : B0.StaysIn s.heap) (hroom : A.depth + 70 < recursionLimit) (h37 : B0.get? 37 = none) (C37 : CodeHd B0 41 37)
   {D : Addr} {n : Int} {tn : Tok} {vs : List Value} {ds : List Int} {cnt : Nat} (hn : 1 ≤ n) (hn2 : n ≤ 30) (ht : TabH s.heap 37 47 4 "_digits2int.<locals>.inner")
   (hD : s.heap.get? D = some (listOf vs.toArray cnt)) (bD : B0.get? D = none) (hI : IntsAre vs ds) (hlen : ds.length ≤ 60) (hdd : ∀ d ∈ ds, 0 ≤ d ∧ d < 2 ^ n.toNat)
   (ret : ∀ h' tk t, (∀ b o, b ≠ 37 → s.heap.get? b = some o → h'.get? b = some o) → TabH h' 37 47 4 "_digits2int.<locals>.inner" → Q (.int (valL n.toNat ds) t) {s with heap := h', toks := tk}) :
   wpAny (model prog w) A (call (.ref 42) [.ref D, .int n tn]) Q E s := by
  obtain ⟨ps, ht1, ht2⟩ := ht
  have hDP : D ≠ 37 := fun q => by rw [q, ht1] at hD; cases hD
  (k_dflt (refine' enter_defC (args := ⟨_, _⟩) ?tabs ?X ?T ?S ?N ?k6 ?k7 ?k8 ?k9 ?kB ?kD ?_ ?c3 ?c4 ?c5; (case X => assumption); (case T => assumption); (case S => assumption); (case k6 => k_is); (case k7 => k_is); (case k8 => omega); (case k9 => exact BindsTo.of_eq rfl); (case kB => exact rfl); (case kD => decide +kernel); (case c3 => exact rfl); (case c4 => exact rfl); (case c5 => exact rfl)))
  case tabs => exact [(D, listOf vs.toArray cnt), (37, tabObj ps)]
  case N =>
    intro q hq
    rcases List.mem_cons.mp hq with rfl | hq
    · exact ⟨hD, bD⟩
    · rw [List.mem_singleton.mp hq]; exact ⟨ht1, h37⟩
  intro g L' h₁ tk cells Z F N Y X T
  have ht3 : TabIs g 47 4 "_digits2int.<locals>.inner" ps := by
    rcases ht2 with e | ⟨c', e, c, oc, vs, t, e2, hc, hd, hv⟩
    · exact .inl e
    · cases e2
      exact .inr ⟨c', e, c', oc, vs, t, rfl, Z.old c' oc (by
        intro hm
        simp only [List.map_cons, List.map_nil, List.mem_cons, List.not_mem_nil, or_false] at hm
        rcases hm with hm | hm
        · rw [hm, hD] at hc; cases hc; cases hd
        · rw [hm, ht1] at hc; cases hc; cases hd
          rw [e] at hv; cases hv) hc, hd, hv⟩
  have l1 := Z.lt
  have CH := C37.keeps Z.st
  k_lt l1
  k_dflt (have hY := CellsAre.three Y; obtain ⟨o1, o2, o3, hE, dI, dN, dA⟩ := hY)
  subst hE
  clear Y
  simp only [List.cons_append, List.nil_append] at N
  have dN' : o2.data = .cell (some (.int n tn)) := dN
  have dA' : o3.data = .cell (some (.ref D)) := dA
  clear dN dA
  walk_at "my steps"
  k_dflt (refine nestDef_K rfl rfl rfl ?_)
  (rename Fr _ _ _ _ => F'); (rename News _ _ _ _ => N')
  k_dflt (refine' nest_any ?F ?N ?T ?C ?cd ?U ?t ?l ?k ?cl ?_; (case F => exact F'); (case N => exact N'); (case T => k_asm); (case cd => exact rfl); (case C => kn_code); (case U => k_updF); (case t => exact ht3); (case l => rfl); (case k => rfl); (case cl => exact rfl); k_whole)
  intro f e oe c' ctv doc ps' h' tk F' N' hps hrec l3 l4 l5
  (try dsimp only at N')
  k_lt l3
  k_lt l5
  walk_at "my steps"
  · (rename Fr _ _ _ _ => F'); (rename News _ _ _ _ => N'); (rename Obj.data _ = Data.cell (some (Value.ref f)) => dI'); (rename 0 < ds.length => hpos)
    refine' inner_val (f := f) (e := e) (D := D) (oe := oe) (cA := L' + 1) (cN := L' + 1 + 1) (cI := L' + 1 + 1 + 1) (cnt := cnt) ?h42 X T hn hn2 CH dA' dN' dI' hrec ?b1 ?b2 ?b3 ?b4 ?b5 ?b6 hI hlen hdd ds.length _ _ _ _ _ _ _ _ ?a1 ?a2 ?a3 ?a4 ?a5 ?a6 ?a7 ?_
    case h42 => refine' ⟨_, _, _, _, _, _, _, _, _, _, _, _, _, _, _, _, ?h⟩; case h => exact rfl
    case b1 => exact (N' (_, _) (by k_mem)).2.2
    case b2 => exact (N' (_, listOf _ _) (by k_mem)).2.2
    case b3 => exact (N' (_, oe) (by k_mem)).2.2
    case b4 => exact (N' (_, _) (by k_mem)).2.2
    case b5 => exact (N' (_, _) (by k_mem)).2.2
    case b6 => exact (N' (_, _) (by k_mem)).2.2
    case a1 => omega
    case a2 => show A.depth + 1 + ds.length < _; omega
    case a3 => exact F'.keep
    case a4 =>
      intro q hq
      replace hq := mem_e6_T5 hq
      rcases hq with rfl | rfl | rfl | rfl | rfl | rfl
      · exact (N' (_, listOf _ _) (by k_mem)).1
      all_goals exact (N' (_, _) (by k_mem)).1
    case a5 => omega
    case a6 => omega
    case a7 => omega
    intro h2' tk2 t2 k2
    have F2 := back_fr F' (tabs := []) (fun b o _ q => k2 b o q) (fun b hb => nomatch hb) (fun hb => nomatch hb)
    have N2 := back_old N' (tabs := []) (fun b o _ q => k2 b o q) (fun q _ hb => nomatch hb)
    rw [seg_all]
    refine ret _ _ _ (fun b o hb q => ?_) ⟨_, (N2 (37, _) (by k_mem)).1, .inr ⟨c', hps, hrec _ F2.keep (N2 (e, _) (by k_mem)).1⟩⟩
    refine Z.keptBut F2 [37] (fun q hq hb => ?_) b o (by simpa using hb) q
    rcases List.mem_cons.mp hq with rfl | hq
    · exact (N2 (D, _) (by k_mem)).1
    · exact absurd (by rw [List.mem_singleton.mp hq]; exact List.mem_singleton.mpr rfl) hb
  · (rename Fr _ _ _ _ => F'); (rename News _ _ _ _ => N'); (rename ¬ 0 < ds.length => hpos)
    have e0 : ds = [] := List.length_eq_zero_iff.mp (by omega)
    subst e0
    refine ret _ _ _ (fun b o hb q => ?_) ⟨_, (N' (37, _) (by k_mem)).1, .inr ⟨c', hps, hrec _ F'.keep (N' (e, _) (by k_mem)).1⟩⟩
    refine Z.keptBut F' [37] (fun q hq hb => ?_) b o (by simpa using hb) q
    rcases List.mem_cons.mp hq with rfl | hq
    · exact (N' (D, _) (by k_mem)).1
    · exact absurd (by rw [List.mem_singleton.mp hq]; exact List.mem_singleton.mpr rfl) hb
end
end Mine
end
section
open PySem PySem.W PySem.Spec PySem.Calls PyProof.Rows
set_option Elab.async false
set_option maxRecDepth 100000
set_option maxHeartbeats 8000000
namespace Mine
/-- o is no code object's record -/
noncomputable def NoCode (o : Obj) : Prop := ∀ v q t, o.data = .fields v → v[1]? ≠ some (.str q t)
theorem noCode_list (its : Array Value) (n : Nat) : NoCode (listOf its n) := fun v q t e => by cases e
/-- one maker's table as the ledger keeps it: the table at P, and e, o: the code it holds, or the table once more -/
structure TbOne (g : Heap) (P : Addr) (l c : Nat) (qual : Str) (ps : Array Value) (e : Addr) (o : Obj) : Prop where
  is : ∀ h : Heap, (∀ b x, g.get? b = some x → h.get? b = some x) → h.get? e = some o → TabIs h l c qual ps
  kind : (e = P ∧ o = tabObj ps) ∨ (∃ v q t, o.data = .fields v ∧ v[1]? = some (.str q t))
theorem TbOne.ne {g h : Heap} {P e D : Addr} {l c : Nat} {qual : Str} {ps : Array Value} {o oD : Obj} (T : TbOne g P l c qual ps e o) (he : h.get? e = some o) (hD : h.get? D = some oD) (hn : NoCode oD) (hP : D ≠ P) : e ≠ D := fun q => by
  rcases T.kind with ⟨k, _⟩ | ⟨v, q1, t1, k1, k2⟩
  · exact hP (q.symm.trans k)
  · rw [q, hD] at he; cases he; exact hn v q1 t1 k1 k2
section
variable {g h : Heap} {L P : Addr} {m : Str → Option Value} {l c : Nat} {qual : Str}
theorem tb_one (F : Fr g L h m) (hP : g.get? P = none) (hL : P ≠ L) (ht : TabH h P l c qual) : ∃ ps e o, TbOne g P l c qual ps e o ∧ News g L h [(P, tabObj ps), (e, o)] := by
  obtain ⟨ps, h1, h2⟩ := ht
  have own : ∀ is, TbOne g P l c qual ps P (tabObj ps) ∨ is → True := fun _ _ => trivial
  have N1 : News g L h [(P, tabObj ps), (P, tabObj ps)] := fun q hq => by
    simp only [List.mem_cons, List.not_mem_nil, or_false] at hq
    rcases hq with rfl | rfl <;> exact ⟨h1, hL, hP⟩
  rcases h2 with rfl | ⟨c', rfl, c₁, oc, vs, t, e1, hc, hd, hv⟩
  · exact ⟨_, P, _, ⟨fun _ _ _ => .inl rfl, .inl ⟨rfl, rfl⟩⟩, N1⟩
  · cases e1
    cases hg : g.get? c' with
    | some o' =>
      have e2 := F.keep _ _ hg
      rw [hc] at e2; cases e2
      exact ⟨_, P, _, ⟨fun h'' hk _ => .inr ⟨c', rfl, c', oc, vs, t, rfl, hk _ _ hg, hd, hv⟩, .inl ⟨rfl, rfl⟩⟩, N1⟩
    | none =>
      refine ⟨_, c', oc, ⟨fun h'' _ he => .inr ⟨c', rfl, c', oc, vs, t, rfl, he, hd, hv⟩, .inr ⟨vs, _, _, hd, hv⟩⟩, fun q hq => ?_⟩
      simp only [List.mem_cons, List.not_mem_nil, or_false] at hq
      rcases hq with rfl | rfl
      · exact ⟨h1, hL, hP⟩
      · refine ⟨hc, fun q => ?_, hg⟩
        obtain ⟨oL, es, ep, hoL, hdL, _⟩ := F.ns
        have q' : c' = L := q
        rw [← q', hc] at hoL; cases hoL
        rw [hd] at hdL; cases hdL
end
noncomputable abbrev q30 : Str := "_int2digits.<locals>.inner"
noncomputable abbrev q37 : Str := "_digits2int.<locals>.inner"
/-- both tables -/
noncomputable def TabsH (h : Heap) : Prop := TabH h 30 32 4 q30 ∧ TabH h 37 47 4 q37
structure Tb where
  p1 : Array Value
  p2 : Array Value
  e1 : Addr
  e2 : Addr
  o1 : Obj
  o2 : Obj
structure Tb.Ok (t : Tb) (g : Heap) : Prop where
  a : TbOne g 30 32 4 q30 t.p1 t.e1 t.o1
  b : TbOne g 37 47 4 q37 t.p2 t.e2 t.o2
noncomputable abbrev Tb.led (t : Tb) : List (Addr × Obj) := [(30, tabObj t.p1), (37, tabObj t.p2), (t.e1, t.o1), (t.e2, t.o2)]
theorem tb_out {g h : Heap} {L : Addr} {m : Str → Option Value} (F : Fr g L h m) (h30 : g.get? 30 = none) (h37 : g.get? 37 = none) (l30 : 30 ≠ L) (l37 : 37 ≠ L) (ht : TabsH h) : ∃ t : Tb, t.Ok g ∧ News g L h t.led := by
  obtain ⟨p1, e1, o1, a, N1⟩ := tb_one F h30 l30 ht.1
  obtain ⟨p2, e2, o2, b, N2⟩ := tb_one F h37 l37 ht.2
  refine ⟨⟨p1, p2, e1, e2, o1, o2⟩, ⟨a, b⟩, fun q hq => ?_⟩
  simp only [List.mem_cons, List.not_mem_nil, or_false] at hq
  rcases hq with rfl | rfl | rfl | rfl
  · exact N1 _ (.head _)
  · exact N2 _ (.head _)
  · exact N1 _ (.tail _ (.head _))
  · exact N2 _ (.tail _ (.head _))
theorem tb_in {g h : Heap} {L : Addr} {m : Str → Option Value} {t : Tb} (O : t.Ok g) (F : Fr g L h m) (N : ∀ q ∈ t.led, h.get? q.1 = some q.2) : TabsH h :=
  ⟨⟨_, N _ (.head _), O.a.is h F.keep (N _ (.tail _ (.tail _ (.head _))))⟩, ⟨_, N _ (.tail _ (.head _)), O.b.is h F.keep (N _ (.tail _ (.tail _ (.tail _ (.head _)))))⟩⟩

section
variable {prog : Program} {w : World} {A : Around} {E : Value → Shared → Prop} {s : Shared} {env : Env} {h₀ : Heap} {x : Str} {body : List Stmt} {Q : Flow → Shared → Prop}
/-- the end of a turn: the iterator lies as it lay, the rest is the word's -/
noncomputable def TurnEnd (h₀ : Heap) (L : Addr) (own : List (Addr × Obj)) (wr : List Addr) (J : (Str → Option Value) → List (Addr × Obj) → Prop) (s₁ : Shared) (Q : Flow → Shared → Prop) (f : Flow) (s₂ : Shared) : Prop :=
  match f with
  | .ret v => Q (.ret v) s₂
  | .brk => Q .next s₂
  | _ => ∃ h' tk m' news', s₂ = { s₁ with heap := h', toks := tk } ∧ Fr h₀ L h' m' ∧ News h₀ L h' (own ++ news') ∧ (∀ q ∈ news', q.1 ∉ wr) ∧ J m' news'
theorem loop_own {I : Addr} {fp wr : List Addr} {n : Nat} {P : Nat → Value → Prop} {St : Nat → Heap → Prop} {m₀ : Str → Option Value} {news : List (Addr × Obj)} (J : Nat → (Str → Option Value) → List (Addr × Obj) → Prop)
    (W : Walks prog w A I fp wr n P St) (hLf : env.locals ∉ fp) (hwr : ∀ b ∈ wr, h₀.get? b = none) (hnw : ∀ p ∈ news, p.1 ∉ wr) (hst : St 0 s.heap) (F : Fr h₀ env.locals s.heap m₀) (N : News h₀ env.locals s.heap news) (hj : J 0 m₀ news)
    (turn : ∀ i v m₁ news₁ h tk own, i < n → P i v → J i m₁ news₁ → (∀ q ∈ news₁, q.1 ∉ wr) → (∀ q ∈ own, q.1 ∈ fp ∧ h.get? q.1 = some q.2) → (∀ b ∈ fp, h₀.get? b = none → ∀ o, h.get? b = some o → (b, o) ∈ own) → St (i + 1) h →
      Fr h₀ env.locals h (fun y => if y = x then some v else m₁ y) → News h₀ env.locals h (own ++ news₁) →
      wpAny (model prog w) A (execs body env) (TurnEnd h₀ env.locals own wr (J (i + 1)) { s with heap := h, toks := tk } Q) E { s with heap := h, toks := tk })
    (done : ∀ m₁ news₁ h tk, J n m₁ news₁ → Fr h₀ env.locals h m₁ → News h₀ env.locals h news₁ → Q .next { s with heap := h, toks := tk }) :
    LoopAtV prog w A h₀ env x body Q E (.ref I) s := by
  refine ⟨I, fp, wr, n, P, St, m₀, news, J, rfl, W, hLf, hwr, hnw, hst, F, N, hj, ?_, ?_⟩
  · rintro i v m₁ news₁ s₁ own ⟨hh', tk', rfl⟩ hin hP hJ hoff hown hget hall hst₁ F₁ N₁
    refine wpAny_mono (turn i v m₁ news₁ hh' tk' own hin hP hJ hoff (fun q hq => ⟨hown q hq, hget q hq⟩) hall hst₁ F₁ N₁) (fun f s₂ p => ?_) fun _ _ e => e
    have fin : (∃ h' tk m' news', s₂ = { ({ s with heap := hh', toks := tk' } : Shared) with heap := h', toks := tk } ∧ Fr h₀ env.locals h' m' ∧ News h₀ env.locals h' (own ++ news') ∧ (∀ q ∈ news', q.1 ∉ wr) ∧ J (i + 1) m' news') →
        LoopStepU h₀ env.locals wr own (J (i + 1)) { s with heap := hh', toks := tk' } .next s₂ := by
      rintro ⟨h', tk, m', news', e, F', N', hw, hj'⟩
      exact ⟨rfl, h', tk, m', news', e, F', N', hw, hj'⟩
    cases f with
    | ret v => exact .ret p
    | brk => exact .brk p
    | next => exact .next (fin p)
    | cont => exact .cont (fin p)
  · rintro h' tk m' news' F' N' _ hJ
    exact done m' news' h' tk hJ F' N'

/-- the same, the iterator alone moved, over a range -/
theorem iter_range_own {r : Addr} {a₀ b₀ c₀ : Int} {t₀ u₀ v₀ : Tok} {n : Nat} {m₀ : Str → Option Value} {news : List (Addr × Obj)} (J : Nat → (Str → Option Value) → List (Addr × Obj) → Prop)
    (hh : A.handled = none) (hr : IsRange s.heap r a₀ b₀ c₀ t₀ u₀ v₀) (hsmall : Builtin.Range.small a₀ b₀ c₀ = true) (hn : Builtin.Range.rangeSize a₀ b₀ c₀ = (n : Int)) (F : Fr h₀ env.locals s.heap m₀) (N : News h₀ env.locals s.heap news) (hj : J 0 m₀ news)
    (turn : ∀ i t m₁ news₁ h tk I it, i < n → NoCode it → J i m₁ news₁ → (∀ q ∈ news₁, q.1 ≠ I) → Fr h₀ env.locals h (fun y => if y = x then some (.int (a₀ + i * c₀) t) else m₁ y) → News h₀ env.locals h ((I, it) :: news₁) →
      wpAny (model prog w) A (execs body env) (TurnEnd h₀ env.locals [(I, it)] [I] (J (i + 1)) { s with heap := h, toks := tk } Q) E { s with heap := h, toks := tk })
    (done : ∀ m₁ news₁ h tk, J n m₁ news₁ → Fr h₀ env.locals h m₁ → News h₀ env.locals h news₁ → Q .next { s with heap := h, toks := tk }) :
    wpAny (model prog w) A (pyIter (.ref r)) (fun it s₂ => LoopAtV prog w A h₀ env x body Q E it s₂) E s := by
  refine wpAny_pyIter_range hr hsmall ?_
  have W := Walks.range (prog := prog) (w := w) hh s.heap.objs.size a₀ c₀ n
  refine loop_own J W ?_ ?_ ?_ (by show IsRangeIter _ _ _ _ _; rw [hn]; simpa using Heap.get?_push_size _ rfl) (F.push _) (fun p hp => ⟨Heap.get?_push_of_some _ (N p hp).1, (N p hp).2⟩) hj ?_ ?_
  · intro hm
    exact absurd F.ns.lt ((List.mem_singleton.mp hm) ▸ Nat.lt_irrefl _)
  · intro b hb
    rw [List.mem_singleton.mp hb]
    exact next_is_new F
  · intro p hp hI
    exact absurd (Heap.lt_size (N p hp).1) ((List.mem_singleton.mp hI) ▸ Nat.lt_irrefl _)
  · rintro i v m₁ news₁ h tk own hin ⟨t, rfl⟩ hJ hoff hown hall hst F₁ N₁
    obtain ⟨it, hI, hnc⟩ : ∃ it, h.get? s.heap.objs.size = some it ∧ NoCode it := ⟨_, hst, by intro v q t e; cases e; simp [rawInt]⟩
    have hmem := hall _ (List.mem_singleton.mpr rfl) (next_is_new F) _ hI
    refine wpAny_mono (turn i t m₁ news₁ h tk s.heap.objs.size it hin hnc hJ (fun q hq e => hoff q hq (by rw [e]; exact List.mem_singleton.mpr rfl)) F₁ (fun q hq => ?_)) (fun f s₂ p => ?_) fun _ _ e => e
    · rcases List.mem_cons.mp hq with rfl | hq
      · exact N₁ _ (List.mem_append_left _ hmem)
      · exact N₁ _ (List.mem_append_right _ hq)
    · have fin : (∃ h' tk' m' news', s₂ = { ({ s with heap := h, toks := tk } : Shared) with heap := h', toks := tk' } ∧ Fr h₀ env.locals h' m' ∧ News h₀ env.locals h' ([(s.heap.objs.size, it)] ++ news') ∧ (∀ q ∈ news', q.1 ∉ [s.heap.objs.size]) ∧ J (i + 1) m' news') →
          (∃ h' tk' m' news', s₂ = { ({ s with heap := h, toks := tk } : Shared) with heap := h', toks := tk' } ∧ Fr h₀ env.locals h' m' ∧ News h₀ env.locals h' (own ++ news') ∧ (∀ q ∈ news', q.1 ∉ [s.heap.objs.size]) ∧ J (i + 1) m' news') := by
        rintro ⟨h', tk', m', news', e, F', N', hw, hj'⟩
        refine ⟨h', tk', m', news', e, F', fun q hq => ?_, hw, hj'⟩
        rcases List.mem_append.mp hq with hq | hq
        · have h1 := hown q hq
          have h2 : q = (s.heap.objs.size, it) := Prod.ext (List.mem_singleton.mp h1.1) (by
            have h3 := h1.2
            rw [List.mem_singleton.mp h1.1, hI] at h3
            exact (Option.some.inj h3).symm)
          rw [h2]; exact N' _ (.head _)
        · exact N' q (List.mem_append_right _ hq)
      cases f with
      | ret v => exact p
      | brk => exact p
      | next => exact fin p
      | cont => exact fin p
  · exact fun m₁ news₁ h tk hJ F₁ N₁ => done m₁ news₁ h tk hJ F₁ N₁

/-- the same, over a list of ints of the call's own, from behind -/
theorem iter_rev_own {I l : Addr} {vs : List Value} {ks : List Int} {cnt : Nat} {m₀ : Str → Option Value} {news : List (Addr × Obj)} (J : Nat → (Str → Option Value) → List (Addr × Obj) → Prop)
    (hh : A.handled = none) (F : Fr h₀ env.locals s.heap m₀) (N : News h₀ env.locals s.heap ((I, revObj l ((vs.length : Int) - 1)) :: (l, listOf vs.toArray cnt) :: news)) (hne : l ≠ I) (hnw : ∀ q ∈ news, q.1 ≠ I) (hi : IntsAre vs ks) (hj : J 0 m₀ news)
    (turn : ∀ i k t m₁ news₁ h tk it lo, ks.reverse[i]? = some k → J i m₁ news₁ → (∀ q ∈ news₁, q.1 ≠ I) → Fr h₀ env.locals h (fun y => if y = x then some (.int k t) else m₁ y) → News h₀ env.locals h ((I, it) :: (l, lo) :: news₁) →
      wpAny (model prog w) A (execs body env) (TurnEnd h₀ env.locals [(I, it), (l, lo)] [I] (J (i + 1)) { s with heap := h, toks := tk } Q) E { s with heap := h, toks := tk })
    (done : ∀ m₁ news₁ h tk, J vs.length m₁ news₁ → Fr h₀ env.locals h m₁ → News h₀ env.locals h news₁ → Q .next { s with heap := h, toks := tk }) :
    wpAny (model prog w) A (pyIter (.ref I)) (fun it s₂ => LoopAtV prog w A h₀ env x body Q E it s₂) E s := by
  have hI := N _ (.head _)
  have hl := N _ (.tail _ (.head _))
  have hL : s.heap.IsList l vs.toArray := ⟨_, hl.1, rfl, cnt, rfl⟩
  refine wpAny_pyIter_revIter ⟨_, hI.1, rfl, rfl⟩ ?_
  have W := Walks.listRev (prog := prog) (w := w) hh I l hne vs.toArray
  have hlen : vs.toArray.size = vs.length := by simp
  rw [hlen] at W
  refine loop_own J W ?_ ?_ ?_ ⟨Nat.zero_le _, ⟨_, hI.1, rfl, ?_⟩, hL⟩ F (fun q hq => N q (.tail _ (.tail _ hq))) hj ?_ ?_
  · intro hm
    rcases List.mem_cons.mp hm with e | hm
    · exact hI.2.1 e.symm
    · exact hl.2.1 (List.mem_singleton.mp hm).symm
  · intro b hb
    rw [List.mem_singleton.mp hb]; exact hI.2.2
  · intro q hq hb
    exact hnw q hq (List.mem_singleton.mp hb)
  · show Data.fields #[Value.ref l, rawInt ((vs.length : Int) - 1)] = Data.fields #[Value.ref l, rawInt ((vs.length : Int) - 1 - ((0 : Nat) : Int))]
    simp
  · rintro i v m₁ news₁ h tk own hin hP hJ hoff hown hall hst F₁ N₁
    obtain ⟨it, hit, _, _⟩ := hst.2.1
    obtain ⟨lo, hlo, _⟩ := hst.2.2
    have m1 := hall I (.head _) hI.2.2 it hit
    have m2 := hall l (.tail _ (.head _)) hl.2.2 lo hlo
    obtain ⟨k, t, hk, hv⟩ : ∃ k t, ks.reverse[i]? = some k ∧ v = .int k t := by
      have e : ks.length = vs.length := hi.length.symm
      have hin' : vs.length - 1 - i < ks.length := by omega
      obtain ⟨t, ht⟩ := hi.get (vs.length - 1 - i) ks[vs.length - 1 - i] (by simp [hin'])
      refine ⟨ks[vs.length - 1 - i], t, ?_, ?_⟩
      · rw [List.getElem?_reverse (by omega), List.getElem?_eq_getElem (by omega)]
        simp only [e]
      · have h2 : vs.toArray[vs.toArray.size - 1 - i]? = some v := hP
        rw [List.size_toArray] at h2
        have h3 : vs[vs.length - 1 - i]? = some v := by simpa using h2
        rw [ht] at h3; exact (Option.some.inj h3).symm
    subst hv
    refine wpAny_mono (turn i k t m₁ news₁ h tk it lo hk hJ (fun q hq e => hoff q hq (by rw [e]; exact List.mem_singleton.mpr rfl)) F₁ (fun q hq => ?_)) (fun f s₂ p => ?_) fun _ _ e => e
    · rcases List.mem_cons.mp hq with rfl | hq
      · exact N₁ _ (List.mem_append_left _ m1)
      · rcases List.mem_cons.mp hq with rfl | hq
        · exact N₁ _ (List.mem_append_left _ m2)
        · exact N₁ _ (List.mem_append_right _ hq)
    · have fin : (∃ h' tk' m' news', s₂ = { ({ s with heap := h, toks := tk } : Shared) with heap := h', toks := tk' } ∧ Fr h₀ env.locals h' m' ∧ News h₀ env.locals h' ([(I, it), (l, lo)] ++ news') ∧ (∀ q ∈ news', q.1 ∉ [I]) ∧ J (i + 1) m' news') →
          (∃ h' tk' m' news', s₂ = { ({ s with heap := h, toks := tk } : Shared) with heap := h', toks := tk' } ∧ Fr h₀ env.locals h' m' ∧ News h₀ env.locals h' (own ++ news') ∧ (∀ q ∈ news', q.1 ∉ [I]) ∧ J (i + 1) m' news') := by
        rintro ⟨h', tk', m', news', e, F', N', hw, hj'⟩
        refine ⟨h', tk', m', news', e, F', fun q hq => ?_, hw, hj'⟩
        rcases List.mem_append.mp hq with hq | hq
        · obtain ⟨h1, h3⟩ := hown q hq
          rcases List.mem_cons.mp h1 with h1 | h1
          · have h2 : q = (I, it) := Prod.ext h1 (by rw [h1, hit] at h3; exact (Option.some.inj h3).symm)
            rw [h2]; exact N' _ (.head _)
          · have h1 := List.mem_singleton.mp h1
            have h2 : q = (l, lo) := Prod.ext h1 (by rw [h1, hlo] at h3; exact (Option.some.inj h3).symm)
            rw [h2]; exact N' _ (.tail _ (.head _))
        · exact N' q (List.mem_append_right _ hq)
      cases f with
      | ret v => exact p
      | brk => exact p
      | next => exact fin p
      | cont => exact fin p
  · exact fun m₁ news₁ h tk hJ F₁ N₁ => done m₁ news₁ h tk hJ F₁ N₁
end
end Mine
end
section
open PySem PySem.W PySem.Spec PySem.Calls PyProof.Rows
set_option Elab.async false
set_option maxRecDepth 100000
set_option maxHeartbeats 8000000
namespace Mine
theorem mem_e2_T6 {x a0 a1 : Addr × Obj} (h : x ∈ [a0, a1]) : x = a0 ∨ x = a1 := by simpa using h
theorem kwT6 : True := by
  k_with_none
  k_with "mem1" => (first | (with_reducible exact List.mem_cons_self) | (with_reducible assumption) | (with_reducible refine List.mem_append_right _ ?_; k_extra "mem1") | (with_reducible refine List.mem_append_left _ ?_; k_extra "mem1") | (with_reducible refine List.mem_cons_of_mem _ ?_; k_extra "mem1"))
  k_with "sub" => (first | (intro _ hq0; k_extra "tl") | (with_reducible exact List.forall_mem_nil _) | ((with_reducible refine List.forall_mem_cons.mpr (And.intro ?_ ?_)); (focus k_extra "mem1"); k_extra "sub") | ((with_reducible refine List.forall_mem_append.mpr (And.intro ?_ ?_)); (focus k_extra "sub"); k_extra "sub"))
  k_with "tl" => (first | (with_reducible assumption) | (with_reducible refine List.mem_append_right _ ?_; k_extra "tl") | (with_reducible refine List.mem_append_left _ ?_; k_extra "tl") | (with_reducible refine List.mem_cons_of_mem _ ?_; k_extra "tl"))
  k_with "my steps" => (repeat' (first | (k_unfold; (try dsimp only)) | k_extra "own" | walk1 | (dsimp only; (first | k_extra "own" | walk1)) | (leave1; try dsimp only)))
  k_with "my steps to loop" => (repeat' ((fail_if_success (with_reducible show wpAny _ _ (pyIter _) _ _ _)); (first | (k_unfold; (try dsimp only)) | k_extra "own" | walk1 | (dsimp only; (first | k_extra "own" | walk1)) | (leave1; try dsimp only))))
  k_with "own" => ((k_here; (with_reducible show wpAny _ _ (call (Value.builtin _) [Value.ref _, _]) _ _ _); k_dflt (refine' append_K (by k_asm) (by k_asm) (by k_upd) ?_ (by (rw [List.size_toArray, sizeLine_eq]; omega)); k_whole); intro _ _ _; (try k_sweep)))
  k_with "own" => ((k_here; (with_reducible show wpAny _ _ (call (Value.builtin _) [Value.ref _]) _ _ _); k_dflt (refine' kl_reverse (l := List.reverse _) (by k_asm) (by k_asm) (by exact rfl) (by k_upd) (by ((try simp only [List.size_toArray, sizeLine_eq]); (try rw [sizeLine_eq]); omega)) ?_; k_whole); intro _ _ _; (try k_sweep)))
  trivial
theorem TabH.mono {h h' : Heap} {P : Addr} {l c : Nat} {q : Str} (x : TabH h P l c q) (hk : ∀ b o, h.get? b = some o → h'.get? b = some o) : TabH h' P l c q := by
  obtain ⟨ps, h1, h2⟩ := x
  refine ⟨ps, hk _ _ h1, h2.imp id fun ⟨c', e, r⟩ => ⟨c', e, r.keeps hk⟩⟩
theorem noCode_tab {h : Heap} {l c : Nat} {q : Str} {ps : Array Value} (x : TabIs h l c q ps) : NoCode (tabObj ps) := by
  intro v q' t e
  cases e
  rcases x with rfl | ⟨c', rfl, _⟩ <;> simp [rawInt]
theorem Start.fresh2 {B0 : Heap} {K : Frag} {p : Program} {loose : List Str} {mean : ExcName → Option Value} {mg mb : Str → Option Value} {h g h' : Heap} {L' D : Addr} {o : Obj} {tabs news : List (Addr × Obj)} (Z : Start B0 K p loose mean mg mb h tabs g L')
    (N : News g L' h' news) (hm : (D, o) ∈ news) (hn : D ∉ tabs.map (·.1)) : h.get? D = none := by
  cases e : h.get? D with
  | none => rfl
  | some o' => have := (N _ hm).2.2; rw [Z.old D o' hn e] at this; cases this
theorem name_map {g h : Heap} {L : Addr} {m : Str → Option Value} (F : Fr g L h m) : ∃ m0, m0 = m ∧ Fr g L h m0 := ⟨m, rfl, F⟩
/-- where a call stands, no exception at hand -/
noncomputable abbrev AA (dp un : Nat) (fr : Option (List Env)) (gd : Option (List Code)) : Around := { handled := none, depth := dp, frames := fr, guards := gd, units := un }
/-- the locals of a loop: three names turn, the rest stands -/
noncomputable def up3 (a b c : Str) (m0 : Str → Option Value) (u v w : Option Value) : Str → Option Value := fun y => if y = a then u else if y = b then v else if y = c then w else m0 y
theorem up3_start {a b c : Str} (m : Str → Option Value) : m = up3 a b c m (m a) (m b) (m c) := by
  funext y; unfold up3
  by_cases h1 : y = a
  · rw [if_pos h1, h1]
  · rw [if_neg h1]
    by_cases h2 : y = b
    · rw [if_pos h2, h2]
    · rw [if_neg h2]
      by_cases h3 : y = c
      · rw [if_pos h3, h3]
      · rw [if_neg h3]
theorem up3_turn {a b c : Str} {m0 : Str → Option Value} {u v w u' v' w' : Option Value} (hab : b ≠ a) (hac : c ≠ a) (hbc : c ≠ b) :
    (fun y => if y = c then w' else if y = b then v' else if y = a then u' else up3 a b c m0 u v w y) = up3 a b c m0 u' v' w' := by
  funext y; unfold up3
  by_cases h1 : y = a
  · subst h1; simp [Ne.symm hab, Ne.symm hac]
  · by_cases h2 : y = b
    · subst h2; simp [h1, Ne.symm hbc]
    · by_cases h3 : y = c
      · subst h3; simp [h1, h2]
      · simp [h1, h2, h3]
theorem turnEnd_next {h₀ : Heap} {L : Addr} {own : List (Addr × Obj)} {wr : List Addr} {J : (Str → Option Value) → List (Addr × Obj) → Prop} {s₁ s₂ : Shared} {Q : Flow → Shared → Prop}
    (h : ∃ h' tk m' news', s₂ = { s₁ with heap := h', toks := tk } ∧ Fr h₀ L h' m' ∧ News h₀ L h' (own ++ news') ∧ (∀ q ∈ news', q.1 ∉ wr) ∧ J m' news') : TurnEnd h₀ L own wr J s₁ Q .next s₂ := h
section
variable {prog : Program} {w : World} {dp un : Nat} {fr : Option (List Env)} {gd : Option (List Code)} {s : Shared} {B0 : Heap} {mg mb : Str → Option Value} {p : Program} {loose : List Str} {mean : ExcName → Option Value}
  {Q E : Value → Shared → Prop}
theorem call_pos (X0 : (hd.heap_1 w.params).In B0) (T0 : Top p loose mean mg mb B0) (S : B0.StaysIn s.heap) (hroom : dp + 80 < recursionLimit) (h30 : B0.get? 30 = none) (h37 : B0.get? 37 = none) (C30 : CodeHd B0 34 30) (C37 : CodeHd B0 41 37)
   {a b : Int} {ta tb : Tok} (ha : 0 ≤ a) (ha2 : a < 1152921504606846976) (hb : 0 < b) (hb2 : b < 1073741824) (ht : TabsH s.heap)
   (ret : ∀ D h' tk t1 t2, (∀ c o, c ≠ 30 → c ≠ 37 → s.heap.get? c = some o → h'.get? c = some o) → TabsH h' → s.heap.get? D = none → h'.get? D = some { cls := .type "tuple", data := .seq #[.int (a / b) t1, .int (a % b) t2] } → Q (.ref D) {s with heap := h', toks := tk}) :
   wpAny (model prog w) (AA dp un fr gd) (call (.ref 49) [.int a ta, .int b tb]) Q E s := by
  obtain ⟨⟨ps, ht1, ht2⟩, ⟨qs, ht3, ht4⟩⟩ := id ht
  (k_dflt (refine' enter_def (args := ⟨_, _⟩) ?tabs ?X ?T ?S ?N ?k6 ?k7 ?k8 ?k9 ?kB ?_ ?c3 ?c4 ?c5 ?c6; (case X => assumption); (case T => assumption); (case S => assumption); (case k6 => k_is); (case k7 => k_is); (case k8 => first | omega | ((try dsimp only); omega)); (case k9 => exact BindsTo.of_eq rfl); (case c6 => decide); (case kB => exact locs rfl); (case c3 => exact rfl); (case c4 => exact rfl); (case c5 => exact rfl)))
  case tabs => exact [(30, tabObj ps), (37, tabObj qs)]
  case N =>
    intro q hq
    replace hq := mem_e2_T6 hq
    rcases hq with rfl | rfl
    · exact ⟨ht1, h30⟩
    · exact ⟨ht3, h37⟩
  intro g L' h₁ Z F N X T
  have hk1 : ∀ b o, s.heap.get? b = some o → h₁.get? b = some o := fun b o q => Z.keptBut F [] (fun q hq _ => (N q hq).1) b o (by simp) q
  have l1 := Z.lt
  k_lt l1
  have g30 := (N _ (.head _)).2.2
  have g37 := (N _ (.tail _ (.head _))).2.2
  obtain ⟨t, O, N1⟩ := tb_out F g30 g37 (N _ (.head _)).2.1 (N _ (.tail _ (.head _))).2.1 ⟨ht.1.mono hk1, ht.2.mono hk1⟩
  have lN30 := (N _ (.head _)).2.1
  have lN37 := (N _ (.tail _ (.head _))).2.1
  clear N
  have hnb : (Builtin.Int.intBits b : Int) ≤ 30 := by have := PyProof.Rows.intBits_le (a := b) (k := 30) (by omega); omega
  have hnb1 : 1 ≤ (Builtin.Int.intBits b : Int) := by
    have h : ¬ Builtin.Int.intBits b ≤ 0 := fun h => by have := intBits_le_iff.mp h; omega
    omega
  walk_at "my steps"
  (rename Fr _ _ _ _ => F'); (rename News _ _ _ _ => N')
  refine' call_i2d X0 T0 ?S ?room h30 C30 ha ha2 hnb1 hnb ?ht ?_
  case S => exact fun b o q => F'.keep b o (Z.st b o q)
  case room => show dp + 1 + 70 < _; omega
  case ht => exact (tb_in O F' fun q hq => (N' q hq).1).1
  intro D h' tk vs ds cnt k2 hDf hD ht' hI hdig
  have F2 := back_fr F' (tabs := [30]) (fun b o hb q => k2 b o (by simpa using hb) q) (by simpa using g30) (by simpa using lN30.symm)
  have e230 : t.e2 ≠ 30 := O.b.ne (N' _ (.tail _ (.tail _ (.tail _ (.head _))))).1 (N' _ (.head _)).1 (noCode_tab (O.a.is _ F'.keep (N' _ (.tail _ (.tail _ (.head _)))).1)) (by decide)
  have ht2' : TabsH h' := ⟨ht', ⟨t.p2, k2 37 _ (by decide) (N' _ (.tail _ (.head _))).1, O.b.is h' F2.keep (k2 _ _ e230 (N' _ (.tail _ (.tail _ (.tail _ (.head _))))).1)⟩⟩
  obtain ⟨t2, O2, N2⟩ := tb_out F2 g30 g37 lN30 lN37 ht2'
  have N3 := back_new F' N2 hDf hD
  clear N' F' k2 N2
  walk_at "my steps to loop"
  (rename Fr _ _ _ _ => F'); (rename News _ _ _ _ => N')

  rename_i lq hpq lq1 hpr I hpI lI1
  obtain ⟨m0, hm0, F0⟩ := name_map F'
  have hvl := hI.length
  have hval := digOf_val ha hdig
  refine' iter_rev_own (I := I) (l := D) (vs := vs) (cnt := cnt) (news := (lq, listOf ([] : List Value).toArray 0) :: t2.led) (fun i m news => ∃ (r : Int) (tr : Tok) (u v : Option Value) (qs : List Int) (vq : List Value) (cq : Nat),
    m = up3 "a_digit" "q_digit" "r" m0 u v (some (.int r tr)) ∧ news = (lq, listOf vq.toArray cq) :: t2.led ∧ IntsAre vq qs ∧ qs.length = i ∧ LongDiv (Builtin.Int.intBits b : Int) b (ds.reverse.take i) qs r) ?hh F0 ?N ?hne ?hnw hI ?hj ?turn ?done
  case hh => exact rfl
  case N =>
    intro q hq
    simp only [List.mem_cons, List.not_mem_nil, or_false] at hq
    rcases hq with rfl | rfl | rfl | rfl | rfl | rfl | rfl <;> exact N' (_, _) (by k_mem)
  case hne => k_ne
  case hnw => k_all
  case hj =>
    obtain ⟨tr, hr0⟩ : ∃ tr, m0 "r" = some (.int 0 tr) := ⟨_, by rw [hm0]; rfl⟩
    exact ⟨0, tr, m0 "a_digit", m0 "q_digit", [], [], 0, by rw [← hr0]; exact up3_start m0, rfl, .nil, rfl, by rw [List.take_zero]; exact LongDiv.start hb⟩
  case turn =>
    subst hm0
    rintro i k tk1 m₁ news₁ h tk it lo hk ⟨r, tr, u, v, qs, vq, cq, rfl, rfl, hIq, hlq, hLD⟩ hnw F₁ N₁
    have r0 := hLD.lo
    have r1 := hLD.hi
    have hkm := digOf_mem hdig k (List.mem_reverse.mp (List.mem_of_getElem? hk))
    walk_at "my steps"
    (rename Fr _ _ _ _ => F'); (rename News _ _ _ _ => N')
    have hp0 : (0 : Int) < 2 ^ ((Builtin.Int.intBits b : Int)).toNat := Int.pow_pos (by decide)
    have hp2 : (2 : Int) ^ ((Builtin.Int.intBits b : Int)).toNat ≤ 2 ^ 30 := by
      have h1 : (2 : Nat) ^ ((Builtin.Int.intBits b : Int)).toNat ≤ 2 ^ 30 := Nat.pow_le_pow_right (by decide) (by omega)
      exact_mod_cast h1
    have hp3 : r * 2 ^ ((Builtin.Int.intBits b : Int)).toNat ≤ 1073741824 * 2 ^ 30 := Int.mul_le_mul (by omega) hp2 (by omega) (by omega)
    have hp4 : 0 ≤ r * 2 ^ ((Builtin.Int.intBits b : Int)).toNat := Int.mul_nonneg r0 (by omega)
    refine' call_div2 X0 T0 ?S ?room hb hb2 ?ha ?hl ?_
    case S => exact fun b o q => F'.keep b o (Z.st b o q)
    case room => show dp + 1 < _; omega
    case ha => omega
    case hl => have := PyProof.Rows.intBits_le (a := r * 2 ^ ((Builtin.Int.intBits b : Int)).toNat + k) (k := 64) (by omega); omega
    intro D2 h2 tk2 t1' t2' k2 hf2 hD2
    have F2 := back_fr F' (tabs := []) (fun b o _ q => k2 b o q) (fun b hb => nomatch hb) (fun hb => nomatch hb)
    have N2 := back_new F' (back_old N' (tabs := []) (fun b o _ q => k2 b o q) (fun q _ hb => nomatch hb)) hf2 hD2
    have hq2 : D2 ≠ lq := fun e => by have := (N' (lq, _) (by k_mem)).1; rw [← e, hf2] at this; cases this
    have hvq : vq.length ≤ 1000 := by have := hIq.length; have := (List.getElem?_eq_some_iff.mp hk).1; have := hdig.1; rw [List.length_reverse] at *; omega
    clear N' F'
    walk_at "my steps"
    (rename Fr _ _ _ _ => F'); (rename News _ _ _ _ => N')
    simp only [List.push_toArray] at N'
    refine turnEnd_next ⟨_, _, _, (lq, listOf (vq ++ [Value.int ((r * 2 ^ ((Builtin.Int.intBits b : Int)).toNat + k) / b) t1']).toArray (cq + 1)) :: t2.led, rfl, F', fun q hq => ?_, ?_, _, _, _, _, qs ++ [(r * 2 ^ ((Builtin.Int.intBits b : Int)).toNat + k) / b], _, _, up3_turn (by decide) (by decide) (by decide), rfl, hIq.append (.cons _ _ .nil), by rw [List.length_append, hlq]; rfl, ?_⟩
    · simp only [List.cons_append, List.nil_append, List.mem_cons, List.not_mem_nil, or_false] at hq
      rcases hq with rfl | rfl | rfl | rfl | rfl | rfl | rfl
      all_goals exact N' (_, _) (by k_mem)
    · intro q hq hm
      rcases List.mem_cons.mp hq with rfl | hq
      · exact hnw (lq, _) (.head _) (List.mem_singleton.mp hm)
      · exact hnw q (.tail _ hq) (List.mem_singleton.mp hm)
    · rw [List.take_add_one, hk]
      exact hLD.turn hb hkm
  case done =>
    subst hm0
    rintro m₁ news₁ h tk ⟨r, tr, u, v, qs, vq, cq, rfl, rfl, hIq, hlq, hLD⟩ F₁ N₁
    rw [List.take_of_length_le (by rw [List.length_reverse]; omega)] at hLD
    have hvq : vq.length ≤ 1000 := by have := hIq.length; have := hdig.1; omega
    walk_at "my steps"
    (rename Fr _ _ _ _ => F'); (rename News _ _ _ _ => N')
    have hql := N' (lq, _) (by k_mem)
    refine' call_d2i (D := lq) (vs := vq.reverse) (ds := qs.reverse) (cnt := cq) X0 T0 ?S ?room h37 C37 hnb1 hnb ?ht ?hD ?bD hIq.reverse ?hl ?hdd ?_
    case S => exact fun b o q => F'.keep b o (Z.st b o q)
    case room => show dp + 1 + 70 < _; omega
    case ht => exact (tb_in O2 F' fun q hq => (N' q (.tail _ hq)).1).2
    case hD => exact hql.1
    case bD => cases e : B0.get? lq with | none => rfl | some o => (have := hql.2.2; rw [Z.st _ _ e] at this; cases this)
    case hl => have := hIq.length; have := hdig.1; rw [List.length_reverse]; omega
    case hdd => exact fun d hd' => hLD.q d (List.mem_reverse.mp hd')
    intro h2 tk2 tq k2 ht2
    have F2 := back_fr F' (tabs := [37]) (fun b o hb q => k2 b o (by simpa using hb) q) (by simpa using g37) (fun hb => lN37 (List.mem_singleton.mp hb).symm)
    have e137 : t2.e1 ≠ 37 := O2.a.ne (N' (t2.e1, _) (by k_mem)).1 (N' (37, _) (by k_mem)).1 (noCode_tab (O2.b.is _ F'.keep (N' (t2.e2, _) (by k_mem)).1)) (by decide)
    have ht2' : TabsH h2 := ⟨⟨t2.p1, k2 30 _ (by decide) (N' (30, _) (by k_mem)).1, O2.a.is h2 F2.keep (k2 _ _ e137 (N' (t2.e1, _) (by k_mem)).1)⟩, ht2⟩
    obtain ⟨t3, O3, N3⟩ := tb_out F2 g30 g37 lN30 lN37 ht2'
    obtain ⟨v1, v2⟩ := hLD.done hb hval
    clear N' F' k2
    walk_at "my steps"
    (rename Fr _ _ _ _ => F'); (rename News _ _ _ _ => N')
    refine ret _ _ _ _ _ (fun c o n1 n2 q => ?_) (tb_in O3 F' fun q hq => (N' q (.tail _ hq)).1) (Start.fresh2 Z N' (.head _) ?_) (by rw [← v1, ← v2]; exact (N' _ (.head _)).1)
    · exact Z.kept F' c o (by simp only [List.map_cons, List.map_nil, List.mem_cons, List.not_mem_nil, or_false, not_or]; exact ⟨n1, n2⟩) q
    · simp only [List.map_cons, List.map_nil, List.mem_cons, List.not_mem_nil, or_false, not_or]
      constructor <;> k_ne
end
end Mine
end
section
open PySem PySem.W PySem.Spec PySem.Calls PyProof.Rows
set_option Elab.async false
set_option maxRecDepth 100000
set_option maxHeartbeats 8000000
namespace Mine
theorem mem_e2_T7 {x a0 a1 : Addr × Obj} (h : x ∈ [a0, a1]) : x = a0 ∨ x = a1 := by simpa using h
theorem kwT7 : True := by
  k_with_none
  k_with "mem1" => (first | (with_reducible exact List.mem_cons_self) | (with_reducible assumption) | (with_reducible refine List.mem_append_right _ ?_; k_extra "mem1") | (with_reducible refine List.mem_append_left _ ?_; k_extra "mem1") | (with_reducible refine List.mem_cons_of_mem _ ?_; k_extra "mem1"))
  k_with "sub" => (first | (intro _ hq0; k_extra "tl") | (with_reducible exact List.forall_mem_nil _) | ((with_reducible refine List.forall_mem_cons.mpr (And.intro ?_ ?_)); (focus k_extra "mem1"); k_extra "sub") | ((with_reducible refine List.forall_mem_append.mpr (And.intro ?_ ?_)); (focus k_extra "sub"); k_extra "sub"))
  k_with "tl" => (first | (with_reducible assumption) | (with_reducible refine List.mem_append_right _ ?_; k_extra "tl") | (with_reducible refine List.mem_append_left _ ?_; k_extra "tl") | (with_reducible refine List.mem_cons_of_mem _ ?_; k_extra "tl"))
  k_with "my steps" => (repeat' (first | (k_unfold; (try dsimp only)) | walk1 | (dsimp only; walk1) | (leave1; try dsimp only)))
  trivial
theorem start_tabs {B0 : Heap} {K : Frag} {p : Program} {loose : List Str} {mean : ExcName → Option Value} {mg mb : Str → Option Value} {h g h₁ : Heap} {L' : Addr} {m : Str → Option Value} {ps qs : Array Value}
    (Z : Start B0 K p loose mean mg mb h [(30, tabObj ps), (37, tabObj qs)] g L') (F : Fr g L' h₁ m) (N : News g L' h₁ [(30, tabObj ps), (37, tabObj qs)]) (ht : TabsH h) :
    g.get? 30 = none ∧ g.get? 37 = none ∧ (30 : Addr) ≠ L' ∧ (37 : Addr) ≠ L' ∧ ∃ t : Tb, t.Ok g ∧ News g L' h₁ t.led := by
  have hk1 : ∀ b o, h.get? b = some o → h₁.get? b = some o := fun b o q => Z.keptBut F [] (fun q hq _ => (N q hq).1) b o (by simp) q
  have g30 := (N _ (.head _)).2.2
  have g37 := (N _ (.tail _ (.head _))).2.2
  exact ⟨g30, g37, (N _ (.head _)).2.1, (N _ (.tail _ (.head _))).2.1, tb_out F g30 g37 (N _ (.head _)).2.1 (N _ (.tail _ (.head _))).2.1 ⟨ht.1.mono hk1, ht.2.mono hk1⟩⟩
theorem tabs_in {B0 h : Heap} {ps qs : Array Value} (h30 : B0.get? 30 = none) (h37 : B0.get? 37 = none) (ht1 : h.get? 30 = some (tabObj ps)) (ht3 : h.get? 37 = some (tabObj qs)) : ∀ q ∈ [((30 : Addr), tabObj ps), (37, tabObj qs)], h.get? q.1 = some q.2 ∧ B0.get? q.1 = none := by
  intro q hq
  replace hq := mem_e2_T7 hq
  rcases hq with rfl | rfl
  · exact ⟨ht1, h30⟩
  · exact ⟨ht3, h37⟩
theorem kept_tabs {B0 : Heap} {K : Frag} {p : Program} {loose : List Str} {mean : ExcName → Option Value} {mg mb : Str → Option Value} {h g h₁ : Heap} {L' : Addr} {m : Str → Option Value} {ps qs : Array Value}
    (Z : Start B0 K p loose mean mg mb h [(30, tabObj ps), (37, tabObj qs)] g L') (F : Fr g L' h₁ m) : ∀ c o, c ≠ 30 → c ≠ 37 → h.get? c = some o → h₁.get? c = some o := fun c o n1 n2 q =>
  Z.kept F c o (by simp only [List.map_cons, List.map_nil, List.mem_cons, List.not_mem_nil, or_false, not_or]; exact ⟨n1, n2⟩) q
theorem fresh_tabs {B0 : Heap} {K : Frag} {p : Program} {loose : List Str} {mean : ExcName → Option Value} {mg mb : Str → Option Value} {h g h' : Heap} {L' D : Addr} {o : Obj} {ps qs : Array Value} {news : List (Addr × Obj)}
    (Z : Start B0 K p loose mean mg mb h [(30, tabObj ps), (37, tabObj qs)] g L') (N : News g L' h' news) (hm : (D, o) ∈ news) (n1 : D ≠ 30) (n2 : D ≠ 37) : h.get? D = none :=
  Start.fresh2 Z N hm (by simp only [List.map_cons, List.map_nil, List.mem_cons, List.not_mem_nil, or_false, not_or]; exact ⟨n1, n2⟩)
/-- the ledger behind a call that turns the tables alone -/
theorem after_tabs {g h h' : Heap} {L D : Addr} {m : Str → Option Value} {o : Obj} {rest : List (Addr × Obj)} (F : Fr g L h m) (N : News g L h rest) (g30 : g.get? 30 = none) (g37 : g.get? 37 = none) (l30 : (30 : Addr) ≠ L) (l37 : (37 : Addr) ≠ L)
    (hk : ∀ c o, c ≠ 30 → c ≠ 37 → h.get? c = some o → h'.get? c = some o) (hn : ∀ q ∈ rest, q.1 ≠ 30 ∧ q.1 ≠ 37) (ht : TabsH h') (hd : h.get? D = none) (ho : h'.get? D = some o) :
    ∃ t : Tb, t.Ok g ∧ Fr g L h' m ∧ News g L h' ((D, o) :: (t.led ++ rest)) := by
  have F2 := back_fr F (tabs := [30, 37]) (fun b o hb q => by
    simp only [List.mem_cons, List.not_mem_nil, or_false, not_or] at hb
    exact hk b o hb.1 hb.2 q) (by simp [g30, g37]) (by
    simp only [List.mem_cons, List.not_mem_nil, or_false, not_or]; exact ⟨l30.symm, l37.symm⟩)
  obtain ⟨t, O, N1⟩ := tb_out F2 g30 g37 l30 l37 ht
  refine ⟨t, O, F2, back_new F ?_ hd ho⟩
  intro q hq
  rcases List.mem_append.mp hq with hq | hq
  · exact N1 q hq
  · exact ⟨hk _ _ (hn q hq).1 (hn q hq).2 (N q hq).1, (N q hq).2⟩
section
variable {prog : Program} {w : World} {dp un : Nat} {fr : Option (List Env)} {gd : Option (List Code)} {s : Shared} {B0 : Heap} {mg mb : Str → Option Value} {p : Program} {loose : List Str} {mean : ExcName → Option Value}
  {Q E : Value → Shared → Prop}
theorem call_div0 (X0 : (hd.heap_1 w.params).In B0) (T0 : Top p loose mean mg mb B0) (S : B0.StaysIn s.heap) (hroom : dp + 90 < recursionLimit) (h30 : B0.get? 30 = none) (h37 : B0.get? 37 = none) (C30 : CodeHd B0 34 30) (C37 : CodeHd B0 41 37)
   {a b : Int} {ta tb : Tok} (ha : 0 ≤ a) (ha2 : a < 1152921504606846976) (hb : 0 < b) (hb2 : b < 1073741824) (ht : TabsH s.heap)
   (ret : ∀ D h' tk t1 t2, (∀ c o, c ≠ 30 → c ≠ 37 → s.heap.get? c = some o → h'.get? c = some o) → TabsH h' → s.heap.get? D = none → h'.get? D = some { cls := .type "tuple", data := .seq #[.int (a / b) t1, .int (a % b) t2] } → Q (.ref D) {s with heap := h', toks := tk}) :
   wpAny (model prog w) (AA dp un fr gd) (call (.ref 56) [.int a ta, .int b tb]) Q E s := by
  obtain ⟨⟨ps, ht1, ht2⟩, ⟨qs, ht3, ht4⟩⟩ := id ht
  (k_dflt (refine' enter_def (args := ⟨_, _⟩) [(30, tabObj _), (37, tabObj _)] ?X ?T ?S ?N ?k6 ?k7 ?k8 ?k9 ?kB ?_ ?c3 ?c4 ?c5 ?c6; (case X => assumption); (case T => assumption); (case S => assumption); (case N => exact tabs_in (by assumption) (by assumption) (by assumption) (by assumption)); (case k6 => k_is); (case k7 => k_is); (case k8 => first | omega | ((try dsimp only); omega)); (case k9 => exact BindsTo.of_eq rfl); (case c6 => decide); (case kB => exact locs rfl); (case c3 => exact rfl); (case c4 => exact rfl); (case c5 => exact rfl)))
  intro g L' h₁ Z F N X T
  obtain ⟨g30, g37, l30, l37, t, O, N1⟩ := start_tabs Z F N ht
  clear N
  walk_at "my steps"
  all_goals (try (exfalso; omega))
  (rename Fr _ _ _ _ => F')
  refine' call_pos X0 T0 ?S ?room h30 h37 C30 C37 ha ha2 hb hb2 (tb_in O F' fun q hq => (N1 q hq).1) ?_
  case S => exact fun b o q => F'.keep b o (Z.st b o q)
  case room => show dp + 1 + 80 < _; omega
  intro D h' tk t1 t2 k2 ht2 hf hD
  obtain ⟨t', O', F2, N2⟩ := after_tabs (rest := []) F' (fun q hq => nomatch hq) g30 g37 l30 l37 k2 (fun q hq => nomatch hq) ht2 hf hD
  refine ret _ _ _ _ _ (kept_tabs Z F2) ht2 (fresh_tabs Z N2 (.head _) ?_ ?_) hD
  · intro e; rw [e, (N1 _ (.head _)).1] at hf; cases hf
  · intro e; rw [e, (N1 _ (.tail _ (.head _))).1] at hf; cases hf
theorem inv_div {a b : Int} (ha : a < 0) (hb : 0 < b) : -((-a - 1) / b) - 1 = a / b ∧ b + (-((-a - 1) % b) - 1) = a % b := by
  have h1 := Int.mul_ediv_add_emod (-a - 1) b
  have h2 := Int.emod_nonneg (-a - 1) (show b ≠ 0 by omega)
  have h3 := Int.emod_lt_of_pos (-a - 1) hb
  have h4 : a / b = -((-a - 1) / b) - 1 ∧ a % b = b + (-((-a - 1) % b) - 1) := by
    refine (Int.ediv_emod_unique hb).mpr ⟨?_, by omega, by omega⟩
    rw [Int.mul_sub, Int.mul_neg]; omega
  exact ⟨h4.1.symm, h4.2.symm⟩
theorem call_div1 (X0 : (hd.heap_1 w.params).In B0) (T0 : Top p loose mean mg mb B0) (S : B0.StaysIn s.heap) (hroom : dp + 91 < recursionLimit) (h30 : B0.get? 30 = none) (h37 : B0.get? 37 = none) (C30 : CodeHd B0 34 30) (C37 : CodeHd B0 41 37)
   {a b : Int} {ta tb : Tok} (ha : -1152921504606846976 < a) (ha2 : a < 1152921504606846976) (hb : 0 < b) (hb2 : b < 1073741824) (ht : TabsH s.heap)
   (ret : ∀ D h' tk t1 t2, (∀ c o, c ≠ 30 → c ≠ 37 → s.heap.get? c = some o → h'.get? c = some o) → TabsH h' → s.heap.get? D = none → h'.get? D = some { cls := .type "tuple", data := .seq #[.int (a / b) t1, .int (a % b) t2] } → Q (.ref D) {s with heap := h', toks := tk}) :
   wpAny (model prog w) (AA dp un fr gd) (call (.ref 56) [.int a ta, .int b tb]) Q E s := by
  by_cases hneg : 0 ≤ a
  · exact call_div0 X0 T0 S (by omega) h30 h37 C30 C37 hneg ha2 hb hb2 ht ret
  obtain ⟨⟨ps, ht1, ht2⟩, ⟨qs, ht3, ht4⟩⟩ := id ht
  (k_dflt (refine' enter_def (args := ⟨_, _⟩) [(30, tabObj _), (37, tabObj _)] ?X ?T ?S ?N ?k6 ?k7 ?k8 ?k9 ?kB ?_ ?c3 ?c4 ?c5 ?c6; (case X => assumption); (case T => assumption); (case S => assumption); (case N => exact tabs_in (by assumption) (by assumption) (by assumption) (by assumption)); (case k6 => k_is); (case k7 => k_is); (case k8 => first | omega | ((try dsimp only); omega)); (case k9 => exact BindsTo.of_eq rfl); (case c6 => decide); (case kB => exact locs rfl); (case c3 => exact rfl); (case c4 => exact rfl); (case c5 => exact rfl)))
  intro g L' h₁ Z F N X T
  obtain ⟨g30, g37, l30, l37, t, O, N1⟩ := start_tabs Z F N ht
  clear N
  walk_at "my steps"
  all_goals (try (exfalso; omega))
  (rename Fr _ _ _ _ => F')
  have en : Builtin.bitNot a = -a - 1 := rfl
  rw [en]
  refine' call_div0 X0 T0 ?S ?room h30 h37 C30 C37 ?ha ?ha2 hb hb2 (tb_in O F' fun q hq => (N1 q hq).1) ?_
  case S => exact fun b o q => F'.keep b o (Z.st b o q)
  case room => show dp + 1 + 90 < _; omega
  case ha => omega
  case ha2 => omega
  intro D h' tk t1 t2 k2 ht2 hf hD
  obtain ⟨t', O', F2, N2⟩ := after_tabs (rest := []) F' (fun q hq => nomatch hq) g30 g37 l30 l37 k2 (fun q hq => nomatch hq) ht2 hf hD
  rw [List.append_nil] at N2
  clear F' k2 hf N1
  walk_at "my steps"
  (rename Fr _ _ _ _ => F'); (rename News _ _ _ _ => N')
  obtain ⟨v1, v2⟩ := inv_div (a := a) (by omega) hb
  refine ret _ _ _ _ _ (kept_tabs Z F') (tb_in O' F' fun q hq => (N' q (.tail _ (.tail _ hq))).1) (fresh_tabs Z N' (.head _) (by k_ne) (by k_ne)) (by rw [← v1, ← v2]; exact (N' _ (.head _)).1)
theorem call_div (X0 : (hd.heap_1 w.params).In B0) (T0 : Top p loose mean mg mb B0) (S : B0.StaysIn s.heap) (hroom : dp + 92 < recursionLimit) (h30 : B0.get? 30 = none) (h37 : B0.get? 37 = none) (C30 : CodeHd B0 34 30) (C37 : CodeHd B0 41 37)
   {a b c : Int} {ta tb : Tok} (ha : -1152921504606846976 < a) (ha2 : a < 1152921504606846976) (hb : b ≠ 0) (hb1 : -1073741824 < b) (hb2 : b < 1073741824) (hc : a = b * c) (ht : TabsH s.heap)
   (ret : ∀ D h' tk t1 t2, (∀ c o, c ≠ 30 → c ≠ 37 → s.heap.get? c = some o → h'.get? c = some o) → TabsH h' → s.heap.get? D = none → h'.get? D = some { cls := .type "tuple", data := .seq #[.int c t1, .int 0 t2] } → Q (.ref D) {s with heap := h', toks := tk}) :
   wpAny (model prog w) (AA dp un fr gd) (call (.ref 56) [.int a ta, .int b tb]) Q E s := by
  by_cases hneg : 0 < b
  · refine call_div1 X0 T0 S (by omega) h30 h37 C30 C37 ha ha2 hneg hb2 ht fun D h' tk t1 t2 k2 ht2 hf hD => ret D h' tk t1 t2 k2 ht2 hf ?_
    rw [hc, Int.mul_ediv_cancel_left _ hb, Int.mul_emod_right] at hD
    exact hD
  obtain ⟨⟨ps, ht1, ht2⟩, ⟨qs, ht3, ht4⟩⟩ := id ht
  (k_dflt (refine' enter_def (args := ⟨_, _⟩) [(30, tabObj _), (37, tabObj _)] ?X ?T ?S ?N ?k6 ?k7 ?k8 ?k9 ?kB ?_ ?c3 ?c4 ?c5 ?c6; (case X => assumption); (case T => assumption); (case S => assumption); (case N => exact tabs_in (by assumption) (by assumption) (by assumption) (by assumption)); (case k6 => k_is); (case k7 => k_is); (case k8 => first | omega | ((try dsimp only); omega)); (case k9 => exact BindsTo.of_eq rfl); (case c6 => decide); (case kB => exact locs rfl); (case c3 => exact rfl); (case c4 => exact rfl); (case c5 => exact rfl)))
  intro g L' h₁ Z F N X T
  obtain ⟨g30, g37, l30, l37, t, O, N1⟩ := start_tabs Z F N ht
  clear N
  walk_at "my steps"
  all_goals (try (exfalso; omega))
  (rename Fr _ _ _ _ => F')
  refine' call_div1 X0 T0 ?S ?room h30 h37 C30 C37 ?ha ?ha2 ?hb ?hb2 (tb_in O F' fun q hq => (N1 q hq).1) ?_
  case S => exact fun b o q => F'.keep b o (Z.st b o q)
  case room => show dp + 1 + 91 < _; omega
  case ha => omega
  case ha2 => omega
  case hb => omega
  case hb2 => omega
  intro D h' tk t1 t2 k2 ht2 hf hD
  have ec : -a = -b * c := by rw [hc, Int.neg_mul]
  rw [ec, Int.mul_ediv_cancel_left _ (by omega), Int.mul_emod_right] at hD
  obtain ⟨t', O', F2, N2⟩ := after_tabs (rest := []) F' (fun q hq => nomatch hq) g30 g37 l30 l37 k2 (fun q hq => nomatch hq) ht2 hf hD
  rw [List.append_nil] at N2
  clear F' k2 hf N1
  walk_at "my steps"
  (rename Fr _ _ _ _ => F'); (rename News _ _ _ _ => N')
  exact ret _ _ _ _ _ (kept_tabs Z F') (tb_in O' F' fun q hq => (N' q (.tail _ (.tail _ hq))).1) (fresh_tabs Z N' (.head _) (by k_ne) (by k_ne)) (N' _ (.head _)).1
end
end Mine
end
section
open PySem PySem.W PySem.Spec PySem.Calls PyProof.Rows
set_option Elab.async false
set_option maxRecDepth 100000
set_option maxHeartbeats 400000
namespace Mine
section
variable {prog : Program} {w : World} {A : Around} {s₂ : Shared} {E : Value → Shared → Prop}
variable {s : Shared} {env : Env} {elt iter : Expr} {x : Str} {px : Pos} {ifs : List Expr} {scope : Scope} {cl : List (Str × Addr)} {pos : Pos} {Q : Value → Shared → Prop}
/-- comp_core, its end any -/
theorem comp_core2 {C D : Addr} {cenv : Env} {H : Heap} {m₀ : Str → Option Value} {cled₀ : List (Addr × Obj)} {VS : Value → (Str → Option Value) → List (Addr × Obj) → Prop} {cadr : List Addr}
    {I : Addr} {fp wr : List Addr} {n : Nat} {P : Nat → Value → Prop} {St : Nat → Heap → Prop} {p : Nat → Bool} {R : Nat → Value → List (Addr × Obj) → Prop} {RR : Result → Shared → Prop}
    (W : Walks prog w A I fp wr n P St) (hsz : n ≤ sizeLine) (hst : St 0 s₂.heap) (hfp : ∀ b ∈ fp, b < s₂.heap.objs.size) (hlive : ∀ i h, St i h → ∀ b ∈ fp, ∃ o, h.get? b = some o) (hmono : ∀ i y l l', R i y l → (∀ q ∈ l, q ∈ l') → R i y l')
    (V : VarOf prog w A (hideAll s₂.heap wr) C s₂ cenv x cadr VS) (hC : s₂.heap.objs.size ≤ C) (hD : s₂.heap.objs.size ≤ D) (hDC : D ≠ C) (hcd : ∀ b ∈ cadr, s₂.heap.objs.size ≤ b ∧ b ≠ D)
    (hn : H.Ns C m₀) (hk : ∀ b o, s₂.heap.get? b = some o → H.get? b = some o) (hHD : H.get? D = some (listOf #[] 0)) (hca : cled₀.map (·.1) = cadr) (hcc : ∀ q ∈ cled₀, (∃ v, q.2.data = .cell v) ∧ H.get? q.1 = some q.2 ∧ q.1 ≠ C) {tk₀ : Nat}
    (htests : ∀ i v h tk m cled led, i < n → P i v → VS v m cled → cled.map (·.1) = cadr → Fr (hideAll s₂.heap wr) C h m → News (hideAll s₂.heap wr) C h (cled ++ led) →
      wpAny (model prog w) A (testsOf ifs cenv) (fun ok s' => ok = p i ∧ Makes (hideAll s₂.heap wr) C s₂ m (cled ++ led) (fun _ => True) s') (fun _ _ => False) { s₂ with heap := h, toks := tk })
    (helt : ∀ i v h tk m cled led, i < n → P i v → p i = true → VS v m cled → cled.map (·.1) = cadr → Fr (hideAll s₂.heap wr) C h m → News (hideAll s₂.heap wr) C h (cled ++ led) →
      wpAny (model prog w) A (eval elt cenv) (fun y s' => Makes (hideAll s₂.heap wr) C s₂ m (cled ++ led) (R i y) s') (fun _ _ => False) { s₂ with heap := h, toks := tk })
    (hQ : ∀ h' tk' m' (ys : List Value) made e, h'.Ns C m' → (∀ b o, b ∉ wr → s₂.heap.get? b = some o → h'.get? b = some o) → s₂.heap.get? D = none → s₂.heap.get? C = none → h'.get? D = some (listOf ys.toArray e) → Paired (fun i y => R i y made) ((List.range n).filter p) ys →
      (∀ q ∈ made, h'.get? q.1 = some q.2 ∧ s₂.heap.get? q.1 = none ∧ q.1 ≠ D ∧ q.1 ≠ C) → (RefsIn R → ys.Nodup) → RR (.ok .next) { s₂ with heap := h', toks := tk' }) :
    codeAny (model prog w) A (.compStart (.ListComp elt [⟨.Name x px, iter, ifs, 0⟩] scope pos) 0 (.ref I) (.ref D) cenv) RR { s₂ with heap := H, toks := tk₀ } := by
  have fresh : ∀ a, s₂.heap.objs.size ≤ a → s₂.heap.get? a = none := fun a ha => Heap.get?_none_of_le ha
  have gfresh : ∀ a, s₂.heap.get? a = none → (hideAll s₂.heap wr).get? a = none := fun a ha => by
    cases e : (hideAll s₂.heap wr).get? a with
    | none => rfl
    | some o => have := of_hideAll _ e; rw [ha] at this; cases this
  have F₀ : Fr (hideAll s₂.heap wr) C H m₀ := ⟨hn, fun b o e => hk b o (of_hideAll _ e), by rw [hideAll_size]; exact hC⟩
  have N₀ : News (hideAll s₂.heap wr) C H (cled₀ ++ [(D, listOf #[] 0)]) := fun q hq => by
    rcases List.mem_append.mp hq with hq | hq
    · have := hcc q hq
      exact ⟨this.2.1, this.2.2, gfresh _ (fresh _ (hcd q.1 (hca ▸ List.mem_map_of_mem hq)).1)⟩
    · rw [List.mem_singleton.mp hq]
      exact ⟨hHD, hDC, gfresh _ (fresh _ hD)⟩
  have hst₁ : St 0 H := W.frame _ _ _ hst fun b _ o e => hk b o e
  have loop : codeAny (model prog w) A (.compLoop (.ListComp elt [⟨.Name x px, iter, ifs, 0⟩] scope pos) 0 (.ref I) (.ref D) cenv) RR { s₂ with heap := H, toks := tk₀ } := by
    refine codeAny_compLoop_own W V p R hmono (fun h => absurd (hfp _ h) (Nat.not_lt.mpr hC)) (fun h => absurd (hfp _ h) (Nat.not_lt.mpr hD)) (fun b hb h => absurd (hfp _ h) (Nat.not_lt.mpr (hcd b hb).1)) (fun h => (hcd D h).2 rfl)
      (fun b hb => hideAll_none _ hb) hlive F₀ N₀ hca (fun q hq => (hcc q hq).1) hst₁ htests helt (fun h' tk' m' ys made e F' N' hP hmd hyn => ?_) hsz
    have hDN := N' _ (.head _)
    refine hQ h' tk' m' ys made e F'.ns (fun b o hb eo => F'.keep b o (hideAll_get _ eo hb)) (fresh _ hD) (fresh _ hC) hDN.1 hP (fun q hq => ?_) hyn
    have hq' := N' q (.tail _ hq)
    refine ⟨hq'.1, ?_, (hmd q hq).1, hq'.2.1⟩
    cases eo : s₂.heap.get? q.1 with
    | none => rfl
    | some o => have := hq'.2.2; rw [hideAll_get _ eo fun hb => (hmd q hq).2 (W.sub _ hb)] at this; cases this
  exact codeAny_compStart_list loop (W.self 0 _ _ _ hst₁ loop)

/-- a list comprehension over one local name, given to a local name -/
theorem comp_localA {y : Str} {py spos : Pos} {QF : Flow → Shared → Prop} (hsw : swapsWith (.ListComp elt [⟨.Name x px, iter, ifs, 0⟩] scope pos) (some (.Name y py)) spos.line env = pure true) (hclos : closureFor scope env = pure cl) (hcell : ∀ y ∈ scope.names, y.2 ≠ .cell) (hkind : scope.kind = .function) (hnames : ∀ y ∈ scope.names, y.2 = .local → scope.names.lookup y.1 = some .local) (hx : scope.names.lookup x = some .local)
    (hy : env.kindOf y = some .local) (hp : (env.scope.kind == .class || (env.scope.kind == .module && env.locals != env.globals)) = false)
    (h : wpAny (model prog w) A (eval iter env) (fun xv s₁ => wpAny (model prog w) A (pyIter xv) (fun it s₂ => (∃ m, s₂.heap.Ns env.locals m) ∧ CompAt prog w A (fun C => compEnvC scope cl C env) x (fun _ v m _ => m x = some v) (fun _ => []) ifs elt
      (fun v s' => ∀ h'', Heap.SameBut env.locals s'.heap h'' → (∀ m, s'.heap.Ns env.locals m → h''.Ns env.locals (fun z => if z = y then some v else m z)) → QF .next { s' with heap := h'' }) it s₂) E s₁) E s)
    (hs : ∀ x, foldedSetIterable iter env x = pure x := by intro _; rfl) :
    wpAny (model prog w) A (exec (.Assign [.Name y py] (.ListComp elt [⟨.Name x px, iter, ifs, 0⟩] scope pos) spos) env) QF E s := by
  rw [exec_Assign_Name_used _ _ _ _ hsw]
  refine wpAny_bind (wpAny_standAt (wpAny_bind ?_))
  show wpAny _ A (do let _ ← comprehension (.ListComp elt [⟨.Name x px, iter, ifs, 0⟩] scope pos) scope env _ (newList []) false (eval iter env) (some (assign (.Name y py) env))) _ _ s
  refine wpAny_bind (wpAny_mono (wpAny_comprehension_free (use := some (assign (.Name y py) env)) (Q := fun _ s' => QF .next s') rfl hs hclos hkind hnames
    (wpAny_mono h (fun xv s₁ h₁ => wpAny_mono h₁ (fun it s₂ h₂ => ?_) fun _ _ e => e) fun _ _ e => e)) (fun _ s' hq => wpAny_pure (wpAny_pure hq)) fun _ _ e => e)
  obtain ⟨⟨mL, hnL⟩, I, fp, wr, n, P, St, p, R, rfl, W, hsz, hst, hfp, hlive, hnd, hmono, htests, helt, hQ⟩ := h₂
  have hLw : env.locals ∉ wr := fun hb => by
    obtain ⟨o, ho, hd⟩ := hnd _ hb
    obtain ⟨o', es, ep, ho', hd', _⟩ := hnL
    rw [ho] at ho'; cases ho'
    exact hd _ _ hd'
  refine wpAny_newObj_type (newEnv_own hkind ?_)
  rw [pushCells_none _ hcell, cellsFrom_none _ _ hcell]
  have hC : (s₂.heap.push (listOf #[] 0)).objs.size = s₂.heap.objs.size + 1 := Heap.size_push ..
  refine comp_core2 (cenv := compEnvC scope cl (s₂.heap.push (listOf #[] 0)).objs.size env) (C := (s₂.heap.push (listOf #[] 0)).objs.size) (D := s₂.heap.objs.size) (cled₀ := []) W hsz hst hfp hlive hmono (var_local (lookup_relabel_local hx) rfl (by simp [compEnvC, relabel, hkind])) (by rw [hC]; exact Nat.le_succ _) (Nat.le_refl _) (by rw [hC]; exact Nat.ne_of_lt (Nat.lt_succ_self _)) (fun _ h => nomatch h)
    (Heap.Ns.new _ (.type "dict")) (fun b o e => Heap.get?_push_of_some _ (Heap.get?_push_of_some _ e)) (Heap.get?_push_of_some _ (Heap.get?_push_size _ rfl)) rfl (fun _ h => nomatch h) (htests _) (helt _) ?_
  intro h' tk' m' ys made e hnC hk hDf hCf hD hP hm hyn
  obtain ⟨oL, es, ep, hoL, hoLd, hoLk, hoLf⟩ := hnL
  have hLC : env.locals ≠ (s₂.heap.push (listOf #[] 0)).objs.size := by
    intro q; rw [← q, hoL] at hCf; cases hCf
  have hLD : env.locals ≠ s₂.heap.objs.size := by
    intro q; rw [← q, hoL] at hDf; cases hDf
  show wpAny _ A (assign (.Name y py) env (.ref s₂.heap.objs.size)) _ _ _
  have hnL' : Heap.Ns h' env.locals mL := ⟨oL, es, ep, hk _ _ hLw hoL, hoLd, hoLk, hoLf⟩
  refine wpAny_assign_Name (wpAny_storeName_local hy hnL' (fun h₂ hn₂ hs₂ => ?_) hp)
  refine ⟨m', hnC.sameBut hs₂ (Ne.symm hLC), fun h₃ hs₃ => ?_⟩
  -- the heap with the names as they were
  have hlive3 : ∃ o3, h₃.get? env.locals = some o3 := by
    obtain ⟨o, _, _, ho, _⟩ := hn₂
    exact ⟨o, (hs₃.2 _ hLC).trans ho⟩
  obtain ⟨o3, ho3⟩ := hlive3
  have hfr : oL.isFreed = false := (Heap.get?_some_iff.mp hoL).2
  have hself := Heap.get?_update_self (fun _ => oL) ho3 hfr
  have hoth : ∀ b, b ≠ env.locals → (h₃.update env.locals fun _ => oL).get? b = h₃.get? b := fun b hb => Heap.get?_update_other _ _ (Ne.symm hb)
  have keep3 : ∀ b o, b ≠ env.locals → b ≠ (s₂.heap.push (listOf #[] 0)).objs.size → h'.get? b = some o → h₃.get? b = some o := fun b o h1 h2 eo =>
    hs₃.extBut b o h2 (hs₂.extBut b o h1 eo)
  have hDC : s₂.heap.objs.size ≠ (s₂.heap.push (listOf #[] 0)).objs.size := by rw [hC]; exact Nat.ne_of_lt (Nat.lt_succ_self _)
  refine hQ s₂.heap.objs.size (h₃.update env.locals fun _ => oL) _ ys made e ?_ hDf ?_ hP ?_ hyn h₃ ⟨(Heap.SameBut.update h₃ env.locals (fun _ => oL)).1.symm, fun b hb => (hoth b hb).symm⟩ ?_
  · intro b o hb eo
    by_cases hbL : b = env.locals
    · subst hbL; rw [hself, ← hoL, eo]
    · rw [hoth b hbL]
      exact keep3 b o hbL (fun q => by rw [q, hCf] at eo; cases eo) (hk b o hb eo)
  · rw [hoth _ (Ne.symm hLD)]
    exact keep3 _ _ (Ne.symm hLD) hDC hD
  · intro q hq
    obtain ⟨h1, h2, h3, h4⟩ := hm q hq
    have h5 : q.1 ≠ env.locals := fun e => by rw [e, hoL] at h2; cases h2
    exact ⟨by rw [hoth _ h5]; exact keep3 _ _ h5 h4 h1, h2, h3⟩
  · intro m hm'
    have e1 : m = mL := by
      obtain ⟨o, es', ep', ho, hd, hk', hf⟩ := hm'
      have : (h₃.update env.locals fun _ => oL).get? env.locals = some oL := hself
      have ho' : (h₃.update env.locals fun _ => oL).get? env.locals = some o := ho
      rw [this] at ho'; cases ho'
      rw [hoLd] at hd; cases hd
      funext z; rw [← hf z, hoLf z]
    rw [e1]
    exact hn₂.sameBut hs₃ hLC
end
section
variable {prog : Program} {w : World} {A : Around} {E : Value → Shared → Prop} {s : Shared} {cenvAt : Addr → Env} {x : Str} {VSat : Addr → Value → (Str → Option Value) → List (Addr × Obj) → Prop} {cadrAt : Addr → List Addr} {ifs : List Expr} {elt : Expr} {Q : Value → Shared → Prop} {L : Addr}
theorem src_rangeN {r : Addr} {a₀ b₀ c₀ : Int} {t₀ u₀ v₀ : Tok} {n : Nat} {m : Str → Option Value} (hN : s.heap.Ns L m) (hh : A.handled = none) (hr : IsRange s.heap r a₀ b₀ c₀ t₀ u₀ v₀) (hsmall : Builtin.Range.small a₀ b₀ c₀ = true) (hn : Builtin.Range.rangeSize a₀ b₀ c₀ = (n : Int)) (hsz : n ≤ sizeLine)
    (h : CompDo prog w A cenvAt VSat cadrAt ifs elt Q s n (fun i v => ∃ t, v = .int (a₀ + i * c₀) t)) :
    wpAny (model prog w) A (pyIter (.ref r)) (fun it s₂ => (∃ m, s₂.heap.Ns L m) ∧ CompAt prog w A cenvAt x VSat cadrAt ifs elt Q it s₂) E s := by
  refine wpAny_pyIter_range hr hsmall ⟨⟨m, hN.push _⟩, ?_⟩
  refine comp_src (Walks.range hh s.heap.objs.size a₀ c₀ n) hsz (by show IsRangeIter _ _ _ _ _; rw [hn]; simpa using Heap.get?_push_size _ rfl) (fun b hb => Nat.le_of_eq (List.mem_singleton.mp hb)) (fun i h st b hb => ?_) rfl (fun _ _ h => by cases h) h
  rw [List.mem_singleton.mp hb]; exact ⟨_, st⟩
theorem src_bytesN {b : Array UInt8} {tb : Tok} {m : Str → Option Value} (hN : s.heap.Ns L m) (hh : A.handled = none) (hsz : b.size ≤ sizeLine) (h : CompDo prog w A cenvAt VSat cadrAt ifs elt Q s b.size (fun i v => ∃ c u, b[i]? = some c ∧ v = .int (c.toNat : Int) u)) :
    wpAny (model prog w) A (pyIter (.bytes b tb)) (fun it s₂ => (∃ m, s₂.heap.Ns L m) ∧ CompAt prog w A cenvAt x VSat cadrAt ifs elt Q it s₂) E s := by
  refine KBw.pyIter_bytes ⟨⟨m, hN.push _⟩, ?_⟩
  refine comp_src (KBw.walks hh s.heap.objs.size b tb) hsz ⟨_, Heap.get?_push_size _ rfl, rfl, rfl⟩ (fun b hb => Nat.le_of_eq (List.mem_singleton.mp hb)) (fun i h st b hb => ?_) rfl (fun _ _ h => by cases h) h
  rw [List.mem_singleton.mp hb]
  obtain ⟨o, ho, _⟩ := st; exact ⟨o, ho⟩
end
end Mine
end
section
set_option Elab.async false
namespace Mine
/-- the matrix without its first row and its column k -/
noncomputable abbrev mnr (N : Nat → Nat → Int) (k : Nat) : Nat → Nat → Int := fun a b => N (a + 1) (if b < k then b else b + 1)
/-- what _law_signed answers -/
noncomputable def dtL : Nat → (Nat → Nat → Int) → Int
  | 0, _ => 1
  | n + 1, N => ((List.range (n + 1)).map fun (k : Nat) => (1 - 2 * ((k : Int) % 2)) * N 0 k * dtL n (mnr N k)).sum
noncomputable def dtB : Nat → Int
  | 0 => 1
  | n + 1 => ((n : Int) + 1) * (16 * dtB n)
theorem sum_bd {B : Int} (f : Nat → Int) (h : ∀ k, -B ≤ f k ∧ f k ≤ B) : ∀ m : Nat, -((m : Int) * B) ≤ ((List.range m).map f).sum ∧ ((List.range m).map f).sum ≤ (m : Int) * B
  | 0 => by simp
  | m + 1 => by
    have ih := sum_bd f h m
    have hk := h m
    rw [List.range_succ, List.map_append, List.sum_append]
    have e : ((m + 1 : Nat) : Int) * B = m * B + B := by rw [Int.natCast_succ, Int.add_mul, Int.one_mul]
    rw [e]
    simp only [List.map_cons, List.map_nil, List.sum_cons, List.sum_nil]
    omega
theorem mul_bd {a b A B : Int} (ha : -A ≤ a ∧ a ≤ A) (hb : -B ≤ b ∧ b ≤ B) (hB : 0 ≤ B) : -(A * B) ≤ a * b ∧ a * b ≤ A * B := by
  have h1 : (a.natAbs : Int) ≤ A := by omega
  have h2 : (b.natAbs : Int) ≤ B := by omega
  have h3 : ((a * b).natAbs : Int) ≤ A * B := by
    rw [Int.natAbs_mul, Int.natCast_mul]
    exact Int.mul_le_mul h1 h2 (by omega) (by omega)
  omega
theorem dtB_pos : ∀ n, 0 ≤ dtB n
  | 0 => by decide
  | n + 1 => Int.mul_nonneg (by omega) (Int.mul_nonneg (by decide) (dtB_pos n))
theorem dt_bd : ∀ (n : Nat) (N : Nat → Nat → Int), (∀ i j, -16 ≤ N i j ∧ N i j ≤ 16) → -(dtB n) ≤ dtL n N ∧ dtL n N ≤ dtB n
  | 0, _, _ => by simp [dtL, dtB]
  | n + 1, N, h => by
    have hk : ∀ k : Nat, -(16 * dtB n) ≤ (1 - 2 * ((k : Int) % 2)) * N 0 k * dtL n (mnr N k) ∧ (1 - 2 * ((k : Int) % 2)) * N 0 k * dtL n (mnr N k) ≤ 16 * dtB n := fun k => by
      refine mul_bd ?_ (dt_bd n _ fun i j => h _ _) (dtB_pos n)
      have h0 := h 0 k
      rcases Int.emod_two_eq (k : Int) with e | e <;> rw [e] <;> omega
    have := sum_bd _ hk (n + 1)
    have e : dtB (n + 1) = ((n + 1 : Nat) : Int) * (16 * dtB n) := by rw [Int.natCast_succ]; rfl
    rw [e]
    exact this
theorem dt_bound (n : Nat) (hn : n ≤ 4) (N : Nat → Nat → Int) (h : ∀ i j, -16 ≤ N i j ∧ N i j ≤ 16) : -1572864 ≤ dtL n N ∧ dtL n N ≤ 1572864 := by
  have h1 := dt_bd n N h
  have h2 : dtB n ≤ 1572864 := by
    have : n = 0 ∨ n = 1 ∨ n = 2 ∨ n = 3 ∨ n = 4 := by omega
    rcases this with rfl | rfl | rfl | rfl | rfl <;> decide
  omega
end Mine
end
section
open PySem PySem.W PySem.Spec PySem.Calls PyProof.Rows
set_option Elab.async false
set_option maxRecDepth 100000
set_option maxHeartbeats 8000000
namespace Mine
theorem mem_e2_S1 {x a0 a1 : Addr × Obj} (h : x ∈ [a0, a1]) : x = a0 ∨ x = a1 := by simpa using h
theorem mem_e3_S1 {x a0 a1 a2 : Addr × Obj} (h : x ∈ [a0, a1, a2]) : x = a0 ∨ x = a1 ∨ x = a2 := by simpa using h
theorem kwS1 : True := by
  k_with_none
  k_with "mem1" => (first | (with_reducible exact List.mem_cons_self) | (with_reducible assumption) | (with_reducible refine List.mem_append_right _ ?_; k_extra "mem1") | (with_reducible refine List.mem_append_left _ ?_; k_extra "mem1") | (with_reducible refine List.mem_cons_of_mem _ ?_; k_extra "mem1"))
  k_with "sub" => (first | (intro _ hq0; k_extra "tl") | (with_reducible exact List.forall_mem_nil _) | ((with_reducible refine List.forall_mem_cons.mpr (And.intro ?_ ?_)); (focus k_extra "mem1"); k_extra "sub") | ((with_reducible refine List.forall_mem_append.mpr (And.intro ?_ ?_)); (focus k_extra "sub"); k_extra "sub"))
  k_with "tl" => (first | (with_reducible assumption) | (with_reducible refine List.mem_append_right _ ?_; k_extra "tl") | (with_reducible refine List.mem_append_left _ ?_; k_extra "tl") | (with_reducible refine List.mem_cons_of_mem _ ?_; k_extra "tl"))
  k_with "my enterC" => (k_dflt (refine' enter_defC (args := ⟨_, _⟩) [] (by assumption) (by assumption) (by assumption) (by exact fun q hq => nomatch hq) (by k_is) (by k_is) (by first | omega | ((try dsimp only); omega)) (by exact BindsTo.of_eq rfl) (by exact rfl) (by decide +kernel) ?_ (by exact rfl) (by exact rfl) (by exact rfl)))
  k_with "my steps" => (repeat' ((fail_if_success (with_reducible show wpAny _ _ (pyIter _) _ _ _)); (fail_if_success (with_reducible show wpAny _ _ (eval (Expr.ListComp _ _ _ _) _) _ _ _)); (first | (k_unfold; (try dsimp only)) | k_extra "own" | walk1 | (dsimp only; (first | k_extra "own" | walk1)) | (leave1; try dsimp only))))
  k_with "my step" => ((first | (k_unfold; (try dsimp only)) | k_extra "own" | walk1 | (dsimp only; (first | k_extra "own" | walk1)) | (leave1; try dsimp only)))
  k_with "own" => ((k_here; (with_reducible show wpAny _ _ (compareOp CmpOp.Eq (Value.ref _) (Value.ref _)) _ _ _); k_dflt (first | (refine' tab_eqnil_t (by k_asm) (by k_asm) (by with_reducible assumption) (by k_mem) (by assumption) ?_) | (refine' tab_eqnil_f (by k_asm) (by k_asm) (by with_reducible assumption) (by k_mem) (by assumption) (by simp) ?_))))
  k_with "own" => ((k_here; (with_reducible show wpAny _ _ (call (Value.builtin "len") [Value.ref _]) _ _ _); k_dflt (refine' tab_len (by k_asm) (by with_reducible assumption) (by first | omega | (simp; omega)) ?_; k_whole); intro _ _))
  k_with "own" => ((k_here; (with_reducible show wpAny _ _ (subscriptTail _ (PySem.Expr.Slice (some (PySem.Expr.Constant _ _ _)) none none _) (Value.ref _) (Value.ref _)) _ _ _); (with_reducible rename Fr _ _ _ _ => F''); (with_reducible rename News _ _ _ _ => N''); k_dflt (refine' tab_tail F'' N'' (by with_reducible assumption) (by first | omega | (simp; omega)) ?_ (by with_unfolding_all rfl) (by kmk_pure)); intro _ _ _ _ _ l1 z0; (try k_lt l1); (revert l1 z0; intro _ _)))
  k_with "own" => ((k_here; (with_reducible show wpAny _ _ (subscriptTail _ (PySem.Expr.Slice (some _) none none _) (Value.ref _) (Value.ref _)) _ _ _); (with_reducible rename Fr _ _ _ _ => F''); (with_reducible rename News _ _ _ _ => N''); k_dflt (refine' row_from F'' N'' (by with_reducible assumption) (by with_reducible assumption) (by omega) (by first | omega | (simp; omega)) ?_ (by with_unfolding_all rfl) (by kmk_pure)); intro _ _ _ _ _ l1 z0; (try k_lt l1); (revert l1 z0; intro _ _)))
  k_with "own" => ((k_here; (with_reducible show wpAny _ _ (subscriptTail _ (PySem.Expr.Slice none (some _) none _) (Value.ref _) (Value.ref _)) _ _ _); (with_reducible rename Fr _ _ _ _ => F''); (with_reducible rename News _ _ _ _ => N''); k_dflt (refine' row_upto F'' N'' (by with_reducible assumption) (by with_reducible assumption) (by omega) (by first | omega | (simp; omega)) ?_ (by with_unfolding_all rfl) (by kmk_pure)); intro _ _ _ _ _ l1 z0; (try k_lt l1); (revert l1 z0; intro _ _)))
  k_with "own" => ((k_here; (with_reducible show wpAny _ _ (subscriptTail _ _ (Value.ref _) (Value.int _ _)) _ _ _); k_dflt (first | (refine' tab_row (by k_asm) (by with_reducible assumption) (by omega) (by first | omega | (simp; omega)) (by first | omega | (simp; omega)) ?_ (by with_unfolding_all rfl); intro _ _) | (refine' tab_cell (by k_asm) (by with_reducible assumption) (by omega) (by first | omega | (simp; omega)) (by first | omega | (simp; omega)) ?_ (by with_unfolding_all rfl); intro _))))
  k_with "own" => ((k_here; (with_reducible show wpAny _ _ (eval (Expr.Name _ _) (compEnvC _ _ _ _)) _ _ _); (with_reducible rename Fr _ _ _ _ => F''); k_dflt (first
  | (refine' base_free F'' (by rfl) (by with_reducible assumption) (by with_reducible assumption) ?_ (by rfl) (by rfl); k_whole)
  | (refine' comp_name F'' (by with_reducible assumption) ?_ (by rfl) (by rfl); k_whole)
  | (refine' base_cell F'' (by rfl) (by with_reducible assumption) (by with_reducible assumption) ?_ (by rfl) (by rfl); k_whole))))
  trivial
section
variable {prog : Program} {w : World} {s : Shared} {B0 : Heap} {mg mb : Str → Option Value} {p : Program} {loose : List Str} {mean : ExcName → Option Value}
  {Q E : Value → Shared → Prop}
theorem call_signed (X0 : (hd.heap_1 w.params).In B0) (T0 : Top p loose mean mg mb B0) : ∀ (n : Nat) {s : Shared} {dp un : Nat} {fr : Option (List Env)} {gd : Option (List Code)} {Q E : Value → Shared → Prop} {a : Addr} {N : Nat → Nat → Int}, n ≤ 4 → B0.StaysIn s.heap → dp + n + 2 < recursionLimit → un + 3 * n + 80 < cLine →
   IsTab s.heap a (matL n N) → (∀ i j, -16 ≤ N i j ∧ N i j ≤ 16) →
   (∀ h' tk t, (∀ c o, s.heap.get? c = some o → h'.get? c = some o) → Q (.int (dtL n N) t) {s with heap := h', toks := tk}) →
   wpAny (model prog w) (AA dp un fr gd) (call (.ref 68) [.ref a]) Q E s := by
  intro n
  induction n with
  | zero =>
    intro s dp un fr gd Q E a M hn S hroom hu IT hM ret
    walk_at "my enterC"
    intro g L' h₁ tk cells Z F N Y X T
    k_dflt (have hY := CellsAre.one Y; obtain ⟨o1, hE, dA⟩ := hY)
    subst hE
    clear Y
    replace IT : IsTab g a [] := IT.keeps fun b o e => Z.old b o (fun h => nomatch h) e
    simp only [List.cons_append, List.nil_append] at N
    have hu' : un + 3 + 64 < cLine := by omega
    walk_at "my steps"
    (rename Fr _ _ _ _ => F')
    exact ret _ _ _ (fun c o e => Z.kept F' c o (fun h => nomatch h) e)
  | succ n ih =>
    intro s dp un fr gd Q E a M hn S hroom hu IT hM ret
    walk_at "my enterC"
    intro g L' h₁ tk cells Z F N Y X T
    k_dflt (have hY := CellsAre.one Y; obtain ⟨o1, hE, dA⟩ := hY)
    subst hE
    clear Y
    replace IT : IsTab g a (matL (n + 1) M) := IT.keeps fun b o e => Z.old b o (fun h => nomatch h) e
    simp only [List.cons_append, List.nil_append] at N
    have hu' : un + 3 + 64 < cLine := by omega
    walk_at "my steps"
    refine' comp_cell (x := "k") ?hclos ?hc1 ?hc2 ?hkind ?hnames ?hx ?_ 
    case hclos => with_unfolding_all rfl
    case hc1 => intros; rfl
    case hc2 => intros; rfl
    case hkind => rfl
    case hnames => decide
    case hx => rfl
    walk_at "my steps"
    (rename IsRange _ _ _ _ _ _ _ _ => hR); (rename Fr _ _ _ _ => F'); (rename News _ _ _ _ => N'); (rename ∀ (b : Addr) (o : Obj), _ => hk')
    have hlen : (matL (n + 1) M).length = n + 1 := by simp
    rw [hlen] at hR
    refine src_range (n := n + 1) rfl hR ?small ?size (Nat.le_trans hn (by decide)) ?_
    case small => exact small_nat (by decide) (by decide) (by omega) (by omega)
    case size => rw [rangeSize_nat]; omega
    refine ⟨fun _ => true, fun i y _ => ∃ t, y = .int ((1 - 2 * ((i : Int) % 2)) * M 0 i * dtL n (mnr M i)) t, fun _ _ _ _ h _ => h, fun g' C i v h tk m cled led _ _ _ _ _ _ F1 N1 => tests_nil F1 N1, ?elt, ?done⟩
    case elt =>
      rintro g' C i v h tk m cled led hg _ hin ⟨t, rfl⟩ - ⟨o, rfl, ho⟩ - F1 N1
      have hcell : g'.get? (L' + 1) = some o1 := hg _ _ (N' (L' + 1, o1) (by k_mem)).1
      have e0 : (0 : Int) + (i : Int) * 1 = i := by omega
      rw [e0] at ho
      replace IT : IsTab g' a (matL (n + 1) M) := (IT.keeps F'.keep).keeps hg
      have SI : g.StaysIn g' := fun b o e => hg b o (F'.keep b o e)
      replace T := T.keeps SI
      replace X := X.keeps SI
      simp only [List.cons_append, List.nil_append] at N1
      have dA' : o1.data = .cell (some (.ref a)) := dA
      clear hk' hR N' F' dA
      dsimp only
      walk_at "my steps"
      refine' comp_local (x := "row") ?hclos2 ?hcell2 ?hkind2 ?hnames2 ?hx2 ?_
      case hclos2 => with_unfolding_all rfl
      case hcell2 => decide
      case hkind2 => rfl
      case hnames2 => decide
      case hx2 => rfl
      walk_at "my steps"
      (rename RowsV _ _ _ => hz); (rename News _ _ _ _ => N2); (rename Fr _ _ _ _ => F2)
      rename_i D0 h2 zs lD0
      have hzl : zs.toArray.size = n := by
        have h1 := PySem.Paired.length hz
        simp at h1
        rw [List.size_toArray]; exact h1.symm
      refine src_list_n (n := n) hzl rfl (N2.isList (n := 0) (.head _)) (Nat.le_trans (Nat.le_of_succ_le hn) (by decide)) ?_
      refine ⟨fun _ => true, fun j y made => ∃ r vs cnt, y = .ref r ∧ (r, listOf vs.toArray cnt) ∈ made ∧ IntsAre vs (rowL n (mnr M i j)), (by rintro i y l l' ⟨r, vs, c, h1, h2, h3⟩ hs; exact ⟨r, vs, c, h1, hs _ h2, h3⟩), fun g' C i v h tk m cled led _ _ _ _ _ _ F1 N1 => tests_nil F1 N1, ?elt2, ?done2⟩
      case elt2 =>
        rintro g3 C2 j v h3 tk3 m3 cled3 led3 hg3 - hj hPv - hv hcl3 F3 N3
        have hc3 : cled3 = [] := List.map_eq_nil_iff.mp hcl3
        subst hc3
        have hAt := hz.at_ (j := j) (v := v) hPv
        obtain ⟨ks, hAt⟩ := hAt
        obtain ⟨r, hAt⟩ := hAt
        obtain ⟨hks, hvr, hIL⟩ := hAt
        subst hvr
        have hks' := tail_row hks
        subst hks'
        have hIL3 : IntL g3 r (rowL (n + 1) (M (j + 1))) := (hIL.keeps F2.keep).keeps hg3
        have hLs := hIL3.isList
        obtain ⟨vs, hLs⟩ := hLs
        obtain ⟨hl, hi⟩ := hLs
        have hcell3 : g3.get? (C + 1) = some o := hg3 _ _ (N2 (C + 1, o) (by k_mem)).1
        simp only [List.nil_append] at N3
        clear hg3 hPv hIL hcl3 N2 F2 hz hks hzl hcell T X IT
        dsimp only
        walk_at "my steps"
        (rename Fr _ _ _ _ => F4); (rename News _ _ _ _ => N4); (rename IntsAre _ _ => hI4)
        rename_i Da _ _ la _ Db _ _ _ lb Dc ws _ lc
        simp only [Int.toNat_natCast] at hI4
        have ei : ((i : Int) + 1).toNat = i + 1 := by omega
        rw [ei, cut_row n i hin] at hI4
        refine ⟨_, _, [(Dc, listOf ws.toArray 0), (Db, _), (Da, _)], rfl, F4, N4, ?_, Dc, ws, 0, rfl, .head _, hI4⟩
        intro q hq x hx e
        have hxl : x ∈ led3 := hx
        replace hq := mem_e3_S1 hq
        rcases hq with rfl | rfl | rfl
        · exact absurd (allLt_mem lc.2.2 x hxl) (by rw [← e]; exact Nat.lt_irrefl _)
        · exact absurd (allLt_mem lb.2 x hxl) (by rw [← e]; exact Nat.lt_irrefl _)
        · exact absurd (la x hxl) (by rw [← e]; exact Nat.lt_irrefl _)
      case done2 =>
        intro D h' tk' ys made e hk hDf hD hP hm _
        have IT2 : IsTab h' D (matL n (mnr M i)) := by
          refine ⟨ys, e, hD, ?_⟩
          rw [range_all] at hP
          refine Paired.map_l (F := fun j y => ∃ r vs cnt, y = .ref r ∧ (r, listOf vs.toArray cnt) ∈ made ∧ IntsAre vs (rowL n (mnr M i j))) _ ?_ hP
          rintro j y ⟨r, vs, c, h1, h2, h3⟩
          exact ⟨r, h1, vs, c, (hm _ h2).1, h3⟩
        have F4 := back_fr F2 (tabs := []) (fun b o _ e => hk b o e) (fun b hb => nomatch hb) (fun hb => nomatch hb)
        have N4 := back_old N2 (tabs := []) (fun b o _ e => hk b o e) (fun q _ hb => nomatch hb)
        have N5 := back_new F2 N4 hDf hD
        have N6 := back_made F2 N5 (made := made) (fun q hq => ⟨(hm q hq).1, (hm q hq).2.1⟩)
        have ap : ∀ q ∈ (made ++ [(D, listOf ys.toArray e), (D0, listOf zs.toArray 0)]), ∀ r ∈ (C + 1, o) :: led, q.1 ≠ r.1 := by
          intro q hq r hr e
          rcases List.mem_append.mp hq with hq | hq
          · have h1 := (hm q hq).2.1
            have h2 := (N2 r (.tail _ hr)).1
            rw [e, h2] at h1; cases h1
          · replace hq := mem_e2_S1 hq
            rcases hq with rfl | rfl
            · have h2 := (N2 r (.tail _ hr)).1
              have e' : D = r.1 := e
              rw [e', h2] at hDf; cases hDf
            · have e' : D0 = r.1 := e
              rcases List.mem_cons.mp hr with rfl | hr
              · exact absurd lD0.1 (by rw [e']; exact Nat.lt_irrefl _)
              · exact absurd (allLt_mem lD0.2 r hr) (by rw [e']; exact Nat.lt_irrefl _)
        clear N4 N5 hk hD hDf hP hz hzl N2 F2 lD0
        dsimp only
        walk_at "my steps"
        refine' ih (Nat.le_of_succ_le hn) ?S ?room ?hu IT2 (fun x y => hM (x + 1) (if y < i then y else y + 1)) ?_
        case S => exact fun b x q => F4.keep b x (SI b x (Z.st b x q))
        case room => show dp + 1 + n + 2 < _; omega
        case hu => show un + 3 + 3 * n + 80 < _; omega
        intro h5 tk5 t5 k5
        have F5 := back_fr F4 (tabs := []) (fun b o _ e => k5 b o e) (fun b hb => nomatch hb) (fun hb => nomatch hb)
        have N7 := back_old N6 (tabs := []) (fun b o _ e => k5 b o e) (fun q _ hb => nomatch hb)
        clear F4 N6 k5 IT2
        have hbd := dt_bound n (Nat.le_of_succ_le hn) (mnr M i) (fun x y => hM (x + 1) (if y < i then y else y + 1))
        obtain ⟨hb1, hb2⟩ := hbd
        walk_at "my steps"
        refine ⟨_, _, made ++ [(D, listOf ys.toArray e), (D0, listOf zs.toArray 0)], rfl, F5, ?_, ap, ?_⟩
        · simpa using N7
        · have e1 : ((matL (n + 1) M).getD (Int.toNat 0) []).getD ((i : Int)).toNat 0 = M 0 i := by
            rw [Int.toNat_natCast]; exact mat_get (n + 1) M 0 i (Nat.succ_pos n) hin
          rw [e1, Int.fmod_eq_emod_of_nonneg _ (by decide)]
          exact ⟨_, rfl⟩
    case done =>
      intro D h' tk' ys made e hk hDf hD hP hm _
      rw [range_all] at hP
      have hI := ints_paired hP
      have F2 := back_fr F' (tabs := []) (fun b o _ e => hk b o e) (fun b hb => nomatch hb) (fun hb => nomatch hb)
      have N2 := back_new F' (back_old N' (tabs := []) (fun b o _ e => hk b o e) (fun q _ hb => nomatch hb)) hDf hD
      clear hk hP hm hD hDf N' F' hk'
      walk_at "my steps"
      (rename Fr _ _ _ _ => F3)
      exact ret _ _ _ (fun c o e => Z.kept F3 c o (fun h => nomatch h) e)
end
end Mine
end
section
open PySem PySem.W PySem.Spec PySem.Calls PyProof.Rows
set_option Elab.async false
set_option maxRecDepth 100000
set_option maxHeartbeats 400000
namespace Mine
section
variable {prog : Program} {w : World} {A : Around} {E : Value → Shared → Prop} {s : Shared} {env : Env} {h₀ : Heap} {x : Str} {body : List Stmt} {Q : Flow → Shared → Prop}
/-- what a turn of a loop over a cell leaves -/
noncomputable abbrev CellEnd (c : Addr) (J : (Str → Option Value) → List (Addr × Obj) → Prop) : (Str → Option Value) → List (Addr × Obj) → Prop := fun m' news' =>
  ∃ o rest, news' = (c, o) :: rest ∧ (∃ v, o.data = .cell v) ∧ (∀ q ∈ rest, q.1 ≠ c) ∧ J m' rest
noncomputable def LoopCell (prog : Program) (w : World) (A : Around) (h₀ : Heap) (env : Env) (c : Addr) (body : List Stmt) (Q : Flow → Shared → Prop) (E : Value → Shared → Prop) (it : Value) (s₂ : Shared) : Prop :=
  ∃ (I : Addr) (n : Nat) (P : Nat → Value → Prop) (St : Nat → Heap → Prop) (m : Str → Option Value) (news : List (Addr × Obj)) (oc : Obj) (J : Nat → (Str → Option Value) → List (Addr × Obj) → Prop),
    it = .ref I ∧ Walks prog w A I [I] [I] n P St ∧ (∀ i h, St i h → ∃ o, h.get? I = some o ∧ NoCode o) ∧ env.locals ≠ I ∧ c ≠ I ∧ h₀.get? I = none ∧ (∀ q ∈ news, q.1 ≠ I ∧ q.1 ≠ c) ∧ St 0 s₂.heap ∧ Fr h₀ env.locals s₂.heap m ∧ News h₀ env.locals s₂.heap ((c, oc) :: news) ∧ (∃ v, oc.data = .cell v) ∧ J 0 m news ∧
    (∀ i v m₁ news₁ h tk it o', i < n → P i v → J i m₁ news₁ → NoCode it → o'.data = .cell (some v) → (∀ q ∈ news₁, q.1 ≠ I ∧ q.1 ≠ c) → Fr h₀ env.locals h m₁ → News h₀ env.locals h ((I, it) :: (c, o') :: news₁) →
      wpAny (model prog w) A (execs body env) (TurnEnd h₀ env.locals [(I, it)] [I] (CellEnd c (J (i + 1))) { s₂ with heap := h, toks := tk } Q) E { s₂ with heap := h, toks := tk }) ∧
    ∀ h' tk m' news' o', Fr h₀ env.locals h' m' → News h₀ env.locals h' ((c, o') :: news') → J n m' news' → Q .next { s₂ with heap := h', toks := tk }

theorem codeAny_forLoop_cell {R : Result → Shared → Prop} {px : Pos} {I c : Addr} {n : Nat} {P : Nat → Value → Prop} {St : Nat → Heap → Prop} {m : Str → Option Value} {news : List (Addr × Obj)} {oc : Obj}
    (hk : env.scope.kind = .function) (hx : env.kindOf x = some .cell) (hc : env.cells.lookup x = some c)
    (W : Walks prog w A I [I] [I] n P St) (hlive : ∀ i h, St i h → ∃ o, h.get? I = some o ∧ NoCode o) (hLI : env.locals ≠ I) (hcI : c ≠ I) (hI0 : h₀.get? I = none) (hnw : ∀ q ∈ news, q.1 ≠ I ∧ q.1 ≠ c)
    (hst : St 0 s.heap) (F : Fr h₀ env.locals s.heap m) (N : News h₀ env.locals s.heap ((c, oc) :: news)) (hoc : ∃ v, oc.data = .cell v)
    (J : Nat → (Str → Option Value) → List (Addr × Obj) → Prop) (h0 : J 0 m news)
    (step : ∀ i v m₁ news₁ h tk it o', i < n → P i v → J i m₁ news₁ → NoCode it → o'.data = .cell (some v) → (∀ q ∈ news₁, q.1 ≠ I ∧ q.1 ≠ c) → Fr h₀ env.locals h m₁ → News h₀ env.locals h ((I, it) :: (c, o') :: news₁) →
      wpAny (model prog w) A (execs body env) (TurnEnd h₀ env.locals [(I, it)] [I] (CellEnd c (J (i + 1))) { s with heap := h, toks := tk } (fun f s' => R (.ok f) s')) (notedBy (model prog w) A env fun e s' => R (.error e) s') { s with heap := h, toks := tk })
    (hR : ∀ h' tk m' news' o', Fr h₀ env.locals h' m' → News h₀ env.locals h' ((c, o') :: news') → J n m' news' → R (.ok .next) { s with heap := h', toks := tk }) :
    codeAny (model prog w) A (.forLoop (.Name x px) (.ref I) body [] env) R s := by
  refine codeAny_forLoop
    (fun k s' => ∃ h' tk m' news' o' i, s' = { s with heap := h', toks := tk } ∧ St i h' ∧ Fr h₀ env.locals h' m' ∧ News h₀ env.locals h' ((c, o') :: news') ∧ (∃ v, o'.data = .cell v) ∧ (∀ q ∈ news', q.1 ≠ I ∧ q.1 ≠ c) ∧ J i m' news' ∧ i ≤ n ∧ k = n + 1 - i) ?_ (n + 1)
    ⟨s.heap, s.toks, m, news, oc, 0, rfl, hst, F, N, hoc, hnw, h0, Nat.zero_le _, rfl⟩
  rintro k s' ⟨h', tk, m', news', o', i, rfl, hst', F', N', hoc', hnw', hJ, hi, rfl⟩
  have hLw : env.locals ∉ [I] := fun h => hLI (List.mem_singleton.mp h)
  have next : ∀ h₁ : Heap, (∀ b o, b ∉ [I] → h'.get? b = some o → h₁.get? b = some o) → Fr h₀ env.locals h₁ m' ∧ News h₀ env.locals h₁ ((c, o') :: news') := fun h₁ hk₁ =>
    ⟨⟨F'.ns.at' fun o e => hk₁ _ o hLw e, fun b o e => hk₁ b o (fun hb => by rw [List.mem_singleton.mp hb, hI0] at e; cases e) (F'.keep b o e), F'.above⟩, fun p hp => ⟨hk₁ _ _ (fun hb => by
      rcases List.mem_cons.mp hp with rfl | hp
      · exact hcI (List.mem_singleton.mp hb)
      · exact (hnw' p hp).1 (List.mem_singleton.mp hb)) (N' p hp).1, (N' p hp).2⟩⟩
  by_cases hlt : i < n
  · refine W.item i _ _ _ hlt hst' fun v h₁ tk₁ hP hst₁ hk₁ => ?_
    obtain ⟨F₁, N₁⟩ := next h₁ hk₁
    have hc1 := N₁ (c, o') (.head _)
    obtain ⟨v₀, hv₀⟩ := hoc'
    refine wpAny_assign_Name (wpAny_storeName_cell hk hx hc ⟨o', hc1.1, hv₀⟩ fun h₂ hv hs => ?_)
    obtain ⟨o₂, ho₂, hd₂⟩ := hv
    have F₂ := F₁.change hs hc1.2.1 hc1.2.2
    have hst₂ : St (i + 1) h₂ := W.frame _ _ _ hst₁ fun b hb o e => (hs.2 b fun q => hcI (by rw [← q]; exact List.mem_singleton.mp hb)).trans e
    obtain ⟨it, hit, hnc⟩ := hlive _ _ hst₂
    have N₂ : News h₀ env.locals h₂ ((I, it) :: (c, o₂) :: news') := fun q hq => by
      rcases List.mem_cons.mp hq with rfl | hq
      · exact ⟨hit, fun e => hLI e.symm, hI0⟩
      · rcases List.mem_cons.mp hq with rfl | hq
        · exact ⟨ho₂, hc1.2⟩
        · have := N₁ q (.tail _ hq)
          exact ⟨(hs.2 _ (hnw' q hq).2).trans this.1, this.2⟩
    refine wpAny_mono (step i v m' news' h₂ tk₁ it o₂ hlt hP hJ hnc hd₂ hnw' F₂ N₂) (fun f s₃ h₃ => ?_) fun _ _ e => e
    have fin : (∃ h' tk m' news', s₃ = { ({ s with heap := h₂, toks := tk₁ } : Shared) with heap := h', toks := tk } ∧ Fr h₀ env.locals h' m' ∧ News h₀ env.locals h' ([(I, it)] ++ news') ∧ (∀ q ∈ news', q.1 ∉ [I]) ∧ CellEnd c (J (i + 1)) m' news') →
        ∃ m, m < n + 1 - i ∧ (∃ h' tk m' news' o' j, s₃ = { s with heap := h', toks := tk } ∧ St j h' ∧ Fr h₀ env.locals h' m' ∧ News h₀ env.locals h' ((c, o') :: news') ∧ (∃ v, o'.data = .cell v) ∧ (∀ q ∈ news', q.1 ≠ I ∧ q.1 ≠ c) ∧ J j m' news' ∧ j ≤ n ∧ m = n + 1 - j) := by
      rintro ⟨hh₃, tk₃, m₃, news₃, rfl, F₃, N₃, hw₃, o₃, rest, rfl, ho₃, hr₃, hJ₃⟩
      refine ⟨n + 1 - (i + 1), by omega, hh₃, tk₃, m₃, rest, o₃, i + 1, rfl, ?_, F₃, fun q hq => N₃ q (.tail _ hq), ho₃, fun q hq => ⟨fun e => hw₃ q (.tail _ hq) (by rw [e]; exact List.mem_singleton.mpr rfl), hr₃ q hq⟩, hJ₃, hlt, rfl⟩
      refine W.frame _ _ _ hst₂ fun b hb o e => ?_
      rw [List.mem_singleton.mp hb] at e ⊢
      rw [hit] at e; cases e
      exact (N₃ (I, it) (.head _)).1
    cases f with
    | ret v => exact h₃
    | brk => exact h₃
    | cont => exact fin h₃
    | next => exact fin h₃
  · have hin : i = n := by omega
    subst hin
    refine W.done _ _ _ hst' fun h₁ tk₁ hk₁ => wpAny_execs_nil ?_
    obtain ⟨F₁, N₁⟩ := next h₁ hk₁
    exact hR h₁ tk₁ m' news' o' F₁ N₁ hJ

theorem For_cell {c : Addr} {px pos : Pos} {iter : Expr} (h₀ : Heap) (hk : env.scope.kind = .function) (hx : env.kindOf x = some .cell) (hc : env.cells.lookup x = some c)
    (h : wpAny (model prog w) A (eval iter env) (fun xv s₁ => wpAny (model prog w) A (pyIter xv) (fun it s₂ => LoopCell prog w A h₀ env c body Q E it s₂) E s₁) E s)
    (hs : ∀ x, foldedSetIterable iter env x = pure x := by intro _; rfl)
    (hE : PassesOwn (model prog w) A env E := by passes_own) :
    wpAny (model prog w) A (exec (.For (.Name x px) iter body [] pos) env) Q E s := by
  refine wpAny_For (wpAny_mono h (fun xv s₁ h₁ => wpAny_mono h₁ (fun it s₂ h₂ => ?_) fun _ _ e => e) fun _ _ e => e) hs
  obtain ⟨I, n, P, St, m, news, oc, J, rfl, W, hlive, hLI, hcI, hI0, hnw, hst, F, N, hoc, h0, step, hQ⟩ := h₂
  exact codeAny_forLoop_cell (R := fun r s' => match r with | .ok f => Q f s' | .error e => cameBackBy (model prog w) A env E e s') hk hx hc W hlive hLI hcI hI0 hnw hst F N hoc J h0
    (fun i v m₁ news₁ h tk it o' a b c d e f g h' => wpAny_passesOwn hE (step i v m₁ news₁ h tk it o' a b c d e f g h')) hQ

/-- a range walked by a cell -/
theorem iter_range_cell {c r : Addr} {a₀ b₀ c₀ : Int} {t₀ u₀ v₀ : Tok} {n : Nat} {m₀ : Str → Option Value} {news : List (Addr × Obj)} {oc : Obj} (J : Nat → (Str → Option Value) → List (Addr × Obj) → Prop)
    (hh : A.handled = none) (hr : IsRange s.heap r a₀ b₀ c₀ t₀ u₀ v₀) (hsmall : Builtin.Range.small a₀ b₀ c₀ = true) (hn : Builtin.Range.rangeSize a₀ b₀ c₀ = (n : Int)) (F : Fr h₀ env.locals s.heap m₀) (N : News h₀ env.locals s.heap ((c, oc) :: news)) (hoc : ∃ v, oc.data = .cell v) (hne : ∀ q ∈ news, q.1 ≠ c) (hj : J 0 m₀ news)
    (turn : ∀ i t m₁ news₁ h tk I it o', i < n → NoCode it → J i m₁ news₁ → o'.data = .cell (some (.int (a₀ + i * c₀) t)) → (∀ q ∈ news₁, q.1 ≠ I ∧ q.1 ≠ c) → c ≠ I → Fr h₀ env.locals h m₁ → News h₀ env.locals h ((I, it) :: (c, o') :: news₁) →
      wpAny (model prog w) A (execs body env) (TurnEnd h₀ env.locals [(I, it)] [I] (CellEnd c (J (i + 1))) { s with heap := h, toks := tk } Q) E { s with heap := h, toks := tk })
    (done : ∀ h' tk m' news' o', J n m' news' → Fr h₀ env.locals h' m' → News h₀ env.locals h' ((c, o') :: news') → Q .next { s with heap := h', toks := tk }) :
    wpAny (model prog w) A (pyIter (.ref r)) (fun it s₂ => LoopCell prog w A h₀ env c body Q E it s₂) E s := by
  refine wpAny_pyIter_range hr hsmall ?_
  have hlt : ∀ q ∈ (c, oc) :: news, q.1 ≠ s.heap.objs.size := fun q hq => Nat.ne_of_lt (Heap.lt_size (N q hq).1)
  refine ⟨s.heap.objs.size, n, _, _, m₀, news, oc, J, rfl, Walks.range (prog := prog) (w := w) hh s.heap.objs.size a₀ c₀ n, ?_, Nat.ne_of_lt F.ns.lt, hlt _ (.head _), next_is_new F, fun q hq => ⟨hlt q (.tail _ hq), hne q hq⟩, ?_, F.push _, fun p hp => ⟨Heap.get?_push_of_some _ (N p hp).1, (N p hp).2⟩, hoc, hj, ?_, ?_⟩
  · exact fun i h st => ⟨_, st, by intro v q t e; cases e; simp [rawInt]⟩
  · show IsRangeIter _ _ _ _ _; rw [hn]; simpa using Heap.get?_push_size _ rfl
  · rintro i v m₁ news₁ h tk it o' hin ⟨t, rfl⟩ hJ hnc ho hnw F₁ N₁
    exact turn i t m₁ news₁ h tk _ it o' hin hnc hJ ho hnw (hlt _ (.head _)) F₁ N₁
  · exact fun h' tk m' news' o' F' N' hJ => done h' tk m' news' o' hJ F' N'
end
end Mine
end
section
set_option Elab.async false
namespace Mine
theorem kwB1 : True := by
  k_with_none
  k_with "mem1" => (first | (with_reducible exact List.mem_cons_self) | (with_reducible assumption) | (with_reducible refine List.mem_append_right _ ?_; k_extra "mem1") | (with_reducible refine List.mem_append_left _ ?_; k_extra "mem1") | (with_reducible refine List.mem_cons_of_mem _ ?_; k_extra "mem1"))
  k_with "sub" => (first | (intro _ hq0; k_extra "tl") | (with_reducible exact List.forall_mem_nil _) | ((with_reducible refine List.forall_mem_cons.mpr (And.intro ?_ ?_)); (focus k_extra "mem1"); k_extra "sub") | ((with_reducible refine List.forall_mem_append.mpr (And.intro ?_ ?_)); (focus k_extra "sub"); k_extra "sub"))
  k_with "tl" => (first | (with_reducible assumption) | (with_reducible refine List.mem_append_right _ ?_; k_extra "tl") | (with_reducible refine List.mem_append_left _ ?_; k_extra "tl") | (with_reducible refine List.mem_cons_of_mem _ ?_; k_extra "tl"))
  trivial
noncomputable def det3 (a b c d e f g h i : Int) : Int := a * (e * i - f * h) - b * (d * i - f * g) + c * (d * h - e * g)
noncomputable def det4 (a b c d e f g h i j k l m n o p : Int) : Int := a * det3 f g h j k l n o p - b * det3 e g h i k l m o p + c * det3 e f h i j l m n p - d * det3 e f g i j k m n o
/-- the bordered minors -/
noncomputable def bmin (N : Nat → Nat → Int) : Nat → Nat → Nat → Int
  | 0, j, k => N j k
  | 1, j, k => N 0 0 * N j k - N 0 k * N j 0
  | 2, j, k => det3 (N 0 0) (N 0 1) (N 0 k) (N 1 0) (N 1 1) (N 1 k) (N j 0) (N j 1) (N j k)
  | 3, j, k => det4 (N 0 0) (N 0 1) (N 0 2) (N 0 k) (N 1 0) (N 1 1) (N 1 2) (N 1 k) (N 2 0) (N 2 1) (N 2 2) (N 2 k) (N j 0) (N j 1) (N j 2) (N j k)
  | _, _, _ => 0
noncomputable def bprev (N : Nat → Nat → Int) : Nat → Int
  | 0 => 1
  | s + 1 => bmin N s s s
theorem key3 (a b c d e f g h i j k l m n o p : Int) : det3 a b d e f h m n p * det3 a b c e f g i j k - det3 a b c e f g m n o * det3 a b d e f h i j l = (a * f - b * e) * det4 a b c d e f g h i j k l m n o p := by
  unfold det4 det3; grind
theorem bkey (N : Nat → Nat → Int) (s j k : Nat) (hs : s ≤ 2) : bmin N s j k * bmin N s s s - bmin N s j s * bmin N s s k = bprev N s * bmin N (s + 1) j k := by
  have : s = 0 ∨ s = 1 ∨ s = 2 := by omega
  rcases this with rfl | rfl | rfl
  · simp only [bmin, bprev]; grind
  · simp only [bmin, bprev, det3]; grind
  · simp only [bmin, bprev]; exact key3 ..
theorem dt1 (N : Nat → Nat → Int) : dtL 1 N = bmin N 0 0 0 := by
  simp [dtL, bmin, List.range_succ]
theorem dt2 (N : Nat → Nat → Int) : dtL 2 N = bmin N 1 1 1 := by
  simp [dtL, bmin, List.range_succ, mnr]; grind
theorem dt3 (N : Nat → Nat → Int) : dtL 3 N = bmin N 2 2 2 := by
  simp [dtL, bmin, List.range_succ, mnr, det3]; grind
theorem dt4 (N : Nat → Nat → Int) : dtL 4 N = bmin N 3 3 3 := by
  simp [dtL, bmin, List.range_succ, mnr, det3, det4]; grind
theorem dt_prev (n : Nat) (hn : n ≤ 4) (N : Nat → Nat → Int) : dtL n N = bprev N n := by
  have : n = 0 ∨ n = 1 ∨ n = 2 ∨ n = 3 ∨ n = 4 := by omega
  rcases this with rfl | rfl | rfl | rfl | rfl
  · rfl
  · exact dt1 N
  · exact dt2 N
  · exact dt3 N
  · exact dt4 N
end Mine
end
section
set_option Elab.async false
namespace Mine
theorem kwB2 : True := by
  k_with_none
  k_with "mem1" => (first | (with_reducible exact List.mem_cons_self) | (with_reducible assumption) | (with_reducible refine List.mem_append_right _ ?_; k_extra "mem1") | (with_reducible refine List.mem_append_left _ ?_; k_extra "mem1") | (with_reducible refine List.mem_cons_of_mem _ ?_; k_extra "mem1"))
  k_with "sub" => (first | (intro _ hq0; k_extra "tl") | (with_reducible exact List.forall_mem_nil _) | ((with_reducible refine List.forall_mem_cons.mpr (And.intro ?_ ?_)); (focus k_extra "mem1"); k_extra "sub") | ((with_reducible refine List.forall_mem_append.mpr (And.intro ?_ ?_)); (focus k_extra "sub"); k_extra "sub"))
  k_with "tl" => (first | (with_reducible assumption) | (with_reducible refine List.mem_append_right _ ?_; k_extra "tl") | (with_reducible refine List.mem_append_left _ ?_; k_extra "tl") | (with_reducible refine List.mem_cons_of_mem _ ?_; k_extra "tl"))
  trivial
/-- rows s and g exchanged -/
noncomputable abbrev swp (N : Nat → Nat → Int) (s g : Nat) : Nat → Nat → Int := fun j k => N (if j = s then g else if j = g then s else j) k
theorem bmin_swp (N : Nat → Nat → Int) (s g j k : Nat) (hs : s ≤ 3) (hg : s < g) (hj : s ≤ j) : bmin (swp N s g) s j k = bmin N s (if j = s then g else if j = g then s else j) k := by
  have : s = 0 ∨ s = 1 ∨ s = 2 ∨ s = 3 := by omega
  rcases this with rfl | rfl | rfl | rfl
  · rfl
  · have e0 : ¬ (0 = g) := by omega
    simp [bmin, swp, e0]
  · have e0 : ¬ (0 = g) := by omega
    have e1 : ¬ (1 = g) := by omega
    simp [bmin, swp, e0, e1]
  · have e0 : ¬ (0 = g) := by omega
    have e1 : ¬ (1 = g) := by omega
    have e2 : ¬ (2 = g) := by omega
    simp [bmin, swp, e0, e1, e2]
theorem bprev_swp (N : Nat → Nat → Int) (s g : Nat) (hs : s ≤ 3) (hg : s < g) : bprev (swp N s g) s = bprev N s := by
  have : s = 0 ∨ s = 1 ∨ s = 2 ∨ s = 3 := by omega
  rcases this with rfl | rfl | rfl | rfl
  · rfl
  · have e0 : ¬ (0 = g) := by omega
    simp [bmin, bprev, swp, e0]
  · have e0 : ¬ (0 = g) := by omega
    have e1 : ¬ (1 = g) := by omega
    simp [bmin, bprev, swp, e0, e1]
  · have e0 : ¬ (0 = g) := by omega
    have e1 : ¬ (1 = g) := by omega
    have e2 : ¬ (2 = g) := by omega
    simp [bmin, bprev, swp, e0, e1, e2]
theorem dt_swp (N : Nat → Nat → Int) (n s g : Nat) (hn : n ≤ 4) (hg : s < g) (hgn : g < n) : dtL n (swp N s g) = - dtL n N := by
  rw [dt_prev n hn, dt_prev n hn]
  have : (n = 2 ∧ s = 0 ∧ g = 1) ∨ (n = 3 ∧ ((s = 0 ∧ g = 1) ∨ (s = 0 ∧ g = 2) ∨ (s = 1 ∧ g = 2))) ∨ (n = 4 ∧ ((s = 0 ∧ g = 1) ∨ (s = 0 ∧ g = 2) ∨ (s = 0 ∧ g = 3) ∨ (s = 1 ∧ g = 2) ∨ (s = 1 ∧ g = 3) ∨ (s = 2 ∧ g = 3))) := by omega
  rcases this with ⟨rfl, rfl, rfl⟩ | ⟨rfl, ⟨rfl, rfl⟩ | ⟨rfl, rfl⟩ | ⟨rfl, rfl⟩⟩ | ⟨rfl, ⟨rfl, rfl⟩ | ⟨rfl, rfl⟩ | ⟨rfl, rfl⟩ | ⟨rfl, rfl⟩ | ⟨rfl, rfl⟩ | ⟨rfl, rfl⟩⟩
  all_goals simp [bprev, bmin, swp, det3, det4]; grind
theorem no_pivot (N : Nat → Nat → Int) (n s : Nat) (hn : n ≤ 4) (hs : s < n) (hp : bprev N s ≠ 0) (h : ∀ j, s ≤ j → j < n → bmin N s j s = 0) : dtL n N = 0 := by
  rw [dt_prev n hn]
  have hc : (n = s + 1) ∨ (n = s + 2 ∧ s ≤ 2) ∨ (n = 3 ∧ s = 0) ∨ (n = 4 ∧ s = 1) ∨ (n = 4 ∧ s = 0) := by omega
  rcases hc with rfl | ⟨rfl, h2⟩ | ⟨rfl, rfl⟩ | ⟨rfl, rfl⟩ | ⟨rfl, rfl⟩
  · exact h s (Nat.le_refl _) (Nat.lt_succ_self _)
  · have h1 := h s (Nat.le_refl _) (by omega)
    have h3 := h (s + 1) (by omega) (by omega)
    have h4 := bkey N s (s + 1) (s + 1) h2
    rw [h1, h3] at h4
    have h5 : bprev N s * bmin N (s + 1) (s + 1) (s + 1) = 0 := by rw [← h4]; simp
    exact (Int.mul_eq_zero.mp h5).resolve_left hp
  · have h1 := h 0 (by omega) (by omega)
    have h2 := h 1 (by omega) (by omega)
    have h3 := h 2 (by omega) (by omega)
    simp only [bmin] at h1 h2 h3
    simp only [bprev, bmin, det3, h1, h2, h3]; grind
  · have h1 := h 1 (by omega) (by omega)
    have h2 := h 2 (by omega) (by omega)
    have h3 := h 3 (by omega) (by omega)
    simp only [bmin] at h1 h2 h3
    simp only [bprev, bmin] at hp
    have e : N 0 0 * (N 0 0 * bprev N 4) = 0 := by
      simp only [bprev, bmin, det4, det3]
      grind
    exact (Int.mul_eq_zero.mp ((Int.mul_eq_zero.mp e).resolve_left hp)).resolve_left hp
  · have h1 := h 0 (by omega) (by omega)
    have h2 := h 1 (by omega) (by omega)
    have h3 := h 2 (by omega) (by omega)
    have h4 := h 3 (by omega) (by omega)
    simp only [bmin] at h1 h2 h3 h4
    simp only [bprev, bmin, det3, det4, h1, h2, h3, h4]; grind
theorem bmin_dt (N : Nat → Nat → Int) (s j k : Nat) (hs : s ≤ 3) : bmin N s j k = dtL (s + 1) (fun a b => N (if a = s then j else a) (if b = s then k else b)) := by
  rw [dt_prev (s + 1) (by omega)]
  have : s = 0 ∨ s = 1 ∨ s = 2 ∨ s = 3 := by omega
  rcases this with rfl | rfl | rfl | rfl
  · rfl
  · simp [bprev, bmin]
  · simp [bprev, bmin]
  · simp [bprev, bmin]
theorem bmin_bd (N : Nat → Nat → Int) (h : ∀ i j, -16 ≤ N i j ∧ N i j ≤ 16) (s j k : Nat) (hs : s ≤ 3) : -1572864 ≤ bmin N s j k ∧ bmin N s j k ≤ 1572864 := by
  rw [bmin_dt N s j k hs]
  exact dt_bound _ (by omega) _ fun a b => h _ _
/-- what the law asks of determinants -/
theorem dt_turn (N : Nat → Nat → Int) (n : Nat) (hn : n ≤ 4) : dtL n (fun j k => N k j) = dtL n N := by
  rw [dt_prev n hn, dt_prev n hn]
  have : n = 0 ∨ n = 1 ∨ n = 2 ∨ n = 3 ∨ n = 4 := by omega
  rcases this with rfl | rfl | rfl | rfl | rfl
  all_goals simp [bprev, bmin, det3, det4]
  all_goals grind
theorem dt_rev (N : Nat → Nat → Int) (n : Nat) (hn : n ≤ 4) : dtL n (fun j k => N (n - 1 - j) k) = dtL n N * (1 - 2 * (((n : Int) * ((n : Int) - 1) / 2) % 2)) := by
  rw [dt_prev n hn, dt_prev n hn]
  have : n = 0 ∨ n = 1 ∨ n = 2 ∨ n = 3 ∨ n = 4 := by omega
  rcases this with rfl | rfl | rfl | rfl | rfl
  all_goals simp [bprev, bmin, det3, det4]
  all_goals grind
theorem dt_more (N : Nat → Nat → Int) (n : Nat) (hn : n ≤ 4) (h2 : 2 ≤ n) : dtL n (fun j k => if j = 0 then N 0 k + 3 * N 1 k else N j k) = dtL n N := by
  rw [dt_prev n hn, dt_prev n hn]
  have : n = 2 ∨ n = 3 ∨ n = 4 := by omega
  rcases this with rfl | rfl | rfl
  all_goals simp [bprev, bmin, det3, det4]
  all_goals grind
theorem dt_like (N : Nat → Nat → Int) (n : Nat) (hn : n ≤ 4) (h2 : 2 ≤ n) : dtL n (fun j k => if j = 0 then N 1 k else N j k) = 0 := by
  rw [dt_prev n hn]
  have : n = 2 ∨ n = 3 ∨ n = 4 := by omega
  rcases this with rfl | rfl | rfl
  all_goals simp [bprev, bmin, det3, det4]
  all_goals grind
theorem dt_two (N : Nat → Nat → Int) (n : Nat) (hn : n ≤ 4) : dtL n (fun j k => 2 * N j k) = 2 ^ n * dtL n N := by
  rw [dt_prev n hn, dt_prev n hn]
  have : n = 0 ∨ n = 1 ∨ n = 2 ∨ n = 3 ∨ n = 4 := by omega
  rcases this with rfl | rfl | rfl | rfl | rfl
  all_goals simp [bprev, bmin, det3, det4]
  all_goals grind
end Mine
end
section
open PySem PySem.W PySem.Spec PySem.Calls PyProof.Rows
set_option Elab.async false
set_option maxRecDepth 100000
set_option maxHeartbeats 400000
namespace Mine
noncomputable abbrev refsOf (rl : List (Addr × Obj)) : List Value := rl.map fun q => .ref q.1
noncomputable def adr (rl : List (Addr × Obj)) (j : Nat) : Addr := (rl[j]?.map (·.1)).getD 0
/-- rl: the rows of an n x n matrix M, in order, each a list of its own -/
structure Mat (n : Nat) (M : Nat → Nat → Int) (rl : List (Addr × Obj)) : Prop where
  len : rl.length = n
  row : ∀ j, j < n → ∃ r vs e, rl[j]? = some (r, listOf vs.toArray e) ∧ IntsAre vs (rowL n (M j))
  nd : ∀ i j, i < n → j < n → adr rl i = adr rl j → i = j
theorem adr_map {rl rl' : List (Addr × Obj)} (h : rl'.map (·.1) = rl.map (·.1)) (j : Nat) : adr rl' j = adr rl j := by
  unfold adr
  rw [← List.getElem?_map, ← List.getElem?_map, h]
theorem Mat.adr_of {n : Nat} {M : Nat → Nat → Int} {rl : List (Addr × Obj)} (T : Mat n M rl) {j : Nat} (hj : j < n) : ∃ vs e, rl[j]? = some (adr rl j, listOf vs.toArray e) ∧ IntsAre vs (rowL n (M j)) := by
  obtain ⟨r, vs, e, h1, h2⟩ := T.row j hj
  exact ⟨vs, e, by unfold adr; rw [h1]; rfl, h2⟩
theorem Mat.congr {n : Nat} {M M' : Nat → Nat → Int} {rl : List (Addr × Obj)} (T : Mat n M rl) (h : ∀ j k, j < n → k < n → M j k = M' j k) : Mat n M' rl := by
  refine ⟨T.len, fun j hj => ?_, T.nd⟩
  obtain ⟨r, vs, e, h1, h2⟩ := T.row j hj
  refine ⟨r, vs, e, h1, ?_⟩
  have : rowL n (M j) = rowL n (M' j) := by
    apply List.map_congr_left
    intro k hk
    exact h j k hj (List.mem_range.mp hk)
  rw [← this]; exact h2
noncomputable abbrev upd (M : Nat → Nat → Int) (j k : Nat) (x : Int) : Nat → Nat → Int := fun a b => if a = j ∧ b = k then x else M a b
theorem rowL_set (n k : Nat) (f : Nat → Int) (x : Int) : (rowL n f).set k x = rowL n fun b => if b = k then x else f b := by
  apply List.ext_getElem
  · simp
  · intro b h1 h2
    rw [List.getElem_set]
    by_cases hb : b = k
    · simp [hb]
    · rw [if_neg (fun h => hb h.symm)]; simp [hb]
theorem Mat.set_ {n : Nat} {M : Nat → Nat → Int} {rl : List (Addr × Obj)} (T : Mat n M rl) {j k : Nat} (hj : j < n) {vs : List Value} {e : Nat} (e1 : rl[j]? = some (adr rl j, listOf vs.toArray e)) (e2 : IntsAre vs (rowL n (M j))) (x : Int) (t : Tok) :
    Mat n (upd M j k x) (rl.set j (adr rl j, listOf (vs.set k (.int x t)).toArray e)) ∧ (rl.set j (adr rl j, listOf (vs.set k (.int x t)).toArray e)).map (·.1) = rl.map (·.1) := by
  have hm : (rl.set j (adr rl j, listOf (vs.set k (.int x t)).toArray e)).map (·.1) = rl.map (·.1) := by
    rw [List.map_set]
    apply List.ext_getElem?
    intro i
    rw [List.getElem?_set]
    by_cases hi : j = i
    · subst hi
      have hl : j < rl.length := by rw [T.len]; exact hj
      rw [if_pos rfl, if_pos (by simpa using hl), List.getElem?_map, e1]; rfl
    · rw [if_neg hi]
  refine ⟨⟨by rw [List.length_set]; exact T.len, fun i hi => ?_, fun a b ha hb h => T.nd a b ha hb (by rw [adr_map hm, adr_map hm] at h; exact h)⟩, hm⟩
  by_cases hij : i = j
  · subst hij
    refine ⟨adr rl i, vs.set k (.int x t), e, ?_, ?_⟩
    · rw [List.getElem?_set]; simp [T.len, hi]
    · have h3 := ints_set (x := x) (u := t) e2 k
      rw [rowL_set] at h3
      have : (fun b => if b = k then x else M i b) = upd M i k x i := by
        funext b; simp [upd]
      rw [← this]; exact h3
  · obtain ⟨r, vs', e', h1, h2⟩ := T.row i hi
    refine ⟨r, vs', e', by rw [List.getElem?_set, if_neg (fun h => hij h.symm)]; exact h1, ?_⟩
    have : M i = upd M j k x i := by funext b; simp [upd, hij]
    rw [← this]; exact h2
/-- rows s and g exchanged -/
theorem Mat.swap {n : Nat} {M : Nat → Nat → Int} {rl : List (Addr × Obj)} (T : Mat n M rl) {s g : Nat} (hs : s < n) (hg : g < n) (hsg : s < g) : ∃ rl', Mat n (swp M s g) rl' ∧ rl'.length = rl.length ∧ (∀ q, q ∈ rl' ↔ q ∈ rl) ∧
    refsOf rl' = ((refsOf rl).set s (.ref (adr rl g))).set g (.ref (adr rl s)) := by
  obtain ⟨vs, es, hs1, hs2⟩ := T.adr_of hs
  obtain ⟨vg, eg, hg1, hg2⟩ := T.adr_of hg
  have ls : s < rl.length := by rw [T.len]; exact hs
  have lg : g < rl.length := by rw [T.len]; exact hg
  have get : ∀ i, ((rl.set s (adr rl g, listOf vg.toArray eg)).set g (adr rl s, listOf vs.toArray es))[i]? = rl[if i = s then g else if i = g then s else i]? := fun i => by
    rw [List.getElem?_set, List.getElem?_set]
    by_cases h1 : i = g
    · subst h1
      have h2 : ¬ (i = s) := by omega
      rw [if_pos rfl, if_pos (by rw [List.length_set]; exact lg), if_neg h2, if_pos rfl, hs1]
    · have h3 : ¬ (g = i) := fun h => h1 h.symm
      by_cases h2 : i = s
      · subst h2
        rw [if_neg h3, if_pos rfl, if_pos ls, if_pos rfl, hg1]
      · have h4 : ¬ (s = i) := fun h => h2 h.symm
        rw [if_neg h3, if_neg h4, if_neg h2, if_neg h1]
  have ga : ∀ i, adr ((rl.set s (adr rl g, listOf vg.toArray eg)).set g (adr rl s, listOf vs.toArray es)) i = adr rl (if i = s then g else if i = g then s else i) := fun i => by
    show (Option.map _ (_ : Option _)).getD 0 = (Option.map _ (_ : Option _)).getD 0
    rw [get]
  have hlt : ∀ i, i < n → (if i = s then g else if i = g then s else i) < n := fun i hi => by
    by_cases h1 : i = s
    · rw [if_pos h1]; exact hg
    · rw [if_neg h1]
      by_cases h2 : i = g
      · rw [if_pos h2]; exact hs
      · rw [if_neg h2]; exact hi
  refine ⟨(rl.set s (adr rl g, listOf vg.toArray eg)).set g (adr rl s, listOf vs.toArray es), ⟨by simp [T.len], fun i hi => ?_, ?_⟩, by simp, fun q => ?_, ?_⟩
  · obtain ⟨r, v, e, h1, h2⟩ := T.row _ (hlt i hi)
    exact ⟨r, v, e, by rw [get]; exact h1, h2⟩
  · intro i j hi hj h
    rw [ga, ga] at h
    have h2 := T.nd _ _ (hlt i hi) (hlt j hj) h
    have hgs : ¬ (g = s) := by omega
    by_cases a1 : i = s <;> by_cases a2 : i = g <;> by_cases b1 : j = s <;> by_cases b2 : j = g <;> simp [a1, a2, b1, b2, hgs] at h2 <;> omega
  · constructor
    · intro hq
      obtain ⟨i, hi⟩ := List.getElem?_of_mem hq
      rw [get] at hi
      exact List.mem_of_getElem? hi
    · intro hq
      obtain ⟨i, hi⟩ := List.getElem?_of_mem hq
      refine List.mem_of_getElem? (i := if i = s then g else if i = g then s else i) ?_
      rw [get, ← hi]
      congr 1
      by_cases a1 : i = s
      · have : ¬ (g = s) := by omega
        simp [a1, this]
      · by_cases a2 : i = g
        · simp [a1, a2]
        · simp [a1, a2]
  · simp [refsOf, List.map_set]
theorem rows_of {n : Nat} {M : Nat → Nat → Int} {made : List (Addr × Obj)} : ∀ {l : List Nat} {ys : List Value}, Paired (fun j y => ∃ r vs cnt, y = .ref r ∧ (r, listOf vs.toArray cnt) ∈ made ∧ IntsAre vs (rowL n (M j))) l ys →
    ∃ rl : List (Addr × Obj), ys = refsOf rl ∧ (∀ q ∈ rl, q ∈ made) ∧ Paired (fun j q => ∃ r vs e, q = (r, listOf vs.toArray e) ∧ IntsAre vs (rowL n (M j))) l rl := by
  intro l ys h
  induction h with
  | nil => exact ⟨[], rfl, (fun _ h => nomatch h), .nil⟩
  | cons h _ ih =>
    obtain ⟨r, vs, c, rfl, hm, hi⟩ := h
    obtain ⟨rl, rfl, h1, h2⟩ := ih
    refine ⟨(r, listOf vs.toArray c) :: rl, rfl, fun q hq => ?_, .cons ⟨r, vs, c, rfl, hi⟩ h2⟩
    rcases List.mem_cons.mp hq with rfl | hq
    · exact hm
    · exact h1 q hq
theorem mat_of {n : Nat} {M : Nat → Nat → Int} {made : List (Addr × Obj)} {ys : List Value} (h : Paired (fun j y => ∃ r vs cnt, y = .ref r ∧ (r, listOf vs.toArray cnt) ∈ made ∧ IntsAre vs (rowL n (M j))) (List.range n) ys) (hnd : ys.Nodup) :
    ∃ rl : List (Addr × Obj), ys = refsOf rl ∧ (∀ q ∈ rl, q ∈ made) ∧ Mat n M rl := by
  obtain ⟨rl, rfl, h1, h2⟩ := rows_of h
  have hlen : rl.length = n := by have := PySem.Paired.length h2; simpa using this.symm
  refine ⟨rl, rfl, h1, hlen, fun j hj => ?_, fun i j hi hj e => ?_⟩
  · obtain ⟨q, hq, r, vs, e, rfl, hi⟩ := Paired.at_ h2 j j (by simp [hj])
    exact ⟨r, vs, e, hq, hi⟩
  · have hi' : i < (refsOf rl).length := by simp [refsOf, hlen, hi]
    have hj' : j < (refsOf rl).length := by simp [refsOf, hlen, hj]
    have g1 : (refsOf rl)[i]? = some (.ref (adr rl i)) := by
      unfold adr; rw [List.getElem?_map, List.getElem?_eq_getElem (by rw [hlen]; exact hi)]; rfl
    have g2 : (refsOf rl)[j]? = some (.ref (adr rl j)) := by
      unfold adr; rw [List.getElem?_map, List.getElem?_eq_getElem (by rw [hlen]; exact hj)]; rfl
    refine (List.getElem_inj hnd (h₀ := hi') (h₁ := hj')).mp ?_
    rw [List.getElem?_eq_getElem hi'] at g1
    rw [List.getElem?_eq_getElem hj'] at g2
    rw [Option.some.inj g1, Option.some.inj g2, e]
section
variable {prog : Program} {w : World} {A : Around} {E : Value → Shared → Prop} {s : Shared} {h₀ : Heap} {L R : Addr} {m : Str → Option Value} {news rl : List (Addr × Obj)} {n e j k : Nat} {M : Nat → Nat → Int} {u : Tok} {value slice : Expr}
theorem refs_get {rl : List (Addr × Obj)} {j : Nat} (hj : j < rl.length) : (refsOf rl)[j]? = some (.ref (adr rl j)) := by
  unfold adr
  rw [List.getElem?_map, List.getElem?_eq_getElem hj]; rfl
theorem mat_len {Q : Value → Shared → Prop} (N : News h₀ L s.heap news) (hm : (R, listOf (refsOf rl).toArray e) ∈ news) (T : Mat n M rl) (hn : n ≤ 4) (h : ∀ t tk, Q (.int (n : Int) t) { s with toks := tk }) : wpAny (model prog w) A (call (.builtin "len") [.ref R]) Q E s := by
  have e0 : ((refsOf rl).toArray.size : Int) = n := by rw [List.size_toArray, List.length_map, T.len]
  refine len_list (News.isList N (n := e) hm) ?_ ?_
  · rw [e0]; omega
  · rw [e0]; exact h _ _
theorem led_cell {g h h' : Heap} {L c : Addr} {o o' : Obj} {post : List (Addr × Obj)} (N : News g L h ((c, o) :: post)) (hs : Heap.SameBut c h h') (ho : h'.get? c = some o') (hne : ∀ q ∈ post, q.1 ≠ c) : News g L h' ((c, o') :: post) := fun q hq => by
  rcases List.mem_cons.mp hq with rfl | hq
  · exact ⟨ho, (N _ (.head _)).2⟩
  · have := N q (.tail _ hq)
    exact ⟨(hs.2 _ (hne q hq)).trans this.1, this.2⟩
theorem mat_row {Q : Value → Shared → Prop} (N : News h₀ L s.heap news) (hm : (R, listOf (refsOf rl).toArray e) ∈ news) (T : Mat n M rl) (hj : j < n) (hn : n ≤ 4) (h : Q (.ref (adr rl j)) s)
    (hs : subscripted slice false (.ref R) (.int (j : Int) u) = operate [.ref R, .int (j : Int) u] (getItem (.ref R) (.int (j : Int) u)) := by with_unfolding_all rfl) :
    wpAny (model prog w) A (subscriptTail value slice (.ref R) (.int (j : Int) u)) Q E s := by
  have il := News.isList N (n := e) hm
  refine tail_any il.typeIs slot_list_getitem.lookup (wpAny_getItem_list il (by omega) (by omega) (x := .ref (adr rl j)) ?_ h) hs
  rw [Int.toNat_natCast, List.getElem?_toArray]
  exact refs_get (by rw [T.len]; exact hj)
theorem mat_cell {Q : Value → Shared → Prop} (N : News h₀ L s.heap news) (hr : ∀ q ∈ rl, q ∈ news) (T : Mat n M rl) (hj : j < n) (hk : k < n) (hn : n ≤ 4) (h : ∀ t, Q (.int (M j k) t) s)
    (hs : subscripted slice false (.ref (adr rl j)) (.int (k : Int) u) = operate [.ref (adr rl j), .int (k : Int) u] (getItem (.ref (adr rl j)) (.int (k : Int) u)) := by with_unfolding_all rfl) :
    wpAny (model prog w) A (subscriptTail value slice (.ref (adr rl j)) (.int (k : Int) u)) Q E s := by
  obtain ⟨vs, e, h1, h2⟩ := T.adr_of hj
  have il := News.isList N (n := e) (hr _ (List.mem_of_getElem? h1))
  have hlen : (rowL n (M j)).length = n := by simp
  refine item_anyK il h2 (by omega) (by rw [hlen]; omega) (by omega) (fun t => ?_) hs
  have : (rowL n (M j)).getD ((k : Int)).toNat 0 = M j k := by simp [List.getD_eq_getElem?_getD, hk]
  rw [this]; exact h t
/-- a cell is set -/
theorem mat_set {Q : Unit → Shared → Prop} {pre : List (Addr × Obj)} {x : Int} {v : Tok} (F : Fr h₀ L s.heap m) (N : News h₀ L s.heap (pre ++ rl)) (T : Mat n M rl) (hap : ∀ q ∈ pre, ∀ y ∈ rl, q.1 ≠ y.1) (hj : j < n) (hk : k < n) (hn : n ≤ 4)
    (h : ∀ h' rl', Fr h₀ L h' m → News h₀ L h' (pre ++ rl') → Mat n (upd M j k x) rl' → rl'.map (·.1) = rl.map (·.1) → Q () { s with heap := h' }) :
    wpAny (model prog w) A (setItem (.ref (adr rl j)) (.int (k : Int) u) (.int x v)) Q E s := by
  obtain ⟨vs, e, h1, h2⟩ := T.adr_of hj
  have z := N _ (List.mem_append_right _ (List.mem_of_getElem? h1))
  have hlen : vs.length = n := by rw [h2.length]; simp
  obtain ⟨T', hm'⟩ := T.set_ (k := k) hj h1 h2 x v
  refine ki_setAt z.1 (by omega) (by omega) (by rw [List.size_toArray, hlen]; omega) (h _ _ (F.change (Heap.SameBut.update ..) z.2.1 z.2.2) (fun q hq => ?_) T' hm')
  have keep : ∀ q : Addr × Obj, q.1 ≠ adr rl j → q ∈ pre ++ rl → (s.heap.update (adr rl j) (Obj.mapSeq (·.setIfInBounds ((k : Int)).toNat (.int x v)))).get? q.1 = some q.2 := fun q hne hq =>
    ((Heap.SameBut.update ..).2 _ hne).trans (N q hq).1
  rcases List.mem_append.mp hq with hq | hq
  · exact ⟨keep q (hap q hq _ (List.mem_of_getElem? h1)) (List.mem_append_left _ hq), (N q (List.mem_append_left _ hq)).2⟩
  · obtain ⟨i, hi⟩ := List.getElem?_of_mem hq
    rw [List.getElem?_set] at hi
    by_cases hij : j = i
    · subst hij
      rw [if_pos rfl, if_pos (by rw [T.len]; exact hj)] at hi
      cases hi
      refine ⟨?_, z.2⟩
      have hu := PySem.IsL.update z.1 (fun a => a.setIfInBounds ((k : Int)).toNat (.int x v))
      have e1 : vs.toArray.setIfInBounds ((k : Int)).toNat (.int x v) = (vs.set k (.int x v)).toArray := by
        rw [Int.toNat_natCast]; apply Array.toList_inj.mp; simp
      rw [e1, if_pos (by simp)] at hu
      exact hu
    · rw [if_neg hij] at hi
      have hq' := List.mem_of_getElem? hi
      refine ⟨keep q (fun e => ?_) (List.mem_append_right _ hq'), (N q (List.mem_append_right _ hq')).2⟩
      have hil : i < n := by
        have := (List.getElem?_eq_some_iff.mp hi).1
        rw [T.len] at this; exact this
      refine hij (T.nd j i hj hil ?_)
      rw [← e]; unfold adr; rw [hi]; rfl
end
end Mine
end
section
open PySem PySem.W PySem.Spec PySem.Calls PyProof.Rows
set_option Elab.async false
namespace Mine
/-- what holds at the start of step s -/
structure Bar (n s : Nat) (M0 M P : Nat → Nat → Int) (sign ahead : Int) (ch : Bool) (t : Nat) : Prop where
  bd : ∀ i j, -16 ≤ P i j ∧ P i j ≤ 16
  is : ∀ j k, s ≤ j → s ≤ k → j < n → k < n → M j k = bmin P s j k
  ah : ahead = bprev P s
  nz : ahead ≠ 0
  sg : sign = 1 ∨ sign = -1
  dt : dtL n M0 = sign * dtL n P
  same : ch = false → P = M0 ∧ t = s
  le : t ≤ s
theorem Bar.start {n : Nat} {M : Nat → Nat → Int} (h : ∀ i j, -16 ≤ M i j ∧ M i j ≤ 16) : Bar n 0 M M M 1 1 false 0 :=
  ⟨h, fun _ _ _ _ _ _ => rfl, rfl, by decide, .inl rfl, by simp, fun _ => ⟨rfl, rfl⟩, Nat.le_refl _⟩
theorem Bar.none {n s : Nat} {M0 M P : Nat → Nat → Int} {sign ahead : Int} {ch : Bool} {t : Nat} (B : Bar n s M0 M P sign ahead ch t) (hn : n ≤ 4) (hs : s < n) (h : ∀ j, s ≤ j → j < n → M j s = 0) : dtL n M0 = 0 := by
  have h1 : bprev P s ≠ 0 := by rw [← B.ah]; exact B.nz
  rw [B.dt, no_pivot P n s hn hs h1 fun j hj hjn => by rw [← B.is j s hj (Nat.le_refl _) hjn hs]; exact h j hj hjn]
  simp
theorem Bar.swap {n s g : Nat} {M0 M P : Nat → Nat → Int} {sign ahead : Int} {ch : Bool} {t : Nat} (B : Bar n s M0 M P sign ahead ch t) (hn : n ≤ 4) (hs : s < g) (hg : g < n) : Bar n s M0 (swp M s g) (swp P s g) (0 - sign) ahead true t := by
  refine ⟨fun i j => B.bd _ _, fun j k hj hk hjn hkn => ?_, ?_, B.nz, ?_, ?_, (fun h => by cases h), B.le⟩
  · rw [bmin_swp P s g j k (by omega) hs hj]
    refine B.is _ k ?_ hk ?_ hkn
    · split
      · omega
      · split <;> omega
    · split
      · omega
      · split <;> omega
  · rw [bprev_swp P s g (by omega) hs]; exact B.ah
  · rcases B.sg with h | h <;> rw [h] <;> decide
  · rw [B.dt, dt_swp P n s g hn hs hg, Int.sub_mul, Int.zero_mul, Int.zero_sub, Int.mul_neg, Int.neg_neg]
/-- rows after the s-th: those ahead of j0, and of row j0 the numbers ahead of k0, are turned -/
noncomputable abbrev elim (s : Nat) (M B : Nat → Nat → Int) (j0 k0 : Nat) : Nat → Nat → Int := fun j k => if s < j ∧ s < k ∧ (j < j0 ∨ (j = j0 ∧ k < k0)) then B j k else M j k
theorem elim_start (s : Nat) (M B : Nat → Nat → Int) : elim s M B (s + 1) (s + 1) = M := by
  funext j k
  exact if_neg (by omega)
theorem elim_upd (s : Nat) (M B : Nat → Nat → Int) (j k : Nat) (hj : s < j) (hk : s < k) : upd (elim s M B j k) j k (B j k) = elim s M B j (k + 1) := by
  funext a b
  by_cases h : a = j ∧ b = k
  · obtain ⟨rfl, rfl⟩ := h
    show (if a = a ∧ b = b then B a b else _) = (if s < a ∧ s < b ∧ (a < a ∨ (a = a ∧ b < b + 1)) then B a b else M a b)
    rw [if_pos ⟨rfl, rfl⟩, if_pos ⟨hj, hk, .inr ⟨rfl, Nat.lt_succ_self _⟩⟩]
  · simp only [upd, elim, if_neg h]
    by_cases h2 : s < a ∧ s < b ∧ (a < j ∨ (a = j ∧ b < k))
    · rw [if_pos h2, if_pos (by omega)]
    · rw [if_neg h2, if_neg (by omega)]
theorem elim_row {n s : Nat} (M B : Nat → Nat → Int) (j : Nat) : ∀ a b, a < n → b < n → elim s M B j n a b = elim s M B (j + 1) (s + 1) a b := fun a b ha hb => by
  simp only [elim]
  by_cases h : s < a ∧ s < b ∧ (a < j ∨ (a = j ∧ b < n))
  · rw [if_pos h, if_pos (by omega)]
  · rw [if_neg h, if_neg (by omega)]
theorem elim_at_j (s : Nat) (M B : Nat → Nat → Int) (j0 k0 : Nat) (j k : Nat) (h : k0 ≤ k) (hj : j = j0) : elim s M B j0 k0 j k = M j k := if_neg (by omega)
theorem elim_at_s (s : Nat) (M B : Nat → Nat → Int) (j0 k0 : Nat) (j k : Nat) (h : j ≤ s ∨ k ≤ s) : elim s M B j0 k0 j k = M j k := if_neg (by omega)
/-- what a turn of the inner loops divides -/
theorem Bar.whole {n s : Nat} {M0 M P : Nat → Nat → Int} {sign ahead : Int} {ch : Bool} {t : Nat} (B : Bar n s M0 M P sign ahead ch t) (hn : n ≤ 4) {j k : Nat} (hj : s < j) (hk : s < k) (hjn : j < n) (hkn : k < n) :
    M j k * M s s - M j s * M s k = ahead * bmin P (s + 1) j k := by
  rw [B.is j k (by omega) (by omega) hjn hkn, B.is s s (by omega) (by omega) (by omega) (by omega), B.is j s (by omega) (by omega) hjn (by omega), B.is s k (by omega) (by omega) (by omega) hkn, B.ah]
  exact bkey P s j k (by omega)
theorem Bar.cell_bd {n s : Nat} {M0 M P : Nat → Nat → Int} {sign ahead : Int} {ch : Bool} {t : Nat} (B : Bar n s M0 M P sign ahead ch t) (hn : n ≤ 4) {j k : Nat} (hj : s ≤ j) (hk : s ≤ k) (hjn : j < n) (hkn : k < n) : -1572864 ≤ M j k ∧ M j k ≤ 1572864 := by
  rw [B.is j k hj hk hjn hkn]
  exact bmin_bd P B.bd s j k (by omega)
theorem Bar.ahead_bd {n s : Nat} {M0 M P : Nat → Nat → Int} {sign ahead : Int} {ch : Bool} {t : Nat} (B : Bar n s M0 M P sign ahead ch t) (hn : n ≤ 4) (hs : s ≤ n) : -1572864 ≤ ahead ∧ ahead ≤ 1572864 := by
  rw [B.ah]
  cases s with
  | zero => show -1572864 ≤ (1 : Int) ∧ (1 : Int) ≤ 1572864; decide
  | succ s => exact bmin_bd P B.bd s s s (by omega)
/-- the step is done -/
theorem Bar.step {n s : Nat} {M0 M P : Nat → Nat → Int} {sign ahead : Int} {ch : Bool} {t t' : Nat} (B : Bar n s M0 M P sign ahead ch t) (hn : n ≤ 4) (hs : s < n) (hp : M s s ≠ 0) (ht : t' = if ch then t else t + 1) :
    Bar n (s + 1) M0 (elim s M (bmin P (s + 1)) n (s + 1)) P sign (M s s) ch t' := by
  have e1 : M s s = bprev P (s + 1) := B.is s s (Nat.le_refl _) (Nat.le_refl _) hs hs
  refine ⟨B.bd, fun j k hj hk hjn hkn => if_pos ⟨by omega, by omega, .inl hjn⟩, e1, hp, B.sg, B.dt, fun h => ?_, ?_⟩
  · have := B.same h
    rw [ht, h]; simp [this.1, this.2]
  · have := B.le
    cases ch <;> simp at ht <;> omega
theorem Bar.end_ {n : Nat} {M0 M P : Nat → Nat → Int} {sign ahead : Int} {ch : Bool} {t : Nat} (B : Bar n n M0 M P sign ahead ch t) (hn : n ≤ 4) : sign * ahead = dtL n M0 := by
  rw [B.dt, B.ah, dt_prev n hn P]
/-- the pivot of an unchanged table is a minor of its own -/
theorem Bar.pivot {n s : Nat} {M0 M P : Nat → Nat → Int} {sign ahead : Int} {t : Nat} (B : Bar n s M0 M P sign ahead false t) (hn : n ≤ 4) (hs : s < n) : t = s ∧ M s s = dtL (s + 1) M0 := by
  obtain ⟨h1, h2⟩ := B.same rfl
  refine ⟨h2, ?_⟩
  rw [B.is s s (Nat.le_refl _) (Nat.le_refl _) hs hs, h1, dt_prev (s + 1) (by omega)]
  rfl
end Mine
end
section
open PySem PySem.W PySem.Spec PySem.Calls PyProof.Rows
set_option Elab.async false
set_option maxRecDepth 100000
set_option maxHeartbeats 8000000
namespace Mine
theorem kwK1 : True := by
  k_with_none
  k_with "mem1" => (first | (with_reducible exact List.mem_cons_self) | (with_reducible assumption) | (with_reducible refine List.mem_append_right _ ?_; k_extra "mem1") | (with_reducible refine List.mem_append_left _ ?_; k_extra "mem1") | (with_reducible refine List.mem_cons_of_mem _ ?_; k_extra "mem1"))
  k_with "sub" => (first | (intro _ hq0; k_extra "tl") | (with_reducible exact List.forall_mem_nil _) | ((with_reducible refine List.forall_mem_cons.mpr (And.intro ?_ ?_)); (focus k_extra "mem1"); k_extra "sub") | ((with_reducible refine List.forall_mem_append.mpr (And.intro ?_ ?_)); (focus k_extra "sub"); k_extra "sub"))
  k_with "tl" => (first | (with_reducible assumption) | (with_reducible refine List.mem_append_right _ ?_; k_extra "tl") | (with_reducible refine List.mem_append_left _ ?_; k_extra "tl") | (with_reducible refine List.mem_cons_of_mem _ ?_; k_extra "tl"))
  k_with "my steps" => (repeat' ((fail_if_success (with_reducible show wpAny _ _ (pyIter _) _ _ _)); (fail_if_success (with_reducible show wpAny _ _ (exec (Stmt.For _ _ _ _ _) _) _ _ _)); (fail_if_success (with_reducible show wpAny _ _ (eval (Expr.ListComp _ _ _ _) _) _ _ _)); (first | (k_unfold; (try dsimp only)) | k_extra "own" | walk1 | (dsimp only; (first | k_extra "own" | walk1)) | (leave1; try dsimp only))))
  k_with "my step" => ((first | (k_unfold; (try dsimp only)) | k_extra "own" | walk1 | (dsimp only; (first | k_extra "own" | walk1)) | (leave1; try dsimp only)))
  k_with "own" => ((k_here; (with_reducible show wpAny _ _ (subscriptTail _ _ (Value.ref _) (Value.int _ _)) _ _ _); (with_reducible rename News _ _ _ _ => N''); k_dflt (first
  | (refine' mat_cell N'' (by (intro _ hq; repeat' first | exact hq | apply List.mem_append_right | apply List.mem_cons_of_mem)) (by with_reducible assumption) (by omega) (by omega) (by with_reducible assumption) ?_ (by with_unfolding_all rfl); intro _)
  | (refine' mat_row N'' (by k_mem) (by with_reducible assumption) (by omega) (by with_reducible assumption) ?_ (by with_unfolding_all rfl)))))
  k_with "own" => ((k_here; (with_reducible show wpAny _ _ (setItem (Value.ref (adr _ _)) (Value.int _ _) (Value.int _ _)) _ _ _); (with_reducible rename Fr _ _ _ _ => F''); (with_reducible rename ∀ q ∈ _, ∀ y ∈ _, Prod.fst _ ≠ Prod.fst _ => hap''); (with_reducible rename News _ _ _ _ => N''); k_dflt (refine' mat_set F'' N'' (by with_reducible assumption) hap'' (by assumption) (by assumption) (by with_reducible assumption) ?_; k_whole); intro _ _ _ _ _ _))
  trivial
/-- the body of the outer loop of the def at 73 -/
noncomputable def Taken73 (w : World) (qual : Str) (sc : Scope) (cdv : Value) (body : List Stmt) : Prop := ∃ oc od osl name ps s1 s2 tgt it pos sR dV kV doc pm an ct,
  (hd.heap_1 w.params).lookup 73 = some ⟨oc, od, .func (fnOf name qual ps [s1, s2, .For tgt it body [] pos, sR] sc dV kV doc pm an cdv ct), osl⟩
/-- .. of the innermost loop -/
noncomputable def TakenK (w : World) (qual : Str) (sc : Scope) (cdv : Value) (bodyK : List Stmt) : Prop := ∃ b1 b2 b3 b4 b6 t1 i1 p1 t2 i2 p2, Taken73 w qual sc cdv [b1, b2, b3, b4, .For t1 i1 [.For t2 i2 bodyK [] p2] [] p1, b6]
theorem News.sub {g h : Heap} {L : Addr} {l l' : List (Addr × Obj)} (N : News g L h l) (hs : ∀ q ∈ l', q ∈ l) : News g L h l' := fun q hq => N q (hs q hq)
section
variable {prog : Program} {w : World} {s : Shared} {g : Heap} {mg mb : Str → Option Value} {p : Program} {loose : List Str} {mean : ExcName → Option Value} {dp un : Nat} {fr : Option (List Env)} {gd : Option (List Code)}
  {Q : Flow → Shared → Prop}
theorem turn_k {qual : Str} {sc : Scope} {cdv : Value} {bodyK : List Stmt} (h73 : TakenK w qual sc cdv bodyK) (X : (hd.heap_1 w.params).In g) (T : Top p loose mean mg mb g) (hroom : dp + 110 < recursionLimit) (hu : un + 70 < cLine)
   (g30 : g.get? 30 = none) (g37 : g.get? 37 = none) {L : Addr} (l30 : (30 : Addr) ≠ L) (l37 : (37 : Addr) ≠ L) (C30 : CodeHd g 34 30) (C37 : CodeHd g 41 37)
   {n s0 j k : Nat} (hn : n ≤ 4) (hj : s0 < j) (hk : s0 < k) (hjn : j < n) (hkn : k < n) {D : Addr} {oS oR : Obj} {ts tj tk ta : Tok} (dS : oS.data = .cell (some (.int (s0 : Int) ts))) (dR : oR.data = .cell (some (.ref D)))
   {t : Tb} (O : t.Ok g) {rl rest : List (Addr × Obj)} {e : Nat} {M : Nat → Nat → Int} (hM : Mat n M rl) {ah c : Int} (hw : M j k * M s0 s0 - M j s0 * M s0 k = ah * c)
   (bd : ∀ a b, s0 ≤ a → s0 ≤ b → a < n → b < n → -1572864 ≤ M a b ∧ M a b ≤ 1572864) (ah0 : ah ≠ 0) (ahb : -1572864 ≤ ah ∧ ah ≤ 1572864) (cb : -1572864 ≤ c ∧ c ≤ 1572864)
   (hap : ∀ q ∈ (L + 1 + 1, oS) :: (L + 1, oR) :: (D, listOf (refsOf rl).toArray e) :: rest, q.1 ≠ 30 ∧ q.1 ≠ 37 ∧ ∀ y ∈ rl, q.1 ≠ y.1) (hrl : ∀ q ∈ rl, q.1 ≠ 30 ∧ q.1 ≠ 37)
   {m : Str → Option Value} (F : Fr g L s.heap m) (hm1 : m "j" = some (.int (j : Int) tj)) (hm2 : m "k" = some (.int (k : Int) tk)) (hm3 : m "ahead" = some (.int ah ta))
   (N : News g L s.heap ((L + 1 + 1, oS) :: (L + 1, oR) :: (D, listOf (refsOf rl).toArray e) :: (t.led ++ (rest ++ rl))))
   (ret : ∀ h' tk m' t' rl', (∀ x : Str, x ≠ "whole" → x ≠ "rest" → m' x = m x) → Fr g L h' m' → Tb.Ok t' g → Mat n (upd M j k c) rl' → rl'.map (·.1) = rl.map (·.1) →
     News g L h' ((L + 1 + 1, oS) :: (L + 1, oR) :: (D, listOf (refsOf rl').toArray e) :: (t'.led ++ (rest ++ rl'))) → Q .next { s with heap := h', toks := tk }) :
   wpAny (model prog w) ((AA dp un fr gd).deeper (envOfC qual sc L 73 cdv)) (execs bodyK (envOfC qual sc L 73 cdv)) Q (fun _ _ => False) s := by
  obtain ⟨b1, b2, b3, b4, b6, t1, i1, p1, t2, i2, p2, oc, od, osl, name, ps, s1, s2, tgt, it, pos, sR, dV, kV, doc, pm, an, ct, e1⟩ := h73
  have e2 := e1.symm.trans (show (hd.heap_1 w.params).lookup 73 = _ by k_is)
  cases e2
  clear e1
  rw [map_chain hm1] at F
  rw [map_chain hm2] at F
  rw [map_chain hm3] at F
  dsimp only at F
  simp only [List.cons_append, List.nil_append] at N
  have q1 := bd j k (by omega) (by omega) hjn hkn
  have q2 := bd s0 s0 (by omega) (by omega) (by omega) (by omega)
  have q3 := bd j s0 (by omega) (by omega) (by omega) (by omega)
  have q4 := bd s0 k (by omega) (by omega) (by omega) (by omega)
  obtain ⟨q1a, q1b⟩ := q1
  obtain ⟨q2a, q2b⟩ := q2
  obtain ⟨q3a, q3b⟩ := q3
  obtain ⟨q4a, q4b⟩ := q4
  clear bd
  walk_at "my steps"
  (rename Fr _ _ _ _ => F'); (rename News _ _ _ _ => N')
  rw [hw]
  have pb := mul_bd ahb cb (by decide)
  obtain ⟨pb1, pb2⟩ := pb
  have tin : TabsH _ := tb_in O F' fun q hq => (N' q (.tail _ (.tail _ (.tail _ (show q ∈ t.led ++ (rest ++ rl) from List.mem_append_left _ hq))))).1
  refine' call_div X T ?S ?room g30 g37 C30 C37 ?ha ?ha2 ah0 ?hb1 ?hb2 rfl tin ?_
  case S => exact fun b o q => F'.keep b o q
  case room => show dp + 1 + 92 < _; omega
  case ha => omega
  case ha2 => omega
  case hb1 => omega
  case hb2 => omega
  intro D2 h2 tk2 t1' t2' k2 ht2 hf2 hD2
  have hrr : ∀ q ∈ rest ++ rl, q.1 ≠ 30 ∧ q.1 ≠ 37 := fun q hq => by
    rcases List.mem_append.mp hq with hq | hq
    · have := hap q (.tail _ (.tail _ (.tail _ hq))); exact ⟨this.1, this.2.1⟩
    · exact hrl q hq
  have h3 : ∀ q ∈ (L + 1 + 1, oS) :: (L + 1, oR) :: (D, listOf (refsOf rl).toArray e) :: (rest ++ rl), q.1 ≠ 30 ∧ q.1 ≠ 37 := fun q hq => by
    rcases List.mem_cons.mp hq with rfl | hq
    · have := hap _ (.head _); exact ⟨this.1, this.2.1⟩
    rcases List.mem_cons.mp hq with rfl | hq
    · have := hap _ (.tail _ (.head _)); exact ⟨this.1, this.2.1⟩
    rcases List.mem_cons.mp hq with rfl | hq
    · have := hap _ (.tail _ (.tail _ (.head _))); exact ⟨this.1, this.2.1⟩
    · exact hrr q hq
  obtain ⟨t', O', F2, N2⟩ := after_tabs (rest := (L + 1 + 1, oS) :: (L + 1, oR) :: (D, listOf (refsOf rl).toArray e) :: (rest ++ rl)) F' (News.sub N' (fun q hq => by
    (first | (revert q; k_extra "sub") | (refine (fun (h0 : ∀ q0 ∈ _, q0 ∈ _) => h0 _ hq) ?_; k_extra "sub") | (simp only [List.mem_cons, List.mem_append] at hq ⊢; grind)))) g30 g37 l30 l37 k2 h3 ht2 hf2 hD2
  have N3 : News g L h2 (((D2, { cls := .type "tuple", data := .seq #[.int c t1', .int 0 t2'] }) :: (L + 1 + 1, oS) :: (L + 1, oR) :: (D, listOf (refsOf rl).toArray e) :: (30, tabObj t'.p1) :: (37, tabObj t'.p2) :: (t'.e1, t'.o1) :: (t'.e2, t'.o2) :: rest) ++ rl) := News.sub N2 (fun q hq => by
    (first | (revert q; k_extra "sub") | (refine (fun (h0 : ∀ q0 ∈ _, q0 ∈ _) => h0 _ hq) ?_; k_extra "sub") | (simp only [List.mem_cons, List.mem_append, List.cons_append] at hq ⊢; grind)))
  have hap2 : ∀ q ∈ (D2, { cls := .type "tuple", data := .seq #[.int c t1', .int 0 t2'] }) :: (L + 1 + 1, oS) :: (L + 1, oR) :: (D, listOf (refsOf rl).toArray e) :: (30, tabObj t'.p1) :: (37, tabObj t'.p2) :: (t'.e1, t'.o1) :: (t'.e2, t'.o2) :: rest, ∀ y ∈ rl, q.1 ≠ y.1 := by
    intro q hq y hy
    have hyN := (N3 y (List.mem_append_right _ hy)).1
    obtain ⟨iy, hiy⟩ := List.getElem?_of_mem hy
    have hyc : NoCode y.2 := by
      have hil : iy < n := by rw [← hM.len]; exact (List.getElem?_eq_some_iff.mp hiy).1
      obtain ⟨r, vs, e', h1, _⟩ := hM.row iy hil
      rw [hiy] at h1; cases h1; exact noCode_list _ _
    have hy3 := hrl y hy
    rcases List.mem_cons.mp hq with rfl | hq
    · intro e
      have := (N' y (by (first | k_extra "mem1" | (simp only [List.mem_cons, List.mem_append]; grind)))).1
      have e' : D2 = y.1 := e
      rw [← e', hf2] at this; cases this
    rcases List.mem_cons.mp hq with rfl | hq
    · exact (hap _ (.head _)).2.2 y hy
    rcases List.mem_cons.mp hq with rfl | hq
    · exact (hap _ (.tail _ (.head _))).2.2 y hy
    rcases List.mem_cons.mp hq with rfl | hq
    · exact (hap _ (.tail _ (.tail _ (.head _)))).2.2 y hy
    rcases List.mem_cons.mp hq with rfl | hq
    · exact hy3.1.symm
    rcases List.mem_cons.mp hq with rfl | hq
    · exact hy3.2.symm
    rcases List.mem_cons.mp hq with rfl | hq
    · exact O'.a.ne (N3 (t'.e1, t'.o1) (List.mem_append_left _ (by k_mem))).1 hyN hyc hy3.1
    rcases List.mem_cons.mp hq with rfl | hq
    · exact O'.b.ne (N3 (t'.e2, t'.o2) (List.mem_append_left _ (by k_mem))).1 hyN hyc hy3.2
    · exact (hap q (.tail _ (.tail _ (.tail _ hq)))).2.2 y hy
  clear N2 N' F' k2 tin hf2 hD2
  walk_at "my steps"
  (rename Fr _ _ _ _ => F6); (rename News _ _ _ _ => N6); (rename Mat n (upd _ _ _ _) _ => hM6); (rename List.map _ _ = List.map _ _ => hm6)
  refine ret _ _ _ t' _ (fun x h1 h2 => ?_) F6 O' hM6 hm6 ?_
  · show (if x = "rest" then _ else if x = "whole" then _ else _) = m x
    rw [if_neg h2, if_neg h1]
    split
    · rename_i h; rw [h, hm1]
    · split
      · rename_i h; rw [h, hm2]
      · split
        · rename_i h; rw [h, hm3]
        · rfl
  · have er : ∀ rl1 rl2 : List (Addr × Obj), rl1.map (·.1) = rl2.map (·.1) → refsOf rl1 = refsOf rl2 := fun rl1 rl2 h => by
      have : ∀ r : List (Addr × Obj), refsOf r = (r.map (·.1)).map Value.ref := fun r => by simp [refsOf]
      rw [this, this, h]
    rw [er _ _ hm6]
    exact News.sub N6 (fun q hq => by
      (first | (revert q; k_extra "sub") | (refine (fun (h0 : ∀ q0 ∈ _, q0 ∈ _) => h0 _ hq) ?_; k_extra "sub") | (simp only [List.mem_cons, List.mem_append, List.cons_append] at hq ⊢; grind)))
end
end Mine
end
section
open PySem PySem.W PySem.Spec PySem.Calls PyProof.Rows
set_option Elab.async false
set_option maxRecDepth 100000
set_option maxHeartbeats 8000000
namespace Mine
theorem mem_e4_K2 {x a0 a1 a2 a3 : Addr × Obj} (h : x ∈ [a0, a1, a2, a3]) : x = a0 ∨ x = a1 ∨ x = a2 ∨ x = a3 := by simpa using h
theorem kwK2 : True := by
  k_with_none
  k_with "mem1" => (first | (with_reducible exact List.mem_cons_self) | (with_reducible assumption) | (with_reducible refine List.mem_append_right _ ?_; k_extra "mem1") | (with_reducible refine List.mem_append_left _ ?_; k_extra "mem1") | (with_reducible refine List.mem_cons_of_mem _ ?_; k_extra "mem1"))
  k_with "sub" => (first | (intro _ hq0; k_extra "tl") | (with_reducible exact List.forall_mem_nil _) | ((with_reducible refine List.forall_mem_cons.mpr (And.intro ?_ ?_)); (focus k_extra "mem1"); k_extra "sub") | ((with_reducible refine List.forall_mem_append.mpr (And.intro ?_ ?_)); (focus k_extra "sub"); k_extra "sub"))
  k_with "tl" => (first | (with_reducible assumption) | (with_reducible refine List.mem_append_right _ ?_; k_extra "tl") | (with_reducible refine List.mem_append_left _ ?_; k_extra "tl") | (with_reducible refine List.mem_cons_of_mem _ ?_; k_extra "tl"))
  k_with "my steps" => (repeat' ((fail_if_success (with_reducible show wpAny _ _ (pyIter _) _ _ _)); (fail_if_success (with_reducible show wpAny _ _ (eval (Expr.ListComp _ _ _ _) _) _ _ _)); (first | (k_unfold; (try dsimp only)) | walk1 | (dsimp only; walk1) | (leave1; try dsimp only))))
  trivial
noncomputable def TakenJ (w : World) (qual : Str) (sc : Scope) (cdv : Value) (bodyJ : List Stmt) : Prop := ∃ b1 b2 b3 b4 b6 t1 i1 p1, Taken73 w qual sc cdv [b1, b2, b3, b4, .For t1 i1 bodyJ [] p1, b6]
theorem map_all {P : Addr → Prop} {rl rl' : List (Addr × Obj)} (h : rl'.map (·.1) = rl.map (·.1)) (hp : ∀ y ∈ rl, P y.1) : ∀ y ∈ rl', P y.1 := fun y hy => by
  have h1 : y.1 ∈ rl.map (·.1) := h ▸ List.mem_map_of_mem hy
  obtain ⟨z, hz, e⟩ := List.mem_map.mp h1
  rw [← e]; exact hp z hz
theorem elim_bd {n s : Nat} {M0 M P : Nat → Nat → Int} {sign ahead : Int} {ch : Bool} {t : Nat} (B : Bar n s M0 M P sign ahead ch t) (hn : n ≤ 4) (j0 k0 : Nat) : ∀ a b, s ≤ a → s ≤ b → a < n → b < n → -1572864 ≤ elim s M (bmin P (s + 1)) j0 k0 a b ∧ elim s M (bmin P (s + 1)) j0 k0 a b ≤ 1572864 := fun a b ha hb han hbn => by
  unfold elim
  split
  · exact bmin_bd P B.bd (s + 1) a b (by omega)
  · exact B.cell_bd hn ha hb han hbn
theorem refs_map {rl rl' : List (Addr × Obj)} (h : rl'.map (·.1) = rl.map (·.1)) : refsOf rl' = refsOf rl := by
  have : ∀ r : List (Addr × Obj), refsOf r = (r.map (·.1)).map Value.ref := fun r => by simp [refsOf]
  rw [this, this, h]
/-- the iterator lies apart -/
theorem apart_it {cS cR D I : Addr} {oS oR oD oD' it : Obj} {rest rl rl' : List (Addr × Obj)} {t : Tb} (hap : ∀ q ∈ (cS, oS) :: (cR, oR) :: (D, oD) :: rest, q.1 ≠ 30 ∧ q.1 ≠ 37 ∧ ∀ y ∈ rl, q.1 ≠ y.1) (hme : rl'.map (·.1) = rl.map (·.1))
    (hoff : ∀ q ∈ (cS, oS) :: (cR, oR) :: (D, oD') :: (t.led ++ (rest ++ rl')), q.1 ≠ I) : ∀ q ∈ (cS, oS) :: (cR, oR) :: (D, oD') :: (I, it) :: rest, q.1 ≠ 30 ∧ q.1 ≠ 37 ∧ ∀ y ∈ rl', q.1 ≠ y.1 := by
  have hap' : ∀ q ∈ (cS, oS) :: (cR, oR) :: (D, oD) :: rest, q.1 ≠ 30 ∧ q.1 ≠ 37 ∧ ∀ y ∈ rl', q.1 ≠ y.1 := fun q hq => ⟨(hap q hq).1, (hap q hq).2.1, map_all (P := fun a => q.1 ≠ a) hme (hap q hq).2.2⟩
  intro q hq
  rcases List.mem_cons.mp hq with rfl | hq
  · exact hap' _ (.head _)
  rcases List.mem_cons.mp hq with rfl | hq
  · exact hap' _ (.tail _ (.head _))
  rcases List.mem_cons.mp hq with rfl | hq
  · exact hap' (D, oD) (.tail _ (.tail _ (.head _)))
  rcases List.mem_cons.mp hq with rfl | hq
  · exact ⟨fun e => hoff (30, tabObj t.p1) (.tail _ (.tail _ (.tail _ (.head _)))) e.symm, fun e => hoff (37, tabObj t.p2) (.tail _ (.tail _ (.tail _ (.tail _ (.head _))))) e.symm,
      fun y hy e => hoff y (.tail _ (.tail _ (.tail _ (List.mem_append_right _ (List.mem_append_right _ hy))))) e.symm⟩
  · exact hap' q (.tail _ (.tail _ (.tail _ hq)))
theorem off_it {g h : Heap} {L cS cR D I : Addr} {oS oR oD oD' it : Obj} {rest rl rl' : List (Addr × Obj)} {t t2 : Tb} (O2 : t2.Ok g) (hnc : NoCode it) (hoff : ∀ q ∈ (cS, oS) :: (cR, oR) :: (D, oD) :: (t.led ++ (rest ++ rl)), q.1 ≠ I) (hme : rl'.map (·.1) = rl.map (·.1))
    (N : News g L h ((I, it) :: t2.led)) : ∀ q ∈ (cS, oS) :: (cR, oR) :: (D, oD') :: (t2.led ++ (rest ++ rl')), q.1 ∉ [I] := by
  have i30 : I ≠ 30 := fun e => hoff (30, tabObj t.p1) (.tail _ (.tail _ (.tail _ (.head _)))) e.symm
  have i37 : I ≠ 37 := fun e => hoff (37, tabObj t.p2) (.tail _ (.tail _ (.tail _ (.tail _ (.head _))))) e.symm
  intro q hq hm
  have hm := List.mem_singleton.mp hm
  revert hm
  rcases List.mem_cons.mp hq with rfl | hq
  · exact hoff _ (.head _)
  rcases List.mem_cons.mp hq with rfl | hq
  · exact hoff _ (.tail _ (.head _))
  rcases List.mem_cons.mp hq with rfl | hq
  · exact hoff (D, oD) (.tail _ (.tail _ (.head _)))
  rcases List.mem_append.mp hq with hq | hq
  · replace hq := mem_e4_K2 hq
    rcases hq with rfl | rfl | rfl | rfl
    · exact i30.symm
    · exact i37.symm
    · exact O2.a.ne (N (t2.e1, t2.o1) (.tail _ (.tail _ (.tail _ (.head _))))).1 (N (I, it) (.head _)).1 hnc i30
    · exact O2.b.ne (N (t2.e2, t2.o2) (.tail _ (.tail _ (.tail _ (.tail _ (.head _)))))).1 (N (I, it) (.head _)).1 hnc i37
  rcases List.mem_append.mp hq with hq | hq
  · exact hoff q (.tail _ (.tail _ (.tail _ (List.mem_append_right _ (List.mem_append_left _ hq)))))
  · exact map_all (P := fun a => a ≠ I) hme (fun y hy => hoff y (.tail _ (.tail _ (.tail _ (List.mem_append_right _ (List.mem_append_right _ hy)))))) q hq
section
variable {prog : Program} {w : World} {s : Shared} {g : Heap} {mg mb : Str → Option Value} {p : Program} {loose : List Str} {mean : ExcName → Option Value} {dp un : Nat} {fr : Option (List Env)} {gd : Option (List Code)}
  {Q : Flow → Shared → Prop}
theorem loop_k {qual : Str} {sc : Scope} {cdv : Value} {bodyJ : List Stmt} (h73 : TakenJ w qual sc cdv bodyJ) (X : (hd.heap_1 w.params).In g) (T : Top p loose mean mg mb g) (hroom : dp + 110 < recursionLimit) (hu : un + 70 < cLine)
   (g30 : g.get? 30 = none) (g37 : g.get? 37 = none) {L : Addr} (l30 : (30 : Addr) ≠ L) (l37 : (37 : Addr) ≠ L) (C30 : CodeHd g 34 30) (C37 : CodeHd g 41 37)
   {n s0 j : Nat} (hn : n ≤ 4) (hj : s0 < j) (hjn : j < n) {D : Addr} {oS oR : Obj} {ts tj tm ta : Tok} (dS : oS.data = .cell (some (.int (s0 : Int) ts))) (dR : oR.data = .cell (some (.ref D)))
   {t : Tb} (O : t.Ok g) {rl rest : List (Addr × Obj)} {e : Nat} {M0 M P : Nat → Nat → Int} {sg ah : Int} {ch : Bool} {tt : Nat} (hB : Bar n s0 M0 M P sg ah ch tt) (hM : Mat n (elim s0 M (bmin P (s0 + 1)) j (s0 + 1)) rl)
   (hap : ∀ q ∈ (L + 1 + 1, oS) :: (L + 1, oR) :: (D, listOf (refsOf rl).toArray e) :: rest, q.1 ≠ 30 ∧ q.1 ≠ 37 ∧ ∀ y ∈ rl, q.1 ≠ y.1) (hrl : ∀ q ∈ rl, q.1 ≠ 30 ∧ q.1 ≠ 37)
   {m : Str → Option Value} (F : Fr g L s.heap m) (hm1 : m "j" = some (.int (j : Int) tj)) (hm2 : m "many" = some (.int (n : Int) tm)) (hm3 : m "ahead" = some (.int ah ta))
   (N : News g L s.heap ((L + 1 + 1, oS) :: (L + 1, oR) :: (D, listOf (refsOf rl).toArray e) :: (t.led ++ (rest ++ rl))))
   (ret : ∀ h' tk m' t' rl', (∀ x : Str, x ≠ "k" → x ≠ "whole" → x ≠ "rest" → m' x = m x) → Fr g L h' m' → Tb.Ok t' g → Mat n (elim s0 M (bmin P (s0 + 1)) j n) rl' → rl'.map (·.1) = rl.map (·.1) →
     News g L h' ((L + 1 + 1, oS) :: (L + 1, oR) :: (D, listOf (refsOf rl').toArray e) :: (t'.led ++ (rest ++ rl'))) → Q .next { s with heap := h', toks := tk }) :
   wpAny (model prog w) ((AA dp un fr gd).deeper (envOfC qual sc L 73 cdv)) (execs bodyJ (envOfC qual sc L 73 cdv)) Q (fun _ _ => False) s := by
  obtain ⟨b1, b2, b3, b4, b6, t1, i1, p1, oc, od, osl, name, ps, s1, s2, tgt, it, pos, sR, dV, kV, doc, pm, an, ct, e1⟩ := h73
  have e2 := e1.symm.trans (show (hd.heap_1 w.params).lookup 73 = _ by k_is)
  cases e2
  rw [map_chain hm2] at F
  (try dsimp only at F)
  simp only [List.cons_append, List.nil_append] at N
  walk_at "my steps"
  (rename IsRange _ _ _ _ _ _ _ _ => hR); (rename Fr _ _ _ _ => F8); (rename News _ _ _ _ => N8)
  rw [← map_chain hm2] at F8
  refine' iter_range_own (n := n - (s0 + 1)) (m₀ := m) (news := (L + 1 + 1, oS) :: (L + 1, oR) :: (D, listOf (refsOf rl).toArray e) :: (t.led ++ (rest ++ rl)))
    (fun i m₁ news₁ => ∃ (t' : Tb) (rl' : List (Addr × Obj)), (∀ x : Str, x ≠ "k" → x ≠ "whole" → x ≠ "rest" → m₁ x = m x) ∧ news₁ = (L + 1 + 1, oS) :: (L + 1, oR) :: (D, listOf (refsOf rl').toArray e) :: (t'.led ++ (rest ++ rl')) ∧ t'.Ok g ∧
      Mat n (elim s0 M (bmin P (s0 + 1)) j (s0 + 1 + i)) rl' ∧ rl'.map (·.1) = rl.map (·.1)) ?hh hR ?small ?size F8 N8 ?hj ?turn ?done
  case hh => exact rfl
  case small => exact small_nat (by omega) (by omega) (by omega) (by omega)
  case size => rw [rangeSize_nat]; omega
  case hj => exact ⟨t, rl, fun _ _ _ _ => rfl, rfl, O, hM, rfl⟩
  case turn =>
    clear hR F8 N8
    rintro i ti m₁ news₁ h tk I it hin hnc ⟨t', rl', hmm, rfl, O', hM', hme⟩ hoff F₁ N₁
    have e0 : (s0 : Int) + 1 + (i : Int) * 1 = ((s0 + 1 + i : Nat) : Int) := by omega
    rw [e0] at F₁
    have hrl' := map_all (P := fun a => a ≠ 30 ∧ a ≠ 37) hme hrl
    have er := refs_map hme
    have hwh := hB.whole hn (j := j) (k := s0 + 1 + i) hj (by omega) hjn (by omega)
    refine' turn_k (k := s0 + 1 + i) (t := t') (rl := rl') (rest := (I, it) :: rest) (e := e) (c := bmin P (s0 + 1) j (s0 + 1 + i)) ⟨_, _, _, _, _, _, _, _, _, _, _, _, _, _, _, _, _, _, _, _, _, _, _, _, _, _, _, _, e1⟩ X T hroom hu g30 g37 l30 l37 C30 C37 hn hj (by omega) hjn (by omega) dS dR O' hM' ?hw (elim_bd hB hn _ _) hB.nz (hB.ahead_bd hn (by omega)) (bmin_bd P hB.bd _ _ _ (by omega)) ?hap hrl' F₁ ?m1 ?m2 ?m3 (News.sub N₁ ?sub) ?ret
    case hw =>
      rw [elim_at_j s0 M _ j _ j _ (Nat.le_refl _) rfl, elim_at_s s0 M _ j _ s0 s0 (.inl (Nat.le_refl _)), elim_at_s s0 M _ j _ j s0 (.inr (Nat.le_refl _)), elim_at_s s0 M _ j _ s0 _ (.inl (Nat.le_refl _))]
      exact hwh
    case m1 => exact (if_neg (by decide)).trans ((hmm _ (by decide) (by decide) (by decide)).trans hm1)
    case m2 => exact if_pos rfl
    case m3 => exact (if_neg (by decide)).trans ((hmm _ (by decide) (by decide) (by decide)).trans hm3)
    case sub => intro q hq; (first | (revert q; k_extra "sub") | (refine (fun (h0 : ∀ q0 ∈ _, q0 ∈ _) => h0 _ hq) ?_; k_extra "sub") | (simp only [List.mem_cons, List.mem_append] at hq ⊢; grind))
    case hap => exact apart_it hap hme (fun q hq => hoff q hq)
    case ret =>
      intro h' tk' m' t2 rl2 hm' F' O2 hM2 hme2 N2
      refine turnEnd_next ⟨h', tk', m', _, rfl, F', ?n, ?w, t2, rl2, ?mm, rfl, O2, ?mat, hme2.trans hme⟩
      case n => exact News.sub N2 (by intro q hq; (first | (revert q; k_extra "sub") | (refine (fun (h0 : ∀ q0 ∈ _, q0 ∈ _) => h0 _ hq) ?_; k_extra "sub") | (simp only [List.mem_cons, List.mem_append, List.nil_append, List.cons_append] at hq ⊢; grind)))
      case w => exact off_it O2 hnc (fun q hq => hoff q hq) (hme2.trans rfl) (News.sub N2 (by intro q hq; (first | (revert q; k_extra "sub") | (refine (fun (h0 : ∀ q0 ∈ _, q0 ∈ _) => h0 _ hq) ?_; k_extra "sub") | (simp only [List.mem_cons, List.mem_append] at hq ⊢; grind))))
      case mm => exact fun x h1 h2 h3 => (hm' x h2 h3).trans ((if_neg h1).trans (hmm x h1 h2 h3))
      case mat => rw [elim_upd s0 M _ j _ hj (by omega)] at hM2; exact hM2
  case done =>
    rintro m₁ news₁ h tk ⟨t', rl', hmm, rfl, O', hM', hme⟩ F₁ N₁
    have en : s0 + 1 + (n - (s0 + 1)) = n := by omega
    rw [en] at hM'
    walk_at "my steps"
    exact ret _ _ _ _ _ hmm F₁ O' hM' hme N₁
end
end Mine
end
section
open PySem PySem.W PySem.Spec PySem.Calls PyProof.Rows
set_option Elab.async false
set_option maxRecDepth 100000
set_option maxHeartbeats 8000000
namespace Mine
theorem kwK3 : True := by
  k_with_none
  k_with "mem1" => (first | (with_reducible exact List.mem_cons_self) | (with_reducible assumption) | (with_reducible refine List.mem_append_right _ ?_; k_extra "mem1") | (with_reducible refine List.mem_append_left _ ?_; k_extra "mem1") | (with_reducible refine List.mem_cons_of_mem _ ?_; k_extra "mem1"))
  k_with "sub" => (first | (intro _ hq0; k_extra "tl") | (with_reducible exact List.forall_mem_nil _) | ((with_reducible refine List.forall_mem_cons.mpr (And.intro ?_ ?_)); (focus k_extra "mem1"); k_extra "sub") | ((with_reducible refine List.forall_mem_append.mpr (And.intro ?_ ?_)); (focus k_extra "sub"); k_extra "sub"))
  k_with "tl" => (first | (with_reducible assumption) | (with_reducible refine List.mem_append_right _ ?_; k_extra "tl") | (with_reducible refine List.mem_append_left _ ?_; k_extra "tl") | (with_reducible refine List.mem_cons_of_mem _ ?_; k_extra "tl"))
  k_with "my steps" => (repeat' ((fail_if_success (with_reducible show wpAny _ _ (pyIter _) _ _ _)); (fail_if_success (with_reducible show wpAny _ _ (eval (Expr.ListComp _ _ _ _) _) _ _ _)); (first | (k_unfold; (try dsimp only)) | walk1 | (dsimp only; walk1) | (leave1; try dsimp only))))
  trivial
noncomputable def TakenF (w : World) (qual : Str) (sc : Scope) (cdv : Value) (sFor : Stmt) : Prop := ∃ b1 b2 b3 b4 b6, Taken73 w qual sc cdv [b1, b2, b3, b4, sFor, b6]
section
variable {prog : Program} {w : World} {s : Shared} {g : Heap} {mg mb : Str → Option Value} {p : Program} {loose : List Str} {mean : ExcName → Option Value} {dp un : Nat} {fr : Option (List Env)} {gd : Option (List Code)}
  {Q : Flow → Shared → Prop}
theorem loop_j {qual : Str} {sc : Scope} {cdv : Value} {sFor : Stmt} (h73 : TakenF w qual sc cdv sFor) (X : (hd.heap_1 w.params).In g) (T : Top p loose mean mg mb g) (hroom : dp + 110 < recursionLimit) (hu : un + 70 < cLine)
   (g30 : g.get? 30 = none) (g37 : g.get? 37 = none) {L : Addr} (l30 : (30 : Addr) ≠ L) (l37 : (37 : Addr) ≠ L) (C30 : CodeHd g 34 30) (C37 : CodeHd g 41 37)
   {n s0 : Nat} (hn : n ≤ 4) (hs : s0 < n) {D : Addr} {oS oR : Obj} {ts tm ta : Tok} (dS : oS.data = .cell (some (.int (s0 : Int) ts))) (dR : oR.data = .cell (some (.ref D)))
   {t : Tb} (O : t.Ok g) {rl rest : List (Addr × Obj)} {e : Nat} {M0 M P : Nat → Nat → Int} {sg ah : Int} {ch : Bool} {tt : Nat} (hB : Bar n s0 M0 M P sg ah ch tt) (hM : Mat n M rl)
   (hap : ∀ q ∈ (L + 1 + 1, oS) :: (L + 1, oR) :: (D, listOf (refsOf rl).toArray e) :: rest, q.1 ≠ 30 ∧ q.1 ≠ 37 ∧ ∀ y ∈ rl, q.1 ≠ y.1) (hrl : ∀ q ∈ rl, q.1 ≠ 30 ∧ q.1 ≠ 37)
   {m : Str → Option Value} (F : Fr g L s.heap m) (hm2 : m "many" = some (.int (n : Int) tm)) (hm3 : m "ahead" = some (.int ah ta))
   (N : News g L s.heap ((L + 1 + 1, oS) :: (L + 1, oR) :: (D, listOf (refsOf rl).toArray e) :: (t.led ++ (rest ++ rl))))
   (ret : ∀ h' tk m' t' rl', (∀ x : Str, x ≠ "j" → x ≠ "k" → x ≠ "whole" → x ≠ "rest" → m' x = m x) → Fr g L h' m' → Tb.Ok t' g → Mat n (elim s0 M (bmin P (s0 + 1)) n (s0 + 1)) rl' → rl'.map (·.1) = rl.map (·.1) →
     News g L h' ((L + 1 + 1, oS) :: (L + 1, oR) :: (D, listOf (refsOf rl').toArray e) :: (t'.led ++ (rest ++ rl'))) → Q .next { s with heap := h', toks := tk }) :
   wpAny (model prog w) ((AA dp un fr gd).deeper (envOfC qual sc L 73 cdv)) (exec sFor (envOfC qual sc L 73 cdv)) Q (fun _ _ => False) s := by
  obtain ⟨b1, b2, b3, b4, b6, oc, od, osl, name, ps, s1, s2, tgt, it, pos, sR, dV, kV, doc, pm, an, ct, e1⟩ := h73
  have e2 := e1.symm.trans (show (hd.heap_1 w.params).lookup 73 = _ by k_is)
  cases e2
  rw [map_chain hm2] at F
  simp only [List.cons_append, List.nil_append] at N
  walk_at "my steps"
  (rename IsRange _ _ _ _ _ _ _ _ => hR); (rename Fr _ _ _ _ => F8); (rename News _ _ _ _ => N8)
  rw [← map_chain hm2] at F8
  refine' iter_range_own (n := n - (s0 + 1)) (m₀ := m) (news := (L + 1 + 1, oS) :: (L + 1, oR) :: (D, listOf (refsOf rl).toArray e) :: (t.led ++ (rest ++ rl)))
    (fun i m₁ news₁ => ∃ (t' : Tb) (rl' : List (Addr × Obj)), (∀ x : Str, x ≠ "j" → x ≠ "k" → x ≠ "whole" → x ≠ "rest" → m₁ x = m x) ∧ news₁ = (L + 1 + 1, oS) :: (L + 1, oR) :: (D, listOf (refsOf rl').toArray e) :: (t'.led ++ (rest ++ rl')) ∧ t'.Ok g ∧
      Mat n (elim s0 M (bmin P (s0 + 1)) (s0 + 1 + i) (s0 + 1)) rl' ∧ rl'.map (·.1) = rl.map (·.1)) ?hh hR ?small ?size F8 N8 ?hj ?turn ?done
  case hh => exact rfl
  case small => exact small_nat (by omega) (by omega) (by omega) (by omega)
  case size => rw [rangeSize_nat]; omega
  case hj => exact ⟨t, rl, fun _ _ _ _ _ => rfl, rfl, O, by rw [Nat.add_zero, elim_start]; exact hM, rfl⟩
  case turn =>
    clear hR F8 N8
    rintro i ti m₁ news₁ h tk I it hin hnc ⟨t', rl', hmm, rfl, O', hM', hme⟩ hoff F₁ N₁
    have e0 : (s0 : Int) + 1 + (i : Int) * 1 = ((s0 + 1 + i : Nat) : Int) := by omega
    rw [e0] at F₁
    have hrl' := map_all (P := fun a => a ≠ 30 ∧ a ≠ 37) hme hrl
    refine' loop_k (j := s0 + 1 + i) (t := t') (rl := rl') (rest := (I, it) :: rest) (e := e) ⟨_, _, _, _, _, _, _, _, _, _, _, _, _, _, _, _, _, _, _, _, _, _, _, _, _, e1⟩ X T hroom hu g30 g37 l30 l37 C30 C37 hn (by omega) (by omega) dS dR O' hB hM' (apart_it hap hme (fun q hq => hoff q hq)) hrl' F₁ ?m1 ?m2 ?m3 (News.sub N₁ ?sub) ?ret
    case m1 => exact if_pos rfl
    case m2 => exact (if_neg (by decide)).trans ((hmm _ (by decide) (by decide) (by decide) (by decide)).trans hm2)
    case m3 => exact (if_neg (by decide)).trans ((hmm _ (by decide) (by decide) (by decide) (by decide)).trans hm3)
    case sub => intro q hq; (first | (revert q; k_extra "sub") | (refine (fun (h0 : ∀ q0 ∈ _, q0 ∈ _) => h0 _ hq) ?_; k_extra "sub") | (simp only [List.mem_cons, List.mem_append] at hq ⊢; grind))
    case ret =>
      intro h' tk' m' t2 rl2 hm' F' O2 hM2 hme2 N2
      refine turnEnd_next ⟨h', tk', m', _, rfl, F', ?n, ?w, t2, rl2, ?mm, rfl, O2, ?mat, hme2.trans hme⟩
      case n => exact News.sub N2 (by intro q hq; (first | (revert q; k_extra "sub") | (refine (fun (h0 : ∀ q0 ∈ _, q0 ∈ _) => h0 _ hq) ?_; k_extra "sub") | (simp only [List.mem_cons, List.mem_append, List.nil_append, List.cons_append] at hq ⊢; grind)))
      case w => exact off_it O2 hnc (fun q hq => hoff q hq) (hme2.trans rfl) (News.sub N2 (by intro q hq; (first | (revert q; k_extra "sub") | (refine (fun (h0 : ∀ q0 ∈ _, q0 ∈ _) => h0 _ hq) ?_; k_extra "sub") | (simp only [List.mem_cons, List.mem_append] at hq ⊢; grind))))
      case mm => exact fun x h1 h2 h3 h4 => (hm' x h2 h3 h4).trans ((if_neg h1).trans (hmm x h1 h2 h3 h4))
      case mat => exact hM2.congr fun a b ha hb => elim_row M _ (s0 + 1 + i) a b ha hb
  case done =>
    rintro m₁ news₁ h tk ⟨t', rl', hmm, rfl, O', hM', hme⟩ F₁ N₁
    have en : s0 + 1 + (n - (s0 + 1)) = n := by omega
    rw [en] at hM'
    exact ret _ _ _ _ _ hmm F₁ O' hM' hme N₁
end
end Mine
end
section
open PySem PySem.W PySem.Spec PySem.Calls PyProof.Rows PySem.SeqAt
set_option Elab.async false
set_option maxRecDepth 100000
set_option maxHeartbeats 400000
namespace Mine
section
variable {M' : Model} {A : Around} {E : Value → Shared → Prop} {s : Shared} {env : Env}
/-- a statement, then the rest from a word of one's own -/
theorem execs_mid {st : Stmt} {rest : List Stmt} {Q : Flow → Shared → Prop} (MID : Shared → Prop) (h1 : wpAny M' A (exec st env) (fun f s' => match f with | .next => MID s' | f => Q f s') E s)
    (h2 : ∀ s', MID s' → wpAny M' A (execs rest env) Q E s') : wpAny M' A (execs (st :: rest) env) Q E s :=
  wpAny_execs_cons (wpAny_mono h1 (fun f s' h => by cases f <;> first | exact h2 _ h | exact h) fun _ _ e => e)
theorem tests_one {c : Expr} {cenv : Env} {Q : Bool → Shared → Prop} (h : wpAny M' A (isTrue c cenv (eval c cenv)) Q E s) : wpAny M' A (testsOf [c] cenv) Q E s := by
  show wpAny M' A (forIn [c] true _) Q E s
  rw [List.forIn_cons]
  simp only [if_true]
  refine wpAny_bind (wpAny_bind (wpAny_mono h (fun b s' h => ?_) fun _ _ e => e))
  refine wpAny_pure ?_
  show wpAny M' A (forIn [] b _) Q E s'
  rw [List.forIn_nil]
  exact wpAny_pure h
end
section
variable {prog : Program} {w : World} {A : Around} {E : Value → Shared → Prop} {s : Shared} {h₀ : Heap} {L R : Addr} {m : Str → Option Value} {news rl : List (Addr × Obj)} {n e j k : Nat} {M : Nat → Nat → Int} {u : Tok} {value slice : Expr}
theorem mat_rowB {Q : Value → Shared → Prop} (F : Fr h₀ L s.heap m) (hm : h₀.get? R = some (listOf (refsOf rl).toArray e)) (T : Mat n M rl) (hj : j < n) (hn : n ≤ 4) (h : Q (.ref (adr rl j)) s)
    (hs : subscripted slice false (.ref R) (.int (j : Int) u) = operate [.ref R, .int (j : Int) u] (getItem (.ref R) (.int (j : Int) u)) := by with_unfolding_all rfl) :
    wpAny (model prog w) A (subscriptTail value slice (.ref R) (.int (j : Int) u)) Q E s := by
  have il : s.heap.IsList R (refsOf rl).toArray := ⟨_, F.keep _ _ hm, rfl, e, rfl⟩
  refine tail_any il.typeIs slot_list_getitem.lookup (wpAny_getItem_list il (by omega) (by omega) (x := .ref (adr rl j)) ?_ h) hs
  rw [Int.toNat_natCast, List.getElem?_toArray]
  exact refs_get (by rw [T.len]; exact hj)
theorem mat_cellB {Q : Value → Shared → Prop} (F : Fr h₀ L s.heap m) (hr : ∀ q ∈ rl, h₀.get? q.1 = some q.2) (T : Mat n M rl) (hj : j < n) (hk : k < n) (hn : n ≤ 4) (h : ∀ t, Q (.int (M j k) t) s)
    (hs : subscripted slice false (.ref (adr rl j)) (.int (k : Int) u) = operate [.ref (adr rl j), .int (k : Int) u] (getItem (.ref (adr rl j)) (.int (k : Int) u)) := by with_unfolding_all rfl) :
    wpAny (model prog w) A (subscriptTail value slice (.ref (adr rl j)) (.int (k : Int) u)) Q E s := by
  obtain ⟨vs, e, h1, h2⟩ := T.adr_of hj
  have il : s.heap.IsList (adr rl j) vs.toArray := ⟨_, F.keep _ _ (hr _ (List.mem_of_getElem? h1)), rfl, e, rfl⟩
  have hlen : (rowL n (M j)).length = n := by simp
  refine item_anyK il h2 (by omega) (by rw [hlen]; omega) (by omega) (fun t => ?_) hs
  have : (rowL n (M j)).getD ((k : Int)).toNat 0 = M j k := by simp [List.getD_eq_getElem?_getD, hk]
  rw [this]; exact h t
theorem ints_eqnil {Q : Value → Shared → Prop} {a D : Addr} {vs : List Value} {ks : List Int} (N : News h₀ L s.heap news) (ha : (a, listOf vs.toArray e) ∈ news) (hi : IntsAre vs ks) (hm : (D, listOf #[] 0) ∈ news) (hu : A.units + 64 < cLine) (h : Q (.bool (decide (ks = []))) s) : wpAny (model prog w) A (compareOp .Eq (.ref a) (.ref D)) Q E s := by
  have ra := reads_of_ints (News.isList N (n := e) ha) hi
  have rb : Reads s.heap (.ref D) (.list ([] : List PyData)) [D] := by
    have := reads_of_ints (News.isList N (n := 0) hm) (vs := []) (ns := []) .nil
    simpa using this
  refine eq_dataH_same ra rb ?_ (by decide) hu (by cases ks <;> simp [noMix, noMixAll]) ?_
  · have h1 : PyData.depth (.list (ks.map PyData.int)) ≤ 64 := by
      have := PySem.W.depthAll_ints ks
      simp only [PyData.depth]; omega
    show (PyData.canLay0 _ && decide (PyData.depth _ ≤ 64)) = true
    rw [Bool.and_eq_true]
    exact ⟨by simp only [PyData.canLay0]; exact canLayAll0_ints ks, decide_eq_true h1⟩
  · have : PySem.Spec.same (.list (ks.map PyData.int)) (.list []) = decide (ks = []) := by
      cases ks <;> simp [PySem.Spec.same, PySem.Spec.sameAll]
    rw [this]; exact h
theorem ints_eqnil_t {Q : Value → Shared → Prop} {a D : Addr} {vs : List Value} (N : News h₀ L s.heap news) (ha : (a, listOf vs.toArray e) ∈ news) (hi : IntsAre vs []) (hm : (D, listOf #[] 0) ∈ news) (hu : A.units + 64 < cLine) (h : Q (.bool true) s) : wpAny (model prog w) A (compareOp .Eq (.ref a) (.ref D)) Q E s :=
  ints_eqnil N ha hi hm hu h
theorem ints_eqnil_f {Q : Value → Shared → Prop} {a D : Addr} {vs : List Value} {k0 : Int} {ks : List Int} (N : News h₀ L s.heap news) (ha : (a, listOf vs.toArray e) ∈ news) (hi : IntsAre vs (k0 :: ks)) (hm : (D, listOf #[] 0) ∈ news) (hu : A.units + 64 < cLine) (h : Q (.bool false) s) : wpAny (model prog w) A (compareOp .Eq (.ref a) (.ref D)) Q E s :=
  ints_eqnil N ha hi hm hu h
theorem ints_at0 {Q : Value → Shared → Prop} {a : Addr} {vs : List Value} {z k0 : Int} {ks : List Int} (N : News h₀ L s.heap news) (ha : (a, listOf vs.toArray e) ∈ news) (hi : IntsAre vs (k0 :: ks)) (hz : z = 0) (h : ∀ t, Q (.int k0 t) s)
    (hs : subscripted slice false (.ref a) (.int z u) = operate [.ref a, .int z u] (getItem (.ref a) (.int z u)) := by with_unfolding_all rfl) : wpAny (model prog w) A (subscriptTail value slice (.ref a) (.int z u)) Q E s := by
  subst hz
  exact item_anyK (News.isList N (n := e) ha) hi (by omega) (by simp only [List.length_cons]; omega) (by omega) h hs
/-- a word kept shut -/
noncomputable def Hold (P : Prop) : Prop := P
theorem Hold.mk {P : Prop} (h : P) : Hold P := h
/-- a place of a list is set -/
theorem list_set {Q : Unit → Shared → Prop} {pre post : List (Addr × Obj)} {D : Addr} {vs : List Value} {v : Value} (F : Fr h₀ L s.heap m) (N : News h₀ L s.heap (pre ++ (D, listOf vs.toArray e) :: post)) (h1 : ∀ q ∈ pre, q.1 ≠ D) (h2 : ∀ q ∈ post, q.1 ≠ D) (hj : j < vs.length) (hl : vs.length ≤ 1000)
    (h : ∀ h', Fr h₀ L h' m → News h₀ L h' (pre ++ (D, listOf (vs.set j v).toArray e) :: post) → Q () { s with heap := h' }) : wpAny (model prog w) A (setItem (.ref D) (.int (j : Int) u) v) Q E s := by
  have z := N (D, listOf vs.toArray e) (List.mem_append.mpr (.inr (.head _)))
  refine ki_setAt z.1 (by omega) (by omega) (by rw [List.size_toArray]; omega) (h _ (F.change (Heap.SameBut.update ..) z.2.1 z.2.2) (news_set N h1 h2 (Heap.SameBut.update ..) ?_))
  have hu := PySem.IsL.update z.1 (fun a => a.setIfInBounds ((j : Int)).toNat v)
  have e1 : vs.toArray.setIfInBounds ((j : Int)).toNat v = (vs.set j v).toArray := by
    rw [Int.toNat_natCast]; apply Array.toList_inj.mp; simp
  rw [e1, if_pos (by simp)] at hu
  exact hu
/-- a list grows by one -/
theorem list_app {Q : Value → Shared → Prop} {post : List (Addr × Obj)} {D : Addr} {vs : List Value} {v : Value} (F : Fr h₀ L s.heap m) (N : News h₀ L s.heap ((D, listOf vs.toArray e) :: post)) (h2 : ∀ q ∈ post, q.1 ≠ D) (hl : vs.length ≤ 1000)
    (h : ∀ h', Fr h₀ L h' m → News h₀ L h' ((D, listOf (vs ++ [v]).toArray (e + 1)) :: post) → Q .none { s with heap := h' }) : wpAny (model prog w) A (call (.builtin "list.append") [.ref D, v]) Q E s := by
  have z := N (D, listOf vs.toArray e) (.head _)
  refine append_at (hsz := by rw [List.size_toArray, sizeLine_eq]; omega) z.1 fun h' hs ho' => h h' (F.change hs z.2.1 z.2.2) ?_
  rw [List.push_toArray] at ho'
  exact news_set (pre := []) N (fun _ h => nomatch h) h2 hs ho'
theorem news_cons {g h : Heap} {D : Addr} {o : Obj} {l : List (Addr × Obj)} (z : h.get? D = some o ∧ D ≠ L ∧ g.get? D = none) (N : News g L h l) : News g L h ((D, o) :: l) := fun q hq => by
  rcases List.mem_cons.mp hq with rfl | hq
  · exact z
  · exact N q hq
end
end Mine
end
section
open PySem PySem.W PySem.Spec PySem.Calls PyProof.Rows
set_option Elab.async false
set_option maxRecDepth 100000
set_option maxHeartbeats 8000000
namespace Mine
theorem kwK5 : True := by
  k_with_none
  k_with "mem1" => (first | (with_reducible exact List.mem_cons_self) | (with_reducible assumption) | (with_reducible refine List.mem_append_right _ ?_; k_extra "mem1") | (with_reducible refine List.mem_append_left _ ?_; k_extra "mem1") | (with_reducible refine List.mem_cons_of_mem _ ?_; k_extra "mem1"))
  k_with "sub" => (first | (intro _ hq0; k_extra "tl") | (with_reducible exact List.forall_mem_nil _) | ((with_reducible refine List.forall_mem_cons.mpr (And.intro ?_ ?_)); (focus k_extra "mem1"); k_extra "sub") | ((with_reducible refine List.forall_mem_append.mpr (And.intro ?_ ?_)); (focus k_extra "sub"); k_extra "sub"))
  k_with "tl" => (first | (with_reducible assumption) | (with_reducible refine List.mem_append_right _ ?_; k_extra "tl") | (with_reducible refine List.mem_append_left _ ?_; k_extra "tl") | (with_reducible refine List.mem_cons_of_mem _ ?_; k_extra "tl"))
  k_with "my steps" => (repeat' ((fail_if_success (with_reducible show wpAny _ _ (pyIter _) _ _ _)); (fail_if_success (with_reducible show wpAny _ _ (exec (Stmt.For _ _ _ _ _) _) _ _ _)); (fail_if_success (with_reducible show wpAny _ _ (eval (Expr.ListComp _ _ _ _) _) _ _ _)); (first | (k_unfold; (try dsimp only)) | k_extra "own" | walk1 | (dsimp only; (first | k_extra "own" | walk1)) | (leave1; try dsimp only))))
  k_with "own" => ((k_here; (with_reducible show wpAny _ _ (eval (Expr.Name _ _) (compEnvC _ _ _ _)) _ _ _); (with_reducible rename Fr _ _ _ _ => F''); k_dflt (first
  | (refine' base_free F'' (by rfl) (by with_reducible assumption) (by with_reducible assumption) ?_ (by rfl) (by rfl); k_whole)
  | (refine' comp_name F'' (by with_reducible assumption) ?_ (by rfl) (by rfl); k_whole)
  | (refine' base_cell F'' (by rfl) (by with_reducible assumption) (by with_reducible assumption) ?_ (by rfl) (by rfl); k_whole))))
  k_with "own" => ((k_here; (with_reducible show wpAny _ _ (subscriptTail _ _ (Value.ref _) (Value.int _ _)) _ _ _); (with_reducible rename News _ _ _ _ => N''); (with_reducible rename Fr _ _ _ _ => F''); k_dflt (first
  | (refine' mat_cellT N'' (by with_reducible assumption) (by (intro _ _; k_extra "tl")) (by omega) (by omega) (by with_reducible assumption) ?_ (by with_unfolding_all rfl); intro _)
  | (refine' mat_cellB F'' (by assumption) (by with_reducible assumption) (by omega) (by omega) (by with_reducible assumption) ?_ (by with_unfolding_all rfl); intro _)
  | (refine' mat_row N'' (by k_mem) (by with_reducible assumption) (by omega) (by with_reducible assumption) ?_ (by with_unfolding_all rfl))
  | (refine' mat_rowB F'' (by assumption) (by with_reducible assumption) (by omega) (by with_reducible assumption) ?_ (by with_unfolding_all rfl)))))
  k_with "own" => ((k_here; (with_reducible show wpAny _ _ (compareOp CmpOp.Eq (Value.ref _) (Value.ref _)) _ _ _); (with_reducible rename News _ _ _ _ => N''); k_dflt (first | (refine' ints_eqnil_t N'' (by k_mem) (by with_reducible assumption) (by k_mem) (by assumption) ?_) | (refine' ints_eqnil_f N'' (by k_mem) (by with_reducible assumption) (by k_mem) (by assumption) ?_))))
  k_with "own" => ((k_here; (with_reducible show wpAny _ _ (subscriptTail _ _ (Value.ref _) (Value.int _ _)) _ _ _); (with_reducible rename News _ _ _ _ => N''); k_dflt (refine' ints_at0 N'' (by k_mem) (by with_reducible assumption) (by rfl) ?_ (by with_unfolding_all rfl); intro _)))
  k_with "own" => ((k_here; (with_reducible show wpAny _ _ (setItem (Value.ref _) (Value.int _ _) (Value.ref _)) _ _ _); (with_reducible rename Fr _ _ _ _ => F''); (with_reducible rename ∀ q ∈ _, Prod.fst q ≠ _ => hpost''); (with_reducible rename News _ _ _ _ => N''); k_dflt (refine' list_set (pre := [_]) F'' N'' (by (intro _ hq; rw [List.mem_singleton.mp hq]; k_ne)) hpost'' (by (simp only [List.length_map, List.length_set]; omega)) (by (simp only [List.length_map, List.length_set]; omega)) ?_; k_whole); intro _ _ _))
  k_with "own" => ((k_here; (with_reducible show wpAny _ _ (call (Value.builtin _) [Value.ref _, _]) _ _ _); (with_reducible rename Fr _ _ _ _ => F''); (with_reducible rename ∀ q ∈ _, Prod.fst q ≠ _ => hpost''); (with_reducible rename News _ _ _ _ => N''); (with_reducible rename List.length _ ≤ 1000 => hl''); k_dflt (refine' list_app F'' N'' hpost'' hl'' ?_; k_whole); intro _ _ _))
  trivial
section
variable {prog : Program} {w : World} {A : Around} {E : Value → Shared → Prop} {s : Shared} {h₀ : Heap} {L : Addr} {news rl : List (Addr × Obj)} {n j k : Nat} {M : Nat → Nat → Int} {u : Tok} {value slice : Expr}
theorem mat_cellT {Q : Value → Shared → Prop} (N : News h₀ L s.heap news) (T : Mat n M rl) (hr : ∀ q ∈ rl, q ∈ news) (hj : j < n) (hk : k < n) (hn : n ≤ 4) (h : ∀ t, Q (.int (M j k) t) s)
    (hs : subscripted slice false (.ref (adr rl j)) (.int (k : Int) u) = operate [.ref (adr rl j), .int (k : Int) u] (getItem (.ref (adr rl j)) (.int (k : Int) u)) := by with_unfolding_all rfl) :
    wpAny (model prog w) A (subscriptTail value slice (.ref (adr rl j)) (.int (k : Int) u)) Q E s := mat_cell N hr T hj hk hn h hs
end
theorem bne_eq (a : Int) : (a != 0) = decide (a ≠ 0) := by
  by_cases h : a = 0 <;> simp [h]
theorem tok_ex {g h : Heap} {L D : Addr} {x : Int} {u : Tok} {sv : List Value} {e : Nat} {l : List (Addr × Obj)} (N : News g L h ((D, listOf (sv ++ [Value.int x u]).toArray e) :: l)) : ∃ u : Tok, News g L h ((D, listOf (sv ++ [Value.int x u]).toArray e) :: l) := ⟨u, N⟩
theorem chain2 {m : Str → Option Value} {a b : Str} {v1 v2 : Value} (h1 : m a = some v1) (h2 : m b = some v2) :
    (fun y => if y = a then some v1 else if y = b then some v2 else m y) = m := funext fun y => by
  split
  · rename_i h; rw [h, h1]
  · split
    · rename_i h; rw [h, h2]
    · rfl
theorem chain5 {m : Str → Option Value} {a b c d e : Str} {v1 v2 v3 v4 v5 : Value} (h1 : m a = some v1) (h2 : m b = some v2) (h3 : m c = some v3) (h4 : m d = some v4) (h5 : m e = some v5) :
    (fun y => if y = a then some v1 else if y = b then some v2 else if y = c then some v3 else if y = d then some v4 else if y = e then some v5 else m y) = m := funext fun y => by
  split
  · rename_i h; rw [h, h1]
  · split
    · rename_i h; rw [h, h2]
    · split
      · rename_i h; rw [h, h3]
      · split
        · rename_i h; rw [h, h4]
        · split
          · rename_i h; rw [h, h5]
          · rfl
theorem chainG {m : Str → Option Value} {z a b c d e : Str} {v : Option Value} {v1 v2 v3 v4 v5 : Value} (h1 : m a = some v1) (h2 : m b = some v2) (h3 : m c = some v3) (h4 : m d = some v4) (h5 : m e = some v5) :
    (fun y => if y = z then v else if y = a then some v1 else if y = b then some v2 else if y = c then some v3 else if y = d then some v4 else if y = e then some v5 else m y) = fun y => if y = z then v else m y := funext fun y => by
  split
  · rfl
  · exact congrFun (chain5 h1 h2 h3 h4 h5) y
section
variable {prog : Program} {w : World} {s : Shared} {g : Heap} {mg mb : Str → Option Value} {p : Program} {loose : List Str} {mean : ExcName → Option Value} {dp un : Nat} {fr : Option (List Env)} {gd : Option (List Code)}
  {Q : Flow → Shared → Prop}
theorem turn_o {qual : Str} {sc : Scope} {cdv : Value} {bodyO : List Stmt} (h73 : Taken73 w qual sc cdv bodyO) (X : (hd.heap_1 w.params).In g) (T : Top p loose mean mg mb g) (hroom : dp + 110 < recursionLimit) (hu : un + 70 < cLine)
   (g30 : g.get? 30 = none) (g37 : g.get? 37 = none) {L : Addr} (l30 : (30 : Addr) ≠ L) (l37 : (37 : Addr) ≠ L) (C30 : CodeHd g 34 30) (C37 : CodeHd g 41 37)
   {n i : Nat} (hn : n ≤ 4) (hi : i < n) {D SL : Addr} {oS oR : Obj} {ti tm ta ts : Tok} (dS : oS.data = .cell (some (.int (i : Int) ti))) (dR : oR.data = .cell (some (.ref D)))
   {t : Tb} (O : t.Ok g) {rl rest : List (Addr × Obj)} {e1 e : Nat} {M0 M P : Nat → Nat → Int} {sg ah : Int} {ch : Bool} {tt : Nat} (hB : Bar n i M0 M P sg ah ch tt) (hM : Mat n M rl) {sv : List Value} (hSV : IntsAre sv ((List.range tt).map fun i => dtL (i + 1) M0))
   (hap : ∀ q ∈ (L + 1 + 1, oS) :: (L + 1, oR) :: (D, listOf (refsOf rl).toArray e) :: (SL, listOf sv.toArray e1) :: rest, q.1 ≠ 30 ∧ q.1 ≠ 37 ∧ ∀ y ∈ rl, q.1 ≠ y.1) (hrl : ∀ q ∈ rl, q.1 ≠ 30 ∧ q.1 ≠ 37)
   (hD : ∀ q ∈ (L + 1 + 1, oS) :: (L + 1, oR) :: (SL, listOf sv.toArray e1) :: rest, q.1 ≠ D) (hSL : ∀ q ∈ (L + 1 + 1, oS) :: (L + 1, oR) :: rest, q.1 ≠ SL)
   {m : Str → Option Value} (F : Fr g L s.heap m) (hm1 : m "sign" = some (.int sg ts)) (hm2 : m "ahead" = some (.int ah ta)) (hm3 : m "slant" = some (.ref SL)) (hm4 : m "changed" = some (.bool ch)) (hm5 : m "many" = some (.int (n : Int) tm))
   (N : News g L s.heap ((L + 1 + 1, oS) :: (L + 1, oR) :: (D, listOf (refsOf rl).toArray e) :: (SL, listOf sv.toArray e1) :: (t.led ++ (rest ++ rl))))
   (retN : ∀ h' tk m' t' rl' sg' ts' ah' ta' ch' tt' sv' e1' M' P', Fr g L h' m' → m' "sign" = some (.int sg' ts') → m' "ahead" = some (.int ah' ta') → m' "slant" = some (.ref SL) → m' "changed" = some (.bool ch') → m' "many" = some (.int (n : Int) tm) → Tb.Ok t' g → Mat n M' rl' → (∀ y ∈ rl', ∃ z ∈ rl, z.1 = y.1) →
     Bar n (i + 1) M0 M' P' sg' ah' ch' tt' → IntsAre sv' ((List.range tt').map fun i => dtL (i + 1) M0) →
     News g L h' ((L + 1 + 1, oS) :: (L + 1, oR) :: (D, listOf (refsOf rl').toArray e) :: (SL, listOf sv'.toArray e1') :: (t'.led ++ (rest ++ rl'))) → Q .next { s with heap := h', toks := tk })
   (ret0 : ∀ h' tk m' D2 tz, dtL n M0 = 0 → Fr g L h' m' → News g L h' ((D2, { cls := .type "tuple", data := .seq #[.int 0 tz, .ref SL] }) :: (SL, listOf sv.toArray e1) :: t.led) → Q (.ret (.ref D2)) { s with heap := h', toks := tk }) :
   wpAny (model prog w) ((AA dp un fr gd).deeper (envOfC qual sc L 73 cdv)) (execs bodyO (envOfC qual sc L 73 cdv)) Q (fun _ _ => False) s := by
  obtain ⟨oc, od, osl, name, ps, s1, s2, tgt, it, pos, sR, dV, kV, doc, pm, an, ct, h1⟩ := h73
  have h2 := h1.symm.trans (show (hd.heap_1 w.params).lookup 73 = _ by k_is)
  cases h2
  rw [map_chain hm1] at F
  rw [map_chain hm2] at F
  rw [map_chain hm3] at F
  rw [map_chain hm4] at F
  rw [map_chain hm5] at F
  dsimp only at F
  simp only [List.cons_append, List.nil_append] at N
  refine' execs_mid (fun s' => ∃ (h : Heap) (tk : Nat) (Dg : Addr) (ys : List Value) (eg : Nat) (m' : Str → Option Value), s' = { s with heap := h, toks := tk } ∧ Fr g L h (fun y => if y = "good" then some (.ref Dg) else m' y) ∧ (∀ x : Str, x ≠ "good" → m' x = m x) ∧
    News g L h ((Dg, listOf ys.toArray eg) :: (L + 1 + 1, oS) :: (L + 1, oR) :: (D, listOf (refsOf rl).toArray e) :: (SL, listOf sv.toArray e1) :: (t.led ++ (rest ++ rl))) ∧
    IntsAre ys (((List.range (n - i)).filter (fun a => decide (M (i + a) i ≠ 0))).map fun a => (((i + a : Nat) : Int))) ∧ (∀ q ∈ (L + 1 + 1, oS) :: (L + 1, oR) :: (D, listOf (refsOf rl).toArray e) :: (SL, listOf sv.toArray e1) :: (t.led ++ (rest ++ rl)), q.1 ≠ Dg)) ?_ ?_
  · refine' comp_localA (x := "k") ?hsw ?hclos2 ?hcell2 ?hkind2 ?hnames2 ?hx2 ?hy ?hp ?_
    case hsw => with_unfolding_all rfl
    case hy => with_unfolding_all rfl
    case hp => with_unfolding_all rfl
    case hclos2 => with_unfolding_all rfl
    case hcell2 => decide
    case hkind2 => rfl
    case hnames2 => decide
    case hx2 => rfl
    walk_at "my steps"
    (rename IsRange _ _ _ _ _ _ _ _ => hR); (rename Fr _ _ _ _ => F8); (rename News _ _ _ _ => N8)
    rw [chain5 hm1 hm2 hm3 hm4 hm5] at F8
    refine src_rangeN (n := n - i) F8.ns rfl hR ?small ?size (Nat.le_trans (Nat.sub_le _ _) (Nat.le_trans hn (by decide))) ?_
    case small => exact small_nat (by omega) (by omega) (by omega) (by omega)
    case size => rw [rangeSize_nat]; omega
    refine ⟨fun a => decide (M (i + a) i ≠ 0), fun a y _ => ∃ t, y = .int (((i + a : Nat) : Int)) t, fun _ _ _ _ h _ => h, ?tst, ?elt, ?done⟩
    case tst =>
      rintro g3 C2 j v h3 tk3 m3 cled3 led3 hg3 - hj ⟨tv, rfl⟩ hv hcl3 F4 N4
      have hc3 : cled3 = [] := List.map_eq_nil_iff.mp hcl3
      subst hc3
      have e0 : (i : Int) + (j : Int) * 1 = ((i + j : Nat) : Int) := by omega
      rw [e0] at hv
      have hcell3 : g3.get? (L + 1 + 1) = some oS := hg3 _ _ (N8 (L + 1 + 1, oS) (by k_mem)).1
      have hcell4 : g3.get? (L + 1) = some oR := hg3 _ _ (N8 (L + 1, oR) (by k_mem)).1
      have hcell5 : g3.get? D = some (listOf (refsOf rl).toArray e) := hg3 _ _ (N8 (D, _) (by k_mem)).1
      have hcell6 : ∀ q ∈ rl, g3.get? q.1 = some q.2 := fun q hq => hg3 _ _ (N8 q (by repeat' first | exact hq | apply List.mem_append_right | apply List.mem_cons_of_mem)).1
      simp only [List.nil_append] at N4
      clear hg3 hcl3 N8 F8 hR
      refine' tests_one ?_
      walk_at "my steps"
      · rw [bne_eq]
      · exact ⟨_, _, [], rfl, by assumption, by assumption, (fun _ h => nomatch h), trivial⟩
    case elt =>
      rintro g3 C2 j v h3 tk3 m3 cled3 led3 hg3 - hj ⟨tv, rfl⟩ hp hv hcl3 F4 N4
      have hc3 : cled3 = [] := List.map_eq_nil_iff.mp hcl3
      subst hc3
      have e0 : (i : Int) + (j : Int) * 1 = ((i + j : Nat) : Int) := by omega
      rw [e0] at hv
      simp only [List.nil_append] at N4
      clear hg3 hcl3 N8 F8 hR
      walk_at "my steps"
      exact ⟨_, _, [], rfl, by assumption, by assumption, (fun _ h => nomatch h), _, rfl⟩
    case done =>
      intro D' h' tk' ys made eg hk hDf hD' hP hm' hyn
      have hI := ints_paired hP
      have F2 := back_fr F8 (tabs := []) (fun b o _ e => hk b o e) (fun b hb => nomatch hb) (fun hb => nomatch hb)
      have N2 := back_new F8 (back_old N8 (tabs := []) (fun b o _ e => hk b o e) (fun q _ hb => nomatch hb)) hDf hD'
      have hne : ∀ q ∈ (L + 1 + 1, oS) :: (L + 1, oR) :: (D, listOf (refsOf rl).toArray e) :: (SL, listOf sv.toArray e1) :: (t.led ++ (rest ++ rl)), q.1 ≠ D' := fun q hq eq => by
        have := (N8 q hq).1
        rw [eq, hDf] at this; cases this
      clear hk hP hm' hD' hDf N8 F8 hyn
      intro h'' hs'' hn''
      refine ⟨h'', tk', D', ys, eg, m, rfl, F2.set (hn'' _ F2.ns) hs'', fun _ _ => rfl, N2.set hs'', hI, hne⟩
  · rintro s' ⟨h, tk, Dg, ys, eg, m', rfl, F1, hmm, N1, hI, hDg⟩
    have hu' : un + 3 + 64 < cLine := by omega
    have k1 := (hmm "sign" (by decide)).trans hm1
    have k2 := (hmm "ahead" (by decide)).trans hm2
    have k3 := (hmm "slant" (by decide)).trans hm3
    have k4 := (hmm "changed" (by decide)).trans hm4
    have k5 := (hmm "many" (by decide)).trans hm5
    clear F N
    cases hks : (List.range (n - i)).filter (fun a => decide (M (i + a) i ≠ 0)) with
    | nil =>
      rw [hks] at hI
      have hd0 : dtL n M0 = 0 := hB.none hn hi fun j hj hjn => by
        refine Classical.byContradiction fun hne => ?_
        have : j - i ∈ (List.range (n - i)).filter (fun a => decide (M (i + a) i ≠ 0)) := List.mem_filter.mpr ⟨List.mem_range.mpr (by omega), by
          rw [show i + (j - i) = j by omega]; exact decide_eq_true hne⟩
        rw [hks] at this; cases this
      rw [List.map_nil] at hI
      rw [map_chain k1] at F1
      rw [map_chain k3] at F1
      dsimp only at F1
      simp only [List.cons_append, List.nil_append] at N1
      walk_at "my steps"
      (rename Fr _ _ _ _ => F6); (rename News _ _ _ _ => N6)
      have z := N6 (_, _) (.head _)
      exact ret0 _ _ _ _ _ hd0 F6 (news_cons z (fun q hq => N6 q (by
        (first | (revert q; k_extra "sub") | (refine (fun (h0 : ∀ q0 ∈ _, q0 ∈ _) => h0 _ hq) ?_; k_extra "sub") | (simp only [List.mem_cons, List.mem_append, List.not_mem_nil, or_false] at hq ⊢; grind)))))
    | cons k0 kr =>
      rw [hks, List.map_cons] at hI
      have hk0 : k0 ∈ (List.range (n - i)).filter (fun a => decide (M (i + a) i ≠ 0)) := by rw [hks]; exact .head _
      obtain ⟨hk1, hk2⟩ := List.mem_filter.mp hk0
      have hk1 : k0 < n - i := List.mem_range.mp hk1
      have hk2 : M (i + k0) i ≠ 0 := of_decide_eq_true hk2
      clear hks hk0
      rw [map_chain k1] at F1
      rw [map_chain k2] at F1
      rw [map_chain k3] at F1
      rw [map_chain k4] at F1
      rw [map_chain k5] at F1
      dsimp only at F1
      simp only [List.cons_append, List.nil_append] at N1
      refine' execs_mid (fun s' => ∃ (h : Heap) (tk : Nat), s' = { s with heap := h, toks := tk } ∧ Fr g L h (fun y => if y = "good" then some (.ref Dg) else m' y) ∧
        News g L h ((D, listOf (refsOf rl).toArray e) :: (Dg, listOf ys.toArray eg) :: (L + 1 + 1, oS) :: (L + 1, oR) :: (SL, listOf sv.toArray e1) :: (t.led ++ (rest ++ rl)))) ?_ ?_
      · walk_at "my steps"
        · (rename Fr _ _ _ _ => F6)
          rw [chainG k1 k2 k3 k4 k5] at F6
          exact F6
        · (rename News _ _ _ _ => N6)
          exact News.sub N6 (fun q hq => by
            (first | (revert q; k_extra "sub") | (refine (fun (h0 : ∀ q0 ∈ _, q0 ∈ _) => h0 _ hq) ?_; k_extra "sub") | (simp only [List.mem_cons, List.mem_append] at hq ⊢; grind)))
      · clear F1 N1
        rintro s' ⟨h2, tk2, rfl, F1, N1⟩
        have hpost : ∀ q ∈ (Dg, listOf ys.toArray eg) :: (L + 1 + 1, oS) :: (L + 1, oR) :: (SL, listOf sv.toArray e1) :: (30, tabObj t.p1) :: (37, tabObj t.p2) :: (t.e1, t.o1) :: (t.e2, t.o2) :: (rest ++ rl), q.1 ≠ D := by
          have hDm := (N1 (D, listOf (refsOf rl).toArray e) (.head _)).1
          have hDa := hap (D, listOf (refsOf rl).toArray e) (.tail _ (.tail _ (.head _)))
          intro q hq
          rcases List.mem_cons.mp hq with rfl | hq
          · exact (hDg (D, listOf (refsOf rl).toArray e) (.tail _ (.tail _ (.head _)))).symm
          rcases List.mem_cons.mp hq with rfl | hq
          · exact hD _ (.head _)
          rcases List.mem_cons.mp hq with rfl | hq
          · exact hD _ (.tail _ (.head _))
          rcases List.mem_cons.mp hq with rfl | hq
          · exact hD _ (.tail _ (.tail _ (.head _)))
          rcases List.mem_cons.mp hq with rfl | hq
          · exact hDa.1.symm
          rcases List.mem_cons.mp hq with rfl | hq
          · exact hDa.2.1.symm
          rcases List.mem_cons.mp hq with rfl | hq
          · exact O.a.ne (N1 (t.e1, t.o1) (by k_mem)).1 hDm (noCode_list _ _) hDa.1
          rcases List.mem_cons.mp hq with rfl | hq
          · exact O.b.ne (N1 (t.e2, t.o2) (by k_mem)).1 hDm (noCode_list _ _) hDa.2.1
          rcases List.mem_append.mp hq with hq | hq
          · exact hD q (.tail _ (.tail _ (.tail _ hq)))
          · exact (hDa.2.2 q hq).symm
        rw [map_chain k1] at F1
        rw [map_chain k2] at F1
        rw [map_chain k3] at F1
        rw [map_chain k4] at F1
        rw [map_chain k5] at F1
        dsimp only at F1
        simp only [List.cons_append, List.nil_append] at N1
        have hlen0 : rl.length = n := hM.len
        refine' execs_mid (fun s' => Hold <| ∃ (h : Heap) (tk : Nat) (m2 : Str → Option Value) (rl' : List (Addr × Obj)) (M' P' : Nat → Nat → Int) (sg' : Int) (tsg : Tok) (ch' : Bool), s' = { s with heap := h, toks := tk } ∧ Fr g L h m2 ∧
          m2 "sign" = some (.int sg' tsg) ∧ m2 "ahead" = some (.int ah ta) ∧ m2 "slant" = some (.ref SL) ∧ m2 "changed" = some (.bool ch') ∧ m2 "many" = some (.int (n : Int) tm) ∧ Mat n M' rl' ∧ (∀ q, q ∈ rl' ↔ q ∈ rl) ∧ Bar n i M0 M' P' sg' ah ch' tt ∧ M' i i ≠ 0 ∧
          News g L h ((L + 1 + 1, oS) :: (L + 1, oR) :: (D, listOf (refsOf rl').toArray e) :: (SL, listOf sv.toArray e1) :: (t.led ++ (rest ++ rl')))) ?_ ?_
        · walk_at "my steps"
          · (rename Fr _ _ _ _ => F6); (rename News _ _ _ _ => N6); (rename _ ≠ (i : Int) => hne)
            have hne' : ((i + k0 : Nat) : Int) ≠ i := hne
            have hsw := hM.swap (s := i) (g := i + k0) hi (by omega) (by omega)
            obtain ⟨rl', hM', hlen', hmem, href⟩ := hsw
            show Hold _
            refine' Hold.mk ⟨_, _, _, rl', swp M i (i + k0), swp P i (i + k0), 0 - sg, _, true, rfl, F6, rfl, rfl, rfl, rfl, rfl, hM', hmem, hB.swap hn (by omega) (by omega), ?_, ?_⟩
            · show M (if i = i then i + k0 else _) i ≠ 0
              rw [if_pos rfl]; exact hk2
            · rw [href]
              intro q hq
              exact N6 q (by
                have := hmem q
                (first | (revert q; k_extra "sub") | (refine (fun (h0 : ∀ q0 ∈ _, q0 ∈ _) => h0 _ hq) ?_; k_extra "sub") | (simp only [List.mem_cons, List.mem_append, List.cons_append, List.nil_append] at hq ⊢; grind)))
          · (rename Fr _ _ _ _ => F1); (rename News _ _ _ _ => N1); (rename _ = (i : Int) => heq)
            have heq' : ((i + k0 : Nat) : Int) = i := heq
            have hk00 : k0 = 0 := by omega
            subst hk00
            show Hold _
            refine' Hold.mk ⟨_, _, _, rl, M, P, sg, _, ch, rfl, F1, rfl, rfl, rfl, rfl, rfl, hM, fun _ => Iff.rfl, hB, hk2, ?_⟩
            intro q hq
            exact N1 q (by
              (first | (revert q; k_extra "sub") | (refine (fun (h0 : ∀ q0 ∈ _, q0 ∈ _) => h0 _ hq) ?_; k_extra "sub") | (simp only [List.mem_cons, List.mem_append, List.cons_append, List.nil_append] at hq ⊢; grind)))
        · clear F1 N1 hpost hI hDg hmm k1 k2 k3 k4 k5
          rintro s' ⟨h3, tk3, m3, rl', M', P', sg', tsg, ch', rfl, F1, k1, k2, k3, k4, k5, hM', hmem, hB', hp, N1⟩
          have pv := hB'.cell_bd hn (Nat.le_refl i) (Nat.le_refl i) hi hi
          obtain ⟨pv1, pv2⟩ := pv
          have hpost : ∀ q ∈ (L + 1 + 1, oS) :: (L + 1, oR) :: (D, listOf (refsOf rl').toArray e) :: (30, tabObj t.p1) :: (37, tabObj t.p2) :: (t.e1, t.o1) :: (t.e2, t.o2) :: (rest ++ rl'), q.1 ≠ SL := by
            have hSm := (N1 (SL, listOf sv.toArray e1) (.tail _ (.tail _ (.tail _ (.head _))))).1
            have hSa := hap (SL, listOf sv.toArray e1) (.tail _ (.tail _ (.tail _ (.head _))))
            intro q hq
            rcases List.mem_cons.mp hq with rfl | hq
            · exact hSL _ (.head _)
            rcases List.mem_cons.mp hq with rfl | hq
            · exact hSL _ (.tail _ (.head _))
            rcases List.mem_cons.mp hq with rfl | hq
            · exact (hD _ (.tail _ (.tail _ (.head _)))).symm
            rcases List.mem_cons.mp hq with rfl | hq
            · exact hSa.1.symm
            rcases List.mem_cons.mp hq with rfl | hq
            · exact hSa.2.1.symm
            rcases List.mem_cons.mp hq with rfl | hq
            · exact O.a.ne (N1 (t.e1, t.o1) (by simp)).1 hSm (noCode_list _ _) hSa.1
            rcases List.mem_cons.mp hq with rfl | hq
            · exact O.b.ne (N1 (t.e2, t.o2) (by simp)).1 hSm (noCode_list _ _) hSa.2.1
            rcases List.mem_append.mp hq with hq | hq
            · exact hSL q (.tail _ (.tail _ hq))
            · exact (hSa.2.2 q ((hmem q).mp hq)).symm
          refine' execs_mid (fun s' => Hold <| ∃ (h : Heap) (tk : Nat) (sv' : List Value) (e1' tt' : Nat), s' = { s with heap := h, toks := tk } ∧ Fr g L h m3 ∧ IntsAre sv' ((List.range tt').map fun i => dtL (i + 1) M0) ∧ (tt' = if ch' then tt else tt + 1) ∧
            News g L h ((L + 1 + 1, oS) :: (L + 1, oR) :: (D, listOf (refsOf rl').toArray e) :: (SL, listOf sv'.toArray e1') :: (t.led ++ (rest ++ rl')))) ?_ ?_
          · have N2 : News g L h3 ((SL, listOf sv.toArray e1) :: (L + 1 + 1, oS) :: (L + 1, oR) :: (D, listOf (refsOf rl').toArray e) :: (30, tabObj t.p1) :: (37, tabObj t.p2) :: (t.e1, t.o1) :: (t.e2, t.o2) :: (rest ++ rl')) := fun q hq => N1 q (by
              (first | (revert q; k_extra "sub") | (refine (fun (h0 : ∀ q0 ∈ _, q0 ∈ _) => h0 _ hq) ?_; k_extra "sub") | (simp only [List.mem_cons, List.mem_append] at hq ⊢; grind)))
            clear N1
            have F0 := F1
            rw [map_chain k3] at F1
            rw [map_chain k4] at F1
            dsimp only at F1
            have hl0 : sv.length ≤ 1000 := by
              have h1 := hSV.length
              have h2 := hB'.le
              simp at h1; omega
            cases ch' with
            | true =>
              walk_at "my steps"
              show Hold _
              refine' Hold.mk ⟨_, _, sv, e1, tt, rfl, F0, hSV, rfl, ?_⟩
              intro q hq
              exact N2 q (by (first | (revert q; k_extra "sub") | (refine (fun (h0 : ∀ q0 ∈ _, q0 ∈ _) => h0 _ hq) ?_; k_extra "sub") | (simp only [List.mem_cons, List.mem_append] at hq ⊢; grind)))
            | false =>
              walk_at "my steps"
              show Hold _
              (rename Fr _ _ _ _ => F6); (rename News _ _ _ _ => N6)
              have hpt := hB'.pivot hn hi
              obtain ⟨ht1, ht2⟩ := hpt
              subst ht1
              rw [chain2 k3 k4] at F6
              rw [ht2] at N6
              have hex := tok_ex N6
              obtain ⟨uu, N6⟩ := hex
              refine' Hold.mk ⟨_, _, sv ++ [.int (dtL (tt + 1) M0) uu], e1 + 1, tt + 1, rfl, F6, ?_, rfl, ?_⟩
              case refine'_2 =>
                intro q hq
                exact N6 q (by (first | (revert q; k_extra "sub") | (refine (fun (h0 : ∀ q0 ∈ _, q0 ∈ _) => h0 _ hq) ?_; k_extra "sub") | (simp only [List.mem_cons, List.mem_append] at hq ⊢; grind)))
              case refine'_1 =>
                rw [List.range_succ, List.map_append]
                exact hSV.append (.cons _ _ .nil)
          · rintro s' ⟨h4, tk4, sv', e1', tt', rfl, F4, hSV', htt, N4⟩
            have hrl' : ∀ q ∈ rl', q.1 ≠ 30 ∧ q.1 ≠ 37 := fun q hq => hrl q ((hmem q).mp hq)
            have hap' : ∀ q ∈ (L + 1 + 1, oS) :: (L + 1, oR) :: (D, listOf (refsOf rl').toArray e) :: (SL, listOf sv'.toArray e1') :: rest, q.1 ≠ 30 ∧ q.1 ≠ 37 ∧ ∀ y ∈ rl', q.1 ≠ y.1 := by
              have up : ∀ q : Addr × Obj, (∀ y ∈ rl, q.1 ≠ y.1) → ∀ y ∈ rl', q.1 ≠ y.1 := fun q h y hy => h y ((hmem y).mp hy)
              intro q hq
              rcases List.mem_cons.mp hq with rfl | hq
              · have := hap _ (.head _); exact ⟨this.1, this.2.1, up _ this.2.2⟩
              rcases List.mem_cons.mp hq with rfl | hq
              · have := hap _ (.tail _ (.head _)); exact ⟨this.1, this.2.1, up _ this.2.2⟩
              rcases List.mem_cons.mp hq with rfl | hq
              · have := hap _ (.tail _ (.tail _ (.head _))); exact ⟨this.1, this.2.1, up _ this.2.2⟩
              rcases List.mem_cons.mp hq with rfl | hq
              · have := hap _ (.tail _ (.tail _ (.tail _ (.head _)))); exact ⟨this.1, this.2.1, up _ this.2.2⟩
              · have := hap q (.tail _ (.tail _ (.tail _ (.tail _ hq)))); exact ⟨this.1, this.2.1, up _ this.2.2⟩
            refine' execs_mid (fun s' => Hold <| ∃ (h : Heap) (tk : Nat) (m5 : Str → Option Value) (t5 : Tb) (rl5 : List (Addr × Obj)), s' = { s with heap := h, toks := tk } ∧ (∀ x : Str, x ≠ "j" → x ≠ "k" → x ≠ "whole" → x ≠ "rest" → m5 x = m3 x) ∧ Fr g L h m5 ∧ t5.Ok g ∧ Mat n (elim i M' (bmin P' (i + 1)) n (i + 1)) rl5 ∧ rl5.map (·.1) = rl'.map (·.1) ∧
              News g L h ((L + 1 + 1, oS) :: (L + 1, oR) :: (D, listOf (refsOf rl5).toArray e) :: (SL, listOf sv'.toArray e1') :: (t5.led ++ (rest ++ rl5)))) ?_ ?_
            · refine' loop_j (rest := (SL, listOf sv'.toArray e1') :: rest) ⟨_, _, _, _, _, _, _, _, _, _, _, _, _, _, _, _, _, _, _, _, _, _, h1⟩ X T hroom hu g30 g37 l30 l37 C30 C37 hn hi dS dR O hB' hM' hap' hrl' F4 k5 k2 ?N ?ret
              case N => exact fun q hq => N4 q (by (first | (revert q; k_extra "sub") | (refine (fun (h0 : ∀ q0 ∈ _, q0 ∈ _) => h0 _ hq) ?_; k_extra "sub") | (simp only [List.mem_cons, List.mem_append] at hq ⊢; grind)))
              case ret =>
                intro h5 tk5 m5 t5 rl5 hm5' F5 O5 hM5 hme5 N5
                exact Hold.mk ⟨h5, tk5, m5, t5, rl5, rfl, hm5', F5, O5, hM5, hme5, fun q hq => N5 q (by (first | (revert q; k_extra "sub") | (refine (fun (h0 : ∀ q0 ∈ _, q0 ∈ _) => h0 _ hq) ?_; k_extra "sub") | (simp only [List.mem_cons, List.mem_append] at hq ⊢; grind)))⟩
            · clear F4 N4
              rintro s' ⟨h5, tk5, m5, t5, rl5, rfl, hm5', F5, O5, hM5, hme5, N5⟩
              simp only [List.cons_append, List.nil_append] at N5
              walk_at "my steps"
              (rename Fr _ _ _ _ => F6); (rename News _ _ _ _ => N6)
              rw [elim_at_s i M' _ n (i + 1) i i (.inl (Nat.le_refl _))] at F6
              have q1 := (hm5' "sign" (by decide) (by decide) (by decide) (by decide)).trans k1
              have q3 := (hm5' "slant" (by decide) (by decide) (by decide) (by decide)).trans k3
              have q4 := (hm5' "changed" (by decide) (by decide) (by decide) (by decide)).trans k4
              have q5 := (hm5' "many" (by decide) (by decide) (by decide) (by decide)).trans k5
              refine' retN _ _ _ t5 rl5 sg' tsg (M' i i) _ ch' tt' sv' e1' _ P' F6 ((if_neg (by decide)).trans q1) (if_pos rfl) ((if_neg (by decide)).trans q3) ((if_neg (by decide)).trans q4) ((if_neg (by decide)).trans q5) O5 hM5 ?hz (hB'.step hn hi hp htt) hSV' ?hN
              case hz =>
                have hz1 : ∀ y ∈ rl', ∃ z ∈ rl, z.1 = y.1 := fun y hy => ⟨y, (hmem y).mp hy, rfl⟩
                exact map_all (P := fun a => ∃ z ∈ rl, z.1 = a) hme5 hz1
              case hN => exact fun q hq => N6 q (by (first | (revert q; k_extra "sub") | (refine (fun (h0 : ∀ q0 ∈ _, q0 ∈ _) => h0 _ hq) ?_; k_extra "sub") | (simp only [List.mem_cons, List.mem_append] at hq ⊢; grind)))
end
end Mine
end
section
open PySem PySem.W PySem.Spec PySem.Calls PyProof.Rows
set_option Elab.async false
set_option maxRecDepth 100000
set_option maxHeartbeats 8000000
namespace Mine
theorem mem_e3_T8 {x a0 a1 a2 : Addr × Obj} (h : x ∈ [a0, a1, a2]) : x = a0 ∨ x = a1 ∨ x = a2 := by simpa using h
theorem mem_e4_T8 {x a0 a1 a2 a3 : Addr × Obj} (h : x ∈ [a0, a1, a2, a3]) : x = a0 ∨ x = a1 ∨ x = a2 ∨ x = a3 := by simpa using h
theorem mem_e5_T8 {x a0 a1 a2 a3 a4 : Addr × Obj} (h : x ∈ [a0, a1, a2, a3, a4]) : x = a0 ∨ x = a1 ∨ x = a2 ∨ x = a3 ∨ x = a4 := by simpa using h
theorem mem_t2_T8 {x a0 a1 : Addr × Obj} {l : List (Addr × Obj)} (h : x ∈ a0 :: a1 :: l) : x = a0 ∨ x = a1 ∨ x ∈ l := by simpa using h
theorem kwT8 : True := by
  k_with_none
  k_with "mem1" => (first | (with_reducible exact List.mem_cons_self) | (with_reducible assumption) | (with_reducible refine List.mem_append_right _ ?_; k_extra "mem1") | (with_reducible refine List.mem_append_left _ ?_; k_extra "mem1") | (with_reducible refine List.mem_cons_of_mem _ ?_; k_extra "mem1"))
  k_with "sub" => (first | (intro _ hq0; k_extra "tl") | (with_reducible exact List.forall_mem_nil _) | ((with_reducible refine List.forall_mem_cons.mpr (And.intro ?_ ?_)); (focus k_extra "mem1"); k_extra "sub") | ((with_reducible refine List.forall_mem_append.mpr (And.intro ?_ ?_)); (focus k_extra "sub"); k_extra "sub"))
  k_with "tl" => (first | (with_reducible assumption) | (with_reducible refine List.mem_append_right _ ?_; k_extra "tl") | (with_reducible refine List.mem_append_left _ ?_; k_extra "tl") | (with_reducible refine List.mem_cons_of_mem _ ?_; k_extra "tl"))
  k_with "my steps" => (repeat' ((fail_if_success (with_reducible show wpAny _ _ (pyIter _) _ _ _)); (fail_if_success (with_reducible show wpAny _ _ (exec (Stmt.For _ _ _ _ _) _) _ _ _)); (fail_if_success (with_reducible show wpAny _ _ (eval (Expr.ListComp _ _ _ _) _) _ _ _)); (first | (k_unfold; (try dsimp only)) | k_extra "own" | walk1 | (dsimp only; (first | k_extra "own" | walk1)) | (leave1; try dsimp only))))
  k_with "my step" => ((first | (k_unfold; (try dsimp only)) | k_extra "own" | walk1 | (dsimp only; (first | k_extra "own" | walk1)) | (leave1; try dsimp only)))
  k_with "own" => ((k_here; (with_reducible show wpAny _ _ (call (Value.builtin "len") [Value.ref _]) _ _ _); (with_reducible rename News _ _ _ _ => N''); k_dflt (refine' mat_len N'' (by k_mem) (by with_reducible assumption) (by with_reducible assumption) ?_; k_whole); intro _ _))
  k_with "own" => ((k_here; (with_reducible show wpAny _ _ (eval (Expr.Name _ _) (compEnvC _ _ _ _)) _ _ _); (with_reducible rename Fr _ _ _ _ => F''); k_dflt (first
  | (refine' base_free F'' (by rfl) (by with_reducible assumption) (by with_reducible assumption) ?_ (by rfl) (by rfl); k_whole)
  | (refine' comp_name F'' (by with_reducible assumption) ?_ (by rfl) (by rfl); k_whole)
  | (refine' base_cell F'' (by rfl) (by with_reducible assumption) (by with_reducible assumption) ?_ (by rfl) (by rfl); k_whole))))
  trivial
theorem IsTab.keepsL {h h' : Heap} {a : Addr} {Ms : List (List Int)} (x : IsTab h a Ms) (hk : ∀ b (vs : List Value) c, h.get? b = some (listOf vs.toArray c) → h'.get? b = some (listOf vs.toArray c)) : IsTab h' a Ms := by
  obtain ⟨ys, c, e, i⟩ := x
  refine ⟨ys, c, hk _ _ _ e, PySem.Paired.mono (fun _ _ h => ?_) i⟩
  obtain ⟨r, e, vs, c, e2, i⟩ := h
  exact ⟨r, e, vs, c, hk _ _ _ e2, i⟩
theorem tup_ne {g h : Heap} {L D P : Addr} {ps its : Array Value} {l : List (Addr × Obj)} (N : News g L h l) (hm : (D, { cls := .type "tuple", data := .seq its }) ∈ l) (hp : (P, tabObj ps) ∈ l) : D ≠ P := by
  have h1 : h.get? D = _ := (N _ hm).1
  have h2 : h.get? P = _ := (N _ hp).1
  rintro rfl
  rw [h1] at h2; cases h2
theorem no_tab {h : Heap} {b P : Addr} {ps : Array Value} {vs : List Value} {c : Nat} (h1 : h.get? P = some (tabObj ps)) (h2 : h.get? b = some (listOf vs.toArray c)) : b ≠ P := by
  rintro rfl
  rw [h1] at h2
  cases h2
section
variable {prog : Program} {w : World} {s : Shared} {B0 : Heap} {mg mb : Str → Option Value} {p : Program} {loose : List Str} {mean : ExcName → Option Value} {dp un : Nat} {fr : Option (List Env)} {gd : Option (List Code)}
  {Q E : Value → Shared → Prop}
theorem call_taken (X0 : (hd.heap_1 w.params).In B0) (T0 : Top p loose mean mg mb B0) (S : B0.StaysIn s.heap) (hroom : dp + 120 < recursionLimit) (hu : un + 80 < cLine) (h30 : B0.get? 30 = none) (h37 : B0.get? 37 = none) (C30 : CodeHd B0 34 30) (C37 : CodeHd B0 41 37)
   {n : Nat} {a : Addr} {M : Nat → Nat → Int} (hn : n ≤ 4) (ht : TabsH s.heap) (IT : IsTab s.heap a (matL n M)) (hM : ∀ i j, -16 ≤ M i j ∧ M i j ≤ 16)
   (ret : ∀ D SL h' tk t1 sv e t, (∀ c o, c ≠ 30 → c ≠ 37 → s.heap.get? c = some o → h'.get? c = some o) → TabsH h' → s.heap.get? D = none → h'.get? D = some { cls := .type "tuple", data := .seq #[.int (dtL n M) t1, .ref SL] } →
     s.heap.get? SL = none → h'.get? SL = some (listOf sv.toArray e) → t ≤ n → IntsAre sv ((List.range t).map fun i => dtL (i + 1) M) → Q (.ref D) {s with heap := h', toks := tk}) :
   wpAny (model prog w) (AA dp un fr gd) (call (.ref 73) [.ref a]) Q E s := by
  obtain ⟨⟨ps, ht1, ht2⟩, ⟨qs, ht3, ht4⟩⟩ := id ht
  (k_dflt (refine' enter_defC (args := ⟨_, _⟩) ?tabs ?X ?T ?S ?N ?k6 ?k7 ?k8 ?k9 ?kB ?kD ?_ ?c3 ?c4 ?c5; (case X => assumption); (case T => assumption); (case S => assumption); (case k6 => k_is); (case k7 => k_is); (case k8 => first | omega | ((try dsimp only); omega)); (case k9 => exact BindsTo.of_eq rfl); (case kB => exact rfl); (case kD => decide +kernel); (case c3 => exact rfl); (case c4 => exact rfl); (case c5 => exact rfl)))
  case tabs => exact [(30, tabObj ps), (37, tabObj qs)]
  case N => exact tabs_in h30 h37 ht1 ht3
  intro g L' h₁ tk cells Z F N Y X T
  k_dflt (have hY := CellsAre.two Y; obtain ⟨oS, oR, hE, dS, dR⟩ := hY)
  subst hE
  clear Y
  have N0 : News g L' h₁ [(30, tabObj ps), (37, tabObj qs)] := fun q hq => N q (List.mem_append_right _ hq)
  obtain ⟨g30, g37, l30, l37, t, O, N1⟩ := start_tabs Z F N0 ht
  replace IT : IsTab g a (matL n M) := IT.keepsL fun b vs c e => Z.old b _ (by
    simp only [List.map_cons, List.map_nil, List.mem_cons, List.not_mem_nil, or_false, not_or]
    exact ⟨no_tab ht1 e, no_tab ht3 e⟩) e
  have hu' : un + 3 + 64 < cLine := by omega
  simp only [List.cons_append, List.nil_append] at N
  have N2 : News g L' h₁ ((L' + 1 + 1, oS) :: (L' + 1, oR) :: t.led) := fun q hq => by
    replace hq := mem_t2_T8 hq
    rcases hq with rfl | rfl | hq
    · exact N _ (.head _)
    · exact N _ (.tail _ (.head _))
    · exact N1 q (by simpa using hq)
  clear N N0 N1
  walk_at "my steps"
  refine' comp_local (x := "row") ?hclos2 ?hcell2 ?hkind2 ?hnames2 ?hx2 ?_
  case hclos2 => with_unfolding_all rfl
  case hcell2 => decide
  case hkind2 => rfl
  case hnames2 => decide
  case hx2 => rfl
  walk_at "my steps"
  (rename News _ _ _ _ => N3); (rename Fr _ _ _ _ => F3)
  have ITL := IT.isList
  obtain ⟨ys0, ITL⟩ := ITL
  obtain ⟨hil, hRV⟩ := ITL
  have hyl : ys0.toArray.size = n := by
    have h1 := PySem.Paired.length hRV
    simp at h1
    rw [List.size_toArray]; exact h1.symm
  refine src_list_n (n := n) hyl rfl (Fr.lst F3 hil) (Nat.le_trans hn (by decide)) ?_
  refine ⟨fun _ => true, fun j y made => ∃ r vs cnt, y = .ref r ∧ (r, listOf vs.toArray cnt) ∈ made ∧ IntsAre vs (rowL n (M j)), (by rintro i y l l' ⟨r, vs, c, h1, h2, h3⟩ hs; exact ⟨r, vs, c, h1, hs _ h2, h3⟩), fun g' C i v h tk m cled led _ _ _ _ _ _ F1 N1 => tests_nil F1 N1, ?elt, ?done⟩
  case elt =>
    rintro g3 C2 j v h3 tk3 m3 cled3 led3 hg3 - hj hPv - hv hcl3 F4 N4
    have hc3 : cled3 = [] := List.map_eq_nil_iff.mp hcl3
    subst hc3
    have hAt := hRV.at_ (j := j) (v := v) hPv
    obtain ⟨ks, hAt⟩ := hAt
    obtain ⟨r, hAt⟩ := hAt
    obtain ⟨hks, hvr, hIL⟩ := hAt
    subst hvr
    have hks' : ks = rowL n (M j) := by
      rw [List.getElem?_map, List.getElem?_range hj] at hks
      exact (Option.some.inj hks).symm
    subst hks'
    have hIL3 : IntL g3 r (rowL n (M j)) := (hIL.keeps F3.keep).keeps hg3
    have hLs := hIL3.isList
    obtain ⟨vs, hLs⟩ := hLs
    obtain ⟨hl, hi⟩ := hLs
    simp only [List.nil_append] at N4
    replace X := X.keeps (fun b o e => hg3 b o (F3.keep b o e))
    replace T := T.keeps (fun b o e => hg3 b o (F3.keep b o e))
    clear hg3 hPv hIL hcl3 N3 F3 hRV hks hyl hil IT
    dsimp only
    walk_at "my steps"
    (rename Fr _ _ _ _ => F5); (rename News _ _ _ _ => N5)
    refine' list_copyK F5 N5 (Fr.lst F5 hl) ?_ ?z
    case z => rw [List.size_toArray, hi.length]; simp; exact Nat.le_trans hn (by decide)
    intro D c h' F6 N6 l1
    refine ⟨_, _, [(D, listOf vs.toArray c)], rfl, F6, N6, ?_, D, vs, c, rfl, .head _, hi⟩
    intro q hq x hx
    rw [List.mem_singleton.mp hq]
    exact Nat.ne_of_gt (l1 x hx)
  case done =>
    intro D h' tk' ys made e hk hDf hD hP hm hyn
    have hnd := hyn fun i y l h => by
      obtain ⟨r, vs, c, h1, h2, _⟩ := h
      exact ⟨r, _, h1, h2⟩
    rw [range_all] at hP
    obtain ⟨rl, hrl, hrs, hmat⟩ := mat_of hP hnd
    subst hrl
    have F4 := back_fr F3 (tabs := []) (fun b o _ e => hk b o e) (fun b hb => nomatch hb) (fun hb => nomatch hb)
    have N4 := back_old N3 (tabs := []) (fun b o _ e => hk b o e) (fun q _ hb => nomatch hb)
    have N5 : News g L' h' ((D, listOf (refsOf rl).toArray e) :: (L' + 1 + 1, oS) :: (L' + 1, oR) :: (t.led ++ rl)) := fun q hq => by
      rcases List.mem_cons.mp hq with rfl | hq
      · exact back_new F3 N4 hDf hD _ (.head _)
      · rcases List.mem_append.mp (show q ∈ ((L' + 1 + 1, oS) :: (L' + 1, oR) :: t.led) ++ rl from hq) with hq | hq
        · exact N4 q hq
        · exact back_made F3 N4 (made := made) (fun q hq => ⟨(hm q hq).1, (hm q hq).2.1⟩) q (List.mem_append_left _ (hrs q hq))
    have hapD : ∀ q ∈ rl, q.1 ≠ D := fun q hq => (hm q (hrs q hq)).2.2
    have hap : ∀ q ∈ rl, ∀ x ∈ (L' + 1 + 1, oS) :: (L' + 1, oR) :: t.led, x.1 ≠ q.1 := fun q hq x hx e => by
      have h1 := (hm q (hrs q hq)).2.1
      have h2 := (N3 x hx).1
      rw [e, h1] at h2; cases h2
    have hD1 : ∀ x ∈ (L' + 1 + 1, oS) :: (L' + 1, oR) :: t.led, x.1 ≠ D := fun x hx e => by
      have h2 := (N3 x hx).1
      rw [e, hDf] at h2; cases h2
    have hTL : ∀ x ∈ t.led, x.1 ≠ L' + 1 ∧ x.1 ≠ L' + 1 + 1 := fun x hx => by
      have l3 := Z.lt (30, tabObj ps) (.head _)
      have l4 := Z.lt (37, tabObj qs) (.tail _ (.head _))
      have c1 := (N3 (L' + 1, oR) (.tail _ (.head _))).1
      have c2 := (N3 (L' + 1 + 1, oS) (.head _)).1
      have k1 : NoCode oR := fun v q t e => by rw [dR] at e; cases e
      have k2 : NoCode oS := fun v q t e => by rw [dS] at e; cases e
      have n30 : (30 : Addr) ≠ L' + 1 ∧ (30 : Addr) ≠ L' + 1 + 1 := ⟨Nat.ne_of_lt (Nat.lt_succ_of_lt l3), Nat.ne_of_lt (Nat.lt_succ_of_lt (Nat.lt_succ_of_lt l3))⟩
      have n37 : (37 : Addr) ≠ L' + 1 ∧ (37 : Addr) ≠ L' + 1 + 1 := ⟨Nat.ne_of_lt (Nat.lt_succ_of_lt l4), Nat.ne_of_lt (Nat.lt_succ_of_lt (Nat.lt_succ_of_lt l4))⟩
      have m1 := (N3 x (.tail _ (.tail _ hx))).1
      simp only [List.mem_cons, List.not_mem_nil, or_false] at hx
      rcases hx with rfl | rfl | rfl | rfl
      · exact n30
      · exact n37
      · exact ⟨O.a.ne m1 c1 k1 n30.1.symm, O.a.ne m1 c2 k2 n30.2.symm⟩
      · exact ⟨O.b.ne m1 c1 k1 n37.1.symm, O.b.ne m1 c2 k2 n37.2.symm⟩
    clear hk hDf hP hm hyn hnd hrs N4 N3 F3 hRV hyl hil
    walk_at "my steps"
    (rename Fr _ _ _ _ => F6); (rename News _ _ _ _ => N6)
    rename_i SL _ l6 Tu _ l7 _
    have m6 := (N6 (L' + 1, oR) (by k_mem)).1
    refine' wpAny_storeName_cell (c := L' + 1) rfl rfl rfl ⟨oR, m6, dR⟩ fun h7 hv7 hs7 => ?_
    obtain ⟨oR2, hR2, dR2⟩ := hv7
    have hRl : ∀ q ∈ rl, q.1 ≠ L' + 1 := fun q hq e => hap q hq (L' + 1, oR) (.tail _ (.head _)) e.symm
    have F7 := F6.change hs7 (N6 (L' + 1, oR) (by k_mem)).2.1 (N6 (L' + 1, oR) (by k_mem)).2.2
    have N7 : News g L' h7 ((Tu, _) :: (SL, listOf ([] : List Value).toArray 0) :: (D, listOf (refsOf rl).toArray e) :: (L' + 1 + 1, oS) :: (L' + 1, oR2) :: (t.led ++ rl)) := fun q hq => by
      rcases List.mem_cons.mp hq with rfl | hq
      · exact ⟨(hs7.2 _ (Nat.ne_of_gt l7.2.2.2.1)).trans (N6 _ (.head _)).1, (N6 _ (.head _)).2⟩
      rcases List.mem_cons.mp hq with rfl | hq
      · exact ⟨(hs7.2 _ (Nat.ne_of_gt l6.2.2.1)).trans (N6 _ (.tail _ (.head _))).1, (N6 _ (.tail _ (.head _))).2⟩
      rcases List.mem_cons.mp hq with rfl | hq
      · exact ⟨(hs7.2 _ (fun e => hD1 (L' + 1, oR) (.tail _ (.head _)) e.symm)).trans (N6 _ (.tail _ (.tail _ (.head _)))).1, (N6 _ (.tail _ (.tail _ (.head _)))).2⟩
      rcases List.mem_cons.mp hq with rfl | hq
      · exact ⟨(hs7.2 _ (Nat.ne_of_gt (Nat.lt_succ_self _))).trans (N6 _ (.tail _ (.tail _ (.tail _ (.head _))))).1, (N6 _ (.tail _ (.tail _ (.tail _ (.head _))))).2⟩
      rcases List.mem_cons.mp hq with rfl | hq
      · exact ⟨hR2, (N6 (L' + 1, oR) (by k_mem)).2⟩
      · have m8 := N6 q (.tail _ (.tail _ (.tail _ (.tail _ (.tail _ hq)))))
        refine ⟨(hs7.2 _ ?_).trans m8.1, m8.2⟩
        rcases List.mem_append.mp hq with hq | hq
        · exact (hTL q hq).1
        · exact hRl q hq
    clear m6 N6 F6 hs7 hR2
    walk_at "my steps"
    have apR : ∀ y ∈ rl, y.1 ≠ 30 ∧ y.1 ≠ 37 ∧ y.1 ≠ L' + 1 + 1 ∧ y.1 ≠ L' + 1 ∧ y.1 ≠ D ∧ y.1 ≠ SL := fun y hy =>
      ⟨(hap y hy (30, tabObj t.p1) (.tail _ (.tail _ (.head _)))).symm, (hap y hy (37, tabObj t.p2) (.tail _ (.tail _ (.tail _ (.head _))))).symm, (hap y hy (L' + 1 + 1, oS) (.head _)).symm, (hap y hy (L' + 1, oR) (.tail _ (.head _))).symm, hapD y hy, Nat.ne_of_lt (allLt_mem l6.2.2.2 y (List.mem_append_right _ hy))⟩
    have apD : L' + 1 + 1 ≠ D ∧ L' + 1 ≠ D ∧ SL ≠ D ∧ D ≠ 30 ∧ D ≠ 37 :=
      ⟨hD1 (L' + 1 + 1, oS) (.head _), hD1 (L' + 1, oR) (.tail _ (.head _)), Nat.ne_of_gt l6.1, (hD1 (30, tabObj t.p1) (.tail _ (.tail _ (.head _)))).symm, (hD1 (37, tabObj t.p2) (.tail _ (.tail _ (.tail _ (.head _))))).symm⟩
    have apS : L' + 1 + 1 ≠ SL ∧ L' + 1 ≠ SL ∧ SL ≠ 30 ∧ SL ≠ 37 :=
      ⟨Nat.ne_of_lt l6.2.1, Nat.ne_of_lt l6.2.2.1, Nat.ne_of_gt (allLt_mem l6.2.2.2 (30, tabObj t.p1) (.head _)), Nat.ne_of_gt (allLt_mem l6.2.2.2 (37, tabObj t.p2) (.tail _ (.head _)))⟩
    have apL : L' + 1 + 1 ≠ 30 ∧ L' + 1 + 1 ≠ 37 ∧ L' + 1 ≠ 30 ∧ L' + 1 ≠ 37 :=
      ⟨(hTL (30, tabObj t.p1) (.head _)).2.symm, (hTL (37, tabObj t.p2) (.tail _ (.head _))).2.symm, (hTL (30, tabObj t.p1) (.head _)).1.symm, (hTL (37, tabObj t.p2) (.tail _ (.head _))).1.symm⟩
    refine' For_cell (c := L' + 1 + 1) g rfl rfl rfl ?_
    walk_at "my steps"
    (rename IsRange _ _ _ _ _ _ _ _ => hR); (rename Fr _ _ _ _ => F8); (rename News _ _ _ _ => N8)
    refine' iter_range_cell (n := n) (oc := oS) (news := (SL, listOf ([] : List Value).toArray 0) :: (D, listOf (refsOf rl).toArray e) :: (L' + 1, oR2) :: (t.led ++ rl))
      (fun i m news => ∃ (sg ah : Int) (ts ta tm : Tok) (ch : Bool) (tt : Nat) (t' : Tb) (rl' : List (Addr × Obj)) (sv : List Value) (e1 : Nat) (Mc P : Nat → Nat → Int),
        m "sign" = some (.int sg ts) ∧ m "ahead" = some (.int ah ta) ∧ m "slant" = some (.ref SL) ∧ m "changed" = some (.bool ch) ∧ m "many" = some (.int n tm) ∧
        news = (SL, listOf sv.toArray e1) :: (D, listOf (refsOf rl').toArray e) :: (L' + 1, oR2) :: (t'.led ++ rl') ∧ t'.Ok g ∧ Mat n Mc rl' ∧ (∀ y ∈ rl', ∃ z ∈ rl, z.1 = y.1) ∧
        IntsAre sv ((List.range tt).map fun i => dtL (i + 1) M) ∧ Bar n i M Mc P sg ah ch tt) ?hh hR ?small ?size F8 ?N9 ⟨_, dS⟩ ?hne ?hj ?turn ?done
    case hh => exact rfl
    case small => exact small_nat (by decide) (by decide) (by omega) (by omega)
    case size => rw [rangeSize_nat]; omega
    case N9 =>
      intro q hq
      rcases List.mem_cons.mp hq with rfl | hq
      · exact N8 _ (by k_mem)
      rcases List.mem_cons.mp hq with rfl | hq
      · exact N8 _ (by k_mem)
      rcases List.mem_cons.mp hq with rfl | hq
      · exact N8 _ (by k_mem)
      · exact N8 q (.tail _ (.tail _ (.tail _ (.tail _ hq))))
    case hne =>
      intro q hq
      rcases List.mem_cons.mp hq with rfl | hq
      · exact apS.1.symm
      rcases List.mem_cons.mp hq with rfl | hq
      · exact apD.1.symm
      rcases List.mem_cons.mp hq with rfl | hq
      · exact Nat.ne_of_lt (Nat.lt_succ_self _)
      rcases List.mem_append.mp hq with hq | hq
      · exact (hTL q hq).2
      · exact (apR q hq).2.2.1
    case hj =>
      exact ⟨1, 1, _, _, _, false, 0, t, rl, [], 0, M, M, rfl, rfl, rfl, rfl, rfl, rfl, O, hmat, fun y hy => ⟨y, hy, rfl⟩, .nil, Bar.start hM⟩
    case turn =>
      clear hR F8 N8 hapD hap hD1 hmat hRl O IT l6 l7 hTL
      rintro i ti m₁ news₁ h tk I it o' hin hnc ⟨sg, ah, ts, ta, tm, ch, tt, t', rl', sv, e1, Mc, P, hm1, hm2, hm3, hm4, hm5, rfl, O, hMat, hz, hSV, hB⟩ ho hIc hcI F₁ N₁
      have e0 : (0 : Int) + (i : Int) * 1 = i := by omega
      rw [e0] at ho
      have apR' : ∀ y ∈ rl', y.1 ≠ 30 ∧ y.1 ≠ 37 ∧ y.1 ≠ L' + 1 + 1 ∧ y.1 ≠ L' + 1 ∧ y.1 ≠ D ∧ y.1 ≠ SL := fun y hy => by
        obtain ⟨z, hz1, hz2⟩ := hz y hy
        rw [← hz2]; exact apR z hz1
      have hI : I ≠ 30 ∧ I ≠ 37 ∧ I ≠ D ∧ I ≠ SL ∧ L' + 1 ≠ I ∧ ∀ y ∈ rl', I ≠ y.1 :=
        ⟨fun e => (hIc (30, tabObj t'.p1) (.tail _ (.tail _ (.tail _ (.head _))))).1 e.symm, fun e => (hIc (37, tabObj t'.p2) (.tail _ (.tail _ (.tail _ (.tail _ (.head _)))))).1 e.symm, fun e => (hIc (D, _) (.tail _ (.head _))).1 e.symm, fun e => (hIc (SL, _) (.head _)).1 e.symm,
          fun e => (hIc (L' + 1, oR2) (.tail _ (.tail _ (.head _)))).1 e, fun y hy e => (hIc y (.tail _ (.tail _ (.tail _ (List.mem_append_right _ hy))))).1 e.symm⟩
      refine' turn_o (i := i) (rest := [(I, it)]) (t := t') (sv := sv) (e1 := e1) (e := e) (rl := rl') ?h73 X T ?room ?hu g30 g37 l30 l37 (C30.keeps Z.st) (C37.keeps Z.st) hn hin ho dR2 O hB hMat hSV ?hap ?hrl ?hD ?hSL F₁ hm1 hm2 hm3 hm4 hm5 ?N ?retN ?ret0
      case h73 => exact ⟨_, _, _, _, _, _, _, _, _, _, _, _, _, _, _, _, _, by k_is⟩
      case room => omega
      case hu => omega
      case hap =>
        intro q hq
        replace hq := mem_e5_T8 hq
        rcases hq with rfl | rfl | rfl | rfl | rfl
        · exact ⟨apL.1, apL.2.1, fun y hy => (apR' y hy).2.2.1.symm⟩
        · exact ⟨apL.2.2.1, apL.2.2.2, fun y hy => (apR' y hy).2.2.2.1.symm⟩
        · exact ⟨apD.2.2.2.1, apD.2.2.2.2, fun y hy => (apR' y hy).2.2.2.2.1.symm⟩
        · exact ⟨apS.2.2.1, apS.2.2.2, fun y hy => (apR' y hy).2.2.2.2.2.symm⟩
        · exact ⟨hI.1, hI.2.1, hI.2.2.2.2.2⟩
      case hrl => exact fun y hy => ⟨(apR' y hy).1, (apR' y hy).2.1⟩
      case hD =>
        intro q hq
        replace hq := mem_e4_T8 hq
        rcases hq with rfl | rfl | rfl | rfl
        · exact apD.1
        · exact apD.2.1
        · exact apD.2.2.1
        · exact hI.2.2.1
      case hSL =>
        intro q hq
        replace hq := mem_e3_T8 hq
        rcases hq with rfl | rfl | rfl
        · exact apS.1
        · exact apS.2.1
        · exact hI.2.2.2.1
      case N => exact fun q hq => N₁ q (by (first | (revert q; k_extra "sub") | (refine (fun (h0 : ∀ q0 ∈ _, q0 ∈ _) => h0 _ hq) ?_; k_extra "sub") | (simp only [List.mem_cons, List.mem_append, List.not_mem_nil, or_false] at hq ⊢; grind)))
      case retN =>
        intro h' tk' m' t2 rl2 sg' ts' ah' ta' ch' tt' sv' e1' M' P' F' q1 q2 q3 q4 q5 O2 hM2 hz2 hB2 hSV2 N2
        have hz3 : ∀ y ∈ rl2, ∃ z ∈ rl, z.1 = y.1 := fun y hy => by
          obtain ⟨z, hz1, hz2'⟩ := hz2 y hy
          obtain ⟨z2, hz3, hz4⟩ := hz z hz1
          exact ⟨z2, hz3, hz4.trans hz2'⟩
        have hitN := (N2 (I, it) (by simp)).1
        refine turnEnd_next ⟨h', tk', m', (L' + 1 + 1, o') :: (SL, listOf sv'.toArray e1') :: (D, listOf (refsOf rl2).toArray e) :: (L' + 1, oR2) :: (t2.led ++ rl2), rfl, F', ?n, ?w, o', _, rfl, ⟨_, ho⟩, ?c, sg', ah', ts', ta', tm, ch', tt', t2, rl2, sv', e1', M', P', q1, q2, q3, q4, q5, rfl, O2, hM2, hz3, hSV2, hB2⟩
        case n => exact fun q hq => N2 q (by (first | (revert q; k_extra "sub") | (refine (fun (h0 : ∀ q0 ∈ _, q0 ∈ _) => h0 _ hq) ?_; k_extra "sub") | (simp only [List.mem_cons, List.mem_append, List.not_mem_nil, or_false] at hq ⊢; grind)))
        case w =>
          intro q hq hm
          have hm := List.mem_singleton.mp hm
          revert hm
          rcases List.mem_cons.mp hq with rfl | hq
          · exact hcI
          rcases List.mem_cons.mp hq with rfl | hq
          · exact hI.2.2.2.1.symm
          rcases List.mem_cons.mp hq with rfl | hq
          · exact hI.2.2.1.symm
          rcases List.mem_cons.mp hq with rfl | hq
          · exact hI.2.2.2.2.1
          rcases List.mem_append.mp hq with hq | hq
          · replace hq := mem_e4_T8 hq
            rcases hq with rfl | rfl | rfl | rfl
            · exact hI.1.symm
            · exact hI.2.1.symm
            · exact O2.a.ne (N2 (t2.e1, t2.o1) (by simp)).1 hitN hnc hI.1
            · exact O2.b.ne (N2 (t2.e2, t2.o2) (by simp)).1 hitN hnc hI.2.1
          · intro e
            obtain ⟨z, hz1, hz5⟩ := hz2 q hq
            exact hI.2.2.2.2.2 z hz1 (e.symm.trans hz5.symm)
        case c =>
          intro q hq
          have kS : NoCode o' := fun v q t e => by rw [ho] at e; cases e
          have cS := (N2 (L' + 1 + 1, o') (by simp)).1
          rcases List.mem_cons.mp hq with rfl | hq
          · exact apS.1.symm
          rcases List.mem_cons.mp hq with rfl | hq
          · exact apD.1.symm
          rcases List.mem_cons.mp hq with rfl | hq
          · exact Nat.ne_of_lt (Nat.lt_succ_self _)
          rcases List.mem_append.mp hq with hq | hq
          · replace hq := mem_e4_T8 hq
            rcases hq with rfl | rfl | rfl | rfl
            · exact apL.1.symm
            · exact apL.2.1.symm
            · exact O2.a.ne (N2 (t2.e1, t2.o1) (by simp)).1 cS kS apL.1
            · exact O2.b.ne (N2 (t2.e2, t2.o2) (by simp)).1 cS kS apL.2.1
          · obtain ⟨z, hz1, hz5⟩ := hz3 q hq
            rw [← hz5]; exact (apR z hz1).2.2.1
      case ret0 =>
        intro h' tk' m' D2 tz hd0 F' N2
        show Q _ _
        have ts1 := tb_in O F' fun q hq => (N2 q (.tail _ (.tail _ hq))).1
        have n30 : D2 ≠ 30 := fun e => by have h1 := (N2 _ (.head _)).1; rw [show D2 = 30 from e, (N2 (30, tabObj t'.p1) (by simp)).1] at h1; cases h1
        have n37 : D2 ≠ 37 := fun e => by have h1 := (N2 _ (.head _)).1; rw [show D2 = 37 from e, (N2 (37, tabObj t'.p2) (by simp)).1] at h1; cases h1
        rw [← hd0] at N2
        have hle := hB.le
        exact ret _ SL _ _ _ sv e1 tt (kept_tabs Z F') ts1 (fresh_tabs Z N2 (.head _) n30 n37) (N2 _ (.head _)).1 (fresh_tabs Z N2 (.tail _ (.head _)) apS.2.2.1 apS.2.2.2) (N2 _ (.tail _ (.head _))).1 (by omega) hSV
    case done =>
      rintro h' tk' m' news' o' ⟨sg, ah, ts, ta, tm, ch, tt, t', rl', sv, e1, Mc, P, hm1, hm2, hm3, hm4, hm5, rfl, O, hMat, hz, hSV, hB⟩ F₁ N₁
      clear hR F8 N8
      have ab := hB.ahead_bd hn (Nat.le_refl n)
      obtain ⟨ab1, ab2⟩ := ab
      have sb : -1 ≤ sg ∧ sg ≤ 1 := by rcases hB.sg with h | h <;> omega
      obtain ⟨sb1, sb2⟩ := sb
      have hend := hB.end_ hn
      have hle := hB.le
      rw [map_chain hm1] at F₁
      rw [map_chain hm2] at F₁
      rw [map_chain hm3] at F₁
      dsimp only at F₁
      simp only [List.cons_append, List.nil_append] at N₁
      walk_at "my steps"
      (rename Fr _ _ _ _ => F6); (rename News _ _ _ _ => N6)
      rw [hend] at N6
      have n30 := tup_ne N6 (.head _) (show (30, tabObj t'.p1) ∈ _ by simp)
      have n37 := tup_ne N6 (.head _) (show (37, tabObj t'.p2) ∈ _ by simp)
      have ts1 := tb_in O F6 fun q hq => (N6 q (by (first | (revert q; k_extra "sub") | (refine (fun (h0 : ∀ q0 ∈ _, q0 ∈ _) => h0 _ hq) ?_; k_extra "sub") | (simp only [List.mem_cons, List.mem_append, List.not_mem_nil, or_false] at hq ⊢; grind)))).1
      exact ret _ SL _ _ _ sv e1 tt (kept_tabs Z F6) ts1 (fresh_tabs Z N6 (.head _) n30 n37) (N6 _ (.head _)).1 (fresh_tabs (o := listOf sv.toArray e1) Z N6 (by simp) apS.2.2.1 apS.2.2.2) (N6 (SL, listOf sv.toArray e1) (by simp)).1 (by omega) hSV
end
end Mine
end
section
open PySem PySem.W PySem.Spec PySem.Calls PyProof.Rows
set_option Elab.async false
set_option maxRecDepth 100000
set_option maxHeartbeats 8000000
namespace Mine
theorem kwSw1 : True := by
  k_with_none
  k_with "mem1" => (first | (with_reducible exact List.mem_cons_self) | (with_reducible assumption) | (with_reducible refine List.mem_append_right _ ?_; k_extra "mem1") | (with_reducible refine List.mem_append_left _ ?_; k_extra "mem1") | (with_reducible refine List.mem_cons_of_mem _ ?_; k_extra "mem1"))
  k_with "sub" => (first | (intro _ hq0; k_extra "tl") | (with_reducible exact List.forall_mem_nil _) | ((with_reducible refine List.forall_mem_cons.mpr (And.intro ?_ ?_)); (focus k_extra "mem1"); k_extra "sub") | ((with_reducible refine List.forall_mem_append.mpr (And.intro ?_ ?_)); (focus k_extra "sub"); k_extra "sub"))
  k_with "tl" => (first | (with_reducible assumption) | (with_reducible refine List.mem_append_right _ ?_; k_extra "tl") | (with_reducible refine List.mem_append_left _ ?_; k_extra "tl") | (with_reducible refine List.mem_cons_of_mem _ ?_; k_extra "tl"))
  k_with "my steps" => (repeat' (first | (k_unfold; (try dsimp only)) | k_extra "own" | walk1 | (dsimp only; (first | k_extra "own" | walk1)) | (leave1; try dsimp only)))
  k_with "own" => ((k_here; (with_reducible show wpAny _ _ (setItem (Value.ref _) (Value.int _ _) (Value.int _ _)) _ _ _); k_dflt (refine' by_setK (by k_asm) (by k_asm) (by k_upd) (by first | decide | omega) (by first | decide | (simp; done)) (by first | decide | (simp; done)) (by first | decide | omega) (by first | decide | omega | exact Int.ofNat_lt.mpr (UInt8.toNat_lt _)) ?_; k_whole); intro _ _ _))
  k_with "own" => ((k_here; (with_reducible show wpAny _ _ (call (Value.type _) [Value.ref _]) _ _ _); k_dflt (refine' by_bytesK (by k_asm) (by k_mem) (by first | decide | (simp; done)) ?_; k_whole); intro _ _))
  trivial
section
variable {prog : Program} {w : World} {A : Around} {E : Value → Shared → Prop} {s : Shared} {h₀ : Heap} {L : Addr} {m : Str → Option Value} {news news' : List (Addr × Obj)}
theorem by_setK {D : Addr} {b : Array UInt8} {k x : Int} {u v : Tok} {Q : Unit → Shared → Prop} (F : Fr h₀ L s.heap m) (N : News h₀ L s.heap news) (U : Upd D (byObj b) (byObj (b.setIfInBounds k.toNat x.toNat.toUInt8)) news news')
    (h0 : 0 ≤ k) (h1 : k < b.size) (hz : b.size ≤ 1000) (hx0 : 0 ≤ x) (hx1 : x < 256)
    (h : ∀ h', Fr h₀ L h' m → News h₀ L h' news' → Q () { s with heap := h' }) : wpAny (model prog w) A (setItem (.ref D) (.int k u) (.int x v)) Q E s := by
  obtain ⟨pre, post, rfl, rfl, a, b⟩ := U.split
  have z := N (D, _) (List.mem_append.mpr (.inr (.head _)))
  exact by_set z.1 h0 h1 hz hx0 hx1 fun h' hs ho' => h h' (F.change hs z.2.1 z.2.2) (news_set N a b hs ho')
theorem by_bytesK {D : Addr} {b : Array UInt8} {Q : Value → Shared → Prop} (N : News h₀ L s.heap news) (hm : (D, byObj b) ∈ news) (hz : b.size ≤ 1000) (h : ∀ t k, Q (.bytes b t) { s with toks := k }) : wpAny (model prog w) A (call (.type "bytes") [.ref D]) Q E s :=
  by_bytes (N _ hm).1 hz h
end
section
variable {prog : Program} {w : World} {dp un : Nat} {fr : Option (List Env)} {s : Shared} {B0 : Heap} {mg mb : Str → Option Value} {p : Program} {loose : List Str} {mean : ExcName → Option Value}
  {Q E : Value → Shared → Prop}
theorem call_swap1 (X0 : (hd.heap_1 w.params).In B0) (T0 : Top p loose mean mg mb B0) (S : B0.StaysIn s.heap) (hroom : dp + 10 < recursionLimit)
   {tb tn : Tok} (ret : ∀ h' tk t b', b' = #[0] → (∀ b o, s.heap.get? b = some o → h'.get? b = some o) → Q (.bytes b' t) {s with heap := h', toks := tk}) :
   wpP (model prog w) (AA dp un fr (some [])) (call (.ref 63) [.bytes #[0] tb, .int 1 tn]) Q E s := by
  ((
  (k_dflt (refine' enter_defP (args := ⟨_, _⟩) [] ?X ?T ?S ?N ?k6 ?k7 ?k8 ?k9 ?kB ?_ ?c3 ?c4 ?c5 ?c6; (case X => assumption); (case T => assumption); (case S => assumption); (case N => (intro _ h; nomatch h)); (case k6 => k_is); (case k7 => k_is); (case k8 => first | omega | ((try dsimp only); omega)); (case k9 => exact BindsTo.of_eq rfl); (case c6 => decide); (case kB => exact locs rfl); (case c3 => exact rfl); (case c4 => exact rfl); (case c5 => exact rfl)))
  intro g L' h₁ Z F N X T
  refine' execsP_cons (assignP ?sw (callNameP ?_))
  (case sw => with_unfolding_all rfl)
  (repeat' (first | (k_unfold; (try dsimp only)) | k_extra "own" | walk1 | (dsimp only; (first | k_extra "own" | walk1)) | (leave1; try dsimp only)))
  refine callTypeP ?_
  (repeat' (first | (k_unfold; (try dsimp only)) | k_extra "own" | walk1 | (dsimp only; (first | k_extra "own" | walk1)) | (leave1; try dsimp only)))
  refine' callP_bytearray ?hg ?h0 ?h1 ?_
  (case hg => exact rfl)
  (case h0 => decide)
  (case h1 => decide)
  intro D h2 k2 hf2 hD2
  (rename Fr _ _ _ _ => F'); (rename News _ _ _ _ => N')
  have F2 := back_fr F' (tabs := []) (fun b o _ e => k2 b o e) (fun b hb => nomatch hb) (fun hb => nomatch hb)
  have N2 := back_new F' (back_old N' (tabs := []) (fun b o _ e => k2 b o e) (fun q _ hb => nomatch hb)) hf2 hD2
  clear F' N' k2 hf2 hD2
  (repeat' (first | (k_unfold; (try dsimp only)) | k_extra "own" | walk1 | (dsimp only; (first | k_extra "own" | walk1)) | (leave1; try dsimp only)))
  refine wpP_of ?_
  (repeat' (first | (k_unfold; (try dsimp only)) | k_extra "own" | walk1 | (dsimp only; (first | k_extra "own" | walk1)) | (leave1; try dsimp only)))))
  (rename Start _ _ _ _ _ _ _ _ _ _ _ => Z); (rename Fr _ _ _ _ => F9)
  exact ret _ _ _ _ (by decide +kernel) fun b o e => Z.kept F9 b o (fun h => nomatch h) e
theorem call_swap2 (X0 : (hd.heap_1 w.params).In B0) (T0 : Top p loose mean mg mb B0) (S : B0.StaysIn s.heap) (hroom : dp + 10 < recursionLimit)
   {tb tn : Tok} (ret : ∀ h' tk t b', b' = #[1, 0] → (∀ b o, s.heap.get? b = some o → h'.get? b = some o) → Q (.bytes b' t) {s with heap := h', toks := tk}) :
   wpP (model prog w) (AA dp un fr (some [])) (call (.ref 63) [.bytes #[0, 1] tb, .int 2 tn]) Q E s := by
  ((
  (k_dflt (refine' enter_defP (args := ⟨_, _⟩) [] ?X ?T ?S ?N ?k6 ?k7 ?k8 ?k9 ?kB ?_ ?c3 ?c4 ?c5 ?c6; (case X => assumption); (case T => assumption); (case S => assumption); (case N => (intro _ h; nomatch h)); (case k6 => k_is); (case k7 => k_is); (case k8 => first | omega | ((try dsimp only); omega)); (case k9 => exact BindsTo.of_eq rfl); (case c6 => decide); (case kB => exact locs rfl); (case c3 => exact rfl); (case c4 => exact rfl); (case c5 => exact rfl)))
  intro g L' h₁ Z F N X T
  refine' execsP_cons (assignP ?sw (callNameP ?_))
  (case sw => with_unfolding_all rfl)
  (repeat' (first | (k_unfold; (try dsimp only)) | k_extra "own" | walk1 | (dsimp only; (first | k_extra "own" | walk1)) | (leave1; try dsimp only)))
  refine callTypeP ?_
  (repeat' (first | (k_unfold; (try dsimp only)) | k_extra "own" | walk1 | (dsimp only; (first | k_extra "own" | walk1)) | (leave1; try dsimp only)))
  refine' callP_bytearray ?hg ?h0 ?h1 ?_
  (case hg => exact rfl)
  (case h0 => decide)
  (case h1 => decide)
  intro D h2 k2 hf2 hD2
  (rename Fr _ _ _ _ => F'); (rename News _ _ _ _ => N')
  have F2 := back_fr F' (tabs := []) (fun b o _ e => k2 b o e) (fun b hb => nomatch hb) (fun hb => nomatch hb)
  have N2 := back_new F' (back_old N' (tabs := []) (fun b o _ e => k2 b o e) (fun q _ hb => nomatch hb)) hf2 hD2
  clear F' N' k2 hf2 hD2
  (repeat' (first | (k_unfold; (try dsimp only)) | k_extra "own" | walk1 | (dsimp only; (first | k_extra "own" | walk1)) | (leave1; try dsimp only)))
  refine wpP_of ?_
  (repeat' (first | (k_unfold; (try dsimp only)) | k_extra "own" | walk1 | (dsimp only; (first | k_extra "own" | walk1)) | (leave1; try dsimp only)))))
  (rename Start _ _ _ _ _ _ _ _ _ _ _ => Z); (rename Fr _ _ _ _ => F9)
  exact ret _ _ _ _ (by decide +kernel) fun b o e => Z.kept F9 b o (fun h => nomatch h) e
theorem call_swap3 (X0 : (hd.heap_1 w.params).In B0) (T0 : Top p loose mean mg mb B0) (S : B0.StaysIn s.heap) (hroom : dp + 10 < recursionLimit)
   {tb tn : Tok} (ret : ∀ h' tk t b', b' = #[2, 1, 0] → (∀ b o, s.heap.get? b = some o → h'.get? b = some o) → Q (.bytes b' t) {s with heap := h', toks := tk}) :
   wpP (model prog w) (AA dp un fr (some [])) (call (.ref 63) [.bytes #[0, 1, 2] tb, .int 3 tn]) Q E s := by
  ((
  (k_dflt (refine' enter_defP (args := ⟨_, _⟩) [] ?X ?T ?S ?N ?k6 ?k7 ?k8 ?k9 ?kB ?_ ?c3 ?c4 ?c5 ?c6; (case X => assumption); (case T => assumption); (case S => assumption); (case N => (intro _ h; nomatch h)); (case k6 => k_is); (case k7 => k_is); (case k8 => first | omega | ((try dsimp only); omega)); (case k9 => exact BindsTo.of_eq rfl); (case c6 => decide); (case kB => exact locs rfl); (case c3 => exact rfl); (case c4 => exact rfl); (case c5 => exact rfl)))
  intro g L' h₁ Z F N X T
  refine' execsP_cons (assignP ?sw (callNameP ?_))
  (case sw => with_unfolding_all rfl)
  (repeat' (first | (k_unfold; (try dsimp only)) | k_extra "own" | walk1 | (dsimp only; (first | k_extra "own" | walk1)) | (leave1; try dsimp only)))
  refine callTypeP ?_
  (repeat' (first | (k_unfold; (try dsimp only)) | k_extra "own" | walk1 | (dsimp only; (first | k_extra "own" | walk1)) | (leave1; try dsimp only)))
  refine' callP_bytearray ?hg ?h0 ?h1 ?_
  (case hg => exact rfl)
  (case h0 => decide)
  (case h1 => decide)
  intro D h2 k2 hf2 hD2
  (rename Fr _ _ _ _ => F'); (rename News _ _ _ _ => N')
  have F2 := back_fr F' (tabs := []) (fun b o _ e => k2 b o e) (fun b hb => nomatch hb) (fun hb => nomatch hb)
  have N2 := back_new F' (back_old N' (tabs := []) (fun b o _ e => k2 b o e) (fun q _ hb => nomatch hb)) hf2 hD2
  clear F' N' k2 hf2 hD2
  (repeat' (first | (k_unfold; (try dsimp only)) | k_extra "own" | walk1 | (dsimp only; (first | k_extra "own" | walk1)) | (leave1; try dsimp only)))
  refine wpP_of ?_
  (repeat' (first | (k_unfold; (try dsimp only)) | k_extra "own" | walk1 | (dsimp only; (first | k_extra "own" | walk1)) | (leave1; try dsimp only)))))
  (rename Start _ _ _ _ _ _ _ _ _ _ _ => Z); (rename Fr _ _ _ _ => F9)
  exact ret _ _ _ _ (by decide +kernel) fun b o e => Z.kept F9 b o (fun h => nomatch h) e
theorem call_swap4 (X0 : (hd.heap_1 w.params).In B0) (T0 : Top p loose mean mg mb B0) (S : B0.StaysIn s.heap) (hroom : dp + 10 < recursionLimit)
   {tb tn : Tok} (ret : ∀ h' tk t b', b' = #[3, 2, 1, 0] → (∀ b o, s.heap.get? b = some o → h'.get? b = some o) → Q (.bytes b' t) {s with heap := h', toks := tk}) :
   wpP (model prog w) (AA dp un fr (some [])) (call (.ref 63) [.bytes #[0, 1, 2, 3] tb, .int 4 tn]) Q E s := by
  ((
  (k_dflt (refine' enter_defP (args := ⟨_, _⟩) [] ?X ?T ?S ?N ?k6 ?k7 ?k8 ?k9 ?kB ?_ ?c3 ?c4 ?c5 ?c6; (case X => assumption); (case T => assumption); (case S => assumption); (case N => (intro _ h; nomatch h)); (case k6 => k_is); (case k7 => k_is); (case k8 => first | omega | ((try dsimp only); omega)); (case k9 => exact BindsTo.of_eq rfl); (case c6 => decide); (case kB => exact locs rfl); (case c3 => exact rfl); (case c4 => exact rfl); (case c5 => exact rfl)))
  intro g L' h₁ Z F N X T
  refine' execsP_cons (assignP ?sw (callNameP ?_))
  (case sw => with_unfolding_all rfl)
  (repeat' (first | (k_unfold; (try dsimp only)) | k_extra "own" | walk1 | (dsimp only; (first | k_extra "own" | walk1)) | (leave1; try dsimp only)))
  refine callTypeP ?_
  (repeat' (first | (k_unfold; (try dsimp only)) | k_extra "own" | walk1 | (dsimp only; (first | k_extra "own" | walk1)) | (leave1; try dsimp only)))
  refine' callP_bytearray ?hg ?h0 ?h1 ?_
  (case hg => exact rfl)
  (case h0 => decide)
  (case h1 => decide)
  intro D h2 k2 hf2 hD2
  (rename Fr _ _ _ _ => F'); (rename News _ _ _ _ => N')
  have F2 := back_fr F' (tabs := []) (fun b o _ e => k2 b o e) (fun b hb => nomatch hb) (fun hb => nomatch hb)
  have N2 := back_new F' (back_old N' (tabs := []) (fun b o _ e => k2 b o e) (fun q _ hb => nomatch hb)) hf2 hD2
  clear F' N' k2 hf2 hD2
  (repeat' (first | (k_unfold; (try dsimp only)) | k_extra "own" | walk1 | (dsimp only; (first | k_extra "own" | walk1)) | (leave1; try dsimp only)))
  refine wpP_of ?_
  (repeat' (first | (k_unfold; (try dsimp only)) | k_extra "own" | walk1 | (dsimp only; (first | k_extra "own" | walk1)) | (leave1; try dsimp only)))))
  (rename Start _ _ _ _ _ _ _ _ _ _ _ => Z); (rename Fr _ _ _ _ => F9)
  exact ret _ _ _ _ (by decide +kernel) fun b o e => Z.kept F9 b o (fun h => nomatch h) e
noncomputable abbrev upB (n : Nat) : Array UInt8 := byteArr ((List.range n).map fun (i : Nat) => (i : Int))
noncomputable abbrev downB (n : Nat) : Array UInt8 := byteArr ((List.range n).map fun (i : Nat) => ((n - 1 - i : Nat) : Int))
theorem call_swap (X0 : (hd.heap_1 w.params).In B0) (T0 : Top p loose mean mg mb B0) (S : B0.StaysIn s.heap) (hroom : dp + 10 < recursionLimit) {n : Nat} (hn1 : 1 ≤ n) (hn : n ≤ 4)
   {tb tn : Tok} (ret : ∀ h' tk t, (∀ b o, s.heap.get? b = some o → h'.get? b = some o) → Q (.bytes (downB n) t) {s with heap := h', toks := tk}) :
   wpP (model prog w) (AA dp un fr (some [])) (call (.ref 63) [.bytes (upB n) tb, .int (n : Int) tn]) Q E s := by
  have hc : n = 1 ∨ n = 2 ∨ n = 3 ∨ n = 4 := by omega
  rcases hc with rfl | rfl | rfl | rfl
  · rw [show upB 1 = #[0] from by decide +kernel]
    refine call_swap1 X0 T0 S hroom fun h' tk t b' e k => ?_
    rw [e, show #[0] = downB 1 from by decide +kernel]; exact ret h' tk t k
  · rw [show upB 2 = #[0, 1] from by decide +kernel]
    refine call_swap2 X0 T0 S hroom fun h' tk t b' e k => ?_
    rw [e, show #[1, 0] = downB 2 from by decide +kernel]; exact ret h' tk t k
  · rw [show upB 3 = #[0, 1, 2] from by decide +kernel]
    refine call_swap3 X0 T0 S hroom fun h' tk t b' e k => ?_
    rw [e, show #[2, 1, 0] = downB 3 from by decide +kernel]; exact ret h' tk t k
  · rw [show upB 4 = #[0, 1, 2, 3] from by decide +kernel]
    refine call_swap4 X0 T0 S hroom fun h' tk t b' e k => ?_
    rw [e, show #[3, 2, 1, 0] = downB 4 from by decide +kernel]; exact ret h' tk t k
end
end Mine
end
section
open PySem PySem.W PySem.Spec PySem.Calls PyProof.Rows
set_option Elab.async false
set_option maxRecDepth 100000
set_option maxHeartbeats 8000000
namespace Mine
theorem kwL1 : True := by
  k_with_none
  k_with "mem1" => (first | (with_reducible exact List.mem_cons_self) | (with_reducible assumption) | (with_reducible refine List.mem_append_right _ ?_; k_extra "mem1") | (with_reducible refine List.mem_append_left _ ?_; k_extra "mem1") | (with_reducible refine List.mem_cons_of_mem _ ?_; k_extra "mem1"))
  k_with "sub" => (first | (intro _ hq0; k_extra "tl") | (with_reducible exact List.forall_mem_nil _) | ((with_reducible refine List.forall_mem_cons.mpr (And.intro ?_ ?_)); (focus k_extra "mem1"); k_extra "sub") | ((with_reducible refine List.forall_mem_append.mpr (And.intro ?_ ?_)); (focus k_extra "sub"); k_extra "sub"))
  k_with "tl" => (first | (with_reducible assumption) | (with_reducible refine List.mem_append_right _ ?_; k_extra "tl") | (with_reducible refine List.mem_append_left _ ?_; k_extra "tl") | (with_reducible refine List.mem_cons_of_mem _ ?_; k_extra "tl"))
  k_with "my steps" => (repeat' ((fail_if_success (with_reducible show wpAny _ _ (pyIter _) _ _ _)); (fail_if_success (with_reducible show wpAny _ _ (eval (Expr.ListComp _ _ _ _) _) _ _ _)); (first | (k_unfold; (try dsimp only)) | k_extra "own" | walk1 | (dsimp only; (first | k_extra "own" | walk1)) | (leave1; try dsimp only))))
  k_with "own" => ((k_here; (with_reducible show wpAny _ _ (eval (Expr.Name _ _) (compEnvC _ _ _ _)) _ _ _); (with_reducible rename Fr _ _ _ _ => F''); k_dflt (first
  | (refine' base_free F'' (by rfl) (by with_reducible assumption) (by with_reducible assumption) ?_ (by rfl) (by rfl); k_whole)
  | (refine' comp_name F'' (by with_reducible assumption) ?_ (by rfl) (by rfl); k_whole)
  | (refine' base_cell F'' (by rfl) (by with_reducible assumption) (by with_reducible assumption) ?_ (by rfl) (by rfl); k_whole))))
  trivial
/-- the i-th statement of the law -/
noncomputable def LawS (w : World) (nm : Str) (sc : Scope) (i : Nat) (st : Stmt) : Prop := ∃ oc od osl qual ps body dV kV doc pm an cdv ct,
  (hd.heap_1 w.params).lookup 78 = some ⟨oc, od, .func (fnOf nm qual ps body sc dV kV doc pm an cdv ct), osl⟩ ∧ body[i]? = some st
/-- the i-th statement, its def's name and scope with it -/
noncomputable def lawAt (i : Nat) (o : Option Obj) : Option (Str × Scope × Stmt) := match o with
  | some ⟨_, _, .func fd, _⟩ => (match fd.body with
    | .stmts b => b[i]?.map fun st => (fd.name, fd.scope, st)
    | _ => none)
  | _ => none
theorem LawS.at_ {w : World} {nm : Str} {sc : Scope} {i : Nat} {st : Stmt} (h : LawS w nm sc i st) : lawAt i ((hd.heap_1 w.params).lookup 78) = some (nm, sc, st) := by
  obtain ⟨oc, od, osl, qual, ps, body, dV, kV, doc, pm, an, cdv, ct, h1, h3⟩ := h
  rw [h1]
  show Option.map _ (body[i]?) = _
  rw [h3]; rfl
theorem lawAt_fn {i : Nat} {oc : Value} {od : Option Addr} {osl : Array (Option Value)} {nm qual : Str} {ps : Arguments} {body : List Stmt} {sc : Scope} {dV kV doc pm cdv ct : Value} {an : Option Addr} {st : Stmt} {o : Option Obj} {nm' : Str} {sc' : Scope} {st' : Stmt} (h : lawAt i o = some (nm', sc', st')) (e : o = some ⟨oc, od, .func (fnOf nm qual ps body sc dV kV doc pm an cdv ct), osl⟩) (e2 : body[i]? = some st) : nm' = nm ∧ sc' = sc ∧ st' = st := by
  subst e
  have h2 : Option.map (fun st => (nm, sc, st)) (body[i]?) = some (nm', sc', st') := h
  rw [e2] at h2
  cases h2
  exact ⟨rfl, rfl, rfl⟩
noncomputable abbrev tabs0 : List (Addr × Obj) := [(37, tabObj #[]), (30, tabObj #[])]
theorem flat16 : (List.replicate 16 [(0 : Int)]).flatten = List.replicate 16 0 := by decide
theorem map_range (ks : List Int) (f : Int → Int) (n : Nat) (h : ks.length = n) : (List.range n).map (fun j => f (ks.getD j 0)) = ks.map f := by
  apply List.ext_getElem
  · simp [h]
  · intro i h1 h2
    have : i < ks.length := by simpa using h2
    simp [List.getD_eq_getElem?_getD, this]
section
variable {prog : Program} {w : World} {s : Shared} {g : Heap} {mg mb : Str → Option Value} {p : Program} {loose : List Str} {mean : ExcName → Option Value} {dp un : Nat} {fr : Option (List Env)} {gd : Option (List Code)}
  {Q : Flow → Shared → Prop} {nm : Str} {sc : Scope} {L fa : Addr} {cd : Value} {st : Stmt} {m : Str → Option Value}
theorem st0 (hst : LawS w nm sc 0 st) (X : (hd.heap_1 w.params).In g) (T : Top p loose mean mg mb g) (hroom : dp + 200 < recursionLimit) (hu : un + 200 < cLine)
   {S0 : Addr} {vs : List Value} {ws : List Int} (hl : g.IsList S0 vs.toArray) (hi : IntsAre vs ws) (hlen : ws.length ≤ 63) {oT oB oN oM : Obj} (dM : oM.data = .cell none) (l0 : @LT.lt Nat _ 37 L ∧ @LT.lt Nat _ 30 L)
   (F : Fr g L s.heap m) (hm1 : m "script" = some (.ref S0))
   (N : News g L s.heap ((L + 1 + 1 + 1 + 1, oT) :: (L + 1 + 1 + 1, oB) :: (L + 1 + 1, oN) :: (L + 1, oM) :: tabs0))
   (ret : ∀ h' tk oM' tm, oM'.data = .cell (some (.int (1 + ws.sum % 4) tm)) → Fr g L h' m → News g L h' ((L + 1 + 1 + 1 + 1, oT) :: (L + 1 + 1 + 1, oB) :: (L + 1 + 1, oN) :: (L + 1, oM') :: tabs0) → Q .next { s with heap := h', toks := tk }) :
   wpAny (model prog w) ((AA dp un fr gd).deeper (envOfC nm sc L fa cd)) (exec st (envOfC nm sc L fa cd)) Q (fun _ _ => False) s := by
  have h2 := lawAt_fn hst.at_ (show (hd.heap_1 w.params).lookup 78 = _ by k_is) rfl
  obtain ⟨e1, e2, e3⟩ := h2
  subst e1 e2 e3
  clear hst
  rw [map_chain hm1] at F
  walk_at "my steps"
  (rename Fr _ _ _ _ => F6); (rename News _ _ _ _ => N6); (rename Obj.data _ = Data.cell (some (Value.int _ _)) => d6)
  rw [← map_chain hm1] at F6
  rw [Int.fmod_eq_emod_of_nonneg _ (by decide)] at d6
  exact ret _ _ _ _ d6 F6 N6
theorem st1 (hst : LawS w nm sc 1 st) (X : (hd.heap_1 w.params).In g) (T : Top p loose mean mg mb g) (hroom : dp + 200 < recursionLimit) (hu : un + 200 < cLine)
   {S0 : Addr} {vs : List Value} {ws : List Int} (hl : g.IsList S0 vs.toArray) (hi : IntsAre vs ws) (hlen : ws.length ≤ 63) {oT oB oN oM : Obj} (dN : oN.data = .cell none) (l0 : @LT.lt Nat _ 37 L ∧ @LT.lt Nat _ 30 L)
   (F : Fr g L s.heap m) (hm1 : m "script" = some (.ref S0))
   (N : News g L s.heap ((L + 1 + 1 + 1 + 1, oT) :: (L + 1 + 1 + 1, oB) :: (L + 1 + 1, oN) :: (L + 1, oM) :: tabs0))
   (ret : ∀ h' tk oN' DN us e, oN'.data = .cell (some (.ref DN)) → IntsAre us (((ws ++ List.replicate 16 0).take 16).map fun x => x % 9 - 4) → Fr g L h' m → News g L h' ((DN, listOf us.toArray e) :: (L + 1 + 1 + 1 + 1, oT) :: (L + 1 + 1 + 1, oB) :: (L + 1 + 1, oN') :: (L + 1, oM) :: tabs0) → Q .next { s with heap := h', toks := tk }) :
   wpAny (model prog w) ((AA dp un fr gd).deeper (envOfC nm sc L fa cd)) (exec st (envOfC nm sc L fa cd)) Q (fun _ _ => False) s := by
  have h2 := lawAt_fn hst.at_ (show (hd.heap_1 w.params).lookup 78 = _ by k_is) rfl
  obtain ⟨e1, e2, e3⟩ := h2
  subst e1 e2 e3
  clear hst
  rw [map_chain hm1] at F
  refine' wpAny_Assign_Name ?_ ?hsw
  case hsw => with_unfolding_all rfl
  refine' comp_local (x := "number") ?hclos2 ?hcell2 ?hkind2 ?hnames2 ?hx2 ?_
  case hclos2 => with_unfolding_all rfl
  case hcell2 => decide
  case hkind2 => rfl
  case hnames2 => decide
  case hx2 => rfl
  walk_at "my steps"
  (rename News _ _ _ _ => N8); (rename Fr _ _ _ _ => F8); (rename IntsAre _ (List.take 16 _) => hI)
  rw [← map_chain hm1] at F8
  rename_i D0 us0 h8 hC hL l8
  obtain ⟨ks, hks⟩ : ∃ ks : List Int, (ws ++ List.replicate 16 0).take 16 = ks := ⟨_, rfl⟩
  have hI : IntsAre us0 ks := by rw [← hks, ← flat16]; exact hI
  have hkl : ks.length = 16 := by rw [← hks]; simp
  rw [hks] at ret
  refine src_list_n (n := 16) (by rw [List.size_toArray, hI.length, hkl]) rfl (N8.isList (.head _)) (by decide) ?_
  refine ⟨fun _ => true, fun j y _ => ∃ t, y = .int (ks.getD j 0 % 9 - 4) t, fun _ _ _ _ h _ => h, fun g' C i v h tk m cled led _ _ _ _ _ _ F1 N1 => tests_nil F1 N1, ?elt, ?done⟩
  case elt =>
    rintro g3 C2 j v h3 tk3 m3 cled3 led3 hg3 - hj hP - hv hcl3 F4 N4
    have hc3 : cled3 = [] := List.map_eq_nil_iff.mp hcl3
    subst hc3
    obtain ⟨t, ht⟩ := hI.get j (ks.getD j 0) (by rw [List.getD_eq_getElem?_getD, List.getElem?_eq_getElem (by omega)]; rfl)
    rw [List.getElem?_toArray, ht] at hP
    cases hP
    obtain ⟨k, hk⟩ : ∃ k, ks.getD j 0 = k := ⟨_, rfl⟩
    rw [hk] at hv
    dsimp only
    rw [hk]
    simp only [List.nil_append] at N4
    clear hg3 hcl3 N8 F8 l8
    walk_at "my steps"
    have e9 := Int.fmod_eq_emod_of_nonneg k (show (0 : Int) ≤ 9 by decide)
    exact ⟨_, _, [], rfl, by assumption, by assumption, (fun _ h => nomatch h), _, congrArg (fun z => Value.int (z - 4) _) e9⟩
  case done =>
    intro D' h' tk' ys made eg hk hDf hD' hP hm' hyn
    rw [range_all] at hP
    have hI2 := ints_paired hP
    rw [map_range ks (fun x => x % 9 - 4) 16 hkl] at hI2
    have F2 := back_fr F8 (tabs := []) (fun b o _ e => hk b o e) (fun b hb => nomatch hb) (fun hb => nomatch hb)
    have N2 := back_new F8 (back_old N8 (tabs := []) (fun b o _ e => hk b o e) (fun q _ hb => nomatch hb)) hDf hD'
    clear hk hP hm' hD' hyn F8
    have N2 : News g L h' ((D', listOf ys.toArray eg) :: (L + 1 + 1 + 1 + 1, oT) :: (L + 1 + 1 + 1, oB) :: (L + 1 + 1, oN) :: (L + 1, oM) :: tabs0) := fun q hq => N2 q (by (first | (revert q; k_extra "sub") | (refine (fun (h0 : ∀ q0 ∈ _, q0 ∈ _) => h0 _ hq) ?_; k_extra "sub") | (simp only [List.mem_cons, List.not_mem_nil, or_false] at hq ⊢; grind)))
    have ne : ∀ q ∈ (L + 1 + 1 + 1 + 1, oT) :: (L + 1 + 1 + 1, oB) :: (L + 1 + 1, oN) :: (L + 1, oM) :: tabs0, q.1 ≠ D' := fun q hq e => by
      have := (N8 q (by (first | (revert q; k_extra "sub") | (refine (fun (h0 : ∀ q0 ∈ _, q0 ∈ _) => h0 _ hq) ?_; k_extra "sub") | (simp only [List.mem_cons, List.not_mem_nil, or_false] at hq ⊢; grind)))).1
      rw [e, hDf] at this; cases this
    have ne1 : D' ≠ L + 1 + 1 := (ne (L + 1 + 1, oN) (by simp)).symm
    clear N8 hDf ne
    dsimp only
    walk_at "my steps"
    (rename Fr _ _ _ _ => F6); (rename News _ _ _ _ => N6); (rename Obj.data _ = Data.cell (some (Value.ref _)) => d6)
    exact ret _ _ _ _ _ _ d6 hI2 F6 N6
end
end Mine
end
section
open PySem PySem.W PySem.Spec PySem.Calls PyProof.Rows
set_option Elab.async false
set_option maxRecDepth 100000
set_option maxHeartbeats 8000000
namespace Mine
theorem mem_e2_L2 {x a0 a1 : Addr × Obj} (h : x ∈ [a0, a1]) : x = a0 ∨ x = a1 := by simpa using h
theorem mem_t4_L2 {x a0 a1 a2 a3 : Addr × Obj} {l : List (Addr × Obj)} (h : x ∈ a0 :: a1 :: a2 :: a3 :: l) : x = a0 ∨ x = a1 ∨ x = a2 ∨ x = a3 ∨ x ∈ l := by simpa using h
theorem kwL2 : True := by
  k_with_none
  k_with "mem1" => (first | (with_reducible exact List.mem_cons_self) | (with_reducible assumption) | (with_reducible refine List.mem_append_right _ ?_; k_extra "mem1") | (with_reducible refine List.mem_append_left _ ?_; k_extra "mem1") | (with_reducible refine List.mem_cons_of_mem _ ?_; k_extra "mem1"))
  k_with "sub" => (first | (intro _ hq0; k_extra "tl") | (with_reducible exact List.forall_mem_nil _) | ((with_reducible refine List.forall_mem_cons.mpr (And.intro ?_ ?_)); (focus k_extra "mem1"); k_extra "sub") | ((with_reducible refine List.forall_mem_append.mpr (And.intro ?_ ?_)); (focus k_extra "sub"); k_extra "sub"))
  k_with "tl" => (first | (with_reducible assumption) | (with_reducible refine List.mem_append_right _ ?_; k_extra "tl") | (with_reducible refine List.mem_append_left _ ?_; k_extra "tl") | (with_reducible refine List.mem_cons_of_mem _ ?_; k_extra "tl"))
  k_with "my steps" => (repeat' ((fail_if_success (with_reducible show wpAny _ _ (pyIter _) _ _ _)); (fail_if_success (with_reducible show wpAny _ _ (eval (Expr.ListComp _ _ _ _) _) _ _ _)); (first | (k_unfold; (try dsimp only)) | k_extra "own" | walk1 | (dsimp only; (first | k_extra "own" | walk1)) | (leave1; try dsimp only))))
  k_with "own" => ((k_here; (with_reducible show wpAny _ _ (eval (Expr.Name _ _) (compEnvC _ _ _ _)) _ _ _); (with_reducible rename Fr _ _ _ _ => F''); k_dflt (first
  | (refine' base_free F'' (by rfl) (by with_reducible assumption) (by with_reducible assumption) ?_ (by rfl) (by rfl); k_whole)
  | (refine' comp_name F'' (by with_reducible assumption) ?_ (by rfl) (by rfl); k_whole)
  | (refine' base_cell F'' (by rfl) (by with_reducible assumption) (by with_reducible assumption) ?_ (by rfl) (by rfl); k_whole))))
  k_with "own" => ((k_here; (with_reducible show wpAny _ _ (subscriptTail _ (PySem.Expr.Slice (some _) (some _) none _) (Value.ref _) (Value.ref _)) _ _ _); (with_reducible rename Fr _ _ _ _ => F''); (with_reducible rename News _ _ _ _ => N''); k_dflt (refine' row_cut F'' N'' (by with_reducible assumption) (by with_reducible assumption) (by omega) (by omega) (by omega) (by omega) (by omega) ?_ (by with_unfolding_all rfl) (by kmk_pure)); intro _ _ _ _ _ l1 z0; (try k_lt l1); (revert l1 z0; intro _ _)))
  trivial
section
variable {prog : Program} {w : World} {A : Around} {E : Value → Shared → Prop} {s : Shared} {h₀ : Heap} {L a : Addr} {m : Str → Option Value} {news : List (Addr × Obj)} {ks : List Int} {k : Int} {u : Tok} {value slice : Expr}
theorem row_cut {Q : Value → Shared → Prop} (F : Fr h₀ L s.heap m) (N : News h₀ L s.heap news) {vs : List Value} (hl : h₀.IsList a vs.toArray) (hi : IntsAre vs ks) {x y : Int} {u v : Tok} (h0 : 0 ≤ x) (h1 : 0 ≤ y) (hx : x.toNat ≤ ks.length) (hy : y.toNat ≤ ks.length) (hs : ks.length ≤ 1000)
    (h : ∀ D h' zs, Fr h₀ L h' m → News h₀ L h' ((D, listOf zs.toArray 0) :: news) → (∀ p ∈ news, p.1 < D) → IntsAre zs ((ks.drop x.toNat).take (y.toNat - x.toNat)) → Q (.ref D) { s with heap := h' })
    (he : subscripted slice false (.ref a) (.ref s.heap.objs.size) = operate [.ref s.heap.objs.size, .ref a] (getItem (.ref a) (.ref s.heap.objs.size))) (ht : ∀ r, letTemporaryGo value (.ref a) r = pure ()) :
    wpAny (model prog w) A (subscriptTail value slice (.ref a) (.ref s.heap.objs.size)) Q E { s with heap := s.heap.push { cls := .type "slice", data := .fields #[.int x u, .int y v, .none] } } := by
  have hlen := hi.length
  refine kms_slice_lit (vl := .int x u) (vu := .int y v) (lo := some x) (hi := some y) (zs := (vs.drop x.toNat).take (y.toNat - x.toNat)) F N (Fr.lst F hl) (IsPart.int _ _) (IsPart.int _ _) ?_ (fun D h' F' N' l => h D h' _ F' N' l ((hi.drop _).take _)) he ht ?_
  · show (vs.drop (kms_lo _ vs.length)).take (kms_hi _ vs.length - kms_lo _ vs.length) = _
    simp only [kms_lo, kms_hi, if_neg (Int.not_lt.mpr h0), if_neg (Int.not_lt.mpr h1)]
    rw [Nat.min_eq_left (by omega), Nat.min_eq_left (by omega)]
  · have : vs.toArray.size = vs.length := by simp
    rw [this, hlen]; exact Nat.le_trans hs (by decide)
theorem store_cellL {M : Model} {g : Heap} {Q : Unit → Shared → Prop} {env : Env} {x : Str} {c : Addr} {oc : Obj} {v : Value} {pre post : List (Addr × Obj)} (hk : env.scope.kind = .function) (hx : env.kindOf x = some .cell) (hc : env.cells.lookup x = some c)
    (F : Fr g L s.heap m) (N : News g L s.heap (pre ++ (c, oc) :: post)) (h1 : ∀ q ∈ pre, q.1 ≠ c) (h2 : ∀ q ∈ post, q.1 ≠ c) (hoc : ∃ v, oc.data = .cell v)
    (h : ∀ h' oc', oc'.data = .cell (some v) → Fr g L h' m → News g L h' (pre ++ (c, oc') :: post) → Q () { s with heap := h' }) : wpAny M A (storeName env x v) Q E s := by
  have z := N (c, oc) (List.mem_append_right _ (.head _))
  obtain ⟨v₀, hd⟩ := hoc
  refine wpAny_storeName_cell hk hx hc ⟨oc, z.1, hd⟩ fun h' hv hs => ?_
  obtain ⟨o', ho', hd'⟩ := hv
  exact h h' o' hd' (F.change hs z.2.1 z.2.2) (news_set N h1 h2 hs ho')
end
/-- the law's table -/
noncomputable abbrev tabM (ks : List Int) (n : Nat) : Nat → Nat → Int := fun j k => ks.getD (n * j + k) 0
theorem tabM_row (ks : List Int) (n j : Nat) (hj : j < n) (hn : n ≤ 4) (hk : ks.length = 16) : (ks.drop (n * j)).take n = rowL n (tabM ks n j) := by
  have h1 : n * j + n ≤ 16 := by
    have : n * j + n = n * (j + 1) := by rw [Nat.mul_succ]
    rw [this]
    exact Nat.le_trans (Nat.mul_le_mul_left n hj) (Nat.mul_le_mul hn hn)
  apply List.ext_getElem
  · simp [hk]; omega
  · intro i h2 h3
    have hi : i < n := by simpa using h3
    simp [List.getD_eq_getElem?_getD]
    rw [List.getElem?_eq_getElem (by omega)]; rfl
section
variable {prog : Program} {w : World} {s : Shared} {g : Heap} {mg mb : Str → Option Value} {p : Program} {loose : List Str} {mean : ExcName → Option Value} {dp un : Nat} {fr : Option (List Env)} {gd : Option (List Code)}
  {Q : Flow → Shared → Prop} {nm : Str} {sc : Scope} {L fa : Addr} {cd : Value} {st : Stmt} {m : Str → Option Value}
theorem st2 (hst : LawS w nm sc 2 st) (X : (hd.heap_1 w.params).In g) (T : Top p loose mean mg mb g) (hroom : dp + 200 < recursionLimit) (hu : un + 200 < cLine)
   {DN : Addr} {us : List Value} {ks : List Int} {eN : Nat} (hi : IntsAre us ks) (hkl : ks.length = 16) {n : Nat} (hn1 : 1 ≤ n) (hn : n ≤ 4) {tm : Tok} {oT oB oN oM : Obj} (dN : oN.data = .cell (some (.ref DN))) (dM : oM.data = .cell (some (.int (n : Int) tm))) (dB : oB.data = .cell none) (l0 : @LT.lt Nat _ 37 L ∧ @LT.lt Nat _ 30 L)
   (F : Fr g L s.heap m)
   (N : News g L s.heap ((DN, listOf us.toArray eN) :: (L + 1 + 1 + 1 + 1, oT) :: (L + 1 + 1 + 1, oB) :: (L + 1 + 1, oN) :: (L + 1, oM) :: tabs0))
   (ret : ∀ h' tk oB' DT e rl, oB'.data = .cell (some (.ref DT)) → Mat n (tabM ks n) rl → (∀ q ∈ (DT, listOf (refsOf rl).toArray e) :: rl, q.1 ≠ 30 ∧ q.1 ≠ 37 ∧ q.1 ≠ L + 1 + 1 + 1 + 1) → Fr g L h' m → News g L h' ((DT, listOf (refsOf rl).toArray e) :: (L + 1 + 1 + 1 + 1, oT) :: (L + 1 + 1 + 1, oB') :: (L + 1 + 1, oN) :: (L + 1, oM) :: (37, tabObj #[]) :: (30, tabObj #[]) :: rl) → Q .next { s with heap := h', toks := tk }) :
   wpAny (model prog w) ((AA dp un fr gd).deeper (envOfC nm sc L fa cd)) (exec st (envOfC nm sc L fa cd)) Q (fun _ _ => False) s := by
  have h2 := lawAt_fn hst.at_ (show (hd.heap_1 w.params).lookup 78 = _ by k_is) rfl
  obtain ⟨e1, e2, e3⟩ := h2
  subst e1 e2 e3
  clear hst
  refine' wpAny_Assign_Name ?_ ?hsw
  case hsw => with_unfolding_all rfl
  refine' comp_local (x := "k") ?hclos2 ?hcell2 ?hkind2 ?hnames2 ?hx2 ?_
  case hclos2 => with_unfolding_all rfl
  case hcell2 => decide
  case hkind2 => rfl
  case hnames2 => decide
  case hx2 => rfl
  walk_at "my steps"
  (rename IsRange _ _ _ _ _ _ _ _ => hR); (rename News _ _ _ _ => N8); (rename Fr _ _ _ _ => F8)
  refine src_range (n := n) rfl hR ?small ?size (Nat.le_trans hn (by decide)) ?_
  case small => exact small_nat (by decide) (by decide) (by omega) (by omega)
  case size => rw [rangeSize_nat]; omega
  refine ⟨fun _ => true, fun j y made => ∃ r vs cnt, y = .ref r ∧ (r, listOf vs.toArray cnt) ∈ made ∧ IntsAre vs (rowL n (tabM ks n j)), (by rintro i y l l' ⟨r, vs, c, h1, h2, h3⟩ hs; exact ⟨r, vs, c, h1, hs _ h2, h3⟩), fun g' C i v h tk m cled led _ _ _ _ _ _ F1 N1 => tests_nil F1 N1, ?elt, ?done⟩
  case elt =>
    rintro g3 C2 j v h3 tk3 m3 cled3 led3 hg3 - hj ⟨tv, rfl⟩ - hv hcl3 F4 N4
    have hc3 : cled3 = [] := List.map_eq_nil_iff.mp hcl3
    subst hc3
    have e0 : (0 : Int) + (j : Int) * 1 = (j : Int) := by omega
    rw [e0] at hv
    simp only [List.nil_append] at N4
    have hcellN : g3.get? (L + 1 + 1) = some oN := hg3 _ _ (N8 (L + 1 + 1, oN) (by k_mem)).1
    have hcellM : g3.get? (L + 1) = some oM := hg3 _ _ (N8 (L + 1, oM) (by k_mem)).1
    have hDN : g3.IsList DN us.toArray := ⟨_, hg3 _ _ (N8 (DN, listOf us.toArray eN) (.head _)).1, rfl, eN, rfl⟩
    have hnj : n * j + n ≤ 16 := by
      have : n * j + n = n * (j + 1) := by rw [Nat.mul_succ]
      rw [this]
      exact Nat.le_trans (Nat.mul_le_mul_left n hj) (Nat.mul_le_mul hn hn)
    obtain ⟨nj, hnj2⟩ : ∃ nj : Nat, n * j = nj := ⟨_, rfl⟩
    have hnj3 : (n : Int) * (j : Int) = (nj : Int) := by rw [← hnj2]; simp
    have hj' : (j : Int) ≤ 3 := by omega
    clear hg3 hcl3 N8 F8 hR
    dsimp only
    walk_at "my steps"
    (rename Fr _ _ _ _ => F5); (rename News _ _ _ _ => N5); (rename IntsAre _ (List.take _ _) => hI)
    rename_i Dz hz zs lz
    rw [hnj3] at hI
    have ea : ((nj : Int) + (n : Int)).toNat - ((nj : Int)).toNat = n := by omega
    rw [ea, Int.toNat_natCast, ← hnj2, tabM_row ks n j hj hn hkl] at hI
    refine ⟨_, _, [(Dz, listOf zs.toArray 0)], rfl, F5, N5, ?_, Dz, zs, 0, rfl, .head _, hI⟩
    intro q hq r hr
    rw [List.mem_singleton.mp hq]
    exact Nat.ne_of_gt (lz r hr)
  case done =>
    intro D' h' tk' ys made eg hk hDf hD' hP hm' hyn
    have hnd := hyn fun i y l h => by
      obtain ⟨r, vs, c, h1, h2, _⟩ := h
      exact ⟨r, _, h1, h2⟩
    rw [range_all] at hP
    obtain ⟨rl, hrl, hrs, hmat⟩ := mat_of hP hnd
    subst hrl
    have F4 := back_fr F8 (tabs := []) (fun b o _ e => hk b o e) (fun b hb => nomatch hb) (fun hb => nomatch hb)
    have N4 := back_old N8 (tabs := []) (fun b o _ e => hk b o e) (fun q _ hb => nomatch hb)
    have N5 : News g L h' ([(D', listOf (refsOf rl).toArray eg), (L + 1 + 1 + 1 + 1, oT)] ++ (L + 1 + 1 + 1, oB) :: ((L + 1 + 1, oN) :: (L + 1, oM) :: (37, tabObj #[]) :: (30, tabObj #[]) :: rl)) := fun q hq => by
      simp only [List.mem_append, List.mem_cons, List.not_mem_nil, or_false] at hq
      rcases hq with (rfl | rfl) | rfl | rfl | rfl | rfl | rfl | hq
      · exact back_new F8 N4 hDf hD' _ (.head _)
      · exact N4 _ (by simp)
      · exact N4 _ (by simp)
      · exact N4 _ (by simp)
      · exact N4 _ (by simp)
      · exact N4 _ (by simp)
      · exact N4 _ (by simp)
      · exact back_made F8 N4 (made := made) (fun q hq => ⟨(hm' q hq).1, (hm' q hq).2.1⟩) q (List.mem_append_left _ (hrs q hq))
    have fr1 : ∀ q ∈ (D', listOf (refsOf rl).toArray eg) :: rl, ∀ r ∈ (L + 1 + 1 + 1 + 1, oT) :: (L + 1 + 1 + 1, oB) :: (L + 1 + 1, oN) :: (L + 1, oM) :: tabs0, q.1 ≠ r.1 := fun q hq r hr e => by
      have h2 := (N8 r (.tail _ hr)).1
      rcases List.mem_cons.mp hq with rfl | hq
      · have h3 := hDf
        rw [show D' = r.1 from e] at h3
        cases h3.symm.trans h2
      · have h3 := (hm' q (hrs q hq)).2.1
        rw [e] at h3
        cases h3.symm.trans h2
    refine' store_cellL (c := L + 1 + 1 + 1) rfl rfl rfl F4 N5 ?_ ?_ ⟨_, dB⟩ ?_
    · intro q hq
      replace hq := mem_e2_L2 hq
      rcases hq with rfl | rfl
      · exact fr1 _ (.head _) (L + 1 + 1 + 1, oB) (by simp)
      · exact Nat.ne_of_gt (Nat.lt_succ_self _)
    · intro q hq
      replace hq := mem_t4_L2 hq
      rcases hq with rfl | rfl | rfl | rfl | hq
      · exact Nat.ne_of_lt (Nat.lt_succ_self _)
      · exact Nat.ne_of_lt (Nat.lt_succ_of_lt (Nat.lt_succ_self _))
      · exact Nat.ne_of_lt (Nat.lt_succ_of_lt (Nat.lt_succ_of_lt (Nat.lt_succ_of_lt l0.1)))
      · exact Nat.ne_of_lt (Nat.lt_succ_of_lt (Nat.lt_succ_of_lt (Nat.lt_succ_of_lt l0.2)))
      · exact fr1 q (.tail _ hq) (L + 1 + 1 + 1, oB) (by simp)
    · intro h6 oB' dB' F6 N6
      refine' ret _ _ oB' D' eg rl dB' hmat ?_ F6 (fun q hq => N6 q (by (first | (revert q; k_extra "sub") | (refine (fun (h0 : ∀ q0 ∈ _, q0 ∈ _) => h0 _ hq) ?_; k_extra "sub") | (simp only [List.mem_append, List.mem_cons, List.not_mem_nil, or_false] at hq ⊢; grind))))
      intro q hq
      exact ⟨fr1 q hq (30, tabObj #[]) (by simp), fr1 q hq (37, tabObj #[]) (by simp), fr1 q hq (L + 1 + 1 + 1 + 1, oT) (by simp)⟩
end
end Mine
end
section
open PySem PySem.W PySem.Spec PySem.Calls PyProof.Rows
set_option Elab.async false
set_option maxRecDepth 100000
set_option maxHeartbeats 8000000
namespace Mine
theorem mem_e3_L3 {x a0 a1 a2 : Addr × Obj} (h : x ∈ [a0, a1, a2]) : x = a0 ∨ x = a1 ∨ x = a2 := by simpa using h
theorem mem_t7_L3 {x a0 a1 a2 a3 a4 a5 a6 : Addr × Obj} {l : List (Addr × Obj)} (h : x ∈ a0 :: a1 :: a2 :: a3 :: a4 :: a5 :: a6 :: l) : x = a0 ∨ x = a1 ∨ x = a2 ∨ x = a3 ∨ x = a4 ∨ x = a5 ∨ x = a6 ∨ x ∈ l := by simpa using h
theorem kwL3 : True := by
  k_with_none
  k_with "mem1" => (first | (with_reducible exact List.mem_cons_self) | (with_reducible assumption) | (with_reducible refine List.mem_append_right _ ?_; k_extra "mem1") | (with_reducible refine List.mem_append_left _ ?_; k_extra "mem1") | (with_reducible refine List.mem_cons_of_mem _ ?_; k_extra "mem1"))
  k_with "sub" => (first | (intro _ hq0; k_extra "tl") | (with_reducible exact List.forall_mem_nil _) | ((with_reducible refine List.forall_mem_cons.mpr (And.intro ?_ ?_)); (focus k_extra "mem1"); k_extra "sub") | ((with_reducible refine List.forall_mem_append.mpr (And.intro ?_ ?_)); (focus k_extra "sub"); k_extra "sub"))
  k_with "tl" => (first | (with_reducible assumption) | (with_reducible refine List.mem_append_right _ ?_; k_extra "tl") | (with_reducible refine List.mem_append_left _ ?_; k_extra "tl") | (with_reducible refine List.mem_cons_of_mem _ ?_; k_extra "tl"))
  k_with "my steps" => (repeat' ((fail_if_success (with_reducible show wpAny _ _ (pyIter _) _ _ _)); (fail_if_success (with_reducible show wpAny _ _ (eval (Expr.ListComp _ _ _ _) _) _ _ _)); (first | (k_unfold; (try dsimp only)) | walk1 | (dsimp only; walk1) | (leave1; try dsimp only))))
  trivial
theorem paired_get {α β : Type} {F : α → β → Prop} : ∀ {l₁ : List α} {l₂ : List β}, l₁.length = l₂.length → (∀ (i : Nat) a b, l₁[i]? = some a → l₂[i]? = some b → F a b) → Paired F l₁ l₂
  | [], [], _, _ => .nil
  | [], _ :: _, h, _ => by cases h
  | _ :: _, [], h, _ => by cases h
  | a :: r, b :: t, h, f => .cons (f 0 a b rfl rfl) (paired_get (by simpa using h) fun i x y hx hy => f (i + 1) x y (by simpa using hx) (by simpa using hy))
theorem mat_tab {h : Heap} {D : Addr} {rl : List (Addr × Obj)} {e n : Nat} {M : Nat → Nat → Int} (hD : h.get? D = some (listOf (refsOf rl).toArray e)) (hr : ∀ q ∈ rl, h.get? q.1 = some q.2) (T : Mat n M rl) : IsTab h D (matL n M) := by
  refine ⟨refsOf rl, e, hD, paired_get (by simp [T.len]) fun i a b ha hb => ?_⟩
  have hi : i < n := by have := (List.getElem?_eq_some_iff.mp ha).1; simpa using this
  obtain ⟨vs, e', h1, h2⟩ := T.adr_of hi
  rw [refs_get (by rw [T.len]; exact hi)] at hb
  cases hb
  rw [List.getElem?_map, List.getElem?_range hi] at ha
  cases ha
  exact ⟨_, rfl, vs, e', hr _ (List.mem_of_getElem? h1), h2⟩
section
variable {prog : Program} {w : World} {s : Shared} {g : Heap} {mg mb : Str → Option Value} {p : Program} {loose : List Str} {mean : ExcName → Option Value} {dp un : Nat} {fr : Option (List Env)} {gd : Option (List Code)}
  {Q : Flow → Shared → Prop} {nm : Str} {sc : Scope} {L fa : Addr} {cd : Value} {st : Stmt} {m : Str → Option Value}
theorem st3 (hst : LawS w nm sc 3 st) (X : (hd.heap_1 w.params).In g) (T : Top p loose mean mg mb g) (hroom : dp + 200 < recursionLimit) (hu : un + 200 < cLine)
   (g30 : g.get? 30 = none) (g37 : g.get? 37 = none) (l0 : @LT.lt Nat _ 37 L ∧ @LT.lt Nat _ 30 L) (C30 : CodeHd g 34 30) (C37 : CodeHd g 41 37)
   {n : Nat} (hn1 : 1 ≤ n) (hn : n ≤ 4) {oT oB oN oM : Obj} {DT : Addr} {e : Nat} {rl : List (Addr × Obj)} {M : Nat → Nat → Int} (hM : Mat n M rl) (hbd : ∀ i j, -16 ≤ M i j ∧ M i j ≤ 16) (dB : oB.data = .cell (some (.ref DT))) (dT : oT.data = .cell none)
   (hap : ∀ q ∈ (DT, listOf (refsOf rl).toArray e) :: rl, q.1 ≠ 30 ∧ q.1 ≠ 37 ∧ q.1 ≠ L + 1 + 1 + 1 + 1)
   (F : Fr g L s.heap m)
   (N : News g L s.heap ((DT, listOf (refsOf rl).toArray e) :: (L + 1 + 1 + 1 + 1, oT) :: (L + 1 + 1 + 1, oB) :: (L + 1 + 1, oN) :: (L + 1, oM) :: (37, tabObj #[]) :: (30, tabObj #[]) :: rl))
   (ret : ∀ h' tk m' oT' Dt SL sv e1 tt t1 t2 t, oT'.data = .cell (some (.ref Dt)) → m' "due" = some (.int (dtL n M) t2) → Tb.Ok t g → tt ≤ n → IntsAre sv ((List.range tt).map fun i => dtL (i + 1) M) → Fr g L h' m' →
     (∀ q ∈ (DT, listOf (refsOf rl).toArray e) :: (L + 1 + 1 + 1 + 1, oT') :: (L + 1 + 1 + 1, oB) :: (L + 1 + 1, oN) :: (L + 1, oM) :: (Dt, { cls := .type "tuple", data := .seq #[.int (dtL n M) t1, .ref SL] }) :: (SL, listOf sv.toArray e1) :: rl, q.1 ≠ 30 ∧ q.1 ≠ 37) →
     News g L h' ((DT, listOf (refsOf rl).toArray e) :: (L + 1 + 1 + 1 + 1, oT') :: (L + 1 + 1 + 1, oB) :: (L + 1 + 1, oN) :: (L + 1, oM) :: (Dt, { cls := .type "tuple", data := .seq #[.int (dtL n M) t1, .ref SL] }) :: (SL, listOf sv.toArray e1) :: (t.led ++ rl)) → Q .next { s with heap := h', toks := tk }) :
   wpAny (model prog w) ((AA dp un fr gd).deeper (envOfC nm sc L fa cd)) (exec st (envOfC nm sc L fa cd)) Q (fun _ _ => False) s := by
  have h2 := lawAt_fn hst.at_ (show (hd.heap_1 w.params).lookup 78 = _ by k_is) rfl
  obtain ⟨e1, e2, e3⟩ := h2
  subst e1 e2 e3
  clear hst
  have l30 : (30 : Addr) ≠ L := Nat.ne_of_lt l0.2
  have l37 : (37 : Addr) ≠ L := Nat.ne_of_lt l0.1
  have c30 : ∀ q ∈ (L + 1 + 1 + 1 + 1, oT) :: (L + 1 + 1 + 1, oB) :: (L + 1 + 1, oN) :: [(L + 1, oM)], q.1 ≠ 30 ∧ q.1 ≠ 37 := fun q hq => by
    simp only [List.mem_cons, List.not_mem_nil, or_false] at hq
    have a1 : @LT.lt Nat _ 37 L := l0.1
    have a2 : @LT.lt Nat _ 30 L := l0.2
    rcases hq with rfl | rfl | rfl | rfl <;> exact ⟨Nat.ne_of_gt (by omega), Nat.ne_of_gt (by omega)⟩
  walk_at "my steps"
  have IT : IsTab s.heap DT (matL n M) := mat_tab (N _ (.head _)).1 (fun q hq => (N q (by (first | k_extra "mem1" | (simp only [List.mem_cons]; grind)))).1) hM
  have tin : TabsH s.heap := ⟨⟨#[], (N (30, tabObj #[]) (by simp)).1, .inl rfl⟩, ⟨#[], (N (37, tabObj #[]) (by simp)).1, .inl rfl⟩⟩
  refine' call_taken X T ?S ?room ?hu g30 g37 C30 C37 hn tin IT hbd ?_
  case S => exact fun b o q => F.keep b o q
  case room => show dp + 1 + 120 < _; omega
  case hu => show un + 3 + 80 < _; omega
  intro Dt SL h2 tk2 t1 sv e1 tt k2 ht2 hf2 hD2 hf3 hS2 htt hSV
  have capt : ∀ q ∈ (DT, listOf (refsOf rl).toArray e) :: (L + 1 + 1 + 1 + 1, oT) :: (L + 1 + 1 + 1, oB) :: (L + 1 + 1, oN) :: (L + 1, oM) :: rl, q.1 ≠ 30 ∧ q.1 ≠ 37 := fun q hq => by
    rcases List.mem_cons.mp hq with rfl | hq
    · have := hap _ (.head _); exact ⟨this.1, this.2.1⟩
    rcases List.mem_cons.mp hq with rfl | hq
    · exact c30 _ (by simp)
    rcases List.mem_cons.mp hq with rfl | hq
    · exact c30 _ (by simp)
    rcases List.mem_cons.mp hq with rfl | hq
    · exact c30 _ (by simp)
    rcases List.mem_cons.mp hq with rfl | hq
    · exact c30 _ (by simp)
    · have := hap q (.tail _ hq); exact ⟨this.1, this.2.1⟩
  obtain ⟨t, O, F2, N2⟩ := after_tabs (rest := (DT, listOf (refsOf rl).toArray e) :: (L + 1 + 1 + 1 + 1, oT) :: (L + 1 + 1 + 1, oB) :: (L + 1 + 1, oN) :: (L + 1, oM) :: rl) F (News.sub N (fun q hq => by
    (first | (revert q; k_extra "sub") | (refine (fun (h0 : ∀ q0 ∈ _, q0 ∈ _) => h0 _ hq) ?_; k_extra "sub") | (simp only [List.mem_cons] at hq ⊢; grind)))) g30 g37 l30 l37 k2 capt ht2 hf2 hD2
  have N2S := back_new (news := []) F (fun _ h => nomatch h) hf3 hS2
  have N3 : News g L h2 ((Dt, { cls := .type "tuple", data := .seq #[.int (dtL n M) t1, .ref SL] }) :: (SL, listOf sv.toArray e1) :: (DT, listOf (refsOf rl).toArray e) :: (L + 1 + 1 + 1 + 1, oT) :: (L + 1 + 1 + 1, oB) :: (L + 1 + 1, oN) :: (L + 1, oM) :: (30, tabObj t.p1) :: (37, tabObj t.p2) :: (t.e1, t.o1) :: (t.e2, t.o2) :: rl) := fun q hq => by
    rcases List.mem_cons.mp hq with rfl | hq
    · exact N2 _ (.head _)
    rcases List.mem_cons.mp hq with rfl | hq
    · exact N2S _ (.head _)
    · exact N2 q (by (first | (revert q; k_extra "sub") | (refine (fun (h0 : ∀ q0 ∈ _, q0 ∈ _) => h0 _ hq) ?_; k_extra "sub") | (simp only [List.mem_cons, List.mem_append, List.not_mem_nil, or_false] at hq ⊢; grind)))
  have fr2 : ∀ q ∈ (DT, listOf (refsOf rl).toArray e) :: (L + 1 + 1 + 1 + 1, oT) :: (L + 1 + 1 + 1, oB) :: (L + 1 + 1, oN) :: (L + 1, oM) :: (30, tabObj #[]) :: (37, tabObj #[]) :: rl, q.1 ≠ Dt ∧ q.1 ≠ SL := fun q hq => by
    have h := (N q (by (first | (revert q; k_extra "sub") | (refine (fun (h0 : ∀ q0 ∈ _, q0 ∈ _) => h0 _ hq) ?_; k_extra "sub") | (simp only [List.mem_cons] at hq ⊢; grind)))).1
    constructor
    · intro e; rw [e, hf2] at h; cases h
    · intro e; rw [e, hf3] at h; cases h
  clear N2 N2S k2 hf2 hD2 hf3 hS2 IT tin N
  walk_at "my steps"
  have IT2 : IsTab h2 DT (matL n M) := mat_tab (e := e) (N3 (DT, listOf (refsOf rl).toArray e) (by simp)).1 (fun q hq => (N3 q (by (first | k_extra "mem1" | (simp only [List.mem_cons]; grind)))).1) hM
  refine' call_signed X T n hn ?S ?room ?hu IT2 hbd ?_
  case S => exact fun b o q => F2.keep b o q
  case room => show dp + 1 + n + 2 < _; omega
  case hu => show un + 3 + 3 * n + 80 < _; omega
  intro h3 tk3 t3 k3
  have F3 := back_fr F2 (tabs := []) (fun b o _ e => k3 b o e) (fun b hb => nomatch hb) (fun hb => nomatch hb)
  have N4 := back_old N3 (tabs := []) (fun b o _ e => k3 b o e) (fun q _ hb => nomatch hb)
  clear IT2 F2 F N3 k3
  walk_at "my steps"
  (rename Fr _ _ _ _ => F6); (rename News _ _ _ _ => N6)
  have N7 : News g L _ ([(Dt, { cls := .type "tuple", data := .seq #[.int (dtL n M) t1, .ref SL] }), (SL, listOf sv.toArray e1), (DT, listOf (refsOf rl).toArray e)] ++ (L + 1 + 1 + 1 + 1, oT) :: ((L + 1 + 1 + 1, oB) :: (L + 1 + 1, oN) :: (L + 1, oM) :: (30, tabObj t.p1) :: (37, tabObj t.p2) :: (t.e1, t.o1) :: (t.e2, t.o2) :: rl)) := News.sub N6 (fun q hq => by
    (first | (revert q; k_extra "sub") | (refine (fun (h0 : ∀ q0 ∈ _, q0 ∈ _) => h0 _ hq) ?_; k_extra "sub") | (simp only [List.mem_cons, List.mem_append, List.not_mem_nil, or_false] at hq ⊢; grind)))
  have hcT := (N7 (L + 1 + 1 + 1 + 1, oT) (by simp)).1
  have kT : NoCode oT := fun v q t e => by rw [dT] at e; cases e
  have cT := c30 (L + 1 + 1 + 1 + 1, oT) (by simp)
  refine' store_cellL (c := L + 1 + 1 + 1 + 1) rfl rfl rfl F6 N7 ?_ ?_ ⟨_, dT⟩ ?_
  · intro q hq
    replace hq := mem_e3_L3 hq
    rcases hq with rfl | rfl | rfl
    · exact (fr2 (L + 1 + 1 + 1 + 1, oT) (by simp)).1.symm
    · exact (fr2 (L + 1 + 1 + 1 + 1, oT) (by simp)).2.symm
    · exact (hap _ (.head _)).2.2
  · intro q hq
    replace hq := mem_t7_L3 hq
    rcases hq with rfl | rfl | rfl | rfl | rfl | rfl | rfl | hq
    · exact Nat.ne_of_lt (Nat.lt_succ_self _)
    · exact Nat.ne_of_lt (Nat.lt_succ_of_lt (Nat.lt_succ_self _))
    · exact Nat.ne_of_lt (Nat.lt_succ_of_lt (Nat.lt_succ_of_lt (Nat.lt_succ_self _)))
    · exact cT.1.symm
    · exact cT.2.symm
    · exact O.a.ne (N7 (t.e1, t.o1) (by simp)).1 hcT kT cT.1
    · exact O.b.ne (N7 (t.e2, t.o2) (by simp)).1 hcT kT cT.2
    · exact (hap q (.tail _ hq)).2.2
  intro h8 oT' dT' F8 N8
  clear N7 N6 F6
  walk_at "my steps"
  (rename Fr _ _ _ _ => F9); (rename News _ _ _ _ => N9)
  refine' ret _ _ _ oT' Dt SL sv e1 tt t1 _ t dT' (if_pos rfl) O htt hSV F9 ?_ ?_
  · intro q hq
    replace hq := mem_t7_L3 hq
    rcases hq with rfl | rfl | rfl | rfl | rfl | rfl | rfl | hq
    · exact capt _ (by simp)
    · exact cT
    · exact capt (L + 1 + 1 + 1, oB) (by simp)
    · exact capt (L + 1 + 1, oN) (by simp)
    · exact capt (L + 1, oM) (by simp)
    · exact ⟨(fr2 (30, tabObj #[]) (by simp)).1.symm, (fr2 (37, tabObj #[]) (by simp)).1.symm⟩
    · exact ⟨(fr2 (30, tabObj #[]) (by simp)).2.symm, (fr2 (37, tabObj #[]) (by simp)).2.symm⟩
    · exact capt q (by (first | k_extra "mem1" | (simp only [List.mem_cons]; grind)))
  · exact News.sub N9 (fun q hq => by
      (first | (revert q; k_extra "sub") | (refine (fun (h0 : ∀ q0 ∈ _, q0 ∈ _) => h0 _ hq) ?_; k_extra "sub") | (simp only [List.mem_cons, List.mem_append, List.not_mem_nil, or_false] at hq ⊢; grind)))
end
end Mine
end
section
open PySem PySem.W PySem.Spec PySem.Calls PyProof.Rows
set_option Elab.async false
set_option maxRecDepth 100000
set_option maxHeartbeats 8000000
namespace Mine
theorem kwL4 : True := by
  k_with_none
  k_with "mem1" => (first | (with_reducible exact List.mem_cons_self) | (with_reducible assumption) | (with_reducible refine List.mem_append_right _ ?_; k_extra "mem1") | (with_reducible refine List.mem_append_left _ ?_; k_extra "mem1") | (with_reducible refine List.mem_cons_of_mem _ ?_; k_extra "mem1"))
  k_with "sub" => (first | (intro _ hq0; k_extra "tl") | (with_reducible exact List.forall_mem_nil _) | ((with_reducible refine List.forall_mem_cons.mpr (And.intro ?_ ?_)); (focus k_extra "mem1"); k_extra "sub") | ((with_reducible refine List.forall_mem_append.mpr (And.intro ?_ ?_)); (focus k_extra "sub"); k_extra "sub"))
  k_with "tl" => (first | (with_reducible assumption) | (with_reducible refine List.mem_append_right _ ?_; k_extra "tl") | (with_reducible refine List.mem_append_left _ ?_; k_extra "tl") | (with_reducible refine List.mem_cons_of_mem _ ?_; k_extra "tl"))
  k_with "my steps" => (repeat' ((fail_if_success (with_reducible show wpAny _ _ (pyIter _) _ _ _)); (fail_if_success (with_reducible show wpAny _ _ (eval (Expr.ListComp _ _ _ _) _) _ _ _)); (first | (k_unfold; (try dsimp only)) | walk1 | (dsimp only; walk1) | (leave1; try dsimp only))))
  trivial
/-- what stands when the table is told -/
structure LC (L : Addr) (n : Nat) (M : Nat → Nat → Int) (oT oB oN oM : Obj) (DT : Addr) (e : Nat) (rl : List (Addr × Obj)) (Dt SL : Addr) (t1 tm : Tok) (sv : List Value) (e1 tt : Nat) : Prop where
  n1 : 1 ≤ n
  n4 : n ≤ 4
  dT : oT.data = .cell (some (.ref Dt))
  dB : oB.data = .cell (some (.ref DT))
  dM : oM.data = .cell (some (.int (n : Int) tm))
  hM : Mat n M rl
  bd : ∀ i j, -4 ≤ M i j ∧ M i j ≤ 4
  hle : tt ≤ n
  hsv : IntsAre sv ((List.range tt).map fun i => dtL (i + 1) M)
  ap : ∀ q ∈ (DT, listOf (refsOf rl).toArray e) :: (L + 1 + 1 + 1 + 1, oT) :: (L + 1 + 1 + 1, oB) :: (L + 1 + 1, oN) :: (L + 1, oM) :: (Dt, { cls := .type "tuple", data := .seq #[.int (dtL n M) t1, .ref SL] }) :: (SL, listOf sv.toArray e1) :: rl, q.1 ≠ 30 ∧ q.1 ≠ 37
noncomputable abbrev LN (L : Addr) (n : Nat) (M : Nat → Nat → Int) (oT oB oN oM : Obj) (DT : Addr) (e : Nat) (rl : List (Addr × Obj)) (Dt SL : Addr) (t1 : Tok) (sv : List Value) (e1 : Nat) (t : Tb) : List (Addr × Obj) :=
  (DT, listOf (refsOf rl).toArray e) :: (L + 1 + 1 + 1 + 1, oT) :: (L + 1 + 1 + 1, oB) :: (L + 1 + 1, oN) :: (L + 1, oM) :: (Dt, { cls := .type "tuple", data := .seq #[.int (dtL n M) t1, .ref SL] }) :: (SL, listOf sv.toArray e1) :: (t.led ++ rl)
theorem dt_law {n : Nat} {M : Nat → Nat → Int} (hn : n ≤ 4) (bd : ∀ i j, -4 ≤ M i j ∧ M i j ≤ 4) : -1572864 ≤ dtL n M ∧ dtL n M ≤ 1572864 := dt_bound n hn M fun i j => by have := bd i j; omega
section
variable {prog : Program} {w : World} {s : Shared} {g : Heap} {mg mb : Str → Option Value} {p : Program} {loose : List Str} {mean : ExcName → Option Value} {dp un : Nat} {fr : Option (List Env)} {gd : Option (List Code)}
  {Q : Flow → Shared → Prop} {nm : Str} {sc : Scope} {L fa : Addr} {cd : Value} {st : Stmt} {m : Str → Option Value}
theorem st4 (hst : LawS w nm sc 4 st) (X : (hd.heap_1 w.params).In g) (T : Top p loose mean mg mb g) (hroom : dp + 200 < recursionLimit) (hu : un + 200 < cLine)
   {n : Nat} {M : Nat → Nat → Int} {oT oB oN oM : Obj} {DT : Addr} {e : Nat} {rl : List (Addr × Obj)} {Dt SL : Addr} {t1 tm t2 : Tok} {sv : List Value} {e1 tt : Nat} {t : Tb} (C : LC L n M oT oB oN oM DT e rl Dt SL t1 tm sv e1 tt)
   (F : Fr g L s.heap m) (hm : m "due" = some (.int (dtL n M) t2)) (N : News g L s.heap (LN L n M oT oB oN oM DT e rl Dt SL t1 sv e1 t))
   (ret : ∀ h' tk, Fr g L h' m → News g L h' (LN L n M oT oB oN oM DT e rl Dt SL t1 sv e1 t) → Q .next { s with heap := h', toks := tk }) :
   wpAny (model prog w) ((AA dp un fr gd).deeper (envOfC nm sc L fa cd)) (exec st (envOfC nm sc L fa cd)) Q (fun _ _ => False) s := by
  have h2 := lawAt_fn hst.at_ (show (hd.heap_1 w.params).lookup 78 = _ by k_is) rfl
  obtain ⟨e1, e2, e3⟩ := h2
  subst e1 e2 e3
  clear hst
  have dT := C.dT
  have dtb := dt_law C.n4 C.bd
  obtain ⟨dtb1, dtb2⟩ := dtb
  rw [map_chain hm] at F
  simp only [LN, List.cons_append, List.nil_append] at N
  walk_at "my steps"
  · (rename _ ≠ _ => hne); exact absurd rfl hne
  · rw [← map_chain hm] at F
    exact ret _ _ F N
end
end Mine
end
section
open PySem PySem.W PySem.Spec PySem.Calls PyProof.Rows PySem.SeqAt
set_option Elab.async false
set_option maxRecDepth 100000
set_option maxHeartbeats 8000000
namespace Mine
theorem mem_e2_L5 {x a0 a1 : Addr × Obj} (h : x ∈ [a0, a1]) : x = a0 ∨ x = a1 := by simpa using h
theorem kwL5 : True := by
  k_with_none
  k_with "mem1" => (first | (with_reducible exact List.mem_cons_self) | (with_reducible assumption) | (with_reducible refine List.mem_append_right _ ?_; k_extra "mem1") | (with_reducible refine List.mem_append_left _ ?_; k_extra "mem1") | (with_reducible refine List.mem_cons_of_mem _ ?_; k_extra "mem1"))
  k_with "sub" => (first | (intro _ hq0; k_extra "tl") | (with_reducible exact List.forall_mem_nil _) | ((with_reducible refine List.forall_mem_cons.mpr (And.intro ?_ ?_)); (focus k_extra "mem1"); k_extra "sub") | ((with_reducible refine List.forall_mem_append.mpr (And.intro ?_ ?_)); (focus k_extra "sub"); k_extra "sub"))
  k_with "tl" => (first | (with_reducible assumption) | (with_reducible refine List.mem_append_right _ ?_; k_extra "tl") | (with_reducible refine List.mem_append_left _ ?_; k_extra "tl") | (with_reducible refine List.mem_cons_of_mem _ ?_; k_extra "tl"))
  k_with "my steps" => (repeat' ((fail_if_success (with_reducible show wpAny _ _ (pyIter _) _ _ _)); (fail_if_success (with_reducible show wpAny _ _ (eval (Expr.ListComp _ _ _ _) _) _ _ _)); (first | (k_unfold; (try dsimp only)) | k_extra "own" | walk1 | (dsimp only; (first | k_extra "own" | walk1)) | (leave1; try dsimp only))))
  k_with "own" => ((k_here; (with_reducible show wpAny _ _ (eval (Expr.Name _ _) (compEnvC _ _ _ _)) _ _ _); (with_reducible rename Fr _ _ _ _ => F''); k_dflt (first
  | (refine' base_free F'' (by rfl) (by with_reducible assumption) (by with_reducible assumption) ?_ (by rfl) (by rfl); k_whole)
  | (refine' comp_name F'' (by with_reducible assumption) ?_ (by rfl) (by rfl); k_whole)
  | (refine' base_cell F'' (by rfl) (by with_reducible assumption) (by with_reducible assumption) ?_ (by rfl) (by rfl); k_whole))))
  k_with "own" => ((k_here; (with_reducible show wpAny _ _ (subscriptTail _ (PySem.Expr.Slice none (some _) none _) (Value.ref _) (Value.ref _)) _ _ _); (with_reducible rename Fr _ _ _ _ => F''); (with_reducible rename News _ _ _ _ => N''); k_dflt (refine' row_upto F'' N'' (by with_reducible assumption) (by with_reducible assumption) (by omega) (by first | omega | (simp; omega)) ?_ (by with_unfolding_all rfl) (by kmk_pure)); intro _ _ _ _ _ l1 z0; (try k_lt l1); (revert l1 z0; intro _ _)))
  k_with "own" => ((k_here; (with_reducible show wpAny _ _ (subscriptTail _ (PySem.Expr.Slice none (some _) none _) (Value.ref _) (Value.ref _)) _ _ _); (with_reducible rename Fr _ _ _ _ => F''); (with_reducible rename News _ _ _ _ => N''); k_dflt (refine' tab_upto F'' N'' (by with_reducible assumption) (by omega) (by first | omega | (simp; omega)) ?_ (by with_unfolding_all rfl) (by kmk_pure)); intro _ _ _ _ _ l1 z0; (try k_lt l1); (revert l1 z0; intro _ _)))
  k_with "own" => ((k_here; (with_reducible show wpAny _ _ (subscriptTail _ _ (Value.ref _) (Value.int _ _)) _ _ _); k_dflt (first | (refine' tup_snd (by k_asm) (by with_reducible assumption) (by first | rfl | omega) ?_ (by with_unfolding_all rfl)) | (refine' tab_cell (by k_asm) (by with_reducible assumption) (by omega) (by first | omega | (simp; omega)) (by first | omega | (simp; omega)) ?_ (by with_unfolding_all rfl); intro _))))
  k_with "own" => ((k_here; (with_reducible show wpAny _ _ (call (Value.builtin "len") [Value.ref _]) _ _ _); (with_reducible rename News _ _ _ _ => N''); k_dflt (refine' len_own N'' (by k_mem) (by with_reducible assumption) (by simp; omega) ?_; k_whole); intro _ _))
  k_with "own" => ((k_here; (with_reducible show wpAny _ _ (compareOp CmpOp.NotEq (Value.ref _) (Value.ref _)) _ _ _); k_dflt (refine' nil_nenil (by k_asm) (by k_mem) (by k_mem) (by assumption) ?_)))
  trivial

section
variable {prog : Program} {w : World} {A : Around} {E : Value → Shared → Prop} {s : Shared} {h₀ : Heap} {L a : Addr} {m : Str → Option Value} {news : List (Addr × Obj)} {Ms : List (List Int)} {k : Int} {u : Tok} {Q : Value → Shared → Prop} {value slice : Expr}
/-- an item of a pair -/
theorem tup_item {its : Array Value} {x : Value} (F : Fr h₀ L s.heap m) (ht : h₀.get? a = some { cls := .type "tuple", data := .seq its }) (h0 : 0 ≤ k) (h1 : k < 1000) (hx : its[k.toNat]? = some x) (h : Q x s)
    (hs : subscripted slice false (.ref a) (.int k u) = operate [.ref a, .int k u] (getItem (.ref a) (.int k u)) := by with_unfolding_all rfl) :
    wpAny (model prog w) A (subscriptTail value slice (.ref a) (.int k u)) Q E s := by
  have T : IsTup s.heap a its := ⟨_, F.keep _ _ ht, rfl, _, rfl⟩
  have hlt : k.toNat < its.size := (Array.getElem?_eq_some_iff.mp hx).1
  refine tail_any T.typeIs slot_tuple_getitem.lookup (getItem_tuple T (by omega) (by omega) (j := k.toNat) ?_ hx h) hs
  unfold seqIndex?
  simp only [if_neg (Int.not_lt.mpr h0)]
  rw [if_pos (by simp only [Bool.and_eq_true, decide_eq_true_eq]; omega)]
theorem tup_snd {x0 x : Value} (F : Fr h₀ L s.heap m) (ht : h₀.get? a = some { cls := .type "tuple", data := .seq #[x0, x] }) (hk : k = 1) (h : Q x s)
    (hs : subscripted slice false (.ref a) (.int k u) = operate [.ref a, .int k u] (getItem (.ref a) (.int k u)) := by with_unfolding_all rfl) :
    wpAny (model prog w) A (subscriptTail value slice (.ref a) (.int k u)) Q E s := by
  subst hk
  exact tup_item F ht (by decide) (by decide) rfl h hs
/-- the first rows -/
theorem tab_upto (F : Fr h₀ L s.heap m) (N : News h₀ L s.heap news) (T : IsTab h₀ a Ms) {x : Int} (h0 : 0 ≤ x) (hl : Ms.length ≤ 1000) {u : Tok}
    (h : ∀ D h' zs, Fr h₀ L h' m → News h₀ L h' ((D, listOf zs.toArray 0) :: news) → (∀ p ∈ news, p.1 < D) → RowsV h₀ zs (Ms.take x.toNat) → Q (.ref D) { s with heap := h' })
    (hs : subscripted slice false (.ref a) (.ref s.heap.objs.size) = operate [.ref s.heap.objs.size, .ref a] (getItem (.ref a) (.ref s.heap.objs.size))) (ht : ∀ r, letTemporaryGo value (.ref a) r = pure ()) :
    wpAny (model prog w) A (subscriptTail value slice (.ref a) (.ref s.heap.objs.size)) Q E { s with heap := s.heap.push { cls := .type "slice", data := .fields #[.none, .int x u, .none] } } := by
  obtain ⟨ys, il, R⟩ := T.isList
  have hlen := PySem.Paired.length R
  refine kms_slice_lit (vl := .none) (vu := .int x u) (lo := none) (hi := some x) (zs := ys.take x.toNat) F N (Fr.lst F il) IsPart.none (IsPart.int _ _) ?_ (fun D h' F' N' l => h D h' _ F' N' l (Paired.take_ R _)) hs ht ?_
  · show (ys.drop (kms_lo _ ys.length)).take (kms_hi _ ys.length - kms_lo _ ys.length) = _
    simp only [kms_lo, kms_hi, if_neg (Int.not_lt.mpr h0)]
    by_cases hx : x.toNat ≤ ys.length
    · rw [Nat.min_eq_left hx]; simp
    · rw [Nat.min_eq_right (Nat.le_of_not_le hx)]
      simp [List.take_of_length_le (Nat.le_of_not_le hx)]
  · have : ys.toArray.size = ys.length := by simp
    rw [this, ← hlen]; exact Nat.le_trans hl (by decide)
theorem nil_nenil {e : Nat} {a D : Addr} (N : News h₀ L s.heap news) (ha : (a, listOf ([] : List Value).toArray e) ∈ news) (hm : (D, listOf #[] 0) ∈ news) (hu : A.units + 64 < cLine) (h : Q (.bool false) s) : wpAny (model prog w) A (compareOp .NotEq (.ref a) (.ref D)) Q E s := by
  have ra : Reads s.heap (.ref a) (.list ([] : List PyData)) [a] := by
    have := reads_of_ints (News.isList N (n := e) ha) (vs := []) (ns := []) .nil
    simpa using this
  have rb : Reads s.heap (.ref D) (.list ([] : List PyData)) [D] := by
    have := reads_of_ints (News.isList N (n := 0) hm) (vs := []) (ns := []) .nil
    simpa using this
  exact ne_dataH_same ra rb (by decide) (by decide) hu (by simp [noMix, noMixAll]) (by simpa [PySem.Spec.same, PySem.Spec.sameAll] using h)
end
theorem matL_take (n k : Nat) (M : Nat → Nat → Int) (hk : k < n) (i : Nat) (ks : List Int) (h : (List.take (k + 1) (matL n M))[i]? = some ks) : i < k + 1 ∧ ks = rowL n (M i) := by
  rw [List.getElem?_take] at h
  split at h
  · refine ⟨by assumption, ?_⟩
    rw [List.getElem?_map, List.getElem?_range (by omega)] at h
    exact (Option.some.inj h).symm
  · cases h
theorem rowL_take (n k : Nat) (f : Nat → Int) (hk : k < n) : (rowL n f).take (k + 1) = rowL (k + 1) f := by
  apply List.ext_getElem
  · simp; omega
  · intro i h1 h2
    simp

section
variable {prog : Program} {w : World} {s : Shared} {g : Heap} {mg mb : Str → Option Value} {p : Program} {loose : List Str} {mean : ExcName → Option Value} {dp un : Nat} {fr : Option (List Env)} {gd : Option (List Code)}
  {Q : Flow → Shared → Prop} {nm : Str} {sc : Scope} {L fa : Addr} {cd : Value} {st : Stmt} {m : Str → Option Value}
theorem st5 (hst : LawS w nm sc 5 st) (X : (hd.heap_1 w.params).In g) (T : Top p loose mean mg mb g) (hroom : dp + 200 < recursionLimit) (hu : un + 200 < cLine)
   {n : Nat} {M : Nat → Nat → Int} {oT oB oN oM : Obj} {DT : Addr} {e : Nat} {rl : List (Addr × Obj)} {Dt SL : Addr} {t1 tm : Tok} {sv : List Value} {e1 tt : Nat} {t : Tb} (C : LC L n M oT oB oN oM DT e rl Dt SL t1 tm sv e1 tt)
   (F : Fr g L s.heap m) (N : News g L s.heap (LN L n M oT oB oN oM DT e rl Dt SL t1 sv e1 t))
   (ret : ∀ h' tk, Fr g L h' m → News g L h' (LN L n M oT oB oN oM DT e rl Dt SL t1 sv e1 t) → Q .next { s with heap := h', toks := tk }) :
   wpAny (model prog w) ((AA dp un fr gd).deeper (envOfC nm sc L fa cd)) (exec st (envOfC nm sc L fa cd)) Q (fun _ _ => False) s := by
  have h2 := lawAt_fn hst.at_ (show (hd.heap_1 w.params).lookup 78 = _ by k_is) rfl
  obtain ⟨e1, e2, e3⟩ := h2
  subst e1 e2 e3
  clear hst
  have dT := C.dT
  have dB := C.dB
  have hn := C.n4
  have hn1 := C.n1
  have hsl := C.hsv
  have htt := C.hle
  have hu' : un + 3 + 64 < cLine := by omega
  have hbd : ∀ i j, -16 ≤ M i j ∧ M i j ≤ 16 := fun i j => by have := C.bd i j; omega
  simp only [LN, List.cons_append, List.nil_append] at N
  walk_at "my steps"
  refine' comp_cell (x := "k") ?hclos ?hc1 ?hc2 ?hkind ?hnames ?hx ?_ 
  case hclos => with_unfolding_all rfl
  case hc1 => intros; rfl
  case hc2 => intros; rfl
  case hkind => rfl
  case hnames => decide
  case hx => rfl
  walk_at "my steps"
  (rename IsRange _ _ _ _ _ _ _ _ => hR); (rename Fr _ _ _ _ => F'); (rename News _ _ _ _ => N')
  have hlen : (List.map (fun i => dtL (i + 1) M) (List.range tt)).length = tt := by simp
  rw [hlen] at hR
  refine src_range (n := tt) rfl hR ?small ?size (Nat.le_trans htt (Nat.le_trans hn (by decide))) ?_
  case small => exact small_nat (by decide) (by decide) (by omega) (by omega)
  case size => rw [rangeSize_nat]; omega
  refine ⟨fun _ => false, fun i y _ => False, fun _ _ _ _ h _ => h, ?tests, ?elt, ?done⟩
  case elt => intro _ _ _ _ _ _ _ _ _ _ _ _ _ h; cases h
  case tests =>
    rintro g' C1 i v h tk m' cled led hg _ hin ⟨t', rfl⟩ ⟨o, rfl, ho⟩ - F1 N1
    refine tests_one ?_
    have hcellT : g'.get? (L + 1 + 1 + 1 + 1) = some oT := hg _ _ (N' (L + 1 + 1 + 1 + 1, oT) (by k_mem)).1
    have hcellB : g'.get? (L + 1 + 1 + 1) = some oB := hg _ _ (N' (L + 1 + 1 + 1, oB) (by k_mem)).1
    have htup : g'.get? Dt = some { cls := .type "tuple", data := .seq #[.int (dtL n M) t1, .ref SL] } := hg _ _ (N' (Dt, _) (by k_mem)).1
    have hsvl : IntL g' SL _ := ⟨sv, e1, hg _ _ (N' (SL, listOf sv.toArray e1) (by k_mem)).1, hsl⟩
    have IT : IsTab g' DT (matL n M) := mat_tab (e := e) (hg _ _ (N' (DT, listOf (refsOf rl).toArray e) (by k_mem)).1) (fun q hq => hg _ _ (N' q (by (first | k_extra "mem1" | (simp only [List.mem_cons, List.mem_append]; grind)))).1) C.hM
    have e0 : (0 : Int) + (i : Int) * 1 = i := by omega
    rw [e0] at ho
    have SI : g.StaysIn g' := fun b o e => hg b o (F'.keep b o e)
    replace T := T.keeps SI
    replace X := X.keeps SI
    simp only [List.cons_append, List.nil_append] at N1
    clear hR N' F' hg
    dsimp only
    walk_at "my steps"
    refine' comp_local (x := "row") ?hclos2 ?hcell2 ?hkind2 ?hnames2 ?hx2 ?_
    case hclos2 => with_unfolding_all rfl
    case hcell2 => decide
    case hkind2 => rfl
    case hnames2 => decide
    case hx2 => rfl
    walk_at "my steps"
    (rename RowsV _ _ _ => hz); (rename News _ _ _ _ => N2); (rename Fr _ _ _ _ => F2)
    rename_i D0 h2 zs lD0
    have ei : ((i : Int) + 1).toNat = i + 1 := by omega
    rw [ei] at hz
    have hzl : zs.toArray.size = i + 1 := by
      have h1 := PySem.Paired.length hz
      simp at h1
      rw [List.size_toArray]; omega
    refine src_list_n (n := i + 1) hzl rfl (N2.isList (n := 0) (.head _)) (Nat.le_trans (Nat.succ_le_of_lt (Nat.lt_of_lt_of_le hin (Nat.le_trans htt hn))) (by decide)) ?_
    refine ⟨fun _ => true, fun j y made => ∃ r vs cnt, y = .ref r ∧ (r, listOf vs.toArray cnt) ∈ made ∧ IntsAre vs (rowL (i + 1) (M j)), (by rintro i y l l' ⟨r, vs, c, h1, h2, h3⟩ hs; exact ⟨r, vs, c, h1, hs _ h2, h3⟩), fun g' C i v h tk m cled led _ _ _ _ _ _ F1 N1 => tests_nil F1 N1, ?elt2, ?done2⟩
    case elt2 =>
      rintro g3 C2 j v h3 tk3 m3 cled3 led3 hg3 - hj hPv - hv hcl3 F3 N3
      have hc3 : cled3 = [] := List.map_eq_nil_iff.mp hcl3
      subst hc3
      have hAt := hz.at_ (j := j) (v := v) hPv
      obtain ⟨ks, hAt⟩ := hAt
      obtain ⟨r, hAt⟩ := hAt
      obtain ⟨hks, hvr, hIL⟩ := hAt
      subst hvr
      have hks' := (matL_take n i M (Nat.lt_of_lt_of_le hin htt) j ks hks).2
      subst hks'
      have hIL3 : IntL g3 r (rowL n (M j)) := (hIL.keeps F2.keep).keeps hg3
      have hLs := hIL3.isList
      obtain ⟨vs, hLs⟩ := hLs
      obtain ⟨hl, hi⟩ := hLs
      have hcell3 : g3.get? (C1 + 1) = some o := hg3 _ _ (N2 (C1 + 1, o) (by k_mem)).1
      simp only [List.nil_append] at N3
      replace X := (X.keeps (fun b o e => F2.keep b o e)).keeps hg3
      clear hg3 hPv hIL hcl3 N2 F2 hz hks hzl hcellT hcellB htup hsvl T IT
      dsimp only
      walk_at "my steps"
      (rename Fr _ _ _ _ => F4); (rename News _ _ _ _ => N4); (rename IntsAre _ (List.take _ _) => hI4)
      rename_i Dc hc ws lc
      rw [ei, rowL_take n i _ (Nat.lt_of_lt_of_le hin htt)] at hI4
      refine ⟨_, _, [(Dc, listOf ws.toArray 0)], rfl, F4, N4, ?_, Dc, ws, 0, rfl, .head _, hI4⟩
      intro q hq x hx
      rw [List.mem_singleton.mp hq]
      exact Nat.ne_of_gt (lc x hx)
    case done2 =>
      intro D h' tk' ys made e hk hDf hD hP hm _
      have IT2 : IsTab h' D (matL (i + 1) M) := by
        refine ⟨ys, e, hD, ?_⟩
        rw [range_all] at hP
        refine Paired.map_l (F := fun j y => ∃ r vs cnt, y = .ref r ∧ (r, listOf vs.toArray cnt) ∈ made ∧ IntsAre vs (rowL (i + 1) (M j))) _ ?_ hP
        rintro j y ⟨r, vs, c, h1, h2, h3⟩
        exact ⟨r, h1, vs, c, (hm _ h2).1, h3⟩
      have F4 := back_fr F2 (tabs := []) (fun b o _ e => hk b o e) (fun b hb => nomatch hb) (fun hb => nomatch hb)
      have N4 := back_old N2 (tabs := []) (fun b o _ e => hk b o e) (fun q _ hb => nomatch hb)
      have N5 := back_new F2 N4 hDf hD
      have N6 := back_made F2 N5 (made := made) (fun q hq => ⟨(hm q hq).1, (hm q hq).2.1⟩)
      have ap : ∀ q ∈ (made ++ [(D, listOf ys.toArray e), (D0, listOf zs.toArray 0)]), ∀ r ∈ (C1 + 1, o) :: led, q.1 ≠ r.1 := by
        intro q hq r hr e
        rcases List.mem_append.mp hq with hq | hq
        · have h1 := (hm q hq).2.1
          have h2 := (N2 r (.tail _ hr)).1
          rw [e, h2] at h1; cases h1
        · replace hq := mem_e2_L5 hq
          rcases hq with rfl | rfl
          · have h2 := (N2 r (.tail _ hr)).1
            have e' : D = r.1 := e
            rw [e', h2] at hDf; cases hDf
          · have e' : D0 = r.1 := e
            rcases List.mem_cons.mp hr with rfl | hr
            · exact absurd lD0.1 (by rw [e']; exact Nat.lt_irrefl _)
            · exact absurd (allLt_mem lD0.2 r hr) (by rw [e']; exact Nat.lt_irrefl _)
      clear N4 N5 hk hD hDf hP hz hzl N2 F2 lD0
      dsimp only
      walk_at "my steps"
      refine' call_signed X T (i + 1) (Nat.succ_le_of_lt (Nat.lt_of_lt_of_le hin (Nat.le_trans htt hn))) ?S ?room ?hu IT2 hbd ?_
      case S => exact fun b x q => F4.keep b x q
      case room => show dp + 1 + (i + 1) + 2 < _; omega
      case hu => show un + 3 + 3 * (i + 1) + 80 < _; omega
      intro h5 tk5 t5 k5
      have F5 := back_fr F4 (tabs := []) (fun b o _ e => k5 b o e) (fun b hb => nomatch hb) (fun hb => nomatch hb)
      have N7 := back_old N6 (tabs := []) (fun b o _ e => k5 b o e) (fun q _ hb => nomatch hb)
      clear F4 N6 k5 IT2
      have hbd2 := dt_bound (i + 1) (Nat.succ_le_of_lt (Nat.lt_of_lt_of_le hin (Nat.le_trans htt hn))) M hbd
      obtain ⟨hb1, hb2⟩ := hbd2
      have hget : (List.map (fun i => dtL (i + 1) M) (List.range tt)).getD (i : Int).toNat 0 = dtL (i + 1) M := by
        rw [Int.toNat_natCast, List.getD_eq_getElem?_getD, List.getElem?_map, List.getElem?_range hin]; rfl
      walk_at "my steps"
      · rw [hget]; exact bne_self_eq_false _
      · (rename Fr _ _ _ _ => F5)
        exact ⟨_, _, made ++ [(D, listOf ys.toArray e), (D0, listOf zs.toArray 0)], rfl, F5, by simpa using N7, ap, trivial⟩
  case done =>
    intro D h' tk' ys made e5 hk hDf hD hP hm _
    rw [show (List.range tt).filter (fun _ => false) = [] by simp] at hP
    cases hP
    have F2 := back_fr F' (tabs := []) (fun b o _ e => hk b o e) (fun b hb => nomatch hb) (fun hb => nomatch hb)
    have N2 := back_new F' (back_old N' (tabs := []) (fun b o _ e => hk b o e) (fun q _ hb => nomatch hb)) hDf hD
    clear hk hm hD hDf N' F'
    walk_at "my steps"
    (rename Fr _ _ _ _ => F9); (rename News _ _ _ _ => N9)
    exact ret _ _ F9 (News.sub N9 (fun q hq => by
      (first | (revert q; k_extra "sub") | (refine (fun (h0 : ∀ q0 ∈ _, q0 ∈ _) => h0 _ hq) ?_; k_extra "sub") | (simp only [LN, List.mem_cons, List.mem_append, List.not_mem_nil, or_false] at hq ⊢; grind))))
end
end Mine
end
section
open PySem PySem.W PySem.Spec PySem.Calls PyProof.Rows PySem.SeqAt
set_option Elab.async false
set_option maxRecDepth 100000
set_option maxHeartbeats 8000000
namespace Mine
theorem kwL6 : True := by
  k_with_none
  k_with "mem1" => (first | (with_reducible exact List.mem_cons_self) | (with_reducible assumption) | (with_reducible refine List.mem_append_right _ ?_; k_extra "mem1") | (with_reducible refine List.mem_append_left _ ?_; k_extra "mem1") | (with_reducible refine List.mem_cons_of_mem _ ?_; k_extra "mem1"))
  k_with "sub" => (first | (intro _ hq0; k_extra "tl") | (with_reducible exact List.forall_mem_nil _) | ((with_reducible refine List.forall_mem_cons.mpr (And.intro ?_ ?_)); (focus k_extra "mem1"); k_extra "sub") | ((with_reducible refine List.forall_mem_append.mpr (And.intro ?_ ?_)); (focus k_extra "sub"); k_extra "sub"))
  k_with "tl" => (first | (with_reducible assumption) | (with_reducible refine List.mem_append_right _ ?_; k_extra "tl") | (with_reducible refine List.mem_append_left _ ?_; k_extra "tl") | (with_reducible refine List.mem_cons_of_mem _ ?_; k_extra "tl"))
  k_with "my steps" => (repeat' ((fail_if_success (with_reducible show wpAny _ _ (pyIter _) _ _ _)); (fail_if_success (with_reducible show wpAny _ _ (eval (Expr.ListComp _ _ _ _) _) _ _ _)); (first | (k_unfold; (try dsimp only)) | k_extra "own" | walk1 | (dsimp only; (first | k_extra "own" | walk1)) | (leave1; try dsimp only))))
  k_with "own" => ((k_here; (with_reducible show wpAny _ _ (call (Value.type _) [Value.ref _]) _ _ _); (with_reducible rename IsRange _ _ _ _ _ _ _ _ => hR''); (with_reducible rename Fr _ _ _ _ => F''); (with_reducible rename News _ _ _ _ => N''); k_dflt (refine' rg_bytes (by exact rfl) hR'' (by omega) ?_); intro _ _ _ hk'; (have F' := back_fr F'' (tabs := []) (fun b o _ e => hk' b o e) (fun b hb => nomatch hb) (fun hb => nomatch hb)); (have N' := back_old N'' (tabs := []) (fun b o _ e => hk' b o e) (fun q _ hb => nomatch hb)); clear F'' N'' hR'' hk'))
  trivial

section
variable {prog : Program} {w : World} {s : Shared} {g : Heap} {mg mb : Str → Option Value} {p : Program} {loose : List Str} {mean : ExcName → Option Value} {dp un : Nat} {fr : Option (List Env)}
  {Q : Flow → Shared → Prop} {nm : Str} {sc : Scope} {L fa : Addr} {cd : Value} {st : Stmt} {m : Str → Option Value}
theorem st6 (hst : LawS w nm sc 6 st) (X : (hd.heap_1 w.params).In g) (T : Top p loose mean mg mb g) (hroom : dp + 200 < recursionLimit) (hu : un + 200 < cLine)
   {n : Nat} {M : Nat → Nat → Int} {oT oB oN oM : Obj} {DT : Addr} {e : Nat} {rl : List (Addr × Obj)} {Dt SL : Addr} {t1 tm : Tok} {sv : List Value} {e1 tt : Nat} {t : Tb} (C : LC L n M oT oB oN oM DT e rl Dt SL t1 tm sv e1 tt)
   (F : Fr g L s.heap m) (N : News g L s.heap (LN L n M oT oB oN oM DT e rl Dt SL t1 sv e1 t))
   (ret : ∀ h' tk m' to, m' "order" = some (.bytes (downB n) to) → m' "due" = m "due" → Fr g L h' m' → News g L h' (LN L n M oT oB oN oM DT e rl Dt SL t1 sv e1 t) → Q .next { s with heap := h', toks := tk }) :
   wpP (model prog w) ((AA dp un fr (some [])).deeper (envOfC nm sc L fa cd)) (exec st (envOfC nm sc L fa cd)) Q (fun _ _ => False) s := by
  have h2 := lawAt_fn hst.at_ (show (hd.heap_1 w.params).lookup 78 = _ by k_is) rfl
  obtain ⟨e1, e2, e3⟩ := h2
  subst e1 e2 e3
  clear hst
  have dM := C.dM
  have hn := C.n4
  have hn1 := C.n1
  have h63 : ∃ o fd, g.get? 63 = some o ∧ o.data = .func fd := ⟨_, _, X 63 _ (show (hd.heap_1 w.params).lookup 63 = _ by k_is), rfl⟩
  obtain ⟨o63, fd63, h63, d63⟩ := h63
  simp only [LN, List.cons_append, List.nil_append] at N
  refine' assignP ?sw (callNameP ?_)
  case sw => with_unfolding_all rfl
  walk_at "my steps"
  refine callDefP (o := o63) (fd := fd63) ?_
  walk_at "my steps"
  (rename Fr _ _ _ _ => F2); (rename News _ _ _ _ => N2)
  refine' call_swap (n := n) X T ?S ?room hn1 hn ?_
  case S => exact fun b o q => F2.keep b o q
  case room => show dp + 1 + 10 < _; omega
  intro h5 tk5 t5 k5
  have F3 := back_fr F2 (tabs := []) (fun b o _ e => k5 b o e) (fun b hb => nomatch hb) (fun hb => nomatch hb)
  have N3 := back_old N2 (tabs := []) (fun b o _ e => k5 b o e) (fun q _ hb => nomatch hb)
  clear F2 N2 k5
  walk_at "my steps"
  (rename Fr _ _ _ _ => F9); (rename News _ _ _ _ => N9)
  exact ret _ _ _ _ (if_pos rfl) (if_neg (by decide)) F9 (News.sub N9 (fun q hq => by
      (first | (revert q; k_extra "sub") | (refine (fun (h0 : ∀ q0 ∈ _, q0 ∈ _) => h0 _ hq) ?_; k_extra "sub") | (simp only [LN, List.mem_cons, List.mem_append, List.not_mem_nil, or_false] at hq ⊢; grind))))
end
end Mine
end
section
open PySem PySem.W PySem.Spec PySem.Calls PyProof.Rows PySem.SeqAt
set_option Elab.async false
set_option maxRecDepth 100000
set_option maxHeartbeats 8000000
namespace Mine
theorem kwL7 : True := by
  k_with_none
  k_with "mem1" => (first | (with_reducible exact List.mem_cons_self) | (with_reducible assumption) | (with_reducible refine List.mem_append_right _ ?_; k_extra "mem1") | (with_reducible refine List.mem_append_left _ ?_; k_extra "mem1") | (with_reducible refine List.mem_cons_of_mem _ ?_; k_extra "mem1"))
  k_with "sub" => (first | (intro _ hq0; k_extra "tl") | (with_reducible exact List.forall_mem_nil _) | ((with_reducible refine List.forall_mem_cons.mpr (And.intro ?_ ?_)); (focus k_extra "mem1"); k_extra "sub") | ((with_reducible refine List.forall_mem_append.mpr (And.intro ?_ ?_)); (focus k_extra "sub"); k_extra "sub"))
  k_with "tl" => (first | (with_reducible assumption) | (with_reducible refine List.mem_append_right _ ?_; k_extra "tl") | (with_reducible refine List.mem_append_left _ ?_; k_extra "tl") | (with_reducible refine List.mem_cons_of_mem _ ?_; k_extra "tl"))
  k_with "my steps" => (repeat' ((fail_if_success (with_reducible show wpAny _ _ (pyIter _) _ _ _)); (fail_if_success (with_reducible show wpAny _ _ (eval (Expr.ListComp _ _ _ _) _) _ _ _)); (first | (k_unfold; (try dsimp only)) | k_extra "own" | walk1 | (dsimp only; (first | k_extra "own" | walk1)) | (leave1; try dsimp only))))
  k_with "own" => ((k_here; (with_reducible show wpAny _ _ (eval (Expr.Name _ _) (compEnvC _ _ _ _)) _ _ _); (with_reducible rename Fr _ _ _ _ => F''); k_dflt (first
  | (refine' base_free F'' (by rfl) (by with_reducible assumption) (by with_reducible assumption) ?_ (by rfl) (by rfl); k_whole)
  | (refine' comp_name F'' (by with_reducible assumption) ?_ (by rfl) (by rfl); k_whole)
  | (refine' base_cell F'' (by rfl) (by with_reducible assumption) (by with_reducible assumption) ?_ (by rfl) (by rfl); k_whole))))
  k_with "own" => ((k_here; (with_reducible show wpAny _ _ (subscriptTail _ _ (Value.ref _) (Value.int _ _)) _ _ _); (with_reducible rename Fr _ _ _ _ => F''); k_dflt (refine' mat_rowB F'' (by with_reducible assumption) (by with_reducible assumption) (by omega) (by with_reducible assumption) ?_ (by with_unfolding_all rfl))))
  trivial

noncomputable abbrev revR (n : Nat) (rl : List (Addr × Obj)) : List Value := (List.range n).map fun i => .ref (adr rl (n - 1 - i))
theorem down_size (n : Nat) : (downB n).size = n := by rw [byteArr_size]; simp
theorem down_all : ∀ n ∈ List.range 5, ∀ i ∈ List.range n, ((downB n)[i]?.map UInt8.toNat) = some (n - 1 - i) := by decide +kernel
theorem down_get {n i : Nat} (hn : n ≤ 4) (hi : i < n) {c : UInt8} (h : (downB n)[i]? = some c) : c.toNat = n - 1 - i := by
  have := down_all n (List.mem_range.mpr (by omega)) i (List.mem_range.mpr hi)
  rw [h] at this; exact Option.some.inj this
theorem rev_tab {h : Heap} {D : Addr} {rl : List (Addr × Obj)} {e n : Nat} {M : Nat → Nat → Int} (hD : h.get? D = some (listOf (revR n rl).toArray e)) (hr : ∀ q ∈ rl, h.get? q.1 = some q.2) (T : Mat n M rl) : IsTab h D (matL n fun j k => M (n - 1 - j) k) := by
  refine ⟨revR n rl, e, hD, paired_get (by simp) fun i a b ha hb => ?_⟩
  have hi : i < n := by have := (List.getElem?_eq_some_iff.mp ha).1; simpa using this
  obtain ⟨vs, e', h1, h2⟩ := T.adr_of (show n - 1 - i < n by omega)
  rw [List.getElem?_map, List.getElem?_range hi] at hb
  cases hb
  rw [List.getElem?_map, List.getElem?_range hi] at ha
  cases ha
  exact ⟨_, rfl, vs, e', hr _ (List.mem_of_getElem? h1), h2⟩
theorem paired_map {α β : Type} {f : α → β} : ∀ {l : List α} {ys : List β}, Paired (fun i y => y = f i) l ys → ys = l.map f
  | _, _, .nil => rfl
  | _, _, .cons h t => by rw [List.map_cons, ← paired_map t, h]
section
variable {prog : Program} {w : World} {s : Shared} {g : Heap} {mg mb : Str → Option Value} {p : Program} {loose : List Str} {mean : ExcName → Option Value} {dp un : Nat} {fr : Option (List Env)} {gd : Option (List Code)}
  {Q : Flow → Shared → Prop} {nm : Str} {sc : Scope} {L fa : Addr} {cd : Value} {st : Stmt} {m : Str → Option Value}
theorem st7 (hst : LawS w nm sc 7 st) (X : (hd.heap_1 w.params).In g) (T : Top p loose mean mg mb g) (hroom : dp + 200 < recursionLimit) (hu : un + 200 < cLine)
   {n : Nat} {M : Nat → Nat → Int} {oT oB oN oM : Obj} {DT : Addr} {e : Nat} {rl : List (Addr × Obj)} {Dt SL : Addr} {t1 tm to : Tok} {sv : List Value} {e1 tt : Nat} {t : Tb} (C : LC L n M oT oB oN oM DT e rl Dt SL t1 tm sv e1 tt)
   (F : Fr g L s.heap m) (hm : m "order" = some (.bytes (downB n) to)) (N : News g L s.heap (LN L n M oT oB oN oM DT e rl Dt SL t1 sv e1 t))
   (ret : ∀ h' tk m' DU eU, m' "turned" = some (.ref DU) → (∀ x, x ≠ Str.ofString "turned" → m' x = m x) → DU ≠ 30 → DU ≠ 37 → Fr g L h' m' → News g L h' ((DU, listOf (revR n rl).toArray eU) :: LN L n M oT oB oN oM DT e rl Dt SL t1 sv e1 t) → Q .next { s with heap := h', toks := tk }) :
   wpAny (model prog w) ((AA dp un fr gd).deeper (envOfC nm sc L fa cd)) (exec st (envOfC nm sc L fa cd)) Q (fun _ _ => False) s := by
  have h2 := lawAt_fn hst.at_ (show (hd.heap_1 w.params).lookup 78 = _ by k_is) rfl
  obtain ⟨e1, e2, e3⟩ := h2
  subst e1 e2 e3
  clear hst
  have dB := C.dB
  have hn := C.n4
  have hn1 := C.n1
  have hM := C.hM
  rw [map_chain hm] at F
  simp only [LN, List.cons_append, List.nil_append] at N
  refine' comp_localA (x := "octet") ?hsw ?hclos2 ?hcell2 ?hkind2 ?hnames2 ?hx2 ?hy ?hp ?_
  case hsw => with_unfolding_all rfl
  case hy => with_unfolding_all rfl
  case hp => with_unfolding_all rfl
  case hclos2 => with_unfolding_all rfl
  case hcell2 => decide
  case hkind2 => rfl
  case hnames2 => decide
  case hx2 => rfl
  walk_at "my steps"
  (rename Fr _ _ _ _ => F8); (rename News _ _ _ _ => N8)
  rw [← map_chain hm] at F8
  refine src_bytesN F8.ns rfl (by rw [down_size]; exact Nat.le_trans hn (by decide)) ?_
  rw [down_size]
  refine ⟨fun _ => true, fun i y _ => y = .ref (adr rl (n - 1 - i)), fun _ _ _ _ h _ => h, fun g' C i v h tk m cled led _ _ _ _ _ _ F1 N1 => tests_nil F1 N1, ?elt, ?done⟩
  case elt =>
    rintro g3 C2 j v h3 tk3 m3 cled3 led3 hg3 - hj ⟨c, tv, hc, rfl⟩ - hv hcl3 F4 N4
    have hc3 : cled3 = [] := List.map_eq_nil_iff.mp hcl3
    subst hc3
    rw [down_get hn hj hc] at hv
    have hcell3 : g3.get? (L + 1 + 1 + 1) = some oB := hg3 _ _ (N8 (L + 1 + 1 + 1, oB) (by k_mem)).1
    have hcell5 : g3.get? DT = some (listOf (refsOf rl).toArray e) := hg3 _ _ (N8 (DT, _) (by k_mem)).1
    replace X := (X.keeps (fun b o e => F8.keep b o e)).keeps hg3
    simp only [List.nil_append] at N4
    clear hg3 hcl3 N8 F8
    dsimp only
    walk_at "my steps"

    exact ⟨_, _, [], rfl, by assumption, by assumption, (fun _ h => nomatch h), rfl⟩
  case done =>
    intro D' h' tk' ys made eg hk hDf hD' hP hm' hyn
    rw [range_all] at hP
    have hys := paired_map hP
    subst hys
    have F2 := back_fr F8 (tabs := []) (fun b o _ e => hk b o e) (fun b hb => nomatch hb) (fun hb => nomatch hb)
    have N2 := back_new F8 (back_old N8 (tabs := []) (fun b o _ e => hk b o e) (fun q _ hb => nomatch hb)) hDf hD'
    have hne : ∀ q ∈ t.led, D' ≠ q.1 := fun q hq eq => by
      have := (N8 q (by (first | (revert q; k_extra "sub") | (refine (fun (h0 : ∀ q0 ∈ _, q0 ∈ _) => h0 _ hq) ?_; k_extra "sub") | (simp only [List.mem_cons, List.mem_append, List.not_mem_nil, or_false] at hq ⊢; grind)))).1
      rw [← eq, hDf] at this; cases this
    clear hk hP hm' hD' hDf N8 F8 hyn
    intro h'' hs'' hn''
    refine ret _ _ _ D' eg (if_pos rfl) (fun x hx => if_neg hx) (hne (30, tabObj t.p1) (.head _)) (hne (37, tabObj t.p2) (.tail _ (.head _))) (F2.set (hn'' _ F2.ns) hs'') (News.sub (N2.set hs'') (fun q hq => by
      (first | (revert q; k_extra "sub") | (refine (fun (h0 : ∀ q0 ∈ _, q0 ∈ _) => h0 _ hq) ?_; k_extra "sub") | (simp only [LN, List.mem_cons, List.mem_append, List.not_mem_nil, or_false] at hq ⊢; grind))))
end
end Mine
end
section
open PySem PySem.W PySem.Spec PySem.Calls PyProof.Rows PyProof.V
set_option Elab.async false
set_option maxRecDepth 100000
set_option maxHeartbeats 400000
namespace Mine
open Builtin
theorem rv_meets (b : Array UInt8) (t : Tok) (a : Addr) (u : Tok) :
    Meets («bytes.__getitem__» ⟨[.bytes b t, .ref a], []⟩) (fun _ R s => s.heap.IsSliceOf a .none .none (.int (-1) u) ∧ (Bytes.sliced b ((b.size : Int) - 1) (-1) (-1)).size ≤ sizeLine ∧ R (.ok (.ret (.bytes (Bytes.sliced b ((b.size : Int) - 1) (-1) (-1)) s.toks))) { s with toks := s.toks + 1 }) := by
  refine .of_wp fun prog w A R s hS => ?_
  obtain ⟨⟨o, ho, hc, hd⟩, hsz, h⟩ := hS
  have hT : s.TypeIs (.ref a) "slice" := ⟨o, ho, hc⟩
  show wpAny _ _ (Bytes.payload (.bytes b t) >>= fun r => _) _ _ s
  refine wpAny_bind (wpAny_of_eq (a := b) rfl ?_)
  show wpAny _ _ (Bytes.subscript? (.ref a) >>= fun r => _) _ _ s
  refine wpAny_bind ?_
  unfold Bytes.subscript?
  refine wpAny_bind (wpAny_specialOf hT slice_no_index (wpAny_pure ?_))
  refine wpAny_bind (wpAny_typeOf hT ?_)
  show wpAny _ _ (Bytes.sliceParts (.ref a) >>= fun r => _) _ _ s
  refine wpAny_bind ?_
  unfold Bytes.sliceParts
  refine wpAny_bind (wpAny_field (x := .int (-1) u) ho hd rfl ?_)
  kby_int
  refine wpAny_ite (KBy.ite_no (show ¬ ((rawInt (-1) == rawInt 0) = true) by decide) ?_)
  refine wpAny_bind (wpAny_field (x := .none) ho hd rfl ?_)
  kby_none
  refine wpAny_bind (wpAny_field (x := .none) ho hd rfl ?_)
  kby_none
  have go : wpAny (model prog w) A.in1 (sliceIndices (rawPart none) (rawPart none) (rawPart (some (-1))) b.size) (fun r s' => r = sliceBounds none none (some (-1)) b.size ∧ s' = s) (fun _ _ => False) s :=
    wpAny_of_eq (sliceIndices_raw none none (some (-1)) b.size (by decide)) ⟨rfl, rfl⟩
  refine wpAny_pure ?_
  refine wpAny_bind (wpAny_mono go (fun r s' hr => ?_) fun _ _ e => e.elim)
  obtain ⟨hr1, hr2⟩ := hr
  subst hr1 hr2
  rw [krv_bounds]
  refine wpAny_ite (KBy.ite_no (by simp) ?_)
  exact wpAny_bind (wpAny_mkBytes (wpAny_pure ⟨_, rfl, h⟩) hsz)
section
variable {prog : Program} {w : World} {A : Around} {E : Value → Shared → Prop} {s : Shared} {value slice : PySem.Expr} {b : Array UInt8} {t : Tok} {h₀ : Heap} {L : Addr} {m : PySem.Str → Option Value} {news : List (Addr × Obj)} {Q : Value → Shared → Prop}
theorem rv_all : ∀ n ∈ List.range 5, Bytes.sliced (upB n) (((upB n).size : Int) - 1) (-1) (-1) = downB n := by decide +kernel
theorem rv_slice {n : Nat} (hn : n ≤ 4) {x : Int} (hx : x = -1) {u : Tok} (hF : Fr h₀ L s.heap m) (hN : News h₀ L s.heap news)
    (h : ∀ h' t' k, Fr h₀ L h' m → News h₀ L h' news → Q (.bytes (downB n) t') { s with heap := h', toks := k })
    (hs : subscripted slice false (.bytes (upB n) t) (.ref s.heap.objs.size) = operate [.ref s.heap.objs.size, .bytes (upB n) t] (getItem (.bytes (upB n) t) (.ref s.heap.objs.size)) := by with_unfolding_all rfl)
    (ht : ∀ r, letTemporaryGo value (.bytes (upB n) t) r = pure () := by intro _; with_unfolding_all rfl) :
    wpAny (model prog w) A (subscriptTail value slice (.bytes (upB n) t) (.ref s.heap.objs.size)) Q E { s with heap := s.heap.push { cls := .type "slice", data := .fields #[.none, .none, .int x u] } } := by
  subst hx
  have e := rv_all n (List.mem_range.mpr (by omega))
  refine tail_of_ItemOn ⟨"bytes", _, FB.slot_bytes_getitem.lookup, typeIs_bytes _ _ _, getItem_meets (typeIs_bytes _ _ _) (by decide) FB.slot_bytes_getitem FB.entry_bytes_getitem (FB.args_bytes_getitem_2 _ _) (rv_meets (upB n) t _ u)
    ⟨Heap.IsSliceOf.new _ _ _ _, ?_, ?_⟩⟩ hs ht
  · rw [e, down_size, sizeLine_eq]; omega
  · rw [e]; exact h _ _ _ (hF.push _) (News.pushKeep hN _)
end
end Mine
end
section
open PySem PySem.W PySem.Spec PySem.Calls PyProof.Rows PySem.SeqAt
set_option Elab.async false
set_option maxRecDepth 100000
set_option maxHeartbeats 8000000
namespace Mine
theorem kwL8 : True := by
  k_with_none
  k_with "mem1" => (first | (with_reducible exact List.mem_cons_self) | (with_reducible assumption) | (with_reducible refine List.mem_append_right _ ?_; k_extra "mem1") | (with_reducible refine List.mem_append_left _ ?_; k_extra "mem1") | (with_reducible refine List.mem_cons_of_mem _ ?_; k_extra "mem1"))
  k_with "sub" => (first | (intro _ hq0; k_extra "tl") | (with_reducible exact List.forall_mem_nil _) | ((with_reducible refine List.forall_mem_cons.mpr (And.intro ?_ ?_)); (focus k_extra "mem1"); k_extra "sub") | ((with_reducible refine List.forall_mem_append.mpr (And.intro ?_ ?_)); (focus k_extra "sub"); k_extra "sub"))
  k_with "tl" => (first | (with_reducible assumption) | (with_reducible refine List.mem_append_right _ ?_; k_extra "tl") | (with_reducible refine List.mem_append_left _ ?_; k_extra "tl") | (with_reducible refine List.mem_cons_of_mem _ ?_; k_extra "tl"))
  k_with "my steps" => (repeat' ((fail_if_success (with_reducible show wpAny _ _ (pyIter _) _ _ _)); (fail_if_success (with_reducible show wpAny _ _ (eval (Expr.ListComp _ _ _ _) _) _ _ _)); (first | (k_unfold; (try dsimp only)) | k_extra "own" | walk1 | (dsimp only; (first | k_extra "own" | walk1)) | (leave1; try dsimp only))))
  k_with "own" => ((k_here; (with_reducible show wpAny _ _ (call (Value.type _) [Value.ref _]) _ _ _); (with_reducible rename IsRange _ _ _ _ _ _ _ _ => hR''); (with_reducible rename Fr _ _ _ _ => F''); (with_reducible rename News _ _ _ _ => N''); k_dflt (refine' rg_bytes (by exact rfl) hR'' (by omega) ?_); intro _ _ _ hk'; (have F' := back_fr F'' (tabs := []) (fun b o _ e => hk' b o e) (fun b hb => nomatch hb) (fun hb => nomatch hb)); (have N' := back_old N'' (tabs := []) (fun b o _ e => hk' b o e) (fun q _ hb => nomatch hb)); clear F'' N'' hR'' hk'))
  k_with "own" => ((k_here; (with_reducible show wpAny _ _ (subscriptTail _ (Expr.Slice none none (some _) _) (Value.bytes _ _) (Value.ref _)) _ _ _); (with_reducible rename Fr _ _ _ _ => F''); (with_reducible rename News _ _ _ _ => N''); k_dflt (refine' rv_slice (by with_reducible assumption) (by first | rfl | decide) F'' N'' ?_ (by with_unfolding_all rfl) (by (intro _; with_unfolding_all rfl)); k_whole); intro _ _ _ _ _))
  trivial

/-- the ground of the law -/
structure LG (g : Heap) (L : Addr) : Prop where
  g30 : g.get? 30 = none
  g37 : g.get? 37 = none
  l0 : @LT.lt Nat _ 37 L ∧ @LT.lt Nat _ 30 L
  C30 : CodeHd g 34 30
  C37 : CodeHd g 41 37
section
variable {prog : Program} {w : World} {s : Shared} {g : Heap} {mg mb : Str → Option Value} {p : Program} {loose : List Str} {mean : ExcName → Option Value} {dp un : Nat} {fr : Option (List Env)} {gd : Option (List Code)}
  {L : Addr} {m : Str → Option Value} {Q E : Value → Shared → Prop} {env : Env}
theorem law_call (X : (hd.heap_1 w.params).In g) (T : Top p loose mean mg mb g) (G : LG g L) (hroom : dp + 200 < recursionLimit) (hu : un + 200 < cLine)
   {n : Nat} {M : Nat → Nat → Int} {oT oB oN oM : Obj} {DT : Addr} {e : Nat} {rl : List (Addr × Obj)} {Dt SL : Addr} {t1 tm : Tok} {sv : List Value} {e1 tt : Nat} {t : Tb} (C : LC L n M oT oB oN oM DT e rl Dt SL t1 tm sv e1 tt) (O : t.Ok g)
   {own : List (Addr × Obj)} {a : Addr} {k : Nat} {P : Nat → Nat → Int} (hk : k ≤ 4)
   (F : Fr g L s.heap m) (N : News g L s.heap (own ++ LN L n M oT oB oN oM DT e rl Dt SL t1 sv e1 t)) (hown : ∀ q ∈ own, q.1 ≠ 30 ∧ q.1 ≠ 37) (IT : IsTab s.heap a (matL k P)) (hP : ∀ i j, -16 ≤ P i j ∧ P i j ≤ 16)
   (ret : ∀ x D v h' tk tv t', x = dtL k P → Tb.Ok t' g → D ≠ 30 → D ≠ 37 → Fr g L h' m → News g L h' ((D, { cls := .type "tuple", data := .seq #[.int x tv, v] }) :: (own ++ LN L n M oT oB oN oM DT e rl Dt SL t1 sv e1 t')) → Q (.ref D) { s with heap := h', toks := tk }) :
   wpAny (model prog w) ((AA dp un fr gd).deeper env) (call (.ref 73) [.ref a]) Q E s := by
  have l30 : (30 : Addr) ≠ L := Nat.ne_of_lt G.l0.2
  have l37 : (37 : Addr) ≠ L := Nat.ne_of_lt G.l0.1
  have tin : TabsH s.heap := tb_in O F fun q hq => (N q (List.mem_append_right _ (by (first | k_extra "mem1" | (simp only [LN, List.mem_cons, List.mem_append]; grind))))).1
  refine' call_taken X T ?S ?room ?hu G.g30 G.g37 G.C30 G.C37 hk tin IT hP ?_
  case S => exact fun b o q => F.keep b o q
  case room => show dp + 1 + 120 < _; omega
  case hu => show un + 3 + 80 < _; omega
  intro D SL2 h2 tk2 tv sv2 e2 t2 k2 ht2 hf2 hD2 _ _ _ _
  have hap : ∀ q ∈ own ++ ((DT, listOf (refsOf rl).toArray e) :: (L + 1 + 1 + 1 + 1, oT) :: (L + 1 + 1 + 1, oB) :: (L + 1 + 1, oN) :: (L + 1, oM) :: (Dt, { cls := .type "tuple", data := .seq #[.int (dtL n M) t1, .ref SL] }) :: (SL, listOf sv.toArray e1) :: rl), q.1 ≠ 30 ∧ q.1 ≠ 37 := fun q hq => by
    rcases List.mem_append.mp hq with hq | hq
    · exact hown q hq
    · exact C.ap q hq
  obtain ⟨t', O', F2, N2⟩ := after_tabs (rest := own ++ ((DT, listOf (refsOf rl).toArray e) :: (L + 1 + 1 + 1 + 1, oT) :: (L + 1 + 1 + 1, oB) :: (L + 1 + 1, oN) :: (L + 1, oM) :: (Dt, { cls := .type "tuple", data := .seq #[.int (dtL n M) t1, .ref SL] }) :: (SL, listOf sv.toArray e1) :: rl)) F (News.sub N (fun q hq => by
    (first | (revert q; k_extra "sub") | (refine (fun (h0 : ∀ q0 ∈ _, q0 ∈ _) => h0 _ hq) ?_; k_extra "sub") | (simp only [LN, List.mem_cons, List.mem_append] at hq ⊢; grind)))) G.g30 G.g37 l30 l37 k2 hap ht2 hf2 hD2
  have c30 : s.heap.get? 30 = some (tabObj t.p1) := (N (30, tabObj t.p1) (List.mem_append_right _ (by simp [LN]))).1
  have c37 : s.heap.get? 37 = some (tabObj t.p2) := (N (37, tabObj t.p2) (List.mem_append_right _ (by simp [LN]))).1
  refine ret _ D (.ref SL2) h2 tk2 tv t' rfl O' (fun q => ?_) (fun q => ?_) F2 (News.sub N2 (fun q hq => by
    (first | (revert q; k_extra "sub") | (refine (fun (h0 : ∀ q0 ∈ _, q0 ∈ _) => h0 _ hq) ?_; k_extra "sub") | (simp only [LN, List.mem_cons, List.mem_append] at hq ⊢; grind))))
  · rw [q] at hf2; exact nomatch hf2.symm.trans c30
  · rw [q] at hf2; exact nomatch hf2.symm.trans c37
end
section
variable {prog : Program} {w : World} {s : Shared} {g : Heap} {mg mb : Str → Option Value} {p : Program} {loose : List Str} {mean : ExcName → Option Value} {dp un : Nat} {fr : Option (List Env)} {gd : Option (List Code)}
  {Q : Flow → Shared → Prop} {nm : Str} {sc : Scope} {L fa : Addr} {cd : Value} {st : Stmt} {m : Str → Option Value}
theorem st8 (hst : LawS w nm sc 8 st) (X : (hd.heap_1 w.params).In g) (T : Top p loose mean mg mb g) (G : LG g L) (hroom : dp + 200 < recursionLimit) (hu : un + 200 < cLine)
   {n : Nat} {M : Nat → Nat → Int} {oT oB oN oM : Obj} {DT : Addr} {e : Nat} {rl : List (Addr × Obj)} {Dt SL DU : Addr} {t1 tm to : Tok} {sv : List Value} {e1 tt eU : Nat} {t : Tb} (C : LC L n M oT oB oN oM DT e rl Dt SL t1 tm sv e1 tt) (O : t.Ok g)
   (F : Fr g L s.heap m) (hm : m "order" = some (.bytes (downB n) to)) (hm2 : m "turned" = some (.ref DU)) (hU : DU ≠ 30 ∧ DU ≠ 37) (N : News g L s.heap ((DU, listOf (revR n rl).toArray eU) :: LN L n M oT oB oN oM DT e rl Dt SL t1 sv e1 t))
   (ret : ∀ h' tk t', Tb.Ok t' g → Fr g L h' m → News g L h' ((DU, listOf (revR n rl).toArray eU) :: LN L n M oT oB oN oM DT e rl Dt SL t1 sv e1 t') → Q .next { s with heap := h', toks := tk }) :
   wpAny (model prog w) ((AA dp un fr gd).deeper (envOfC nm sc L fa cd)) (exec st (envOfC nm sc L fa cd)) Q (fun _ _ => False) s := by
  have h2 := lawAt_fn hst.at_ (show (hd.heap_1 w.params).lookup 78 = _ by k_is) rfl
  obtain ⟨e1, e2, e3⟩ := h2
  subst e1 e2 e3
  clear hst
  have dM := C.dM
  have hn := C.n4
  have hn1 := C.n1
  have hbd : ∀ i j, -16 ≤ M i j ∧ M i j ≤ 16 := fun i j => by have := C.bd i j; omega
  rw [map_chain hm] at F
  rw [map_chain hm2] at F
  dsimp only at F
  simp only [LN, List.cons_append, List.nil_append] at N
  walk_at "my steps"
  · (rename (_ != _) = true => hb); exact absurd (hb.symm.trans (bne_self_eq_false _)) (by decide)
  · (rename Fr _ _ _ _ => F2); (rename News _ _ _ _ => N2)
    have IT := rev_tab (e := eU) (N2 (DU, listOf (revR n rl).toArray eU) (.head _)).1 (fun q hq => (N2 q (by (first | k_extra "mem1" | (simp only [List.mem_cons, List.mem_append]; grind)))).1) C.hM
    refine' law_call (own := [(DU, listOf (revR n rl).toArray eU)]) X T G hroom hu C O hn F2 (News.sub N2 (fun q hq => by
      (first | (revert q; k_extra "sub") | (refine (fun (h0 : ∀ q0 ∈ _, q0 ∈ _) => h0 _ hq) ?_; k_extra "sub") | (simp only [LN, List.mem_cons, List.mem_append, List.not_mem_nil, or_false] at hq ⊢; grind)))) ?hown IT (fun i j => hbd _ _) ?_
    case hown => exact fun q hq => by rw [List.mem_singleton.mp hq]; exact hU
    intro x D v h5 tk5 tv t5 hx O5 d30 d37 F3 N3
    simp only [LN, List.cons_append, List.nil_append] at N3
    clear F2 N2 IT
    walk_at "my steps"
    (rename Fr _ _ _ _ => F9); (rename News _ _ _ _ => N9)
    rw [chain2 hm hm2] at F9
    exact ret _ _ t5 O5 F9 (News.sub N9 (fun q hq => by
      (first | (revert q; k_extra "sub") | (refine (fun (h0 : ∀ q0 ∈ _, q0 ∈ _) => h0 _ hq) ?_; k_extra "sub") | (simp only [LN, List.mem_cons, List.mem_append, List.not_mem_nil, or_false] at hq ⊢; grind))))
end
end Mine
end
section
open PySem PySem.W PySem.Spec PySem.Calls PyProof.Rows PySem.SeqAt
set_option Elab.async false
set_option maxRecDepth 100000
set_option maxHeartbeats 8000000
namespace Mine
theorem kwL9 : True := by
  k_with_none
  k_with "mem1" => (first | (with_reducible exact List.mem_cons_self) | (with_reducible assumption) | (with_reducible refine List.mem_append_right _ ?_; k_extra "mem1") | (with_reducible refine List.mem_append_left _ ?_; k_extra "mem1") | (with_reducible refine List.mem_cons_of_mem _ ?_; k_extra "mem1"))
  k_with "sub" => (first | (intro _ hq0; k_extra "tl") | (with_reducible exact List.forall_mem_nil _) | ((with_reducible refine List.forall_mem_cons.mpr (And.intro ?_ ?_)); (focus k_extra "mem1"); k_extra "sub") | ((with_reducible refine List.forall_mem_append.mpr (And.intro ?_ ?_)); (focus k_extra "sub"); k_extra "sub"))
  k_with "tl" => (first | (with_reducible assumption) | (with_reducible refine List.mem_append_right _ ?_; k_extra "tl") | (with_reducible refine List.mem_append_left _ ?_; k_extra "tl") | (with_reducible refine List.mem_cons_of_mem _ ?_; k_extra "tl"))
  k_with "my steps" => (repeat' ((fail_if_success (with_reducible show wpAny _ _ (pyIter _) _ _ _)); (fail_if_success (with_reducible show wpAny _ _ (eval (Expr.ListComp _ _ _ _) _) _ _ _)); (first | (k_unfold; (try dsimp only)) | walk1 | (dsimp only; walk1) | (leave1; try dsimp only))))
  k_with "my step" => (((fail_if_success (with_reducible show wpAny _ _ (pyIter _) _ _ _)); (fail_if_success (with_reducible show wpAny _ _ (eval (Expr.ListComp _ _ _ _) _) _ _ _)); (first | (k_unfold; (try dsimp only)) | walk1 | (dsimp only; walk1) | (leave1; try dsimp only))))
  trivial
section
variable {prog : Program} {w : World} {s : Shared} {g : Heap} {mg mb : Str → Option Value} {p : Program} {loose : List Str} {mean : ExcName → Option Value} {dp un : Nat} {fr : Option (List Env)} {gd : Option (List Code)}
  {Q : Flow → Shared → Prop} {nm : Str} {sc : Scope} {L fa : Addr} {cd : Value} {st : Stmt} {m : Str → Option Value}
theorem st9 (hst : LawS w nm sc 9 st) (X : (hd.heap_1 w.params).In g) (T : Top p loose mean mg mb g) (G : LG g L) (hroom : dp + 200 < recursionLimit) (hu : un + 200 < cLine)
   {n : Nat} {M : Nat → Nat → Int} {oT oB oN oM : Obj} {DT : Addr} {e : Nat} {rl : List (Addr × Obj)} {Dt SL DU : Addr} {t1 tm t2 : Tok} {sv : List Value} {e1 tt eU : Nat} {t : Tb} (C : LC L n M oT oB oN oM DT e rl Dt SL t1 tm sv e1 tt) (O : t.Ok g)
   (F : Fr g L s.heap m) (hm : m "due" = some (.int (dtL n M) t2)) (hm2 : m "turned" = some (.ref DU)) (hU : DU ≠ 30 ∧ DU ≠ 37) (N : News g L s.heap ((DU, listOf (revR n rl).toArray eU) :: LN L n M oT oB oN oM DT e rl Dt SL t1 sv e1 t))
   (ret : ∀ h' tk t', Tb.Ok t' g → Fr g L h' m → News g L h' (LN L n M oT oB oN oM DT e rl Dt SL t1 sv e1 t') → Q .next { s with heap := h', toks := tk }) :
   wpAny (model prog w) ((AA dp un fr gd).deeper (envOfC nm sc L fa cd)) (exec st (envOfC nm sc L fa cd)) Q (fun _ _ => False) s := by
  have h2 := lawAt_fn hst.at_ (show (hd.heap_1 w.params).lookup 78 = _ by k_is) rfl
  obtain ⟨e1, e2, e3⟩ := h2
  subst e1 e2 e3
  clear hst
  have dB := C.dB
  have dM := C.dM
  have hn := C.n4
  have hn1 := C.n1
  have hM := C.hM
  have hbd : ∀ i j, -16 ≤ M i j ∧ M i j ≤ 16 := fun i j => by have := C.bd i j; omega
  have hrev := dt_rev M n hn
  have dtb := dt_law C.n4 C.bd
  obtain ⟨dtb1, dtb2⟩ := dtb
  rw [map_chain hm] at F
  rw [map_chain hm2] at F
  dsimp only at F
  simp only [LN, List.cons_append, List.nil_append] at N
  walk_at "my steps"
  (rename Fr _ _ _ _ => F2); (rename News _ _ _ _ => N2)
  have IT := rev_tab (e := eU) (N2 (DU, listOf (revR n rl).toArray eU) (.head _)).1 (fun q hq => (N2 q (by (first | k_extra "mem1" | (simp only [List.mem_cons, List.mem_append]; grind)))).1) C.hM
  refine' law_call (own := [(DU, listOf (revR n rl).toArray eU)]) X T G hroom hu C O hn F2 (News.sub N2 (fun q hq => by
      (first | (revert q; k_extra "sub") | (refine (fun (h0 : ∀ q0 ∈ _, q0 ∈ _) => h0 _ hq) ?_; k_extra "sub") | (simp only [LN, List.mem_cons, List.mem_append, List.not_mem_nil, or_false] at hq ⊢; grind)))) ?hown IT (fun i j => hbd _ _) ?_
  case hown => exact fun q hq => by rw [List.mem_singleton.mp hq]; exact hU
  intro x D v h5 tk5 tv t5 hx O5 d30 d37 F3 N3
  simp only [LN, List.cons_append, List.nil_append] at N3
  rw [hrev] at hx
  clear F2 N2 IT
  generalize hd : dtL n M = d at *
  iterate 12 walk_at "my step"
  dsimp only
  iterate 8 walk_at "my step"
  dsimp only
  walk_at "my steps"
  · (rename x ≠ _ => hne)
    refine absurd (hx.trans ?_) hne
    rw [Int.fdiv_eq_ediv_of_nonneg _ (by decide), Int.fmod_eq_emod_of_nonneg _ (by decide)]
  · subst hd
    rw [chain2 hm hm2] at F3
    exact ret _ _ t5 O5 F3 (News.sub N3 (fun q hq => by
      (first | (revert q; k_extra "sub") | (refine (fun (h0 : ∀ q0 ∈ _, q0 ∈ _) => h0 _ hq) ?_; k_extra "sub") | (simp only [LN, List.mem_cons, List.mem_append, List.not_mem_nil, or_false] at hq ⊢; grind))))
end
end Mine
end
section
open PySem PySem.W PySem.Spec PySem.Calls PyProof.Rows PySem.SeqAt
set_option Elab.async false
set_option maxRecDepth 100000
set_option maxHeartbeats 8000000
namespace Mine
theorem kwL10 : True := by
  k_with_none
  k_with "mem1" => (first | (with_reducible exact List.mem_cons_self) | (with_reducible assumption) | (with_reducible refine List.mem_append_right _ ?_; k_extra "mem1") | (with_reducible refine List.mem_append_left _ ?_; k_extra "mem1") | (with_reducible refine List.mem_cons_of_mem _ ?_; k_extra "mem1"))
  k_with "sub" => (first | (intro _ hq0; k_extra "tl") | (with_reducible exact List.forall_mem_nil _) | ((with_reducible refine List.forall_mem_cons.mpr (And.intro ?_ ?_)); (focus k_extra "mem1"); k_extra "sub") | ((with_reducible refine List.forall_mem_append.mpr (And.intro ?_ ?_)); (focus k_extra "sub"); k_extra "sub"))
  k_with "tl" => (first | (with_reducible assumption) | (with_reducible refine List.mem_append_right _ ?_; k_extra "tl") | (with_reducible refine List.mem_append_left _ ?_; k_extra "tl") | (with_reducible refine List.mem_cons_of_mem _ ?_; k_extra "tl"))
  k_with "my steps" => (repeat' ((fail_if_success (with_reducible show wpAny _ _ (pyIter _) _ _ _)); (fail_if_success (with_reducible show wpAny _ _ (eval (Expr.ListComp _ _ _ _) _) _ _ _)); (first | (k_unfold; (try dsimp only)) | k_extra "own" | walk1 | (dsimp only; (first | k_extra "own" | walk1)) | (leave1; try dsimp only))))
  k_with "own" => ((k_here; (with_reducible show wpAny _ _ (eval (Expr.Name _ _) (compEnvC _ _ _ _)) _ _ _); (with_reducible rename Fr _ _ _ _ => F''); k_dflt (first
  | (refine' base_free F'' (by rfl) (by with_reducible assumption) (by with_reducible assumption) ?_ (by rfl) (by rfl); k_whole)
  | (refine' comp_name F'' (by with_reducible assumption) ?_ (by rfl) (by rfl); k_whole)
  | (refine' base_cell F'' (by rfl) (by with_reducible assumption) (by with_reducible assumption) ?_ (by rfl) (by rfl); k_whole))))
  k_with "own" => ((k_here; (with_reducible show wpAny _ _ (subscriptTail _ _ (Value.ref _) (Value.int _ _)) _ _ _); (with_reducible rename Fr _ _ _ _ => F''); k_dflt (first
  | (refine' mat_rowB F'' (by with_reducible assumption) (by with_reducible assumption) (by first | with_reducible assumption | omega) (by with_reducible assumption) ?_ (by with_unfolding_all rfl))
  | (refine' mat_cellB F'' (by with_reducible assumption) (by with_reducible assumption) (by first | with_reducible assumption | omega) (by first | with_reducible assumption | omega) (by with_reducible assumption) ?_ (by with_unfolding_all rfl); intro _))))
  trivial
section
variable {prog : Program} {w : World} {s : Shared} {g : Heap} {mg mb : Str → Option Value} {p : Program} {loose : List Str} {mean : ExcName → Option Value} {dp un : Nat} {fr : Option (List Env)} {gd : Option (List Code)}
  {Q : Flow → Shared → Prop} {nm : Str} {sc : Scope} {L fa : Addr} {cd : Value} {st : Stmt} {m : Str → Option Value}
theorem st10 (hst : LawS w nm sc 10 st) (X : (hd.heap_1 w.params).In g) (T : Top p loose mean mg mb g) (G : LG g L) (hroom : dp + 200 < recursionLimit) (hu : un + 200 < cLine)
   {n : Nat} {M : Nat → Nat → Int} {oT oB oN oM : Obj} {DT : Addr} {e : Nat} {rl : List (Addr × Obj)} {Dt SL : Addr} {t1 tm t2 : Tok} {sv : List Value} {e1 tt : Nat} {t : Tb} (C : LC L n M oT oB oN oM DT e rl Dt SL t1 tm sv e1 tt) (O : t.Ok g)
   (F : Fr g L s.heap m) (hm : m "due" = some (.int (dtL n M) t2)) (N : News g L s.heap (LN L n M oT oB oN oM DT e rl Dt SL t1 sv e1 t))
   (ret : ∀ h' tk t', Tb.Ok t' g → Fr g L h' m → News g L h' (LN L n M oT oB oN oM DT e rl Dt SL t1 sv e1 t') → Q .next { s with heap := h', toks := tk }) :
   wpAny (model prog w) ((AA dp un fr gd).deeper (envOfC nm sc L fa cd)) (exec st (envOfC nm sc L fa cd)) Q (fun _ _ => False) s := by
  have h2 := lawAt_fn hst.at_ (show (hd.heap_1 w.params).lookup 78 = _ by k_is) rfl
  obtain ⟨e1, e2, e3⟩ := h2
  subst e1 e2 e3
  clear hst
  have dB := C.dB
  have dM := C.dM
  have hn := C.n4
  have hn1 := C.n1
  have hM := C.hM
  have hbd : ∀ i j, -16 ≤ M i j ∧ M i j ≤ 16 := fun i j => by have := C.bd i j; omega
  have hturn := dt_turn M n hn
  rw [map_chain hm] at F
  simp only [LN, List.cons_append, List.nil_append] at N
  walk_at "my steps"
  refine' comp_cell (x := "j") ?hclos ?hc1 ?hc2 ?hkind ?hnames ?hx ?_
  case hclos => with_unfolding_all rfl
  case hc1 => intros; rfl
  case hc2 => intros; rfl
  case hkind => rfl
  case hnames => decide
  case hx => rfl
  walk_at "my steps"
  (rename IsRange _ _ _ _ _ _ _ _ => hR); (rename Fr _ _ _ _ => F'); (rename News _ _ _ _ => N')
  refine src_range (n := n) rfl hR ?small ?size (Nat.le_trans hn (by decide)) ?_
  case small => exact small_nat (by decide) (by decide) (by omega) (by omega)
  case size => rw [rangeSize_nat]; omega
  refine ⟨fun _ => true, fun j y made => ∃ r vs cnt, y = .ref r ∧ (r, listOf vs.toArray cnt) ∈ made ∧ IntsAre vs (rowL n fun k => M k j), (by rintro i y l l' ⟨r, vs, c, h1, h2, h3⟩ hs; exact ⟨r, vs, c, h1, hs _ h2, h3⟩), fun g' C i v h tk m cled led _ _ _ _ _ _ F1 N1 => tests_nil F1 N1, ?elt, ?done⟩
  case elt =>
    rintro g' C1 i v h tk m' cled led hg _ hin ⟨t', rfl⟩ - ⟨o, rfl, ho⟩ - F1 N1
    have hcellM : g'.get? (L + 1) = some oM := hg _ _ (N' (L + 1, oM) (by k_mem)).1
    have hcellB : g'.get? (L + 1 + 1 + 1) = some oB := hg _ _ (N' (L + 1 + 1 + 1, oB) (by k_mem)).1
    have hDT : g'.get? DT = some (listOf (refsOf rl).toArray e) := hg _ _ (N' (DT, listOf (refsOf rl).toArray e) (by k_mem)).1
    have hrows : ∀ q ∈ rl, g'.get? q.1 = some q.2 := fun q hq => hg _ _ (N' q (by (first | k_extra "mem1" | (simp only [List.mem_cons, List.mem_append]; grind)))).1
    have e0 : (0 : Int) + (i : Int) * 1 = i := by omega
    rw [e0] at ho
    replace X := (X.keeps (fun b o e => F'.keep b o e)).keeps hg
    replace T := (T.keeps (fun b o e => F'.keep b o e)).keeps hg
    simp only [List.cons_append, List.nil_append] at N1
    clear hR N' F' hg
    dsimp only
    walk_at "my steps"
    refine' comp_local (x := "k") ?hclos2 ?hcell2 ?hkind2 ?hnames2 ?hx2 ?_
    case hclos2 => with_unfolding_all rfl
    case hcell2 => decide
    case hkind2 => rfl
    case hnames2 => decide
    case hx2 => rfl
    walk_at "my steps"
    (rename IsRange _ _ _ _ _ _ _ _ => hR); (rename Fr _ _ _ _ => F2); (rename News _ _ _ _ => N2)
    refine src_range (n := n) rfl hR ?small ?size (Nat.le_trans hn (by decide)) ?_
    case small => exact small_nat (by decide) (by decide) (by omega) (by omega)
    case size => rw [rangeSize_nat]; omega
    refine ⟨fun _ => true, fun k y _ => ∃ t, y = .int (M k i) t, fun _ _ _ _ h _ => h, fun g' C i v h tk m cled led _ _ _ _ _ _ F1 N1 => tests_nil F1 N1, ?elt2, ?done2⟩
    case elt2 =>
      rintro g3 C2 j v h3 tk3 m3 cled3 led3 hg3 - hj ⟨t3, rfl⟩ - hv hcl3 F3 N3
      have hc3 : cled3 = [] := List.map_eq_nil_iff.mp hcl3
      subst hc3
      have e3 : (0 : Int) + (j : Int) * 1 = j := by omega
      rw [e3] at hv
      have hcell3 : g3.get? (C1 + 1) = some o := hg3 _ _ (N2 (C1 + 1, o) (by k_mem)).1
      have hcellB3 : g3.get? (L + 1 + 1 + 1) = some oB := hg3 _ _ (F2.keep _ _ hcellB)
      have hDT3 : g3.get? DT = some (listOf (refsOf rl).toArray e) := hg3 _ _ (F2.keep _ _ hDT)
      have hrows3 : ∀ q ∈ rl, g3.get? q.1 = some q.2 := fun q hq => hg3 _ _ (F2.keep _ _ (hrows q hq))
      replace X := (X.keeps (fun b o e => F2.keep b o e)).keeps hg3
      simp only [List.nil_append] at N3
      clear hg3 hcl3 N2 F2 hR hcellB hDT hrows hcellM
      dsimp only
      walk_at "my steps"
      (rename Fr _ _ _ _ => F4); (rename News _ _ _ _ => N4)
      exact ⟨_, _, [], rfl, F4, N4, (fun _ h => nomatch h), _, rfl⟩
    case done2 =>
      intro D h' tk' ys made e5 hk hDf hD hP hm' _
      rw [range_all] at hP
      have hI := ints_paired hP
      have F4 := back_fr F2 (tabs := []) (fun b o _ e => hk b o e) (fun b hb => nomatch hb) (fun hb => nomatch hb)
      have N4 := back_old N2 (tabs := []) (fun b o _ e => hk b o e) (fun q _ hb => nomatch hb)
      have N5 := back_new F2 N4 hDf hD
      have ap : ∀ r ∈ (C1 + 1, o) :: led, D ≠ r.1 := by
        intro r hr e
        have h2 := (N2 r hr).1
        rw [← e, hDf] at h2; cases h2
      refine ⟨_, _, [(D, listOf ys.toArray e5)], rfl, F4, N5, ?_, D, ys, e5, rfl, .head _, hI⟩
      intro q hq r hr
      rw [List.mem_singleton.mp hq]
      exact ap r hr
  case done =>
    intro D h' tk' ys made e5 hk hDf hD hP hm' _
    have IT2 : IsTab h' D (matL n fun j k => M k j) := by
      refine ⟨ys, e5, hD, ?_⟩
      rw [range_all] at hP
      refine Paired.map_l (F := fun j y => ∃ r vs cnt, y = .ref r ∧ (r, listOf vs.toArray cnt) ∈ made ∧ IntsAre vs (rowL n fun k => M k j)) _ ?_ hP
      rintro j y ⟨r, vs, c, h1, h2, h3⟩
      exact ⟨r, h1, vs, c, (hm' _ h2).1, h3⟩
    have F2 := back_fr F' (tabs := []) (fun b o _ e => hk b o e) (fun b hb => nomatch hb) (fun hb => nomatch hb)
    have N2 := back_old N' (tabs := []) (fun b o _ e => hk b o e) (fun q _ hb => nomatch hb)
    clear hk hm' hD hDf N' F' hP
    dsimp only
    walk_at "my steps"
    refine' law_call (own := []) X T G hroom hu C O hn F2 (News.sub N2 (fun q hq => by
      (first | (revert q; k_extra "sub") | (refine (fun (h0 : ∀ q0 ∈ _, q0 ∈ _) => h0 _ hq) ?_; k_extra "sub") | (simp only [LN, List.mem_cons, List.mem_append, List.not_mem_nil, or_false] at hq ⊢; grind)))) (fun q hq => nomatch hq) IT2 (fun i j => hbd _ _) ?_
    intro x D v h5 tk5 tv t5 hx O5 d30 d37 F3 N3
    simp only [LN, List.cons_append, List.nil_append] at N3
    rw [hturn] at hx
    clear F2 N2 IT2
    generalize hd : dtL n M = d at *
    walk_at "my steps"
    · (rename x ≠ _ => hne)
      exact absurd hx hne
    · subst hd
      rw [← map_chain hm] at F3
      exact ret _ _ t5 O5 F3 (News.sub N3 (fun q hq => by
        (first | (revert q; k_extra "sub") | (refine (fun (h0 : ∀ q0 ∈ _, q0 ∈ _) => h0 _ hq) ?_; k_extra "sub") | (simp only [LN, List.mem_cons, List.mem_append, List.not_mem_nil, or_false] at hq ⊢; grind))))
end
end Mine
end
section
open PySem PySem.W PySem.Spec PySem.Calls PyProof.Rows PySem.SeqAt
set_option Elab.async false
set_option maxRecDepth 100000
set_option maxHeartbeats 8000000
namespace Mine
theorem kwL11 : True := by
  k_with_none
  k_with "mem1" => (first | (with_reducible exact List.mem_cons_self) | (with_reducible assumption) | (with_reducible refine List.mem_append_right _ ?_; k_extra "mem1") | (with_reducible refine List.mem_append_left _ ?_; k_extra "mem1") | (with_reducible refine List.mem_cons_of_mem _ ?_; k_extra "mem1"))
  k_with "sub" => (first | (intro _ hq0; k_extra "tl") | (with_reducible exact List.forall_mem_nil _) | ((with_reducible refine List.forall_mem_cons.mpr (And.intro ?_ ?_)); (focus k_extra "mem1"); k_extra "sub") | ((with_reducible refine List.forall_mem_append.mpr (And.intro ?_ ?_)); (focus k_extra "sub"); k_extra "sub"))
  k_with "tl" => (first | (with_reducible assumption) | (with_reducible refine List.mem_append_right _ ?_; k_extra "tl") | (with_reducible refine List.mem_append_left _ ?_; k_extra "tl") | (with_reducible refine List.mem_cons_of_mem _ ?_; k_extra "tl"))
  k_with "my steps" => (repeat' ((fail_if_success (with_reducible show wpAny _ _ (pyIter _) _ _ _)); (fail_if_success (with_reducible show wpAny _ _ (eval (Expr.ListComp _ _ _ _) _) _ _ _)); (first | (k_unfold; (try dsimp only)) | k_extra "own" | walk1 | (dsimp only; (first | k_extra "own" | walk1)) | (leave1; try dsimp only))))
  k_with "own" => ((k_here; (with_reducible show wpAny _ _ (eval (Expr.Name _ _) (compEnvC _ _ _ _)) _ _ _); (with_reducible rename Fr _ _ _ _ => F''); k_dflt (first
  | (refine' base_free F'' (by rfl) (by with_reducible assumption) (by with_reducible assumption) ?_ (by rfl) (by rfl); k_whole)
  | (refine' comp_name F'' (by with_reducible assumption) ?_ (by rfl) (by rfl); k_whole)
  | (refine' base_cell F'' (by rfl) (by with_reducible assumption) (by with_reducible assumption) ?_ (by rfl) (by rfl); k_whole))))
  k_with "own" => ((k_here; (with_reducible show wpAny _ _ (subscriptTail _ _ (Value.ref _) (Value.int _ _)) _ _ _); k_dflt (first
  | (refine' mat_rowZ (j := 0) (by kmk_list) (by with_reducible assumption) (by decide) (by omega) (by with_reducible assumption) ?_ (by with_unfolding_all rfl))
  | (refine' mat_rowZ (j := 1) (by kmk_list) (by with_reducible assumption) (by decide) (by omega) (by with_reducible assumption) ?_ (by with_unfolding_all rfl))
  | ((with_reducible rename Fr _ _ _ _ => F''); refine' mat_cellB F'' (by with_reducible assumption) (by with_reducible assumption) (by omega) (by first | with_reducible assumption | omega) (by with_reducible assumption) ?_ (by with_unfolding_all rfl); intro _))))
  k_with "own" => ((k_here; (with_reducible show wpAny _ _ (subscriptTail _ (PySem.Expr.Slice (some _) none none _) (Value.ref _) (Value.ref _)) _ _ _); (with_reducible rename Fr _ _ _ _ => F''); (with_reducible rename News _ _ _ _ => N''); k_dflt (refine' refs_tail F'' N'' (by k_mem) (by first | rfl | decide) (by (rw [List.length_map, Mat.len (by with_reducible assumption)]; omega)) ?_ (by with_unfolding_all rfl) (by kmk_pure)); intro _ _ _ _ l1; (try k_lt l1); (revert l1; intro _)))
  k_with "own" => ((k_here; (with_reducible show wpAny _ _ (binaryOp _ (Value.ref _) (Value.ref _)) _ _ _); (with_reducible rename Fr _ _ _ _ => F''); (with_reducible rename News _ _ _ _ => N''); k_dflt (refine' cat_refs F'' N'' (by k_mem) (by k_mem) (by simp; done) (by (rw [List.length_drop, List.length_map, Mat.len (by with_reducible assumption)]; omega)) ?_); intro _ _ _ _ l1; (try k_lt l1); (revert l1; intro _)))
  trivial

section
variable {prog : Program} {w : World} {A : Around} {E : Value → Shared → Prop} {s : Shared} {h₀ : Heap} {L a b R : Addr} {m : Str → Option Value} {news rl : List (Addr × Obj)} {n e j k : Nat} {M : Nat → Nat → Int} {u : Tok} {value slice : Expr} {Q : Value → Shared → Prop}
theorem mat_rowZ {z : Int} (il : s.heap.IsList R (refsOf rl).toArray) (T : Mat n M rl) (hz : z = ((j : Nat) : Int)) (hj : j < n) (hn : n ≤ 4) (h : Q (.ref (adr rl j)) s)
    (hs : subscripted slice false (.ref R) (.int z u) = operate [.ref R, .int z u] (getItem (.ref R) (.int z u)) := by with_unfolding_all rfl) :
    wpAny (model prog w) A (subscriptTail value slice (.ref R) (.int z u)) Q E s := by
  subst hz
  refine tail_any il.typeIs slot_list_getitem.lookup (wpAny_getItem_list il (by omega) (by omega) (x := .ref (adr rl j)) ?_ h) hs
  rw [Int.toNat_natCast, List.getElem?_toArray]
  exact refs_get (by rw [T.len]; exact hj)
theorem refs_tail {ys : List Value} {x : Int} (F : Fr h₀ L s.heap m) (N : News h₀ L s.heap news) (hm : (a, listOf ys.toArray e) ∈ news) (hx : x = 1) (hl : ys.length ≤ 1000) {u : Tok}
    (h : ∀ D h', Fr h₀ L h' m → News h₀ L h' ((D, listOf (ys.drop 1).toArray 0) :: news) → (∀ p ∈ news, p.1 < D) → Q (.ref D) { s with heap := h' })
    (hs : subscripted slice false (.ref a) (.ref s.heap.objs.size) = operate [.ref s.heap.objs.size, .ref a] (getItem (.ref a) (.ref s.heap.objs.size))) (ht : ∀ r, letTemporaryGo value (.ref a) r = pure ()) :
    wpAny (model prog w) A (subscriptTail value slice (.ref a) (.ref s.heap.objs.size)) Q E { s with heap := s.heap.push { cls := .type "slice", data := .fields #[.int x u, .none, .none] } } := by
  subst hx
  refine kms_slice_lit (vl := .int 1 u) (vu := .none) (lo := some 1) (hi := none) (zs := ys.drop 1) F N (News.isList N (n := e) hm) (IsPart.int _ _) IsPart.none ?_ (fun D h' F' N' l => h D h' F' N' l) hs ht ?_
  · show (ys.toArray.toList.drop _).take _ = _
    simp only [kms_lo, kms_hi]
    cases ys with
    | nil => rfl
    | cons y r => simp
  · rw [List.size_toArray]; exact Nat.le_trans hl (by decide)
theorem cat_refs {xs ys : List Value} {e2 : Nat} (F : Fr h₀ L s.heap m) (N : News h₀ L s.heap news) (ha : (a, listOf xs.toArray e) ∈ news) (hb : (b, listOf ys.toArray e2) ∈ news) (h1 : xs.length ≤ 1000) (h2 : ys.length ≤ 1000)
    (h : ∀ D h', Fr h₀ L h' m → News h₀ L h' ((D, listOf (xs ++ ys).toArray 0) :: news) → (∀ p ∈ news, p.1 < D) → Q (.ref D) { s with heap := h' }) : wpAny (model prog w) A (binaryOp .Add (.ref a) (.ref b)) Q E s :=
  kmk_add_lit F N (News.isList N (n := e) ha) (News.isList N (n := e2) hb) rfl h (by simp only [sizeLine_eq]; omega)
end
theorem head_tab {h : Heap} {D r0 : Addr} {rl : List (Addr × Obj)} {e n : Nat} {M : Nat → Nat → Int} {f : Nat → Int} {xs : List Value} (hx : xs = [.ref r0] ++ (refsOf rl).drop 1) (hD : h.get? D = some (listOf xs.toArray e)) (h0 : IntL h r0 (rowL n f)) (hr : ∀ q ∈ rl, h.get? q.1 = some q.2) (T : Mat n M rl) (hn1 : 1 ≤ n) : IsTab h D (matL n fun j k => if j = 0 then f k else M j k) := by
  subst hx
  refine ⟨_, e, hD, paired_get (by simp [T.len]; omega) fun i a b ha hb => ?_⟩
  have hi : i < n := by have := (List.getElem?_eq_some_iff.mp ha).1; simpa using this
  rw [List.getElem?_map, List.getElem?_range hi] at ha
  cases ha
  cases i with
  | zero =>
    cases hb
    refine ⟨r0, rfl, ?_⟩
    simpa using h0
  | succ i =>
    obtain ⟨vs, e', h1, h2⟩ := T.adr_of hi
    have hb' : (refsOf rl)[i + 1]? = some b := by
      have : ([Value.ref r0] ++ (refsOf rl).drop 1)[i + 1]? = ((refsOf rl).drop 1)[i]? := rfl
      rw [this, List.getElem?_drop] at hb
      rw [Nat.add_comm] at hb; exact hb
    rw [refs_get (by rw [T.len]; exact hi)] at hb'
    cases hb'
    exact ⟨_, rfl, vs, e', hr _ (List.mem_of_getElem? h1), by simpa using h2⟩
section
variable {prog : Program} {w : World} {s : Shared} {g : Heap} {mg mb : Str → Option Value} {p : Program} {loose : List Str} {mean : ExcName → Option Value} {dp un : Nat} {fr : Option (List Env)} {gd : Option (List Code)}
  {Q : Flow → Shared → Prop} {nm : Str} {sc : Scope} {L fa : Addr} {cd : Value} {st : Stmt} {m : Str → Option Value}
theorem st11 (hst : LawS w nm sc 11 st) (X : (hd.heap_1 w.params).In g) (T : Top p loose mean mg mb g) (G : LG g L) (hroom : dp + 200 < recursionLimit) (hu : un + 200 < cLine)
   {n : Nat} {M : Nat → Nat → Int} {oT oB oN oM : Obj} {DT : Addr} {e : Nat} {rl : List (Addr × Obj)} {Dt SL : Addr} {t1 tm t2 : Tok} {sv : List Value} {e1 tt : Nat} {t : Tb} (C : LC L n M oT oB oN oM DT e rl Dt SL t1 tm sv e1 tt) (O : t.Ok g)
   (F : Fr g L s.heap m) (hm : m "due" = some (.int (dtL n M) t2)) (N : News g L s.heap (LN L n M oT oB oN oM DT e rl Dt SL t1 sv e1 t))
   (ret : ∀ h' tk m' t', m' "due" = m "due" → Tb.Ok t' g → Fr g L h' m' → News g L h' (LN L n M oT oB oN oM DT e rl Dt SL t1 sv e1 t') → Q .next { s with heap := h', toks := tk }) :
   wpAny (model prog w) ((AA dp un fr gd).deeper (envOfC nm sc L fa cd)) (exec st (envOfC nm sc L fa cd)) Q (fun _ _ => False) s := by
  have h2 := lawAt_fn hst.at_ (show (hd.heap_1 w.params).lookup 78 = _ by k_is) rfl
  obtain ⟨e1, e2, e3⟩ := h2
  subst e1 e2 e3
  clear hst
  have dB := C.dB
  have dM := C.dM
  have hn := C.n4
  have hn1 := C.n1
  have hM := C.hM
  have hbd : ∀ i j, -16 ≤ M i j ∧ M i j ≤ 16 := fun i j => by have := C.bd i j; omega
  have hbm : ∀ j k, -16 ≤ (if j = 0 then M 0 k + 3 * M 1 k else M j k) ∧ (if j = 0 then M 0 k + 3 * M 1 k else M j k) ≤ 16 := fun j k => by
    have h1 := C.bd 0 k; have h2 := C.bd 1 k; have h3 := C.bd j k
    split <;> omega
  have hbl : ∀ j k, -16 ≤ (if j = 0 then M 1 k else M j k) ∧ (if j = 0 then M 1 k else M j k) ≤ 16 := fun j k => by
    have h2 := C.bd 1 k; have h3 := C.bd j k
    split <;> omega
  rw [map_chain hm] at F
  simp only [LN, List.cons_append, List.nil_append] at N
  walk_at "my steps"
  rotate_left
  · (rename Fr _ _ _ _ => F9); (rename News _ _ _ _ => N9)
    rw [← map_chain hm] at F9
    exact ret _ _ m t rfl O F9 (News.sub N9 (fun q hq => by
      (first | (revert q; k_extra "sub") | (refine (fun (h0 : ∀ q0 ∈ _, q0 ∈ _) => h0 _ hq) ?_; k_extra "sub") | (simp only [LN, List.mem_cons, List.mem_append, List.not_mem_nil, or_false] at hq ⊢; grind))))

  have h2n : 2 ≤ n := by omega
  have hmore := dt_more M n hn h2n
  have hlike := dt_like M n hn h2n
  refine' comp_local (x := "k") ?hclos1 ?hcell1 ?hkind1 ?hnames1 ?hx1 ?_
  case hclos1 => with_unfolding_all rfl
  case hcell1 => decide
  case hkind1 => rfl
  case hnames1 => decide
  case hx1 => rfl
  walk_at "my steps"
  (rename IsRange _ _ _ _ _ _ _ _ => hR); (rename Fr _ _ _ _ => F'); (rename News _ _ _ _ => N')
  refine src_range (n := n) rfl hR ?small ?size (Nat.le_trans hn (by decide)) ?_
  case small => exact small_nat (by decide) (by decide) (by omega) (by omega)
  case size => rw [rangeSize_nat]; omega
  refine ⟨fun _ => true, fun k y _ => ∃ t, y = .int (M 0 k + 3 * M 1 k) t, fun _ _ _ _ h _ => h, fun g' C i v h tk m cled led _ _ _ _ _ _ F1 N1 => tests_nil F1 N1, ?elt, ?done⟩
  case elt =>
    rintro g3 C2 j v h3 tk3 m3 cled3 led3 hg3 - hj ⟨t3, rfl⟩ - hv hcl3 F3 N3
    have hc3 : cled3 = [] := List.map_eq_nil_iff.mp hcl3
    subst hc3
    have e3 : (0 : Int) + (j : Int) * 1 = j := by omega
    rw [e3] at hv
    have hcellB3 : g3.get? (L + 1 + 1 + 1) = some oB := hg3 _ _ (N' (L + 1 + 1 + 1, oB) (by k_mem)).1
    have hDT3 : g3.IsList DT (refsOf rl).toArray := ⟨_, hg3 _ _ (N' (DT, listOf (refsOf rl).toArray e) (by k_mem)).1, rfl, e, rfl⟩
    have hrows3 : ∀ q ∈ rl, g3.get? q.1 = some q.2 := fun q hq => hg3 _ _ (N' q (by (first | k_extra "mem1" | (simp only [List.mem_cons, List.mem_append]; grind)))).1
    replace X := (X.keeps (fun b o e => F'.keep b o e)).keeps hg3
    simp only [List.nil_append] at N3
    clear hg3 hcl3 N' F' hR
    dsimp only
    walk_at "my steps"
    (rename Fr _ _ _ _ => F4); (rename News _ _ _ _ => N4)
    exact ⟨_, _, [], rfl, F4, N4, (fun _ h => nomatch h), _, rfl⟩
  case done =>
    intro Dm h' tk' ys made em hk hDf hD hP hm' _
    rw [range_all] at hP
    have hI := ints_paired hP
    have F2 := back_fr F' (tabs := []) (fun b o _ e => hk b o e) (fun b hb => nomatch hb) (fun hb => nomatch hb)
    have N2 := back_new F' (back_old N' (tabs := []) (fun b o _ e => hk b o e) (fun q _ hb => nomatch hb)) hDf hD
    clear hk hm' hD hDf N' F' hP hR
    (try dsimp only)
    walk_at "my steps"
    (rename Fr _ _ _ _ => F5); (rename News _ _ _ _ => N5)
    have IT5 := head_tab (n := n) (e := 0) (r0 := Dm) (f := fun k => M 0 k + 3 * M 1 k) rfl (N5 _ (.head _)).1 ⟨ys, em, (N5 (Dm, listOf ys.toArray em) (by k_mem)).1, hI⟩ (fun q hq => (N5 q (by (first | k_extra "mem1" | (simp only [List.mem_cons, List.mem_append]; grind)))).1) hM hn1
    refine' law_call (own := []) X T G hroom hu C O hn F5 (News.sub N5 (fun q hq => by
      (first | (revert q; k_extra "sub") | (refine (fun (h0 : ∀ q0 ∈ _, q0 ∈ _) => h0 _ hq) ?_; k_extra "sub") | (simp only [LN, List.mem_cons, List.mem_append, List.not_mem_nil, or_false] at hq ⊢; grind)))) (fun q hq => nomatch hq) IT5 hbm ?_
    intro x D v h6 tk6 tv t6 hx O6 d30 d37 F6 N6
    simp only [LN, List.cons_append, List.nil_append] at N6
    rw [hmore] at hx
    clear F5 N5 IT5
    generalize hd : dtL n M = d at *
    walk_at "my steps"
    · (rename x ≠ _ => hne)
      exact absurd hx hne
    (rename Fr _ _ _ _ => F7); (rename News _ _ _ _ => N7)
    obtain ⟨vs1, ev1, hq1, hq2⟩ := hM.adr_of (show 1 < n from h2n)
    have IT7 := head_tab (n := n) (e := 0) (r0 := adr rl 1) (f := M 1) rfl (N7 _ (.head _)).1 ⟨vs1, ev1, (N7 (adr rl 1, listOf vs1.toArray ev1) (by have := List.mem_of_getElem? hq1; (first | k_extra "mem1" | (simp only [List.mem_cons, List.mem_append]; grind)))).1, hq2⟩ (fun q hq => (N7 q (by (first | k_extra "mem1" | (simp only [List.mem_cons, List.mem_append]; grind)))).1) hM hn1
    subst hd
    refine' law_call (own := []) X T G hroom hu C O6 hn F7 (News.sub N7 (fun q hq => by
      (first | (revert q; k_extra "sub") | (refine (fun (h0 : ∀ q0 ∈ _, q0 ∈ _) => h0 _ hq) ?_; k_extra "sub") | (simp only [LN, List.mem_cons, List.mem_append, List.not_mem_nil, or_false] at hq ⊢; grind)))) (fun q hq => nomatch hq) IT7 hbl ?_
    intro x8 D8 v8 h8 tk8 tv8 t8 hx8 O8 d308 d378 F8 N8
    simp only [LN, List.cons_append, List.nil_append] at N8
    rw [hlike] at hx8
    clear F7 N7 IT7
    walk_at "my steps"
    · (rename x8 ≠ _ => hne)
      exact absurd hx8 hne
    · exact ret _ _ _ t8 ((if_neg (by decide)).trans ((if_pos rfl).trans hm.symm)) O8 F8 (News.sub N8 (fun q hq => by
        (first | (revert q; k_extra "sub") | (refine (fun (h0 : ∀ q0 ∈ _, q0 ∈ _) => h0 _ hq) ?_; k_extra "sub") | (simp only [LN, List.mem_cons, List.mem_append, List.not_mem_nil, or_false] at hq ⊢; grind))))
end
end Mine
end
section
open PySem PySem.W PySem.Spec PySem.Calls PyProof.Rows PySem.SeqAt
set_option Elab.async false
set_option maxRecDepth 100000
set_option maxHeartbeats 8000000
namespace Mine
theorem kwL12 : True := by
  k_with_none
  k_with "mem1" => (first | (with_reducible exact List.mem_cons_self) | (with_reducible assumption) | (with_reducible refine List.mem_append_right _ ?_; k_extra "mem1") | (with_reducible refine List.mem_append_left _ ?_; k_extra "mem1") | (with_reducible refine List.mem_cons_of_mem _ ?_; k_extra "mem1"))
  k_with "sub" => (first | (intro _ hq0; k_extra "tl") | (with_reducible exact List.forall_mem_nil _) | ((with_reducible refine List.forall_mem_cons.mpr (And.intro ?_ ?_)); (focus k_extra "mem1"); k_extra "sub") | ((with_reducible refine List.forall_mem_append.mpr (And.intro ?_ ?_)); (focus k_extra "sub"); k_extra "sub"))
  k_with "tl" => (first | (with_reducible assumption) | (with_reducible refine List.mem_append_right _ ?_; k_extra "tl") | (with_reducible refine List.mem_append_left _ ?_; k_extra "tl") | (with_reducible refine List.mem_cons_of_mem _ ?_; k_extra "tl"))
  k_with "my steps" => (repeat' ((fail_if_success (with_reducible show wpAny _ _ (pyIter _) _ _ _)); (fail_if_success (with_reducible show wpAny _ _ (eval (Expr.ListComp _ _ _ _) _) _ _ _)); (first | (k_unfold; (try dsimp only)) | k_extra "own" | walk1 | (dsimp only; (first | k_extra "own" | walk1)) | (leave1; try dsimp only))))
  k_with "own" => ((k_here; (with_reducible show wpAny _ _ (eval (Expr.Name _ _) (compEnvC _ _ _ _)) _ _ _); (with_reducible rename Fr _ _ _ _ => F''); k_dflt (first
  | (refine' base_free F'' (by rfl) (by with_reducible assumption) (by with_reducible assumption) ?_ (by rfl) (by rfl); k_whole)
  | (refine' comp_name F'' (by with_reducible assumption) ?_ (by rfl) (by rfl); k_whole)
  | (refine' base_cell F'' (by rfl) (by with_reducible assumption) (by with_reducible assumption) ?_ (by rfl) (by rfl); k_whole))))
  trivial
section
variable {prog : Program} {w : World} {s : Shared} {g : Heap} {mg mb : Str → Option Value} {p : Program} {loose : List Str} {mean : ExcName → Option Value} {dp un : Nat} {fr : Option (List Env)} {gd : Option (List Code)}
  {Q : Flow → Shared → Prop} {nm : Str} {sc : Scope} {L fa : Addr} {cd : Value} {st : Stmt} {m : Str → Option Value}
theorem st12 (hst : LawS w nm sc 12 st) (X : (hd.heap_1 w.params).In g) (T : Top p loose mean mg mb g) (G : LG g L) (hroom : dp + 200 < recursionLimit) (hu : un + 200 < cLine)
   {n : Nat} {M : Nat → Nat → Int} {oT oB oN oM : Obj} {DT : Addr} {e : Nat} {rl : List (Addr × Obj)} {Dt SL : Addr} {t1 tm t2 : Tok} {sv : List Value} {e1 tt : Nat} {t : Tb} (C : LC L n M oT oB oN oM DT e rl Dt SL t1 tm sv e1 tt) (O : t.Ok g)
   (F : Fr g L s.heap m) (hm : m "due" = some (.int (dtL n M) t2)) (N : News g L s.heap (LN L n M oT oB oN oM DT e rl Dt SL t1 sv e1 t))
   (ret : ∀ h' tk t', Tb.Ok t' g → Fr g L h' m → News g L h' (LN L n M oT oB oN oM DT e rl Dt SL t1 sv e1 t') → Q (.ret (.bool true)) { s with heap := h', toks := tk }) :
   wpAny (model prog w) ((AA dp un fr gd).deeper (envOfC nm sc L fa cd)) (exec st (envOfC nm sc L fa cd)) Q (fun _ _ => False) s := by
  have h2 := lawAt_fn hst.at_ (show (hd.heap_1 w.params).lookup 78 = _ by k_is) rfl
  obtain ⟨e1, e2, e3⟩ := h2
  subst e1 e2 e3
  clear hst
  have dB := C.dB
  have dM := C.dM
  have hn := C.n4
  have hn1 := C.n1
  have hM := C.hM
  have hbd : ∀ i j, -16 ≤ M i j ∧ M i j ≤ 16 := fun i j => by have := C.bd i j; omega
  have htwo := dt_two M n hn
  have hb2 : ∀ i j, -16 ≤ 2 * M i j ∧ 2 * M i j ≤ 16 := fun i j => by have := C.bd i j; omega
  rw [map_chain hm] at F
  simp only [LN, List.cons_append, List.nil_append] at N
  walk_at "my steps"
  refine' comp_local (x := "row") ?hclos1 ?hcell1 ?hkind1 ?hnames1 ?hx1 ?_
  case hclos1 => with_unfolding_all rfl
  case hcell1 => decide
  case hkind1 => rfl
  case hnames1 => decide
  case hx1 => rfl
  walk_at "my steps"
  (rename Fr _ _ _ _ => F'); (rename News _ _ _ _ => N')
  have hlen : (refsOf rl).toArray.size = n := by simp [hM.len]
  refine src_list_n (n := n) hlen rfl (News.isList N' (n := e) (show (DT, listOf (refsOf rl).toArray e) ∈ _ by k_mem)) (Nat.le_trans hn (by decide)) ?_
  refine ⟨fun _ => true, fun j y made => ∃ r vs cnt, y = .ref r ∧ (r, listOf vs.toArray cnt) ∈ made ∧ IntsAre vs (rowL n fun k => 2 * M j k), (by rintro i y l l' ⟨r, vs, c, h1, h2, h3⟩ hs; exact ⟨r, vs, c, h1, hs _ h2, h3⟩), fun g' C i v h tk m cled led _ _ _ _ _ _ F1 N1 => tests_nil F1 N1, ?elt, ?done⟩
  case elt =>
    rintro g' C1 i v h tk m' cled led hg _ hin hPv - hv hcl F1 N1
    have hc : cled = [] := List.map_eq_nil_iff.mp hcl
    subst hc
    rw [List.getElem?_toArray, refs_get (by rw [hM.len]; exact hin)] at hPv
    cases hPv
    obtain ⟨vs, ev, hq1, hq2⟩ := hM.adr_of hin
    have hrow : g'.IsList (adr rl i) vs.toArray := ⟨_, hg _ _ (N' (adr rl i, listOf vs.toArray ev) (by have := List.mem_of_getElem? hq1; (first | k_extra "mem1" | (simp only [List.mem_cons, List.mem_append]; grind)))).1, rfl, ev, rfl⟩
    replace X := (X.keeps (fun b o e => F'.keep b o e)).keeps hg
    replace T := (T.keeps (fun b o e => F'.keep b o e)).keeps hg
    simp only [List.nil_append] at N1
    clear N' F' hg
    dsimp only
    walk_at "my steps"
    refine' comp_local (x := "number") ?hclos2 ?hcell2 ?hkind2 ?hnames2 ?hx2 ?_
    case hclos2 => with_unfolding_all rfl
    case hcell2 => decide
    case hkind2 => rfl
    case hnames2 => decide
    case hx2 => rfl
    walk_at "my steps"
    (rename Fr _ _ _ _ => F2); (rename News _ _ _ _ => N2)
    refine src_list_n (n := n) (by rw [List.size_toArray, hq2.length]; simp) rfl (Fr.lst F2 hrow) (Nat.le_trans hn (by decide)) ?_
    refine ⟨fun _ => true, fun k y _ => ∃ t, y = .int (2 * M i k) t, fun _ _ _ _ h _ => h, fun g' C i v h tk m cled led _ _ _ _ _ _ F1 N1 => tests_nil F1 N1, ?elt2, ?done2⟩
    case elt2 =>
      rintro g3 C2 j v h3 tk3 m3 cled3 led3 hg3 - hj hP3 - hv hcl3 F3 N3
      have hc3 : cled3 = [] := List.map_eq_nil_iff.mp hcl3
      subst hc3
      obtain ⟨t3, ht3⟩ := hq2.get j (M i j) (by rw [List.getElem?_map, List.getElem?_range hj]; rfl)
      rw [List.getElem?_toArray, ht3] at hP3
      cases hP3
      simp only [List.nil_append] at N3
      replace X := (X.keeps (fun b o e => F2.keep b o e)).keeps hg3
      clear hg3 hcl3 N2 F2
      dsimp only
      walk_at "my steps"
      (rename Fr _ _ _ _ => F4); (rename News _ _ _ _ => N4)
      exact ⟨_, _, [], rfl, F4, N4, (fun _ h => nomatch h), _, rfl⟩
    case done2 =>
      intro D h' tk' ys made e5 hk hDf hD hP hm' _
      rw [range_all] at hP
      have hI := ints_paired hP
      have F4 := back_fr F2 (tabs := []) (fun b o _ e => hk b o e) (fun b hb => nomatch hb) (fun hb => nomatch hb)
      have N4 := back_old N2 (tabs := []) (fun b o _ e => hk b o e) (fun q _ hb => nomatch hb)
      have N5 := back_new F2 N4 hDf hD
      have ap : ∀ r ∈ led, D ≠ r.1 := by
        intro r hr e
        have h2 := (N2 r hr).1
        rw [← e, hDf] at h2; cases h2
      refine ⟨_, _, [(D, listOf ys.toArray e5)], rfl, F4, N5, ?_, D, ys, e5, rfl, .head _, hI⟩
      intro q hq r hr
      rw [List.mem_singleton.mp hq]
      exact ap r hr
  case done =>
    intro D h' tk' ys made e5 hk hDf hD hP hm' _
    have IT2 : IsTab h' D (matL n fun j k => 2 * M j k) := by
      refine ⟨ys, e5, hD, ?_⟩
      rw [range_all] at hP
      refine Paired.map_l (F := fun j y => ∃ r vs cnt, y = .ref r ∧ (r, listOf vs.toArray cnt) ∈ made ∧ IntsAre vs (rowL n fun k => 2 * M j k)) _ ?_ hP
      rintro j y ⟨r, vs, c, h1, h2, h3⟩
      exact ⟨r, h1, vs, c, (hm' _ h2).1, h3⟩
    have F2 := back_fr F' (tabs := []) (fun b o _ e => hk b o e) (fun b hb => nomatch hb) (fun hb => nomatch hb)
    have N2 := back_old N' (tabs := []) (fun b o _ e => hk b o e) (fun q _ hb => nomatch hb)
    clear hk hm' hD hDf N' F' hP
    (try dsimp only)
    walk_at "my steps"
    refine' law_call (own := []) X T G hroom hu C O hn F2 (News.sub N2 (fun q hq => by
      (first | (revert q; k_extra "sub") | (refine (fun (h0 : ∀ q0 ∈ _, q0 ∈ _) => h0 _ hq) ?_; k_extra "sub") | (simp only [LN, List.mem_cons, List.mem_append, List.not_mem_nil, or_false] at hq ⊢; grind)))) (fun q hq => nomatch hq) IT2 (fun i j => hb2 _ _) ?_
    intro x D v h5 tk5 tv t5 hx O5 d30 d37 F3 N3
    simp only [LN, List.cons_append, List.nil_append] at N3
    rw [htwo] at hx
    clear F2 N2 IT2
    generalize hd : dtL n M = d at *
    walk_at "my steps"
    generalize he : (2 : Int) ^ (n : Int).toNat = z
    have hz : 0 ≤ z ∧ z ≤ 16 := by
      rw [← he, Int.toNat_natCast]
      have hc : n = 1 ∨ n = 2 ∨ n = 3 ∨ n = 4 := by omega
      rcases hc with rfl | rfl | rfl | rfl <;> decide
    obtain ⟨hz1, hz2⟩ := hz
    have dtb1 := (hd ▸ dt_law C.n4 C.bd).1
    have dtb2 := (hd ▸ dt_law C.n4 C.bd).2
    walk_at "my steps"
    have hxe : (x == z * d) = true := by rw [hx, ← he, Int.toNat_natCast]; exact beq_self_eq_true _
    rw [hxe]
    subst hd
    rw [← map_chain hm] at F3
    exact ret _ _ t5 O5 F3 (News.sub N3 (fun q hq => by
        (first | (revert q; k_extra "sub") | (refine (fun (h0 : ∀ q0 ∈ _, q0 ∈ _) => h0 _ hq) ?_; k_extra "sub") | (simp only [LN, List.mem_cons, List.mem_append, List.not_mem_nil, or_false] at hq ⊢; grind))))
end
end Mine
end
section
open PySem PySem.W PySem.Spec PySem.Calls PyProof.Rows
set_option Elab.async false
set_option maxRecDepth 100000
set_option maxHeartbeats 2000000
namespace Mine
theorem kwL13 : True := by
  k_with_none
  k_with "mem1" => (first | (with_reducible exact List.mem_cons_self) | (with_reducible assumption) | (with_reducible refine List.mem_append_right _ ?_; k_extra "mem1") | (with_reducible refine List.mem_append_left _ ?_; k_extra "mem1") | (with_reducible refine List.mem_cons_of_mem _ ?_; k_extra "mem1"))
  k_with "sub" => (first | (intro _ hq0; k_extra "tl") | (with_reducible exact List.forall_mem_nil _) | ((with_reducible refine List.forall_mem_cons.mpr (And.intro ?_ ?_)); (focus k_extra "mem1"); k_extra "sub") | ((with_reducible refine List.forall_mem_append.mpr (And.intro ?_ ?_)); (focus k_extra "sub"); k_extra "sub"))
  k_with "tl" => (first | (with_reducible assumption) | (with_reducible refine List.mem_append_right _ ?_; k_extra "tl") | (with_reducible refine List.mem_append_left _ ?_; k_extra "tl") | (with_reducible refine List.mem_cons_of_mem _ ?_; k_extra "tl"))
  trivial
/-- the law's def -/
noncomputable def LawF (w : World) (nm : Str) (ps : Arguments) (body : List Stmt) (sc : Scope) : Prop := ∃ oc od osl qual dV kV doc pm an cdv ct,
  (hd.heap_1 w.params).lookup 78 = some ⟨oc, od, .func (fnOf nm qual ps body sc dV kV doc pm an cdv ct), osl⟩
theorem LawF.st {w : World} {nm : Str} {ps : Arguments} {body : List Stmt} {sc : Scope} (h : LawF w nm ps body sc) {i : Nat} {st : Stmt} (e : body[i]? = some st) : LawS w nm sc i st := by
  obtain ⟨oc, od, osl, qual, dV, kV, doc, pm, an, cdv, ct, h1⟩ := h
  exact ⟨oc, od, osl, qual, ps, body, dV, kV, doc, pm, an, cdv, ct, h1, e⟩
theorem tab_bd {ks xs : List Int} (e : ks = xs.map fun x => x % 9 - 4) (n : Nat) : ∀ i j, -4 ≤ tabM ks n i j ∧ tabM ks n i j ≤ 4 := fun i j => by
  subst e
  show -4 ≤ (xs.map fun x => x % 9 - 4).getD (n * i + j) 0 ∧ (xs.map fun x => x % 9 - 4).getD (n * i + j) 0 ≤ 4
  rw [List.getD_eq_getElem?_getD, List.getElem?_map]
  cases xs[n * i + j]? with
  | none => exact ⟨by decide, by decide⟩
  | some x => show -4 ≤ x % 9 - 4 ∧ x % 9 - 4 ≤ 4; omega
section
variable {prog : Program} {w : World} {s : Shared} {g : Heap} {mg mb : Str → Option Value} {p : Program} {loose : List Str} {mean : ExcName → Option Value} {dp un : Nat} {fr : Option (List Env)}
  {L fa : Addr} {m : Str → Option Value} {nm : Str} {ps : Arguments} {body : List Stmt} {sc : Scope} {cd : Value} {Q : Flow → Shared → Prop}
/-- the statements of the law, one behind the other -/
theorem law_body {q0 q1 q2 q3 q4 q5 q6 q7 q8 q9 q10 q11 q12 : Stmt} (hb : body = [q0, q1, q2, q3, q4, q5, q6, q7, q8, q9, q10, q11, q12]) (H : LawF w nm ps body sc) (X : (hd.heap_1 w.params).In g) (T : Top p loose mean mg mb g) (G : LG g L) (hroom : dp + 200 < recursionLimit) (hu : un + 200 < cLine)
   {S0 : Addr} {vs : List Value} {ws : List Int} (hl : g.IsList S0 vs.toArray) (hi : IntsAre vs ws) (hlen : ws.length ≤ 63) {oT oB oN oM : Obj} (dT : oT.data = .cell none) (dB : oB.data = .cell none) (dN : oN.data = .cell none) (dM : oM.data = .cell none)
   (F : Fr g L s.heap m) (hm : m "script" = some (.ref S0))
   (N : News g L s.heap ((L + 1 + 1 + 1 + 1, oT) :: (L + 1 + 1 + 1, oB) :: (L + 1 + 1, oN) :: (L + 1, oM) :: tabs0))
   (ret : ∀ h' tk m' (t : Tb), t.Ok g → Fr g L h' m' → (∀ q ∈ t.led, h'.get? q.1 = some q.2) → Q (.ret (.bool true)) { s with heap := h', toks := tk }) :
   wpP (model prog w) ((AA dp un fr (some [])).deeper (envOfC nm sc L fa cd)) (execs body (envOfC nm sc L fa cd)) Q (fun _ _ => False) s := by
  have hs : ∀ {i : Nat} {st : Stmt}, body[i]? = some st → LawS w nm sc i st := fun e => H.st e
  subst hb
  refine execsP_step (st0 (hs (i := 0) rfl) X T hroom hu hl hi hlen dM G.l0 F hm N fun h0 k0 oM' tm dM' F0 N0 => ?_)
  obtain ⟨n, hn⟩ : ∃ n : Nat, 1 + ws.sum % 4 = (n : Int) := ⟨(1 + ws.sum % 4).toNat, by omega⟩
  have hn1 : 1 ≤ n := by omega
  have hn4 : n ≤ 4 := by omega
  rw [hn] at dM'
  refine execsP_step (st1 (hs (i := 1) rfl) X T hroom hu hl hi hlen dN G.l0 F0 hm N0 fun h1 k1 oN' DN us eN dN' hus F1 N1 => ?_)
  obtain ⟨ks, hks⟩ : ∃ ks : List Int, ((ws ++ List.replicate 16 0).take 16).map (fun x => x % 9 - 4) = ks := ⟨_, rfl⟩
  rw [hks] at hus
  have hkl : ks.length = 16 := by rw [← hks]; simp
  have hb4 := tab_bd hks.symm n
  refine execsP_step (st2 (hs (i := 2) rfl) X T hroom hu hus hkl hn1 hn4 dN' dM' dB G.l0 F1 N1 fun h2 k2 oB' DT e rl dB' hmat hap F2 N2 => ?_)
  refine execsP_step (st3 (hs (i := 3) rfl) X T hroom hu G.g30 G.g37 G.l0 G.C30 G.C37 hn1 hn4 hmat (fun i j => by have := hb4 i j; omega) dB' dT hap F2 N2 fun h3 k3 m3 oT' Dt SL sv e1 tt t1 t2 t dT' hdue O htt hSV F3 hap3 N3 => ?_)
  have C : LC L n (tabM ks n) oT' oB' oN' oM' DT e rl Dt SL t1 tm sv e1 tt := ⟨hn1, hn4, dT', dB', dM', hmat, hb4, htt, hSV, hap3⟩
  refine execsP_step (st4 (hs (i := 4) rfl) X T hroom hu C F3 hdue N3 fun h4 k4 F4 N4 => ?_)
  refine execsP_step (st5 (hs (i := 5) rfl) X T hroom hu C F4 N4 fun h5 k5 F5 N5 => ?_)
  refine execsP_cons (wpP_mono (st6 (hs (i := 6) rfl) X T hroom hu C F5 N5 (Q := fun f s' => match f with | .next => wpP _ _ _ _ _ s' | f => _) fun h6 k6 m6 to hord hdue6 F6 N6 => ?_) (fun _ _ x => x) fun _ _ x => x)
  have hdue6 : m6 "due" = some (.int (dtL n (tabM ks n)) t2) := hdue6.trans hdue
  refine execsP_step (st7 (hs (i := 7) rfl) X T hroom hu C F6 hord N6 fun h7 k7 m7 DU eU htur hoth u30 u37 F7 N7 => ?_)
  have hord7 : m7 "order" = some (.bytes (downB n) to) := (hoth _ (by decide)).trans hord
  have hdue7 : m7 "due" = some (.int (dtL n (tabM ks n)) t2) := (hoth _ (by decide)).trans hdue6
  refine execsP_step (st8 (hs (i := 8) rfl) X T G hroom hu C O F7 hord7 htur ⟨u30, u37⟩ N7 fun h8 k8 t8 O8 F8 N8 => ?_)
  refine execsP_step (st9 (hs (i := 9) rfl) X T G hroom hu C O8 F8 hdue7 htur ⟨u30, u37⟩ N8 fun h9 k9 t9 O9 F9 N9 => ?_)
  refine execsP_step (st10 (hs (i := 10) rfl) X T G hroom hu C O9 F9 hdue7 N9 fun h10 k10 t10 O10 F10 N10 => ?_)
  refine execsP_step (st11 (hs (i := 11) rfl) X T G hroom hu C O10 F10 hdue7 N10 fun h11 k11 m11 t11 hdue11 O11 F11 N11 => ?_)
  refine execsP_step (st12 (hs (i := 12) rfl) X T G hroom hu C O11 F11 (hdue11.trans hdue7) N11 fun h12 k12 t12 O12 F12 N12 => ?_)
  exact ret _ _ m11 t12 O12 F12 fun q hq => (N12 q (by (first | (revert q; k_extra "sub") | (refine (fun (h0 : ∀ q0 ∈ _, q0 ∈ _) => h0 _ hq) ?_; k_extra "sub") | (simp only [LN, List.mem_cons, List.mem_append] at hq ⊢; grind)))).1
end
end Mine
end
section
open PySem PySem.W PySem.Spec PySem.Calls PyProof.Rows
set_option Elab.async false
set_option maxRecDepth 100000
set_option maxHeartbeats 2000000
namespace Mine
/-- the law's def, its signature with it -/
noncomputable def LawD (w : World) (nm : Str) (ps : Arguments) (body : List Stmt) (sc : Scope) : Prop := ∃ oc od osl dV kV doc pm an cdv ct,
  (hd.heap_1 w.params).lookup 78 = some ⟨oc, od, .func (fnOf nm nm ps body sc dV kV doc pm an cdv ct), osl⟩
section
variable {prog : Program} {w : World} {s : Shared} {mg mb : Str → Option Value} {p : Program} {loose : List Str} {mean : ExcName → Option Value} {dp un : Nat} {fr : Option (List Env)}
  {fa : Addr} {nm : Str} {ps : Arguments} {body : List Stmt} {sc : Scope} {Q E : Value → Shared → Prop} {o : Obj} {doc pm cdv ct : Value} {an : Option Addr}
theorem law_run (H : LawD w nm ps body sc) (X : (hd.heap_1 w.params).In s.heap) (T : Top p loose mean mg mb s.heap) (h37 : s.heap.get? 37 = some (tabObj #[])) (h30 : s.heap.get? 30 = some (tabObj #[])) (hroom : dp + 200 < recursionLimit) (hu : un + 200 < cLine)
   (ho : s.heap.get? fa = some o) (hd' : o.data = .func (fnOf nm nm ps body sc .none .none doc pm an cdv ct)) (hcd : s.heap.CodeRec cdv nm)
   {S0 : Addr} {vs : List Value} {ws : List Int} (hl : s.heap.IsList S0 vs.toArray) (hi : IntsAre vs ws) (hlen : ws.length ≤ 63)
   (ret : ∀ h' tk, (∀ b o, b ≠ 30 → b ≠ 37 → s.heap.get? b = some o → h'.get? b = some o) → TabsH h' → Q (.bool true) { s with heap := h', toks := tk }) :
   wpP (model prog w) (AA dp un fr (some [])) (call (.ref fa) [.ref S0]) Q E s := by
  obtain ⟨oc, od, osl, dV0, kV0, doc0, pm0, an0, cdv0, ct0, h78⟩ := H
  have h2 := h78.symm.trans (show (hd.heap_1 w.params).lookup 78 = _ by k_is)
  cases h2
  have C34 : CodeHd s.heap 34 30 := codeHd_of_K (c := 34) (P := 30) X (by kernel_rfl)
  have C41 : CodeHd s.heap 41 37 := codeHd_of_K (c := 41) (P := 37) X (by kernel_rfl)
  have hT : TabsAt [(41, 37), (34, 30)] s.heap := fun q hq => by
    simp only [List.mem_cons, List.not_mem_nil, or_false] at hq
    rcases hq with rfl | rfl
    · exact ⟨C41, h37⟩
    · exact ⟨C34, h30⟩
  have X0 := ghost_K hT X (by kernel_rfl)
  have T0 := ghost_top hT T
  have hG := ghost_code hT
  have hl0 := ghost_list hT hl
  have S : (ghostOf s.heap [(41, 37), (34, 30)]).StaysIn s.heap := fun b o e => of_hideAll _ e
  have hN : ∀ q ∈ tabs0, s.heap.get? q.1 = some q.2 ∧ (ghostOf s.heap [(41, 37), (34, 30)]).get? q.1 = none := fun q hq => by
    simp only [List.mem_cons, List.not_mem_nil, or_false] at hq
    rcases hq with rfl | rfl
    · exact ⟨h37, hideAll_none _ (by simp)⟩
    · exact ⟨h30, hideAll_none _ (by simp)⟩
  refine' enter_defCP (args := ⟨[.ref S0], []⟩) tabs0 X0 T0 S hN ho hd' hcd ?room ?bind ?kind ?nd ?_ ?co ?gen ?k
  case room => show dp < _; omega
  case bind => exact BindsTo.of_eq rfl
  case kind => exact rfl
  case nd => decide +kernel
  case co => rfl
  case gen => rfl
  case k => rfl
  intro g L' h₁ tk cells Z F N Y Xg Tg
  have hY := CellsAre.four Y
  obtain ⟨o1, o2, o3, o4, hE, d1, d2, d3, d4⟩ := hY
  subst hE
  clear Y
  have e37 := (N (37, tabObj #[]) (List.mem_append_right _ (.head _))).2.2
  have e30 := (N (30, tabObj #[]) (List.mem_append_right _ (.tail _ (.head _)))).2.2
  have G : LG g L' := ⟨e30, e37, ⟨Z.lt (37, tabObj #[]) (.head _), Z.lt (30, tabObj #[]) (.tail _ (.head _))⟩, codeHd_of_K (c := 34) (P := 30) Xg (by kernel_rfl), codeHd_of_K (c := 41) (P := 37) Xg (by kernel_rfl)⟩
  refine law_body rfl ⟨_, _, _, _, _, _, _, _, _, _, _, h78⟩ Xg Tg G hroom hu (show Heap.IsList g S0 vs.toArray from hl0.imp fun _ x => ⟨Z.st _ _ x.1, x.2⟩) hi hlen (d1.trans rfl) (d2.trans rfl) (d3.trans rfl) (d4.trans rfl) F rfl (by simpa only [List.cons_append, List.nil_append] using N) ?_
  intro h' k' m' t O F9 N9
  refine ret h' k' (fun b o h1 h2 e => ?_) (tb_in O F9 N9)
  exact Z.kept F9 b o (by simp only [List.map_cons, List.map_nil, List.mem_cons, List.not_mem_nil, or_false, not_or]; exact ⟨h2, h1⟩) e
end
end Mine
end
section
open PySem PySem.W PySem.Spec PySem.Calls PyProof.Rows
set_option Elab.async false
set_option maxRecDepth 100000
set_option maxHeartbeats 4000000
namespace Mine
/-- the rest of the law's looks, behind its row's -/
theorem said_of (h : PySem.Challenge.rw_ia0006_01.row.wellSaid = true) : PySem.Challenge.rw_ia0006_01.wellSaid = true := by
  unfold OpenLaw.wellSaid
  simp only [Bool.and_eq_true]
  refine ⟨⟨⟨⟨⟨⟨⟨⟨⟨⟨⟨⟨⟨⟨⟨⟨⟨⟨h, ?_⟩, ?_⟩, ?_⟩, ?_⟩, ?_⟩, ?_⟩, ?_⟩, ?_⟩, ?_⟩, ?_⟩, ?_⟩, ?_⟩, ?_⟩, ?_⟩, ?_⟩, ?_⟩, ?_⟩, ?_⟩
  all_goals decide +kernel
theorem grown_old {h h' : Heap} (h37 : h.get? 37 = some (tabObj #[])) (h30 : h.get? 30 = some (tabObj #[])) (C41 : CodeHd h 41 37) (C34 : CodeHd h 34 30) (hk : ∀ b o, b ≠ 30 → b ≠ 37 → h.get? b = some o → h'.get? b = some o) (ht : TabsH h') : OldK h h' := by
  obtain ⟨⟨ps, hp, _⟩, ⟨qs, hq, _⟩⟩ := ht
  refine ⟨fun b o e => ?_, fun b o e => ?_⟩
  · by_cases b30 : b = 30
    · subst b30
      have e2 := h30.symm.trans e
      cases e2
      exact .inr (.inl ⟨(C34.tab h30).isCodeTable, rfl, #[], ps, rfl, by rw [Array.empty_append]; exact hp⟩)
    · by_cases b37 : b = 37
      · subst b37
        have e2 := h37.symm.trans e
        cases e2
        exact .inr (.inl ⟨(C41.tab h37).isCodeTable, rfl, #[], qs, rfl, by rw [Array.empty_append]; exact hq⟩)
      · exact .inl (hk b o b30 b37 e)
  · by_cases b30 : b = 30
    · subst b30; exact ⟨_, hp⟩
    · by_cases b37 : b = 37
      · subst b37; exact ⟨_, hq⟩
      · exact ⟨o, hk b o b30 b37 e⟩
theorem lawx : PySem.Challenge.rw_ia0006_01.Holds := by
  suffices H : PySem.Challenge.rw_ia0006_01.row.Holds from ⟨said_of H.1, H⟩
  refine hd ?_
  k_fill
  intro w s₀ s₁ mg mb G Y fa o pm cd doc dV kV ho hd' hcd hD hmg hg args vals as hpre hlay hrd hwl hlo
  have KX : (hd.heap_1 w.params).In s₁.heap := km_in_of Y
  have hT8 := km_tabs_of Y
  refine Ground.open G ?_
  intro T B D TE TW
  clear D
  wrow_args hpre hlay hrd hwl hlo
  have e1 : dV = .none := Dflts.none hD rfl
  have e2 : kV = .none := Dflts.noKw hD
  subst e1 e2
  (rename IntsAre _ _ => hI); (rename Heap.IsList _ _ _ => hL); (rename ¬ _ => hc)
  have h37 := hT8 37 (.head _)
  have h30 := hT8 30 (.tail _ (.head _))
  refine law_run (fr := some []) (dp := 1 + claimMargin) (un := 4) ⟨_, _, _, _, _, _, _, _, _, _, show (hd.heap_1 w.params).lookup 78 = _ by k_is⟩ KX T h37 h30 (by decide +kernel) (by decide +kernel) ho hd' hcd hL hI (by omega) ?_
  intro h' tk hk ht
  refine ⟨.inl ⟨.bool true, .bool true, [], rfl, fun _ => rfl, ReadsW.bool _, ?post, fun _ => ⟨List.nodup_nil, fun _ h => nomatch h⟩⟩, grown_old h37 h30 (codeHd_of_K KX (by kernel_rfl)) (codeHd_of_K KX (by kernel_rfl)) hk ht, rfl, .of_eq hg⟩
  case post =>
    first | rfl | wrow_post
end Mine
end
theorem PySem.Challenge.cw_ia0006_01_holds : PySem.Challenge.rw_ia0006_01.Holds := by
  exact Mine.lawx
