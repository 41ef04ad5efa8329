import JvmDerived
import JvmDerived.Pilot.@@N@@Statement
import JvmDerived.Pilot.@@N@@Code
set_option linter.unusedVariables false
set_option linter.unusedSimpArgs false
namespace Jvm.Pilot.@@N@@
open Jvm Jvm.ClassFile Sem Op Lib Jvm.Free Jvm.Stand Jvm.LawKit Jvm.RoadKit Bundle Jvm.Pilot.@@N@@.Jvm.D
theorem own_ofNat {i : Nat} (h : i < 2147483648) : (Int32.ofNat i).toInt = i := Int32.toInt_ofNat_of_lt h
theorem own_clamp {i : Nat} (h : i < 2147483648) : (Int32.ofNat i).toNatClampNeg = i := by
  have : (Int32.ofNat i).toNatClampNeg = (Int32.ofNat i).toInt.toNat := rfl
  rw [this, own_ofNat h]; omega
theorem own_up (i : Nat) : Int32.ofNat i + (1 : Int32) = Int32.ofNat (i + 1) := (Int32.ofNat_add i 1).symm
theorem own_of {x : Int32} (h : 0 ≤ x.toInt) : x = Int32.ofNat x.toInt.toNat := by
  have := x.toInt_lt
  apply Int32.toInt_inj.mp
  rw [own_ofNat (by omega)]; omega
theorem own_lti {i n : Nat} (hi : i < 2147483648) (hn : n < 2147483648) : Int32.ofNat i < Int32.ofNat n ↔ i < n := by
  rw [Int32.lt_iff_toInt_lt, own_ofNat hi, own_ofNat hn]; omega
theorem own_sub5 {na : Nat} (h : na < 5) : ((5 : Int32) - Int32.ofNat na).toInt = 5 - na := by
  rw [Int32.toInt_sub, own_ofNat (by omega), show (5 : Int32).toInt = 5 from rfl]
  exact Int.bmod_eq_of_le (by omega) (by omega)
theorem own_nz {na : Nat} (h : na < 5) : (5 : Int32) - Int32.ofNat na ≠ 0 := fun q => by
  have := own_sub5 h
  rw [q, show (0 : Int32).toInt = 0 from rfl] at this
  omega
theorem own_end {y : Int32} (hy : 0 ≤ y.toInt) {na : Nat} (h : na < 5) : ∃ nb : Nat, na ≤ nb ∧ nb ≤ 4 ∧ Int32.ofNat na + y % ((5 : Int32) - Int32.ofNat na) = Int32.ofNat nb := by
  have e1 : (y % ((5 : Int32) - Int32.ofNat na)).toInt = y.toInt % (5 - na) := by
    rw [Int32.toInt_mod, own_sub5 h, Int.tmod_eq_emod_of_nonneg hy]
  have b1 : 0 ≤ y.toInt % (5 - (na : Int)) := Int.emod_nonneg _ (by omega)
  have b2 : y.toInt % (5 - (na : Int)) < 5 - na := Int.emod_lt_of_pos _ (by omega)
  have e2 : (Int32.ofNat na + y % ((5 : Int32) - Int32.ofNat na)).toInt = na + y.toInt % (5 - na) := by
    rw [Int32.toInt_add, e1, own_ofNat (by omega)]
    exact Int.bmod_eq_of_le (by omega) (by omega)
  refine ⟨(Int32.ofNat na + y % ((5 : Int32) - Int32.ofNat na)).toInt.toNat, by omega, by omega, own_of (by omega)⟩
theorem own_startB (x : Int32) (hx : 0 ≤ x.toInt) : ∃ na : Nat, na < 5 ∧ x % (5 : Int32) = Int32.ofNat na := by
  have e1 : (x % (5 : Int32)).toInt = x.toInt % 5 := by rw [Int32.toInt_mod, show (5 : Int32).toInt = 5 from rfl, Int.tmod_eq_emod_of_nonneg hx]
  exact ⟨(x % (5 : Int32)).toInt.toNat, by omega, own_of (by omega)⟩
theorem own_nar {c : Int32} (h0 : 0 ≤ c.toInt) (h1 : c.toInt < 65536) : nar .char c = c := by
  have q := c_i2c c
  apply Int32.toInt_inj.mp
  show c.toUInt32.toUInt16.toUInt32.toInt32.toInt = c.toInt
  omega
def own_isbad (c : Int32) : Bool := decide (c < 48) || decide (57 < c)
def own_bad (i c s e : Int32) : Int32 := if ¬ i < s ∧ i < e ∧ own_isbad c = true then 1 else 0
def own_pow (k : Int32) : Int32 := if k = 0 then 1 else if k = 1 then 10 else if k = 2 then 100 else 1000
def own_term (i c s e : Int32) : Int32 := if i < s ∨ ¬ i < e then 0 else (c - 48) * own_pow (e - 1 - i)
def own_loop (f : Nat → Int32) : Nat → Nat → Int32 → Int32
  | 0, _, acc => acc
  | k + 1, i, acc => if own_isbad (f i) = true then -1 else own_loop f k (i + 1) (acc * 10 + (f i - 48))
def own_f (c0 c1 c2 c3 : Int32) (i : Nat) : Int32 := [c0, c1, c2, c3].getD i 0
theorem own_pairsF : ∀ s e : Fin 5, s.1 ≤ e.1 → (s.1 = 0 ∧ e.1 = 0) ∨ (s.1 = 0 ∧ e.1 = 1) ∨ (s.1 = 0 ∧ e.1 = 2) ∨ (s.1 = 0 ∧ e.1 = 3) ∨ (s.1 = 0 ∧ e.1 = 4) ∨ (s.1 = 1 ∧ e.1 = 1) ∨ (s.1 = 1 ∧ e.1 = 2) ∨ (s.1 = 1 ∧ e.1 = 3) ∨ (s.1 = 1 ∧ e.1 = 4) ∨ (s.1 = 2 ∧ e.1 = 2) ∨ (s.1 = 2 ∧ e.1 = 3) ∨ (s.1 = 2 ∧ e.1 = 4) ∨ (s.1 = 3 ∧ e.1 = 3) ∨ (s.1 = 3 ∧ e.1 = 4) ∨ (s.1 = 4 ∧ e.1 = 4) := by decide +kernel
theorem own_pairs {s e : Nat} (h : s ≤ e) (he : e ≤ 4) : (s = 0 ∧ e = 0) ∨ (s = 0 ∧ e = 1) ∨ (s = 0 ∧ e = 2) ∨ (s = 0 ∧ e = 3) ∨ (s = 0 ∧ e = 4) ∨ (s = 1 ∧ e = 1) ∨ (s = 1 ∧ e = 2) ∨ (s = 1 ∧ e = 3) ∨ (s = 1 ∧ e = 4) ∨ (s = 2 ∧ e = 2) ∨ (s = 2 ∧ e = 3) ∨ (s = 2 ∧ e = 4) ∨ (s = 3 ∧ e = 3) ∨ (s = 3 ∧ e = 4) ∨ (s = 4 ∧ e = 4) := own_pairsF ⟨s, by omega⟩ ⟨e, by omega⟩ h
theorem own_yes (c0 c1 c2 c3 : Int32) {s e : Nat} (h : s ≤ e) (he : e ≤ 4)
    (hb : ¬ own_bad 0 c0 (Int32.ofNat s) (Int32.ofNat e) = 0 ∨ ¬ own_bad 1 c1 (Int32.ofNat s) (Int32.ofNat e) = 0 ∨ ¬ own_bad 2 c2 (Int32.ofNat s) (Int32.ofNat e) = 0 ∨ ¬ own_bad 3 c3 (Int32.ofNat s) (Int32.ofNat e) = 0) :
    own_loop (own_f c0 c1 c2 c3) (e - s) s 0 = -1 := by
  rcases own_pairs h he with ⟨rfl, rfl⟩ | ⟨rfl, rfl⟩ | ⟨rfl, rfl⟩ | ⟨rfl, rfl⟩ | ⟨rfl, rfl⟩ | ⟨rfl, rfl⟩ | ⟨rfl, rfl⟩ | ⟨rfl, rfl⟩ | ⟨rfl, rfl⟩ | ⟨rfl, rfl⟩ | ⟨rfl, rfl⟩ | ⟨rfl, rfl⟩ | ⟨rfl, rfl⟩ | ⟨rfl, rfl⟩ | ⟨rfl, rfl⟩ <;>
  by_cases b0 : own_isbad c0 = true <;> by_cases b1 : own_isbad c1 = true <;> by_cases b2 : own_isbad c2 = true <;> by_cases b3 : own_isbad c3 = true <;>
  simp [own_bad, own_loop, own_f, b0, b1, b2, b3] at hb ⊢
theorem own_no (c0 c1 c2 c3 : Int32) {s e : Nat} (h : s ≤ e) (he : e ≤ 4)
    (h0 : own_bad 0 c0 (Int32.ofNat s) (Int32.ofNat e) = 0) (h1 : own_bad 1 c1 (Int32.ofNat s) (Int32.ofNat e) = 0) (h2 : own_bad 2 c2 (Int32.ofNat s) (Int32.ofNat e) = 0) (h3 : own_bad 3 c3 (Int32.ofNat s) (Int32.ofNat e) = 0) :
    own_loop (own_f c0 c1 c2 c3) (e - s) s 0 = own_term 0 c0 (Int32.ofNat s) (Int32.ofNat e) + own_term 1 c1 (Int32.ofNat s) (Int32.ofNat e) + own_term 2 c2 (Int32.ofNat s) (Int32.ofNat e) + own_term 3 c3 (Int32.ofNat s) (Int32.ofNat e) := by
  rcases own_pairs h he with ⟨rfl, rfl⟩ | ⟨rfl, rfl⟩ | ⟨rfl, rfl⟩ | ⟨rfl, rfl⟩ | ⟨rfl, rfl⟩ | ⟨rfl, rfl⟩ | ⟨rfl, rfl⟩ | ⟨rfl, rfl⟩ | ⟨rfl, rfl⟩ | ⟨rfl, rfl⟩ | ⟨rfl, rfl⟩ | ⟨rfl, rfl⟩ | ⟨rfl, rfl⟩ | ⟨rfl, rfl⟩ | ⟨rfl, rfl⟩ <;>
  by_cases b0 : own_isbad c0 = true <;> by_cases b1 : own_isbad c1 = true <;> by_cases b2 : own_isbad c2 = true <;> by_cases b3 : own_isbad c3 = true <;>
  simp [own_bad, own_loop, own_f, own_term, own_pow, b0, b1, b2, b3, Int32.add_mul, Int32.mul_assoc] at h0 h1 h2 h3 ⊢
def Q1 (Z : State) (p1 : Int32) (h0 : Heap) (n0 : Nat) (v : Option Value) (h : Heap) (L : List Loc) : Prop := ∃ r : Int32, v = some (.int r) ∧ 0 ≤ r.toInt ∧ r.toInt < 65536 ∧ Fr n0 L ∧ h = h0
theorem d1_0 : decode method_2_code 0 = .ok (.iload_n 0, 1) := by decide +kernel
theorem d1_1 : decode method_2_code 1 = .ok (.iconst 1, 1) := by decide +kernel
theorem d1_2 : decode method_2_code 2 = .ok (.iand, 1) := by decide +kernel
theorem d1_3 : decode method_2_code 3 = .ok (.ifCond .eq 14, 3) := by decide +kernel
theorem d1_6 : decode method_2_code 6 = .ok (.bipush 48, 2) := by decide +kernel
theorem d1_8 : decode method_2_code 8 = .ok (.iload_n 0, 1) := by decide +kernel
theorem d1_9 : decode method_2_code 9 = .ok (.iconst 1, 1) := by decide +kernel
theorem d1_10 : decode method_2_code 10 = .ok (.iushr, 1) := by decide +kernel
theorem d1_11 : decode method_2_code 11 = .ok (.bipush 10, 2) := by decide +kernel
theorem d1_13 : decode method_2_code 13 = .ok (.irem, 1) := by decide +kernel
theorem d1_14 : decode method_2_code 14 = .ok (.iadd, 1) := by decide +kernel
theorem d1_15 : decode method_2_code 15 = .ok (.i2c, 1) := by decide +kernel
theorem d1_16 : decode method_2_code 16 = .ok (.ireturn, 1) := by decide +kernel
theorem d1_17 : decode method_2_code 17 = .ok (.iload_n 0, 1) := by decide +kernel
theorem d1_18 : decode method_2_code 18 = .ok (.iconst 1, 1) := by decide +kernel
theorem d1_19 : decode method_2_code 19 = .ok (.iushr, 1) := by decide +kernel
theorem d1_20 : decode method_2_code 20 = .ok (.ldc 7, 2) := by decide +kernel
theorem d1_22 : decode method_2_code 22 = .ok (.iand, 1) := by decide +kernel
theorem d1_23 : decode method_2_code 23 = .ok (.i2c, 1) := by decide +kernel
theorem d1_24 : decode method_2_code 24 = .ok (.ireturn, 1) := by decide +kernel
theorem pn_1 : plainName "com/example/bondsmith/bondsmith/MonthDaysDigitsPinLaw" = true := by first | (simp [plainName, overriddenIn]; done) | decide +kernel
theorem ef_1 (m : MethodId) (p1 : Int32) : entryFrame m #[(.int p1)] 1 = mkF m 0 #[.val (.int p1)] [] := by first | (simp [entryFrame, mkF, argsToLocals, Value.category]; done) | rfl
set_option maxRecDepth 65536 in
set_option maxHeartbeats 40000000 in
theorem rm1 (l : Launch) (Z : State) (a0 : Array Value) (hw : ∀ d ∈ tables_1, d.before a0 Z = true) (ws : List Jvm.Cond) (p1 : Int32) (h0 : Heap) (n0 : Nat) (Z0 : n0 ≤ h0.size) :
    MetFree l (⟨"com/example/bondsmith/bondsmith/MonthDaysDigitsPinLaw", "draw", "(I)C"⟩ : MethodName) (head1 (Jvm.Cond.code (⟨"com/example/bondsmith/bondsmith/MonthDaysDigitsPinLaw", "draw", "(I)C"⟩ : MethodName) method_2_code 1 (some .char) :: ws) ({ frames := 0, cells := 0, slots := 0, locals := 0 } : Room)) (fun a U => a = #[(.int p1)] ∧ Z.Warmed39 U.vm ∧ U.heap = h0) (fun _ _ _ _ _ => True) (fun _ U o U' => ∃ v L, o = .returned v ∧ Q1 Z p1 h0 n0 v U'.heap L ∧ FrameEnd U o U' L ({ frames := 0, cells := 0, slots := 0, locals := 0 } : Room).cells ({ frames := 0, cells := 0, slots := 0, locals := 0 } : Room).slots) := by
  refine MetFree.of_bodySF (plainFor_of_name pn_1) hisR ?_
  intro p e s m args below meth c s₁ Bd hml0 hP hK
  obtain ⟨rfl, hZ, hh⟩ := hP
  have hx := Bd.exec
  have hby := Bd.bytes
  have hml : c.maxLocals = 1 := hml0
  have hown : s.vm.findClass "com/example/bondsmith/bondsmith/MonthDaysDigitsPinLaw" = some m.cls := findClass_of_methodNamed Bd.named
  have hnm := (name_of_methodNamed Bd.named Bd.method).1
  have X0 : Stand p l e ({ frames := 0, cells := 0, slots := 0, locals := 0 } : Room) s m #[(.int p1)] below meth c s₁ [] 0 0 := Stand.of_body Bd
  have e0 : s₁.heap = h0 := by rw [← hh, Bd.state]; rfl
  have N0 := Fr.nil n0
  have pre0 : ∀ t, Steps p.tables e below (s₁.setTop (mkF m 0 #[.val (.int p1)] [])) t → Steps p.tables e below (s₁.setTop (entryFrame m #[(.int p1)] 1)) t := fun t k => castTop (ef_1 m p1) k
  have pre1 : ∀ t, Steps p.tables e below (s₁.setTop (mkF m 3 #[.val (.int p1)] [(.int (p1 &&& (1 : Int32)))])) t → Steps p.tables e below (s₁.setTop (entryFrame m #[(.int p1)] 1)) t := by
    intro t k
    refine pre0 t ?_
    refine XS.iloadN X0.here hx rfl (hb hby d1_0) rfl ?_
    show Steps p.tables e below (s₁.setTop (mkF m 1 #[.val (.int p1)] [(.int p1)])) _
    refine XS.iconst X0.here hx rfl (hb hby d1_1) ?_
    show Steps p.tables e below (s₁.setTop (mkF m 2 #[.val (.int p1)] [(.int (1 : Int32)), (.int p1)])) _
    refine XS.iand X0.here hx rfl (hb hby d1_2) rfl ?_
    show Steps p.tables e below (s₁.setTop (mkF m 3 #[.val (.int p1)] [(.int (p1 &&& (1 : Int32)))])) _
    exact k
  by_cases hc3 : (p1 &&& (1 : Int32)) = (0 : Int32)
  · have pre2 : ∀ t, Steps p.tables e below (s₁.setTop (mkF m 24 #[.val (.int p1)] [(.int ((((p1.toUInt32 >>> ((1 : Int32) &&& 31).toUInt32).toInt32) &&& (65535 : Int32)).toUInt32.toUInt16.toUInt32.toInt32))])) t → Steps p.tables e below (s₁.setTop (entryFrame m #[(.int p1)] 1)) t := by
      intro t k
      refine pre1 t ?_
      refine XS.ifYes X0.here hx rfl (pc0 := 3) (pc' := 17) rfl (hb hby d1_3) rfl ((if0 _ _).trans (teq hc3).1) (by decide) (by decide) ?_
      show Steps p.tables e below (s₁.setTop (mkF m 17 #[.val (.int p1)] [])) _
      refine XS.iloadN X0.here hx rfl (hb hby d1_17) rfl ?_
      show Steps p.tables e below (s₁.setTop (mkF m 18 #[.val (.int p1)] [(.int p1)])) _
      refine XS.iconst X0.here hx rfl (hb hby d1_18) ?_
      show Steps p.tables e below (s₁.setTop (mkF m 19 #[.val (.int p1)] [(.int (1 : Int32)), (.int p1)])) _
      refine XS.iushr X0.here hx rfl (hb hby d1_19) rfl ?_
      show Steps p.tables e below (s₁.setTop (mkF m 20 #[.val (.int p1)] [(.int ((p1.toUInt32 >>> ((1 : Int32) &&& 31).toUInt32).toInt32))])) _
      refine X0.ldcInt hx hown (mvT hZ (hw _ (List.mem_of_getElem? (i := 4) rfl))) (g := (mkF m 20 #[.val (.int p1)] [(.int ((p1.toUInt32 >>> ((1 : Int32) &&& 31).toUInt32).toInt32))])) rfl (hb hby d1_20) _ ?_
      show Steps p.tables e below (s₁.setTop (mkF m 22 #[.val (.int p1)] [(.int (65535 : Int32)), (.int ((p1.toUInt32 >>> ((1 : Int32) &&& 31).toUInt32).toInt32))])) _
      refine XS.iand X0.here hx rfl (hb hby d1_22) rfl ?_
      show Steps p.tables e below (s₁.setTop (mkF m 23 #[.val (.int p1)] [(.int (((p1.toUInt32 >>> ((1 : Int32) &&& 31).toUInt32).toInt32) &&& (65535 : Int32)))])) _
      refine XS.i2c X0.here hx rfl (hb hby d1_23) rfl ?_
      show Steps p.tables e below (s₁.setTop (mkF m 24 #[.val (.int p1)] [(.int ((((p1.toUInt32 >>> ((1 : Int32) &&& 31).toUInt32).toInt32) &&& (65535 : Int32)).toUInt32.toUInt16.toUInt32.toInt32))])) _
      exact k
    obtain ⟨fs, hr, hrun, hended, hW, hsame⟩ := X0.leave (v := some (.int (nar .char ((((p1.toUInt32 >>> ((1 : Int32) &&& 31).toUInt32).toInt32) &&& (65535 : Int32)).toUInt32.toUInt16.toUInt32.toInt32)))) (fun h => by rw [Bd.returns] at h; cases h)
    refine ⟨_, _, pre2 _ ?_, hrun, hended, _, _, rfl, ?_, ⟨_, rfl⟩, hW, hsame.mono (by decide) (by decide)⟩
    · exact retN X0 hx (t := .char) Bd.returns (by simp) (hb hby d1_24) hr
    · show Q1 Z p1 h0 n0 _ s₁.heap _
      rw [e0]
      exact ⟨_, rfl, (c_i2c _).2.1, (c_i2c _).2.2, N0, rfl⟩
  · have pre3 : ∀ t, Steps p.tables e below (s₁.setTop (mkF m 16 #[.val (.int p1)] [(.int (((48 : Int32) + (((p1.toUInt32 >>> ((1 : Int32) &&& 31).toUInt32).toInt32) % (10 : Int32))).toUInt32.toUInt16.toUInt32.toInt32))])) t → Steps p.tables e below (s₁.setTop (entryFrame m #[(.int p1)] 1)) t := by
      intro t k
      refine pre1 t ?_
      refine XS.ifNo X0.here hx rfl (hb hby d1_3) rfl ((if0 _ _).trans (feq hc3).1) ?_
      show Steps p.tables e below (s₁.setTop (mkF m 6 #[.val (.int p1)] [])) _
      refine XS.bipush X0.here hx rfl (hb hby d1_6) ?_
      show Steps p.tables e below (s₁.setTop (mkF m 8 #[.val (.int p1)] [(.int (48 : Int32))])) _
      refine XS.iloadN X0.here hx rfl (hb hby d1_8) rfl ?_
      show Steps p.tables e below (s₁.setTop (mkF m 9 #[.val (.int p1)] [(.int p1), (.int (48 : Int32))])) _
      refine XS.iconst X0.here hx rfl (hb hby d1_9) ?_
      show Steps p.tables e below (s₁.setTop (mkF m 10 #[.val (.int p1)] [(.int (1 : Int32)), (.int p1), (.int (48 : Int32))])) _
      refine XS.iushr X0.here hx rfl (hb hby d1_10) rfl ?_
      show Steps p.tables e below (s₁.setTop (mkF m 11 #[.val (.int p1)] [(.int ((p1.toUInt32 >>> ((1 : Int32) &&& 31).toUInt32).toInt32)), (.int (48 : Int32))])) _
      refine XS.bipush X0.here hx rfl (hb hby d1_11) ?_
      show Steps p.tables e below (s₁.setTop (mkF m 13 #[.val (.int p1)] [(.int (10 : Int32)), (.int ((p1.toUInt32 >>> ((1 : Int32) &&& 31).toUInt32).toInt32)), (.int (48 : Int32))])) _
      refine iremM (g := (mkF m 13 #[.val (.int p1)] [(.int (10 : Int32)), (.int ((p1.toUInt32 >>> ((1 : Int32) &&& 31).toUInt32).toInt32)), (.int (48 : Int32))])) X0 hx rfl (hb hby d1_13) rfl (by decide) ?_
      show Steps p.tables e below (s₁.setTop (mkF m 14 #[.val (.int p1)] [(.int (((p1.toUInt32 >>> ((1 : Int32) &&& 31).toUInt32).toInt32) % (10 : Int32))), (.int (48 : Int32))])) _
      refine XS.iadd X0.here hx rfl (hb hby d1_14) rfl ?_
      show Steps p.tables e below (s₁.setTop (mkF m 15 #[.val (.int p1)] [(.int ((48 : Int32) + (((p1.toUInt32 >>> ((1 : Int32) &&& 31).toUInt32).toInt32) % (10 : Int32))))])) _
      refine XS.i2c X0.here hx rfl (hb hby d1_15) rfl ?_
      show Steps p.tables e below (s₁.setTop (mkF m 16 #[.val (.int p1)] [(.int (((48 : Int32) + (((p1.toUInt32 >>> ((1 : Int32) &&& 31).toUInt32).toInt32) % (10 : Int32))).toUInt32.toUInt16.toUInt32.toInt32))])) _
      exact k
    obtain ⟨fs, hr, hrun, hended, hW, hsame⟩ := X0.leave (v := some (.int (nar .char (((48 : Int32) + (((p1.toUInt32 >>> ((1 : Int32) &&& 31).toUInt32).toInt32) % (10 : Int32))).toUInt32.toUInt16.toUInt32.toInt32)))) (fun h => by rw [Bd.returns] at h; cases h)
    refine ⟨_, _, pre3 _ ?_, hrun, hended, _, _, rfl, ?_, ⟨_, rfl⟩, hW, hsame.mono (by decide) (by decide)⟩
    · exact retN X0 hx (t := .char) Bd.returns (by simp) (hb hby d1_16) hr
    · show Q1 Z p1 h0 n0 _ s₁.heap _
      rw [e0]
      exact ⟨_, rfl, (c_i2c _).2.1, (c_i2c _).2.2, N0, rfl⟩
def Q2 (Z : State) (p1 p2 p3 p4 : Int32) (h0 : Heap) (n0 : Nat) (v : Option Value) (h : Heap) (L : List Loc) : Prop := v = some (.int (own_bad p1 p2 p3 p4)) ∧ Fr n0 L ∧ h = h0
theorem d2_0 : decode method_4_code 0 = .ok (.iload_n 0, 1) := by decide +kernel
theorem d2_1 : decode method_4_code 1 = .ok (.iload_n 2, 1) := by decide +kernel
theorem d2_2 : decode method_4_code 2 = .ok (.if_icmp .lt 24, 3) := by decide +kernel
theorem d2_5 : decode method_4_code 5 = .ok (.iload_n 0, 1) := by decide +kernel
theorem d2_6 : decode method_4_code 6 = .ok (.iload_n 3, 1) := by decide +kernel
theorem d2_7 : decode method_4_code 7 = .ok (.if_icmp .ge 19, 3) := by decide +kernel
theorem d2_10 : decode method_4_code 10 = .ok (.iload_n 1, 1) := by decide +kernel
theorem d2_11 : decode method_4_code 11 = .ok (.bipush 48, 2) := by decide +kernel
theorem d2_13 : decode method_4_code 13 = .ok (.if_icmp .lt 9, 3) := by decide +kernel
theorem d2_16 : decode method_4_code 16 = .ok (.iload_n 1, 1) := by decide +kernel
theorem d2_17 : decode method_4_code 17 = .ok (.bipush 57, 2) := by decide +kernel
theorem d2_19 : decode method_4_code 19 = .ok (.if_icmp .le 7, 3) := by decide +kernel
theorem d2_22 : decode method_4_code 22 = .ok (.iconst 1, 1) := by decide +kernel
theorem d2_23 : decode method_4_code 23 = .ok (.goto 4, 3) := by decide +kernel
theorem d2_26 : decode method_4_code 26 = .ok (.iconst 0, 1) := by decide +kernel
theorem d2_27 : decode method_4_code 27 = .ok (.ireturn, 1) := by decide +kernel
theorem pn_2 : plainName "com/example/bondsmith/bondsmith/MonthDaysDigitsPinLaw" = true := by first | (simp [plainName, overriddenIn]; done) | decide +kernel
theorem ef_2 (m : MethodId) (p1 : Int32) (p2 : Int32) (p3 : Int32) (p4 : Int32) : entryFrame m #[(.int p1), (.int p2), (.int p3), (.int p4)] 4 = mkF m 0 #[.val (.int p1), .val (.int p2), .val (.int p3), .val (.int p4)] [] := by first | (simp [entryFrame, mkF, argsToLocals, Value.category]; done) | rfl
set_option maxRecDepth 65536 in
set_option maxHeartbeats 40000000 in
theorem rm2 (l : Launch) (Z : State) (a0 : Array Value) (hw : ∀ d ∈ tables_1, d.before a0 Z = true) (ws : List Jvm.Cond) (p1 p2 p3 p4 : Int32) (h0 : Heap) (n0 : Nat) (Z0 : n0 ≤ h0.size) :
    MetFree l (⟨"com/example/bondsmith/bondsmith/MonthDaysDigitsPinLaw", "bad", "(ICII)Z"⟩ : MethodName) (head1 (Jvm.Cond.code (⟨"com/example/bondsmith/bondsmith/MonthDaysDigitsPinLaw", "bad", "(ICII)Z"⟩ : MethodName) method_4_code 4 (some .boolean) :: ws) ({ frames := 0, cells := 0, slots := 0, locals := 0 } : Room)) (fun a U => a = #[(.int p1), (.int p2), (.int p3), (.int p4)] ∧ Z.Warmed39 U.vm ∧ U.heap = h0) (fun _ _ _ _ _ => True) (fun _ U o U' => ∃ v L, o = .returned v ∧ Q2 Z p1 p2 p3 p4 h0 n0 v U'.heap L ∧ FrameEnd U o U' L ({ frames := 0, cells := 0, slots := 0, locals := 0 } : Room).cells ({ frames := 0, cells := 0, slots := 0, locals := 0 } : Room).slots) := by
  refine MetFree.of_bodySF (plainFor_of_name pn_2) hisR ?_
  intro p e s m args below meth c s₁ Bd hml0 hP hK
  obtain ⟨rfl, hZ, hh⟩ := hP
  have hx := Bd.exec
  have hby := Bd.bytes
  have hml : c.maxLocals = 4 := hml0
  have hown : s.vm.findClass "com/example/bondsmith/bondsmith/MonthDaysDigitsPinLaw" = some m.cls := findClass_of_methodNamed Bd.named
  have hnm := (name_of_methodNamed Bd.named Bd.method).1
  have X0 : Stand p l e ({ frames := 0, cells := 0, slots := 0, locals := 0 } : Room) s m #[(.int p1), (.int p2), (.int p3), (.int p4)] below meth c s₁ [] 0 0 := Stand.of_body Bd
  have e0 : s₁.heap = h0 := by rw [← hh, Bd.state]; rfl
  have N0 := Fr.nil n0
  have pre0 : ∀ t, Steps p.tables e below (s₁.setTop (mkF m 0 #[.val (.int p1), .val (.int p2), .val (.int p3), .val (.int p4)] [])) t → Steps p.tables e below (s₁.setTop (entryFrame m #[(.int p1), (.int p2), (.int p3), (.int p4)] 4)) t := fun t k => castTop (ef_2 m p1 p2 p3 p4) k
  have pre1 : ∀ t, Steps p.tables e below (s₁.setTop (mkF m 2 #[.val (.int p1), .val (.int p2), .val (.int p3), .val (.int p4)] [(.int p3), (.int p1)])) t → Steps p.tables e below (s₁.setTop (entryFrame m #[(.int p1), (.int p2), (.int p3), (.int p4)] 4)) t := by
    intro t k
    refine pre0 t ?_
    refine XS.iloadN X0.here hx rfl (hb hby d2_0) rfl ?_
    show Steps p.tables e below (s₁.setTop (mkF m 1 #[.val (.int p1), .val (.int p2), .val (.int p3), .val (.int p4)] [(.int p1)])) _
    refine XS.iloadN X0.here hx rfl (hb hby d2_1) rfl ?_
    show Steps p.tables e below (s₁.setTop (mkF m 2 #[.val (.int p1), .val (.int p2), .val (.int p3), .val (.int p4)] [(.int p3), (.int p1)])) _
    exact k
  by_cases hc2 : p1 < p3
  · have pre2 : ∀ t, Steps p.tables e below (s₁.setTop (mkF m 27 #[.val (.int p1), .val (.int p2), .val (.int p3), .val (.int p4)] [(.int (0 : Int32))])) t → Steps p.tables e below (s₁.setTop (entryFrame m #[(.int p1), (.int p2), (.int p3), (.int p4)] 4)) t := by
      intro t k
      refine pre1 t ?_
      refine XS.icmpYes X0.here hx rfl (pc0 := 2) (pc' := 26) rfl (hb hby d2_2) rfl (tlt hc2).1 (by decide) (by decide) ?_
      show Steps p.tables e below (s₁.setTop (mkF m 26 #[.val (.int p1), .val (.int p2), .val (.int p3), .val (.int p4)] [])) _
      refine XS.iconst X0.here hx rfl (hb hby d2_26) ?_
      show Steps p.tables e below (s₁.setTop (mkF m 27 #[.val (.int p1), .val (.int p2), .val (.int p3), .val (.int p4)] [(.int (0 : Int32))])) _
      exact k
    obtain ⟨fs, hr, hrun, hended, hW, hsame⟩ := X0.leave (v := some (.int (0 : Int32))) (fun h => by rw [Bd.returns] at h; cases h)
    refine ⟨_, _, pre2 _ ?_, hrun, hended, _, _, rfl, ?_, ⟨_, rfl⟩, hW, hsame.mono (by decide) (by decide)⟩
    · exact retN X0 hx (t := .boolean) Bd.returns (by simp) (hb hby d2_27) hr
    · show Q2 Z p1 p2 p3 p4 h0 n0 _ s₁.heap _
      rw [e0]
      exact ⟨congrArg (fun z => some (Value.int z)) (show (0 : Int32) = own_bad p1 p2 p3 p4 by simp [own_bad, own_isbad, hc2]), N0, rfl⟩
  · have pre3 : ∀ t, Steps p.tables e below (s₁.setTop (mkF m 7 #[.val (.int p1), .val (.int p2), .val (.int p3), .val (.int p4)] [(.int p4), (.int p1)])) t → Steps p.tables e below (s₁.setTop (entryFrame m #[(.int p1), (.int p2), (.int p3), (.int p4)] 4)) t := by
      intro t k
      refine pre1 t ?_
      refine XS.icmpNo X0.here hx rfl (hb hby d2_2) rfl (flt hc2).1 ?_
      show Steps p.tables e below (s₁.setTop (mkF m 5 #[.val (.int p1), .val (.int p2), .val (.int p3), .val (.int p4)] [])) _
      refine XS.iloadN X0.here hx rfl (hb hby d2_5) rfl ?_
      show Steps p.tables e below (s₁.setTop (mkF m 6 #[.val (.int p1), .val (.int p2), .val (.int p3), .val (.int p4)] [(.int p1)])) _
      refine XS.iloadN X0.here hx rfl (hb hby d2_6) rfl ?_
      show Steps p.tables e below (s₁.setTop (mkF m 7 #[.val (.int p1), .val (.int p2), .val (.int p3), .val (.int p4)] [(.int p4), (.int p1)])) _
      exact k
    by_cases hc7 : p1 < p4
    · have pre4 : ∀ t, Steps p.tables e below (s₁.setTop (mkF m 13 #[.val (.int p1), .val (.int p2), .val (.int p3), .val (.int p4)] [(.int (48 : Int32)), (.int p2)])) t → Steps p.tables e below (s₁.setTop (entryFrame m #[(.int p1), (.int p2), (.int p3), (.int p4)] 4)) t := by
        intro t k
        refine pre3 t ?_
        refine XS.icmpNo X0.here hx rfl (hb hby d2_7) rfl (tlt hc7).2.1 ?_
        show Steps p.tables e below (s₁.setTop (mkF m 10 #[.val (.int p1), .val (.int p2), .val (.int p3), .val (.int p4)] [])) _
        refine XS.iloadN X0.here hx rfl (hb hby d2_10) rfl ?_
        show Steps p.tables e below (s₁.setTop (mkF m 11 #[.val (.int p1), .val (.int p2), .val (.int p3), .val (.int p4)] [(.int p2)])) _
        refine XS.bipush X0.here hx rfl (hb hby d2_11) ?_
        show Steps p.tables e below (s₁.setTop (mkF m 13 #[.val (.int p1), .val (.int p2), .val (.int p3), .val (.int p4)] [(.int (48 : Int32)), (.int p2)])) _
        exact k
      by_cases hc13 : p2 < (48 : Int32)
      · have pre5 : ∀ t, Steps p.tables e below (s₁.setTop (mkF m 27 #[.val (.int p1), .val (.int p2), .val (.int p3), .val (.int p4)] [(.int (1 : Int32))])) t → Steps p.tables e below (s₁.setTop (entryFrame m #[(.int p1), (.int p2), (.int p3), (.int p4)] 4)) t := by
          intro t k
          refine pre4 t ?_
          refine XS.icmpYes X0.here hx rfl (pc0 := 13) (pc' := 22) rfl (hb hby d2_13) rfl (tlt hc13).1 (by decide) (by decide) ?_
          show Steps p.tables e below (s₁.setTop (mkF m 22 #[.val (.int p1), .val (.int p2), .val (.int p3), .val (.int p4)] [])) _
          refine XS.iconst X0.here hx rfl (hb hby d2_22) ?_
          show Steps p.tables e below (s₁.setTop (mkF m 23 #[.val (.int p1), .val (.int p2), .val (.int p3), .val (.int p4)] [(.int (1 : Int32))])) _
          refine XS.goto X0.here hx rfl (pc0 := 23) (pc' := 27) rfl (hb hby d2_23) (by decide) (by decide) ?_
          show Steps p.tables e below (s₁.setTop (mkF m 27 #[.val (.int p1), .val (.int p2), .val (.int p3), .val (.int p4)] [(.int (1 : Int32))])) _
          exact k
        obtain ⟨fs, hr, hrun, hended, hW, hsame⟩ := X0.leave (v := some (.int (1 : Int32))) (fun h => by rw [Bd.returns] at h; cases h)
        refine ⟨_, _, pre5 _ ?_, hrun, hended, _, _, rfl, ?_, ⟨_, rfl⟩, hW, hsame.mono (by decide) (by decide)⟩
        · exact retN X0 hx (t := .boolean) Bd.returns (by simp) (hb hby d2_27) hr
        · show Q2 Z p1 p2 p3 p4 h0 n0 _ s₁.heap _
          rw [e0]
          exact ⟨congrArg (fun z => some (Value.int z)) (show (1 : Int32) = own_bad p1 p2 p3 p4 by simp [own_bad, own_isbad, hc2, hc7, hc13]), N0, rfl⟩
      · have pre6 : ∀ t, Steps p.tables e below (s₁.setTop (mkF m 19 #[.val (.int p1), .val (.int p2), .val (.int p3), .val (.int p4)] [(.int (57 : Int32)), (.int p2)])) t → Steps p.tables e below (s₁.setTop (entryFrame m #[(.int p1), (.int p2), (.int p3), (.int p4)] 4)) t := by
          intro t k
          refine pre4 t ?_
          refine XS.icmpNo X0.here hx rfl (hb hby d2_13) rfl (flt hc13).1 ?_
          show Steps p.tables e below (s₁.setTop (mkF m 16 #[.val (.int p1), .val (.int p2), .val (.int p3), .val (.int p4)] [])) _
          refine XS.iloadN X0.here hx rfl (hb hby d2_16) rfl ?_
          show Steps p.tables e below (s₁.setTop (mkF m 17 #[.val (.int p1), .val (.int p2), .val (.int p3), .val (.int p4)] [(.int p2)])) _
          refine XS.bipush X0.here hx rfl (hb hby d2_17) ?_
          show Steps p.tables e below (s₁.setTop (mkF m 19 #[.val (.int p1), .val (.int p2), .val (.int p3), .val (.int p4)] [(.int (57 : Int32)), (.int p2)])) _
          exact k
        by_cases hc19 : (57 : Int32) < p2
        · have pre7 : ∀ t, Steps p.tables e below (s₁.setTop (mkF m 27 #[.val (.int p1), .val (.int p2), .val (.int p3), .val (.int p4)] [(.int (1 : Int32))])) t → Steps p.tables e below (s₁.setTop (entryFrame m #[(.int p1), (.int p2), (.int p3), (.int p4)] 4)) t := by
            intro t k
            refine pre6 t ?_
            refine XS.icmpNo X0.here hx rfl (hb hby d2_19) rfl (tlt hc19).2.2.2 ?_
            show Steps p.tables e below (s₁.setTop (mkF m 22 #[.val (.int p1), .val (.int p2), .val (.int p3), .val (.int p4)] [])) _
            refine XS.iconst X0.here hx rfl (hb hby d2_22) ?_
            show Steps p.tables e below (s₁.setTop (mkF m 23 #[.val (.int p1), .val (.int p2), .val (.int p3), .val (.int p4)] [(.int (1 : Int32))])) _
            refine XS.goto X0.here hx rfl (pc0 := 23) (pc' := 27) rfl (hb hby d2_23) (by decide) (by decide) ?_
            show Steps p.tables e below (s₁.setTop (mkF m 27 #[.val (.int p1), .val (.int p2), .val (.int p3), .val (.int p4)] [(.int (1 : Int32))])) _
            exact k
          obtain ⟨fs, hr, hrun, hended, hW, hsame⟩ := X0.leave (v := some (.int (1 : Int32))) (fun h => by rw [Bd.returns] at h; cases h)
          refine ⟨_, _, pre7 _ ?_, hrun, hended, _, _, rfl, ?_, ⟨_, rfl⟩, hW, hsame.mono (by decide) (by decide)⟩
          · exact retN X0 hx (t := .boolean) Bd.returns (by simp) (hb hby d2_27) hr
          · show Q2 Z p1 p2 p3 p4 h0 n0 _ s₁.heap _
            rw [e0]
            exact ⟨congrArg (fun z => some (Value.int z)) (show (1 : Int32) = own_bad p1 p2 p3 p4 by simp [own_bad, own_isbad, hc2, hc7, hc13, hc19]), N0, rfl⟩
        · have pre8 : ∀ t, Steps p.tables e below (s₁.setTop (mkF m 27 #[.val (.int p1), .val (.int p2), .val (.int p3), .val (.int p4)] [(.int (0 : Int32))])) t → Steps p.tables e below (s₁.setTop (entryFrame m #[(.int p1), (.int p2), (.int p3), (.int p4)] 4)) t := by
            intro t k
            refine pre6 t ?_
            refine XS.icmpYes X0.here hx rfl (pc0 := 19) (pc' := 26) rfl (hb hby d2_19) rfl (flt hc19).2.2.2 (by decide) (by decide) ?_
            show Steps p.tables e below (s₁.setTop (mkF m 26 #[.val (.int p1), .val (.int p2), .val (.int p3), .val (.int p4)] [])) _
            refine XS.iconst X0.here hx rfl (hb hby d2_26) ?_
            show Steps p.tables e below (s₁.setTop (mkF m 27 #[.val (.int p1), .val (.int p2), .val (.int p3), .val (.int p4)] [(.int (0 : Int32))])) _
            exact k
          obtain ⟨fs, hr, hrun, hended, hW, hsame⟩ := X0.leave (v := some (.int (0 : Int32))) (fun h => by rw [Bd.returns] at h; cases h)
          refine ⟨_, _, pre8 _ ?_, hrun, hended, _, _, rfl, ?_, ⟨_, rfl⟩, hW, hsame.mono (by decide) (by decide)⟩
          · exact retN X0 hx (t := .boolean) Bd.returns (by simp) (hb hby d2_27) hr
          · show Q2 Z p1 p2 p3 p4 h0 n0 _ s₁.heap _
            rw [e0]
            exact ⟨congrArg (fun z => some (Value.int z)) (show (0 : Int32) = own_bad p1 p2 p3 p4 by simp [own_bad, own_isbad, hc2, hc7, hc13, hc19]), N0, rfl⟩
    · have pre9 : ∀ t, Steps p.tables e below (s₁.setTop (mkF m 27 #[.val (.int p1), .val (.int p2), .val (.int p3), .val (.int p4)] [(.int (0 : Int32))])) t → Steps p.tables e below (s₁.setTop (entryFrame m #[(.int p1), (.int p2), (.int p3), (.int p4)] 4)) t := by
        intro t k
        refine pre3 t ?_
        refine XS.icmpYes X0.here hx rfl (pc0 := 7) (pc' := 26) rfl (hb hby d2_7) rfl (flt hc7).2.1 (by decide) (by decide) ?_
        show Steps p.tables e below (s₁.setTop (mkF m 26 #[.val (.int p1), .val (.int p2), .val (.int p3), .val (.int p4)] [])) _
        refine XS.iconst X0.here hx rfl (hb hby d2_26) ?_
        show Steps p.tables e below (s₁.setTop (mkF m 27 #[.val (.int p1), .val (.int p2), .val (.int p3), .val (.int p4)] [(.int (0 : Int32))])) _
        exact k
      obtain ⟨fs, hr, hrun, hended, hW, hsame⟩ := X0.leave (v := some (.int (0 : Int32))) (fun h => by rw [Bd.returns] at h; cases h)
      refine ⟨_, _, pre9 _ ?_, hrun, hended, _, _, rfl, ?_, ⟨_, rfl⟩, hW, hsame.mono (by decide) (by decide)⟩
      · exact retN X0 hx (t := .boolean) Bd.returns (by simp) (hb hby d2_27) hr
      · show Q2 Z p1 p2 p3 p4 h0 n0 _ s₁.heap _
        rw [e0]
        exact ⟨congrArg (fun z => some (Value.int z)) (show (0 : Int32) = own_bad p1 p2 p3 p4 by simp [own_bad, own_isbad, hc2, hc7]), N0, rfl⟩
def Q3 (Z : State) (p1 : Int32) (h0 : Heap) (n0 : Nat) (v : Option Value) (h : Heap) (L : List Loc) : Prop := v = some (.int (own_pow p1)) ∧ Fr n0 L ∧ h = h0
theorem d5_0 : decode method_3_code 0 = .ok (.iload_n 0, 1) := by decide +kernel
theorem d5_1 : decode method_3_code 1 = .ok (.ifCond .ne 5, 3) := by decide +kernel
theorem d5_4 : decode method_3_code 4 = .ok (.iconst 1, 1) := by decide +kernel
theorem d5_5 : decode method_3_code 5 = .ok (.ireturn, 1) := by decide +kernel
theorem d5_6 : decode method_3_code 6 = .ok (.iload_n 0, 1) := by decide +kernel
theorem d5_7 : decode method_3_code 7 = .ok (.iconst 1, 1) := by decide +kernel
theorem d5_8 : decode method_3_code 8 = .ok (.if_icmp .ne 6, 3) := by decide +kernel
theorem d5_11 : decode method_3_code 11 = .ok (.bipush 10, 2) := by decide +kernel
theorem d5_13 : decode method_3_code 13 = .ok (.ireturn, 1) := by decide +kernel
theorem d5_14 : decode method_3_code 14 = .ok (.iload_n 0, 1) := by decide +kernel
theorem d5_15 : decode method_3_code 15 = .ok (.iconst 2, 1) := by decide +kernel
theorem d5_16 : decode method_3_code 16 = .ok (.if_icmp .ne 6, 3) := by decide +kernel
theorem d5_19 : decode method_3_code 19 = .ok (.bipush 100, 2) := by decide +kernel
theorem d5_21 : decode method_3_code 21 = .ok (.ireturn, 1) := by decide +kernel
theorem d5_22 : decode method_3_code 22 = .ok (.sipush 1000, 3) := by decide +kernel
theorem d5_25 : decode method_3_code 25 = .ok (.ireturn, 1) := by decide +kernel
theorem pn_3 : plainName "com/example/bondsmith/bondsmith/MonthDaysDigitsPinLaw" = true := by first | (simp [plainName, overriddenIn]; done) | decide +kernel
theorem ef_3 (m : MethodId) (p1 : Int32) : entryFrame m #[(.int p1)] 1 = mkF m 0 #[.val (.int p1)] [] := by first | (simp [entryFrame, mkF, argsToLocals, Value.category]; done) | rfl
set_option maxRecDepth 65536 in
set_option maxHeartbeats 40000000 in
theorem rm3 (l : Launch) (Z : State) (a0 : Array Value) (hw : ∀ d ∈ tables_1, d.before a0 Z = true) (ws : List Jvm.Cond) (p1 : Int32) (h0 : Heap) (n0 : Nat) (Z0 : n0 ≤ h0.size) :
    MetFree l (⟨"com/example/bondsmith/bondsmith/MonthDaysDigitsPinLaw", "pow10", "(I)I"⟩ : MethodName) (head1 (Jvm.Cond.code (⟨"com/example/bondsmith/bondsmith/MonthDaysDigitsPinLaw", "pow10", "(I)I"⟩ : MethodName) method_3_code 1 (some .int) :: ws) ({ frames := 0, cells := 0, slots := 0, locals := 0 } : Room)) (fun a U => a = #[(.int p1)] ∧ Z.Warmed39 U.vm ∧ U.heap = h0) (fun _ _ _ _ _ => True) (fun _ U o U' => ∃ v L, o = .returned v ∧ Q3 Z p1 h0 n0 v U'.heap L ∧ FrameEnd U o U' L ({ frames := 0, cells := 0, slots := 0, locals := 0 } : Room).cells ({ frames := 0, cells := 0, slots := 0, locals := 0 } : Room).slots) := by
  refine MetFree.of_bodySF (plainFor_of_name pn_3) hisR ?_
  intro p e s m args below meth c s₁ Bd hml0 hP hK
  obtain ⟨rfl, hZ, hh⟩ := hP
  have hx := Bd.exec
  have hby := Bd.bytes
  have hml : c.maxLocals = 1 := hml0
  have hown : s.vm.findClass "com/example/bondsmith/bondsmith/MonthDaysDigitsPinLaw" = some m.cls := findClass_of_methodNamed Bd.named
  have hnm := (name_of_methodNamed Bd.named Bd.method).1
  have X0 : Stand p l e ({ frames := 0, cells := 0, slots := 0, locals := 0 } : Room) s m #[(.int p1)] below meth c s₁ [] 0 0 := Stand.of_body Bd
  have e0 : s₁.heap = h0 := by rw [← hh, Bd.state]; rfl
  have N0 := Fr.nil n0
  have pre0 : ∀ t, Steps p.tables e below (s₁.setTop (mkF m 0 #[.val (.int p1)] [])) t → Steps p.tables e below (s₁.setTop (entryFrame m #[(.int p1)] 1)) t := fun t k => castTop (ef_3 m p1) k
  have pre1 : ∀ t, Steps p.tables e below (s₁.setTop (mkF m 1 #[.val (.int p1)] [(.int p1)])) t → Steps p.tables e below (s₁.setTop (entryFrame m #[(.int p1)] 1)) t := by
    intro t k
    refine pre0 t ?_
    refine XS.iloadN X0.here hx rfl (hb hby d5_0) rfl ?_
    show Steps p.tables e below (s₁.setTop (mkF m 1 #[.val (.int p1)] [(.int p1)])) _
    exact k
  by_cases hc1 : p1 = (0 : Int32)
  · have pre2 : ∀ t, Steps p.tables e below (s₁.setTop (mkF m 5 #[.val (.int p1)] [(.int (1 : Int32))])) t → Steps p.tables e below (s₁.setTop (entryFrame m #[(.int p1)] 1)) t := by
      intro t k
      refine pre1 t ?_
      refine XS.ifNo X0.here hx rfl (hb hby d5_1) rfl ((if0 _ _).trans (teq hc1).2) ?_
      show Steps p.tables e below (s₁.setTop (mkF m 4 #[.val (.int p1)] [])) _
      refine XS.iconst X0.here hx rfl (hb hby d5_4) ?_
      show Steps p.tables e below (s₁.setTop (mkF m 5 #[.val (.int p1)] [(.int (1 : Int32))])) _
      exact k
    obtain ⟨fs, hr, hrun, hended, hW, hsame⟩ := X0.leave (v := some (.int (1 : Int32))) (fun h => by rw [Bd.returns] at h; cases h)
    refine ⟨_, _, pre2 _ ?_, hrun, hended, _, _, rfl, ?_, ⟨_, rfl⟩, hW, hsame.mono (by decide) (by decide)⟩
    · exact retOut X0 hx Bd.returns rfl (Or.inl ⟨rfl, Or.inl rfl, _, rfl⟩) (hb hby d5_5) hr
    · show Q3 Z p1 h0 n0 _ s₁.heap _
      rw [e0]
      exact ⟨congrArg (fun z => some (Value.int z)) (show (1 : Int32) = own_pow p1 by simp [own_pow, hc1]), N0, rfl⟩
  · have pre3 : ∀ t, Steps p.tables e below (s₁.setTop (mkF m 8 #[.val (.int p1)] [(.int (1 : Int32)), (.int p1)])) t → Steps p.tables e below (s₁.setTop (entryFrame m #[(.int p1)] 1)) t := by
      intro t k
      refine pre1 t ?_
      refine XS.ifYes X0.here hx rfl (pc0 := 1) (pc' := 6) rfl (hb hby d5_1) rfl ((if0 _ _).trans (feq hc1).2) (by decide) (by decide) ?_
      show Steps p.tables e below (s₁.setTop (mkF m 6 #[.val (.int p1)] [])) _
      refine XS.iloadN X0.here hx rfl (hb hby d5_6) rfl ?_
      show Steps p.tables e below (s₁.setTop (mkF m 7 #[.val (.int p1)] [(.int p1)])) _
      refine XS.iconst X0.here hx rfl (hb hby d5_7) ?_
      show Steps p.tables e below (s₁.setTop (mkF m 8 #[.val (.int p1)] [(.int (1 : Int32)), (.int p1)])) _
      exact k
    by_cases hc8 : p1 = (1 : Int32)
    · have pre4 : ∀ t, Steps p.tables e below (s₁.setTop (mkF m 13 #[.val (.int p1)] [(.int (10 : Int32))])) t → Steps p.tables e below (s₁.setTop (entryFrame m #[(.int p1)] 1)) t := by
        intro t k
        refine pre3 t ?_
        refine XS.icmpNo X0.here hx rfl (hb hby d5_8) rfl (teq hc8).2 ?_
        show Steps p.tables e below (s₁.setTop (mkF m 11 #[.val (.int p1)] [])) _
        refine XS.bipush X0.here hx rfl (hb hby d5_11) ?_
        show Steps p.tables e below (s₁.setTop (mkF m 13 #[.val (.int p1)] [(.int (10 : Int32))])) _
        exact k
      obtain ⟨fs, hr, hrun, hended, hW, hsame⟩ := X0.leave (v := some (.int (10 : Int32))) (fun h => by rw [Bd.returns] at h; cases h)
      refine ⟨_, _, pre4 _ ?_, hrun, hended, _, _, rfl, ?_, ⟨_, rfl⟩, hW, hsame.mono (by decide) (by decide)⟩
      · exact retOut X0 hx Bd.returns rfl (Or.inl ⟨rfl, Or.inl rfl, _, rfl⟩) (hb hby d5_13) hr
      · show Q3 Z p1 h0 n0 _ s₁.heap _
        rw [e0]
        exact ⟨congrArg (fun z => some (Value.int z)) (show (10 : Int32) = own_pow p1 by simp [own_pow, hc1, hc8]), N0, rfl⟩
    · have pre5 : ∀ t, Steps p.tables e below (s₁.setTop (mkF m 16 #[.val (.int p1)] [(.int (2 : Int32)), (.int p1)])) t → Steps p.tables e below (s₁.setTop (entryFrame m #[(.int p1)] 1)) t := by
        intro t k
        refine pre3 t ?_
        refine XS.icmpYes X0.here hx rfl (pc0 := 8) (pc' := 14) rfl (hb hby d5_8) rfl (feq hc8).2 (by decide) (by decide) ?_
        show Steps p.tables e below (s₁.setTop (mkF m 14 #[.val (.int p1)] [])) _
        refine XS.iloadN X0.here hx rfl (hb hby d5_14) rfl ?_
        show Steps p.tables e below (s₁.setTop (mkF m 15 #[.val (.int p1)] [(.int p1)])) _
        refine XS.iconst X0.here hx rfl (hb hby d5_15) ?_
        show Steps p.tables e below (s₁.setTop (mkF m 16 #[.val (.int p1)] [(.int (2 : Int32)), (.int p1)])) _
        exact k
      by_cases hc16 : p1 = (2 : Int32)
      · have pre6 : ∀ t, Steps p.tables e below (s₁.setTop (mkF m 21 #[.val (.int p1)] [(.int (100 : Int32))])) t → Steps p.tables e below (s₁.setTop (entryFrame m #[(.int p1)] 1)) t := by
          intro t k
          refine pre5 t ?_
          refine XS.icmpNo X0.here hx rfl (hb hby d5_16) rfl (teq hc16).2 ?_
          show Steps p.tables e below (s₁.setTop (mkF m 19 #[.val (.int p1)] [])) _
          refine XS.bipush X0.here hx rfl (hb hby d5_19) ?_
          show Steps p.tables e below (s₁.setTop (mkF m 21 #[.val (.int p1)] [(.int (100 : Int32))])) _
          exact k
        obtain ⟨fs, hr, hrun, hended, hW, hsame⟩ := X0.leave (v := some (.int (100 : Int32))) (fun h => by rw [Bd.returns] at h; cases h)
        refine ⟨_, _, pre6 _ ?_, hrun, hended, _, _, rfl, ?_, ⟨_, rfl⟩, hW, hsame.mono (by decide) (by decide)⟩
        · exact retOut X0 hx Bd.returns rfl (Or.inl ⟨rfl, Or.inl rfl, _, rfl⟩) (hb hby d5_21) hr
        · show Q3 Z p1 h0 n0 _ s₁.heap _
          rw [e0]
          exact ⟨congrArg (fun z => some (Value.int z)) (show (100 : Int32) = own_pow p1 by simp [own_pow, hc1, hc8, hc16]), N0, rfl⟩
      · have pre7 : ∀ t, Steps p.tables e below (s₁.setTop (mkF m 25 #[.val (.int p1)] [(.int (1000 : Int32))])) t → Steps p.tables e below (s₁.setTop (entryFrame m #[(.int p1)] 1)) t := by
          intro t k
          refine pre5 t ?_
          refine XS.icmpYes X0.here hx rfl (pc0 := 16) (pc' := 22) rfl (hb hby d5_16) rfl (feq hc16).2 (by decide) (by decide) ?_
          show Steps p.tables e below (s₁.setTop (mkF m 22 #[.val (.int p1)] [])) _
          refine XS.sipush X0.here hx rfl (hb hby d5_22) ?_
          show Steps p.tables e below (s₁.setTop (mkF m 25 #[.val (.int p1)] [(.int (1000 : Int32))])) _
          exact k
        obtain ⟨fs, hr, hrun, hended, hW, hsame⟩ := X0.leave (v := some (.int (1000 : Int32))) (fun h => by rw [Bd.returns] at h; cases h)
        refine ⟨_, _, pre7 _ ?_, hrun, hended, _, _, rfl, ?_, ⟨_, rfl⟩, hW, hsame.mono (by decide) (by decide)⟩
        · exact retOut X0 hx Bd.returns rfl (Or.inl ⟨rfl, Or.inl rfl, _, rfl⟩) (hb hby d5_25) hr
        · show Q3 Z p1 h0 n0 _ s₁.heap _
          rw [e0]
          exact ⟨congrArg (fun z => some (Value.int z)) (show (1000 : Int32) = own_pow p1 by simp [own_pow, hc1, hc8, hc16]), N0, rfl⟩
theorem pd_3 : parseMethodDescriptor "(I)I" = some ⟨[.int], some .int⟩ := by decide +kernel
def Q4 (Z : State) (p1 p2 p3 p4 : Int32) (h0 : Heap) (n0 : Nat) (v : Option Value) (h : Heap) (L : List Loc) : Prop := v = some (.int (own_term p1 p2 p3 p4)) ∧ Fr n0 L ∧ h = h0
theorem d3_0 : decode method_5_code 0 = .ok (.iload_n 0, 1) := by decide +kernel
theorem d3_1 : decode method_5_code 1 = .ok (.iload_n 2, 1) := by decide +kernel
theorem d3_2 : decode method_5_code 2 = .ok (.if_icmp .lt 8, 3) := by decide +kernel
theorem d3_5 : decode method_5_code 5 = .ok (.iload_n 0, 1) := by decide +kernel
theorem d3_6 : decode method_5_code 6 = .ok (.iload_n 3, 1) := by decide +kernel
theorem d3_7 : decode method_5_code 7 = .ok (.if_icmp .lt 5, 3) := by decide +kernel
theorem d3_10 : decode method_5_code 10 = .ok (.iconst 0, 1) := by decide +kernel
theorem d3_11 : decode method_5_code 11 = .ok (.ireturn, 1) := by decide +kernel
theorem d3_12 : decode method_5_code 12 = .ok (.iload_n 1, 1) := by decide +kernel
theorem d3_13 : decode method_5_code 13 = .ok (.bipush 48, 2) := by decide +kernel
theorem d3_15 : decode method_5_code 15 = .ok (.isub, 1) := by decide +kernel
theorem d3_16 : decode method_5_code 16 = .ok (.iload_n 3, 1) := by decide +kernel
theorem d3_17 : decode method_5_code 17 = .ok (.iconst 1, 1) := by decide +kernel
theorem d3_18 : decode method_5_code 18 = .ok (.isub, 1) := by decide +kernel
theorem d3_19 : decode method_5_code 19 = .ok (.iload_n 0, 1) := by decide +kernel
theorem d3_20 : decode method_5_code 20 = .ok (.isub, 1) := by decide +kernel
theorem d3_21 : decode method_5_code 21 = .ok (.invokestatic 8, 3) := by decide +kernel
theorem d3_24 : decode method_5_code 24 = .ok (.imul, 1) := by decide +kernel
theorem d3_25 : decode method_5_code 25 = .ok (.ireturn, 1) := by decide +kernel
theorem pn_4 : plainName "com/example/bondsmith/bondsmith/MonthDaysDigitsPinLaw" = true := by first | (simp [plainName, overriddenIn]; done) | decide +kernel
theorem ef_4 (m : MethodId) (p1 : Int32) (p2 : Int32) (p3 : Int32) (p4 : Int32) : entryFrame m #[(.int p1), (.int p2), (.int p3), (.int p4)] 4 = mkF m 0 #[.val (.int p1), .val (.int p2), .val (.int p3), .val (.int p4)] [] := by first | (simp [entryFrame, mkF, argsToLocals, Value.category]; done) | rfl
set_option maxRecDepth 65536 in
set_option maxHeartbeats 40000000 in
theorem rm4 (l : Launch) (Z : State) (a0 : Array Value) (hw : ∀ d ∈ tables_1, d.before a0 Z = true) (ws : List Jvm.Cond) (p1 p2 p3 p4 : Int32) (h0 : Heap) (n0 : Nat) (Z0 : n0 ≤ h0.size) :
    MetFree l (⟨"com/example/bondsmith/bondsmith/MonthDaysDigitsPinLaw", "term", "(ICII)I"⟩ : MethodName) (head1 (Jvm.Cond.code (⟨"com/example/bondsmith/bondsmith/MonthDaysDigitsPinLaw", "term", "(ICII)I"⟩ : MethodName) method_5_code 4 (some .int) :: ws) ({ frames := 1, cells := 0, slots := 0, locals := 13 } : Room)) (fun a U => a = #[(.int p1), (.int p2), (.int p3), (.int p4)] ∧ Z.Warmed39 U.vm ∧ U.heap = h0) (fun _ _ _ _ _ => True) (fun _ U o U' => ∃ v L, o = .returned v ∧ Q4 Z p1 p2 p3 p4 h0 n0 v U'.heap L ∧ FrameEnd U o U' L ({ frames := 1, cells := 0, slots := 0, locals := 13 } : Room).cells ({ frames := 1, cells := 0, slots := 0, locals := 13 } : Room).slots) := by
  refine MetFree.of_bodySF (plainFor_of_name pn_4) hisR ?_
  intro p e s m args below meth c s₁ Bd hml0 hP hK
  obtain ⟨rfl, hZ, hh⟩ := hP
  have hx := Bd.exec
  have hby := Bd.bytes
  have hml : c.maxLocals = 4 := hml0
  have hown : s.vm.findClass "com/example/bondsmith/bondsmith/MonthDaysDigitsPinLaw" = some m.cls := findClass_of_methodNamed Bd.named
  have hnm := (name_of_methodNamed Bd.named Bd.method).1
  have X0 : Stand p l e ({ frames := 1, cells := 0, slots := 0, locals := 13 } : Room) s m #[(.int p1), (.int p2), (.int p3), (.int p4)] below meth c s₁ [] 0 0 := Stand.of_body Bd
  have e0 : s₁.heap = h0 := by rw [← hh, Bd.state]; rfl
  have N0 := Fr.nil n0
  have pre0 : ∀ t, Steps p.tables e below (s₁.setTop (mkF m 0 #[.val (.int p1), .val (.int p2), .val (.int p3), .val (.int p4)] [])) t → Steps p.tables e below (s₁.setTop (entryFrame m #[(.int p1), (.int p2), (.int p3), (.int p4)] 4)) t := fun t k => castTop (ef_4 m p1 p2 p3 p4) k
  have pre1 : ∀ t, Steps p.tables e below (s₁.setTop (mkF m 2 #[.val (.int p1), .val (.int p2), .val (.int p3), .val (.int p4)] [(.int p3), (.int p1)])) t → Steps p.tables e below (s₁.setTop (entryFrame m #[(.int p1), (.int p2), (.int p3), (.int p4)] 4)) t := by
    intro t k
    refine pre0 t ?_
    refine XS.iloadN X0.here hx rfl (hb hby d3_0) rfl ?_
    show Steps p.tables e below (s₁.setTop (mkF m 1 #[.val (.int p1), .val (.int p2), .val (.int p3), .val (.int p4)] [(.int p1)])) _
    refine XS.iloadN X0.here hx rfl (hb hby d3_1) rfl ?_
    show Steps p.tables e below (s₁.setTop (mkF m 2 #[.val (.int p1), .val (.int p2), .val (.int p3), .val (.int p4)] [(.int p3), (.int p1)])) _
    exact k
  by_cases hc2 : p1 < p3
  · have pre2 : ∀ t, Steps p.tables e below (s₁.setTop (mkF m 11 #[.val (.int p1), .val (.int p2), .val (.int p3), .val (.int p4)] [(.int (0 : Int32))])) t → Steps p.tables e below (s₁.setTop (entryFrame m #[(.int p1), (.int p2), (.int p3), (.int p4)] 4)) t := by
      intro t k
      refine pre1 t ?_
      refine XS.icmpYes X0.here hx rfl (pc0 := 2) (pc' := 10) rfl (hb hby d3_2) rfl (tlt hc2).1 (by decide) (by decide) ?_
      show Steps p.tables e below (s₁.setTop (mkF m 10 #[.val (.int p1), .val (.int p2), .val (.int p3), .val (.int p4)] [])) _
      refine XS.iconst X0.here hx rfl (hb hby d3_10) ?_
      show Steps p.tables e below (s₁.setTop (mkF m 11 #[.val (.int p1), .val (.int p2), .val (.int p3), .val (.int p4)] [(.int (0 : Int32))])) _
      exact k
    obtain ⟨fs, hr, hrun, hended, hW, hsame⟩ := X0.leave (v := some (.int (0 : Int32))) (fun h => by rw [Bd.returns] at h; cases h)
    refine ⟨_, _, pre2 _ ?_, hrun, hended, _, _, rfl, ?_, ⟨_, rfl⟩, hW, hsame.mono (by decide) (by decide)⟩
    · exact retOut X0 hx Bd.returns rfl (Or.inl ⟨rfl, Or.inl rfl, _, rfl⟩) (hb hby d3_11) hr
    · show Q4 Z p1 p2 p3 p4 h0 n0 _ s₁.heap _
      rw [e0]
      exact ⟨congrArg (fun z => some (Value.int z)) (show (0 : Int32) = own_term p1 p2 p3 p4 by simp [own_term, hc2]), N0, rfl⟩
  · have pre3 : ∀ t, Steps p.tables e below (s₁.setTop (mkF m 7 #[.val (.int p1), .val (.int p2), .val (.int p3), .val (.int p4)] [(.int p4), (.int p1)])) t → Steps p.tables e below (s₁.setTop (entryFrame m #[(.int p1), (.int p2), (.int p3), (.int p4)] 4)) t := by
      intro t k
      refine pre1 t ?_
      refine XS.icmpNo X0.here hx rfl (hb hby d3_2) rfl (flt hc2).1 ?_
      show Steps p.tables e below (s₁.setTop (mkF m 5 #[.val (.int p1), .val (.int p2), .val (.int p3), .val (.int p4)] [])) _
      refine XS.iloadN X0.here hx rfl (hb hby d3_5) rfl ?_
      show Steps p.tables e below (s₁.setTop (mkF m 6 #[.val (.int p1), .val (.int p2), .val (.int p3), .val (.int p4)] [(.int p1)])) _
      refine XS.iloadN X0.here hx rfl (hb hby d3_6) rfl ?_
      show Steps p.tables e below (s₁.setTop (mkF m 7 #[.val (.int p1), .val (.int p2), .val (.int p3), .val (.int p4)] [(.int p4), (.int p1)])) _
      exact k
    by_cases hc7 : p1 < p4
    · have pre4 : ∀ t, Steps p.tables e below (s₁.setTop (mkF m 21 #[.val (.int p1), .val (.int p2), .val (.int p3), .val (.int p4)] [(.int ((p4 - (1 : Int32)) - p1)), (.int (p2 - (48 : Int32)))])) t → Steps p.tables e below (s₁.setTop (entryFrame m #[(.int p1), (.int p2), (.int p3), (.int p4)] 4)) t := by
        intro t k
        refine pre3 t ?_
        refine XS.icmpYes X0.here hx rfl (pc0 := 7) (pc' := 12) rfl (hb hby d3_7) rfl (tlt hc7).1 (by decide) (by decide) ?_
        show Steps p.tables e below (s₁.setTop (mkF m 12 #[.val (.int p1), .val (.int p2), .val (.int p3), .val (.int p4)] [])) _
        refine XS.iloadN X0.here hx rfl (hb hby d3_12) rfl ?_
        show Steps p.tables e below (s₁.setTop (mkF m 13 #[.val (.int p1), .val (.int p2), .val (.int p3), .val (.int p4)] [(.int p2)])) _
        refine XS.bipush X0.here hx rfl (hb hby d3_13) ?_
        show Steps p.tables e below (s₁.setTop (mkF m 15 #[.val (.int p1), .val (.int p2), .val (.int p3), .val (.int p4)] [(.int (48 : Int32)), (.int p2)])) _
        refine XS.isub X0.here hx rfl (hb hby d3_15) rfl ?_
        show Steps p.tables e below (s₁.setTop (mkF m 16 #[.val (.int p1), .val (.int p2), .val (.int p3), .val (.int p4)] [(.int (p2 - (48 : Int32)))])) _
        refine XS.iloadN X0.here hx rfl (hb hby d3_16) rfl ?_
        show Steps p.tables e below (s₁.setTop (mkF m 17 #[.val (.int p1), .val (.int p2), .val (.int p3), .val (.int p4)] [(.int p4), (.int (p2 - (48 : Int32)))])) _
        refine XS.iconst X0.here hx rfl (hb hby d3_17) ?_
        show Steps p.tables e below (s₁.setTop (mkF m 18 #[.val (.int p1), .val (.int p2), .val (.int p3), .val (.int p4)] [(.int (1 : Int32)), (.int p4), (.int (p2 - (48 : Int32)))])) _
        refine XS.isub X0.here hx rfl (hb hby d3_18) rfl ?_
        show Steps p.tables e below (s₁.setTop (mkF m 19 #[.val (.int p1), .val (.int p2), .val (.int p3), .val (.int p4)] [(.int (p4 - (1 : Int32))), (.int (p2 - (48 : Int32)))])) _
        refine XS.iloadN X0.here hx rfl (hb hby d3_19) rfl ?_
        show Steps p.tables e below (s₁.setTop (mkF m 20 #[.val (.int p1), .val (.int p2), .val (.int p3), .val (.int p4)] [(.int p1), (.int (p4 - (1 : Int32))), (.int (p2 - (48 : Int32)))])) _
        refine XS.isub X0.here hx rfl (hb hby d3_20) rfl ?_
        show Steps p.tables e below (s₁.setTop (mkF m 21 #[.val (.int p1), .val (.int p2), .val (.int p3), .val (.int p4)] [(.int ((p4 - (1 : Int32)) - p1)), (.int (p2 - (48 : Int32)))])) _
        exact k
      obtain ⟨_, _, ⟨T5, L5, k5, n5⟩, -, X5, ⟨Lc5, hQ5, l5, y5, z5⟩, st5⟩ := Jvm.LawKit.callS X0 hx (y := (⟨"com/example/bondsmith/bondsmith/MonthDaysDigitsPinLaw", "pow10", "(I)I"⟩ : MethodName)) hown (mvT hZ (hw _ (List.mem_of_getElem? (i := 17) rfl))) (mvT hZ (hw _ (List.mem_of_getElem? (i := 18) rfl))) (mvT hZ (hw _ (List.mem_of_getElem? (i := 2) rfl))) (mvT hZ (hw _ (List.mem_of_getElem? (i := 19) rfl))) (by decide) (backOf (W := 1) (rm3 l Z a0 hw [] ((p4 - (1 : Int32)) - p1) h0 n0 Z0) hZ (hw _ (List.mem_of_getElem? (i := 19) rfl)) (hw _ (List.mem_of_getElem? (i := 2) rfl)) (by decide) (by decide)) (g := (mkF m 21 #[.val (.int p1), .val (.int p2), .val (.int p3), .val (.int p4)] [(.int ((p4 - (1 : Int32)) - p1)), (.int (p2 - (48 : Int32)))])) rfl (by rw [hml]; rfl) (argsL := [(.int ((p4 - (1 : Int32)) - p1))]) (rest := [(.int (p2 - (48 : Int32)))]) (lenOf pd_3 rfl) rfl (by show 2 * 0 + _ ≤ _; exact Nat.le_of_eq rfl) (hb hby d3_21) (fun _ _ => ⟨rfl, e0, (by decide : 0 + 0 ≤ _), (by decide : 0 + 0 ≤ _)⟩)
      dsimp only [Pt.U, Pt.locs, Pt.cells, Pt.slots] at X5 l5 y5 z5 st5 hQ5
      subst l5 y5 z5
      obtain ⟨rfl, N5q, e5⟩ := hQ5
      have N5 := Fr.app N0 N5q
      have pre6 : ∀ t, Steps p.tables e below (T5.setTop (mkF m 25 #[.val (.int p1), .val (.int p2), .val (.int p3), .val (.int p4)] [(.int ((p2 - (48 : Int32)) * (own_pow ((p4 - (1 : Int32)) - p1))))])) t → Steps p.tables e below (s₁.setTop (entryFrame m #[(.int p1), (.int p2), (.int p3), (.int p4)] 4)) t := by
        intro t k
        refine pre4 t ?_
        refine st5 _ ?_
        show Steps p.tables e below (T5.setTop (mkF m 24 #[.val (.int p1), .val (.int p2), .val (.int p3), .val (.int p4)] [(.int (own_pow ((p4 - (1 : Int32)) - p1))), (.int (p2 - (48 : Int32)))])) _
        refine XS.imul X5.here hx rfl (hb hby d3_24) rfl ?_
        show Steps p.tables e below (T5.setTop (mkF m 25 #[.val (.int p1), .val (.int p2), .val (.int p3), .val (.int p4)] [(.int ((p2 - (48 : Int32)) * (own_pow ((p4 - (1 : Int32)) - p1))))])) _
        exact k
      obtain ⟨fs, hr, hrun, hended, hW, hsame⟩ := X5.leave (v := some (.int ((p2 - (48 : Int32)) * (own_pow ((p4 - (1 : Int32)) - p1))))) (fun h => by rw [Bd.returns] at h; cases h)
      refine ⟨_, _, pre6 _ ?_, hrun, hended, _, _, rfl, ?_, ⟨_, rfl⟩, hW, hsame.mono (by decide) (by decide)⟩
      · exact retOut X5 hx Bd.returns rfl (Or.inl ⟨rfl, Or.inl rfl, _, rfl⟩) (hb hby d3_25) hr
      · show Q4 Z p1 p2 p3 p4 h0 n0 _ T5.heap _
        rw [e5]
        exact ⟨congrArg (fun z => some (Value.int z)) (show ((p2 - (48 : Int32)) * (own_pow ((p4 - (1 : Int32)) - p1))) = own_term p1 p2 p3 p4 by simp [own_term, hc2, hc7]), N5, rfl⟩
    · have pre7 : ∀ t, Steps p.tables e below (s₁.setTop (mkF m 11 #[.val (.int p1), .val (.int p2), .val (.int p3), .val (.int p4)] [(.int (0 : Int32))])) t → Steps p.tables e below (s₁.setTop (entryFrame m #[(.int p1), (.int p2), (.int p3), (.int p4)] 4)) t := by
        intro t k
        refine pre3 t ?_
        refine XS.icmpNo X0.here hx rfl (hb hby d3_7) rfl (flt hc7).1 ?_
        show Steps p.tables e below (s₁.setTop (mkF m 10 #[.val (.int p1), .val (.int p2), .val (.int p3), .val (.int p4)] [])) _
        refine XS.iconst X0.here hx rfl (hb hby d3_10) ?_
        show Steps p.tables e below (s₁.setTop (mkF m 11 #[.val (.int p1), .val (.int p2), .val (.int p3), .val (.int p4)] [(.int (0 : Int32))])) _
        exact k
      obtain ⟨fs, hr, hrun, hended, hW, hsame⟩ := X0.leave (v := some (.int (0 : Int32))) (fun h => by rw [Bd.returns] at h; cases h)
      refine ⟨_, _, pre7 _ ?_, hrun, hended, _, _, rfl, ?_, ⟨_, rfl⟩, hW, hsame.mono (by decide) (by decide)⟩
      · exact retOut X0 hx Bd.returns rfl (Or.inl ⟨rfl, Or.inl rfl, _, rfl⟩) (hb hby d3_11) hr
      · show Q4 Z p1 p2 p3 p4 h0 n0 _ s₁.heap _
        rw [e0]
        exact ⟨congrArg (fun z => some (Value.int z)) (show (0 : Int32) = own_term p1 p2 p3 p4 by simp [own_term, hc2, hc7]), N0, rfl⟩
theorem d4_0 : decode prog_32_method_5_code 0 = .ok (.iconst 0, 1) := by decide +kernel
theorem d4_1 : decode prog_32_method_5_code 1 = .ok (.istore_n 3, 1) := by decide +kernel
theorem d4_2 : decode prog_32_method_5_code 2 = .ok (.iload_n 1, 1) := by decide +kernel
theorem d4_3 : decode prog_32_method_5_code 3 = .ok (.istore 4, 2) := by decide +kernel
theorem d4_5 : decode prog_32_method_5_code 5 = .ok (.iload 4, 2) := by decide +kernel
theorem d4_7 : decode prog_32_method_5_code 7 = .ok (.iload_n 2, 1) := by decide +kernel
theorem d4_8 : decode prog_32_method_5_code 8 = .ok (.if_icmp .ge 42, 3) := by decide +kernel
theorem d4_11 : decode prog_32_method_5_code 11 = .ok (.aload_n 0, 1) := by decide +kernel
theorem d4_12 : decode prog_32_method_5_code 12 = .ok (.iload 4, 2) := by decide +kernel
theorem d4_14 : decode prog_32_method_5_code 14 = .ok (.caload, 1) := by decide +kernel
theorem d4_15 : decode prog_32_method_5_code 15 = .ok (.istore 5, 2) := by decide +kernel
theorem d4_17 : decode prog_32_method_5_code 17 = .ok (.iload 5, 2) := by decide +kernel
theorem d4_19 : decode prog_32_method_5_code 19 = .ok (.bipush 48, 2) := by decide +kernel
theorem d4_21 : decode prog_32_method_5_code 21 = .ok (.if_icmp .lt 10, 3) := by decide +kernel
theorem d4_24 : decode prog_32_method_5_code 24 = .ok (.iload 5, 2) := by decide +kernel
theorem d4_26 : decode prog_32_method_5_code 26 = .ok (.bipush 57, 2) := by decide +kernel
theorem d4_28 : decode prog_32_method_5_code 28 = .ok (.if_icmp .le 5, 3) := by decide +kernel
theorem d4_31 : decode prog_32_method_5_code 31 = .ok (.iconst (-1), 1) := by decide +kernel
theorem d4_32 : decode prog_32_method_5_code 32 = .ok (.ireturn, 1) := by decide +kernel
theorem d4_33 : decode prog_32_method_5_code 33 = .ok (.iload_n 3, 1) := by decide +kernel
theorem d4_34 : decode prog_32_method_5_code 34 = .ok (.bipush 10, 2) := by decide +kernel
theorem d4_36 : decode prog_32_method_5_code 36 = .ok (.imul, 1) := by decide +kernel
theorem d4_37 : decode prog_32_method_5_code 37 = .ok (.iload 5, 2) := by decide +kernel
theorem d4_39 : decode prog_32_method_5_code 39 = .ok (.bipush 48, 2) := by decide +kernel
theorem d4_41 : decode prog_32_method_5_code 41 = .ok (.isub, 1) := by decide +kernel
theorem d4_42 : decode prog_32_method_5_code 42 = .ok (.iadd, 1) := by decide +kernel
theorem d4_43 : decode prog_32_method_5_code 43 = .ok (.istore_n 3, 1) := by decide +kernel
theorem d4_44 : decode prog_32_method_5_code 44 = .ok (.iinc 4 1, 3) := by decide +kernel
theorem d4_47 : decode prog_32_method_5_code 47 = .ok (.goto (-42), 3) := by decide +kernel
theorem d4_50 : decode prog_32_method_5_code 50 = .ok (.iload_n 3, 1) := by decide +kernel
theorem d4_51 : decode prog_32_method_5_code 51 = .ok (.ireturn, 1) := by decide +kernel
theorem own_store {b : Addr} {q2 q3 q4 q5 v : Int32} {s5 : Slot} (h : One s5) : storeLocals #[.val (.ref b), .val (.int q2), .val (.int q3), .val (.int q4), .val (.int q5), s5] 5 (.int v) = some #[.val (.ref b), .val (.int q2), .val (.int q3), .val (.int q4), .val (.int q5), .val (.int v)] := by
  rcases h with rfl | ⟨w, rfl, hw⟩
  · rfl
  · cases w <;> first | rfl | (simp [Value.category] at hw)
set_option maxRecDepth 65536 in
set_option maxHeartbeats 40000000 in
theorem loopD {p : Program} {l : Launch} {e : Env} {R : Room} {s : State} {m : MethodId} {args : Array Value} {below : List Frame} {meth : Method} {c : Code} {T0 : State} {locs : List Loc} {cells slots : Nat} {Z : State} {h0 : Heap} {b : Addr} {cl : Cell} (f : Nat → Int32) (nb : Nat) (q2 : Int32)
    (X0 : Stand p l e R s m args below meth c T0 locs cells slots) (hx : p.tables.exec = Jvm.exec) (hZ : Z.Warmed39 s.vm) (hby : c.code = prog_32_method_5_code) (e0 : T0.heap = h0) (Ar : Arr Z h0 b cl .char) (S : cl.slots.size = 4) (hf : ∀ i, i < 4 → cl.slots[i]? = some (.int (f i))) (hnb : nb ≤ 4) :
    ∀ (k i : Nat) (acc : Int32) (s5 : Slot), i + k = nb → One s5 → ∃ (pc' : Nat) (L' : Array Slot), decode c.code pc' = .ok (.ireturn, 1) ∧ ∀ t, Steps p.tables e below (T0.setTop (mkF m pc' L' [.int (own_loop f k i acc)])) t → Steps p.tables e below (T0.setTop (mkF m 5 #[.val (.ref b), .val (.int q2), .val (.int (Int32.ofNat nb)), .val (.int acc), .val (.int (Int32.ofNat i)), s5] [])) t := by
  intro k
  induction k with
  | zero =>
    intro i acc s5 hi h5
    have hlt : ¬ Int32.ofNat i < Int32.ofNat nb := fun q => by have := (own_lti (by omega) (by omega)).mp q; omega
    have pre0 : ∀ t, Steps p.tables e below (T0.setTop (mkF m 5 #[.val (.ref b), .val (.int q2), .val (.int (Int32.ofNat nb)), .val (.int acc), .val (.int (Int32.ofNat i)), s5] [])) t → Steps p.tables e below (T0.setTop (mkF m 5 #[.val (.ref b), .val (.int q2), .val (.int (Int32.ofNat nb)), .val (.int acc), .val (.int (Int32.ofNat i)), s5] [])) t := fun t k => k
    have pre1 : ∀ t, Steps p.tables e below (T0.setTop (mkF m 51 #[.val (.ref b), .val (.int q2), .val (.int (Int32.ofNat nb)), .val (.int acc), .val (.int (Int32.ofNat i)), s5] [(.int acc)])) t → Steps p.tables e below (T0.setTop (mkF m 5 #[.val (.ref b), .val (.int q2), .val (.int (Int32.ofNat nb)), .val (.int acc), .val (.int (Int32.ofNat i)), s5] [])) t := by
      intro t k
      refine pre0 t ?_
      refine XS.iload X0.here hx rfl (hb hby d4_5) rfl ?_
      show Steps p.tables e below (T0.setTop (mkF m 7 #[.val (.ref b), .val (.int q2), .val (.int (Int32.ofNat nb)), .val (.int acc), .val (.int (Int32.ofNat i)), s5] [(.int (Int32.ofNat i))])) _
      refine XS.iloadN X0.here hx rfl (hb hby d4_7) rfl ?_
      show Steps p.tables e below (T0.setTop (mkF m 8 #[.val (.ref b), .val (.int q2), .val (.int (Int32.ofNat nb)), .val (.int acc), .val (.int (Int32.ofNat i)), s5] [(.int (Int32.ofNat nb)), (.int (Int32.ofNat i))])) _
      refine XS.icmpYes X0.here hx rfl (pc0 := 8) (pc' := 50) rfl (hb hby d4_8) rfl (flt hlt).2.1 (by decide) (by decide) ?_
      show Steps p.tables e below (T0.setTop (mkF m 50 #[.val (.ref b), .val (.int q2), .val (.int (Int32.ofNat nb)), .val (.int acc), .val (.int (Int32.ofNat i)), s5] [])) _
      refine XS.iloadN X0.here hx rfl (hb hby d4_50) rfl ?_
      show Steps p.tables e below (T0.setTop (mkF m 51 #[.val (.ref b), .val (.int q2), .val (.int (Int32.ofNat nb)), .val (.int acc), .val (.int (Int32.ofNat i)), s5] [(.int acc)])) _
      exact k
    exact ⟨51, _, (hb hby d4_51), pre1⟩
  | succ k ih =>
    intro i acc s5 hi h5
    have hlt : Int32.ofNat i < Int32.ofNat nb := (own_lti (by omega) (by omega)).mpr (by omega)
    have hi4 : i < 4 := by omega
    have hin : ¬ (Int32.ofNat i < 0 ∨ cl.slots.size ≤ (Int32.ofNat i).toNatClampNeg) := by
      rw [S, own_clamp (by omega)]
      rintro (q | q)
      · have := Int32.lt_iff_toInt_lt.mp q; rw [own_ofNat (by omega), show (0 : Int32).toInt = 0 from rfl] at this; omega
      · omega
    have hat : cl.slots[(Int32.ofNat i).toNatClampNeg]? = some (.int (f i)) := by rw [own_clamp (by omega)]; exact hf i hi4
    have pre0 : ∀ t, Steps p.tables e below (T0.setTop (mkF m 5 #[.val (.ref b), .val (.int q2), .val (.int (Int32.ofNat nb)), .val (.int acc), .val (.int (Int32.ofNat i)), s5] [])) t → Steps p.tables e below (T0.setTop (mkF m 5 #[.val (.ref b), .val (.int q2), .val (.int (Int32.ofNat nb)), .val (.int acc), .val (.int (Int32.ofNat i)), s5] [])) t := fun t k => k
    have pre1 : ∀ t, Steps p.tables e below (T0.setTop (mkF m 21 #[.val (.ref b), .val (.int q2), .val (.int (Int32.ofNat nb)), .val (.int acc), .val (.int (Int32.ofNat i)), .val (.int (f i))] [(.int (48 : Int32)), (.int (f i))])) t → Steps p.tables e below (T0.setTop (mkF m 5 #[.val (.ref b), .val (.int q2), .val (.int (Int32.ofNat nb)), .val (.int acc), .val (.int (Int32.ofNat i)), s5] [])) t := by
      intro t k
      refine pre0 t ?_
      refine XS.iload X0.here hx rfl (hb hby d4_5) rfl ?_
      show Steps p.tables e below (T0.setTop (mkF m 7 #[.val (.ref b), .val (.int q2), .val (.int (Int32.ofNat nb)), .val (.int acc), .val (.int (Int32.ofNat i)), s5] [(.int (Int32.ofNat i))])) _
      refine XS.iloadN X0.here hx rfl (hb hby d4_7) rfl ?_
      show Steps p.tables e below (T0.setTop (mkF m 8 #[.val (.ref b), .val (.int q2), .val (.int (Int32.ofNat nb)), .val (.int acc), .val (.int (Int32.ofNat i)), s5] [(.int (Int32.ofNat nb)), (.int (Int32.ofNat i))])) _
      refine XS.icmpNo X0.here hx rfl (hb hby d4_8) rfl (tlt hlt).2.1 ?_
      show Steps p.tables e below (T0.setTop (mkF m 11 #[.val (.ref b), .val (.int q2), .val (.int (Int32.ofNat nb)), .val (.int acc), .val (.int (Int32.ofNat i)), s5] [])) _
      refine XS.aloadN X0.here hx rfl (hb hby d4_11) rfl rfl ?_
      show Steps p.tables e below (T0.setTop (mkF m 12 #[.val (.ref b), .val (.int q2), .val (.int (Int32.ofNat nb)), .val (.int acc), .val (.int (Int32.ofNat i)), s5] [(.ref b)])) _
      refine XS.iload X0.here hx rfl (hb hby d4_12) rfl ?_
      show Steps p.tables e below (T0.setTop (mkF m 14 #[.val (.ref b), .val (.int q2), .val (.int (Int32.ofNat nb)), .val (.int acc), .val (.int (Int32.ofNat i)), s5] [(.int (Int32.ofNat i)), (.ref b)])) _
      refine X0.caload hx (j := Int32.ofNat i) (v := .int (f i)) (by rw [e0]; exact Ar.1) (State.isArrayOf_alike hZ.alike Ar.2.1) Ar.2.2 hin hat (g := (mkF m 14 #[.val (.ref b), .val (.int q2), .val (.int (Int32.ofNat nb)), .val (.int acc), .val (.int (Int32.ofNat i)), s5] [(.int (Int32.ofNat i)), (.ref b)])) rfl rfl (hb hby d4_14) _ ?_
      show Steps p.tables e below (T0.setTop (mkF m 15 #[.val (.ref b), .val (.int q2), .val (.int (Int32.ofNat nb)), .val (.int acc), .val (.int (Int32.ofNat i)), s5] [(.int (f i))])) _
      refine XS.istore X0.here hx rfl (hb hby d4_15) rfl (l' := #[.val (.ref b), .val (.int q2), .val (.int (Int32.ofNat nb)), .val (.int acc), .val (.int (Int32.ofNat i)), .val (.int (f i))]) (own_store h5) ?_
      show Steps p.tables e below (T0.setTop (mkF m 17 #[.val (.ref b), .val (.int q2), .val (.int (Int32.ofNat nb)), .val (.int acc), .val (.int (Int32.ofNat i)), .val (.int (f i))] [])) _
      refine XS.iload X0.here hx rfl (hb hby d4_17) rfl ?_
      show Steps p.tables e below (T0.setTop (mkF m 19 #[.val (.ref b), .val (.int q2), .val (.int (Int32.ofNat nb)), .val (.int acc), .val (.int (Int32.ofNat i)), .val (.int (f i))] [(.int (f i))])) _
      refine XS.bipush X0.here hx rfl (hb hby d4_19) ?_
      show Steps p.tables e below (T0.setTop (mkF m 21 #[.val (.ref b), .val (.int q2), .val (.int (Int32.ofNat nb)), .val (.int acc), .val (.int (Int32.ofNat i)), .val (.int (f i))] [(.int (48 : Int32)), (.int (f i))])) _
      exact k
    by_cases hc21 : (f i) < (48 : Int32)
    · have pre2 : ∀ t, Steps p.tables e below (T0.setTop (mkF m 32 #[.val (.ref b), .val (.int q2), .val (.int (Int32.ofNat nb)), .val (.int acc), .val (.int (Int32.ofNat i)), .val (.int (f i))] [(.int (-1 : Int32))])) t → Steps p.tables e below (T0.setTop (mkF m 5 #[.val (.ref b), .val (.int q2), .val (.int (Int32.ofNat nb)), .val (.int acc), .val (.int (Int32.ofNat i)), s5] [])) t := by
        intro t k
        refine pre1 t ?_
        refine XS.icmpYes X0.here hx rfl (pc0 := 21) (pc' := 31) rfl (hb hby d4_21) rfl (tlt hc21).1 (by decide) (by decide) ?_
        show Steps p.tables e below (T0.setTop (mkF m 31 #[.val (.ref b), .val (.int q2), .val (.int (Int32.ofNat nb)), .val (.int acc), .val (.int (Int32.ofNat i)), .val (.int (f i))] [])) _
        refine XS.iconst X0.here hx rfl (hb hby d4_31) ?_
        show Steps p.tables e below (T0.setTop (mkF m 32 #[.val (.ref b), .val (.int q2), .val (.int (Int32.ofNat nb)), .val (.int acc), .val (.int (Int32.ofNat i)), .val (.int (f i))] [(.int (-1 : Int32))])) _
        exact k
      have hv : own_loop f (k + 1) i acc = -1 := by simp [own_loop, own_isbad, hc21]
      rw [hv]
      exact ⟨32, _, (hb hby d4_32), pre2⟩
    · have pre3 : ∀ t, Steps p.tables e below (T0.setTop (mkF m 28 #[.val (.ref b), .val (.int q2), .val (.int (Int32.ofNat nb)), .val (.int acc), .val (.int (Int32.ofNat i)), .val (.int (f i))] [(.int (57 : Int32)), (.int (f i))])) t → Steps p.tables e below (T0.setTop (mkF m 5 #[.val (.ref b), .val (.int q2), .val (.int (Int32.ofNat nb)), .val (.int acc), .val (.int (Int32.ofNat i)), s5] [])) t := by
        intro t k
        refine pre1 t ?_
        refine XS.icmpNo X0.here hx rfl (hb hby d4_21) rfl (flt hc21).1 ?_
        show Steps p.tables e below (T0.setTop (mkF m 24 #[.val (.ref b), .val (.int q2), .val (.int (Int32.ofNat nb)), .val (.int acc), .val (.int (Int32.ofNat i)), .val (.int (f i))] [])) _
        refine XS.iload X0.here hx rfl (hb hby d4_24) rfl ?_
        show Steps p.tables e below (T0.setTop (mkF m 26 #[.val (.ref b), .val (.int q2), .val (.int (Int32.ofNat nb)), .val (.int acc), .val (.int (Int32.ofNat i)), .val (.int (f i))] [(.int (f i))])) _
        refine XS.bipush X0.here hx rfl (hb hby d4_26) ?_
        show Steps p.tables e below (T0.setTop (mkF m 28 #[.val (.ref b), .val (.int q2), .val (.int (Int32.ofNat nb)), .val (.int acc), .val (.int (Int32.ofNat i)), .val (.int (f i))] [(.int (57 : Int32)), (.int (f i))])) _
        exact k
      by_cases hc28 : (57 : Int32) < (f i)
      · have pre4 : ∀ t, Steps p.tables e below (T0.setTop (mkF m 32 #[.val (.ref b), .val (.int q2), .val (.int (Int32.ofNat nb)), .val (.int acc), .val (.int (Int32.ofNat i)), .val (.int (f i))] [(.int (-1 : Int32))])) t → Steps p.tables e below (T0.setTop (mkF m 5 #[.val (.ref b), .val (.int q2), .val (.int (Int32.ofNat nb)), .val (.int acc), .val (.int (Int32.ofNat i)), s5] [])) t := by
          intro t k
          refine pre3 t ?_
          refine XS.icmpNo X0.here hx rfl (hb hby d4_28) rfl (tlt hc28).2.2.2 ?_
          show Steps p.tables e below (T0.setTop (mkF m 31 #[.val (.ref b), .val (.int q2), .val (.int (Int32.ofNat nb)), .val (.int acc), .val (.int (Int32.ofNat i)), .val (.int (f i))] [])) _
          refine XS.iconst X0.here hx rfl (hb hby d4_31) ?_
          show Steps p.tables e below (T0.setTop (mkF m 32 #[.val (.ref b), .val (.int q2), .val (.int (Int32.ofNat nb)), .val (.int acc), .val (.int (Int32.ofNat i)), .val (.int (f i))] [(.int (-1 : Int32))])) _
          exact k
        have hv : own_loop f (k + 1) i acc = -1 := by simp [own_loop, own_isbad, hc21, hc28]
        rw [hv]
        exact ⟨32, _, (hb hby d4_32), pre4⟩
      · have pre5 : ∀ t, Steps p.tables e below (T0.setTop (mkF m 5 #[.val (.ref b), .val (.int q2), .val (.int (Int32.ofNat nb)), .val (.int ((acc * (10 : Int32)) + ((f i) - (48 : Int32)))), .val (.int (Int32.ofNat (i + 1))), .val (.int (f i))] [])) t → Steps p.tables e below (T0.setTop (mkF m 5 #[.val (.ref b), .val (.int q2), .val (.int (Int32.ofNat nb)), .val (.int acc), .val (.int (Int32.ofNat i)), s5] [])) t := by
          intro t k
          refine pre3 t ?_
          refine XS.icmpYes X0.here hx rfl (pc0 := 28) (pc' := 33) rfl (hb hby d4_28) rfl (flt hc28).2.2.2 (by decide) (by decide) ?_
          show Steps p.tables e below (T0.setTop (mkF m 33 #[.val (.ref b), .val (.int q2), .val (.int (Int32.ofNat nb)), .val (.int acc), .val (.int (Int32.ofNat i)), .val (.int (f i))] [])) _
          refine XS.iloadN X0.here hx rfl (hb hby d4_33) rfl ?_
          show Steps p.tables e below (T0.setTop (mkF m 34 #[.val (.ref b), .val (.int q2), .val (.int (Int32.ofNat nb)), .val (.int acc), .val (.int (Int32.ofNat i)), .val (.int (f i))] [(.int acc)])) _
          refine XS.bipush X0.here hx rfl (hb hby d4_34) ?_
          show Steps p.tables e below (T0.setTop (mkF m 36 #[.val (.ref b), .val (.int q2), .val (.int (Int32.ofNat nb)), .val (.int acc), .val (.int (Int32.ofNat i)), .val (.int (f i))] [(.int (10 : Int32)), (.int acc)])) _
          refine XS.imul X0.here hx rfl (hb hby d4_36) rfl ?_
          show Steps p.tables e below (T0.setTop (mkF m 37 #[.val (.ref b), .val (.int q2), .val (.int (Int32.ofNat nb)), .val (.int acc), .val (.int (Int32.ofNat i)), .val (.int (f i))] [(.int (acc * (10 : Int32)))])) _
          refine XS.iload X0.here hx rfl (hb hby d4_37) rfl ?_
          show Steps p.tables e below (T0.setTop (mkF m 39 #[.val (.ref b), .val (.int q2), .val (.int (Int32.ofNat nb)), .val (.int acc), .val (.int (Int32.ofNat i)), .val (.int (f i))] [(.int (f i)), (.int (acc * (10 : Int32)))])) _
          refine XS.bipush X0.here hx rfl (hb hby d4_39) ?_
          show Steps p.tables e below (T0.setTop (mkF m 41 #[.val (.ref b), .val (.int q2), .val (.int (Int32.ofNat nb)), .val (.int acc), .val (.int (Int32.ofNat i)), .val (.int (f i))] [(.int (48 : Int32)), (.int (f i)), (.int (acc * (10 : Int32)))])) _
          refine XS.isub X0.here hx rfl (hb hby d4_41) rfl ?_
          show Steps p.tables e below (T0.setTop (mkF m 42 #[.val (.ref b), .val (.int q2), .val (.int (Int32.ofNat nb)), .val (.int acc), .val (.int (Int32.ofNat i)), .val (.int (f i))] [(.int ((f i) - (48 : Int32))), (.int (acc * (10 : Int32)))])) _
          refine XS.iadd X0.here hx rfl (hb hby d4_42) rfl ?_
          show Steps p.tables e below (T0.setTop (mkF m 43 #[.val (.ref b), .val (.int q2), .val (.int (Int32.ofNat nb)), .val (.int acc), .val (.int (Int32.ofNat i)), .val (.int (f i))] [(.int ((acc * (10 : Int32)) + ((f i) - (48 : Int32))))])) _
          refine XS.istoreN X0.here hx rfl (hb hby d4_43) rfl (l' := #[.val (.ref b), .val (.int q2), .val (.int (Int32.ofNat nb)), .val (.int ((acc * (10 : Int32)) + ((f i) - (48 : Int32)))), .val (.int (Int32.ofNat i)), .val (.int (f i))]) rfl ?_
          show Steps p.tables e below (T0.setTop (mkF m 44 #[.val (.ref b), .val (.int q2), .val (.int (Int32.ofNat nb)), .val (.int ((acc * (10 : Int32)) + ((f i) - (48 : Int32)))), .val (.int (Int32.ofNat i)), .val (.int (f i))] [])) _
          refine XS.iinc X0.here hx rfl (hb hby d4_44) rfl (l' := #[.val (.ref b), .val (.int q2), .val (.int (Int32.ofNat nb)), .val (.int ((acc * (10 : Int32)) + ((f i) - (48 : Int32)))), .val (.int ((Int32.ofNat i) + (1 : Int32))), .val (.int (f i))]) rfl ?_
          show Steps p.tables e below (T0.setTop (mkF m 47 #[.val (.ref b), .val (.int q2), .val (.int (Int32.ofNat nb)), .val (.int ((acc * (10 : Int32)) + ((f i) - (48 : Int32)))), .val (.int ((Int32.ofNat i) + (1 : Int32))), .val (.int (f i))] [])) _
          refine XS.goto X0.here hx rfl (pc0 := 47) (pc' := 5) rfl (hb hby d4_47) (by decide) (by decide) ?_
          show Steps p.tables e below (T0.setTop (mkF m 5 #[.val (.ref b), .val (.int q2), .val (.int (Int32.ofNat nb)), .val (.int ((acc * (10 : Int32)) + ((f i) - (48 : Int32)))), .val (.int ((Int32.ofNat i) + (1 : Int32))), .val (.int (f i))] [])) _
          rw [own_up i]
          show Steps p.tables e below (T0.setTop (mkF m 5 #[.val (.ref b), .val (.int q2), .val (.int (Int32.ofNat nb)), .val (.int ((acc * (10 : Int32)) + ((f i) - (48 : Int32)))), .val (.int (Int32.ofNat (i + 1))), .val (.int (f i))] [])) _
          exact k
        have hv : own_loop f (k + 1) i acc = own_loop f k (i + 1) (acc * 10 + (f i - 48)) := by simp [own_loop, own_isbad, hc21, hc28]
        rw [hv]
        obtain ⟨pc', L', hd, st⟩ := ih (i + 1) (acc * 10 + (f i - 48)) (.val (.int (f i))) (by omega) (One.val rfl)
        exact ⟨pc', L', hd, fun t kt => pre5 t (st t kt)⟩
def Q5 (Z : State) (a1 : Addr) (k1 : ClassId) (c0 c1 c2 c3 : Int32) (na nb : Nat) (h0 : Heap) (n0 : Nat) (v : Option Value) (h : Heap) (L : List Loc) : Prop := v = some (.int (own_loop (own_f c0 c1 c2 c3) (nb - na) na 0)) ∧ Fr n0 L ∧ h = h0
theorem pn_5 : plainName "com/example/bondsmith/bondsmith/MonthDays" = true := by first | (simp [plainName, overriddenIn]; done) | decide +kernel
theorem ef_5 (m : MethodId) (x0 : Addr) (x1 : Int32) (x2 : Int32) : entryFrame m #[(.ref x0), (.int x1), (.int x2)] 6 = mkF m 0 #[.val (.ref x0), .val (.int x1), .val (.int x2), .unset, .unset, .unset] [] := by first | (simp [entryFrame, mkF, argsToLocals, Value.category]; done) | rfl
set_option maxRecDepth 65536 in
set_option maxHeartbeats 40000000 in
theorem rm5 (l : Launch) (Z : State) (a0 : Array Value) (hw : ∀ d ∈ tables_1, d.before a0 Z = true) (ws : List Jvm.Cond) (a1 : Addr) (k1 : ClassId) (c0 c1 c2 c3 : Int32) (na nb : Nat) (h0 : Heap) (n0 : Nat) (Z0 : n0 ≤ h0.size) (V : Arv Z h0 a1 k1 .char 4 [.int c0, .int c1, .int c2, .int c3] (.int 0)) (hab : na ≤ nb) (hb4 : nb ≤ 4) :
    MetFree l (⟨"com/example/bondsmith/bondsmith/MonthDays", "digits", "([CII)I"⟩ : MethodName) (head1 (Jvm.Cond.code (⟨"com/example/bondsmith/bondsmith/MonthDays", "digits", "([CII)I"⟩ : MethodName) prog_32_method_5_code 6 (some .int) :: ws) ({ frames := 0, cells := 0, slots := 0, locals := 0 } : Room)) (fun a U => a = #[(.ref a1), (.int (Int32.ofNat na)), (.int (Int32.ofNat nb))] ∧ Z.Warmed39 U.vm ∧ U.heap = h0) (fun _ _ _ _ _ => True) (fun _ U o U' => ∃ v L, o = .returned v ∧ Q5 Z a1 k1 c0 c1 c2 c3 na nb h0 n0 v U'.heap L ∧ FrameEnd U o U' L ({ frames := 0, cells := 0, slots := 0, locals := 0 } : Room).cells ({ frames := 0, cells := 0, slots := 0, locals := 0 } : Room).slots) := by
  refine MetFree.of_bodySF (plainFor_of_name pn_5) hisR ?_
  intro p e s m args below meth c s₁ Bd hml0 hP hK
  obtain ⟨rfl, hZ, hh⟩ := hP
  have hx := Bd.exec
  have hby := Bd.bytes
  have hml : c.maxLocals = 6 := hml0
  have hown : s.vm.findClass "com/example/bondsmith/bondsmith/MonthDays" = some m.cls := findClass_of_methodNamed Bd.named
  have hnm := (name_of_methodNamed Bd.named Bd.method).1
  have X0 : Stand p l e ({ frames := 0, cells := 0, slots := 0, locals := 0 } : Room) s m #[(.ref a1), (.int (Int32.ofNat na)), (.int (Int32.ofNat nb))] below meth c s₁ [] 0 0 := Stand.of_body Bd
  have e0 : s₁.heap = h0 := by rw [← hh, Bd.state]; rfl
  have N0 := Fr.nil n0
  have pre0 : ∀ t, Steps p.tables e below (s₁.setTop (mkF m 0 #[.val (.ref a1), .val (.int (Int32.ofNat na)), .val (.int (Int32.ofNat nb)), .unset, .unset, .unset] [])) t → Steps p.tables e below (s₁.setTop (entryFrame m #[(.ref a1), (.int (Int32.ofNat na)), (.int (Int32.ofNat nb))] 6)) t := fun t k => castTop (ef_5 m a1 (Int32.ofNat na) (Int32.ofNat nb)) k
  obtain ⟨cl, Ar, -, S, -, H, -⟩ := V
  have hf : ∀ i, i < 4 → cl.slots[i]? = some (.int (own_f c0 c1 c2 c3 i)) := fun i hi => by
    rw [H i (by rw [S]; exact hi)]
    match i, hi with
    | 0, _ => rfl
    | 1, _ => rfl
    | 2, _ => rfl
    | 3, _ => rfl
    | n + 4, h => omega
  have pre1 : ∀ t, Steps p.tables e below (s₁.setTop (mkF m 5 #[.val (.ref a1), .val (.int (Int32.ofNat na)), .val (.int (Int32.ofNat nb)), .val (.int (0 : Int32)), .val (.int (Int32.ofNat na)), .unset] [])) t → Steps p.tables e below (s₁.setTop (entryFrame m #[(.ref a1), (.int (Int32.ofNat na)), (.int (Int32.ofNat nb))] 6)) t := by
    intro t k
    refine pre0 t ?_
    refine XS.iconst X0.here hx rfl (hb hby d4_0) ?_
    show Steps p.tables e below (s₁.setTop (mkF m 1 #[.val (.ref a1), .val (.int (Int32.ofNat na)), .val (.int (Int32.ofNat nb)), .unset, .unset, .unset] [(.int (0 : Int32))])) _
    refine XS.istoreN X0.here hx rfl (hb hby d4_1) rfl (l' := #[.val (.ref a1), .val (.int (Int32.ofNat na)), .val (.int (Int32.ofNat nb)), .val (.int (0 : Int32)), .unset, .unset]) rfl ?_
    show Steps p.tables e below (s₁.setTop (mkF m 2 #[.val (.ref a1), .val (.int (Int32.ofNat na)), .val (.int (Int32.ofNat nb)), .val (.int (0 : Int32)), .unset, .unset] [])) _
    refine XS.iloadN X0.here hx rfl (hb hby d4_2) rfl ?_
    show Steps p.tables e below (s₁.setTop (mkF m 3 #[.val (.ref a1), .val (.int (Int32.ofNat na)), .val (.int (Int32.ofNat nb)), .val (.int (0 : Int32)), .unset, .unset] [(.int (Int32.ofNat na))])) _
    refine XS.istore X0.here hx rfl (hb hby d4_3) rfl (l' := #[.val (.ref a1), .val (.int (Int32.ofNat na)), .val (.int (Int32.ofNat nb)), .val (.int (0 : Int32)), .val (.int (Int32.ofNat na)), .unset]) rfl ?_
    show Steps p.tables e below (s₁.setTop (mkF m 5 #[.val (.ref a1), .val (.int (Int32.ofNat na)), .val (.int (Int32.ofNat nb)), .val (.int (0 : Int32)), .val (.int (Int32.ofNat na)), .unset] [])) _
    exact k
  obtain ⟨pc', L', hd, st⟩ := loopD (own_f c0 c1 c2 c3) nb (Int32.ofNat na) X0 hx hZ hby e0 Ar S hf hb4 (nb - na) na 0 .unset (by omega) One.u
  obtain ⟨fs, hr, hrun, hended, hW, hsame⟩ := X0.leave (v := some (.int (own_loop (own_f c0 c1 c2 c3) (nb - na) na 0))) (fun h => by rw [Bd.returns] at h; cases h)
  refine ⟨_, _, pre1 _ (st _ ?_), hrun, hended, _, _, rfl, ?_, ⟨_, rfl⟩, hW, hsame.mono (by decide) (by decide)⟩
  · exact retOut X0 hx Bd.returns rfl (Or.inl ⟨rfl, Or.inl rfl, _, rfl⟩) hd hr
  · show Q5 Z a1 k1 c0 c1 c2 c3 na nb h0 n0 _ s₁.heap _
    rw [e0]
    exact ⟨rfl, N0, rfl⟩
theorem pn_0 : plainName "com/example/bondsmith/bondsmith/MonthDaysDigitsPinLaw" = true := by first | (simp [plainName, overriddenIn]; done) | decide +kernel
theorem pd_d : parseMethodDescriptor "(I)C" = some ⟨[.int], some .char⟩ := by decide +kernel
theorem pd_b : parseMethodDescriptor "(ICII)Z" = some ⟨[.int, .char, .int, .int], some .boolean⟩ := by decide +kernel
theorem pd_t : parseMethodDescriptor "(ICII)I" = some ⟨[.int, .char, .int, .int], some .int⟩ := by decide +kernel
theorem pd_g : parseMethodDescriptor "([CII)I" = some ⟨[(.array .char), .int, .int], some .int⟩ := by decide +kernel
theorem ef_0 (m : MethodId) (p1 : Int32) (p2 : Int32) (p3 : Int32) (p4 : Int32) (p5 : Int32) : entryFrame m #[(.int p1), (.int p2), (.int p3), (.int p4), (.int p5)] maxLocals = mkF m 0 #[.val (.int p1), .val (.int p2), .val (.int p3), .val (.int p4), .val (.int p5), .unset, .unset, .unset, .unset, .unset, .unset, .unset, .unset, .unset, .unset] [] := by first | (simp [entryFrame, mkF, argsToLocals, Value.category, maxLocals]; done) | rfl
def Q0 (Z : State) (p1 p2 p3 p4 p5 : Int32) (h0 : Heap) (n0 : Nat) (v : Option Value) (h : Heap) (L : List Loc) : Prop := v = some (.int (1 : Int32)) ∧ Fr n0 L
set_option maxRecDepth 65536 in
set_option maxHeartbeats 40000000 in
theorem rm0 (l : Launch) (Z : State) (a0 : Array Value) (hw : ∀ d ∈ tables_1, d.before a0 Z = true) (ws : List Jvm.Cond) (p1 p2 p3 p4 p5 : Int32) (h0 : Heap) (n0 : Nat) (Z0 : n0 ≤ h0.size) :
    MetFree l x (head1 (Jvm.Cond.code x code maxLocals ret :: ws) room_1) (fun a U => a = #[(.int p1), (.int p2), (.int p3), (.int p4), (.int p5)] ∧ Z.Warmed39 U.vm ∧ U.heap = h0) (fun _ _ _ _ _ => True) (fun _ U o U' => ∃ v L, o = .returned v ∧ Q0 Z p1 p2 p3 p4 p5 h0 n0 v U'.heap L ∧ FrameEnd U o U' L room_1.cells room_1.slots) := by
  refine MetFree.of_bodySF (plainFor_of_name pn_0) hisR ?_
  intro p e s m args below meth c s₁ Bd hml0 hP hK
  obtain ⟨rfl, hZ, hh⟩ := hP
  have hx := Bd.exec
  have hby := Bd.bytes
  have hml : c.maxLocals = 15 := hml0
  have hown : s.vm.findClass "com/example/bondsmith/bondsmith/MonthDaysDigitsPinLaw" = some m.cls := findClass_of_methodNamed Bd.named
  have hnm := (name_of_methodNamed Bd.named Bd.method).1
  have X0 : Stand p l e room_1 s m #[(.int p1), (.int p2), (.int p3), (.int p4), (.int p5)] below meth c s₁ [] 0 0 := Stand.of_body Bd
  have e0 : s₁.heap = h0 := by rw [← hh, Bd.state]; rfl
  have N0 := Fr.nil n0
  have pre0 : ∀ t, Steps p.tables e below (s₁.setTop (mkF m 0 #[.val (.int p1), .val (.int p2), .val (.int p3), .val (.int p4), .val (.int p5), .unset, .unset, .unset, .unset, .unset, .unset, .unset, .unset, .unset, .unset] [])) t → Steps p.tables e below (s₁.setTop (entryFrame m #[(.int p1), (.int p2), (.int p3), (.int p4), (.int p5)] maxLocals)) t := fun t k => castTop (ef_0 m p1 p2 p3 p4 p5) k
  have pre1 : ∀ t, Steps p.tables e below (s₁.setTop (mkF m 1 #[.val (.int p1), .val (.int p2), .val (.int p3), .val (.int p4), .val (.int p5), .unset, .unset, .unset, .unset, .unset, .unset, .unset, .unset, .unset, .unset] [(.int p1)])) t → Steps p.tables e below (s₁.setTop (entryFrame m #[(.int p1), (.int p2), (.int p3), (.int p4), (.int p5)] maxLocals)) t := by
    intro t k
    refine pre0 t ?_
    refine XS.iloadN X0.here hx rfl (hb hby at_0) rfl ?_
    show Steps p.tables e below (s₁.setTop (mkF m 1 #[.val (.int p1), .val (.int p2), .val (.int p3), .val (.int p4), .val (.int p5), .unset, .unset, .unset, .unset, .unset, .unset, .unset, .unset, .unset, .unset] [(.int p1)])) _
    exact k
  obtain ⟨_, _, ⟨T2, L2, k2, n2⟩, -, X2, ⟨Lc2, hQ2, l2, y2, z2⟩, st2⟩ := Jvm.LawKit.callS X0 hx (y := (⟨"com/example/bondsmith/bondsmith/MonthDaysDigitsPinLaw", "draw", "(I)C"⟩ : MethodName)) hown (mvT hZ (hw _ (List.mem_of_getElem? (i := 0) rfl))) (mvT hZ (hw _ (List.mem_of_getElem? (i := 1) rfl))) (mvT hZ (hw _ (List.mem_of_getElem? (i := 2) rfl))) (mvT hZ (hw _ (List.mem_of_getElem? (i := 3) rfl))) (by decide) (backOf (W := 0) (rm1 l Z a0 hw [] p1 h0 n0 Z0) hZ (hw _ (List.mem_of_getElem? (i := 3) rfl)) (hw _ (List.mem_of_getElem? (i := 2) rfl)) (by decide) (by decide)) (g := (mkF m 1 #[.val (.int p1), .val (.int p2), .val (.int p3), .val (.int p4), .val (.int p5), .unset, .unset, .unset, .unset, .unset, .unset, .unset, .unset, .unset, .unset] [(.int p1)])) rfl (by rw [hml]; rfl) (argsL := [(.int p1)]) (rest := []) (lenOf pd_d rfl) rfl (by show 2 * 0 + _ ≤ _; exact Nat.le_of_eq rfl) (hb hby at_1) (fun _ _ => ⟨rfl, e0, (by decide : 0 + 0 ≤ _), (by decide : 0 + 0 ≤ _)⟩)
  dsimp only [Pt.U, Pt.locs, Pt.cells, Pt.slots] at X2 l2 y2 z2 st2 hQ2
  subst l2 y2 z2
  obtain ⟨c0, rfl, c0l, c0h, N2q, e2⟩ := hQ2
  have N2 := Fr.app N0 N2q
  have pre3 : ∀ t, Steps p.tables e below (T2.setTop (mkF m 7 #[.val (.int p1), .val (.int p2), .val (.int p3), .val (.int p4), .val (.int p5), .val (.int c0), .unset, .unset, .unset, .unset, .unset, .unset, .unset, .unset, .unset] [(.int p2)])) t → Steps p.tables e below (s₁.setTop (entryFrame m #[(.int p1), (.int p2), (.int p3), (.int p4), (.int p5)] maxLocals)) t := by
    intro t k
    refine pre1 t ?_
    refine st2 _ ?_
    show Steps p.tables e below (T2.setTop (mkF m 4 #[.val (.int p1), .val (.int p2), .val (.int p3), .val (.int p4), .val (.int p5), .unset, .unset, .unset, .unset, .unset, .unset, .unset, .unset, .unset, .unset] [(.int c0)])) _
    refine XS.istore X2.here hx rfl (hb hby at_4) rfl (l' := #[.val (.int p1), .val (.int p2), .val (.int p3), .val (.int p4), .val (.int p5), .val (.int c0), .unset, .unset, .unset, .unset, .unset, .unset, .unset, .unset, .unset]) rfl ?_
    show Steps p.tables e below (T2.setTop (mkF m 6 #[.val (.int p1), .val (.int p2), .val (.int p3), .val (.int p4), .val (.int p5), .val (.int c0), .unset, .unset, .unset, .unset, .unset, .unset, .unset, .unset, .unset] [])) _
    refine XS.iloadN X2.here hx rfl (hb hby at_6) rfl ?_
    show Steps p.tables e below (T2.setTop (mkF m 7 #[.val (.int p1), .val (.int p2), .val (.int p3), .val (.int p4), .val (.int p5), .val (.int c0), .unset, .unset, .unset, .unset, .unset, .unset, .unset, .unset, .unset] [(.int p2)])) _
    exact k
  obtain ⟨_, _, ⟨T4, L4, k4, n4⟩, -, X4, ⟨Lc4, hQ4, l4, y4, z4⟩, st4⟩ := Jvm.LawKit.callS X2 hx (y := (⟨"com/example/bondsmith/bondsmith/MonthDaysDigitsPinLaw", "draw", "(I)C"⟩ : MethodName)) hown (mvT hZ (hw _ (List.mem_of_getElem? (i := 0) rfl))) (mvT hZ (hw _ (List.mem_of_getElem? (i := 1) rfl))) (mvT hZ (hw _ (List.mem_of_getElem? (i := 2) rfl))) (mvT hZ (hw _ (List.mem_of_getElem? (i := 3) rfl))) (by decide) (backOf (W := 0) (rm1 l Z a0 hw [] p2 h0 n0 Z0) hZ (hw _ (List.mem_of_getElem? (i := 3) rfl)) (hw _ (List.mem_of_getElem? (i := 2) rfl)) (by decide) (by decide)) (g := (mkF m 7 #[.val (.int p1), .val (.int p2), .val (.int p3), .val (.int p4), .val (.int p5), .val (.int c0), .unset, .unset, .unset, .unset, .unset, .unset, .unset, .unset, .unset] [(.int p2)])) rfl (by rw [hml]; rfl) (argsL := [(.int p2)]) (rest := []) (lenOf pd_d rfl) rfl (by show 2 * 0 + _ ≤ _; exact Nat.le_of_eq rfl) (hb hby at_7) (fun _ _ => ⟨rfl, e2, (by decide : 0 + 0 ≤ _), (by decide : 0 + 0 ≤ _)⟩)
  dsimp only [Pt.U, Pt.locs, Pt.cells, Pt.slots] at X4 l4 y4 z4 st4 hQ4
  subst l4 y4 z4
  obtain ⟨c1, rfl, c1l, c1h, N4q, e4⟩ := hQ4
  have N4 := Fr.app N2 N4q
  have pre5 : ∀ t, Steps p.tables e below (T4.setTop (mkF m 13 #[.val (.int p1), .val (.int p2), .val (.int p3), .val (.int p4), .val (.int p5), .val (.int c0), .val (.int c1), .unset, .unset, .unset, .unset, .unset, .unset, .unset, .unset] [(.int p3)])) t → Steps p.tables e below (s₁.setTop (entryFrame m #[(.int p1), (.int p2), (.int p3), (.int p4), (.int p5)] maxLocals)) t := by
    intro t k
    refine pre3 t ?_
    refine st4 _ ?_
    show Steps p.tables e below (T4.setTop (mkF m 10 #[.val (.int p1), .val (.int p2), .val (.int p3), .val (.int p4), .val (.int p5), .val (.int c0), .unset, .unset, .unset, .unset, .unset, .unset, .unset, .unset, .unset] [(.int c1)])) _
    refine XS.istore X4.here hx rfl (hb hby at_10) rfl (l' := #[.val (.int p1), .val (.int p2), .val (.int p3), .val (.int p4), .val (.int p5), .val (.int c0), .val (.int c1), .unset, .unset, .unset, .unset, .unset, .unset, .unset, .unset]) rfl ?_
    show Steps p.tables e below (T4.setTop (mkF m 12 #[.val (.int p1), .val (.int p2), .val (.int p3), .val (.int p4), .val (.int p5), .val (.int c0), .val (.int c1), .unset, .unset, .unset, .unset, .unset, .unset, .unset, .unset] [])) _
    refine XS.iloadN X4.here hx rfl (hb hby at_12) rfl ?_
    show Steps p.tables e below (T4.setTop (mkF m 13 #[.val (.int p1), .val (.int p2), .val (.int p3), .val (.int p4), .val (.int p5), .val (.int c0), .val (.int c1), .unset, .unset, .unset, .unset, .unset, .unset, .unset, .unset] [(.int p3)])) _
    exact k
  obtain ⟨_, _, ⟨T6, L6, k6, n6⟩, -, X6, ⟨Lc6, hQ6, l6, y6, z6⟩, st6⟩ := Jvm.LawKit.callS X4 hx (y := (⟨"com/example/bondsmith/bondsmith/MonthDaysDigitsPinLaw", "draw", "(I)C"⟩ : MethodName)) hown (mvT hZ (hw _ (List.mem_of_getElem? (i := 0) rfl))) (mvT hZ (hw _ (List.mem_of_getElem? (i := 1) rfl))) (mvT hZ (hw _ (List.mem_of_getElem? (i := 2) rfl))) (mvT hZ (hw _ (List.mem_of_getElem? (i := 3) rfl))) (by decide) (backOf (W := 0) (rm1 l Z a0 hw [] p3 h0 n0 Z0) hZ (hw _ (List.mem_of_getElem? (i := 3) rfl)) (hw _ (List.mem_of_getElem? (i := 2) rfl)) (by decide) (by decide)) (g := (mkF m 13 #[.val (.int p1), .val (.int p2), .val (.int p3), .val (.int p4), .val (.int p5), .val (.int c0), .val (.int c1), .unset, .unset, .unset, .unset, .unset, .unset, .unset, .unset] [(.int p3)])) rfl (by rw [hml]; rfl) (argsL := [(.int p3)]) (rest := []) (lenOf pd_d rfl) rfl (by show 2 * 0 + _ ≤ _; exact Nat.le_of_eq rfl) (hb hby at_13) (fun _ _ => ⟨rfl, e4, (by decide : 0 + 0 ≤ _), (by decide : 0 + 0 ≤ _)⟩)
  dsimp only [Pt.U, Pt.locs, Pt.cells, Pt.slots] at X6 l6 y6 z6 st6 hQ6
  subst l6 y6 z6
  obtain ⟨c2, rfl, c2l, c2h, N6q, e6⟩ := hQ6
  have N6 := Fr.app N4 N6q
  have pre7 : ∀ t, Steps p.tables e below (T6.setTop (mkF m 19 #[.val (.int p1), .val (.int p2), .val (.int p3), .val (.int p4), .val (.int p5), .val (.int c0), .val (.int c1), .val (.int c2), .unset, .unset, .unset, .unset, .unset, .unset, .unset] [(.int p4)])) t → Steps p.tables e below (s₁.setTop (entryFrame m #[(.int p1), (.int p2), (.int p3), (.int p4), (.int p5)] maxLocals)) t := by
    intro t k
    refine pre5 t ?_
    refine st6 _ ?_
    show Steps p.tables e below (T6.setTop (mkF m 16 #[.val (.int p1), .val (.int p2), .val (.int p3), .val (.int p4), .val (.int p5), .val (.int c0), .val (.int c1), .unset, .unset, .unset, .unset, .unset, .unset, .unset, .unset] [(.int c2)])) _
    refine XS.istore X6.here hx rfl (hb hby at_16) rfl (l' := #[.val (.int p1), .val (.int p2), .val (.int p3), .val (.int p4), .val (.int p5), .val (.int c0), .val (.int c1), .val (.int c2), .unset, .unset, .unset, .unset, .unset, .unset, .unset]) rfl ?_
    show Steps p.tables e below (T6.setTop (mkF m 18 #[.val (.int p1), .val (.int p2), .val (.int p3), .val (.int p4), .val (.int p5), .val (.int c0), .val (.int c1), .val (.int c2), .unset, .unset, .unset, .unset, .unset, .unset, .unset] [])) _
    refine XS.iloadN X6.here hx rfl (hb hby at_18) rfl ?_
    show Steps p.tables e below (T6.setTop (mkF m 19 #[.val (.int p1), .val (.int p2), .val (.int p3), .val (.int p4), .val (.int p5), .val (.int c0), .val (.int c1), .val (.int c2), .unset, .unset, .unset, .unset, .unset, .unset, .unset] [(.int p4)])) _
    exact k
  obtain ⟨_, _, ⟨T8, L8, k8, n8⟩, -, X8, ⟨Lc8, hQ8, l8, y8, z8⟩, st8⟩ := Jvm.LawKit.callS X6 hx (y := (⟨"com/example/bondsmith/bondsmith/MonthDaysDigitsPinLaw", "draw", "(I)C"⟩ : MethodName)) hown (mvT hZ (hw _ (List.mem_of_getElem? (i := 0) rfl))) (mvT hZ (hw _ (List.mem_of_getElem? (i := 1) rfl))) (mvT hZ (hw _ (List.mem_of_getElem? (i := 2) rfl))) (mvT hZ (hw _ (List.mem_of_getElem? (i := 3) rfl))) (by decide) (backOf (W := 0) (rm1 l Z a0 hw [] p4 h0 n0 Z0) hZ (hw _ (List.mem_of_getElem? (i := 3) rfl)) (hw _ (List.mem_of_getElem? (i := 2) rfl)) (by decide) (by decide)) (g := (mkF m 19 #[.val (.int p1), .val (.int p2), .val (.int p3), .val (.int p4), .val (.int p5), .val (.int c0), .val (.int c1), .val (.int c2), .unset, .unset, .unset, .unset, .unset, .unset, .unset] [(.int p4)])) rfl (by rw [hml]; rfl) (argsL := [(.int p4)]) (rest := []) (lenOf pd_d rfl) rfl (by show 2 * 0 + _ ≤ _; exact Nat.le_of_eq rfl) (hb hby at_19) (fun _ _ => ⟨rfl, e6, (by decide : 0 + 0 ≤ _), (by decide : 0 + 0 ≤ _)⟩)
  dsimp only [Pt.U, Pt.locs, Pt.cells, Pt.slots] at X8 l8 y8 z8 st8 hQ8
  subst l8 y8 z8
  obtain ⟨c3, rfl, c3l, c3h, N8q, e8⟩ := hQ8
  have N8 := Fr.app N6 N8q
  have pre9 : ∀ t, Steps p.tables e below (T8.setTop (mkF m 25 #[.val (.int p1), .val (.int p2), .val (.int p3), .val (.int p4), .val (.int p5), .val (.int c0), .val (.int c1), .val (.int c2), .val (.int c3), .unset, .unset, .unset, .unset, .unset, .unset] [(.int (4 : Int32))])) t → Steps p.tables e below (s₁.setTop (entryFrame m #[(.int p1), (.int p2), (.int p3), (.int p4), (.int p5)] maxLocals)) t := by
    intro t k
    refine pre7 t ?_
    refine st8 _ ?_
    show Steps p.tables e below (T8.setTop (mkF m 22 #[.val (.int p1), .val (.int p2), .val (.int p3), .val (.int p4), .val (.int p5), .val (.int c0), .val (.int c1), .val (.int c2), .unset, .unset, .unset, .unset, .unset, .unset, .unset] [(.int c3)])) _
    refine XS.istore X8.here hx rfl (hb hby at_22) rfl (l' := #[.val (.int p1), .val (.int p2), .val (.int p3), .val (.int p4), .val (.int p5), .val (.int c0), .val (.int c1), .val (.int c2), .val (.int c3), .unset, .unset, .unset, .unset, .unset, .unset]) rfl ?_
    show Steps p.tables e below (T8.setTop (mkF m 24 #[.val (.int p1), .val (.int p2), .val (.int p3), .val (.int p4), .val (.int p5), .val (.int c0), .val (.int c1), .val (.int c2), .val (.int c3), .unset, .unset, .unset, .unset, .unset, .unset] [])) _
    refine XS.iconst X8.here hx rfl (hb hby at_24) ?_
    show Steps p.tables e below (T8.setTop (mkF m 25 #[.val (.int p1), .val (.int p2), .val (.int p3), .val (.int p4), .val (.int p5), .val (.int c0), .val (.int c1), .val (.int c2), .val (.int c3), .unset, .unset, .unset, .unset, .unset, .unset] [(.int (4 : Int32))])) _
    exact k
  obtain ⟨T10, h10, kb, X10, e10, Eb, Ab, st10⟩ := newP X8 hx hZ (hw _ (List.mem_of_getElem? (i := 5) rfl)) e8 (g := (mkF m 25 #[.val (.int p1), .val (.int p2), .val (.int p3), .val (.int p4), .val (.int p5), .val (.int c0), .val (.int c1), .val (.int c2), .val (.int c3), .unset, .unset, .unset, .unset, .unset, .unset] [(.int (4 : Int32))])) rfl (hb hby at_25) rfl (by decide) (cap := 4) (by decide) (by decide) (by decide) (by decide)
  obtain ⟨b, gb⟩ : ∃ z, z = h0.size := ⟨_, rfl⟩
  rw [← gb] at Ab st10
  have V0 : Arv Z h10 b kb .char 4 [.int 0, .int 0, .int 0, .int 0] (.int 0) := (Arv.new Ab (by decide)).pad (pad_rep [] (.int 0) 4)
  have g_b : n0 ≤ b := Nat.le_trans Z0 (Nat.le_of_eq gb.symm)
  have z10 : n0 ≤ h10.size := Nat.le_trans Z0 Eb.1
  have pre11 : ∀ t, Steps p.tables e below (T10.setTop (mkF m 31 #[.val (.int p1), .val (.int p2), .val (.int p3), .val (.int p4), .val (.int p5), .val (.int c0), .val (.int c1), .val (.int c2), .val (.int c3), .unset, .unset, .unset, .unset, .unset, .unset] [(.int c0), (.int (0 : Int32)), (.ref b), (.ref b)])) t → Steps p.tables e below (s₁.setTop (entryFrame m #[(.int p1), (.int p2), (.int p3), (.int p4), (.int p5)] maxLocals)) t := by
    intro t k
    refine pre9 t ?_
    refine st10 _ ?_
    show Steps p.tables e below (T10.setTop (mkF m 27 #[.val (.int p1), .val (.int p2), .val (.int p3), .val (.int p4), .val (.int p5), .val (.int c0), .val (.int c1), .val (.int c2), .val (.int c3), .unset, .unset, .unset, .unset, .unset, .unset] [(.ref b)])) _
    refine XS.dup X10.here hx rfl (hb hby at_27) rfl rfl ?_
    show Steps p.tables e below (T10.setTop (mkF m 28 #[.val (.int p1), .val (.int p2), .val (.int p3), .val (.int p4), .val (.int p5), .val (.int c0), .val (.int c1), .val (.int c2), .val (.int c3), .unset, .unset, .unset, .unset, .unset, .unset] [(.ref b), (.ref b)])) _
    refine XS.iconst X10.here hx rfl (hb hby at_28) ?_
    show Steps p.tables e below (T10.setTop (mkF m 29 #[.val (.int p1), .val (.int p2), .val (.int p3), .val (.int p4), .val (.int p5), .val (.int c0), .val (.int c1), .val (.int c2), .val (.int c3), .unset, .unset, .unset, .unset, .unset, .unset] [(.int (0 : Int32)), (.ref b), (.ref b)])) _
    refine XS.iload X10.here hx rfl (hb hby at_29) rfl ?_
    show Steps p.tables e below (T10.setTop (mkF m 31 #[.val (.int p1), .val (.int p2), .val (.int p3), .val (.int p4), .val (.int p5), .val (.int c0), .val (.int c1), .val (.int c2), .val (.int c3), .unset, .unset, .unset, .unset, .unset, .unset] [(.int c0), (.int (0 : Int32)), (.ref b), (.ref b)])) _
    exact k
  obtain ⟨cl0, Ar0, qq0, S0, M0, H0, G0⟩ := V0
  have hin0 : ¬ ((0 : Int32) < 0 ∨ cl0.slots.size ≤ ((0 : Int32)).toNatClampNeg) := inb_of S0 ⟨by decide, by decide⟩
  obtain ⟨T12, h12, X12, e12, W12, st12⟩ := stC X10 hx hZ e10 Ar0 (j := (0 : Int32)) hin0 (g := (mkF m 31 #[.val (.int p1), .val (.int p2), .val (.int p3), .val (.int p4), .val (.int p5), .val (.int c0), .val (.int c1), .val (.int c2), .val (.int c3), .unset, .unset, .unset, .unset, .unset, .unset] [(.int c0), (.int (0 : Int32)), (.ref b), (.ref b)])) rfl rfl (hb hby at_31)
  have U0 := Arv.set Ar0 qq0 S0 M0 H0 G0 (fits_nar_char _) W12 0 rfl (Nat.le_of_ble_eq_true rfl)
  rw [own_nar c0l c0h] at U0
  have V1 : Arv Z h12 b kb .char 4 [.int c0, .int 0, .int 0, .int 0] (.int 0) := U0
  have N12 := Fr.snoc X12 N8 g_b
  have z12 : n0 ≤ h12.size := Nat.le_trans z10 (Keep.of_wr W12).1
  have pre13 : ∀ t, Steps p.tables e below (T12.setTop (mkF m 36 #[.val (.int p1), .val (.int p2), .val (.int p3), .val (.int p4), .val (.int p5), .val (.int c0), .val (.int c1), .val (.int c2), .val (.int c3), .unset, .unset, .unset, .unset, .unset, .unset] [(.int c1), (.int (1 : Int32)), (.ref b), (.ref b)])) t → Steps p.tables e below (s₁.setTop (entryFrame m #[(.int p1), (.int p2), (.int p3), (.int p4), (.int p5)] maxLocals)) t := by
    intro t k
    refine pre11 t ?_
    refine st12 _ ?_
    show Steps p.tables e below (T12.setTop (mkF m 32 #[.val (.int p1), .val (.int p2), .val (.int p3), .val (.int p4), .val (.int p5), .val (.int c0), .val (.int c1), .val (.int c2), .val (.int c3), .unset, .unset, .unset, .unset, .unset, .unset] [(.ref b)])) _
    refine XS.dup X12.here hx rfl (hb hby at_32) rfl rfl ?_
    show Steps p.tables e below (T12.setTop (mkF m 33 #[.val (.int p1), .val (.int p2), .val (.int p3), .val (.int p4), .val (.int p5), .val (.int c0), .val (.int c1), .val (.int c2), .val (.int c3), .unset, .unset, .unset, .unset, .unset, .unset] [(.ref b), (.ref b)])) _
    refine XS.iconst X12.here hx rfl (hb hby at_33) ?_
    show Steps p.tables e below (T12.setTop (mkF m 34 #[.val (.int p1), .val (.int p2), .val (.int p3), .val (.int p4), .val (.int p5), .val (.int c0), .val (.int c1), .val (.int c2), .val (.int c3), .unset, .unset, .unset, .unset, .unset, .unset] [(.int (1 : Int32)), (.ref b), (.ref b)])) _
    refine XS.iload X12.here hx rfl (hb hby at_34) rfl ?_
    show Steps p.tables e below (T12.setTop (mkF m 36 #[.val (.int p1), .val (.int p2), .val (.int p3), .val (.int p4), .val (.int p5), .val (.int c0), .val (.int c1), .val (.int c2), .val (.int c3), .unset, .unset, .unset, .unset, .unset, .unset] [(.int c1), (.int (1 : Int32)), (.ref b), (.ref b)])) _
    exact k
  obtain ⟨cl1, Ar1, qq1, S1, M1, H1, G1⟩ := V1
  have hin1 : ¬ ((1 : Int32) < 0 ∨ cl1.slots.size ≤ ((1 : Int32)).toNatClampNeg) := inb_of S1 ⟨by decide, by decide⟩
  obtain ⟨T14, h14, X14, e14, W14, st14⟩ := stC X12 hx hZ e12 Ar1 (j := (1 : Int32)) hin1 (g := (mkF m 36 #[.val (.int p1), .val (.int p2), .val (.int p3), .val (.int p4), .val (.int p5), .val (.int c0), .val (.int c1), .val (.int c2), .val (.int c3), .unset, .unset, .unset, .unset, .unset, .unset] [(.int c1), (.int (1 : Int32)), (.ref b), (.ref b)])) rfl rfl (hb hby at_36)
  have U1 := Arv.set Ar1 qq1 S1 M1 H1 G1 (fits_nar_char _) W14 1 rfl (Nat.le_of_ble_eq_true rfl)
  rw [own_nar c1l c1h] at U1
  have V2 : Arv Z h14 b kb .char 4 [.int c0, .int c1, .int 0, .int 0] (.int 0) := U1
  have N14 := Fr.snoc X14 N12 g_b
  have z14 : n0 ≤ h14.size := Nat.le_trans z12 (Keep.of_wr W14).1
  have pre15 : ∀ t, Steps p.tables e below (T14.setTop (mkF m 41 #[.val (.int p1), .val (.int p2), .val (.int p3), .val (.int p4), .val (.int p5), .val (.int c0), .val (.int c1), .val (.int c2), .val (.int c3), .unset, .unset, .unset, .unset, .unset, .unset] [(.int c2), (.int (2 : Int32)), (.ref b), (.ref b)])) t → Steps p.tables e below (s₁.setTop (entryFrame m #[(.int p1), (.int p2), (.int p3), (.int p4), (.int p5)] maxLocals)) t := by
    intro t k
    refine pre13 t ?_
    refine st14 _ ?_
    show Steps p.tables e below (T14.setTop (mkF m 37 #[.val (.int p1), .val (.int p2), .val (.int p3), .val (.int p4), .val (.int p5), .val (.int c0), .val (.int c1), .val (.int c2), .val (.int c3), .unset, .unset, .unset, .unset, .unset, .unset] [(.ref b)])) _
    refine XS.dup X14.here hx rfl (hb hby at_37) rfl rfl ?_
    show Steps p.tables e below (T14.setTop (mkF m 38 #[.val (.int p1), .val (.int p2), .val (.int p3), .val (.int p4), .val (.int p5), .val (.int c0), .val (.int c1), .val (.int c2), .val (.int c3), .unset, .unset, .unset, .unset, .unset, .unset] [(.ref b), (.ref b)])) _
    refine XS.iconst X14.here hx rfl (hb hby at_38) ?_
    show Steps p.tables e below (T14.setTop (mkF m 39 #[.val (.int p1), .val (.int p2), .val (.int p3), .val (.int p4), .val (.int p5), .val (.int c0), .val (.int c1), .val (.int c2), .val (.int c3), .unset, .unset, .unset, .unset, .unset, .unset] [(.int (2 : Int32)), (.ref b), (.ref b)])) _
    refine XS.iload X14.here hx rfl (hb hby at_39) rfl ?_
    show Steps p.tables e below (T14.setTop (mkF m 41 #[.val (.int p1), .val (.int p2), .val (.int p3), .val (.int p4), .val (.int p5), .val (.int c0), .val (.int c1), .val (.int c2), .val (.int c3), .unset, .unset, .unset, .unset, .unset, .unset] [(.int c2), (.int (2 : Int32)), (.ref b), (.ref b)])) _
    exact k
  obtain ⟨cl2, Ar2, qq2, S2, M2, H2, G2⟩ := V2
  have hin2 : ¬ ((2 : Int32) < 0 ∨ cl2.slots.size ≤ ((2 : Int32)).toNatClampNeg) := inb_of S2 ⟨by decide, by decide⟩
  obtain ⟨T16, h16, X16, e16, W16, st16⟩ := stC X14 hx hZ e14 Ar2 (j := (2 : Int32)) hin2 (g := (mkF m 41 #[.val (.int p1), .val (.int p2), .val (.int p3), .val (.int p4), .val (.int p5), .val (.int c0), .val (.int c1), .val (.int c2), .val (.int c3), .unset, .unset, .unset, .unset, .unset, .unset] [(.int c2), (.int (2 : Int32)), (.ref b), (.ref b)])) rfl rfl (hb hby at_41)
  have U2 := Arv.set Ar2 qq2 S2 M2 H2 G2 (fits_nar_char _) W16 2 rfl (Nat.le_of_ble_eq_true rfl)
  rw [own_nar c2l c2h] at U2
  have V3 : Arv Z h16 b kb .char 4 [.int c0, .int c1, .int c2, .int 0] (.int 0) := U2
  have N16 := Fr.snoc X16 N14 g_b
  have z16 : n0 ≤ h16.size := Nat.le_trans z14 (Keep.of_wr W16).1
  have pre17 : ∀ t, Steps p.tables e below (T16.setTop (mkF m 46 #[.val (.int p1), .val (.int p2), .val (.int p3), .val (.int p4), .val (.int p5), .val (.int c0), .val (.int c1), .val (.int c2), .val (.int c3), .unset, .unset, .unset, .unset, .unset, .unset] [(.int c3), (.int (3 : Int32)), (.ref b), (.ref b)])) t → Steps p.tables e below (s₁.setTop (entryFrame m #[(.int p1), (.int p2), (.int p3), (.int p4), (.int p5)] maxLocals)) t := by
    intro t k
    refine pre15 t ?_
    refine st16 _ ?_
    show Steps p.tables e below (T16.setTop (mkF m 42 #[.val (.int p1), .val (.int p2), .val (.int p3), .val (.int p4), .val (.int p5), .val (.int c0), .val (.int c1), .val (.int c2), .val (.int c3), .unset, .unset, .unset, .unset, .unset, .unset] [(.ref b)])) _
    refine XS.dup X16.here hx rfl (hb hby at_42) rfl rfl ?_
    show Steps p.tables e below (T16.setTop (mkF m 43 #[.val (.int p1), .val (.int p2), .val (.int p3), .val (.int p4), .val (.int p5), .val (.int c0), .val (.int c1), .val (.int c2), .val (.int c3), .unset, .unset, .unset, .unset, .unset, .unset] [(.ref b), (.ref b)])) _
    refine XS.iconst X16.here hx rfl (hb hby at_43) ?_
    show Steps p.tables e below (T16.setTop (mkF m 44 #[.val (.int p1), .val (.int p2), .val (.int p3), .val (.int p4), .val (.int p5), .val (.int c0), .val (.int c1), .val (.int c2), .val (.int c3), .unset, .unset, .unset, .unset, .unset, .unset] [(.int (3 : Int32)), (.ref b), (.ref b)])) _
    refine XS.iload X16.here hx rfl (hb hby at_44) rfl ?_
    show Steps p.tables e below (T16.setTop (mkF m 46 #[.val (.int p1), .val (.int p2), .val (.int p3), .val (.int p4), .val (.int p5), .val (.int c0), .val (.int c1), .val (.int c2), .val (.int c3), .unset, .unset, .unset, .unset, .unset, .unset] [(.int c3), (.int (3 : Int32)), (.ref b), (.ref b)])) _
    exact k
  obtain ⟨cl3, Ar3, qq3, S3, M3, H3, G3⟩ := V3
  have hin3 : ¬ ((3 : Int32) < 0 ∨ cl3.slots.size ≤ ((3 : Int32)).toNatClampNeg) := inb_of S3 ⟨by decide, by decide⟩
  obtain ⟨T18, h18, X18, e18, W18, st18⟩ := stC X16 hx hZ e16 Ar3 (j := (3 : Int32)) hin3 (g := (mkF m 46 #[.val (.int p1), .val (.int p2), .val (.int p3), .val (.int p4), .val (.int p5), .val (.int c0), .val (.int c1), .val (.int c2), .val (.int c3), .unset, .unset, .unset, .unset, .unset, .unset] [(.int c3), (.int (3 : Int32)), (.ref b), (.ref b)])) rfl rfl (hb hby at_46)
  have U3 := Arv.set Ar3 qq3 S3 M3 H3 G3 (fits_nar_char _) W18 3 rfl (Nat.le_of_ble_eq_true rfl)
  rw [own_nar c3l c3h] at U3
  have V4 : Arv Z h18 b kb .char 4 [.int c0, .int c1, .int c2, .int c3] (.int 0) := U3
  have N18 := Fr.snoc X18 N16 g_b
  have z18 : n0 ≤ h18.size := Nat.le_trans z16 (Keep.of_wr W18).1
  obtain ⟨na, hna5, hS⟩ := own_startB (p5 &&& (2147483647 : Int32)) (c_and p5 2147483647 (by decide)).1
  have pre19 : ∀ t, Steps p.tables e below (T18.setTop (mkF m 58 #[.val (.int p1), .val (.int p2), .val (.int p3), .val (.int p4), .val (.int p5), .val (.int c0), .val (.int c1), .val (.int c2), .val (.int c3), .val (.ref b), .val (.int (Int32.ofNat na)), .unset, .unset, .unset, .unset] [])) t → Steps p.tables e below (s₁.setTop (entryFrame m #[(.int p1), (.int p2), (.int p3), (.int p4), (.int p5)] maxLocals)) t := by
    intro t k
    refine pre17 t ?_
    refine st18 _ ?_
    show Steps p.tables e below (T18.setTop (mkF m 47 #[.val (.int p1), .val (.int p2), .val (.int p3), .val (.int p4), .val (.int p5), .val (.int c0), .val (.int c1), .val (.int c2), .val (.int c3), .unset, .unset, .unset, .unset, .unset, .unset] [(.ref b)])) _
    refine XS.astore X18.here hx rfl (hb hby at_47) rfl rfl (l' := #[.val (.int p1), .val (.int p2), .val (.int p3), .val (.int p4), .val (.int p5), .val (.int c0), .val (.int c1), .val (.int c2), .val (.int c3), .val (.ref b), .unset, .unset, .unset, .unset, .unset]) rfl ?_
    show Steps p.tables e below (T18.setTop (mkF m 49 #[.val (.int p1), .val (.int p2), .val (.int p3), .val (.int p4), .val (.int p5), .val (.int c0), .val (.int c1), .val (.int c2), .val (.int c3), .val (.ref b), .unset, .unset, .unset, .unset, .unset] [])) _
    refine XS.iload X18.here hx rfl (hb hby at_49) rfl ?_
    show Steps p.tables e below (T18.setTop (mkF m 51 #[.val (.int p1), .val (.int p2), .val (.int p3), .val (.int p4), .val (.int p5), .val (.int c0), .val (.int c1), .val (.int c2), .val (.int c3), .val (.ref b), .unset, .unset, .unset, .unset, .unset] [(.int p5)])) _
    refine X18.ldcInt hx hown (mvT hZ (hw _ (List.mem_of_getElem? (i := 6) rfl))) (g := (mkF m 51 #[.val (.int p1), .val (.int p2), .val (.int p3), .val (.int p4), .val (.int p5), .val (.int c0), .val (.int c1), .val (.int c2), .val (.int c3), .val (.ref b), .unset, .unset, .unset, .unset, .unset] [(.int p5)])) rfl (hb hby at_51) _ ?_
    show Steps p.tables e below (T18.setTop (mkF m 53 #[.val (.int p1), .val (.int p2), .val (.int p3), .val (.int p4), .val (.int p5), .val (.int c0), .val (.int c1), .val (.int c2), .val (.int c3), .val (.ref b), .unset, .unset, .unset, .unset, .unset] [(.int (2147483647 : Int32)), (.int p5)])) _
    refine XS.iand X18.here hx rfl (hb hby at_53) rfl ?_
    show Steps p.tables e below (T18.setTop (mkF m 54 #[.val (.int p1), .val (.int p2), .val (.int p3), .val (.int p4), .val (.int p5), .val (.int c0), .val (.int c1), .val (.int c2), .val (.int c3), .val (.ref b), .unset, .unset, .unset, .unset, .unset] [(.int (p5 &&& (2147483647 : Int32)))])) _
    refine XS.iconst X18.here hx rfl (hb hby at_54) ?_
    show Steps p.tables e below (T18.setTop (mkF m 55 #[.val (.int p1), .val (.int p2), .val (.int p3), .val (.int p4), .val (.int p5), .val (.int c0), .val (.int c1), .val (.int c2), .val (.int c3), .val (.ref b), .unset, .unset, .unset, .unset, .unset] [(.int (5 : Int32)), (.int (p5 &&& (2147483647 : Int32)))])) _
    refine iremM (g := (mkF m 55 #[.val (.int p1), .val (.int p2), .val (.int p3), .val (.int p4), .val (.int p5), .val (.int c0), .val (.int c1), .val (.int c2), .val (.int c3), .val (.ref b), .unset, .unset, .unset, .unset, .unset] [(.int (5 : Int32)), (.int (p5 &&& (2147483647 : Int32)))])) X18 hx rfl (hb hby at_55) rfl (by decide) ?_
    show Steps p.tables e below (T18.setTop (mkF m 56 #[.val (.int p1), .val (.int p2), .val (.int p3), .val (.int p4), .val (.int p5), .val (.int c0), .val (.int c1), .val (.int c2), .val (.int c3), .val (.ref b), .unset, .unset, .unset, .unset, .unset] [(.int ((p5 &&& (2147483647 : Int32)) % (5 : Int32)))])) _
    refine XS.istore X18.here hx rfl (hb hby at_56) rfl (l' := #[.val (.int p1), .val (.int p2), .val (.int p3), .val (.int p4), .val (.int p5), .val (.int c0), .val (.int c1), .val (.int c2), .val (.int c3), .val (.ref b), .val (.int ((p5 &&& (2147483647 : Int32)) % (5 : Int32))), .unset, .unset, .unset, .unset]) rfl ?_
    show Steps p.tables e below (T18.setTop (mkF m 58 #[.val (.int p1), .val (.int p2), .val (.int p3), .val (.int p4), .val (.int p5), .val (.int c0), .val (.int c1), .val (.int c2), .val (.int c3), .val (.ref b), .val (.int ((p5 &&& (2147483647 : Int32)) % (5 : Int32))), .unset, .unset, .unset, .unset] [])) _
    rw [hS]
    show Steps p.tables e below (T18.setTop (mkF m 58 #[.val (.int p1), .val (.int p2), .val (.int p3), .val (.int p4), .val (.int p5), .val (.int c0), .val (.int c1), .val (.int c2), .val (.int c3), .val (.ref b), .val (.int (Int32.ofNat na)), .unset, .unset, .unset, .unset] [])) _
    exact k
  obtain ⟨nb, hab, hb4, hN⟩ := own_end (y := (((p5.toUInt32 >>> ((8 : Int32) &&& 31).toUInt32).toInt32) &&& (2147483647 : Int32))) (c_and ((p5.toUInt32 >>> ((8 : Int32) &&& 31).toUInt32).toInt32) 2147483647 (by decide)).1 hna5
  have pre20 : ∀ t, Steps p.tables e below (T18.setTop (mkF m 76 #[.val (.int p1), .val (.int p2), .val (.int p3), .val (.int p4), .val (.int p5), .val (.int c0), .val (.int c1), .val (.int c2), .val (.int c3), .val (.ref b), .val (.int (Int32.ofNat na)), .val (.int (Int32.ofNat nb)), .unset, .unset, .unset] [])) t → Steps p.tables e below (s₁.setTop (entryFrame m #[(.int p1), (.int p2), (.int p3), (.int p4), (.int p5)] maxLocals)) t := by
    intro t k
    refine pre19 t ?_
    refine XS.iload X18.here hx rfl (hb hby at_58) rfl ?_
    show Steps p.tables e below (T18.setTop (mkF m 60 #[.val (.int p1), .val (.int p2), .val (.int p3), .val (.int p4), .val (.int p5), .val (.int c0), .val (.int c1), .val (.int c2), .val (.int c3), .val (.ref b), .val (.int (Int32.ofNat na)), .unset, .unset, .unset, .unset] [(.int (Int32.ofNat na))])) _
    refine XS.iload X18.here hx rfl (hb hby at_60) rfl ?_
    show Steps p.tables e below (T18.setTop (mkF m 62 #[.val (.int p1), .val (.int p2), .val (.int p3), .val (.int p4), .val (.int p5), .val (.int c0), .val (.int c1), .val (.int c2), .val (.int c3), .val (.ref b), .val (.int (Int32.ofNat na)), .unset, .unset, .unset, .unset] [(.int p5), (.int (Int32.ofNat na))])) _
    refine XS.bipush X18.here hx rfl (hb hby at_62) ?_
    show Steps p.tables e below (T18.setTop (mkF m 64 #[.val (.int p1), .val (.int p2), .val (.int p3), .val (.int p4), .val (.int p5), .val (.int c0), .val (.int c1), .val (.int c2), .val (.int c3), .val (.ref b), .val (.int (Int32.ofNat na)), .unset, .unset, .unset, .unset] [(.int (8 : Int32)), (.int p5), (.int (Int32.ofNat na))])) _
    refine XS.iushr X18.here hx rfl (hb hby at_64) rfl ?_
    show Steps p.tables e below (T18.setTop (mkF m 65 #[.val (.int p1), .val (.int p2), .val (.int p3), .val (.int p4), .val (.int p5), .val (.int c0), .val (.int c1), .val (.int c2), .val (.int c3), .val (.ref b), .val (.int (Int32.ofNat na)), .unset, .unset, .unset, .unset] [(.int ((p5.toUInt32 >>> ((8 : Int32) &&& 31).toUInt32).toInt32)), (.int (Int32.ofNat na))])) _
    refine X18.ldcInt hx hown (mvT hZ (hw _ (List.mem_of_getElem? (i := 6) rfl))) (g := (mkF m 65 #[.val (.int p1), .val (.int p2), .val (.int p3), .val (.int p4), .val (.int p5), .val (.int c0), .val (.int c1), .val (.int c2), .val (.int c3), .val (.ref b), .val (.int (Int32.ofNat na)), .unset, .unset, .unset, .unset] [(.int ((p5.toUInt32 >>> ((8 : Int32) &&& 31).toUInt32).toInt32)), (.int (Int32.ofNat na))])) rfl (hb hby at_65) _ ?_
    show Steps p.tables e below (T18.setTop (mkF m 67 #[.val (.int p1), .val (.int p2), .val (.int p3), .val (.int p4), .val (.int p5), .val (.int c0), .val (.int c1), .val (.int c2), .val (.int c3), .val (.ref b), .val (.int (Int32.ofNat na)), .unset, .unset, .unset, .unset] [(.int (2147483647 : Int32)), (.int ((p5.toUInt32 >>> ((8 : Int32) &&& 31).toUInt32).toInt32)), (.int (Int32.ofNat na))])) _
    refine XS.iand X18.here hx rfl (hb hby at_67) rfl ?_
    show Steps p.tables e below (T18.setTop (mkF m 68 #[.val (.int p1), .val (.int p2), .val (.int p3), .val (.int p4), .val (.int p5), .val (.int c0), .val (.int c1), .val (.int c2), .val (.int c3), .val (.ref b), .val (.int (Int32.ofNat na)), .unset, .unset, .unset, .unset] [(.int (((p5.toUInt32 >>> ((8 : Int32) &&& 31).toUInt32).toInt32) &&& (2147483647 : Int32))), (.int (Int32.ofNat na))])) _
    refine XS.iconst X18.here hx rfl (hb hby at_68) ?_
    show Steps p.tables e below (T18.setTop (mkF m 69 #[.val (.int p1), .val (.int p2), .val (.int p3), .val (.int p4), .val (.int p5), .val (.int c0), .val (.int c1), .val (.int c2), .val (.int c3), .val (.ref b), .val (.int (Int32.ofNat na)), .unset, .unset, .unset, .unset] [(.int (5 : Int32)), (.int (((p5.toUInt32 >>> ((8 : Int32) &&& 31).toUInt32).toInt32) &&& (2147483647 : Int32))), (.int (Int32.ofNat na))])) _
    refine XS.iload X18.here hx rfl (hb hby at_69) rfl ?_
    show Steps p.tables e below (T18.setTop (mkF m 71 #[.val (.int p1), .val (.int p2), .val (.int p3), .val (.int p4), .val (.int p5), .val (.int c0), .val (.int c1), .val (.int c2), .val (.int c3), .val (.ref b), .val (.int (Int32.ofNat na)), .unset, .unset, .unset, .unset] [(.int (Int32.ofNat na)), (.int (5 : Int32)), (.int (((p5.toUInt32 >>> ((8 : Int32) &&& 31).toUInt32).toInt32) &&& (2147483647 : Int32))), (.int (Int32.ofNat na))])) _
    refine XS.isub X18.here hx rfl (hb hby at_71) rfl ?_
    show Steps p.tables e below (T18.setTop (mkF m 72 #[.val (.int p1), .val (.int p2), .val (.int p3), .val (.int p4), .val (.int p5), .val (.int c0), .val (.int c1), .val (.int c2), .val (.int c3), .val (.ref b), .val (.int (Int32.ofNat na)), .unset, .unset, .unset, .unset] [(.int ((5 : Int32) - (Int32.ofNat na))), (.int (((p5.toUInt32 >>> ((8 : Int32) &&& 31).toUInt32).toInt32) &&& (2147483647 : Int32))), (.int (Int32.ofNat na))])) _
    refine iremM (g := (mkF m 72 #[.val (.int p1), .val (.int p2), .val (.int p3), .val (.int p4), .val (.int p5), .val (.int c0), .val (.int c1), .val (.int c2), .val (.int c3), .val (.ref b), .val (.int (Int32.ofNat na)), .unset, .unset, .unset, .unset] [(.int ((5 : Int32) - (Int32.ofNat na))), (.int (((p5.toUInt32 >>> ((8 : Int32) &&& 31).toUInt32).toInt32) &&& (2147483647 : Int32))), (.int (Int32.ofNat na))])) X18 hx rfl (hb hby at_72) rfl (own_nz hna5) ?_
    show Steps p.tables e below (T18.setTop (mkF m 73 #[.val (.int p1), .val (.int p2), .val (.int p3), .val (.int p4), .val (.int p5), .val (.int c0), .val (.int c1), .val (.int c2), .val (.int c3), .val (.ref b), .val (.int (Int32.ofNat na)), .unset, .unset, .unset, .unset] [(.int ((((p5.toUInt32 >>> ((8 : Int32) &&& 31).toUInt32).toInt32) &&& (2147483647 : Int32)) % ((5 : Int32) - (Int32.ofNat na)))), (.int (Int32.ofNat na))])) _
    refine XS.iadd X18.here hx rfl (hb hby at_73) rfl ?_
    show Steps p.tables e below (T18.setTop (mkF m 74 #[.val (.int p1), .val (.int p2), .val (.int p3), .val (.int p4), .val (.int p5), .val (.int c0), .val (.int c1), .val (.int c2), .val (.int c3), .val (.ref b), .val (.int (Int32.ofNat na)), .unset, .unset, .unset, .unset] [(.int ((Int32.ofNat na) + ((((p5.toUInt32 >>> ((8 : Int32) &&& 31).toUInt32).toInt32) &&& (2147483647 : Int32)) % ((5 : Int32) - (Int32.ofNat na)))))])) _
    refine XS.istore X18.here hx rfl (hb hby at_74) rfl (l' := #[.val (.int p1), .val (.int p2), .val (.int p3), .val (.int p4), .val (.int p5), .val (.int c0), .val (.int c1), .val (.int c2), .val (.int c3), .val (.ref b), .val (.int (Int32.ofNat na)), .val (.int ((Int32.ofNat na) + ((((p5.toUInt32 >>> ((8 : Int32) &&& 31).toUInt32).toInt32) &&& (2147483647 : Int32)) % ((5 : Int32) - (Int32.ofNat na))))), .unset, .unset, .unset]) rfl ?_
    show Steps p.tables e below (T18.setTop (mkF m 76 #[.val (.int p1), .val (.int p2), .val (.int p3), .val (.int p4), .val (.int p5), .val (.int c0), .val (.int c1), .val (.int c2), .val (.int c3), .val (.ref b), .val (.int (Int32.ofNat na)), .val (.int ((Int32.ofNat na) + ((((p5.toUInt32 >>> ((8 : Int32) &&& 31).toUInt32).toInt32) &&& (2147483647 : Int32)) % ((5 : Int32) - (Int32.ofNat na))))), .unset, .unset, .unset] [])) _
    rw [hN]
    show Steps p.tables e below (T18.setTop (mkF m 76 #[.val (.int p1), .val (.int p2), .val (.int p3), .val (.int p4), .val (.int p5), .val (.int c0), .val (.int c1), .val (.int c2), .val (.int c3), .val (.ref b), .val (.int (Int32.ofNat na)), .val (.int (Int32.ofNat nb)), .unset, .unset, .unset] [])) _
    exact k
  have pre21 : ∀ t, Steps p.tables e below (T18.setTop (mkF m 83 #[.val (.int p1), .val (.int p2), .val (.int p3), .val (.int p4), .val (.int p5), .val (.int c0), .val (.int c1), .val (.int c2), .val (.int c3), .val (.ref b), .val (.int (Int32.ofNat na)), .val (.int (Int32.ofNat nb)), .unset, .unset, .unset] [(.int (Int32.ofNat nb)), (.int (Int32.ofNat na)), (.int c0), (.int (0 : Int32))])) t → Steps p.tables e below (s₁.setTop (entryFrame m #[(.int p1), (.int p2), (.int p3), (.int p4), (.int p5)] maxLocals)) t := by
    intro t k
    refine pre20 t ?_
    refine XS.iconst X18.here hx rfl (hb hby at_76) ?_
    show Steps p.tables e below (T18.setTop (mkF m 77 #[.val (.int p1), .val (.int p2), .val (.int p3), .val (.int p4), .val (.int p5), .val (.int c0), .val (.int c1), .val (.int c2), .val (.int c3), .val (.ref b), .val (.int (Int32.ofNat na)), .val (.int (Int32.ofNat nb)), .unset, .unset, .unset] [(.int (0 : Int32))])) _
    refine XS.iload X18.here hx rfl (hb hby at_77) rfl ?_
    show Steps p.tables e below (T18.setTop (mkF m 79 #[.val (.int p1), .val (.int p2), .val (.int p3), .val (.int p4), .val (.int p5), .val (.int c0), .val (.int c1), .val (.int c2), .val (.int c3), .val (.ref b), .val (.int (Int32.ofNat na)), .val (.int (Int32.ofNat nb)), .unset, .unset, .unset] [(.int c0), (.int (0 : Int32))])) _
    refine XS.iload X18.here hx rfl (hb hby at_79) rfl ?_
    show Steps p.tables e below (T18.setTop (mkF m 81 #[.val (.int p1), .val (.int p2), .val (.int p3), .val (.int p4), .val (.int p5), .val (.int c0), .val (.int c1), .val (.int c2), .val (.int c3), .val (.ref b), .val (.int (Int32.ofNat na)), .val (.int (Int32.ofNat nb)), .unset, .unset, .unset] [(.int (Int32.ofNat na)), (.int c0), (.int (0 : Int32))])) _
    refine XS.iload X18.here hx rfl (hb hby at_81) rfl ?_
    show Steps p.tables e below (T18.setTop (mkF m 83 #[.val (.int p1), .val (.int p2), .val (.int p3), .val (.int p4), .val (.int p5), .val (.int c0), .val (.int c1), .val (.int c2), .val (.int c3), .val (.ref b), .val (.int (Int32.ofNat na)), .val (.int (Int32.ofNat nb)), .unset, .unset, .unset] [(.int (Int32.ofNat nb)), (.int (Int32.ofNat na)), (.int c0), (.int (0 : Int32))])) _
    exact k
  obtain ⟨_, _, ⟨T22, L22, k22, n22⟩, -, X22, ⟨Lc22, hQ22, l22, y22, z22⟩, st22⟩ := Jvm.LawKit.callS X18 hx (y := (⟨"com/example/bondsmith/bondsmith/MonthDaysDigitsPinLaw", "bad", "(ICII)Z"⟩ : MethodName)) hown (mvT hZ (hw _ (List.mem_of_getElem? (i := 7) rfl))) (mvT hZ (hw _ (List.mem_of_getElem? (i := 8) rfl))) (mvT hZ (hw _ (List.mem_of_getElem? (i := 2) rfl))) (mvT hZ (hw _ (List.mem_of_getElem? (i := 9) rfl))) (by decide) (backOf (W := 0) (rm2 l Z a0 hw [] (0 : Int32) c0 (Int32.ofNat na) (Int32.ofNat nb) h18 n0 z18) hZ (hw _ (List.mem_of_getElem? (i := 9) rfl)) (hw _ (List.mem_of_getElem? (i := 2) rfl)) (by decide) (by decide)) (g := (mkF m 83 #[.val (.int p1), .val (.int p2), .val (.int p3), .val (.int p4), .val (.int p5), .val (.int c0), .val (.int c1), .val (.int c2), .val (.int c3), .val (.ref b), .val (.int (Int32.ofNat na)), .val (.int (Int32.ofNat nb)), .unset, .unset, .unset] [(.int (Int32.ofNat nb)), (.int (Int32.ofNat na)), (.int c0), (.int (0 : Int32))])) rfl (by rw [hml]; rfl) (argsL := [(.int (0 : Int32)), (.int c0), (.int (Int32.ofNat na)), (.int (Int32.ofNat nb))]) (rest := []) (lenOf pd_b rfl) rfl (by show 2 * 0 + _ ≤ _; exact Nat.le_of_eq rfl) (hb hby at_83) (fun _ _ => ⟨rfl, e18, (by decide : 1 + 0 ≤ _), (by decide : 4 + 0 ≤ _)⟩)
  dsimp only [Pt.U, Pt.locs, Pt.cells, Pt.slots] at X22 l22 y22 z22 st22 hQ22
  subst l22 y22 z22
  obtain ⟨rfl, N22q, e22⟩ := hQ22
  have N22 := Fr.app N18 N22q
  have pre23 : ∀ t, Steps p.tables e below (T22.setTop (mkF m 86 #[.val (.int p1), .val (.int p2), .val (.int p3), .val (.int p4), .val (.int p5), .val (.int c0), .val (.int c1), .val (.int c2), .val (.int c3), .val (.ref b), .val (.int (Int32.ofNat na)), .val (.int (Int32.ofNat nb)), .unset, .unset, .unset] [(.int (own_bad (0 : Int32) c0 (Int32.ofNat na) (Int32.ofNat nb)))])) t → Steps p.tables e below (s₁.setTop (entryFrame m #[(.int p1), (.int p2), (.int p3), (.int p4), (.int p5)] maxLocals)) t := by
    intro t k
    refine pre21 t ?_
    refine st22 _ ?_
    show Steps p.tables e below (T22.setTop (mkF m 86 #[.val (.int p1), .val (.int p2), .val (.int p3), .val (.int p4), .val (.int p5), .val (.int c0), .val (.int c1), .val (.int c2), .val (.int c3), .val (.ref b), .val (.int (Int32.ofNat na)), .val (.int (Int32.ofNat nb)), .unset, .unset, .unset] [(.int (own_bad (0 : Int32) c0 (Int32.ofNat na) (Int32.ofNat nb)))])) _
    exact k
  by_cases hb0 : (own_bad (0 : Int32) c0 (Int32.ofNat na) (Int32.ofNat nb)) = (0 : Int32)
  · have pre24 : ∀ t, Steps p.tables e below (T22.setTop (mkF m 96 #[.val (.int p1), .val (.int p2), .val (.int p3), .val (.int p4), .val (.int p5), .val (.int c0), .val (.int c1), .val (.int c2), .val (.int c3), .val (.ref b), .val (.int (Int32.ofNat na)), .val (.int (Int32.ofNat nb)), .unset, .unset, .unset] [(.int (Int32.ofNat nb)), (.int (Int32.ofNat na)), (.int c1), (.int (1 : Int32))])) t → Steps p.tables e below (s₁.setTop (entryFrame m #[(.int p1), (.int p2), (.int p3), (.int p4), (.int p5)] maxLocals)) t := by
      intro t k
      refine pre23 t ?_
      refine XS.ifNo X22.here hx rfl (hb hby at_86) rfl ((if0 _ _).trans (teq hb0).2) ?_
      show Steps p.tables e below (T22.setTop (mkF m 89 #[.val (.int p1), .val (.int p2), .val (.int p3), .val (.int p4), .val (.int p5), .val (.int c0), .val (.int c1), .val (.int c2), .val (.int c3), .val (.ref b), .val (.int (Int32.ofNat na)), .val (.int (Int32.ofNat nb)), .unset, .unset, .unset] [])) _
      refine XS.iconst X22.here hx rfl (hb hby at_89) ?_
      show Steps p.tables e below (T22.setTop (mkF m 90 #[.val (.int p1), .val (.int p2), .val (.int p3), .val (.int p4), .val (.int p5), .val (.int c0), .val (.int c1), .val (.int c2), .val (.int c3), .val (.ref b), .val (.int (Int32.ofNat na)), .val (.int (Int32.ofNat nb)), .unset, .unset, .unset] [(.int (1 : Int32))])) _
      refine XS.iload X22.here hx rfl (hb hby at_90) rfl ?_
      show Steps p.tables e below (T22.setTop (mkF m 92 #[.val (.int p1), .val (.int p2), .val (.int p3), .val (.int p4), .val (.int p5), .val (.int c0), .val (.int c1), .val (.int c2), .val (.int c3), .val (.ref b), .val (.int (Int32.ofNat na)), .val (.int (Int32.ofNat nb)), .unset, .unset, .unset] [(.int c1), (.int (1 : Int32))])) _
      refine XS.iload X22.here hx rfl (hb hby at_92) rfl ?_
      show Steps p.tables e below (T22.setTop (mkF m 94 #[.val (.int p1), .val (.int p2), .val (.int p3), .val (.int p4), .val (.int p5), .val (.int c0), .val (.int c1), .val (.int c2), .val (.int c3), .val (.ref b), .val (.int (Int32.ofNat na)), .val (.int (Int32.ofNat nb)), .unset, .unset, .unset] [(.int (Int32.ofNat na)), (.int c1), (.int (1 : Int32))])) _
      refine XS.iload X22.here hx rfl (hb hby at_94) rfl ?_
      show Steps p.tables e below (T22.setTop (mkF m 96 #[.val (.int p1), .val (.int p2), .val (.int p3), .val (.int p4), .val (.int p5), .val (.int c0), .val (.int c1), .val (.int c2), .val (.int c3), .val (.ref b), .val (.int (Int32.ofNat na)), .val (.int (Int32.ofNat nb)), .unset, .unset, .unset] [(.int (Int32.ofNat nb)), (.int (Int32.ofNat na)), (.int c1), (.int (1 : Int32))])) _
      exact k
    obtain ⟨_, _, ⟨T25, L25, k25, n25⟩, -, X25, ⟨Lc25, hQ25, l25, y25, z25⟩, st25⟩ := Jvm.LawKit.callS X22 hx (y := (⟨"com/example/bondsmith/bondsmith/MonthDaysDigitsPinLaw", "bad", "(ICII)Z"⟩ : MethodName)) hown (mvT hZ (hw _ (List.mem_of_getElem? (i := 7) rfl))) (mvT hZ (hw _ (List.mem_of_getElem? (i := 8) rfl))) (mvT hZ (hw _ (List.mem_of_getElem? (i := 2) rfl))) (mvT hZ (hw _ (List.mem_of_getElem? (i := 9) rfl))) (by decide) (backOf (W := 0) (rm2 l Z a0 hw [] (1 : Int32) c1 (Int32.ofNat na) (Int32.ofNat nb) h18 n0 z18) hZ (hw _ (List.mem_of_getElem? (i := 9) rfl)) (hw _ (List.mem_of_getElem? (i := 2) rfl)) (by decide) (by decide)) (g := (mkF m 96 #[.val (.int p1), .val (.int p2), .val (.int p3), .val (.int p4), .val (.int p5), .val (.int c0), .val (.int c1), .val (.int c2), .val (.int c3), .val (.ref b), .val (.int (Int32.ofNat na)), .val (.int (Int32.ofNat nb)), .unset, .unset, .unset] [(.int (Int32.ofNat nb)), (.int (Int32.ofNat na)), (.int c1), (.int (1 : Int32))])) rfl (by rw [hml]; rfl) (argsL := [(.int (1 : Int32)), (.int c1), (.int (Int32.ofNat na)), (.int (Int32.ofNat nb))]) (rest := []) (lenOf pd_b rfl) rfl (by show 2 * 0 + _ ≤ _; exact Nat.le_of_eq rfl) (hb hby at_96) (fun _ _ => ⟨rfl, e22, (by decide : 1 + 0 ≤ _), (by decide : 4 + 0 ≤ _)⟩)
    dsimp only [Pt.U, Pt.locs, Pt.cells, Pt.slots] at X25 l25 y25 z25 st25 hQ25
    subst l25 y25 z25
    obtain ⟨rfl, N25q, e25⟩ := hQ25
    have N25 := Fr.app N22 N25q
    have pre26 : ∀ t, Steps p.tables e below (T25.setTop (mkF m 99 #[.val (.int p1), .val (.int p2), .val (.int p3), .val (.int p4), .val (.int p5), .val (.int c0), .val (.int c1), .val (.int c2), .val (.int c3), .val (.ref b), .val (.int (Int32.ofNat na)), .val (.int (Int32.ofNat nb)), .unset, .unset, .unset] [(.int (own_bad (1 : Int32) c1 (Int32.ofNat na) (Int32.ofNat nb)))])) t → Steps p.tables e below (s₁.setTop (entryFrame m #[(.int p1), (.int p2), (.int p3), (.int p4), (.int p5)] maxLocals)) t := by
      intro t k
      refine pre24 t ?_
      refine st25 _ ?_
      show Steps p.tables e below (T25.setTop (mkF m 99 #[.val (.int p1), .val (.int p2), .val (.int p3), .val (.int p4), .val (.int p5), .val (.int c0), .val (.int c1), .val (.int c2), .val (.int c3), .val (.ref b), .val (.int (Int32.ofNat na)), .val (.int (Int32.ofNat nb)), .unset, .unset, .unset] [(.int (own_bad (1 : Int32) c1 (Int32.ofNat na) (Int32.ofNat nb)))])) _
      exact k
    by_cases hb1 : (own_bad (1 : Int32) c1 (Int32.ofNat na) (Int32.ofNat nb)) = (0 : Int32)
    · have pre27 : ∀ t, Steps p.tables e below (T25.setTop (mkF m 109 #[.val (.int p1), .val (.int p2), .val (.int p3), .val (.int p4), .val (.int p5), .val (.int c0), .val (.int c1), .val (.int c2), .val (.int c3), .val (.ref b), .val (.int (Int32.ofNat na)), .val (.int (Int32.ofNat nb)), .unset, .unset, .unset] [(.int (Int32.ofNat nb)), (.int (Int32.ofNat na)), (.int c2), (.int (2 : Int32))])) t → Steps p.tables e below (s₁.setTop (entryFrame m #[(.int p1), (.int p2), (.int p3), (.int p4), (.int p5)] maxLocals)) t := by
        intro t k
        refine pre26 t ?_
        refine XS.ifNo X25.here hx rfl (hb hby at_99) rfl ((if0 _ _).trans (teq hb1).2) ?_
        show Steps p.tables e below (T25.setTop (mkF m 102 #[.val (.int p1), .val (.int p2), .val (.int p3), .val (.int p4), .val (.int p5), .val (.int c0), .val (.int c1), .val (.int c2), .val (.int c3), .val (.ref b), .val (.int (Int32.ofNat na)), .val (.int (Int32.ofNat nb)), .unset, .unset, .unset] [])) _
        refine XS.iconst X25.here hx rfl (hb hby at_102) ?_
        show Steps p.tables e below (T25.setTop (mkF m 103 #[.val (.int p1), .val (.int p2), .val (.int p3), .val (.int p4), .val (.int p5), .val (.int c0), .val (.int c1), .val (.int c2), .val (.int c3), .val (.ref b), .val (.int (Int32.ofNat na)), .val (.int (Int32.ofNat nb)), .unset, .unset, .unset] [(.int (2 : Int32))])) _
        refine XS.iload X25.here hx rfl (hb hby at_103) rfl ?_
        show Steps p.tables e below (T25.setTop (mkF m 105 #[.val (.int p1), .val (.int p2), .val (.int p3), .val (.int p4), .val (.int p5), .val (.int c0), .val (.int c1), .val (.int c2), .val (.int c3), .val (.ref b), .val (.int (Int32.ofNat na)), .val (.int (Int32.ofNat nb)), .unset, .unset, .unset] [(.int c2), (.int (2 : Int32))])) _
        refine XS.iload X25.here hx rfl (hb hby at_105) rfl ?_
        show Steps p.tables e below (T25.setTop (mkF m 107 #[.val (.int p1), .val (.int p2), .val (.int p3), .val (.int p4), .val (.int p5), .val (.int c0), .val (.int c1), .val (.int c2), .val (.int c3), .val (.ref b), .val (.int (Int32.ofNat na)), .val (.int (Int32.ofNat nb)), .unset, .unset, .unset] [(.int (Int32.ofNat na)), (.int c2), (.int (2 : Int32))])) _
        refine XS.iload X25.here hx rfl (hb hby at_107) rfl ?_
        show Steps p.tables e below (T25.setTop (mkF m 109 #[.val (.int p1), .val (.int p2), .val (.int p3), .val (.int p4), .val (.int p5), .val (.int c0), .val (.int c1), .val (.int c2), .val (.int c3), .val (.ref b), .val (.int (Int32.ofNat na)), .val (.int (Int32.ofNat nb)), .unset, .unset, .unset] [(.int (Int32.ofNat nb)), (.int (Int32.ofNat na)), (.int c2), (.int (2 : Int32))])) _
        exact k
      obtain ⟨_, _, ⟨T28, L28, k28, n28⟩, -, X28, ⟨Lc28, hQ28, l28, y28, z28⟩, st28⟩ := Jvm.LawKit.callS X25 hx (y := (⟨"com/example/bondsmith/bondsmith/MonthDaysDigitsPinLaw", "bad", "(ICII)Z"⟩ : MethodName)) hown (mvT hZ (hw _ (List.mem_of_getElem? (i := 7) rfl))) (mvT hZ (hw _ (List.mem_of_getElem? (i := 8) rfl))) (mvT hZ (hw _ (List.mem_of_getElem? (i := 2) rfl))) (mvT hZ (hw _ (List.mem_of_getElem? (i := 9) rfl))) (by decide) (backOf (W := 0) (rm2 l Z a0 hw [] (2 : Int32) c2 (Int32.ofNat na) (Int32.ofNat nb) h18 n0 z18) hZ (hw _ (List.mem_of_getElem? (i := 9) rfl)) (hw _ (List.mem_of_getElem? (i := 2) rfl)) (by decide) (by decide)) (g := (mkF m 109 #[.val (.int p1), .val (.int p2), .val (.int p3), .val (.int p4), .val (.int p5), .val (.int c0), .val (.int c1), .val (.int c2), .val (.int c3), .val (.ref b), .val (.int (Int32.ofNat na)), .val (.int (Int32.ofNat nb)), .unset, .unset, .unset] [(.int (Int32.ofNat nb)), (.int (Int32.ofNat na)), (.int c2), (.int (2 : Int32))])) rfl (by rw [hml]; rfl) (argsL := [(.int (2 : Int32)), (.int c2), (.int (Int32.ofNat na)), (.int (Int32.ofNat nb))]) (rest := []) (lenOf pd_b rfl) rfl (by show 2 * 0 + _ ≤ _; exact Nat.le_of_eq rfl) (hb hby at_109) (fun _ _ => ⟨rfl, e25, (by decide : 1 + 0 ≤ _), (by decide : 4 + 0 ≤ _)⟩)
      dsimp only [Pt.U, Pt.locs, Pt.cells, Pt.slots] at X28 l28 y28 z28 st28 hQ28
      subst l28 y28 z28
      obtain ⟨rfl, N28q, e28⟩ := hQ28
      have N28 := Fr.app N25 N28q
      have pre29 : ∀ t, Steps p.tables e below (T28.setTop (mkF m 112 #[.val (.int p1), .val (.int p2), .val (.int p3), .val (.int p4), .val (.int p5), .val (.int c0), .val (.int c1), .val (.int c2), .val (.int c3), .val (.ref b), .val (.int (Int32.ofNat na)), .val (.int (Int32.ofNat nb)), .unset, .unset, .unset] [(.int (own_bad (2 : Int32) c2 (Int32.ofNat na) (Int32.ofNat nb)))])) t → Steps p.tables e below (s₁.setTop (entryFrame m #[(.int p1), (.int p2), (.int p3), (.int p4), (.int p5)] maxLocals)) t := by
        intro t k
        refine pre27 t ?_
        refine st28 _ ?_
        show Steps p.tables e below (T28.setTop (mkF m 112 #[.val (.int p1), .val (.int p2), .val (.int p3), .val (.int p4), .val (.int p5), .val (.int c0), .val (.int c1), .val (.int c2), .val (.int c3), .val (.ref b), .val (.int (Int32.ofNat na)), .val (.int (Int32.ofNat nb)), .unset, .unset, .unset] [(.int (own_bad (2 : Int32) c2 (Int32.ofNat na) (Int32.ofNat nb)))])) _
        exact k
      by_cases hb2 : (own_bad (2 : Int32) c2 (Int32.ofNat na) (Int32.ofNat nb)) = (0 : Int32)
      · have pre30 : ∀ t, Steps p.tables e below (T28.setTop (mkF m 122 #[.val (.int p1), .val (.int p2), .val (.int p3), .val (.int p4), .val (.int p5), .val (.int c0), .val (.int c1), .val (.int c2), .val (.int c3), .val (.ref b), .val (.int (Int32.ofNat na)), .val (.int (Int32.ofNat nb)), .unset, .unset, .unset] [(.int (Int32.ofNat nb)), (.int (Int32.ofNat na)), (.int c3), (.int (3 : Int32))])) t → Steps p.tables e below (s₁.setTop (entryFrame m #[(.int p1), (.int p2), (.int p3), (.int p4), (.int p5)] maxLocals)) t := by
          intro t k
          refine pre29 t ?_
          refine XS.ifNo X28.here hx rfl (hb hby at_112) rfl ((if0 _ _).trans (teq hb2).2) ?_
          show Steps p.tables e below (T28.setTop (mkF m 115 #[.val (.int p1), .val (.int p2), .val (.int p3), .val (.int p4), .val (.int p5), .val (.int c0), .val (.int c1), .val (.int c2), .val (.int c3), .val (.ref b), .val (.int (Int32.ofNat na)), .val (.int (Int32.ofNat nb)), .unset, .unset, .unset] [])) _
          refine XS.iconst X28.here hx rfl (hb hby at_115) ?_
          show Steps p.tables e below (T28.setTop (mkF m 116 #[.val (.int p1), .val (.int p2), .val (.int p3), .val (.int p4), .val (.int p5), .val (.int c0), .val (.int c1), .val (.int c2), .val (.int c3), .val (.ref b), .val (.int (Int32.ofNat na)), .val (.int (Int32.ofNat nb)), .unset, .unset, .unset] [(.int (3 : Int32))])) _
          refine XS.iload X28.here hx rfl (hb hby at_116) rfl ?_
          show Steps p.tables e below (T28.setTop (mkF m 118 #[.val (.int p1), .val (.int p2), .val (.int p3), .val (.int p4), .val (.int p5), .val (.int c0), .val (.int c1), .val (.int c2), .val (.int c3), .val (.ref b), .val (.int (Int32.ofNat na)), .val (.int (Int32.ofNat nb)), .unset, .unset, .unset] [(.int c3), (.int (3 : Int32))])) _
          refine XS.iload X28.here hx rfl (hb hby at_118) rfl ?_
          show Steps p.tables e below (T28.setTop (mkF m 120 #[.val (.int p1), .val (.int p2), .val (.int p3), .val (.int p4), .val (.int p5), .val (.int c0), .val (.int c1), .val (.int c2), .val (.int c3), .val (.ref b), .val (.int (Int32.ofNat na)), .val (.int (Int32.ofNat nb)), .unset, .unset, .unset] [(.int (Int32.ofNat na)), (.int c3), (.int (3 : Int32))])) _
          refine XS.iload X28.here hx rfl (hb hby at_120) rfl ?_
          show Steps p.tables e below (T28.setTop (mkF m 122 #[.val (.int p1), .val (.int p2), .val (.int p3), .val (.int p4), .val (.int p5), .val (.int c0), .val (.int c1), .val (.int c2), .val (.int c3), .val (.ref b), .val (.int (Int32.ofNat na)), .val (.int (Int32.ofNat nb)), .unset, .unset, .unset] [(.int (Int32.ofNat nb)), (.int (Int32.ofNat na)), (.int c3), (.int (3 : Int32))])) _
          exact k
        obtain ⟨_, _, ⟨T31, L31, k31, n31⟩, -, X31, ⟨Lc31, hQ31, l31, y31, z31⟩, st31⟩ := Jvm.LawKit.callS X28 hx (y := (⟨"com/example/bondsmith/bondsmith/MonthDaysDigitsPinLaw", "bad", "(ICII)Z"⟩ : MethodName)) hown (mvT hZ (hw _ (List.mem_of_getElem? (i := 7) rfl))) (mvT hZ (hw _ (List.mem_of_getElem? (i := 8) rfl))) (mvT hZ (hw _ (List.mem_of_getElem? (i := 2) rfl))) (mvT hZ (hw _ (List.mem_of_getElem? (i := 9) rfl))) (by decide) (backOf (W := 0) (rm2 l Z a0 hw [] (3 : Int32) c3 (Int32.ofNat na) (Int32.ofNat nb) h18 n0 z18) hZ (hw _ (List.mem_of_getElem? (i := 9) rfl)) (hw _ (List.mem_of_getElem? (i := 2) rfl)) (by decide) (by decide)) (g := (mkF m 122 #[.val (.int p1), .val (.int p2), .val (.int p3), .val (.int p4), .val (.int p5), .val (.int c0), .val (.int c1), .val (.int c2), .val (.int c3), .val (.ref b), .val (.int (Int32.ofNat na)), .val (.int (Int32.ofNat nb)), .unset, .unset, .unset] [(.int (Int32.ofNat nb)), (.int (Int32.ofNat na)), (.int c3), (.int (3 : Int32))])) rfl (by rw [hml]; rfl) (argsL := [(.int (3 : Int32)), (.int c3), (.int (Int32.ofNat na)), (.int (Int32.ofNat nb))]) (rest := []) (lenOf pd_b rfl) rfl (by show 2 * 0 + _ ≤ _; exact Nat.le_of_eq rfl) (hb hby at_122) (fun _ _ => ⟨rfl, e28, (by decide : 1 + 0 ≤ _), (by decide : 4 + 0 ≤ _)⟩)
        dsimp only [Pt.U, Pt.locs, Pt.cells, Pt.slots] at X31 l31 y31 z31 st31 hQ31
        subst l31 y31 z31
        obtain ⟨rfl, N31q, e31⟩ := hQ31
        have N31 := Fr.app N28 N31q
        have pre32 : ∀ t, Steps p.tables e below (T31.setTop (mkF m 125 #[.val (.int p1), .val (.int p2), .val (.int p3), .val (.int p4), .val (.int p5), .val (.int c0), .val (.int c1), .val (.int c2), .val (.int c3), .val (.ref b), .val (.int (Int32.ofNat na)), .val (.int (Int32.ofNat nb)), .unset, .unset, .unset] [(.int (own_bad (3 : Int32) c3 (Int32.ofNat na) (Int32.ofNat nb)))])) t → Steps p.tables e below (s₁.setTop (entryFrame m #[(.int p1), (.int p2), (.int p3), (.int p4), (.int p5)] maxLocals)) t := by
          intro t k
          refine pre30 t ?_
          refine st31 _ ?_
          show Steps p.tables e below (T31.setTop (mkF m 125 #[.val (.int p1), .val (.int p2), .val (.int p3), .val (.int p4), .val (.int p5), .val (.int c0), .val (.int c1), .val (.int c2), .val (.int c3), .val (.ref b), .val (.int (Int32.ofNat na)), .val (.int (Int32.ofNat nb)), .unset, .unset, .unset] [(.int (own_bad (3 : Int32) c3 (Int32.ofNat na) (Int32.ofNat nb)))])) _
          exact k
        by_cases hb3 : (own_bad (3 : Int32) c3 (Int32.ofNat na) (Int32.ofNat nb)) = (0 : Int32)
        · have pre33 : ∀ t, Steps p.tables e below (T31.setTop (mkF m 153 #[.val (.int p1), .val (.int p2), .val (.int p3), .val (.int p4), .val (.int p5), .val (.int c0), .val (.int c1), .val (.int c2), .val (.int c3), .val (.ref b), .val (.int (Int32.ofNat na)), .val (.int (Int32.ofNat nb)), .val (.int (0 : Int32)), .unset, .unset] [(.int (Int32.ofNat nb)), (.int (Int32.ofNat na)), (.int c0), (.int (0 : Int32))])) t → Steps p.tables e below (s₁.setTop (entryFrame m #[(.int p1), (.int p2), (.int p3), (.int p4), (.int p5)] maxLocals)) t := by
            intro t k
            refine pre32 t ?_
            refine XS.ifYes X31.here hx rfl (pc0 := 125) (pc' := 132) rfl (hb hby at_125) rfl ((if0 _ _).trans (teq hb3).1) (by decide) (by decide) ?_
            show Steps p.tables e below (T31.setTop (mkF m 132 #[.val (.int p1), .val (.int p2), .val (.int p3), .val (.int p4), .val (.int p5), .val (.int c0), .val (.int c1), .val (.int c2), .val (.int c3), .val (.ref b), .val (.int (Int32.ofNat na)), .val (.int (Int32.ofNat nb)), .unset, .unset, .unset] [])) _
            refine XS.iconst X31.here hx rfl (hb hby at_132) ?_
            show Steps p.tables e below (T31.setTop (mkF m 133 #[.val (.int p1), .val (.int p2), .val (.int p3), .val (.int p4), .val (.int p5), .val (.int c0), .val (.int c1), .val (.int c2), .val (.int c3), .val (.ref b), .val (.int (Int32.ofNat na)), .val (.int (Int32.ofNat nb)), .unset, .unset, .unset] [(.int (0 : Int32))])) _
            refine XS.istore X31.here hx rfl (hb hby at_133) rfl (l' := #[.val (.int p1), .val (.int p2), .val (.int p3), .val (.int p4), .val (.int p5), .val (.int c0), .val (.int c1), .val (.int c2), .val (.int c3), .val (.ref b), .val (.int (Int32.ofNat na)), .val (.int (Int32.ofNat nb)), .val (.int (0 : Int32)), .unset, .unset]) rfl ?_
            show Steps p.tables e below (T31.setTop (mkF m 135 #[.val (.int p1), .val (.int p2), .val (.int p3), .val (.int p4), .val (.int p5), .val (.int c0), .val (.int c1), .val (.int c2), .val (.int c3), .val (.ref b), .val (.int (Int32.ofNat na)), .val (.int (Int32.ofNat nb)), .val (.int (0 : Int32)), .unset, .unset] [])) _
            refine XS.iload X31.here hx rfl (hb hby at_135) rfl ?_
            show Steps p.tables e below (T31.setTop (mkF m 137 #[.val (.int p1), .val (.int p2), .val (.int p3), .val (.int p4), .val (.int p5), .val (.int c0), .val (.int c1), .val (.int c2), .val (.int c3), .val (.ref b), .val (.int (Int32.ofNat na)), .val (.int (Int32.ofNat nb)), .val (.int (0 : Int32)), .unset, .unset] [(.int (0 : Int32))])) _
            refine XS.ifYes X31.here hx rfl (pc0 := 137) (pc' := 146) rfl (hb hby at_137) rfl ((if0 _ _).trans (teq rfl).1) (by decide) (by decide) ?_
            show Steps p.tables e below (T31.setTop (mkF m 146 #[.val (.int p1), .val (.int p2), .val (.int p3), .val (.int p4), .val (.int p5), .val (.int c0), .val (.int c1), .val (.int c2), .val (.int c3), .val (.ref b), .val (.int (Int32.ofNat na)), .val (.int (Int32.ofNat nb)), .val (.int (0 : Int32)), .unset, .unset] [])) _
            refine XS.iconst X31.here hx rfl (hb hby at_146) ?_
            show Steps p.tables e below (T31.setTop (mkF m 147 #[.val (.int p1), .val (.int p2), .val (.int p3), .val (.int p4), .val (.int p5), .val (.int c0), .val (.int c1), .val (.int c2), .val (.int c3), .val (.ref b), .val (.int (Int32.ofNat na)), .val (.int (Int32.ofNat nb)), .val (.int (0 : Int32)), .unset, .unset] [(.int (0 : Int32))])) _
            refine XS.iload X31.here hx rfl (hb hby at_147) rfl ?_
            show Steps p.tables e below (T31.setTop (mkF m 149 #[.val (.int p1), .val (.int p2), .val (.int p3), .val (.int p4), .val (.int p5), .val (.int c0), .val (.int c1), .val (.int c2), .val (.int c3), .val (.ref b), .val (.int (Int32.ofNat na)), .val (.int (Int32.ofNat nb)), .val (.int (0 : Int32)), .unset, .unset] [(.int c0), (.int (0 : Int32))])) _
            refine XS.iload X31.here hx rfl (hb hby at_149) rfl ?_
            show Steps p.tables e below (T31.setTop (mkF m 151 #[.val (.int p1), .val (.int p2), .val (.int p3), .val (.int p4), .val (.int p5), .val (.int c0), .val (.int c1), .val (.int c2), .val (.int c3), .val (.ref b), .val (.int (Int32.ofNat na)), .val (.int (Int32.ofNat nb)), .val (.int (0 : Int32)), .unset, .unset] [(.int (Int32.ofNat na)), (.int c0), (.int (0 : Int32))])) _
            refine XS.iload X31.here hx rfl (hb hby at_151) rfl ?_
            show Steps p.tables e below (T31.setTop (mkF m 153 #[.val (.int p1), .val (.int p2), .val (.int p3), .val (.int p4), .val (.int p5), .val (.int c0), .val (.int c1), .val (.int c2), .val (.int c3), .val (.ref b), .val (.int (Int32.ofNat na)), .val (.int (Int32.ofNat nb)), .val (.int (0 : Int32)), .unset, .unset] [(.int (Int32.ofNat nb)), (.int (Int32.ofNat na)), (.int c0), (.int (0 : Int32))])) _
            exact k
          obtain ⟨_, _, ⟨T34, L34, k34, n34⟩, -, X34, ⟨Lc34, hQ34, l34, y34, z34⟩, st34⟩ := Jvm.LawKit.callS X31 hx (y := (⟨"com/example/bondsmith/bondsmith/MonthDaysDigitsPinLaw", "term", "(ICII)I"⟩ : MethodName)) hown (mvT hZ (hw _ (List.mem_of_getElem? (i := 10) rfl))) (mvT hZ (hw _ (List.mem_of_getElem? (i := 11) rfl))) (mvT hZ (hw _ (List.mem_of_getElem? (i := 2) rfl))) (mvT hZ (hw _ (List.mem_of_getElem? (i := 12) rfl))) (by decide) (backOf (W := 0) (rm4 l Z a0 hw [] (0 : Int32) c0 (Int32.ofNat na) (Int32.ofNat nb) h18 n0 z18) hZ (hw _ (List.mem_of_getElem? (i := 12) rfl)) (hw _ (List.mem_of_getElem? (i := 2) rfl)) (by decide) (by decide)) (g := (mkF m 153 #[.val (.int p1), .val (.int p2), .val (.int p3), .val (.int p4), .val (.int p5), .val (.int c0), .val (.int c1), .val (.int c2), .val (.int c3), .val (.ref b), .val (.int (Int32.ofNat na)), .val (.int (Int32.ofNat nb)), .val (.int (0 : Int32)), .unset, .unset] [(.int (Int32.ofNat nb)), (.int (Int32.ofNat na)), (.int c0), (.int (0 : Int32))])) rfl (by rw [hml]; rfl) (argsL := [(.int (0 : Int32)), (.int c0), (.int (Int32.ofNat na)), (.int (Int32.ofNat nb))]) (rest := []) (lenOf pd_t rfl) rfl (by show 2 * 0 + _ ≤ _; exact Nat.le_of_eq rfl) (hb hby at_153) (fun _ _ => ⟨rfl, e31, (by decide : 1 + 0 ≤ _), (by decide : 4 + 0 ≤ _)⟩)
          dsimp only [Pt.U, Pt.locs, Pt.cells, Pt.slots] at X34 l34 y34 z34 st34 hQ34
          subst l34 y34 z34
          obtain ⟨rfl, N34q, e34⟩ := hQ34
          have N34 := Fr.app N31 N34q
          have pre35 : ∀ t, Steps p.tables e below (T34.setTop (mkF m 163 #[.val (.int p1), .val (.int p2), .val (.int p3), .val (.int p4), .val (.int p5), .val (.int c0), .val (.int c1), .val (.int c2), .val (.int c3), .val (.ref b), .val (.int (Int32.ofNat na)), .val (.int (Int32.ofNat nb)), .val (.int (0 : Int32)), .unset, .unset] [(.int (Int32.ofNat nb)), (.int (Int32.ofNat na)), (.int c1), (.int (1 : Int32)), (.int (own_term (0 : Int32) c0 (Int32.ofNat na) (Int32.ofNat nb)))])) t → Steps p.tables e below (s₁.setTop (entryFrame m #[(.int p1), (.int p2), (.int p3), (.int p4), (.int p5)] maxLocals)) t := by
            intro t k
            refine pre33 t ?_
            refine st34 _ ?_
            show Steps p.tables e below (T34.setTop (mkF m 156 #[.val (.int p1), .val (.int p2), .val (.int p3), .val (.int p4), .val (.int p5), .val (.int c0), .val (.int c1), .val (.int c2), .val (.int c3), .val (.ref b), .val (.int (Int32.ofNat na)), .val (.int (Int32.ofNat nb)), .val (.int (0 : Int32)), .unset, .unset] [(.int (own_term (0 : Int32) c0 (Int32.ofNat na) (Int32.ofNat nb)))])) _
            refine XS.iconst X34.here hx rfl (hb hby at_156) ?_
            show Steps p.tables e below (T34.setTop (mkF m 157 #[.val (.int p1), .val (.int p2), .val (.int p3), .val (.int p4), .val (.int p5), .val (.int c0), .val (.int c1), .val (.int c2), .val (.int c3), .val (.ref b), .val (.int (Int32.ofNat na)), .val (.int (Int32.ofNat nb)), .val (.int (0 : Int32)), .unset, .unset] [(.int (1 : Int32)), (.int (own_term (0 : Int32) c0 (Int32.ofNat na) (Int32.ofNat nb)))])) _
            refine XS.iload X34.here hx rfl (hb hby at_157) rfl ?_
            show Steps p.tables e below (T34.setTop (mkF m 159 #[.val (.int p1), .val (.int p2), .val (.int p3), .val (.int p4), .val (.int p5), .val (.int c0), .val (.int c1), .val (.int c2), .val (.int c3), .val (.ref b), .val (.int (Int32.ofNat na)), .val (.int (Int32.ofNat nb)), .val (.int (0 : Int32)), .unset, .unset] [(.int c1), (.int (1 : Int32)), (.int (own_term (0 : Int32) c0 (Int32.ofNat na) (Int32.ofNat nb)))])) _
            refine XS.iload X34.here hx rfl (hb hby at_159) rfl ?_
            show Steps p.tables e below (T34.setTop (mkF m 161 #[.val (.int p1), .val (.int p2), .val (.int p3), .val (.int p4), .val (.int p5), .val (.int c0), .val (.int c1), .val (.int c2), .val (.int c3), .val (.ref b), .val (.int (Int32.ofNat na)), .val (.int (Int32.ofNat nb)), .val (.int (0 : Int32)), .unset, .unset] [(.int (Int32.ofNat na)), (.int c1), (.int (1 : Int32)), (.int (own_term (0 : Int32) c0 (Int32.ofNat na) (Int32.ofNat nb)))])) _
            refine XS.iload X34.here hx rfl (hb hby at_161) rfl ?_
            show Steps p.tables e below (T34.setTop (mkF m 163 #[.val (.int p1), .val (.int p2), .val (.int p3), .val (.int p4), .val (.int p5), .val (.int c0), .val (.int c1), .val (.int c2), .val (.int c3), .val (.ref b), .val (.int (Int32.ofNat na)), .val (.int (Int32.ofNat nb)), .val (.int (0 : Int32)), .unset, .unset] [(.int (Int32.ofNat nb)), (.int (Int32.ofNat na)), (.int c1), (.int (1 : Int32)), (.int (own_term (0 : Int32) c0 (Int32.ofNat na) (Int32.ofNat nb)))])) _
            exact k
          obtain ⟨_, _, ⟨T36, L36, k36, n36⟩, -, X36, ⟨Lc36, hQ36, l36, y36, z36⟩, st36⟩ := Jvm.LawKit.callS X34 hx (y := (⟨"com/example/bondsmith/bondsmith/MonthDaysDigitsPinLaw", "term", "(ICII)I"⟩ : MethodName)) hown (mvT hZ (hw _ (List.mem_of_getElem? (i := 10) rfl))) (mvT hZ (hw _ (List.mem_of_getElem? (i := 11) rfl))) (mvT hZ (hw _ (List.mem_of_getElem? (i := 2) rfl))) (mvT hZ (hw _ (List.mem_of_getElem? (i := 12) rfl))) (by decide) (backOf (W := 1) (rm4 l Z a0 hw [] (1 : Int32) c1 (Int32.ofNat na) (Int32.ofNat nb) h18 n0 z18) hZ (hw _ (List.mem_of_getElem? (i := 12) rfl)) (hw _ (List.mem_of_getElem? (i := 2) rfl)) (by decide) (by decide)) (g := (mkF m 163 #[.val (.int p1), .val (.int p2), .val (.int p3), .val (.int p4), .val (.int p5), .val (.int c0), .val (.int c1), .val (.int c2), .val (.int c3), .val (.ref b), .val (.int (Int32.ofNat na)), .val (.int (Int32.ofNat nb)), .val (.int (0 : Int32)), .unset, .unset] [(.int (Int32.ofNat nb)), (.int (Int32.ofNat na)), (.int c1), (.int (1 : Int32)), (.int (own_term (0 : Int32) c0 (Int32.ofNat na) (Int32.ofNat nb)))])) rfl (by rw [hml]; rfl) (argsL := [(.int (1 : Int32)), (.int c1), (.int (Int32.ofNat na)), (.int (Int32.ofNat nb))]) (rest := [(.int (own_term (0 : Int32) c0 (Int32.ofNat na) (Int32.ofNat nb)))]) (lenOf pd_t rfl) rfl (by show 2 * 0 + _ ≤ _; exact Nat.le_of_eq rfl) (hb hby at_163) (fun _ _ => ⟨rfl, e34, (by decide : 1 + 0 ≤ _), (by decide : 4 + 0 ≤ _)⟩)
          dsimp only [Pt.U, Pt.locs, Pt.cells, Pt.slots] at X36 l36 y36 z36 st36 hQ36
          subst l36 y36 z36
          obtain ⟨rfl, N36q, e36⟩ := hQ36
          have N36 := Fr.app N34 N36q
          have pre37 : ∀ t, Steps p.tables e below (T36.setTop (mkF m 174 #[.val (.int p1), .val (.int p2), .val (.int p3), .val (.int p4), .val (.int p5), .val (.int c0), .val (.int c1), .val (.int c2), .val (.int c3), .val (.ref b), .val (.int (Int32.ofNat na)), .val (.int (Int32.ofNat nb)), .val (.int (0 : Int32)), .unset, .unset] [(.int (Int32.ofNat nb)), (.int (Int32.ofNat na)), (.int c2), (.int (2 : Int32)), (.int ((own_term (0 : Int32) c0 (Int32.ofNat na) (Int32.ofNat nb)) + (own_term (1 : Int32) c1 (Int32.ofNat na) (Int32.ofNat nb))))])) t → Steps p.tables e below (s₁.setTop (entryFrame m #[(.int p1), (.int p2), (.int p3), (.int p4), (.int p5)] maxLocals)) t := by
            intro t k
            refine pre35 t ?_
            refine st36 _ ?_
            show Steps p.tables e below (T36.setTop (mkF m 166 #[.val (.int p1), .val (.int p2), .val (.int p3), .val (.int p4), .val (.int p5), .val (.int c0), .val (.int c1), .val (.int c2), .val (.int c3), .val (.ref b), .val (.int (Int32.ofNat na)), .val (.int (Int32.ofNat nb)), .val (.int (0 : Int32)), .unset, .unset] [(.int (own_term (1 : Int32) c1 (Int32.ofNat na) (Int32.ofNat nb))), (.int (own_term (0 : Int32) c0 (Int32.ofNat na) (Int32.ofNat nb)))])) _
            refine XS.iadd X36.here hx rfl (hb hby at_166) rfl ?_
            show Steps p.tables e below (T36.setTop (mkF m 167 #[.val (.int p1), .val (.int p2), .val (.int p3), .val (.int p4), .val (.int p5), .val (.int c0), .val (.int c1), .val (.int c2), .val (.int c3), .val (.ref b), .val (.int (Int32.ofNat na)), .val (.int (Int32.ofNat nb)), .val (.int (0 : Int32)), .unset, .unset] [(.int ((own_term (0 : Int32) c0 (Int32.ofNat na) (Int32.ofNat nb)) + (own_term (1 : Int32) c1 (Int32.ofNat na) (Int32.ofNat nb))))])) _
            refine XS.iconst X36.here hx rfl (hb hby at_167) ?_
            show Steps p.tables e below (T36.setTop (mkF m 168 #[.val (.int p1), .val (.int p2), .val (.int p3), .val (.int p4), .val (.int p5), .val (.int c0), .val (.int c1), .val (.int c2), .val (.int c3), .val (.ref b), .val (.int (Int32.ofNat na)), .val (.int (Int32.ofNat nb)), .val (.int (0 : Int32)), .unset, .unset] [(.int (2 : Int32)), (.int ((own_term (0 : Int32) c0 (Int32.ofNat na) (Int32.ofNat nb)) + (own_term (1 : Int32) c1 (Int32.ofNat na) (Int32.ofNat nb))))])) _
            refine XS.iload X36.here hx rfl (hb hby at_168) rfl ?_
            show Steps p.tables e below (T36.setTop (mkF m 170 #[.val (.int p1), .val (.int p2), .val (.int p3), .val (.int p4), .val (.int p5), .val (.int c0), .val (.int c1), .val (.int c2), .val (.int c3), .val (.ref b), .val (.int (Int32.ofNat na)), .val (.int (Int32.ofNat nb)), .val (.int (0 : Int32)), .unset, .unset] [(.int c2), (.int (2 : Int32)), (.int ((own_term (0 : Int32) c0 (Int32.ofNat na) (Int32.ofNat nb)) + (own_term (1 : Int32) c1 (Int32.ofNat na) (Int32.ofNat nb))))])) _
            refine XS.iload X36.here hx rfl (hb hby at_170) rfl ?_
            show Steps p.tables e below (T36.setTop (mkF m 172 #[.val (.int p1), .val (.int p2), .val (.int p3), .val (.int p4), .val (.int p5), .val (.int c0), .val (.int c1), .val (.int c2), .val (.int c3), .val (.ref b), .val (.int (Int32.ofNat na)), .val (.int (Int32.ofNat nb)), .val (.int (0 : Int32)), .unset, .unset] [(.int (Int32.ofNat na)), (.int c2), (.int (2 : Int32)), (.int ((own_term (0 : Int32) c0 (Int32.ofNat na) (Int32.ofNat nb)) + (own_term (1 : Int32) c1 (Int32.ofNat na) (Int32.ofNat nb))))])) _
            refine XS.iload X36.here hx rfl (hb hby at_172) rfl ?_
            show Steps p.tables e below (T36.setTop (mkF m 174 #[.val (.int p1), .val (.int p2), .val (.int p3), .val (.int p4), .val (.int p5), .val (.int c0), .val (.int c1), .val (.int c2), .val (.int c3), .val (.ref b), .val (.int (Int32.ofNat na)), .val (.int (Int32.ofNat nb)), .val (.int (0 : Int32)), .unset, .unset] [(.int (Int32.ofNat nb)), (.int (Int32.ofNat na)), (.int c2), (.int (2 : Int32)), (.int ((own_term (0 : Int32) c0 (Int32.ofNat na) (Int32.ofNat nb)) + (own_term (1 : Int32) c1 (Int32.ofNat na) (Int32.ofNat nb))))])) _
            exact k
          obtain ⟨_, _, ⟨T38, L38, k38, n38⟩, -, X38, ⟨Lc38, hQ38, l38, y38, z38⟩, st38⟩ := Jvm.LawKit.callS X36 hx (y := (⟨"com/example/bondsmith/bondsmith/MonthDaysDigitsPinLaw", "term", "(ICII)I"⟩ : MethodName)) hown (mvT hZ (hw _ (List.mem_of_getElem? (i := 10) rfl))) (mvT hZ (hw _ (List.mem_of_getElem? (i := 11) rfl))) (mvT hZ (hw _ (List.mem_of_getElem? (i := 2) rfl))) (mvT hZ (hw _ (List.mem_of_getElem? (i := 12) rfl))) (by decide) (backOf (W := 1) (rm4 l Z a0 hw [] (2 : Int32) c2 (Int32.ofNat na) (Int32.ofNat nb) h18 n0 z18) hZ (hw _ (List.mem_of_getElem? (i := 12) rfl)) (hw _ (List.mem_of_getElem? (i := 2) rfl)) (by decide) (by decide)) (g := (mkF m 174 #[.val (.int p1), .val (.int p2), .val (.int p3), .val (.int p4), .val (.int p5), .val (.int c0), .val (.int c1), .val (.int c2), .val (.int c3), .val (.ref b), .val (.int (Int32.ofNat na)), .val (.int (Int32.ofNat nb)), .val (.int (0 : Int32)), .unset, .unset] [(.int (Int32.ofNat nb)), (.int (Int32.ofNat na)), (.int c2), (.int (2 : Int32)), (.int ((own_term (0 : Int32) c0 (Int32.ofNat na) (Int32.ofNat nb)) + (own_term (1 : Int32) c1 (Int32.ofNat na) (Int32.ofNat nb))))])) rfl (by rw [hml]; rfl) (argsL := [(.int (2 : Int32)), (.int c2), (.int (Int32.ofNat na)), (.int (Int32.ofNat nb))]) (rest := [(.int ((own_term (0 : Int32) c0 (Int32.ofNat na) (Int32.ofNat nb)) + (own_term (1 : Int32) c1 (Int32.ofNat na) (Int32.ofNat nb))))]) (lenOf pd_t rfl) rfl (by show 2 * 0 + _ ≤ _; exact Nat.le_of_eq rfl) (hb hby at_174) (fun _ _ => ⟨rfl, e36, (by decide : 1 + 0 ≤ _), (by decide : 4 + 0 ≤ _)⟩)
          dsimp only [Pt.U, Pt.locs, Pt.cells, Pt.slots] at X38 l38 y38 z38 st38 hQ38
          subst l38 y38 z38
          obtain ⟨rfl, N38q, e38⟩ := hQ38
          have N38 := Fr.app N36 N38q
          have pre39 : ∀ t, Steps p.tables e below (T38.setTop (mkF m 185 #[.val (.int p1), .val (.int p2), .val (.int p3), .val (.int p4), .val (.int p5), .val (.int c0), .val (.int c1), .val (.int c2), .val (.int c3), .val (.ref b), .val (.int (Int32.ofNat na)), .val (.int (Int32.ofNat nb)), .val (.int (0 : Int32)), .unset, .unset] [(.int (Int32.ofNat nb)), (.int (Int32.ofNat na)), (.int c3), (.int (3 : Int32)), (.int (((own_term (0 : Int32) c0 (Int32.ofNat na) (Int32.ofNat nb)) + (own_term (1 : Int32) c1 (Int32.ofNat na) (Int32.ofNat nb))) + (own_term (2 : Int32) c2 (Int32.ofNat na) (Int32.ofNat nb))))])) t → Steps p.tables e below (s₁.setTop (entryFrame m #[(.int p1), (.int p2), (.int p3), (.int p4), (.int p5)] maxLocals)) t := by
            intro t k
            refine pre37 t ?_
            refine st38 _ ?_
            show Steps p.tables e below (T38.setTop (mkF m 177 #[.val (.int p1), .val (.int p2), .val (.int p3), .val (.int p4), .val (.int p5), .val (.int c0), .val (.int c1), .val (.int c2), .val (.int c3), .val (.ref b), .val (.int (Int32.ofNat na)), .val (.int (Int32.ofNat nb)), .val (.int (0 : Int32)), .unset, .unset] [(.int (own_term (2 : Int32) c2 (Int32.ofNat na) (Int32.ofNat nb))), (.int ((own_term (0 : Int32) c0 (Int32.ofNat na) (Int32.ofNat nb)) + (own_term (1 : Int32) c1 (Int32.ofNat na) (Int32.ofNat nb))))])) _
            refine XS.iadd X38.here hx rfl (hb hby at_177) rfl ?_
            show Steps p.tables e below (T38.setTop (mkF m 178 #[.val (.int p1), .val (.int p2), .val (.int p3), .val (.int p4), .val (.int p5), .val (.int c0), .val (.int c1), .val (.int c2), .val (.int c3), .val (.ref b), .val (.int (Int32.ofNat na)), .val (.int (Int32.ofNat nb)), .val (.int (0 : Int32)), .unset, .unset] [(.int (((own_term (0 : Int32) c0 (Int32.ofNat na) (Int32.ofNat nb)) + (own_term (1 : Int32) c1 (Int32.ofNat na) (Int32.ofNat nb))) + (own_term (2 : Int32) c2 (Int32.ofNat na) (Int32.ofNat nb))))])) _
            refine XS.iconst X38.here hx rfl (hb hby at_178) ?_
            show Steps p.tables e below (T38.setTop (mkF m 179 #[.val (.int p1), .val (.int p2), .val (.int p3), .val (.int p4), .val (.int p5), .val (.int c0), .val (.int c1), .val (.int c2), .val (.int c3), .val (.ref b), .val (.int (Int32.ofNat na)), .val (.int (Int32.ofNat nb)), .val (.int (0 : Int32)), .unset, .unset] [(.int (3 : Int32)), (.int (((own_term (0 : Int32) c0 (Int32.ofNat na) (Int32.ofNat nb)) + (own_term (1 : Int32) c1 (Int32.ofNat na) (Int32.ofNat nb))) + (own_term (2 : Int32) c2 (Int32.ofNat na) (Int32.ofNat nb))))])) _
            refine XS.iload X38.here hx rfl (hb hby at_179) rfl ?_
            show Steps p.tables e below (T38.setTop (mkF m 181 #[.val (.int p1), .val (.int p2), .val (.int p3), .val (.int p4), .val (.int p5), .val (.int c0), .val (.int c1), .val (.int c2), .val (.int c3), .val (.ref b), .val (.int (Int32.ofNat na)), .val (.int (Int32.ofNat nb)), .val (.int (0 : Int32)), .unset, .unset] [(.int c3), (.int (3 : Int32)), (.int (((own_term (0 : Int32) c0 (Int32.ofNat na) (Int32.ofNat nb)) + (own_term (1 : Int32) c1 (Int32.ofNat na) (Int32.ofNat nb))) + (own_term (2 : Int32) c2 (Int32.ofNat na) (Int32.ofNat nb))))])) _
            refine XS.iload X38.here hx rfl (hb hby at_181) rfl ?_
            show Steps p.tables e below (T38.setTop (mkF m 183 #[.val (.int p1), .val (.int p2), .val (.int p3), .val (.int p4), .val (.int p5), .val (.int c0), .val (.int c1), .val (.int c2), .val (.int c3), .val (.ref b), .val (.int (Int32.ofNat na)), .val (.int (Int32.ofNat nb)), .val (.int (0 : Int32)), .unset, .unset] [(.int (Int32.ofNat na)), (.int c3), (.int (3 : Int32)), (.int (((own_term (0 : Int32) c0 (Int32.ofNat na) (Int32.ofNat nb)) + (own_term (1 : Int32) c1 (Int32.ofNat na) (Int32.ofNat nb))) + (own_term (2 : Int32) c2 (Int32.ofNat na) (Int32.ofNat nb))))])) _
            refine XS.iload X38.here hx rfl (hb hby at_183) rfl ?_
            show Steps p.tables e below (T38.setTop (mkF m 185 #[.val (.int p1), .val (.int p2), .val (.int p3), .val (.int p4), .val (.int p5), .val (.int c0), .val (.int c1), .val (.int c2), .val (.int c3), .val (.ref b), .val (.int (Int32.ofNat na)), .val (.int (Int32.ofNat nb)), .val (.int (0 : Int32)), .unset, .unset] [(.int (Int32.ofNat nb)), (.int (Int32.ofNat na)), (.int c3), (.int (3 : Int32)), (.int (((own_term (0 : Int32) c0 (Int32.ofNat na) (Int32.ofNat nb)) + (own_term (1 : Int32) c1 (Int32.ofNat na) (Int32.ofNat nb))) + (own_term (2 : Int32) c2 (Int32.ofNat na) (Int32.ofNat nb))))])) _
            exact k
          obtain ⟨_, _, ⟨T40, L40, k40, n40⟩, -, X40, ⟨Lc40, hQ40, l40, y40, z40⟩, st40⟩ := Jvm.LawKit.callS X38 hx (y := (⟨"com/example/bondsmith/bondsmith/MonthDaysDigitsPinLaw", "term", "(ICII)I"⟩ : MethodName)) hown (mvT hZ (hw _ (List.mem_of_getElem? (i := 10) rfl))) (mvT hZ (hw _ (List.mem_of_getElem? (i := 11) rfl))) (mvT hZ (hw _ (List.mem_of_getElem? (i := 2) rfl))) (mvT hZ (hw _ (List.mem_of_getElem? (i := 12) rfl))) (by decide) (backOf (W := 1) (rm4 l Z a0 hw [] (3 : Int32) c3 (Int32.ofNat na) (Int32.ofNat nb) h18 n0 z18) hZ (hw _ (List.mem_of_getElem? (i := 12) rfl)) (hw _ (List.mem_of_getElem? (i := 2) rfl)) (by decide) (by decide)) (g := (mkF m 185 #[.val (.int p1), .val (.int p2), .val (.int p3), .val (.int p4), .val (.int p5), .val (.int c0), .val (.int c1), .val (.int c2), .val (.int c3), .val (.ref b), .val (.int (Int32.ofNat na)), .val (.int (Int32.ofNat nb)), .val (.int (0 : Int32)), .unset, .unset] [(.int (Int32.ofNat nb)), (.int (Int32.ofNat na)), (.int c3), (.int (3 : Int32)), (.int (((own_term (0 : Int32) c0 (Int32.ofNat na) (Int32.ofNat nb)) + (own_term (1 : Int32) c1 (Int32.ofNat na) (Int32.ofNat nb))) + (own_term (2 : Int32) c2 (Int32.ofNat na) (Int32.ofNat nb))))])) rfl (by rw [hml]; rfl) (argsL := [(.int (3 : Int32)), (.int c3), (.int (Int32.ofNat na)), (.int (Int32.ofNat nb))]) (rest := [(.int (((own_term (0 : Int32) c0 (Int32.ofNat na) (Int32.ofNat nb)) + (own_term (1 : Int32) c1 (Int32.ofNat na) (Int32.ofNat nb))) + (own_term (2 : Int32) c2 (Int32.ofNat na) (Int32.ofNat nb))))]) (lenOf pd_t rfl) rfl (by show 2 * 0 + _ ≤ _; exact Nat.le_of_eq rfl) (hb hby at_185) (fun _ _ => ⟨rfl, e38, (by decide : 1 + 0 ≤ _), (by decide : 4 + 0 ≤ _)⟩)
          dsimp only [Pt.U, Pt.locs, Pt.cells, Pt.slots] at X40 l40 y40 z40 st40 hQ40
          subst l40 y40 z40
          obtain ⟨rfl, N40q, e40⟩ := hQ40
          have N40 := Fr.app N38 N40q
          have pre41 : ∀ t, Steps p.tables e below (T40.setTop (mkF m 197 #[.val (.int p1), .val (.int p2), .val (.int p3), .val (.int p4), .val (.int p5), .val (.int c0), .val (.int c1), .val (.int c2), .val (.int c3), .val (.ref b), .val (.int (Int32.ofNat na)), .val (.int (Int32.ofNat nb)), .val (.int (0 : Int32)), .val (.int ((((own_term (0 : Int32) c0 (Int32.ofNat na) (Int32.ofNat nb)) + (own_term (1 : Int32) c1 (Int32.ofNat na) (Int32.ofNat nb))) + (own_term (2 : Int32) c2 (Int32.ofNat na) (Int32.ofNat nb))) + (own_term (3 : Int32) c3 (Int32.ofNat na) (Int32.ofNat nb)))), .unset] [(.int (Int32.ofNat nb)), (.int (Int32.ofNat na)), (.ref b)])) t → Steps p.tables e below (s₁.setTop (entryFrame m #[(.int p1), (.int p2), (.int p3), (.int p4), (.int p5)] maxLocals)) t := by
            intro t k
            refine pre39 t ?_
            refine st40 _ ?_
            show Steps p.tables e below (T40.setTop (mkF m 188 #[.val (.int p1), .val (.int p2), .val (.int p3), .val (.int p4), .val (.int p5), .val (.int c0), .val (.int c1), .val (.int c2), .val (.int c3), .val (.ref b), .val (.int (Int32.ofNat na)), .val (.int (Int32.ofNat nb)), .val (.int (0 : Int32)), .unset, .unset] [(.int (own_term (3 : Int32) c3 (Int32.ofNat na) (Int32.ofNat nb))), (.int (((own_term (0 : Int32) c0 (Int32.ofNat na) (Int32.ofNat nb)) + (own_term (1 : Int32) c1 (Int32.ofNat na) (Int32.ofNat nb))) + (own_term (2 : Int32) c2 (Int32.ofNat na) (Int32.ofNat nb))))])) _
            refine XS.iadd X40.here hx rfl (hb hby at_188) rfl ?_
            show Steps p.tables e below (T40.setTop (mkF m 189 #[.val (.int p1), .val (.int p2), .val (.int p3), .val (.int p4), .val (.int p5), .val (.int c0), .val (.int c1), .val (.int c2), .val (.int c3), .val (.ref b), .val (.int (Int32.ofNat na)), .val (.int (Int32.ofNat nb)), .val (.int (0 : Int32)), .unset, .unset] [(.int ((((own_term (0 : Int32) c0 (Int32.ofNat na) (Int32.ofNat nb)) + (own_term (1 : Int32) c1 (Int32.ofNat na) (Int32.ofNat nb))) + (own_term (2 : Int32) c2 (Int32.ofNat na) (Int32.ofNat nb))) + (own_term (3 : Int32) c3 (Int32.ofNat na) (Int32.ofNat nb))))])) _
            refine XS.istore X40.here hx rfl (hb hby at_189) rfl (l' := #[.val (.int p1), .val (.int p2), .val (.int p3), .val (.int p4), .val (.int p5), .val (.int c0), .val (.int c1), .val (.int c2), .val (.int c3), .val (.ref b), .val (.int (Int32.ofNat na)), .val (.int (Int32.ofNat nb)), .val (.int (0 : Int32)), .val (.int ((((own_term (0 : Int32) c0 (Int32.ofNat na) (Int32.ofNat nb)) + (own_term (1 : Int32) c1 (Int32.ofNat na) (Int32.ofNat nb))) + (own_term (2 : Int32) c2 (Int32.ofNat na) (Int32.ofNat nb))) + (own_term (3 : Int32) c3 (Int32.ofNat na) (Int32.ofNat nb)))), .unset]) rfl ?_
            show Steps p.tables e below (T40.setTop (mkF m 191 #[.val (.int p1), .val (.int p2), .val (.int p3), .val (.int p4), .val (.int p5), .val (.int c0), .val (.int c1), .val (.int c2), .val (.int c3), .val (.ref b), .val (.int (Int32.ofNat na)), .val (.int (Int32.ofNat nb)), .val (.int (0 : Int32)), .val (.int ((((own_term (0 : Int32) c0 (Int32.ofNat na) (Int32.ofNat nb)) + (own_term (1 : Int32) c1 (Int32.ofNat na) (Int32.ofNat nb))) + (own_term (2 : Int32) c2 (Int32.ofNat na) (Int32.ofNat nb))) + (own_term (3 : Int32) c3 (Int32.ofNat na) (Int32.ofNat nb)))), .unset] [])) _
            refine XS.aload X40.here hx rfl (hb hby at_191) rfl rfl ?_
            show Steps p.tables e below (T40.setTop (mkF m 193 #[.val (.int p1), .val (.int p2), .val (.int p3), .val (.int p4), .val (.int p5), .val (.int c0), .val (.int c1), .val (.int c2), .val (.int c3), .val (.ref b), .val (.int (Int32.ofNat na)), .val (.int (Int32.ofNat nb)), .val (.int (0 : Int32)), .val (.int ((((own_term (0 : Int32) c0 (Int32.ofNat na) (Int32.ofNat nb)) + (own_term (1 : Int32) c1 (Int32.ofNat na) (Int32.ofNat nb))) + (own_term (2 : Int32) c2 (Int32.ofNat na) (Int32.ofNat nb))) + (own_term (3 : Int32) c3 (Int32.ofNat na) (Int32.ofNat nb)))), .unset] [(.ref b)])) _
            refine XS.iload X40.here hx rfl (hb hby at_193) rfl ?_
            show Steps p.tables e below (T40.setTop (mkF m 195 #[.val (.int p1), .val (.int p2), .val (.int p3), .val (.int p4), .val (.int p5), .val (.int c0), .val (.int c1), .val (.int c2), .val (.int c3), .val (.ref b), .val (.int (Int32.ofNat na)), .val (.int (Int32.ofNat nb)), .val (.int (0 : Int32)), .val (.int ((((own_term (0 : Int32) c0 (Int32.ofNat na) (Int32.ofNat nb)) + (own_term (1 : Int32) c1 (Int32.ofNat na) (Int32.ofNat nb))) + (own_term (2 : Int32) c2 (Int32.ofNat na) (Int32.ofNat nb))) + (own_term (3 : Int32) c3 (Int32.ofNat na) (Int32.ofNat nb)))), .unset] [(.int (Int32.ofNat na)), (.ref b)])) _
            refine XS.iload X40.here hx rfl (hb hby at_195) rfl ?_
            show Steps p.tables e below (T40.setTop (mkF m 197 #[.val (.int p1), .val (.int p2), .val (.int p3), .val (.int p4), .val (.int p5), .val (.int c0), .val (.int c1), .val (.int c2), .val (.int c3), .val (.ref b), .val (.int (Int32.ofNat na)), .val (.int (Int32.ofNat nb)), .val (.int (0 : Int32)), .val (.int ((((own_term (0 : Int32) c0 (Int32.ofNat na) (Int32.ofNat nb)) + (own_term (1 : Int32) c1 (Int32.ofNat na) (Int32.ofNat nb))) + (own_term (2 : Int32) c2 (Int32.ofNat na) (Int32.ofNat nb))) + (own_term (3 : Int32) c3 (Int32.ofNat na) (Int32.ofNat nb)))), .unset] [(.int (Int32.ofNat nb)), (.int (Int32.ofNat na)), (.ref b)])) _
            exact k
          obtain ⟨_, _, ⟨T42, L42, k42, n42⟩, -, X42, ⟨Lc42, hQ42, l42, y42, z42⟩, st42⟩ := Jvm.LawKit.callS X40 hx (y := (⟨"com/example/bondsmith/bondsmith/MonthDays", "digits", "([CII)I"⟩ : MethodName)) hown (mvT hZ (hw _ (List.mem_of_getElem? (i := 13) rfl))) (mvT hZ (hw _ (List.mem_of_getElem? (i := 14) rfl))) (mvT hZ (hw _ (List.mem_of_getElem? (i := 15) rfl))) (mvT hZ (hw _ (List.mem_of_getElem? (i := 16) rfl))) (by decide) (backOf (W := 0) (rm5 l Z a0 hw [] b kb c0 c1 c2 c3 na nb h18 n0 z18 V4 hab hb4) hZ (hw _ (List.mem_of_getElem? (i := 16) rfl)) (hw _ (List.mem_of_getElem? (i := 15) rfl)) (by decide) (by decide)) (g := (mkF m 197 #[.val (.int p1), .val (.int p2), .val (.int p3), .val (.int p4), .val (.int p5), .val (.int c0), .val (.int c1), .val (.int c2), .val (.int c3), .val (.ref b), .val (.int (Int32.ofNat na)), .val (.int (Int32.ofNat nb)), .val (.int (0 : Int32)), .val (.int ((((own_term (0 : Int32) c0 (Int32.ofNat na) (Int32.ofNat nb)) + (own_term (1 : Int32) c1 (Int32.ofNat na) (Int32.ofNat nb))) + (own_term (2 : Int32) c2 (Int32.ofNat na) (Int32.ofNat nb))) + (own_term (3 : Int32) c3 (Int32.ofNat na) (Int32.ofNat nb)))), .unset] [(.int (Int32.ofNat nb)), (.int (Int32.ofNat na)), (.ref b)])) rfl (by rw [hml]; rfl) (argsL := [(.ref b), (.int (Int32.ofNat na)), (.int (Int32.ofNat nb))]) (rest := []) (lenOf pd_g rfl) rfl (by show 2 * 0 + _ ≤ _; exact Nat.le_of_eq rfl) (hb hby at_197) (fun _ _ => ⟨rfl, e40, (by decide : 1 + 0 ≤ _), (by decide : 4 + 0 ≤ _)⟩)
          dsimp only [Pt.U, Pt.locs, Pt.cells, Pt.slots] at X42 l42 y42 z42 st42 hQ42
          subst l42 y42 z42
          obtain ⟨rfl, N42q, e42⟩ := hQ42
          have N42 := Fr.app N40 N42q
          have hv : own_loop (own_f c0 c1 c2 c3) (nb - na) na 0 = ((((own_term (0 : Int32) c0 (Int32.ofNat na) (Int32.ofNat nb)) + (own_term (1 : Int32) c1 (Int32.ofNat na) (Int32.ofNat nb))) + (own_term (2 : Int32) c2 (Int32.ofNat na) (Int32.ofNat nb))) + (own_term (3 : Int32) c3 (Int32.ofNat na) (Int32.ofNat nb))) := own_no c0 c1 c2 c3 hab hb4 hb0 hb1 hb2 hb3
          have pre43 : ∀ t, Steps p.tables e below (T42.setTop (mkF m 214 #[.val (.int p1), .val (.int p2), .val (.int p3), .val (.int p4), .val (.int p5), .val (.int c0), .val (.int c1), .val (.int c2), .val (.int c3), .val (.ref b), .val (.int (Int32.ofNat na)), .val (.int (Int32.ofNat nb)), .val (.int (0 : Int32)), .val (.int ((((own_term (0 : Int32) c0 (Int32.ofNat na) (Int32.ofNat nb)) + (own_term (1 : Int32) c1 (Int32.ofNat na) (Int32.ofNat nb))) + (own_term (2 : Int32) c2 (Int32.ofNat na) (Int32.ofNat nb))) + (own_term (3 : Int32) c3 (Int32.ofNat na) (Int32.ofNat nb)))), .val (.int (own_loop (own_f c0 c1 c2 c3) (nb - na) na 0))] [(.int (1 : Int32))])) t → Steps p.tables e below (s₁.setTop (entryFrame m #[(.int p1), (.int p2), (.int p3), (.int p4), (.int p5)] maxLocals)) t := by
            intro t k
            refine pre41 t ?_
            refine st42 _ ?_
            show Steps p.tables e below (T42.setTop (mkF m 200 #[.val (.int p1), .val (.int p2), .val (.int p3), .val (.int p4), .val (.int p5), .val (.int c0), .val (.int c1), .val (.int c2), .val (.int c3), .val (.ref b), .val (.int (Int32.ofNat na)), .val (.int (Int32.ofNat nb)), .val (.int (0 : Int32)), .val (.int ((((own_term (0 : Int32) c0 (Int32.ofNat na) (Int32.ofNat nb)) + (own_term (1 : Int32) c1 (Int32.ofNat na) (Int32.ofNat nb))) + (own_term (2 : Int32) c2 (Int32.ofNat na) (Int32.ofNat nb))) + (own_term (3 : Int32) c3 (Int32.ofNat na) (Int32.ofNat nb)))), .unset] [(.int (own_loop (own_f c0 c1 c2 c3) (nb - na) na 0))])) _
            refine XS.istore X42.here hx rfl (hb hby at_200) rfl (l' := #[.val (.int p1), .val (.int p2), .val (.int p3), .val (.int p4), .val (.int p5), .val (.int c0), .val (.int c1), .val (.int c2), .val (.int c3), .val (.ref b), .val (.int (Int32.ofNat na)), .val (.int (Int32.ofNat nb)), .val (.int (0 : Int32)), .val (.int ((((own_term (0 : Int32) c0 (Int32.ofNat na) (Int32.ofNat nb)) + (own_term (1 : Int32) c1 (Int32.ofNat na) (Int32.ofNat nb))) + (own_term (2 : Int32) c2 (Int32.ofNat na) (Int32.ofNat nb))) + (own_term (3 : Int32) c3 (Int32.ofNat na) (Int32.ofNat nb)))), .val (.int (own_loop (own_f c0 c1 c2 c3) (nb - na) na 0))]) rfl ?_
            show Steps p.tables e below (T42.setTop (mkF m 202 #[.val (.int p1), .val (.int p2), .val (.int p3), .val (.int p4), .val (.int p5), .val (.int c0), .val (.int c1), .val (.int c2), .val (.int c3), .val (.ref b), .val (.int (Int32.ofNat na)), .val (.int (Int32.ofNat nb)), .val (.int (0 : Int32)), .val (.int ((((own_term (0 : Int32) c0 (Int32.ofNat na) (Int32.ofNat nb)) + (own_term (1 : Int32) c1 (Int32.ofNat na) (Int32.ofNat nb))) + (own_term (2 : Int32) c2 (Int32.ofNat na) (Int32.ofNat nb))) + (own_term (3 : Int32) c3 (Int32.ofNat na) (Int32.ofNat nb)))), .val (.int (own_loop (own_f c0 c1 c2 c3) (nb - na) na 0))] [])) _
            refine XS.iload X42.here hx rfl (hb hby at_202) rfl ?_
            show Steps p.tables e below (T42.setTop (mkF m 204 #[.val (.int p1), .val (.int p2), .val (.int p3), .val (.int p4), .val (.int p5), .val (.int c0), .val (.int c1), .val (.int c2), .val (.int c3), .val (.ref b), .val (.int (Int32.ofNat na)), .val (.int (Int32.ofNat nb)), .val (.int (0 : Int32)), .val (.int ((((own_term (0 : Int32) c0 (Int32.ofNat na) (Int32.ofNat nb)) + (own_term (1 : Int32) c1 (Int32.ofNat na) (Int32.ofNat nb))) + (own_term (2 : Int32) c2 (Int32.ofNat na) (Int32.ofNat nb))) + (own_term (3 : Int32) c3 (Int32.ofNat na) (Int32.ofNat nb)))), .val (.int (own_loop (own_f c0 c1 c2 c3) (nb - na) na 0))] [(.int (own_loop (own_f c0 c1 c2 c3) (nb - na) na 0))])) _
            refine XS.iload X42.here hx rfl (hb hby at_204) rfl ?_
            show Steps p.tables e below (T42.setTop (mkF m 206 #[.val (.int p1), .val (.int p2), .val (.int p3), .val (.int p4), .val (.int p5), .val (.int c0), .val (.int c1), .val (.int c2), .val (.int c3), .val (.ref b), .val (.int (Int32.ofNat na)), .val (.int (Int32.ofNat nb)), .val (.int (0 : Int32)), .val (.int ((((own_term (0 : Int32) c0 (Int32.ofNat na) (Int32.ofNat nb)) + (own_term (1 : Int32) c1 (Int32.ofNat na) (Int32.ofNat nb))) + (own_term (2 : Int32) c2 (Int32.ofNat na) (Int32.ofNat nb))) + (own_term (3 : Int32) c3 (Int32.ofNat na) (Int32.ofNat nb)))), .val (.int (own_loop (own_f c0 c1 c2 c3) (nb - na) na 0))] [(.int ((((own_term (0 : Int32) c0 (Int32.ofNat na) (Int32.ofNat nb)) + (own_term (1 : Int32) c1 (Int32.ofNat na) (Int32.ofNat nb))) + (own_term (2 : Int32) c2 (Int32.ofNat na) (Int32.ofNat nb))) + (own_term (3 : Int32) c3 (Int32.ofNat na) (Int32.ofNat nb)))), (.int (own_loop (own_f c0 c1 c2 c3) (nb - na) na 0))])) _
            refine XS.icmpNo X42.here hx rfl (hb hby at_206) rfl (teq hv).2 ?_
            show Steps p.tables e below (T42.setTop (mkF m 209 #[.val (.int p1), .val (.int p2), .val (.int p3), .val (.int p4), .val (.int p5), .val (.int c0), .val (.int c1), .val (.int c2), .val (.int c3), .val (.ref b), .val (.int (Int32.ofNat na)), .val (.int (Int32.ofNat nb)), .val (.int (0 : Int32)), .val (.int ((((own_term (0 : Int32) c0 (Int32.ofNat na) (Int32.ofNat nb)) + (own_term (1 : Int32) c1 (Int32.ofNat na) (Int32.ofNat nb))) + (own_term (2 : Int32) c2 (Int32.ofNat na) (Int32.ofNat nb))) + (own_term (3 : Int32) c3 (Int32.ofNat na) (Int32.ofNat nb)))), .val (.int (own_loop (own_f c0 c1 c2 c3) (nb - na) na 0))] [])) _
            refine XS.iconst X42.here hx rfl (hb hby at_209) ?_
            show Steps p.tables e below (T42.setTop (mkF m 210 #[.val (.int p1), .val (.int p2), .val (.int p3), .val (.int p4), .val (.int p5), .val (.int c0), .val (.int c1), .val (.int c2), .val (.int c3), .val (.ref b), .val (.int (Int32.ofNat na)), .val (.int (Int32.ofNat nb)), .val (.int (0 : Int32)), .val (.int ((((own_term (0 : Int32) c0 (Int32.ofNat na) (Int32.ofNat nb)) + (own_term (1 : Int32) c1 (Int32.ofNat na) (Int32.ofNat nb))) + (own_term (2 : Int32) c2 (Int32.ofNat na) (Int32.ofNat nb))) + (own_term (3 : Int32) c3 (Int32.ofNat na) (Int32.ofNat nb)))), .val (.int (own_loop (own_f c0 c1 c2 c3) (nb - na) na 0))] [(.int (1 : Int32))])) _
            refine XS.goto X42.here hx rfl (pc0 := 210) (pc' := 214) rfl (hb hby at_210) (by decide) (by decide) ?_
            show Steps p.tables e below (T42.setTop (mkF m 214 #[.val (.int p1), .val (.int p2), .val (.int p3), .val (.int p4), .val (.int p5), .val (.int c0), .val (.int c1), .val (.int c2), .val (.int c3), .val (.ref b), .val (.int (Int32.ofNat na)), .val (.int (Int32.ofNat nb)), .val (.int (0 : Int32)), .val (.int ((((own_term (0 : Int32) c0 (Int32.ofNat na) (Int32.ofNat nb)) + (own_term (1 : Int32) c1 (Int32.ofNat na) (Int32.ofNat nb))) + (own_term (2 : Int32) c2 (Int32.ofNat na) (Int32.ofNat nb))) + (own_term (3 : Int32) c3 (Int32.ofNat na) (Int32.ofNat nb)))), .val (.int (own_loop (own_f c0 c1 c2 c3) (nb - na) na 0))] [(.int (1 : Int32))])) _
            exact k
          obtain ⟨fs, hr, hrun, hended, hW, hsame⟩ := X42.leave (v := some (.int (1 : Int32))) (fun h => by rw [Bd.returns] at h; cases h)
          refine ⟨_, _, pre43 _ ?_, hrun, hended, _, _, rfl, ?_, ⟨_, rfl⟩, hW, hsame.mono (by decide) (by decide)⟩
          · exact retN X42 hx (t := .boolean) Bd.returns (by simp) (hb hby at_214) hr
          · show Q0 Z p1 p2 p3 p4 p5 h0 n0 _ T42.heap _
            rw [e42]
            exact ⟨rfl, N42⟩
        · have pre44 : ∀ t, Steps p.tables e below (T31.setTop (mkF m 197 #[.val (.int p1), .val (.int p2), .val (.int p3), .val (.int p4), .val (.int p5), .val (.int c0), .val (.int c1), .val (.int c2), .val (.int c3), .val (.ref b), .val (.int (Int32.ofNat na)), .val (.int (Int32.ofNat nb)), .val (.int (1 : Int32)), .val (.int (-1 : Int32)), .unset] [(.int (Int32.ofNat nb)), (.int (Int32.ofNat na)), (.ref b)])) t → Steps p.tables e below (s₁.setTop (entryFrame m #[(.int p1), (.int p2), (.int p3), (.int p4), (.int p5)] maxLocals)) t := by
            intro t k
            refine pre32 t ?_
            refine XS.ifNo X31.here hx rfl (hb hby at_125) rfl ((if0 _ _).trans (feq hb3).1) ?_
            show Steps p.tables e below (T31.setTop (mkF m 128 #[.val (.int p1), .val (.int p2), .val (.int p3), .val (.int p4), .val (.int p5), .val (.int c0), .val (.int c1), .val (.int c2), .val (.int c3), .val (.ref b), .val (.int (Int32.ofNat na)), .val (.int (Int32.ofNat nb)), .unset, .unset, .unset] [])) _
            refine XS.iconst X31.here hx rfl (hb hby at_128) ?_
            show Steps p.tables e below (T31.setTop (mkF m 129 #[.val (.int p1), .val (.int p2), .val (.int p3), .val (.int p4), .val (.int p5), .val (.int c0), .val (.int c1), .val (.int c2), .val (.int c3), .val (.ref b), .val (.int (Int32.ofNat na)), .val (.int (Int32.ofNat nb)), .unset, .unset, .unset] [(.int (1 : Int32))])) _
            refine XS.goto X31.here hx rfl (pc0 := 129) (pc' := 133) rfl (hb hby at_129) (by decide) (by decide) ?_
            show Steps p.tables e below (T31.setTop (mkF m 133 #[.val (.int p1), .val (.int p2), .val (.int p3), .val (.int p4), .val (.int p5), .val (.int c0), .val (.int c1), .val (.int c2), .val (.int c3), .val (.ref b), .val (.int (Int32.ofNat na)), .val (.int (Int32.ofNat nb)), .unset, .unset, .unset] [(.int (1 : Int32))])) _
            refine XS.istore X31.here hx rfl (hb hby at_133) rfl (l' := #[.val (.int p1), .val (.int p2), .val (.int p3), .val (.int p4), .val (.int p5), .val (.int c0), .val (.int c1), .val (.int c2), .val (.int c3), .val (.ref b), .val (.int (Int32.ofNat na)), .val (.int (Int32.ofNat nb)), .val (.int (1 : Int32)), .unset, .unset]) rfl ?_
            show Steps p.tables e below (T31.setTop (mkF m 135 #[.val (.int p1), .val (.int p2), .val (.int p3), .val (.int p4), .val (.int p5), .val (.int c0), .val (.int c1), .val (.int c2), .val (.int c3), .val (.ref b), .val (.int (Int32.ofNat na)), .val (.int (Int32.ofNat nb)), .val (.int (1 : Int32)), .unset, .unset] [])) _
            refine XS.iload X31.here hx rfl (hb hby at_135) rfl ?_
            show Steps p.tables e below (T31.setTop (mkF m 137 #[.val (.int p1), .val (.int p2), .val (.int p3), .val (.int p4), .val (.int p5), .val (.int c0), .val (.int c1), .val (.int c2), .val (.int c3), .val (.ref b), .val (.int (Int32.ofNat na)), .val (.int (Int32.ofNat nb)), .val (.int (1 : Int32)), .unset, .unset] [(.int (1 : Int32))])) _
            refine XS.ifNo X31.here hx rfl (hb hby at_137) rfl ((if0 _ _).trans (feq (by decide)).1) ?_
            show Steps p.tables e below (T31.setTop (mkF m 140 #[.val (.int p1), .val (.int p2), .val (.int p3), .val (.int p4), .val (.int p5), .val (.int c0), .val (.int c1), .val (.int c2), .val (.int c3), .val (.ref b), .val (.int (Int32.ofNat na)), .val (.int (Int32.ofNat nb)), .val (.int (1 : Int32)), .unset, .unset] [])) _
            refine XS.iconst X31.here hx rfl (hb hby at_140) ?_
            show Steps p.tables e below (T31.setTop (mkF m 141 #[.val (.int p1), .val (.int p2), .val (.int p3), .val (.int p4), .val (.int p5), .val (.int c0), .val (.int c1), .val (.int c2), .val (.int c3), .val (.ref b), .val (.int (Int32.ofNat na)), .val (.int (Int32.ofNat nb)), .val (.int (1 : Int32)), .unset, .unset] [(.int (-1 : Int32))])) _
            refine XS.istore X31.here hx rfl (hb hby at_141) rfl (l' := #[.val (.int p1), .val (.int p2), .val (.int p3), .val (.int p4), .val (.int p5), .val (.int c0), .val (.int c1), .val (.int c2), .val (.int c3), .val (.ref b), .val (.int (Int32.ofNat na)), .val (.int (Int32.ofNat nb)), .val (.int (1 : Int32)), .val (.int (-1 : Int32)), .unset]) rfl ?_
            show Steps p.tables e below (T31.setTop (mkF m 143 #[.val (.int p1), .val (.int p2), .val (.int p3), .val (.int p4), .val (.int p5), .val (.int c0), .val (.int c1), .val (.int c2), .val (.int c3), .val (.ref b), .val (.int (Int32.ofNat na)), .val (.int (Int32.ofNat nb)), .val (.int (1 : Int32)), .val (.int (-1 : Int32)), .unset] [])) _
            refine XS.goto X31.here hx rfl (pc0 := 143) (pc' := 191) rfl (hb hby at_143) (by decide) (by decide) ?_
            show Steps p.tables e below (T31.setTop (mkF m 191 #[.val (.int p1), .val (.int p2), .val (.int p3), .val (.int p4), .val (.int p5), .val (.int c0), .val (.int c1), .val (.int c2), .val (.int c3), .val (.ref b), .val (.int (Int32.ofNat na)), .val (.int (Int32.ofNat nb)), .val (.int (1 : Int32)), .val (.int (-1 : Int32)), .unset] [])) _
            refine XS.aload X31.here hx rfl (hb hby at_191) rfl rfl ?_
            show Steps p.tables e below (T31.setTop (mkF m 193 #[.val (.int p1), .val (.int p2), .val (.int p3), .val (.int p4), .val (.int p5), .val (.int c0), .val (.int c1), .val (.int c2), .val (.int c3), .val (.ref b), .val (.int (Int32.ofNat na)), .val (.int (Int32.ofNat nb)), .val (.int (1 : Int32)), .val (.int (-1 : Int32)), .unset] [(.ref b)])) _
            refine XS.iload X31.here hx rfl (hb hby at_193) rfl ?_
            show Steps p.tables e below (T31.setTop (mkF m 195 #[.val (.int p1), .val (.int p2), .val (.int p3), .val (.int p4), .val (.int p5), .val (.int c0), .val (.int c1), .val (.int c2), .val (.int c3), .val (.ref b), .val (.int (Int32.ofNat na)), .val (.int (Int32.ofNat nb)), .val (.int (1 : Int32)), .val (.int (-1 : Int32)), .unset] [(.int (Int32.ofNat na)), (.ref b)])) _
            refine XS.iload X31.here hx rfl (hb hby at_195) rfl ?_
            show Steps p.tables e below (T31.setTop (mkF m 197 #[.val (.int p1), .val (.int p2), .val (.int p3), .val (.int p4), .val (.int p5), .val (.int c0), .val (.int c1), .val (.int c2), .val (.int c3), .val (.ref b), .val (.int (Int32.ofNat na)), .val (.int (Int32.ofNat nb)), .val (.int (1 : Int32)), .val (.int (-1 : Int32)), .unset] [(.int (Int32.ofNat nb)), (.int (Int32.ofNat na)), (.ref b)])) _
            exact k
          obtain ⟨_, _, ⟨T45, L45, k45, n45⟩, -, X45, ⟨Lc45, hQ45, l45, y45, z45⟩, st45⟩ := Jvm.LawKit.callS X31 hx (y := (⟨"com/example/bondsmith/bondsmith/MonthDays", "digits", "([CII)I"⟩ : MethodName)) hown (mvT hZ (hw _ (List.mem_of_getElem? (i := 13) rfl))) (mvT hZ (hw _ (List.mem_of_getElem? (i := 14) rfl))) (mvT hZ (hw _ (List.mem_of_getElem? (i := 15) rfl))) (mvT hZ (hw _ (List.mem_of_getElem? (i := 16) rfl))) (by decide) (backOf (W := 0) (rm5 l Z a0 hw [] b kb c0 c1 c2 c3 na nb h18 n0 z18 V4 hab hb4) hZ (hw _ (List.mem_of_getElem? (i := 16) rfl)) (hw _ (List.mem_of_getElem? (i := 15) rfl)) (by decide) (by decide)) (g := (mkF m 197 #[.val (.int p1), .val (.int p2), .val (.int p3), .val (.int p4), .val (.int p5), .val (.int c0), .val (.int c1), .val (.int c2), .val (.int c3), .val (.ref b), .val (.int (Int32.ofNat na)), .val (.int (Int32.ofNat nb)), .val (.int (1 : Int32)), .val (.int (-1 : Int32)), .unset] [(.int (Int32.ofNat nb)), (.int (Int32.ofNat na)), (.ref b)])) rfl (by rw [hml]; rfl) (argsL := [(.ref b), (.int (Int32.ofNat na)), (.int (Int32.ofNat nb))]) (rest := []) (lenOf pd_g rfl) rfl (by show 2 * 0 + _ ≤ _; exact Nat.le_of_eq rfl) (hb hby at_197) (fun _ _ => ⟨rfl, e31, (by decide : 1 + 0 ≤ _), (by decide : 4 + 0 ≤ _)⟩)
          dsimp only [Pt.U, Pt.locs, Pt.cells, Pt.slots] at X45 l45 y45 z45 st45 hQ45
          subst l45 y45 z45
          obtain ⟨rfl, N45q, e45⟩ := hQ45
          have N45 := Fr.app N31 N45q
          have hv : own_loop (own_f c0 c1 c2 c3) (nb - na) na 0 = (-1 : Int32) := own_yes c0 c1 c2 c3 hab hb4 (Or.inr (Or.inr (Or.inr hb3)))
          have pre46 : ∀ t, Steps p.tables e below (T45.setTop (mkF m 214 #[.val (.int p1), .val (.int p2), .val (.int p3), .val (.int p4), .val (.int p5), .val (.int c0), .val (.int c1), .val (.int c2), .val (.int c3), .val (.ref b), .val (.int (Int32.ofNat na)), .val (.int (Int32.ofNat nb)), .val (.int (1 : Int32)), .val (.int (-1 : Int32)), .val (.int (own_loop (own_f c0 c1 c2 c3) (nb - na) na 0))] [(.int (1 : Int32))])) t → Steps p.tables e below (s₁.setTop (entryFrame m #[(.int p1), (.int p2), (.int p3), (.int p4), (.int p5)] maxLocals)) t := by
            intro t k
            refine pre44 t ?_
            refine st45 _ ?_
            show Steps p.tables e below (T45.setTop (mkF m 200 #[.val (.int p1), .val (.int p2), .val (.int p3), .val (.int p4), .val (.int p5), .val (.int c0), .val (.int c1), .val (.int c2), .val (.int c3), .val (.ref b), .val (.int (Int32.ofNat na)), .val (.int (Int32.ofNat nb)), .val (.int (1 : Int32)), .val (.int (-1 : Int32)), .unset] [(.int (own_loop (own_f c0 c1 c2 c3) (nb - na) na 0))])) _
            refine XS.istore X45.here hx rfl (hb hby at_200) rfl (l' := #[.val (.int p1), .val (.int p2), .val (.int p3), .val (.int p4), .val (.int p5), .val (.int c0), .val (.int c1), .val (.int c2), .val (.int c3), .val (.ref b), .val (.int (Int32.ofNat na)), .val (.int (Int32.ofNat nb)), .val (.int (1 : Int32)), .val (.int (-1 : Int32)), .val (.int (own_loop (own_f c0 c1 c2 c3) (nb - na) na 0))]) rfl ?_
            show Steps p.tables e below (T45.setTop (mkF m 202 #[.val (.int p1), .val (.int p2), .val (.int p3), .val (.int p4), .val (.int p5), .val (.int c0), .val (.int c1), .val (.int c2), .val (.int c3), .val (.ref b), .val (.int (Int32.ofNat na)), .val (.int (Int32.ofNat nb)), .val (.int (1 : Int32)), .val (.int (-1 : Int32)), .val (.int (own_loop (own_f c0 c1 c2 c3) (nb - na) na 0))] [])) _
            refine XS.iload X45.here hx rfl (hb hby at_202) rfl ?_
            show Steps p.tables e below (T45.setTop (mkF m 204 #[.val (.int p1), .val (.int p2), .val (.int p3), .val (.int p4), .val (.int p5), .val (.int c0), .val (.int c1), .val (.int c2), .val (.int c3), .val (.ref b), .val (.int (Int32.ofNat na)), .val (.int (Int32.ofNat nb)), .val (.int (1 : Int32)), .val (.int (-1 : Int32)), .val (.int (own_loop (own_f c0 c1 c2 c3) (nb - na) na 0))] [(.int (own_loop (own_f c0 c1 c2 c3) (nb - na) na 0))])) _
            refine XS.iload X45.here hx rfl (hb hby at_204) rfl ?_
            show Steps p.tables e below (T45.setTop (mkF m 206 #[.val (.int p1), .val (.int p2), .val (.int p3), .val (.int p4), .val (.int p5), .val (.int c0), .val (.int c1), .val (.int c2), .val (.int c3), .val (.ref b), .val (.int (Int32.ofNat na)), .val (.int (Int32.ofNat nb)), .val (.int (1 : Int32)), .val (.int (-1 : Int32)), .val (.int (own_loop (own_f c0 c1 c2 c3) (nb - na) na 0))] [(.int (-1 : Int32)), (.int (own_loop (own_f c0 c1 c2 c3) (nb - na) na 0))])) _
            refine XS.icmpNo X45.here hx rfl (hb hby at_206) rfl (teq hv).2 ?_
            show Steps p.tables e below (T45.setTop (mkF m 209 #[.val (.int p1), .val (.int p2), .val (.int p3), .val (.int p4), .val (.int p5), .val (.int c0), .val (.int c1), .val (.int c2), .val (.int c3), .val (.ref b), .val (.int (Int32.ofNat na)), .val (.int (Int32.ofNat nb)), .val (.int (1 : Int32)), .val (.int (-1 : Int32)), .val (.int (own_loop (own_f c0 c1 c2 c3) (nb - na) na 0))] [])) _
            refine XS.iconst X45.here hx rfl (hb hby at_209) ?_
            show Steps p.tables e below (T45.setTop (mkF m 210 #[.val (.int p1), .val (.int p2), .val (.int p3), .val (.int p4), .val (.int p5), .val (.int c0), .val (.int c1), .val (.int c2), .val (.int c3), .val (.ref b), .val (.int (Int32.ofNat na)), .val (.int (Int32.ofNat nb)), .val (.int (1 : Int32)), .val (.int (-1 : Int32)), .val (.int (own_loop (own_f c0 c1 c2 c3) (nb - na) na 0))] [(.int (1 : Int32))])) _
            refine XS.goto X45.here hx rfl (pc0 := 210) (pc' := 214) rfl (hb hby at_210) (by decide) (by decide) ?_
            show Steps p.tables e below (T45.setTop (mkF m 214 #[.val (.int p1), .val (.int p2), .val (.int p3), .val (.int p4), .val (.int p5), .val (.int c0), .val (.int c1), .val (.int c2), .val (.int c3), .val (.ref b), .val (.int (Int32.ofNat na)), .val (.int (Int32.ofNat nb)), .val (.int (1 : Int32)), .val (.int (-1 : Int32)), .val (.int (own_loop (own_f c0 c1 c2 c3) (nb - na) na 0))] [(.int (1 : Int32))])) _
            exact k
          obtain ⟨fs, hr, hrun, hended, hW, hsame⟩ := X45.leave (v := some (.int (1 : Int32))) (fun h => by rw [Bd.returns] at h; cases h)
          refine ⟨_, _, pre46 _ ?_, hrun, hended, _, _, rfl, ?_, ⟨_, rfl⟩, hW, hsame.mono (by decide) (by decide)⟩
          · exact retN X45 hx (t := .boolean) Bd.returns (by simp) (hb hby at_214) hr
          · show Q0 Z p1 p2 p3 p4 p5 h0 n0 _ T45.heap _
            rw [e45]
            exact ⟨rfl, N45⟩
      · have pre47 : ∀ t, Steps p.tables e below (T28.setTop (mkF m 197 #[.val (.int p1), .val (.int p2), .val (.int p3), .val (.int p4), .val (.int p5), .val (.int c0), .val (.int c1), .val (.int c2), .val (.int c3), .val (.ref b), .val (.int (Int32.ofNat na)), .val (.int (Int32.ofNat nb)), .val (.int (1 : Int32)), .val (.int (-1 : Int32)), .unset] [(.int (Int32.ofNat nb)), (.int (Int32.ofNat na)), (.ref b)])) t → Steps p.tables e below (s₁.setTop (entryFrame m #[(.int p1), (.int p2), (.int p3), (.int p4), (.int p5)] maxLocals)) t := by
          intro t k
          refine pre29 t ?_
          refine XS.ifYes X28.here hx rfl (pc0 := 112) (pc' := 128) rfl (hb hby at_112) rfl ((if0 _ _).trans (feq hb2).2) (by decide) (by decide) ?_
          show Steps p.tables e below (T28.setTop (mkF m 128 #[.val (.int p1), .val (.int p2), .val (.int p3), .val (.int p4), .val (.int p5), .val (.int c0), .val (.int c1), .val (.int c2), .val (.int c3), .val (.ref b), .val (.int (Int32.ofNat na)), .val (.int (Int32.ofNat nb)), .unset, .unset, .unset] [])) _
          refine XS.iconst X28.here hx rfl (hb hby at_128) ?_
          show Steps p.tables e below (T28.setTop (mkF m 129 #[.val (.int p1), .val (.int p2), .val (.int p3), .val (.int p4), .val (.int p5), .val (.int c0), .val (.int c1), .val (.int c2), .val (.int c3), .val (.ref b), .val (.int (Int32.ofNat na)), .val (.int (Int32.ofNat nb)), .unset, .unset, .unset] [(.int (1 : Int32))])) _
          refine XS.goto X28.here hx rfl (pc0 := 129) (pc' := 133) rfl (hb hby at_129) (by decide) (by decide) ?_
          show Steps p.tables e below (T28.setTop (mkF m 133 #[.val (.int p1), .val (.int p2), .val (.int p3), .val (.int p4), .val (.int p5), .val (.int c0), .val (.int c1), .val (.int c2), .val (.int c3), .val (.ref b), .val (.int (Int32.ofNat na)), .val (.int (Int32.ofNat nb)), .unset, .unset, .unset] [(.int (1 : Int32))])) _
          refine XS.istore X28.here hx rfl (hb hby at_133) rfl (l' := #[.val (.int p1), .val (.int p2), .val (.int p3), .val (.int p4), .val (.int p5), .val (.int c0), .val (.int c1), .val (.int c2), .val (.int c3), .val (.ref b), .val (.int (Int32.ofNat na)), .val (.int (Int32.ofNat nb)), .val (.int (1 : Int32)), .unset, .unset]) rfl ?_
          show Steps p.tables e below (T28.setTop (mkF m 135 #[.val (.int p1), .val (.int p2), .val (.int p3), .val (.int p4), .val (.int p5), .val (.int c0), .val (.int c1), .val (.int c2), .val (.int c3), .val (.ref b), .val (.int (Int32.ofNat na)), .val (.int (Int32.ofNat nb)), .val (.int (1 : Int32)), .unset, .unset] [])) _
          refine XS.iload X28.here hx rfl (hb hby at_135) rfl ?_
          show Steps p.tables e below (T28.setTop (mkF m 137 #[.val (.int p1), .val (.int p2), .val (.int p3), .val (.int p4), .val (.int p5), .val (.int c0), .val (.int c1), .val (.int c2), .val (.int c3), .val (.ref b), .val (.int (Int32.ofNat na)), .val (.int (Int32.ofNat nb)), .val (.int (1 : Int32)), .unset, .unset] [(.int (1 : Int32))])) _
          refine XS.ifNo X28.here hx rfl (hb hby at_137) rfl ((if0 _ _).trans (feq (by decide)).1) ?_
          show Steps p.tables e below (T28.setTop (mkF m 140 #[.val (.int p1), .val (.int p2), .val (.int p3), .val (.int p4), .val (.int p5), .val (.int c0), .val (.int c1), .val (.int c2), .val (.int c3), .val (.ref b), .val (.int (Int32.ofNat na)), .val (.int (Int32.ofNat nb)), .val (.int (1 : Int32)), .unset, .unset] [])) _
          refine XS.iconst X28.here hx rfl (hb hby at_140) ?_
          show Steps p.tables e below (T28.setTop (mkF m 141 #[.val (.int p1), .val (.int p2), .val (.int p3), .val (.int p4), .val (.int p5), .val (.int c0), .val (.int c1), .val (.int c2), .val (.int c3), .val (.ref b), .val (.int (Int32.ofNat na)), .val (.int (Int32.ofNat nb)), .val (.int (1 : Int32)), .unset, .unset] [(.int (-1 : Int32))])) _
          refine XS.istore X28.here hx rfl (hb hby at_141) rfl (l' := #[.val (.int p1), .val (.int p2), .val (.int p3), .val (.int p4), .val (.int p5), .val (.int c0), .val (.int c1), .val (.int c2), .val (.int c3), .val (.ref b), .val (.int (Int32.ofNat na)), .val (.int (Int32.ofNat nb)), .val (.int (1 : Int32)), .val (.int (-1 : Int32)), .unset]) rfl ?_
          show Steps p.tables e below (T28.setTop (mkF m 143 #[.val (.int p1), .val (.int p2), .val (.int p3), .val (.int p4), .val (.int p5), .val (.int c0), .val (.int c1), .val (.int c2), .val (.int c3), .val (.ref b), .val (.int (Int32.ofNat na)), .val (.int (Int32.ofNat nb)), .val (.int (1 : Int32)), .val (.int (-1 : Int32)), .unset] [])) _
          refine XS.goto X28.here hx rfl (pc0 := 143) (pc' := 191) rfl (hb hby at_143) (by decide) (by decide) ?_
          show Steps p.tables e below (T28.setTop (mkF m 191 #[.val (.int p1), .val (.int p2), .val (.int p3), .val (.int p4), .val (.int p5), .val (.int c0), .val (.int c1), .val (.int c2), .val (.int c3), .val (.ref b), .val (.int (Int32.ofNat na)), .val (.int (Int32.ofNat nb)), .val (.int (1 : Int32)), .val (.int (-1 : Int32)), .unset] [])) _
          refine XS.aload X28.here hx rfl (hb hby at_191) rfl rfl ?_
          show Steps p.tables e below (T28.setTop (mkF m 193 #[.val (.int p1), .val (.int p2), .val (.int p3), .val (.int p4), .val (.int p5), .val (.int c0), .val (.int c1), .val (.int c2), .val (.int c3), .val (.ref b), .val (.int (Int32.ofNat na)), .val (.int (Int32.ofNat nb)), .val (.int (1 : Int32)), .val (.int (-1 : Int32)), .unset] [(.ref b)])) _
          refine XS.iload X28.here hx rfl (hb hby at_193) rfl ?_
          show Steps p.tables e below (T28.setTop (mkF m 195 #[.val (.int p1), .val (.int p2), .val (.int p3), .val (.int p4), .val (.int p5), .val (.int c0), .val (.int c1), .val (.int c2), .val (.int c3), .val (.ref b), .val (.int (Int32.ofNat na)), .val (.int (Int32.ofNat nb)), .val (.int (1 : Int32)), .val (.int (-1 : Int32)), .unset] [(.int (Int32.ofNat na)), (.ref b)])) _
          refine XS.iload X28.here hx rfl (hb hby at_195) rfl ?_
          show Steps p.tables e below (T28.setTop (mkF m 197 #[.val (.int p1), .val (.int p2), .val (.int p3), .val (.int p4), .val (.int p5), .val (.int c0), .val (.int c1), .val (.int c2), .val (.int c3), .val (.ref b), .val (.int (Int32.ofNat na)), .val (.int (Int32.ofNat nb)), .val (.int (1 : Int32)), .val (.int (-1 : Int32)), .unset] [(.int (Int32.ofNat nb)), (.int (Int32.ofNat na)), (.ref b)])) _
          exact k
        obtain ⟨_, _, ⟨T48, L48, k48, n48⟩, -, X48, ⟨Lc48, hQ48, l48, y48, z48⟩, st48⟩ := Jvm.LawKit.callS X28 hx (y := (⟨"com/example/bondsmith/bondsmith/MonthDays", "digits", "([CII)I"⟩ : MethodName)) hown (mvT hZ (hw _ (List.mem_of_getElem? (i := 13) rfl))) (mvT hZ (hw _ (List.mem_of_getElem? (i := 14) rfl))) (mvT hZ (hw _ (List.mem_of_getElem? (i := 15) rfl))) (mvT hZ (hw _ (List.mem_of_getElem? (i := 16) rfl))) (by decide) (backOf (W := 0) (rm5 l Z a0 hw [] b kb c0 c1 c2 c3 na nb h18 n0 z18 V4 hab hb4) hZ (hw _ (List.mem_of_getElem? (i := 16) rfl)) (hw _ (List.mem_of_getElem? (i := 15) rfl)) (by decide) (by decide)) (g := (mkF m 197 #[.val (.int p1), .val (.int p2), .val (.int p3), .val (.int p4), .val (.int p5), .val (.int c0), .val (.int c1), .val (.int c2), .val (.int c3), .val (.ref b), .val (.int (Int32.ofNat na)), .val (.int (Int32.ofNat nb)), .val (.int (1 : Int32)), .val (.int (-1 : Int32)), .unset] [(.int (Int32.ofNat nb)), (.int (Int32.ofNat na)), (.ref b)])) rfl (by rw [hml]; rfl) (argsL := [(.ref b), (.int (Int32.ofNat na)), (.int (Int32.ofNat nb))]) (rest := []) (lenOf pd_g rfl) rfl (by show 2 * 0 + _ ≤ _; exact Nat.le_of_eq rfl) (hb hby at_197) (fun _ _ => ⟨rfl, e28, (by decide : 1 + 0 ≤ _), (by decide : 4 + 0 ≤ _)⟩)
        dsimp only [Pt.U, Pt.locs, Pt.cells, Pt.slots] at X48 l48 y48 z48 st48 hQ48
        subst l48 y48 z48
        obtain ⟨rfl, N48q, e48⟩ := hQ48
        have N48 := Fr.app N28 N48q
        have hv : own_loop (own_f c0 c1 c2 c3) (nb - na) na 0 = (-1 : Int32) := own_yes c0 c1 c2 c3 hab hb4 (Or.inr (Or.inr (Or.inl hb2)))
        have pre49 : ∀ t, Steps p.tables e below (T48.setTop (mkF m 214 #[.val (.int p1), .val (.int p2), .val (.int p3), .val (.int p4), .val (.int p5), .val (.int c0), .val (.int c1), .val (.int c2), .val (.int c3), .val (.ref b), .val (.int (Int32.ofNat na)), .val (.int (Int32.ofNat nb)), .val (.int (1 : Int32)), .val (.int (-1 : Int32)), .val (.int (own_loop (own_f c0 c1 c2 c3) (nb - na) na 0))] [(.int (1 : Int32))])) t → Steps p.tables e below (s₁.setTop (entryFrame m #[(.int p1), (.int p2), (.int p3), (.int p4), (.int p5)] maxLocals)) t := by
          intro t k
          refine pre47 t ?_
          refine st48 _ ?_
          show Steps p.tables e below (T48.setTop (mkF m 200 #[.val (.int p1), .val (.int p2), .val (.int p3), .val (.int p4), .val (.int p5), .val (.int c0), .val (.int c1), .val (.int c2), .val (.int c3), .val (.ref b), .val (.int (Int32.ofNat na)), .val (.int (Int32.ofNat nb)), .val (.int (1 : Int32)), .val (.int (-1 : Int32)), .unset] [(.int (own_loop (own_f c0 c1 c2 c3) (nb - na) na 0))])) _
          refine XS.istore X48.here hx rfl (hb hby at_200) rfl (l' := #[.val (.int p1), .val (.int p2), .val (.int p3), .val (.int p4), .val (.int p5), .val (.int c0), .val (.int c1), .val (.int c2), .val (.int c3), .val (.ref b), .val (.int (Int32.ofNat na)), .val (.int (Int32.ofNat nb)), .val (.int (1 : Int32)), .val (.int (-1 : Int32)), .val (.int (own_loop (own_f c0 c1 c2 c3) (nb - na) na 0))]) rfl ?_
          show Steps p.tables e below (T48.setTop (mkF m 202 #[.val (.int p1), .val (.int p2), .val (.int p3), .val (.int p4), .val (.int p5), .val (.int c0), .val (.int c1), .val (.int c2), .val (.int c3), .val (.ref b), .val (.int (Int32.ofNat na)), .val (.int (Int32.ofNat nb)), .val (.int (1 : Int32)), .val (.int (-1 : Int32)), .val (.int (own_loop (own_f c0 c1 c2 c3) (nb - na) na 0))] [])) _
          refine XS.iload X48.here hx rfl (hb hby at_202) rfl ?_
          show Steps p.tables e below (T48.setTop (mkF m 204 #[.val (.int p1), .val (.int p2), .val (.int p3), .val (.int p4), .val (.int p5), .val (.int c0), .val (.int c1), .val (.int c2), .val (.int c3), .val (.ref b), .val (.int (Int32.ofNat na)), .val (.int (Int32.ofNat nb)), .val (.int (1 : Int32)), .val (.int (-1 : Int32)), .val (.int (own_loop (own_f c0 c1 c2 c3) (nb - na) na 0))] [(.int (own_loop (own_f c0 c1 c2 c3) (nb - na) na 0))])) _
          refine XS.iload X48.here hx rfl (hb hby at_204) rfl ?_
          show Steps p.tables e below (T48.setTop (mkF m 206 #[.val (.int p1), .val (.int p2), .val (.int p3), .val (.int p4), .val (.int p5), .val (.int c0), .val (.int c1), .val (.int c2), .val (.int c3), .val (.ref b), .val (.int (Int32.ofNat na)), .val (.int (Int32.ofNat nb)), .val (.int (1 : Int32)), .val (.int (-1 : Int32)), .val (.int (own_loop (own_f c0 c1 c2 c3) (nb - na) na 0))] [(.int (-1 : Int32)), (.int (own_loop (own_f c0 c1 c2 c3) (nb - na) na 0))])) _
          refine XS.icmpNo X48.here hx rfl (hb hby at_206) rfl (teq hv).2 ?_
          show Steps p.tables e below (T48.setTop (mkF m 209 #[.val (.int p1), .val (.int p2), .val (.int p3), .val (.int p4), .val (.int p5), .val (.int c0), .val (.int c1), .val (.int c2), .val (.int c3), .val (.ref b), .val (.int (Int32.ofNat na)), .val (.int (Int32.ofNat nb)), .val (.int (1 : Int32)), .val (.int (-1 : Int32)), .val (.int (own_loop (own_f c0 c1 c2 c3) (nb - na) na 0))] [])) _
          refine XS.iconst X48.here hx rfl (hb hby at_209) ?_
          show Steps p.tables e below (T48.setTop (mkF m 210 #[.val (.int p1), .val (.int p2), .val (.int p3), .val (.int p4), .val (.int p5), .val (.int c0), .val (.int c1), .val (.int c2), .val (.int c3), .val (.ref b), .val (.int (Int32.ofNat na)), .val (.int (Int32.ofNat nb)), .val (.int (1 : Int32)), .val (.int (-1 : Int32)), .val (.int (own_loop (own_f c0 c1 c2 c3) (nb - na) na 0))] [(.int (1 : Int32))])) _
          refine XS.goto X48.here hx rfl (pc0 := 210) (pc' := 214) rfl (hb hby at_210) (by decide) (by decide) ?_
          show Steps p.tables e below (T48.setTop (mkF m 214 #[.val (.int p1), .val (.int p2), .val (.int p3), .val (.int p4), .val (.int p5), .val (.int c0), .val (.int c1), .val (.int c2), .val (.int c3), .val (.ref b), .val (.int (Int32.ofNat na)), .val (.int (Int32.ofNat nb)), .val (.int (1 : Int32)), .val (.int (-1 : Int32)), .val (.int (own_loop (own_f c0 c1 c2 c3) (nb - na) na 0))] [(.int (1 : Int32))])) _
          exact k
        obtain ⟨fs, hr, hrun, hended, hW, hsame⟩ := X48.leave (v := some (.int (1 : Int32))) (fun h => by rw [Bd.returns] at h; cases h)
        refine ⟨_, _, pre49 _ ?_, hrun, hended, _, _, rfl, ?_, ⟨_, rfl⟩, hW, hsame.mono (by decide) (by decide)⟩
        · exact retN X48 hx (t := .boolean) Bd.returns (by simp) (hb hby at_214) hr
        · show Q0 Z p1 p2 p3 p4 p5 h0 n0 _ T48.heap _
          rw [e48]
          exact ⟨rfl, N48⟩
    · have pre50 : ∀ t, Steps p.tables e below (T25.setTop (mkF m 197 #[.val (.int p1), .val (.int p2), .val (.int p3), .val (.int p4), .val (.int p5), .val (.int c0), .val (.int c1), .val (.int c2), .val (.int c3), .val (.ref b), .val (.int (Int32.ofNat na)), .val (.int (Int32.ofNat nb)), .val (.int (1 : Int32)), .val (.int (-1 : Int32)), .unset] [(.int (Int32.ofNat nb)), (.int (Int32.ofNat na)), (.ref b)])) t → Steps p.tables e below (s₁.setTop (entryFrame m #[(.int p1), (.int p2), (.int p3), (.int p4), (.int p5)] maxLocals)) t := by
        intro t k
        refine pre26 t ?_
        refine XS.ifYes X25.here hx rfl (pc0 := 99) (pc' := 128) rfl (hb hby at_99) rfl ((if0 _ _).trans (feq hb1).2) (by decide) (by decide) ?_
        show Steps p.tables e below (T25.setTop (mkF m 128 #[.val (.int p1), .val (.int p2), .val (.int p3), .val (.int p4), .val (.int p5), .val (.int c0), .val (.int c1), .val (.int c2), .val (.int c3), .val (.ref b), .val (.int (Int32.ofNat na)), .val (.int (Int32.ofNat nb)), .unset, .unset, .unset] [])) _
        refine XS.iconst X25.here hx rfl (hb hby at_128) ?_
        show Steps p.tables e below (T25.setTop (mkF m 129 #[.val (.int p1), .val (.int p2), .val (.int p3), .val (.int p4), .val (.int p5), .val (.int c0), .val (.int c1), .val (.int c2), .val (.int c3), .val (.ref b), .val (.int (Int32.ofNat na)), .val (.int (Int32.ofNat nb)), .unset, .unset, .unset] [(.int (1 : Int32))])) _
        refine XS.goto X25.here hx rfl (pc0 := 129) (pc' := 133) rfl (hb hby at_129) (by decide) (by decide) ?_
        show Steps p.tables e below (T25.setTop (mkF m 133 #[.val (.int p1), .val (.int p2), .val (.int p3), .val (.int p4), .val (.int p5), .val (.int c0), .val (.int c1), .val (.int c2), .val (.int c3), .val (.ref b), .val (.int (Int32.ofNat na)), .val (.int (Int32.ofNat nb)), .unset, .unset, .unset] [(.int (1 : Int32))])) _
        refine XS.istore X25.here hx rfl (hb hby at_133) rfl (l' := #[.val (.int p1), .val (.int p2), .val (.int p3), .val (.int p4), .val (.int p5), .val (.int c0), .val (.int c1), .val (.int c2), .val (.int c3), .val (.ref b), .val (.int (Int32.ofNat na)), .val (.int (Int32.ofNat nb)), .val (.int (1 : Int32)), .unset, .unset]) rfl ?_
        show Steps p.tables e below (T25.setTop (mkF m 135 #[.val (.int p1), .val (.int p2), .val (.int p3), .val (.int p4), .val (.int p5), .val (.int c0), .val (.int c1), .val (.int c2), .val (.int c3), .val (.ref b), .val (.int (Int32.ofNat na)), .val (.int (Int32.ofNat nb)), .val (.int (1 : Int32)), .unset, .unset] [])) _
        refine XS.iload X25.here hx rfl (hb hby at_135) rfl ?_
        show Steps p.tables e below (T25.setTop (mkF m 137 #[.val (.int p1), .val (.int p2), .val (.int p3), .val (.int p4), .val (.int p5), .val (.int c0), .val (.int c1), .val (.int c2), .val (.int c3), .val (.ref b), .val (.int (Int32.ofNat na)), .val (.int (Int32.ofNat nb)), .val (.int (1 : Int32)), .unset, .unset] [(.int (1 : Int32))])) _
        refine XS.ifNo X25.here hx rfl (hb hby at_137) rfl ((if0 _ _).trans (feq (by decide)).1) ?_
        show Steps p.tables e below (T25.setTop (mkF m 140 #[.val (.int p1), .val (.int p2), .val (.int p3), .val (.int p4), .val (.int p5), .val (.int c0), .val (.int c1), .val (.int c2), .val (.int c3), .val (.ref b), .val (.int (Int32.ofNat na)), .val (.int (Int32.ofNat nb)), .val (.int (1 : Int32)), .unset, .unset] [])) _
        refine XS.iconst X25.here hx rfl (hb hby at_140) ?_
        show Steps p.tables e below (T25.setTop (mkF m 141 #[.val (.int p1), .val (.int p2), .val (.int p3), .val (.int p4), .val (.int p5), .val (.int c0), .val (.int c1), .val (.int c2), .val (.int c3), .val (.ref b), .val (.int (Int32.ofNat na)), .val (.int (Int32.ofNat nb)), .val (.int (1 : Int32)), .unset, .unset] [(.int (-1 : Int32))])) _
        refine XS.istore X25.here hx rfl (hb hby at_141) rfl (l' := #[.val (.int p1), .val (.int p2), .val (.int p3), .val (.int p4), .val (.int p5), .val (.int c0), .val (.int c1), .val (.int c2), .val (.int c3), .val (.ref b), .val (.int (Int32.ofNat na)), .val (.int (Int32.ofNat nb)), .val (.int (1 : Int32)), .val (.int (-1 : Int32)), .unset]) rfl ?_
        show Steps p.tables e below (T25.setTop (mkF m 143 #[.val (.int p1), .val (.int p2), .val (.int p3), .val (.int p4), .val (.int p5), .val (.int c0), .val (.int c1), .val (.int c2), .val (.int c3), .val (.ref b), .val (.int (Int32.ofNat na)), .val (.int (Int32.ofNat nb)), .val (.int (1 : Int32)), .val (.int (-1 : Int32)), .unset] [])) _
        refine XS.goto X25.here hx rfl (pc0 := 143) (pc' := 191) rfl (hb hby at_143) (by decide) (by decide) ?_
        show Steps p.tables e below (T25.setTop (mkF m 191 #[.val (.int p1), .val (.int p2), .val (.int p3), .val (.int p4), .val (.int p5), .val (.int c0), .val (.int c1), .val (.int c2), .val (.int c3), .val (.ref b), .val (.int (Int32.ofNat na)), .val (.int (Int32.ofNat nb)), .val (.int (1 : Int32)), .val (.int (-1 : Int32)), .unset] [])) _
        refine XS.aload X25.here hx rfl (hb hby at_191) rfl rfl ?_
        show Steps p.tables e below (T25.setTop (mkF m 193 #[.val (.int p1), .val (.int p2), .val (.int p3), .val (.int p4), .val (.int p5), .val (.int c0), .val (.int c1), .val (.int c2), .val (.int c3), .val (.ref b), .val (.int (Int32.ofNat na)), .val (.int (Int32.ofNat nb)), .val (.int (1 : Int32)), .val (.int (-1 : Int32)), .unset] [(.ref b)])) _
        refine XS.iload X25.here hx rfl (hb hby at_193) rfl ?_
        show Steps p.tables e below (T25.setTop (mkF m 195 #[.val (.int p1), .val (.int p2), .val (.int p3), .val (.int p4), .val (.int p5), .val (.int c0), .val (.int c1), .val (.int c2), .val (.int c3), .val (.ref b), .val (.int (Int32.ofNat na)), .val (.int (Int32.ofNat nb)), .val (.int (1 : Int32)), .val (.int (-1 : Int32)), .unset] [(.int (Int32.ofNat na)), (.ref b)])) _
        refine XS.iload X25.here hx rfl (hb hby at_195) rfl ?_
        show Steps p.tables e below (T25.setTop (mkF m 197 #[.val (.int p1), .val (.int p2), .val (.int p3), .val (.int p4), .val (.int p5), .val (.int c0), .val (.int c1), .val (.int c2), .val (.int c3), .val (.ref b), .val (.int (Int32.ofNat na)), .val (.int (Int32.ofNat nb)), .val (.int (1 : Int32)), .val (.int (-1 : Int32)), .unset] [(.int (Int32.ofNat nb)), (.int (Int32.ofNat na)), (.ref b)])) _
        exact k
      obtain ⟨_, _, ⟨T51, L51, k51, n51⟩, -, X51, ⟨Lc51, hQ51, l51, y51, z51⟩, st51⟩ := Jvm.LawKit.callS X25 hx (y := (⟨"com/example/bondsmith/bondsmith/MonthDays", "digits", "([CII)I"⟩ : MethodName)) hown (mvT hZ (hw _ (List.mem_of_getElem? (i := 13) rfl))) (mvT hZ (hw _ (List.mem_of_getElem? (i := 14) rfl))) (mvT hZ (hw _ (List.mem_of_getElem? (i := 15) rfl))) (mvT hZ (hw _ (List.mem_of_getElem? (i := 16) rfl))) (by decide) (backOf (W := 0) (rm5 l Z a0 hw [] b kb c0 c1 c2 c3 na nb h18 n0 z18 V4 hab hb4) hZ (hw _ (List.mem_of_getElem? (i := 16) rfl)) (hw _ (List.mem_of_getElem? (i := 15) rfl)) (by decide) (by decide)) (g := (mkF m 197 #[.val (.int p1), .val (.int p2), .val (.int p3), .val (.int p4), .val (.int p5), .val (.int c0), .val (.int c1), .val (.int c2), .val (.int c3), .val (.ref b), .val (.int (Int32.ofNat na)), .val (.int (Int32.ofNat nb)), .val (.int (1 : Int32)), .val (.int (-1 : Int32)), .unset] [(.int (Int32.ofNat nb)), (.int (Int32.ofNat na)), (.ref b)])) rfl (by rw [hml]; rfl) (argsL := [(.ref b), (.int (Int32.ofNat na)), (.int (Int32.ofNat nb))]) (rest := []) (lenOf pd_g rfl) rfl (by show 2 * 0 + _ ≤ _; exact Nat.le_of_eq rfl) (hb hby at_197) (fun _ _ => ⟨rfl, e25, (by decide : 1 + 0 ≤ _), (by decide : 4 + 0 ≤ _)⟩)
      dsimp only [Pt.U, Pt.locs, Pt.cells, Pt.slots] at X51 l51 y51 z51 st51 hQ51
      subst l51 y51 z51
      obtain ⟨rfl, N51q, e51⟩ := hQ51
      have N51 := Fr.app N25 N51q
      have hv : own_loop (own_f c0 c1 c2 c3) (nb - na) na 0 = (-1 : Int32) := own_yes c0 c1 c2 c3 hab hb4 (Or.inr (Or.inl hb1))
      have pre52 : ∀ t, Steps p.tables e below (T51.setTop (mkF m 214 #[.val (.int p1), .val (.int p2), .val (.int p3), .val (.int p4), .val (.int p5), .val (.int c0), .val (.int c1), .val (.int c2), .val (.int c3), .val (.ref b), .val (.int (Int32.ofNat na)), .val (.int (Int32.ofNat nb)), .val (.int (1 : Int32)), .val (.int (-1 : Int32)), .val (.int (own_loop (own_f c0 c1 c2 c3) (nb - na) na 0))] [(.int (1 : Int32))])) t → Steps p.tables e below (s₁.setTop (entryFrame m #[(.int p1), (.int p2), (.int p3), (.int p4), (.int p5)] maxLocals)) t := by
        intro t k
        refine pre50 t ?_
        refine st51 _ ?_
        show Steps p.tables e below (T51.setTop (mkF m 200 #[.val (.int p1), .val (.int p2), .val (.int p3), .val (.int p4), .val (.int p5), .val (.int c0), .val (.int c1), .val (.int c2), .val (.int c3), .val (.ref b), .val (.int (Int32.ofNat na)), .val (.int (Int32.ofNat nb)), .val (.int (1 : Int32)), .val (.int (-1 : Int32)), .unset] [(.int (own_loop (own_f c0 c1 c2 c3) (nb - na) na 0))])) _
        refine XS.istore X51.here hx rfl (hb hby at_200) rfl (l' := #[.val (.int p1), .val (.int p2), .val (.int p3), .val (.int p4), .val (.int p5), .val (.int c0), .val (.int c1), .val (.int c2), .val (.int c3), .val (.ref b), .val (.int (Int32.ofNat na)), .val (.int (Int32.ofNat nb)), .val (.int (1 : Int32)), .val (.int (-1 : Int32)), .val (.int (own_loop (own_f c0 c1 c2 c3) (nb - na) na 0))]) rfl ?_
        show Steps p.tables e below (T51.setTop (mkF m 202 #[.val (.int p1), .val (.int p2), .val (.int p3), .val (.int p4), .val (.int p5), .val (.int c0), .val (.int c1), .val (.int c2), .val (.int c3), .val (.ref b), .val (.int (Int32.ofNat na)), .val (.int (Int32.ofNat nb)), .val (.int (1 : Int32)), .val (.int (-1 : Int32)), .val (.int (own_loop (own_f c0 c1 c2 c3) (nb - na) na 0))] [])) _
        refine XS.iload X51.here hx rfl (hb hby at_202) rfl ?_
        show Steps p.tables e below (T51.setTop (mkF m 204 #[.val (.int p1), .val (.int p2), .val (.int p3), .val (.int p4), .val (.int p5), .val (.int c0), .val (.int c1), .val (.int c2), .val (.int c3), .val (.ref b), .val (.int (Int32.ofNat na)), .val (.int (Int32.ofNat nb)), .val (.int (1 : Int32)), .val (.int (-1 : Int32)), .val (.int (own_loop (own_f c0 c1 c2 c3) (nb - na) na 0))] [(.int (own_loop (own_f c0 c1 c2 c3) (nb - na) na 0))])) _
        refine XS.iload X51.here hx rfl (hb hby at_204) rfl ?_
        show Steps p.tables e below (T51.setTop (mkF m 206 #[.val (.int p1), .val (.int p2), .val (.int p3), .val (.int p4), .val (.int p5), .val (.int c0), .val (.int c1), .val (.int c2), .val (.int c3), .val (.ref b), .val (.int (Int32.ofNat na)), .val (.int (Int32.ofNat nb)), .val (.int (1 : Int32)), .val (.int (-1 : Int32)), .val (.int (own_loop (own_f c0 c1 c2 c3) (nb - na) na 0))] [(.int (-1 : Int32)), (.int (own_loop (own_f c0 c1 c2 c3) (nb - na) na 0))])) _
        refine XS.icmpNo X51.here hx rfl (hb hby at_206) rfl (teq hv).2 ?_
        show Steps p.tables e below (T51.setTop (mkF m 209 #[.val (.int p1), .val (.int p2), .val (.int p3), .val (.int p4), .val (.int p5), .val (.int c0), .val (.int c1), .val (.int c2), .val (.int c3), .val (.ref b), .val (.int (Int32.ofNat na)), .val (.int (Int32.ofNat nb)), .val (.int (1 : Int32)), .val (.int (-1 : Int32)), .val (.int (own_loop (own_f c0 c1 c2 c3) (nb - na) na 0))] [])) _
        refine XS.iconst X51.here hx rfl (hb hby at_209) ?_
        show Steps p.tables e below (T51.setTop (mkF m 210 #[.val (.int p1), .val (.int p2), .val (.int p3), .val (.int p4), .val (.int p5), .val (.int c0), .val (.int c1), .val (.int c2), .val (.int c3), .val (.ref b), .val (.int (Int32.ofNat na)), .val (.int (Int32.ofNat nb)), .val (.int (1 : Int32)), .val (.int (-1 : Int32)), .val (.int (own_loop (own_f c0 c1 c2 c3) (nb - na) na 0))] [(.int (1 : Int32))])) _
        refine XS.goto X51.here hx rfl (pc0 := 210) (pc' := 214) rfl (hb hby at_210) (by decide) (by decide) ?_
        show Steps p.tables e below (T51.setTop (mkF m 214 #[.val (.int p1), .val (.int p2), .val (.int p3), .val (.int p4), .val (.int p5), .val (.int c0), .val (.int c1), .val (.int c2), .val (.int c3), .val (.ref b), .val (.int (Int32.ofNat na)), .val (.int (Int32.ofNat nb)), .val (.int (1 : Int32)), .val (.int (-1 : Int32)), .val (.int (own_loop (own_f c0 c1 c2 c3) (nb - na) na 0))] [(.int (1 : Int32))])) _
        exact k
      obtain ⟨fs, hr, hrun, hended, hW, hsame⟩ := X51.leave (v := some (.int (1 : Int32))) (fun h => by rw [Bd.returns] at h; cases h)
      refine ⟨_, _, pre52 _ ?_, hrun, hended, _, _, rfl, ?_, ⟨_, rfl⟩, hW, hsame.mono (by decide) (by decide)⟩
      · exact retN X51 hx (t := .boolean) Bd.returns (by simp) (hb hby at_214) hr
      · show Q0 Z p1 p2 p3 p4 p5 h0 n0 _ T51.heap _
        rw [e51]
        exact ⟨rfl, N51⟩
  · have pre53 : ∀ t, Steps p.tables e below (T22.setTop (mkF m 197 #[.val (.int p1), .val (.int p2), .val (.int p3), .val (.int p4), .val (.int p5), .val (.int c0), .val (.int c1), .val (.int c2), .val (.int c3), .val (.ref b), .val (.int (Int32.ofNat na)), .val (.int (Int32.ofNat nb)), .val (.int (1 : Int32)), .val (.int (-1 : Int32)), .unset] [(.int (Int32.ofNat nb)), (.int (Int32.ofNat na)), (.ref b)])) t → Steps p.tables e below (s₁.setTop (entryFrame m #[(.int p1), (.int p2), (.int p3), (.int p4), (.int p5)] maxLocals)) t := by
      intro t k
      refine pre23 t ?_
      refine XS.ifYes X22.here hx rfl (pc0 := 86) (pc' := 128) rfl (hb hby at_86) rfl ((if0 _ _).trans (feq hb0).2) (by decide) (by decide) ?_
      show Steps p.tables e below (T22.setTop (mkF m 128 #[.val (.int p1), .val (.int p2), .val (.int p3), .val (.int p4), .val (.int p5), .val (.int c0), .val (.int c1), .val (.int c2), .val (.int c3), .val (.ref b), .val (.int (Int32.ofNat na)), .val (.int (Int32.ofNat nb)), .unset, .unset, .unset] [])) _
      refine XS.iconst X22.here hx rfl (hb hby at_128) ?_
      show Steps p.tables e below (T22.setTop (mkF m 129 #[.val (.int p1), .val (.int p2), .val (.int p3), .val (.int p4), .val (.int p5), .val (.int c0), .val (.int c1), .val (.int c2), .val (.int c3), .val (.ref b), .val (.int (Int32.ofNat na)), .val (.int (Int32.ofNat nb)), .unset, .unset, .unset] [(.int (1 : Int32))])) _
      refine XS.goto X22.here hx rfl (pc0 := 129) (pc' := 133) rfl (hb hby at_129) (by decide) (by decide) ?_
      show Steps p.tables e below (T22.setTop (mkF m 133 #[.val (.int p1), .val (.int p2), .val (.int p3), .val (.int p4), .val (.int p5), .val (.int c0), .val (.int c1), .val (.int c2), .val (.int c3), .val (.ref b), .val (.int (Int32.ofNat na)), .val (.int (Int32.ofNat nb)), .unset, .unset, .unset] [(.int (1 : Int32))])) _
      refine XS.istore X22.here hx rfl (hb hby at_133) rfl (l' := #[.val (.int p1), .val (.int p2), .val (.int p3), .val (.int p4), .val (.int p5), .val (.int c0), .val (.int c1), .val (.int c2), .val (.int c3), .val (.ref b), .val (.int (Int32.ofNat na)), .val (.int (Int32.ofNat nb)), .val (.int (1 : Int32)), .unset, .unset]) rfl ?_
      show Steps p.tables e below (T22.setTop (mkF m 135 #[.val (.int p1), .val (.int p2), .val (.int p3), .val (.int p4), .val (.int p5), .val (.int c0), .val (.int c1), .val (.int c2), .val (.int c3), .val (.ref b), .val (.int (Int32.ofNat na)), .val (.int (Int32.ofNat nb)), .val (.int (1 : Int32)), .unset, .unset] [])) _
      refine XS.iload X22.here hx rfl (hb hby at_135) rfl ?_
      show Steps p.tables e below (T22.setTop (mkF m 137 #[.val (.int p1), .val (.int p2), .val (.int p3), .val (.int p4), .val (.int p5), .val (.int c0), .val (.int c1), .val (.int c2), .val (.int c3), .val (.ref b), .val (.int (Int32.ofNat na)), .val (.int (Int32.ofNat nb)), .val (.int (1 : Int32)), .unset, .unset] [(.int (1 : Int32))])) _
      refine XS.ifNo X22.here hx rfl (hb hby at_137) rfl ((if0 _ _).trans (feq (by decide)).1) ?_
      show Steps p.tables e below (T22.setTop (mkF m 140 #[.val (.int p1), .val (.int p2), .val (.int p3), .val (.int p4), .val (.int p5), .val (.int c0), .val (.int c1), .val (.int c2), .val (.int c3), .val (.ref b), .val (.int (Int32.ofNat na)), .val (.int (Int32.ofNat nb)), .val (.int (1 : Int32)), .unset, .unset] [])) _
      refine XS.iconst X22.here hx rfl (hb hby at_140) ?_
      show Steps p.tables e below (T22.setTop (mkF m 141 #[.val (.int p1), .val (.int p2), .val (.int p3), .val (.int p4), .val (.int p5), .val (.int c0), .val (.int c1), .val (.int c2), .val (.int c3), .val (.ref b), .val (.int (Int32.ofNat na)), .val (.int (Int32.ofNat nb)), .val (.int (1 : Int32)), .unset, .unset] [(.int (-1 : Int32))])) _
      refine XS.istore X22.here hx rfl (hb hby at_141) rfl (l' := #[.val (.int p1), .val (.int p2), .val (.int p3), .val (.int p4), .val (.int p5), .val (.int c0), .val (.int c1), .val (.int c2), .val (.int c3), .val (.ref b), .val (.int (Int32.ofNat na)), .val (.int (Int32.ofNat nb)), .val (.int (1 : Int32)), .val (.int (-1 : Int32)), .unset]) rfl ?_
      show Steps p.tables e below (T22.setTop (mkF m 143 #[.val (.int p1), .val (.int p2), .val (.int p3), .val (.int p4), .val (.int p5), .val (.int c0), .val (.int c1), .val (.int c2), .val (.int c3), .val (.ref b), .val (.int (Int32.ofNat na)), .val (.int (Int32.ofNat nb)), .val (.int (1 : Int32)), .val (.int (-1 : Int32)), .unset] [])) _
      refine XS.goto X22.here hx rfl (pc0 := 143) (pc' := 191) rfl (hb hby at_143) (by decide) (by decide) ?_
      show Steps p.tables e below (T22.setTop (mkF m 191 #[.val (.int p1), .val (.int p2), .val (.int p3), .val (.int p4), .val (.int p5), .val (.int c0), .val (.int c1), .val (.int c2), .val (.int c3), .val (.ref b), .val (.int (Int32.ofNat na)), .val (.int (Int32.ofNat nb)), .val (.int (1 : Int32)), .val (.int (-1 : Int32)), .unset] [])) _
      refine XS.aload X22.here hx rfl (hb hby at_191) rfl rfl ?_
      show Steps p.tables e below (T22.setTop (mkF m 193 #[.val (.int p1), .val (.int p2), .val (.int p3), .val (.int p4), .val (.int p5), .val (.int c0), .val (.int c1), .val (.int c2), .val (.int c3), .val (.ref b), .val (.int (Int32.ofNat na)), .val (.int (Int32.ofNat nb)), .val (.int (1 : Int32)), .val (.int (-1 : Int32)), .unset] [(.ref b)])) _
      refine XS.iload X22.here hx rfl (hb hby at_193) rfl ?_
      show Steps p.tables e below (T22.setTop (mkF m 195 #[.val (.int p1), .val (.int p2), .val (.int p3), .val (.int p4), .val (.int p5), .val (.int c0), .val (.int c1), .val (.int c2), .val (.int c3), .val (.ref b), .val (.int (Int32.ofNat na)), .val (.int (Int32.ofNat nb)), .val (.int (1 : Int32)), .val (.int (-1 : Int32)), .unset] [(.int (Int32.ofNat na)), (.ref b)])) _
      refine XS.iload X22.here hx rfl (hb hby at_195) rfl ?_
      show Steps p.tables e below (T22.setTop (mkF m 197 #[.val (.int p1), .val (.int p2), .val (.int p3), .val (.int p4), .val (.int p5), .val (.int c0), .val (.int c1), .val (.int c2), .val (.int c3), .val (.ref b), .val (.int (Int32.ofNat na)), .val (.int (Int32.ofNat nb)), .val (.int (1 : Int32)), .val (.int (-1 : Int32)), .unset] [(.int (Int32.ofNat nb)), (.int (Int32.ofNat na)), (.ref b)])) _
      exact k
    obtain ⟨_, _, ⟨T54, L54, k54, n54⟩, -, X54, ⟨Lc54, hQ54, l54, y54, z54⟩, st54⟩ := Jvm.LawKit.callS X22 hx (y := (⟨"com/example/bondsmith/bondsmith/MonthDays", "digits", "([CII)I"⟩ : MethodName)) hown (mvT hZ (hw _ (List.mem_of_getElem? (i := 13) rfl))) (mvT hZ (hw _ (List.mem_of_getElem? (i := 14) rfl))) (mvT hZ (hw _ (List.mem_of_getElem? (i := 15) rfl))) (mvT hZ (hw _ (List.mem_of_getElem? (i := 16) rfl))) (by decide) (backOf (W := 0) (rm5 l Z a0 hw [] b kb c0 c1 c2 c3 na nb h18 n0 z18 V4 hab hb4) hZ (hw _ (List.mem_of_getElem? (i := 16) rfl)) (hw _ (List.mem_of_getElem? (i := 15) rfl)) (by decide) (by decide)) (g := (mkF m 197 #[.val (.int p1), .val (.int p2), .val (.int p3), .val (.int p4), .val (.int p5), .val (.int c0), .val (.int c1), .val (.int c2), .val (.int c3), .val (.ref b), .val (.int (Int32.ofNat na)), .val (.int (Int32.ofNat nb)), .val (.int (1 : Int32)), .val (.int (-1 : Int32)), .unset] [(.int (Int32.ofNat nb)), (.int (Int32.ofNat na)), (.ref b)])) rfl (by rw [hml]; rfl) (argsL := [(.ref b), (.int (Int32.ofNat na)), (.int (Int32.ofNat nb))]) (rest := []) (lenOf pd_g rfl) rfl (by show 2 * 0 + _ ≤ _; exact Nat.le_of_eq rfl) (hb hby at_197) (fun _ _ => ⟨rfl, e22, (by decide : 1 + 0 ≤ _), (by decide : 4 + 0 ≤ _)⟩)
    dsimp only [Pt.U, Pt.locs, Pt.cells, Pt.slots] at X54 l54 y54 z54 st54 hQ54
    subst l54 y54 z54
    obtain ⟨rfl, N54q, e54⟩ := hQ54
    have N54 := Fr.app N22 N54q
    have hv : own_loop (own_f c0 c1 c2 c3) (nb - na) na 0 = (-1 : Int32) := own_yes c0 c1 c2 c3 hab hb4 (Or.inl hb0)
    have pre55 : ∀ t, Steps p.tables e below (T54.setTop (mkF m 214 #[.val (.int p1), .val (.int p2), .val (.int p3), .val (.int p4), .val (.int p5), .val (.int c0), .val (.int c1), .val (.int c2), .val (.int c3), .val (.ref b), .val (.int (Int32.ofNat na)), .val (.int (Int32.ofNat nb)), .val (.int (1 : Int32)), .val (.int (-1 : Int32)), .val (.int (own_loop (own_f c0 c1 c2 c3) (nb - na) na 0))] [(.int (1 : Int32))])) t → Steps p.tables e below (s₁.setTop (entryFrame m #[(.int p1), (.int p2), (.int p3), (.int p4), (.int p5)] maxLocals)) t := by
      intro t k
      refine pre53 t ?_
      refine st54 _ ?_
      show Steps p.tables e below (T54.setTop (mkF m 200 #[.val (.int p1), .val (.int p2), .val (.int p3), .val (.int p4), .val (.int p5), .val (.int c0), .val (.int c1), .val (.int c2), .val (.int c3), .val (.ref b), .val (.int (Int32.ofNat na)), .val (.int (Int32.ofNat nb)), .val (.int (1 : Int32)), .val (.int (-1 : Int32)), .unset] [(.int (own_loop (own_f c0 c1 c2 c3) (nb - na) na 0))])) _
      refine XS.istore X54.here hx rfl (hb hby at_200) rfl (l' := #[.val (.int p1), .val (.int p2), .val (.int p3), .val (.int p4), .val (.int p5), .val (.int c0), .val (.int c1), .val (.int c2), .val (.int c3), .val (.ref b), .val (.int (Int32.ofNat na)), .val (.int (Int32.ofNat nb)), .val (.int (1 : Int32)), .val (.int (-1 : Int32)), .val (.int (own_loop (own_f c0 c1 c2 c3) (nb - na) na 0))]) rfl ?_
      show Steps p.tables e below (T54.setTop (mkF m 202 #[.val (.int p1), .val (.int p2), .val (.int p3), .val (.int p4), .val (.int p5), .val (.int c0), .val (.int c1), .val (.int c2), .val (.int c3), .val (.ref b), .val (.int (Int32.ofNat na)), .val (.int (Int32.ofNat nb)), .val (.int (1 : Int32)), .val (.int (-1 : Int32)), .val (.int (own_loop (own_f c0 c1 c2 c3) (nb - na) na 0))] [])) _
      refine XS.iload X54.here hx rfl (hb hby at_202) rfl ?_
      show Steps p.tables e below (T54.setTop (mkF m 204 #[.val (.int p1), .val (.int p2), .val (.int p3), .val (.int p4), .val (.int p5), .val (.int c0), .val (.int c1), .val (.int c2), .val (.int c3), .val (.ref b), .val (.int (Int32.ofNat na)), .val (.int (Int32.ofNat nb)), .val (.int (1 : Int32)), .val (.int (-1 : Int32)), .val (.int (own_loop (own_f c0 c1 c2 c3) (nb - na) na 0))] [(.int (own_loop (own_f c0 c1 c2 c3) (nb - na) na 0))])) _
      refine XS.iload X54.here hx rfl (hb hby at_204) rfl ?_
      show Steps p.tables e below (T54.setTop (mkF m 206 #[.val (.int p1), .val (.int p2), .val (.int p3), .val (.int p4), .val (.int p5), .val (.int c0), .val (.int c1), .val (.int c2), .val (.int c3), .val (.ref b), .val (.int (Int32.ofNat na)), .val (.int (Int32.ofNat nb)), .val (.int (1 : Int32)), .val (.int (-1 : Int32)), .val (.int (own_loop (own_f c0 c1 c2 c3) (nb - na) na 0))] [(.int (-1 : Int32)), (.int (own_loop (own_f c0 c1 c2 c3) (nb - na) na 0))])) _
      refine XS.icmpNo X54.here hx rfl (hb hby at_206) rfl (teq hv).2 ?_
      show Steps p.tables e below (T54.setTop (mkF m 209 #[.val (.int p1), .val (.int p2), .val (.int p3), .val (.int p4), .val (.int p5), .val (.int c0), .val (.int c1), .val (.int c2), .val (.int c3), .val (.ref b), .val (.int (Int32.ofNat na)), .val (.int (Int32.ofNat nb)), .val (.int (1 : Int32)), .val (.int (-1 : Int32)), .val (.int (own_loop (own_f c0 c1 c2 c3) (nb - na) na 0))] [])) _
      refine XS.iconst X54.here hx rfl (hb hby at_209) ?_
      show Steps p.tables e below (T54.setTop (mkF m 210 #[.val (.int p1), .val (.int p2), .val (.int p3), .val (.int p4), .val (.int p5), .val (.int c0), .val (.int c1), .val (.int c2), .val (.int c3), .val (.ref b), .val (.int (Int32.ofNat na)), .val (.int (Int32.ofNat nb)), .val (.int (1 : Int32)), .val (.int (-1 : Int32)), .val (.int (own_loop (own_f c0 c1 c2 c3) (nb - na) na 0))] [(.int (1 : Int32))])) _
      refine XS.goto X54.here hx rfl (pc0 := 210) (pc' := 214) rfl (hb hby at_210) (by decide) (by decide) ?_
      show Steps p.tables e below (T54.setTop (mkF m 214 #[.val (.int p1), .val (.int p2), .val (.int p3), .val (.int p4), .val (.int p5), .val (.int c0), .val (.int c1), .val (.int c2), .val (.int c3), .val (.ref b), .val (.int (Int32.ofNat na)), .val (.int (Int32.ofNat nb)), .val (.int (1 : Int32)), .val (.int (-1 : Int32)), .val (.int (own_loop (own_f c0 c1 c2 c3) (nb - na) na 0))] [(.int (1 : Int32))])) _
      exact k
    obtain ⟨fs, hr, hrun, hended, hW, hsame⟩ := X54.leave (v := some (.int (1 : Int32))) (fun h => by rw [Bd.returns] at h; cases h)
    refine ⟨_, _, pre55 _ ?_, hrun, hended, _, _, rfl, ?_, ⟨_, rfl⟩, hW, hsame.mono (by decide) (by decide)⟩
    · exact retN X54 hx (t := .boolean) Bd.returns (by simp) (hb hby at_214) hr
    · show Q0 Z p1 p2 p3 p4 p5 h0 n0 _ T54.heap _
      rw [e54]
      exact ⟨rfl, N54⟩
set_option maxRecDepth 65536 in
set_option maxHeartbeats 40000000 in
theorem comes_1 {Post : Tables → Env → Array Value → State → Outcome → State → Prop} (hpost : ∀ tb e args s v u, (limb_1_1.after args s (.returned v) u = true ∧ limb_1_2.after args s (.returned v) u = true ∧ True) → FrameEnd s (.returned v) u (Jvm.fieldLocs frame_1_writes args s ++ Jvm.arrayLocs frame_1_arrays args s ++ Jvm.staticLocs frame_1_statics s) 16 128 → Post tb e args s (.returned v) u) :
    ArmFor flags0 classFile x code maxLocals ret World_1 tables_1 room_1 Calls_1 rest_1 Pre_1 Post := by
  intro l hfl _ _ p e ha hc hk s m args below hf hA hF happ hP
  obtain ⟨hcalls, hrest, hpre⟩ := hP
  obtain ⟨-, -, -, hnamed, -, -, -, hat⟩ := (Spec.applies_iff hf).mp happ
  obtain ⟨hg, hn⟩ := and_e (Cond.before_iff.mp (show (Jvm.Cond.and given_1 narrow_1).before args s = true from hpre))
  obtain ⟨gc, r0⟩ := and_e hg
  obtain ⟨g0, r1⟩ := and_e r0
  obtain ⟨g1, r2⟩ := and_e r1
  obtain ⟨g2, r3⟩ := and_e r2
  obtain ⟨g3, g4⟩ := and_e r3
  obtain ⟨w0, w1, w2, w3, w4, rfl⟩ : ∃ w0 w1 w2 w3 w4 : Value, args = #[w0, w1, w2, w3, w4] := by
    have hs : args.size = 5 := by simpa [Cond.value, given_1] using gc
    obtain ⟨L⟩ := args
    match L, hs with
    | [w0, w1, w2, w3, w4], _ => exact ⟨w0, w1, w2, w3, w4, rfl⟩
  have hw := fun d (hd : d ∈ tables_1) => atoms_spec (ws := Jvm.Cond.code x code maxLocals ret :: tables_1) hat d (List.mem_cons_of_mem _ hd)
  obtain ⟨i0, ei0⟩ := is_v g0
  obtain rfl : w0 = (.int i0) := Option.some.inj ei0
  obtain ⟨i1, ei1⟩ := is_v g1
  obtain rfl : w1 = (.int i1) := Option.some.inj ei1
  obtain ⟨i2, ei2⟩ := is_v g2
  obtain rfl : w2 = (.int i2) := Option.some.inj ei2
  obtain ⟨i3, ei3⟩ := is_v g3
  obtain rfl : w3 = (.int i3) := Option.some.inj ei3
  obtain ⟨i4, ei4⟩ := is_v g4
  obtain rfl : w4 = (.int i4) := Option.some.inj ei4
  obtain ⟨n, o, h1, h2, h3, _, L, rfl, ⟨rfl, N⟩, hq⟩ := rm0 l s _ hw tables_1 i0 i1 i2 i3 i4 s.heap s.heap.size (Nat.le_refl _) p e ha hc hk s m _ below hf ((Spec.applies_iff_loose hf).mp happ).1 ⟨rfl, State.Warmed39.refl s, rfl⟩ trivial
  refine ⟨n, _, h1, h2, h3, hpost _ _ _ _ _ _ ⟨Cond.after_iff.mpr rfl, Cond.after_iff.mpr (eq_i res_at (Term.int_eval (1)) rfl), trivial⟩ ⟨hq.1, hq.2.1, (hq.2.2.sift fun y hy => Or.inr (N y hy)).mono (by decide) (by decide)⟩⟩
theorem main_1_1 : Claimed_1_1 := comes_1 fun _ _ _ _ _ _ h hF => ⟨h.1, hF⟩
theorem main_1_2 : Claimed_1_2 := comes_1 fun _ _ _ _ _ _ h hF => ⟨h.2.1, hF⟩
end Jvm.Pilot.@@N@@
namespace Jvm.Pilot.@@N@@
open Jvm Jvm.ClassFile Sem Op Lib Jvm.Free Jvm.Stand Jvm.Pilot.@@N@@.Jvm.D
/-! MADE BY PROGRAM (witnessworld.py) out of the Statement's table words and the real class files: 9 classes; the members and pool entries that the words name. The judged class is class 1, her method 5. -/
namespace start1
open Jvm.ClassFile
def u (s : String) : CpInfo := .utf8 (stringToUtf16 s)
/-- a pool by its gaps: so many unusable entries, then the entry; so many at the end -/
def gap : Nat → List CpInfo → List CpInfo
  | 0, r => r
  | n + 1, r => .unusable :: gap n r
def poolList (es : List (Nat × CpInfo)) (last : Nat) : List CpInfo := es.foldr (fun e r => gap e.1 (e.2 :: r)) (gap last [])
def pool (es : List (Nat × CpInfo)) (last : Nat) : Array CpInfo := ⟨poolList es last⟩
def fileOf (pool : Array CpInfo) (this : Nat) (attrs : Array Attribute := #[]) (ms : Array MethodInfo := #[]) (fl : Nat := 33) (sup : Nat := 0) (ifs : Array Nat := #[]) (fds : Array FieldInfo := #[]) : ClassFile where
  minorVersion := 0
  majorVersion := 65
  constantPool := pool
  accessFlags := fl
  thisClass := this
  superClass := sup
  interfaces := ifs
  fields := fds
  methods := ms
  attributes := attrs
def plain (name : String) (sup : Option ClassId) : Class where
  name := name
  kind := .ordinary
  loader := none
  accessFlags := 33
  super := sup
  interfaces := #[]
  cf := none
  fields := #[]
  methods := #[]
  instanceTypes := #[]
  staticTypes := #[]
  resolved := #[]
  callSites := []
  init := .initialized
  statics := none
  mirror := none

def pool0 : Array CpInfo := pool [(5, u "<init>"), (0, u "()V"), (1, .class_ 10), (1, u "java/lang/Object")] 113

def k0m0 : Method := { name := "<init>", desc := "()V", sig := { parameters := [], returnType := none }, accessFlags := 1, code := none }
/-- java/lang/Object -/
def k0 : Class := { plain "java/lang/Object" none with
  accessFlags := 33
  interfaces := #[]
  cf := some (fileOf pool0 8 #[] #[{ accessFlags := 1, nameIndex := 5, descriptorIndex := 6, attributes := #[] }] 33 0 #[] #[])
  fields := #[]
  methods := #[k0m0]
  instanceTypes := #[]
  staticTypes := #[]
  resolved := Array.replicate 124 none
  statics := none }

def pool1 : Array CpInfo := pool [(2, .class_ 4), (1, u "java/lang/Object"), (0, u "<init>"), (0, u "()V"), (0, .integer 65535), (0, .methodref 9 10), (0, .class_ 11), (0, .nameAndType 12 13), (0, u "com/example/bondsmith/bondsmith/MonthDaysDigitsPinLaw"), (0, u "pow10"), (0, u "(I)I"), (0, .methodref 9 15), (0, .nameAndType 16 17), (0, u "draw"), (0, u "(I)C"), (0, .integer 2147483647), (0, .methodref 9 20), (0, .nameAndType 21 22), (0, u "bad"), (0, u "(ICII)Z"), (0, .methodref 9 24), (0, .nameAndType 25 26), (0, u "term"), (0, u "(ICII)I"), (0, .methodref 28 29), (0, .class_ 30), (0, .nameAndType 31 32), (0, u "com/example/bondsmith/bondsmith/MonthDays"), (0, u "digits"), (0, u "([CII)I"), (3, u "law"), (0, u "(IIIII)Z")] 4

def k1m0 : Method := { name := "<init>", desc := "()V", sig := { parameters := [], returnType := none }, accessFlags := 2, code := none }
def k1c1 : Code := { maxStack := 3, maxLocals := 1, code := method_2_code, exceptionTable := #[], attributes := #[] }
def k1m1 : Method := { name := "draw", desc := "(I)C", sig := { parameters := [.int], returnType := some .char }, accessFlags := 10, code := some k1c1 }
def k1c2 : Code := { maxStack := 2, maxLocals := 1, code := method_3_code, exceptionTable := #[], attributes := #[] }
def k1m2 : Method := { name := "pow10", desc := "(I)I", sig := { parameters := [.int], returnType := some .int }, accessFlags := 10, code := some k1c2 }
def k1c3 : Code := { maxStack := 2, maxLocals := 4, code := method_4_code, exceptionTable := #[], attributes := #[] }
def k1m3 : Method := { name := "bad", desc := "(ICII)Z", sig := { parameters := [.int, .char, .int, .int], returnType := some .boolean }, accessFlags := 10, code := some k1c3 }
def k1c4 : Code := { maxStack := 3, maxLocals := 4, code := method_5_code, exceptionTable := #[], attributes := #[] }
def k1m4 : Method := { name := "term", desc := "(ICII)I", sig := { parameters := [.int, .char, .int, .int], returnType := some .int }, accessFlags := 10, code := some k1c4 }
def k1c5 : Code := { maxStack := 5, maxLocals := 15, code := code, exceptionTable := #[], attributes := #[] }
def k1m5 : Method := { name := "law", desc := "(IIIII)Z", sig := { parameters := [.int, .int, .int, .int, .int], returnType := some .boolean }, accessFlags := 9, code := some k1c5 }
/-- com/example/bondsmith/bondsmith/MonthDaysDigitsPinLaw -/
def k1 : Class := { plain "com/example/bondsmith/bondsmith/MonthDaysDigitsPinLaw" (some 0) with
  accessFlags := 49
  interfaces := #[]
  cf := some (fileOf pool1 9 #[] #[{ accessFlags := 2, nameIndex := 5, descriptorIndex := 6, attributes := #[] }, { accessFlags := 10, nameIndex := 16, descriptorIndex := 17, attributes := #[] }, { accessFlags := 10, nameIndex := 12, descriptorIndex := 13, attributes := #[] }, { accessFlags := 10, nameIndex := 21, descriptorIndex := 22, attributes := #[] }, { accessFlags := 10, nameIndex := 25, descriptorIndex := 26, attributes := #[] }, { accessFlags := 9, nameIndex := 36, descriptorIndex := 37, attributes := #[] }] 49 2 #[] #[])
  fields := #[]
  methods := #[k1m0, k1m1, k1m2, k1m3, k1m4, k1m5]
  instanceTypes := #[]
  staticTypes := #[]
  resolved := Array.replicate 42 none
  statics := none }

def pool2 : Array CpInfo := pool [(2, .class_ 4), (1, u "java/lang/Object"), (0, u "<init>"), (0, u "()V"), (1, .class_ 10), (1, u "com/example/bondsmith/bondsmith/MonthDays"), (22, u "USUAL_LENGTH"), (0, u "I"), (14, u "digits"), (0, u "([CII)I"), (24, u "FORM"), (0, u "Ljava/time/format/DateTimeFormatter;"), (102, u "PATTERN"), (0, u "Ljava/lang/String;")] 45

def k2m0 : Method := { name := "<init>", desc := "()V", sig := { parameters := [], returnType := none }, accessFlags := 2, code := none }
def k2c1 : Code := { maxStack := 3, maxLocals := 6, code := prog_32_method_5_code, exceptionTable := #[], attributes := #[] }
def k2m1 : Method := { name := "digits", desc := "([CII)I", sig := { parameters := [(.array .char), .int, .int], returnType := some .int }, accessFlags := 8, code := some k2c1 }
/-- com/example/bondsmith/bondsmith/MonthDays -/
def k2 : Class := { plain "com/example/bondsmith/bondsmith/MonthDays" (some 0) with
  accessFlags := 49
  interfaces := #[]
  cf := some (fileOf pool2 8 #[] #[{ accessFlags := 2, nameIndex := 5, descriptorIndex := 6, attributes := #[] }, { accessFlags := 8, nameIndex := 49, descriptorIndex := 50, attributes := #[] }] 49 2 #[] #[{ accessFlags := 24, nameIndex := 179, descriptorIndex := 180, attributes := #[] }, { accessFlags := 26, nameIndex := 75, descriptorIndex := 76, attributes := #[] }, { accessFlags := 26, nameIndex := 33, descriptorIndex := 34, attributes := #[] }])
  fields := #[{ name := "PATTERN", type := (.object "java/lang/String"), accessFlags := 24, slot := 0, constantValue := 0 }, { name := "FORM", type := (.object "java/time/format/DateTimeFormatter"), accessFlags := 26, slot := 1, constantValue := 0 }, { name := "USUAL_LENGTH", type := .int, accessFlags := 26, slot := 2, constantValue := 0 }]
  methods := #[k2m0, k2m1]
  instanceTypes := #[]
  staticTypes := #[(.object "java/lang/String"), (.object "java/time/format/DateTimeFormatter"), .int]
  resolved := Array.replicate 226 none
  statics := none }

def pool3 : Array CpInfo := pool [(1, u "java/lang/Cloneable"), (0, .class_ 1), (0, u "java/lang/Object"), (0, .class_ 3)] 3

/-- java/lang/Cloneable -/
def k3 : Class := { plain "java/lang/Cloneable" (some 0) with
  accessFlags := 1537
  interfaces := #[]
  cf := some (fileOf pool3 2 #[] #[] 1537 4 #[] #[])
  fields := #[]
  methods := #[]
  instanceTypes := #[]
  staticTypes := #[]
  resolved := Array.replicate 8 none
  statics := none }

def pool4 : Array CpInfo := pool [(1, u "java/io/Serializable"), (0, .class_ 1), (0, u "java/lang/Object"), (0, .class_ 3)] 3

/-- java/io/Serializable -/
def k4 : Class := { plain "java/io/Serializable" (some 0) with
  accessFlags := 1537
  interfaces := #[]
  cf := some (fileOf pool4 2 #[] #[] 1537 4 #[] #[])
  fields := #[]
  methods := #[]
  instanceTypes := #[]
  staticTypes := #[]
  resolved := Array.replicate 8 none
  statics := none }

/-- the primitive byte -/
def k5 : Class := { plain "byte" none with kind := .primitive 'B', accessFlags := 0x411 }
/-- [B -/
def k6 : Class := { plain "[B" (some 0) with kind := .array 5 .byte, interfaces := #[3, 4], accessFlags := 1041 }

/-- the primitive char -/
def k7 : Class := { plain "char" none with kind := .primitive 'C', accessFlags := 0x411 }
/-- [C -/
def k8 : Class := { plain "[C" (some 0) with kind := .array 7 .char, interfaces := #[3, 4], accessFlags := 1041 }

def heap : Heap := #[]
def classes : Array Class := #[k0, k1, k2, k3, k4, k5, k6, k7, k8]
def interned : List (Array UInt16 × Addr) := []
def slotsUsed : Nat := 0
def theMethod : MethodId := ⟨1, 5⟩
def args0 : Array Value := #[.int 5, .int 6, .int 7, .int 8, .int 9]
def aboutOver (below : List Frame) : State where
  vm := { classes := classes, interned := interned.toArray }
  heap := heap
  slotsUsed := slotsUsed
  threads := #[{ frames := .invoking theMethod args0 :: below }]
def below0 : List Frame := [.native { method := ⟨0, 0⟩, args := #[] }]
def about1 : State := aboutOver below0
def p0 : Program := .bare "" "" ""
def e0 : Env := launch0.env 0 0 0
theorem w_frames : about1.frames = Frame.invoking theMethod args0 :: below0 := rfl
set_option maxRecDepth 65536 in
theorem w_args : argsFit about1.vm theMethod args0 = true := by decide +kernel
set_option maxRecDepth 65536 in
theorem w_heap : heapFits about1 = true := by decide +kernel
set_option maxRecDepth 65536 in
theorem w_runnable : about1.curStatus? = some .runnable := by decide +kernel
set_option maxRecDepth 65536 in
theorem w_alone : about1.alone = true := by decide +kernel
set_option maxRecDepth 65536 in
theorem w_named : about1.methodNamed? x = some theMethod := by decide +kernel
set_option maxRecDepth 65536 in
theorem w_hears : about1.hears theMethod below0 = true := by decide +kernel
set_option maxRecDepth 65536 in
theorem w_ripe : about1.ripe theMethod args0 below0 = true := by decide +kernel
theorem w_running : about1.status = .running := rfl
set_option maxRecDepth 65536 in
theorem w_room : about1.hasRoom e0.platform room_1 = true :=
  launch0.hasRoom_least _ room_1 (by decide +kernel) (by decide +kernel) (by decide +kernel) (by decide +kernel) (by decide +kernel) (by decide +kernel)
theorem allAtoms_all (ts : List Jvm.Cond) (a : Array Jvm.Value) (st : Jvm.State) : (allAtoms ts).before a st = ts.all (fun c => c.before a st) := by
  induction ts with
  | nil => rfl
  | cons c t ih =>
    show (Jvm.Cond.and c (allAtoms t)).before a st = _
    rw [Jvm.Cond.before_and, ih, List.all_cons]
def words1 : List Jvm.Cond := Jvm.Cond.code x code maxLocals ret :: tables_1
/-- a 'code' word, met by the world's own term for the bytes: nothing is compared byte by byte -/
theorem code_word {y : MethodName} {bytes : ByteArray} {mx : Nat} {rt : Option FieldType} {a : Array Value} {s : State} {m : MethodId} {meth : Method} {c : Code} (h1 : s.methodNamed? y = some m) (h2 : s.vm.method? m = some meth) (h3 : meth.code = some c) (h4 : c.code = bytes)
    (h5 : (c.maxLocals == mx && c.exceptionTable.isEmpty && decide (c.maxStack ≤ mostOperands) && decide (meth.sig.returnType = rt) && !meth.locks && decide (parseMethodDescriptor y.desc = some meth.sig)) = true) : (Jvm.Cond.code y bytes mx rt).before a s = true := by
  simp only [Bool.and_eq_true, beq_iff_eq, Bool.not_eq_true', decide_eq_true_eq] at h5
  obtain ⟨⟨⟨⟨⟨g1, g2⟩, g3⟩, g4⟩, g5⟩, g6⟩ := h5
  simp [Cond.before, Cond.holds, Cond.value, h1, h2, h3, h4, g1, g2, g3, g4, g5, g6]
def isCode : Jvm.Cond → Bool
  | .code _ _ _ _ => true
  | _ => false
theorem all_split {L : List Jvm.Cond} {P : Jvm.Cond → Bool} (h1 : L.all (fun c => isCode c || P c) = true) (h2 : ∀ c ∈ L.filter isCode, P c = true) : L.all P = true := by
  refine List.all_eq_true.mpr fun c hc => ?_
  have h := List.all_eq_true.mp h1 c hc
  rcases Bool.eq_false_or_eq_true (isCode c) with hi | hi
  · exact h2 c (List.mem_filter.mpr ⟨hc, hi⟩)
  · simpa [hi] using h
set_option maxRecDepth 65536 in
theorem w_c0 : (Jvm.Cond.code x code maxLocals ret).before args0 about1 = true := code_word (m := ⟨1, 5⟩) (meth := k1m5) (c := k1c5) (by decide +kernel) rfl rfl rfl (by decide +kernel)
set_option maxRecDepth 65536 in
theorem w_c1 : (Jvm.Cond.code ({ cls := "com/example/bondsmith/bondsmith/MonthDaysDigitsPinLaw", name := "draw", desc := "(I)C" } : Jvm.MethodName) method_2_code (1 : Nat) (Option.some Jvm.ClassFile.FieldType.char)).before args0 about1 = true := code_word (m := ⟨1, 1⟩) (meth := k1m1) (c := k1c1) (by decide +kernel) rfl rfl rfl (by decide +kernel)
set_option maxRecDepth 65536 in
theorem w_c2 : (Jvm.Cond.code ({ cls := "com/example/bondsmith/bondsmith/MonthDaysDigitsPinLaw", name := "bad", desc := "(ICII)Z" } : Jvm.MethodName) method_4_code (4 : Nat) (Option.some Jvm.ClassFile.FieldType.boolean)).before args0 about1 = true := code_word (m := ⟨1, 3⟩) (meth := k1m3) (c := k1c3) (by decide +kernel) rfl rfl rfl (by decide +kernel)
set_option maxRecDepth 65536 in
theorem w_c3 : (Jvm.Cond.code ({ cls := "com/example/bondsmith/bondsmith/MonthDaysDigitsPinLaw", name := "term", desc := "(ICII)I" } : Jvm.MethodName) method_5_code (4 : Nat) (Option.some Jvm.ClassFile.FieldType.int)).before args0 about1 = true := code_word (m := ⟨1, 4⟩) (meth := k1m4) (c := k1c4) (by decide +kernel) rfl rfl rfl (by decide +kernel)
set_option maxRecDepth 65536 in
theorem w_c4 : (Jvm.Cond.code ({ cls := "com/example/bondsmith/bondsmith/MonthDays", name := "digits", desc := "([CII)I" } : Jvm.MethodName) prog_32_method_5_code (6 : Nat) (Option.some Jvm.ClassFile.FieldType.int)).before args0 about1 = true := code_word (m := ⟨2, 1⟩) (meth := k2m1) (c := k2c1) (by decide +kernel) rfl rfl rfl (by decide +kernel)
set_option maxRecDepth 65536 in
theorem w_c5 : (Jvm.Cond.code ({ cls := "com/example/bondsmith/bondsmith/MonthDaysDigitsPinLaw", name := "pow10", desc := "(I)I" } : Jvm.MethodName) method_3_code (1 : Nat) (Option.some Jvm.ClassFile.FieldType.int)).before args0 about1 = true := code_word (m := ⟨1, 2⟩) (meth := k1m2) (c := k1c2) (by decide +kernel) rfl rfl rfl (by decide +kernel)
def codes1 : List Jvm.Cond := [Jvm.Cond.code x code maxLocals ret, Jvm.Cond.code ({ cls := "com/example/bondsmith/bondsmith/MonthDaysDigitsPinLaw", name := "draw", desc := "(I)C" } : Jvm.MethodName) method_2_code (1 : Nat) (Option.some Jvm.ClassFile.FieldType.char), Jvm.Cond.code ({ cls := "com/example/bondsmith/bondsmith/MonthDaysDigitsPinLaw", name := "bad", desc := "(ICII)Z" } : Jvm.MethodName) method_4_code (4 : Nat) (Option.some Jvm.ClassFile.FieldType.boolean), Jvm.Cond.code ({ cls := "com/example/bondsmith/bondsmith/MonthDaysDigitsPinLaw", name := "term", desc := "(ICII)I" } : Jvm.MethodName) method_5_code (4 : Nat) (Option.some Jvm.ClassFile.FieldType.int), Jvm.Cond.code ({ cls := "com/example/bondsmith/bondsmith/MonthDays", name := "digits", desc := "([CII)I" } : Jvm.MethodName) prog_32_method_5_code (6 : Nat) (Option.some Jvm.ClassFile.FieldType.int), Jvm.Cond.code ({ cls := "com/example/bondsmith/bondsmith/MonthDaysDigitsPinLaw", name := "pow10", desc := "(I)I" } : Jvm.MethodName) method_3_code (1 : Nat) (Option.some Jvm.ClassFile.FieldType.int)]
set_option maxRecDepth 65536 in
theorem codes_eq : words1.filter isCode = codes1 := rfl
theorem w_codes : ∀ c ∈ words1.filter isCode, c.before args0 about1 = true := by
  rw [codes_eq]
  intro c hc
  simp only [codes1, List.mem_cons, List.not_mem_nil, or_false] at hc
  rcases hc with rfl | rfl | rfl | rfl | rfl | rfl
  · exact w_c0
  · exact w_c1
  · exact w_c2
  · exact w_c3
  · exact w_c4
  · exact w_c5
set_option maxRecDepth 65536 in
theorem w_t1 : words1.all (fun c => isCode c || c.before args0 about1) = true := by decide +kernel
theorem w_tables : (allAtoms (Jvm.Cond.code x code maxLocals ret :: tables_1)).before args0 about1 = true := by
  rw [allAtoms_all]
  show words1.all (fun c => c.before args0 about1) = true
  refine all_split ?_ w_codes
  rw [w_t1]
set_option maxRecDepth 65536 in
theorem w_case : (Jvm.Cond.and given_1 narrow_1).before args0 about1 = true := by decide +kernel
theorem w_applies : (headSpec (Jvm.Cond.code x code maxLocals ret :: tables_1) room_1).applies x e0.platform about1 = true :=
  (Spec.applies_iff w_frames).mpr ⟨w_running, w_runnable, w_alone, w_named, w_hears, w_ripe, w_room, w_tables⟩
theorem atStart : AtStart classFile x code maxLocals ret World_1 tables_1 room_1 Calls_1 rest_1 Pre_1 launch0 p0 e0 about1 theMethod args0 below0 :=
  ⟨lists_1, trivial, launch0.admits_env _ _ _, launch0.least_env, fairChoices_fair.cas, fairChoices_fair.clock, w_frames, w_args, w_heap, w_applies, trivial, trivial, w_case⟩
end start1
theorem witness_1 : WitnessClaimed_1 := ⟨start1.p0, start1.e0, start1.about1, start1.theMethod, start1.args0, start1.below0, start1.atStart⟩
end Jvm.Pilot.@@N@@
