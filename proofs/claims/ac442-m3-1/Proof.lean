import JvmDerived
import JvmDerived.Pilot.@@N@@Statement
import JvmDerived.Pilot.@@N@@Code
set_option linter.unusedVariables false
set_option linter.unusedSimpArgs false
namespace Jvm.Pilot.@@N@@
open Jvm Jvm.ClassFile Sem Op Lib Jvm.Free Jvm.Stand Jvm.LawKit Jvm.RoadKit Bundle Jvm.Pilot.@@N@@.Jvm.D
theorem own_lt {a b : Int32} (h : a < b) : a.toInt < b.toInt := Int32.lt_iff_toInt_lt.mp h
theorem own_nlt {a b : Int32} (h : ¬ a < b) : b.toInt ≤ a.toInt := Int.not_lt.mp fun q => h (Int32.lt_iff_toInt_lt.mpr q)
/-- the array's first i places hold the first i constants, the rest null -/
def own_list (f : Nat → Addr) (i : Nat) : List Value := (List.range 18).map fun j => if j < i then .ref (f j) else .null
theorem own_len {f : Nat → Addr} {i : Nat} : (own_list f i).length = 18 := by simp [own_list]
theorem own_get {f : Nat → Addr} {i n : Nat} : (own_list f i)[n]? = if n < 18 then some (if n < i then Value.ref (f n) else .null) else none := by
  by_cases h : n < 18
  · simp [own_list, h]
  · simp [own_list, h]
theorem own_set {f : Nat → Addr} {i : Nat} (hi : i < 18) : (own_list f i).set i (.ref (f i)) = own_list f (i + 1) := by
  apply List.ext_getElem?
  intro n
  rw [List.getElem?_set, own_get, own_get, own_len]
  by_cases e : i = n
  · subst e; simp [hi]
  · simp only [if_neg e]
    by_cases h : n < 18
    · simp only [if_pos h]
      by_cases g : n < i
      · simp [g, show n < i + 1 by omega]
      · simp [g, show ¬ n < i + 1 by omega]
    · simp [h]
theorem own_at {f : Nat → Addr} {n : Nat} (hn : n < 18) : (own_list f 18).getD n .null = .ref (f n) := by
  rw [List.getD_eq_getElem?_getD, own_get]; simp [hn]
theorem own_nil {f : Nat → Addr} (n : Nat) : (own_list f 0).getD n .null = ([] : List Value).getD n .null := by
  rw [List.getD_eq_getElem?_getD, own_get]; by_cases h : n < 18 <;> simp [h]
theorem own_sta {Z : State} {h0 h : Heap} {C n d : String} {v : Value} (F : Sta Z h0 C n d v) (K : Keep h0 h []) : Sta Z h C n d v := by
  obtain ⟨cf, i, k, f, st, cell, h1, h2, h3, h4, h5, h6, h7⟩ := F
  exact ⟨cf, i, k, f, st, cell, h1, h2, h3, h4, K.2.1 _ _ h5 (by simp), h6, h7⟩
theorem own_uni {Z : State} {h : Heap} {a : Addr} {C n d : String} {v w : Value} (F : Fld Z h a C n d v) (G : Fld Z h a C n d w) : v = w := by
  obtain ⟨c1, cf1, k1, i1, f1, h1, h2, -, -, -, -, h7⟩ := F
  obtain ⟨c2, cf2, k2, i2, f2, g1, g2, -, -, -, -, g7⟩ := G
  cases h1.symm.trans g1
  cases h2.symm.trans g2
  exact Option.some.inj (h7.symm.trans g7)
theorem own_eqint {args : Array Value} {Z : State} {t : Term} {i : Int32} (h : (Jvm.Cond.eq t (.int i)).value args Z none Z [] = some true) : t.eval args Z none [] Z = some (.int i) := by
  simp only [Cond.value, Term.eval] at h
  cases ht : t.eval args Z none [] Z with
  | none => simp [ht] at h
  | some x => cases x <;> simp [ht] at h ⊢; exact h
theorem own_mask (x : Int32) : (x &&& (2147483647 : Int32)).toInt = x.toInt % 2 ^ 31 := by
  have h := c_and x 2147483647 (by decide)
  have e : (x &&& (2147483647 : Int32)).toBitVec.toNat = x.toBitVec.toNat % 2 ^ 31 := by
    show (x.toBitVec &&& (2147483647 : Int32).toBitVec).toNat = _
    rw [BitVec.toNat_and, show (2147483647 : Int32).toBitVec.toNat = 2 ^ 31 - 1 from rfl, Nat.and_two_pow_sub_one_eq_mod]
  have a1 : (x &&& (2147483647 : Int32)).toInt = (x &&& (2147483647 : Int32)).toBitVec.toInt := rfl
  have a2 : x.toInt = x.toBitVec.toInt := rfl
  rw [BitVec.toInt_eq_toNat_cond] at a1 a2
  have := x.toBitVec.isLt
  split at a1 <;> split at a2 <;> omega
def own_inv (Z : State) (h0 h : Heap) (b : Addr) (k : ClassId) (f : Nat → Addr) (i : Nat) : Prop := Keep h0 h [] ∧ Arv Z h b k (.object "com/example/schemma/schemma/ObjectReference$Kind") 18 (own_list f i) .null ∧ Ovr Z k "com/example/schemma/schemma/ObjectReference$Kind"
set_option maxHeartbeats 4000000 in
/-- one place filled: getstatic, aastore -/
theorem own_put {p : Program} {l : Launch} {e : Env} {R : Room} {s : State} {m : MethodId} {args : Array Value} {below : List Frame} {meth : Method} {c : Code} {T : State} {locs : List Loc} {cells slots : Nat} {Z : State} {a0 : Array Value} {h0 h : Heap} {b : Addr} {k : ClassId} {f : Nat → Addr} {n0 : Nat} {ix : Nat} {nm : String} {j : Int32} {pc : Nat} {Ls : Array Slot}
    (X : Stand p l e R s m args below meth c T locs cells slots) (hx : p.tables.exec = Jvm.exec) (hZ : Z.Warmed39 s.vm) (hown : s.vm.findClass "com/example/schemma/schemma/KindIsRelationPinLaw" = some m.cls) (eT : T.heap = h) (i : Nat) (I : own_inv Z h0 h b k f i) (N : Fr n0 locs) (gb : n0 ≤ b) (sb : h0.size ≤ b)
    (wl : (Jvm.Cond.fieldLink "com/example/schemma/schemma/KindIsRelationPinLaw" ix "com/example/schemma/schemma/ObjectReference$Kind" nm "Lcom/example/schemma/schemma/ObjectReference$Kind;").before a0 Z = true) (S : Sta Z h0 "com/example/schemma/schemma/ObjectReference$Kind" nm "Lcom/example/schemma/schemma/ObjectReference$Kind;" (.ref (f i))) (E : Exa Z h0 (f i) "com/example/schemma/schemma/ObjectReference$Kind") (hj : j.toNatClampNeg = i) (hj0 : ¬ j < 0) (hi : i < 18) (d1 : decode c.code pc = .ok (.getstatic ix, 3)) (d2 : decode c.code (pc + 3) = .ok (.aastore, 1)) :
    ∃ (T' : State) (h' : Heap) (locs' : List Loc), Stand p l e R s m args below meth c T' locs' cells slots ∧ T'.heap = h' ∧ own_inv Z h0 h' b k f (i + 1) ∧ Fr n0 locs' ∧ ∀ target, Steps p.tables e below (T'.setTop (mkF m (pc + 4) Ls [.ref b])) target → Steps p.tables e below (T.setTop (mkF m pc Ls [.int j, .ref b, .ref b])) target := by
  obtain ⟨K0, V, O⟩ := I
  obtain ⟨T1, X1, e1, st1⟩ := getS2 X hx hZ hown (host := "") (Or.inl wl) Via.refl eT (own_sta S K0) (g := (mkF m pc Ls [.int j, .ref b, .ref b])) rfl d1
  obtain ⟨cl, Ar, q1, S1, N1, H1, G1⟩ := V
  have z18 : (18 : Int32).toNatClampNeg = 18 := rfl
  have hin : ¬ (j < 0 ∨ cl.slots.size ≤ j.toNatClampNeg) := by
    rw [S1, hj, z18]
    rintro (q | q)
    · exact hj0 q
    · omega
  obtain ⟨T2, h2, X2, e2, W2, st2⟩ := stR X1 hx hZ e1 Ar (j := j) hin rfl (Sto.ofV Ar q1 O (Ins.self (E.keep K0))) (g := (mkF m (pc + 3) Ls [.ref (f i), .int j, .ref b, .ref b])) rfl rfl d2
  have V2 := Arv.set Ar q1 S1 N1 H1 G1 rfl W2 i hj (by rw [own_len]; exact hi)
  rw [own_set hi] at V2
  exact ⟨T2, h2, _, X2, e2, ⟨K0.wr W2 (Or.inr sb), V2, O⟩, Fr.snoc X2 N gb, fun t k => st1 _ (st2 _ k)⟩
def own_mem (f : Nat → Addr) (a : Addr) : Int32 := if a = f 1 ∨ a = f 2 ∨ a = f 3 ∨ a = f 4 ∨ a = f 5 then 1 else 0
theorem own_val {f : Nat → Addr} (inj : ∀ i, i < 18 → ∀ j, j < 18 → f i = f j → i = j) {n : Nat} (hn : n < 18) : own_mem f (f n) = if 1 ≤ n ∧ n ≤ 5 then 1 else 0 := by
  unfold own_mem
  by_cases h : 1 ≤ n ∧ n ≤ 5
  · rw [if_pos h, if_pos]
    have : n = 1 ∨ n = 2 ∨ n = 3 ∨ n = 4 ∨ n = 5 := by omega
    rcases this with rfl | rfl | rfl | rfl | rfl
    · exact Or.inl rfl
    · exact Or.inr (Or.inl rfl)
    · exact Or.inr (Or.inr (Or.inl rfl))
    · exact Or.inr (Or.inr (Or.inr (Or.inl rfl)))
    · exact Or.inr (Or.inr (Or.inr (Or.inr rfl)))
  · rw [if_neg h, if_neg]
    rintro (q | q | q | q | q)
    · have := inj n hn 1 (by omega) q; omega
    · have := inj n hn 2 (by omega) q; omega
    · have := inj n hn 3 (by omega) q; omega
    · have := inj n hn 4 (by omega) q; omega
    · have := inj n hn 5 (by omega) q; omega
theorem d1_0 : decode prog_145_method_7_code 0 = .ok (.aload_n 0, 1) := by decide +kernel
theorem d1_1 : decode prog_145_method_7_code 1 = .ok (.getstatic 7, 3) := by decide +kernel
theorem d1_4 : decode prog_145_method_7_code 4 = .ok (.if_acmp .eq 31, 3) := by decide +kernel
theorem d1_7 : decode prog_145_method_7_code 7 = .ok (.aload_n 0, 1) := by decide +kernel
theorem d1_8 : decode prog_145_method_7_code 8 = .ok (.getstatic 10, 3) := by decide +kernel
theorem d1_11 : decode prog_145_method_7_code 11 = .ok (.if_acmp .eq 24, 3) := by decide +kernel
theorem d1_14 : decode prog_145_method_7_code 14 = .ok (.aload_n 0, 1) := by decide +kernel
theorem d1_15 : decode prog_145_method_7_code 15 = .ok (.getstatic 13, 3) := by decide +kernel
theorem d1_18 : decode prog_145_method_7_code 18 = .ok (.if_acmp .eq 17, 3) := by decide +kernel
theorem d1_21 : decode prog_145_method_7_code 21 = .ok (.aload_n 0, 1) := by decide +kernel
theorem d1_22 : decode prog_145_method_7_code 22 = .ok (.getstatic 16, 3) := by decide +kernel
theorem d1_25 : decode prog_145_method_7_code 25 = .ok (.if_acmp .eq 10, 3) := by decide +kernel
theorem d1_28 : decode prog_145_method_7_code 28 = .ok (.aload_n 0, 1) := by decide +kernel
theorem d1_29 : decode prog_145_method_7_code 29 = .ok (.getstatic 19, 3) := by decide +kernel
theorem d1_32 : decode prog_145_method_7_code 32 = .ok (.if_acmp .ne 7, 3) := by decide +kernel
theorem d1_35 : decode prog_145_method_7_code 35 = .ok (.iconst 1, 1) := by decide +kernel
theorem d1_36 : decode prog_145_method_7_code 36 = .ok (.goto 4, 3) := by decide +kernel
theorem d1_39 : decode prog_145_method_7_code 39 = .ok (.iconst 0, 1) := by decide +kernel
theorem d1_40 : decode prog_145_method_7_code 40 = .ok (.ireturn, 1) := by decide +kernel
theorem pn_1 : plainName "com/example/schemma/schemma/ObjectReference$Kind" = true := by first | (simp [plainName, overriddenIn]; done) | decide +kernel
theorem ef_1 (m : MethodId) (a1 : Addr) : entryFrame m #[(.ref a1)] 1 = mkF m 0 #[.val (.ref a1)] [] := by first | (simp [entryFrame, mkF, argsToLocals, Value.category]; done) | rfl
def Q1 (Z : State) (a1 : Addr) (f : Nat → Addr) (h0 : Heap) (n0 : Nat) (v : Option Value) (h : Heap) (L : List Loc) : Prop := v = some (.int (own_mem f a1)) ∧ Fr n0 L ∧ h = h0
set_option maxRecDepth 65536 in
set_option maxHeartbeats 40000000 in
theorem rm1 (l : Launch) (Z : State) (a0 : Array Value) (hw : ∀ d ∈ tables_1, d.before a0 Z = true) (ws : List Jvm.Cond) (a1 : Addr) (f : Nat → Addr) (h0 : Heap) (n0 : Nat) (Z0 : n0 ≤ h0.size) (S1 : Sta Z h0 "com/example/schemma/schemma/ObjectReference$Kind" "TABLE" "Lcom/example/schemma/schemma/ObjectReference$Kind;" (.ref (f 1))) (S2 : Sta Z h0 "com/example/schemma/schemma/ObjectReference$Kind" "VIEW" "Lcom/example/schemma/schemma/ObjectReference$Kind;" (.ref (f 2))) (S3 : Sta Z h0 "com/example/schemma/schemma/ObjectReference$Kind" "MATERIALIZED_VIEW" "Lcom/example/schemma/schemma/ObjectReference$Kind;" (.ref (f 3))) (S4 : Sta Z h0 "com/example/schemma/schemma/ObjectReference$Kind" "SEQUENCE" "Lcom/example/schemma/schemma/ObjectReference$Kind;" (.ref (f 4))) (S5 : Sta Z h0 "com/example/schemma/schemma/ObjectReference$Kind" "INDEX" "Lcom/example/schemma/schemma/ObjectReference$Kind;" (.ref (f 5))) :
    MetFree l (⟨"com/example/schemma/schemma/ObjectReference$Kind", "isRelation", "()Z"⟩ : MethodName) (head1 (Jvm.Cond.code (⟨"com/example/schemma/schemma/ObjectReference$Kind", "isRelation", "()Z"⟩ : MethodName) prog_145_method_7_code 1 (some .boolean) :: ws) ({ frames := 0, cells := 0, slots := 0, locals := 0 } : Room)) (fun a U => a = #[(.ref a1)] ∧ Z.Warmed39 U.vm ∧ U.heap = h0) (fun _ _ _ _ _ => True) (fun _ U o U' => ∃ v L, o = .returned v ∧ Q1 Z a1 f h0 n0 v U'.heap L ∧ FrameEnd U o U' L ({ frames := 0, cells := 0, slots := 0, locals := 0 } : Room).cells ({ frames := 0, cells := 0, slots := 0, locals := 0 } : Room).slots) := by
  refine MetFree.of_bodySF (plainFor_of_name pn_1) hisR ?_
  intro p e s m args below meth c s₁ Bd hml0 hP hK
  obtain ⟨rfl, hZ, hh⟩ := hP
  have hx := Bd.exec
  have hby := Bd.bytes
  have hml : c.maxLocals = 1 := hml0
  have hown : s.vm.findClass "com/example/schemma/schemma/ObjectReference$Kind" = some m.cls := findClass_of_methodNamed Bd.named
  have hnm := (name_of_methodNamed Bd.named Bd.method).1
  have X0 : Stand p l e ({ frames := 0, cells := 0, slots := 0, locals := 0 } : Room) s m #[(.ref a1)] below meth c s₁ [] 0 0 := Stand.of_body Bd
  have e0 : s₁.heap = h0 := by rw [← hh, Bd.state]; rfl
  have N0 := Fr.nil n0
  have pre0 : ∀ t, Steps p.tables e below (s₁.setTop (mkF m 0 #[.val (.ref a1)] [])) t → Steps p.tables e below (s₁.setTop (entryFrame m #[(.ref a1)] 1)) t := fun t k => castTop (ef_1 m a1) k
  obtain ⟨T1, X1, e1, st1⟩ := getS2 X0 hx hZ hown (host := "") (Or.inl (hw _ (List.mem_of_getElem? (i := 46) rfl))) Via.refl e0 S1 (g := (mkF m 1 #[.val (.ref a1)] [(.ref a1)])) rfl (hb hby d1_1)
  have pre2 : ∀ t, Steps p.tables e below (T1.setTop (mkF m 4 #[.val (.ref a1)] [(.ref (f 1)), (.ref a1)])) t → Steps p.tables e below (s₁.setTop (entryFrame m #[(.ref a1)] 1)) t := by
    intro t k
    refine pre0 t ?_
    refine XS.aloadN X0.here hx rfl (hb hby d1_0) rfl rfl ?_
    show Steps p.tables e below (s₁.setTop (mkF m 1 #[.val (.ref a1)] [(.ref a1)])) _
    refine st1 _ ?_
    show Steps p.tables e below (T1.setTop (mkF m 4 #[.val (.ref a1)] [(.ref (f 1)), (.ref a1)])) _
    exact k
  by_cases ha4 : a1 = f 1
  · have pre3 : ∀ t, Steps p.tables e below (T1.setTop (mkF m 40 #[.val (.ref a1)] [(.int (1 : Int32))])) t → Steps p.tables e below (s₁.setTop (entryFrame m #[(.ref a1)] 1)) t := by
      intro t k
      refine pre2 t ?_
      refine Jvm.RoadKit.acmp (g := (mkF m 4 #[.val (.ref a1)] [(.ref (f 1)), (.ref a1)])) X1 hx rfl rfl rfl (pc0 := 4) (pc' := 35) (same := true) rfl (hb hby d1_4) rfl (decide_eq_true (congrArg Value.ref ha4)) (by decide) (by decide) ?_
      show Steps p.tables e below (T1.setTop (mkF m 35 #[.val (.ref a1)] [])) _
      refine XS.iconst X1.here hx rfl (hb hby d1_35) ?_
      show Steps p.tables e below (T1.setTop (mkF m 36 #[.val (.ref a1)] [(.int (1 : Int32))])) _
      refine XS.goto X1.here hx rfl (pc0 := 36) (pc' := 40) rfl (hb hby d1_36) (by decide) (by decide) ?_
      show Steps p.tables e below (T1.setTop (mkF m 40 #[.val (.ref a1)] [(.int (1 : Int32))])) _
      exact k
    obtain ⟨fs, hr, hrun, hended, hW, hsame⟩ := X1.leave (v := some (.int (1 : Int32))) (fun h => by rw [Bd.returns] at h; cases h)
    refine ⟨_, _, pre3 _ ?_, hrun, hended, _, _, rfl, ?_, ⟨_, rfl⟩, hW, hsame.mono (by decide) (by decide)⟩
    · exact retN X1 hx (t := .boolean) Bd.returns (by simp) (hb hby d1_40) hr
    · show Q1 Z a1 f h0 n0 _ T1.heap _
      rw [e1]
      exact ⟨congrArg (fun z => some (Value.int z)) (Eq.symm (if_pos (Or.inl ha4))), N0, rfl⟩
  · obtain ⟨T4, X4, e4, st4⟩ := getS2 X1 hx hZ hown (host := "") (Or.inl (hw _ (List.mem_of_getElem? (i := 47) rfl))) Via.refl e1 S2 (g := (mkF m 8 #[.val (.ref a1)] [(.ref a1)])) rfl (hb hby d1_8)
    have pre5 : ∀ t, Steps p.tables e below (T4.setTop (mkF m 11 #[.val (.ref a1)] [(.ref (f 2)), (.ref a1)])) t → Steps p.tables e below (s₁.setTop (entryFrame m #[(.ref a1)] 1)) t := by
      intro t k
      refine pre2 t ?_
      refine Jvm.RoadKit.acmp (g := (mkF m 4 #[.val (.ref a1)] [(.ref (f 1)), (.ref a1)])) X1 hx rfl rfl rfl (pc0 := 4) (pc' := 7) (same := false) rfl (hb hby d1_4) rfl (decide_eq_false fun q => ha4 (Value.ref.inj q)) (by decide) (by decide) ?_
      show Steps p.tables e below (T1.setTop (mkF m 7 #[.val (.ref a1)] [])) _
      refine XS.aloadN X1.here hx rfl (hb hby d1_7) rfl rfl ?_
      show Steps p.tables e below (T1.setTop (mkF m 8 #[.val (.ref a1)] [(.ref a1)])) _
      refine st4 _ ?_
      show Steps p.tables e below (T4.setTop (mkF m 11 #[.val (.ref a1)] [(.ref (f 2)), (.ref a1)])) _
      exact k
    by_cases ha11 : a1 = f 2
    · have pre6 : ∀ t, Steps p.tables e below (T4.setTop (mkF m 40 #[.val (.ref a1)] [(.int (1 : Int32))])) t → Steps p.tables e below (s₁.setTop (entryFrame m #[(.ref a1)] 1)) t := by
        intro t k
        refine pre5 t ?_
        refine Jvm.RoadKit.acmp (g := (mkF m 11 #[.val (.ref a1)] [(.ref (f 2)), (.ref a1)])) X4 hx rfl rfl rfl (pc0 := 11) (pc' := 35) (same := true) rfl (hb hby d1_11) rfl (decide_eq_true (congrArg Value.ref ha11)) (by decide) (by decide) ?_
        show Steps p.tables e below (T4.setTop (mkF m 35 #[.val (.ref a1)] [])) _
        refine XS.iconst X4.here hx rfl (hb hby d1_35) ?_
        show Steps p.tables e below (T4.setTop (mkF m 36 #[.val (.ref a1)] [(.int (1 : Int32))])) _
        refine XS.goto X4.here hx rfl (pc0 := 36) (pc' := 40) rfl (hb hby d1_36) (by decide) (by decide) ?_
        show Steps p.tables e below (T4.setTop (mkF m 40 #[.val (.ref a1)] [(.int (1 : Int32))])) _
        exact k
      obtain ⟨fs, hr, hrun, hended, hW, hsame⟩ := X4.leave (v := some (.int (1 : Int32))) (fun h => by rw [Bd.returns] at h; cases h)
      refine ⟨_, _, pre6 _ ?_, hrun, hended, _, _, rfl, ?_, ⟨_, rfl⟩, hW, hsame.mono (by decide) (by decide)⟩
      · exact retN X4 hx (t := .boolean) Bd.returns (by simp) (hb hby d1_40) hr
      · show Q1 Z a1 f h0 n0 _ T4.heap _
        rw [e4]
        exact ⟨congrArg (fun z => some (Value.int z)) (Eq.symm (if_pos (Or.inr (Or.inl ha11)))), N0, rfl⟩
    · obtain ⟨T7, X7, e7, st7⟩ := getS2 X4 hx hZ hown (host := "") (Or.inl (hw _ (List.mem_of_getElem? (i := 48) rfl))) Via.refl e4 S3 (g := (mkF m 15 #[.val (.ref a1)] [(.ref a1)])) rfl (hb hby d1_15)
      have pre8 : ∀ t, Steps p.tables e below (T7.setTop (mkF m 18 #[.val (.ref a1)] [(.ref (f 3)), (.ref a1)])) t → Steps p.tables e below (s₁.setTop (entryFrame m #[(.ref a1)] 1)) t := by
        intro t k
        refine pre5 t ?_
        refine Jvm.RoadKit.acmp (g := (mkF m 11 #[.val (.ref a1)] [(.ref (f 2)), (.ref a1)])) X4 hx rfl rfl rfl (pc0 := 11) (pc' := 14) (same := false) rfl (hb hby d1_11) rfl (decide_eq_false fun q => ha11 (Value.ref.inj q)) (by decide) (by decide) ?_
        show Steps p.tables e below (T4.setTop (mkF m 14 #[.val (.ref a1)] [])) _
        refine XS.aloadN X4.here hx rfl (hb hby d1_14) rfl rfl ?_
        show Steps p.tables e below (T4.setTop (mkF m 15 #[.val (.ref a1)] [(.ref a1)])) _
        refine st7 _ ?_
        show Steps p.tables e below (T7.setTop (mkF m 18 #[.val (.ref a1)] [(.ref (f 3)), (.ref a1)])) _
        exact k
      by_cases ha18 : a1 = f 3
      · have pre9 : ∀ t, Steps p.tables e below (T7.setTop (mkF m 40 #[.val (.ref a1)] [(.int (1 : Int32))])) t → Steps p.tables e below (s₁.setTop (entryFrame m #[(.ref a1)] 1)) t := by
          intro t k
          refine pre8 t ?_
          refine Jvm.RoadKit.acmp (g := (mkF m 18 #[.val (.ref a1)] [(.ref (f 3)), (.ref a1)])) X7 hx rfl rfl rfl (pc0 := 18) (pc' := 35) (same := true) rfl (hb hby d1_18) rfl (decide_eq_true (congrArg Value.ref ha18)) (by decide) (by decide) ?_
          show Steps p.tables e below (T7.setTop (mkF m 35 #[.val (.ref a1)] [])) _
          refine XS.iconst X7.here hx rfl (hb hby d1_35) ?_
          show Steps p.tables e below (T7.setTop (mkF m 36 #[.val (.ref a1)] [(.int (1 : Int32))])) _
          refine XS.goto X7.here hx rfl (pc0 := 36) (pc' := 40) rfl (hb hby d1_36) (by decide) (by decide) ?_
          show Steps p.tables e below (T7.setTop (mkF m 40 #[.val (.ref a1)] [(.int (1 : Int32))])) _
          exact k
        obtain ⟨fs, hr, hrun, hended, hW, hsame⟩ := X7.leave (v := some (.int (1 : Int32))) (fun h => by rw [Bd.returns] at h; cases h)
        refine ⟨_, _, pre9 _ ?_, hrun, hended, _, _, rfl, ?_, ⟨_, rfl⟩, hW, hsame.mono (by decide) (by decide)⟩
        · exact retN X7 hx (t := .boolean) Bd.returns (by simp) (hb hby d1_40) hr
        · show Q1 Z a1 f h0 n0 _ T7.heap _
          rw [e7]
          exact ⟨congrArg (fun z => some (Value.int z)) (Eq.symm (if_pos (Or.inr (Or.inr (Or.inl ha18))))), N0, rfl⟩
      · obtain ⟨T10, X10, e10, st10⟩ := getS2 X7 hx hZ hown (host := "") (Or.inl (hw _ (List.mem_of_getElem? (i := 49) rfl))) Via.refl e7 S4 (g := (mkF m 22 #[.val (.ref a1)] [(.ref a1)])) rfl (hb hby d1_22)
        have pre11 : ∀ t, Steps p.tables e below (T10.setTop (mkF m 25 #[.val (.ref a1)] [(.ref (f 4)), (.ref a1)])) t → Steps p.tables e below (s₁.setTop (entryFrame m #[(.ref a1)] 1)) t := by
          intro t k
          refine pre8 t ?_
          refine Jvm.RoadKit.acmp (g := (mkF m 18 #[.val (.ref a1)] [(.ref (f 3)), (.ref a1)])) X7 hx rfl rfl rfl (pc0 := 18) (pc' := 21) (same := false) rfl (hb hby d1_18) rfl (decide_eq_false fun q => ha18 (Value.ref.inj q)) (by decide) (by decide) ?_
          show Steps p.tables e below (T7.setTop (mkF m 21 #[.val (.ref a1)] [])) _
          refine XS.aloadN X7.here hx rfl (hb hby d1_21) rfl rfl ?_
          show Steps p.tables e below (T7.setTop (mkF m 22 #[.val (.ref a1)] [(.ref a1)])) _
          refine st10 _ ?_
          show Steps p.tables e below (T10.setTop (mkF m 25 #[.val (.ref a1)] [(.ref (f 4)), (.ref a1)])) _
          exact k
        by_cases ha25 : a1 = f 4
        · have pre12 : ∀ t, Steps p.tables e below (T10.setTop (mkF m 40 #[.val (.ref a1)] [(.int (1 : Int32))])) t → Steps p.tables e below (s₁.setTop (entryFrame m #[(.ref a1)] 1)) t := by
            intro t k
            refine pre11 t ?_
            refine Jvm.RoadKit.acmp (g := (mkF m 25 #[.val (.ref a1)] [(.ref (f 4)), (.ref a1)])) X10 hx rfl rfl rfl (pc0 := 25) (pc' := 35) (same := true) rfl (hb hby d1_25) rfl (decide_eq_true (congrArg Value.ref ha25)) (by decide) (by decide) ?_
            show Steps p.tables e below (T10.setTop (mkF m 35 #[.val (.ref a1)] [])) _
            refine XS.iconst X10.here hx rfl (hb hby d1_35) ?_
            show Steps p.tables e below (T10.setTop (mkF m 36 #[.val (.ref a1)] [(.int (1 : Int32))])) _
            refine XS.goto X10.here hx rfl (pc0 := 36) (pc' := 40) rfl (hb hby d1_36) (by decide) (by decide) ?_
            show Steps p.tables e below (T10.setTop (mkF m 40 #[.val (.ref a1)] [(.int (1 : Int32))])) _
            exact k
          obtain ⟨fs, hr, hrun, hended, hW, hsame⟩ := X10.leave (v := some (.int (1 : Int32))) (fun h => by rw [Bd.returns] at h; cases h)
          refine ⟨_, _, pre12 _ ?_, hrun, hended, _, _, rfl, ?_, ⟨_, rfl⟩, hW, hsame.mono (by decide) (by decide)⟩
          · exact retN X10 hx (t := .boolean) Bd.returns (by simp) (hb hby d1_40) hr
          · show Q1 Z a1 f h0 n0 _ T10.heap _
            rw [e10]
            exact ⟨congrArg (fun z => some (Value.int z)) (Eq.symm (if_pos (Or.inr (Or.inr (Or.inr (Or.inl ha25)))))), N0, rfl⟩
        · obtain ⟨T13, X13, e13, st13⟩ := getS2 X10 hx hZ hown (host := "") (Or.inl (hw _ (List.mem_of_getElem? (i := 50) rfl))) Via.refl e10 S5 (g := (mkF m 29 #[.val (.ref a1)] [(.ref a1)])) rfl (hb hby d1_29)
          have pre14 : ∀ t, Steps p.tables e below (T13.setTop (mkF m 32 #[.val (.ref a1)] [(.ref (f 5)), (.ref a1)])) t → Steps p.tables e below (s₁.setTop (entryFrame m #[(.ref a1)] 1)) t := by
            intro t k
            refine pre11 t ?_
            refine Jvm.RoadKit.acmp (g := (mkF m 25 #[.val (.ref a1)] [(.ref (f 4)), (.ref a1)])) X10 hx rfl rfl rfl (pc0 := 25) (pc' := 28) (same := false) rfl (hb hby d1_25) rfl (decide_eq_false fun q => ha25 (Value.ref.inj q)) (by decide) (by decide) ?_
            show Steps p.tables e below (T10.setTop (mkF m 28 #[.val (.ref a1)] [])) _
            refine XS.aloadN X10.here hx rfl (hb hby d1_28) rfl rfl ?_
            show Steps p.tables e below (T10.setTop (mkF m 29 #[.val (.ref a1)] [(.ref a1)])) _
            refine st13 _ ?_
            show Steps p.tables e below (T13.setTop (mkF m 32 #[.val (.ref a1)] [(.ref (f 5)), (.ref a1)])) _
            exact k
          by_cases ha32 : a1 = f 5
          · have pre15 : ∀ t, Steps p.tables e below (T13.setTop (mkF m 40 #[.val (.ref a1)] [(.int (1 : Int32))])) t → Steps p.tables e below (s₁.setTop (entryFrame m #[(.ref a1)] 1)) t := by
              intro t k
              refine pre14 t ?_
              refine Jvm.RoadKit.acmp (g := (mkF m 32 #[.val (.ref a1)] [(.ref (f 5)), (.ref a1)])) X13 hx rfl rfl rfl (pc0 := 32) (pc' := 35) (same := true) rfl (hb hby d1_32) rfl (decide_eq_true (congrArg Value.ref ha32)) (by decide) (by decide) ?_
              show Steps p.tables e below (T13.setTop (mkF m 35 #[.val (.ref a1)] [])) _
              refine XS.iconst X13.here hx rfl (hb hby d1_35) ?_
              show Steps p.tables e below (T13.setTop (mkF m 36 #[.val (.ref a1)] [(.int (1 : Int32))])) _
              refine XS.goto X13.here hx rfl (pc0 := 36) (pc' := 40) rfl (hb hby d1_36) (by decide) (by decide) ?_
              show Steps p.tables e below (T13.setTop (mkF m 40 #[.val (.ref a1)] [(.int (1 : Int32))])) _
              exact k
            obtain ⟨fs, hr, hrun, hended, hW, hsame⟩ := X13.leave (v := some (.int (1 : Int32))) (fun h => by rw [Bd.returns] at h; cases h)
            refine ⟨_, _, pre15 _ ?_, hrun, hended, _, _, rfl, ?_, ⟨_, rfl⟩, hW, hsame.mono (by decide) (by decide)⟩
            · exact retN X13 hx (t := .boolean) Bd.returns (by simp) (hb hby d1_40) hr
            · show Q1 Z a1 f h0 n0 _ T13.heap _
              rw [e13]
              exact ⟨congrArg (fun z => some (Value.int z)) (Eq.symm (if_pos (Or.inr (Or.inr (Or.inr (Or.inr (ha32))))))), N0, rfl⟩
          · have pre16 : ∀ t, Steps p.tables e below (T13.setTop (mkF m 40 #[.val (.ref a1)] [(.int (0 : Int32))])) t → Steps p.tables e below (s₁.setTop (entryFrame m #[(.ref a1)] 1)) t := by
              intro t k
              refine pre14 t ?_
              refine Jvm.RoadKit.acmp (g := (mkF m 32 #[.val (.ref a1)] [(.ref (f 5)), (.ref a1)])) X13 hx rfl rfl rfl (pc0 := 32) (pc' := 39) (same := false) rfl (hb hby d1_32) rfl (decide_eq_false fun q => ha32 (Value.ref.inj q)) (by decide) (by decide) ?_
              show Steps p.tables e below (T13.setTop (mkF m 39 #[.val (.ref a1)] [])) _
              refine XS.iconst X13.here hx rfl (hb hby d1_39) ?_
              show Steps p.tables e below (T13.setTop (mkF m 40 #[.val (.ref a1)] [(.int (0 : Int32))])) _
              exact k
            obtain ⟨fs, hr, hrun, hended, hW, hsame⟩ := X13.leave (v := some (.int (0 : Int32))) (fun h => by rw [Bd.returns] at h; cases h)
            refine ⟨_, _, pre16 _ ?_, hrun, hended, _, _, rfl, ?_, ⟨_, rfl⟩, hW, hsame.mono (by decide) (by decide)⟩
            · exact retN X13 hx (t := .boolean) Bd.returns (by simp) (hb hby d1_40) hr
            · show Q1 Z a1 f h0 n0 _ T13.heap _
              rw [e13]
              exact ⟨congrArg (fun z => some (Value.int z)) (Eq.symm (if_neg (fun q => q.elim ha4 (fun q => q.elim ha11 (fun q => q.elim ha18 (fun q => q.elim ha25 (ha32))))))), N0, rfl⟩
theorem pn_0 : plainName "com/example/schemma/schemma/KindIsRelationPinLaw" = true := by first | (simp [plainName, overriddenIn]; done) | decide +kernel
theorem pd_0 : parseMethodDescriptor "()Z" = some ⟨[], some .boolean⟩ := by decide +kernel
theorem ef_0 (m : MethodId) (p1 : Int32) : entryFrame m #[(.int p1)] maxLocals = mkF m 0 #[.val (.int p1), .unset, .unset, .unset] [] := by first | (simp [entryFrame, mkF, argsToLocals, Value.category, maxLocals]; done) | rfl
def Q0 (Z : State) (p1 : Int32) (h0 : Heap) (n0 : Nat) (v : Option Value) (h : Heap) (L : List Loc) : Prop := v = some (.int (1 : Int32)) ∧ Fr n0 L
set_option maxRecDepth 65536 in
set_option maxHeartbeats 40000000 in
theorem rm0 (l : Launch) (Z : State) (a0 : Array Value) (hw : ∀ d ∈ tables_1, d.before a0 Z = true) (ws : List Jvm.Cond) (p1 : Int32) (f : Nat → Addr) (h0 : Heap) (n0 : Nat) (Z0 : n0 ≤ h0.size) (S0 : Sta Z h0 "com/example/schemma/schemma/ObjectReference$Kind" "SCHEMA" "Lcom/example/schemma/schemma/ObjectReference$Kind;" (.ref (f 0))) (S1 : Sta Z h0 "com/example/schemma/schemma/ObjectReference$Kind" "TABLE" "Lcom/example/schemma/schemma/ObjectReference$Kind;" (.ref (f 1))) (S2 : Sta Z h0 "com/example/schemma/schemma/ObjectReference$Kind" "VIEW" "Lcom/example/schemma/schemma/ObjectReference$Kind;" (.ref (f 2))) (S3 : Sta Z h0 "com/example/schemma/schemma/ObjectReference$Kind" "MATERIALIZED_VIEW" "Lcom/example/schemma/schemma/ObjectReference$Kind;" (.ref (f 3))) (S4 : Sta Z h0 "com/example/schemma/schemma/ObjectReference$Kind" "SEQUENCE" "Lcom/example/schemma/schemma/ObjectReference$Kind;" (.ref (f 4))) (S5 : Sta Z h0 "com/example/schemma/schemma/ObjectReference$Kind" "INDEX" "Lcom/example/schemma/schemma/ObjectReference$Kind;" (.ref (f 5))) (S6 : Sta Z h0 "com/example/schemma/schemma/ObjectReference$Kind" "TYPE" "Lcom/example/schemma/schemma/ObjectReference$Kind;" (.ref (f 6))) (S7 : Sta Z h0 "com/example/schemma/schemma/ObjectReference$Kind" "DOMAIN" "Lcom/example/schemma/schemma/ObjectReference$Kind;" (.ref (f 7))) (S8 : Sta Z h0 "com/example/schemma/schemma/ObjectReference$Kind" "FUNCTION" "Lcom/example/schemma/schemma/ObjectReference$Kind;" (.ref (f 8))) (S9 : Sta Z h0 "com/example/schemma/schemma/ObjectReference$Kind" "PROCEDURE" "Lcom/example/schemma/schemma/ObjectReference$Kind;" (.ref (f 9))) (S10 : Sta Z h0 "com/example/schemma/schemma/ObjectReference$Kind" "ROUTINE" "Lcom/example/schemma/schemma/ObjectReference$Kind;" (.ref (f 10))) (S11 : Sta Z h0 "com/example/schemma/schemma/ObjectReference$Kind" "AGGREGATE" "Lcom/example/schemma/schemma/ObjectReference$Kind;" (.ref (f 11))) (S12 : Sta Z h0 "com/example/schemma/schemma/ObjectReference$Kind" "COLUMN" "Lcom/example/schemma/schemma/ObjectReference$Kind;" (.ref (f 12))) (S13 : Sta Z h0 "com/example/schemma/schemma/ObjectReference$Kind" "CONSTRAINT" "Lcom/example/schemma/schemma/ObjectReference$Kind;" (.ref (f 13))) (S14 : Sta Z h0 "com/example/schemma/schemma/ObjectReference$Kind" "TRIGGER" "Lcom/example/schemma/schemma/ObjectReference$Kind;" (.ref (f 14))) (S15 : Sta Z h0 "com/example/schemma/schemma/ObjectReference$Kind" "RULE" "Lcom/example/schemma/schemma/ObjectReference$Kind;" (.ref (f 15))) (S16 : Sta Z h0 "com/example/schemma/schemma/ObjectReference$Kind" "POLICY" "Lcom/example/schemma/schemma/ObjectReference$Kind;" (.ref (f 16))) (S17 : Sta Z h0 "com/example/schemma/schemma/ObjectReference$Kind" "EXTENSION" "Lcom/example/schemma/schemma/ObjectReference$Kind;" (.ref (f 17))) (hE : ∀ i, i < 18 → Exa Z h0 (f i) "com/example/schemma/schemma/ObjectReference$Kind") (hO : ∀ i, i < 18 → Fld Z h0 (f i) "java/lang/Enum" "ordinal" "I" (.int (Int32.ofNat i))) :
    MetFree l x (head1 (Jvm.Cond.code x code maxLocals ret :: ws) room_1) (fun a U => a = #[(.int p1)] ∧ Z.Warmed39 U.vm ∧ U.heap = h0) (fun _ _ _ _ _ => True) (fun _ U o U' => ∃ v L, o = .returned v ∧ Q0 Z p1 h0 n0 v U'.heap L ∧ FrameEnd U o U' L room_1.cells room_1.slots) := by
  refine MetFree.of_bodySF (plainFor_of_name pn_0) hisR ?_
  intro p e s m args below meth c s₁ Bd hml0 hP hK
  obtain ⟨rfl, hZ, hh⟩ := hP
  have hx := Bd.exec
  have hby := Bd.bytes
  have hml : c.maxLocals = 4 := hml0
  have hown : s.vm.findClass "com/example/schemma/schemma/KindIsRelationPinLaw" = some m.cls := findClass_of_methodNamed Bd.named
  have hnm := (name_of_methodNamed Bd.named Bd.method).1
  have X0 : Stand p l e room_1 s m #[(.int p1)] below meth c s₁ [] 0 0 := Stand.of_body Bd
  have e0 : s₁.heap = h0 := by rw [← hh, Bd.state]; rfl
  have N0 := Fr.nil n0
  have pre0 : ∀ t, Steps p.tables e below (s₁.setTop (mkF m 0 #[.val (.int p1), .unset, .unset, .unset] [])) t → Steps p.tables e below (s₁.setTop (entryFrame m #[(.int p1)] maxLocals)) t := fun t k => castTop (ef_0 m p1) k
  have inj : ∀ i, i < 18 → ∀ j, j < 18 → f i = f j → i = j := fun i hi j hj q => by
    have u := own_uni (hO i hi) (q ▸ hO j hj)
    have u' : Int32.ofNat i = Int32.ofNat j := Value.int.inj u
    have v := congrArg Int32.toInt u'
    rw [Int32.toInt_ofNat_of_lt (by omega), Int32.toInt_ofNat_of_lt (by omega)] at v
    omega
  obtain ⟨T1, h1, k1, X1, e1, E1, A1, O1, st1⟩ := newR X0 hx hZ hown (hw _ (List.mem_of_getElem? (i := 0) rfl)) (hw _ (List.mem_of_getElem? (i := 1) rfl)) e0 (g := (mkF m 2 #[.val (.int p1), .unset, .unset, .unset] [(.int (18 : Int32))])) rfl (hb hby at_2) rfl (by decide) (cap := 18) (by decide) (by decide) (by decide) (by decide)
  obtain ⟨b, gb⟩ : ∃ z, z = h0.size := ⟨_, rfl⟩
  rw [← gb] at A1 st1
  have g_b : n0 ≤ b := Nat.le_trans Z0 (Nat.le_of_eq gb.symm)
  have s_b : h0.size ≤ b := Nat.le_of_eq gb.symm
  have I0 : own_inv Z h0 h1 b k1 f 0 := ⟨(Keep.refl h0 []).ext E1, (Arv.new A1 (by decide)).pad own_nil, O1⟩
  have pre2 : ∀ t, Steps p.tables e below (T1.setTop (mkF m 5 #[.val (.int p1), .unset, .unset, .unset] [(.ref b)])) t → Steps p.tables e below (s₁.setTop (entryFrame m #[(.int p1)] maxLocals)) t := by
    intro t k
    refine pre0 t ?_
    refine XS.bipush X0.here hx rfl (hb hby at_0) ?_
    show Steps p.tables e below (s₁.setTop (mkF m 2 #[.val (.int p1), .unset, .unset, .unset] [(.int (18 : Int32))])) _
    refine st1 _ ?_
    show Steps p.tables e below (T1.setTop (mkF m 5 #[.val (.int p1), .unset, .unset, .unset] [(.ref b)])) _
    exact k
  obtain ⟨T3, h3, L3, X3, e3, I3, N3, st3⟩ := own_put (pc := 7) (j := (0 : Int32)) (Ls := #[.val (.int p1), .unset, .unset, .unset]) X1 hx hZ hown e1 0 I0 N0 g_b s_b (hw _ (List.mem_of_getElem? (i := 2) rfl)) S0 (hE 0 (by decide)) rfl (by decide) (by decide) (hb hby at_7) (hb hby at_10)
  have pre4 : ∀ t, Steps p.tables e below (T3.setTop (mkF m 11 #[.val (.int p1), .unset, .unset, .unset] [(.ref b)])) t → Steps p.tables e below (s₁.setTop (entryFrame m #[(.int p1)] maxLocals)) t := by
    intro t k
    refine pre2 t ?_
    refine XS.dup X1.here hx rfl (hb hby at_5) rfl rfl ?_
    show Steps p.tables e below (T1.setTop (mkF m 6 #[.val (.int p1), .unset, .unset, .unset] [(.ref b), (.ref b)])) _
    refine XS.iconst X1.here hx rfl (hb hby at_6) ?_
    show Steps p.tables e below (T1.setTop (mkF m 7 #[.val (.int p1), .unset, .unset, .unset] [(.int (0 : Int32)), (.ref b), (.ref b)])) _
    refine st3 _ ?_
    show Steps p.tables e below (T3.setTop (mkF m 11 #[.val (.int p1), .unset, .unset, .unset] [(.ref b)])) _
    exact k
  obtain ⟨T5, h5, L5, X5, e5, I5, N5, st5⟩ := own_put (pc := 13) (j := (1 : Int32)) (Ls := #[.val (.int p1), .unset, .unset, .unset]) X3 hx hZ hown e3 1 I3 N3 g_b s_b (hw _ (List.mem_of_getElem? (i := 6) rfl)) S1 (hE 1 (by decide)) rfl (by decide) (by decide) (hb hby at_13) (hb hby at_16)
  have pre6 : ∀ t, Steps p.tables e below (T5.setTop (mkF m 17 #[.val (.int p1), .unset, .unset, .unset] [(.ref b)])) t → Steps p.tables e below (s₁.setTop (entryFrame m #[(.int p1)] maxLocals)) t := by
    intro t k
    refine pre4 t ?_
    refine XS.dup X3.here hx rfl (hb hby at_11) rfl rfl ?_
    show Steps p.tables e below (T3.setTop (mkF m 12 #[.val (.int p1), .unset, .unset, .unset] [(.ref b), (.ref b)])) _
    refine XS.iconst X3.here hx rfl (hb hby at_12) ?_
    show Steps p.tables e below (T3.setTop (mkF m 13 #[.val (.int p1), .unset, .unset, .unset] [(.int (1 : Int32)), (.ref b), (.ref b)])) _
    refine st5 _ ?_
    show Steps p.tables e below (T5.setTop (mkF m 17 #[.val (.int p1), .unset, .unset, .unset] [(.ref b)])) _
    exact k
  obtain ⟨T7, h7, L7, X7, e7, I7, N7, st7⟩ := own_put (pc := 19) (j := (2 : Int32)) (Ls := #[.val (.int p1), .unset, .unset, .unset]) X5 hx hZ hown e5 2 I5 N5 g_b s_b (hw _ (List.mem_of_getElem? (i := 8) rfl)) S2 (hE 2 (by decide)) rfl (by decide) (by decide) (hb hby at_19) (hb hby at_22)
  have pre8 : ∀ t, Steps p.tables e below (T7.setTop (mkF m 23 #[.val (.int p1), .unset, .unset, .unset] [(.ref b)])) t → Steps p.tables e below (s₁.setTop (entryFrame m #[(.int p1)] maxLocals)) t := by
    intro t k
    refine pre6 t ?_
    refine XS.dup X5.here hx rfl (hb hby at_17) rfl rfl ?_
    show Steps p.tables e below (T5.setTop (mkF m 18 #[.val (.int p1), .unset, .unset, .unset] [(.ref b), (.ref b)])) _
    refine XS.iconst X5.here hx rfl (hb hby at_18) ?_
    show Steps p.tables e below (T5.setTop (mkF m 19 #[.val (.int p1), .unset, .unset, .unset] [(.int (2 : Int32)), (.ref b), (.ref b)])) _
    refine st7 _ ?_
    show Steps p.tables e below (T7.setTop (mkF m 23 #[.val (.int p1), .unset, .unset, .unset] [(.ref b)])) _
    exact k
  obtain ⟨T9, h9, L9, X9, e9, I9, N9, st9⟩ := own_put (pc := 25) (j := (3 : Int32)) (Ls := #[.val (.int p1), .unset, .unset, .unset]) X7 hx hZ hown e7 3 I7 N7 g_b s_b (hw _ (List.mem_of_getElem? (i := 10) rfl)) S3 (hE 3 (by decide)) rfl (by decide) (by decide) (hb hby at_25) (hb hby at_28)
  have pre10 : ∀ t, Steps p.tables e below (T9.setTop (mkF m 29 #[.val (.int p1), .unset, .unset, .unset] [(.ref b)])) t → Steps p.tables e below (s₁.setTop (entryFrame m #[(.int p1)] maxLocals)) t := by
    intro t k
    refine pre8 t ?_
    refine XS.dup X7.here hx rfl (hb hby at_23) rfl rfl ?_
    show Steps p.tables e below (T7.setTop (mkF m 24 #[.val (.int p1), .unset, .unset, .unset] [(.ref b), (.ref b)])) _
    refine XS.iconst X7.here hx rfl (hb hby at_24) ?_
    show Steps p.tables e below (T7.setTop (mkF m 25 #[.val (.int p1), .unset, .unset, .unset] [(.int (3 : Int32)), (.ref b), (.ref b)])) _
    refine st9 _ ?_
    show Steps p.tables e below (T9.setTop (mkF m 29 #[.val (.int p1), .unset, .unset, .unset] [(.ref b)])) _
    exact k
  obtain ⟨T11, h11, L11, X11, e11, I11, N11, st11⟩ := own_put (pc := 31) (j := (4 : Int32)) (Ls := #[.val (.int p1), .unset, .unset, .unset]) X9 hx hZ hown e9 4 I9 N9 g_b s_b (hw _ (List.mem_of_getElem? (i := 12) rfl)) S4 (hE 4 (by decide)) rfl (by decide) (by decide) (hb hby at_31) (hb hby at_34)
  have pre12 : ∀ t, Steps p.tables e below (T11.setTop (mkF m 35 #[.val (.int p1), .unset, .unset, .unset] [(.ref b)])) t → Steps p.tables e below (s₁.setTop (entryFrame m #[(.int p1)] maxLocals)) t := by
    intro t k
    refine pre10 t ?_
    refine XS.dup X9.here hx rfl (hb hby at_29) rfl rfl ?_
    show Steps p.tables e below (T9.setTop (mkF m 30 #[.val (.int p1), .unset, .unset, .unset] [(.ref b), (.ref b)])) _
    refine XS.iconst X9.here hx rfl (hb hby at_30) ?_
    show Steps p.tables e below (T9.setTop (mkF m 31 #[.val (.int p1), .unset, .unset, .unset] [(.int (4 : Int32)), (.ref b), (.ref b)])) _
    refine st11 _ ?_
    show Steps p.tables e below (T11.setTop (mkF m 35 #[.val (.int p1), .unset, .unset, .unset] [(.ref b)])) _
    exact k
  obtain ⟨T13, h13, L13, X13, e13, I13, N13, st13⟩ := own_put (pc := 37) (j := (5 : Int32)) (Ls := #[.val (.int p1), .unset, .unset, .unset]) X11 hx hZ hown e11 5 I11 N11 g_b s_b (hw _ (List.mem_of_getElem? (i := 14) rfl)) S5 (hE 5 (by decide)) rfl (by decide) (by decide) (hb hby at_37) (hb hby at_40)
  have pre14 : ∀ t, Steps p.tables e below (T13.setTop (mkF m 41 #[.val (.int p1), .unset, .unset, .unset] [(.ref b)])) t → Steps p.tables e below (s₁.setTop (entryFrame m #[(.int p1)] maxLocals)) t := by
    intro t k
    refine pre12 t ?_
    refine XS.dup X11.here hx rfl (hb hby at_35) rfl rfl ?_
    show Steps p.tables e below (T11.setTop (mkF m 36 #[.val (.int p1), .unset, .unset, .unset] [(.ref b), (.ref b)])) _
    refine XS.iconst X11.here hx rfl (hb hby at_36) ?_
    show Steps p.tables e below (T11.setTop (mkF m 37 #[.val (.int p1), .unset, .unset, .unset] [(.int (5 : Int32)), (.ref b), (.ref b)])) _
    refine st13 _ ?_
    show Steps p.tables e below (T13.setTop (mkF m 41 #[.val (.int p1), .unset, .unset, .unset] [(.ref b)])) _
    exact k
  obtain ⟨T15, h15, L15, X15, e15, I15, N15, st15⟩ := own_put (pc := 44) (j := (6 : Int32)) (Ls := #[.val (.int p1), .unset, .unset, .unset]) X13 hx hZ hown e13 6 I13 N13 g_b s_b (hw _ (List.mem_of_getElem? (i := 16) rfl)) S6 (hE 6 (by decide)) rfl (by decide) (by decide) (hb hby at_44) (hb hby at_47)
  have pre16 : ∀ t, Steps p.tables e below (T15.setTop (mkF m 48 #[.val (.int p1), .unset, .unset, .unset] [(.ref b)])) t → Steps p.tables e below (s₁.setTop (entryFrame m #[(.int p1)] maxLocals)) t := by
    intro t k
    refine pre14 t ?_
    refine XS.dup X13.here hx rfl (hb hby at_41) rfl rfl ?_
    show Steps p.tables e below (T13.setTop (mkF m 42 #[.val (.int p1), .unset, .unset, .unset] [(.ref b), (.ref b)])) _
    refine XS.bipush X13.here hx rfl (hb hby at_42) ?_
    show Steps p.tables e below (T13.setTop (mkF m 44 #[.val (.int p1), .unset, .unset, .unset] [(.int (6 : Int32)), (.ref b), (.ref b)])) _
    refine st15 _ ?_
    show Steps p.tables e below (T15.setTop (mkF m 48 #[.val (.int p1), .unset, .unset, .unset] [(.ref b)])) _
    exact k
  obtain ⟨T17, h17, L17, X17, e17, I17, N17, st17⟩ := own_put (pc := 51) (j := (7 : Int32)) (Ls := #[.val (.int p1), .unset, .unset, .unset]) X15 hx hZ hown e15 7 I15 N15 g_b s_b (hw _ (List.mem_of_getElem? (i := 18) rfl)) S7 (hE 7 (by decide)) rfl (by decide) (by decide) (hb hby at_51) (hb hby at_54)
  have pre18 : ∀ t, Steps p.tables e below (T17.setTop (mkF m 55 #[.val (.int p1), .unset, .unset, .unset] [(.ref b)])) t → Steps p.tables e below (s₁.setTop (entryFrame m #[(.int p1)] maxLocals)) t := by
    intro t k
    refine pre16 t ?_
    refine XS.dup X15.here hx rfl (hb hby at_48) rfl rfl ?_
    show Steps p.tables e below (T15.setTop (mkF m 49 #[.val (.int p1), .unset, .unset, .unset] [(.ref b), (.ref b)])) _
    refine XS.bipush X15.here hx rfl (hb hby at_49) ?_
    show Steps p.tables e below (T15.setTop (mkF m 51 #[.val (.int p1), .unset, .unset, .unset] [(.int (7 : Int32)), (.ref b), (.ref b)])) _
    refine st17 _ ?_
    show Steps p.tables e below (T17.setTop (mkF m 55 #[.val (.int p1), .unset, .unset, .unset] [(.ref b)])) _
    exact k
  obtain ⟨T19, h19, L19, X19, e19, I19, N19, st19⟩ := own_put (pc := 58) (j := (8 : Int32)) (Ls := #[.val (.int p1), .unset, .unset, .unset]) X17 hx hZ hown e17 8 I17 N17 g_b s_b (hw _ (List.mem_of_getElem? (i := 20) rfl)) S8 (hE 8 (by decide)) rfl (by decide) (by decide) (hb hby at_58) (hb hby at_61)
  have pre20 : ∀ t, Steps p.tables e below (T19.setTop (mkF m 62 #[.val (.int p1), .unset, .unset, .unset] [(.ref b)])) t → Steps p.tables e below (s₁.setTop (entryFrame m #[(.int p1)] maxLocals)) t := by
    intro t k
    refine pre18 t ?_
    refine XS.dup X17.here hx rfl (hb hby at_55) rfl rfl ?_
    show Steps p.tables e below (T17.setTop (mkF m 56 #[.val (.int p1), .unset, .unset, .unset] [(.ref b), (.ref b)])) _
    refine XS.bipush X17.here hx rfl (hb hby at_56) ?_
    show Steps p.tables e below (T17.setTop (mkF m 58 #[.val (.int p1), .unset, .unset, .unset] [(.int (8 : Int32)), (.ref b), (.ref b)])) _
    refine st19 _ ?_
    show Steps p.tables e below (T19.setTop (mkF m 62 #[.val (.int p1), .unset, .unset, .unset] [(.ref b)])) _
    exact k
  obtain ⟨T21, h21, L21, X21, e21, I21, N21, st21⟩ := own_put (pc := 65) (j := (9 : Int32)) (Ls := #[.val (.int p1), .unset, .unset, .unset]) X19 hx hZ hown e19 9 I19 N19 g_b s_b (hw _ (List.mem_of_getElem? (i := 22) rfl)) S9 (hE 9 (by decide)) rfl (by decide) (by decide) (hb hby at_65) (hb hby at_68)
  have pre22 : ∀ t, Steps p.tables e below (T21.setTop (mkF m 69 #[.val (.int p1), .unset, .unset, .unset] [(.ref b)])) t → Steps p.tables e below (s₁.setTop (entryFrame m #[(.int p1)] maxLocals)) t := by
    intro t k
    refine pre20 t ?_
    refine XS.dup X19.here hx rfl (hb hby at_62) rfl rfl ?_
    show Steps p.tables e below (T19.setTop (mkF m 63 #[.val (.int p1), .unset, .unset, .unset] [(.ref b), (.ref b)])) _
    refine XS.bipush X19.here hx rfl (hb hby at_63) ?_
    show Steps p.tables e below (T19.setTop (mkF m 65 #[.val (.int p1), .unset, .unset, .unset] [(.int (9 : Int32)), (.ref b), (.ref b)])) _
    refine st21 _ ?_
    show Steps p.tables e below (T21.setTop (mkF m 69 #[.val (.int p1), .unset, .unset, .unset] [(.ref b)])) _
    exact k
  obtain ⟨T23, h23, L23, X23, e23, I23, N23, st23⟩ := own_put (pc := 72) (j := (10 : Int32)) (Ls := #[.val (.int p1), .unset, .unset, .unset]) X21 hx hZ hown e21 10 I21 N21 g_b s_b (hw _ (List.mem_of_getElem? (i := 24) rfl)) S10 (hE 10 (by decide)) rfl (by decide) (by decide) (hb hby at_72) (hb hby at_75)
  have pre24 : ∀ t, Steps p.tables e below (T23.setTop (mkF m 76 #[.val (.int p1), .unset, .unset, .unset] [(.ref b)])) t → Steps p.tables e below (s₁.setTop (entryFrame m #[(.int p1)] maxLocals)) t := by
    intro t k
    refine pre22 t ?_
    refine XS.dup X21.here hx rfl (hb hby at_69) rfl rfl ?_
    show Steps p.tables e below (T21.setTop (mkF m 70 #[.val (.int p1), .unset, .unset, .unset] [(.ref b), (.ref b)])) _
    refine XS.bipush X21.here hx rfl (hb hby at_70) ?_
    show Steps p.tables e below (T21.setTop (mkF m 72 #[.val (.int p1), .unset, .unset, .unset] [(.int (10 : Int32)), (.ref b), (.ref b)])) _
    refine st23 _ ?_
    show Steps p.tables e below (T23.setTop (mkF m 76 #[.val (.int p1), .unset, .unset, .unset] [(.ref b)])) _
    exact k
  obtain ⟨T25, h25, L25, X25, e25, I25, N25, st25⟩ := own_put (pc := 79) (j := (11 : Int32)) (Ls := #[.val (.int p1), .unset, .unset, .unset]) X23 hx hZ hown e23 11 I23 N23 g_b s_b (hw _ (List.mem_of_getElem? (i := 26) rfl)) S11 (hE 11 (by decide)) rfl (by decide) (by decide) (hb hby at_79) (hb hby at_82)
  have pre26 : ∀ t, Steps p.tables e below (T25.setTop (mkF m 83 #[.val (.int p1), .unset, .unset, .unset] [(.ref b)])) t → Steps p.tables e below (s₁.setTop (entryFrame m #[(.int p1)] maxLocals)) t := by
    intro t k
    refine pre24 t ?_
    refine XS.dup X23.here hx rfl (hb hby at_76) rfl rfl ?_
    show Steps p.tables e below (T23.setTop (mkF m 77 #[.val (.int p1), .unset, .unset, .unset] [(.ref b), (.ref b)])) _
    refine XS.bipush X23.here hx rfl (hb hby at_77) ?_
    show Steps p.tables e below (T23.setTop (mkF m 79 #[.val (.int p1), .unset, .unset, .unset] [(.int (11 : Int32)), (.ref b), (.ref b)])) _
    refine st25 _ ?_
    show Steps p.tables e below (T25.setTop (mkF m 83 #[.val (.int p1), .unset, .unset, .unset] [(.ref b)])) _
    exact k
  obtain ⟨T27, h27, L27, X27, e27, I27, N27, st27⟩ := own_put (pc := 86) (j := (12 : Int32)) (Ls := #[.val (.int p1), .unset, .unset, .unset]) X25 hx hZ hown e25 12 I25 N25 g_b s_b (hw _ (List.mem_of_getElem? (i := 28) rfl)) S12 (hE 12 (by decide)) rfl (by decide) (by decide) (hb hby at_86) (hb hby at_89)
  have pre28 : ∀ t, Steps p.tables e below (T27.setTop (mkF m 90 #[.val (.int p1), .unset, .unset, .unset] [(.ref b)])) t → Steps p.tables e below (s₁.setTop (entryFrame m #[(.int p1)] maxLocals)) t := by
    intro t k
    refine pre26 t ?_
    refine XS.dup X25.here hx rfl (hb hby at_83) rfl rfl ?_
    show Steps p.tables e below (T25.setTop (mkF m 84 #[.val (.int p1), .unset, .unset, .unset] [(.ref b), (.ref b)])) _
    refine XS.bipush X25.here hx rfl (hb hby at_84) ?_
    show Steps p.tables e below (T25.setTop (mkF m 86 #[.val (.int p1), .unset, .unset, .unset] [(.int (12 : Int32)), (.ref b), (.ref b)])) _
    refine st27 _ ?_
    show Steps p.tables e below (T27.setTop (mkF m 90 #[.val (.int p1), .unset, .unset, .unset] [(.ref b)])) _
    exact k
  obtain ⟨T29, h29, L29, X29, e29, I29, N29, st29⟩ := own_put (pc := 93) (j := (13 : Int32)) (Ls := #[.val (.int p1), .unset, .unset, .unset]) X27 hx hZ hown e27 13 I27 N27 g_b s_b (hw _ (List.mem_of_getElem? (i := 30) rfl)) S13 (hE 13 (by decide)) rfl (by decide) (by decide) (hb hby at_93) (hb hby at_96)
  have pre30 : ∀ t, Steps p.tables e below (T29.setTop (mkF m 97 #[.val (.int p1), .unset, .unset, .unset] [(.ref b)])) t → Steps p.tables e below (s₁.setTop (entryFrame m #[(.int p1)] maxLocals)) t := by
    intro t k
    refine pre28 t ?_
    refine XS.dup X27.here hx rfl (hb hby at_90) rfl rfl ?_
    show Steps p.tables e below (T27.setTop (mkF m 91 #[.val (.int p1), .unset, .unset, .unset] [(.ref b), (.ref b)])) _
    refine XS.bipush X27.here hx rfl (hb hby at_91) ?_
    show Steps p.tables e below (T27.setTop (mkF m 93 #[.val (.int p1), .unset, .unset, .unset] [(.int (13 : Int32)), (.ref b), (.ref b)])) _
    refine st29 _ ?_
    show Steps p.tables e below (T29.setTop (mkF m 97 #[.val (.int p1), .unset, .unset, .unset] [(.ref b)])) _
    exact k
  obtain ⟨T31, h31, L31, X31, e31, I31, N31, st31⟩ := own_put (pc := 100) (j := (14 : Int32)) (Ls := #[.val (.int p1), .unset, .unset, .unset]) X29 hx hZ hown e29 14 I29 N29 g_b s_b (hw _ (List.mem_of_getElem? (i := 32) rfl)) S14 (hE 14 (by decide)) rfl (by decide) (by decide) (hb hby at_100) (hb hby at_103)
  have pre32 : ∀ t, Steps p.tables e below (T31.setTop (mkF m 104 #[.val (.int p1), .unset, .unset, .unset] [(.ref b)])) t → Steps p.tables e below (s₁.setTop (entryFrame m #[(.int p1)] maxLocals)) t := by
    intro t k
    refine pre30 t ?_
    refine XS.dup X29.here hx rfl (hb hby at_97) rfl rfl ?_
    show Steps p.tables e below (T29.setTop (mkF m 98 #[.val (.int p1), .unset, .unset, .unset] [(.ref b), (.ref b)])) _
    refine XS.bipush X29.here hx rfl (hb hby at_98) ?_
    show Steps p.tables e below (T29.setTop (mkF m 100 #[.val (.int p1), .unset, .unset, .unset] [(.int (14 : Int32)), (.ref b), (.ref b)])) _
    refine st31 _ ?_
    show Steps p.tables e below (T31.setTop (mkF m 104 #[.val (.int p1), .unset, .unset, .unset] [(.ref b)])) _
    exact k
  obtain ⟨T33, h33, L33, X33, e33, I33, N33, st33⟩ := own_put (pc := 107) (j := (15 : Int32)) (Ls := #[.val (.int p1), .unset, .unset, .unset]) X31 hx hZ hown e31 15 I31 N31 g_b s_b (hw _ (List.mem_of_getElem? (i := 34) rfl)) S15 (hE 15 (by decide)) rfl (by decide) (by decide) (hb hby at_107) (hb hby at_110)
  have pre34 : ∀ t, Steps p.tables e below (T33.setTop (mkF m 111 #[.val (.int p1), .unset, .unset, .unset] [(.ref b)])) t → Steps p.tables e below (s₁.setTop (entryFrame m #[(.int p1)] maxLocals)) t := by
    intro t k
    refine pre32 t ?_
    refine XS.dup X31.here hx rfl (hb hby at_104) rfl rfl ?_
    show Steps p.tables e below (T31.setTop (mkF m 105 #[.val (.int p1), .unset, .unset, .unset] [(.ref b), (.ref b)])) _
    refine XS.bipush X31.here hx rfl (hb hby at_105) ?_
    show Steps p.tables e below (T31.setTop (mkF m 107 #[.val (.int p1), .unset, .unset, .unset] [(.int (15 : Int32)), (.ref b), (.ref b)])) _
    refine st33 _ ?_
    show Steps p.tables e below (T33.setTop (mkF m 111 #[.val (.int p1), .unset, .unset, .unset] [(.ref b)])) _
    exact k
  obtain ⟨T35, h35, L35, X35, e35, I35, N35, st35⟩ := own_put (pc := 114) (j := (16 : Int32)) (Ls := #[.val (.int p1), .unset, .unset, .unset]) X33 hx hZ hown e33 16 I33 N33 g_b s_b (hw _ (List.mem_of_getElem? (i := 36) rfl)) S16 (hE 16 (by decide)) rfl (by decide) (by decide) (hb hby at_114) (hb hby at_117)
  have pre36 : ∀ t, Steps p.tables e below (T35.setTop (mkF m 118 #[.val (.int p1), .unset, .unset, .unset] [(.ref b)])) t → Steps p.tables e below (s₁.setTop (entryFrame m #[(.int p1)] maxLocals)) t := by
    intro t k
    refine pre34 t ?_
    refine XS.dup X33.here hx rfl (hb hby at_111) rfl rfl ?_
    show Steps p.tables e below (T33.setTop (mkF m 112 #[.val (.int p1), .unset, .unset, .unset] [(.ref b), (.ref b)])) _
    refine XS.bipush X33.here hx rfl (hb hby at_112) ?_
    show Steps p.tables e below (T33.setTop (mkF m 114 #[.val (.int p1), .unset, .unset, .unset] [(.int (16 : Int32)), (.ref b), (.ref b)])) _
    refine st35 _ ?_
    show Steps p.tables e below (T35.setTop (mkF m 118 #[.val (.int p1), .unset, .unset, .unset] [(.ref b)])) _
    exact k
  obtain ⟨T37, h37, L37, X37, e37, I37, N37, st37⟩ := own_put (pc := 121) (j := (17 : Int32)) (Ls := #[.val (.int p1), .unset, .unset, .unset]) X35 hx hZ hown e35 17 I35 N35 g_b s_b (hw _ (List.mem_of_getElem? (i := 38) rfl)) S17 (hE 17 (by decide)) rfl (by decide) (by decide) (hb hby at_121) (hb hby at_124)
  have pre38 : ∀ t, Steps p.tables e below (T37.setTop (mkF m 125 #[.val (.int p1), .unset, .unset, .unset] [(.ref b)])) t → Steps p.tables e below (s₁.setTop (entryFrame m #[(.int p1)] maxLocals)) t := by
    intro t k
    refine pre36 t ?_
    refine XS.dup X35.here hx rfl (hb hby at_118) rfl rfl ?_
    show Steps p.tables e below (T35.setTop (mkF m 119 #[.val (.int p1), .unset, .unset, .unset] [(.ref b), (.ref b)])) _
    refine XS.bipush X35.here hx rfl (hb hby at_119) ?_
    show Steps p.tables e below (T35.setTop (mkF m 121 #[.val (.int p1), .unset, .unset, .unset] [(.int (17 : Int32)), (.ref b), (.ref b)])) _
    refine st37 _ ?_
    show Steps p.tables e below (T37.setTop (mkF m 125 #[.val (.int p1), .unset, .unset, .unset] [(.ref b)])) _
    exact k
  obtain ⟨KL, VL, -⟩ := I37
  have hm : (p1 &&& (2147483647 : Int32)).toInt = p1.toInt % 2 ^ 31 := own_mask p1
  have hk : 0 ≤ ((p1 &&& (2147483647 : Int32)) % (18 : Int32)).toInt ∧ ((p1 &&& (2147483647 : Int32)) % (18 : Int32)).toInt < 18 := by
    have := c_irem (p1 &&& (2147483647 : Int32)) 18 18 rfl
    omega
  have hn : ((p1 &&& (2147483647 : Int32)) % (18 : Int32)).toNatClampNeg = ((p1 &&& (2147483647 : Int32)) % (18 : Int32)).toInt.toNat := rfl
  have hn18 : ((p1 &&& (2147483647 : Int32)) % (18 : Int32)).toNatClampNeg < 18 := by omega
  obtain ⟨cl, Ar, -, SL, -, HL, -⟩ := VL
  have hin : ¬ (((p1 &&& (2147483647 : Int32)) % (18 : Int32)) < 0 ∨ cl.slots.size ≤ ((p1 &&& (2147483647 : Int32)) % (18 : Int32)).toNatClampNeg) := by
    rw [SL]
    rintro (q | q)
    · have := own_lt q; have z0 : (0 : Int32).toInt = 0 := rfl; omega
    · have z18 : (18 : Int32).toNatClampNeg = 18 := rfl
      omega
  have hat : cl.slots[((p1 &&& (2147483647 : Int32)) % (18 : Int32)).toNatClampNeg]? = some (.ref (f ((p1 &&& (2147483647 : Int32)) % (18 : Int32)).toNatClampNeg)) := Has.at HL hin (own_at hn18)
  have hE' := (hE _ hn18).keep KL
  have hv0 := own_val inj hn18
  have pre39 : ∀ t, Steps p.tables e below (T37.setTop (mkF m 136 #[.val (.int p1), .val (.ref b), .val (.int ((p1 &&& (2147483647 : Int32)) % (18 : Int32))), .unset] [(.int (1 : Int32)), (.int ((p1 &&& (2147483647 : Int32)) % (18 : Int32)))])) t → Steps p.tables e below (s₁.setTop (entryFrame m #[(.int p1)] maxLocals)) t := by
    intro t k
    refine pre38 t ?_
    refine XS.astoreN X37.here hx rfl (hb hby at_125) rfl rfl (l' := #[.val (.int p1), .val (.ref b), .unset, .unset]) rfl ?_
    show Steps p.tables e below (T37.setTop (mkF m 126 #[.val (.int p1), .val (.ref b), .unset, .unset] [])) _
    refine XS.iloadN X37.here hx rfl (hb hby at_126) rfl ?_
    show Steps p.tables e below (T37.setTop (mkF m 127 #[.val (.int p1), .val (.ref b), .unset, .unset] [(.int p1)])) _
    refine X37.ldcInt hx hown (mvT hZ (hw _ (List.mem_of_getElem? (i := 40) rfl))) (g := (mkF m 127 #[.val (.int p1), .val (.ref b), .unset, .unset] [(.int p1)])) rfl (hb hby at_127) _ ?_
    show Steps p.tables e below (T37.setTop (mkF m 129 #[.val (.int p1), .val (.ref b), .unset, .unset] [(.int (2147483647 : Int32)), (.int p1)])) _
    refine XS.iand X37.here hx rfl (hb hby at_129) rfl ?_
    show Steps p.tables e below (T37.setTop (mkF m 130 #[.val (.int p1), .val (.ref b), .unset, .unset] [(.int (p1 &&& (2147483647 : Int32)))])) _
    refine XS.bipush X37.here hx rfl (hb hby at_130) ?_
    show Steps p.tables e below (T37.setTop (mkF m 132 #[.val (.int p1), .val (.ref b), .unset, .unset] [(.int (18 : Int32)), (.int (p1 &&& (2147483647 : Int32)))])) _
    refine iremM (g := (mkF m 132 #[.val (.int p1), .val (.ref b), .unset, .unset] [(.int (18 : Int32)), (.int (p1 &&& (2147483647 : Int32)))])) X37 hx rfl (hb hby at_132) rfl (by decide) ?_
    show Steps p.tables e below (T37.setTop (mkF m 133 #[.val (.int p1), .val (.ref b), .unset, .unset] [(.int ((p1 &&& (2147483647 : Int32)) % (18 : Int32)))])) _
    refine XS.istoreN X37.here hx rfl (hb hby at_133) rfl (l' := #[.val (.int p1), .val (.ref b), .val (.int ((p1 &&& (2147483647 : Int32)) % (18 : Int32))), .unset]) rfl ?_
    show Steps p.tables e below (T37.setTop (mkF m 134 #[.val (.int p1), .val (.ref b), .val (.int ((p1 &&& (2147483647 : Int32)) % (18 : Int32))), .unset] [])) _
    refine XS.iloadN X37.here hx rfl (hb hby at_134) rfl ?_
    show Steps p.tables e below (T37.setTop (mkF m 135 #[.val (.int p1), .val (.ref b), .val (.int ((p1 &&& (2147483647 : Int32)) % (18 : Int32))), .unset] [(.int ((p1 &&& (2147483647 : Int32)) % (18 : Int32)))])) _
    refine XS.iconst X37.here hx rfl (hb hby at_135) ?_
    show Steps p.tables e below (T37.setTop (mkF m 136 #[.val (.int p1), .val (.ref b), .val (.int ((p1 &&& (2147483647 : Int32)) % (18 : Int32))), .unset] [(.int (1 : Int32)), (.int ((p1 &&& (2147483647 : Int32)) % (18 : Int32)))])) _
    exact k
  by_cases hc136 : ((p1 &&& (2147483647 : Int32)) % (18 : Int32)) < (1 : Int32)
  · have q_hc136 : ((p1 &&& (2147483647 : Int32)) % (18 : Int32)).toInt < 1 := own_lt hc136
    have hv : own_mem f (f ((p1 &&& (2147483647 : Int32)) % (18 : Int32)).toNatClampNeg) = (0 : Int32) := hv0.trans (if_neg (by omega))
    have pre40 : ∀ t, Steps p.tables e below (T37.setTop (mkF m 153 #[.val (.int p1), .val (.ref b), .val (.int ((p1 &&& (2147483647 : Int32)) % (18 : Int32))), .val (.int (0 : Int32))] [(.ref (f ((p1 &&& (2147483647 : Int32)) % (18 : Int32)).toNatClampNeg))])) t → Steps p.tables e below (s₁.setTop (entryFrame m #[(.int p1)] maxLocals)) t := by
      intro t k
      refine pre39 t ?_
      refine XS.icmpYes X37.here hx rfl (pc0 := 136) (pc' := 148) rfl (hb hby at_136) rfl (tlt hc136).1 (by decide) (by decide) ?_
      show Steps p.tables e below (T37.setTop (mkF m 148 #[.val (.int p1), .val (.ref b), .val (.int ((p1 &&& (2147483647 : Int32)) % (18 : Int32))), .unset] [])) _
      refine XS.iconst X37.here hx rfl (hb hby at_148) ?_
      show Steps p.tables e below (T37.setTop (mkF m 149 #[.val (.int p1), .val (.ref b), .val (.int ((p1 &&& (2147483647 : Int32)) % (18 : Int32))), .unset] [(.int (0 : Int32))])) _
      refine XS.istoreN X37.here hx rfl (hb hby at_149) rfl (l' := #[.val (.int p1), .val (.ref b), .val (.int ((p1 &&& (2147483647 : Int32)) % (18 : Int32))), .val (.int (0 : Int32))]) rfl ?_
      show Steps p.tables e below (T37.setTop (mkF m 150 #[.val (.int p1), .val (.ref b), .val (.int ((p1 &&& (2147483647 : Int32)) % (18 : Int32))), .val (.int (0 : Int32))] [])) _
      refine XS.aloadN X37.here hx rfl (hb hby at_150) rfl rfl ?_
      show Steps p.tables e below (T37.setTop (mkF m 151 #[.val (.int p1), .val (.ref b), .val (.int ((p1 &&& (2147483647 : Int32)) % (18 : Int32))), .val (.int (0 : Int32))] [(.ref b)])) _
      refine XS.iloadN X37.here hx rfl (hb hby at_151) rfl ?_
      show Steps p.tables e below (T37.setTop (mkF m 152 #[.val (.int p1), .val (.ref b), .val (.int ((p1 &&& (2147483647 : Int32)) % (18 : Int32))), .val (.int (0 : Int32))] [(.int ((p1 &&& (2147483647 : Int32)) % (18 : Int32))), (.ref b)])) _
      refine X37.aaload hx (j := ((p1 &&& (2147483647 : Int32)) % (18 : Int32))) (v := (.ref (f ((p1 &&& (2147483647 : Int32)) % (18 : Int32)).toNatClampNeg))) (by rw [e37]; exact Ar.1) (State.isArrayOf_alike hZ.alike Ar.2.1) rfl Ar.2.2 hin hat (g := (mkF m 152 #[.val (.int p1), .val (.ref b), .val (.int ((p1 &&& (2147483647 : Int32)) % (18 : Int32))), .val (.int (0 : Int32))] [(.int ((p1 &&& (2147483647 : Int32)) % (18 : Int32))), (.ref b)])) rfl rfl (hb hby at_152) _ ?_
      show Steps p.tables e below (T37.setTop (mkF m 153 #[.val (.int p1), .val (.ref b), .val (.int ((p1 &&& (2147483647 : Int32)) % (18 : Int32))), .val (.int (0 : Int32))] [(.ref (f ((p1 &&& (2147483647 : Int32)) % (18 : Int32)).toNatClampNeg))])) _
      exact k
    obtain ⟨cq41, kq41, q41a, q41b, q41c⟩ := isOf hZ e37 hE'
    obtain ⟨_, _, ⟨T41, L41, k41, n41⟩, -, X41, ⟨Lc41, hQ41, l41, y41, z41⟩, st41⟩ := X37.virtualBack hx (y := (⟨"com/example/schemma/schemma/ObjectReference$Kind", "isRelation", "()Z"⟩ : MethodName)) (z := (⟨"com/example/schemma/schemma/ObjectReference$Kind", "isRelation", "()Z"⟩ : MethodName)) hown (mvT hZ (hw _ (List.mem_of_getElem? (i := 41) rfl))) (mvT hZ (hw _ (List.mem_of_getElem? (i := 42) rfl))) (notFace_of_selects (args := #[]) (mvT hZ (hw _ (List.mem_of_getElem? (i := 44) rfl)))) (mvT hZ (hw _ (List.mem_of_getElem? (i := 44) rfl))) (mvT hZ (hw _ (List.mem_of_getElem? (i := 43) rfl))) (by decide) (backOf (W := 0) (rm1 l Z a0 hw [] (f ((p1 &&& (2147483647 : Int32)) % (18 : Int32)).toNatClampNeg) f h37 n0 (Nat.le_trans Z0 KL.1) (own_sta S1 KL) (own_sta S2 KL) (own_sta S3 KL) (own_sta S4 KL) (own_sta S5 KL)) hZ (hw _ (List.mem_of_getElem? (i := 45) rfl)) (hw _ (List.mem_of_getElem? (i := 3) rfl)) (by decide) (by decide)) q41a q41c (g := (mkF m 153 #[.val (.int p1), .val (.ref b), .val (.int ((p1 &&& (2147483647 : Int32)) % (18 : Int32))), .val (.int (0 : Int32))] [(.ref (f ((p1 &&& (2147483647 : Int32)) % (18 : Int32)).toNatClampNeg))])) rfl (by rw [hml]; rfl) (Steps.refl _) (argsL := []) (rest := []) (lenOf pd_0 rfl) rfl (by show 2 * 0 + _ ≤ _; exact Nat.le_of_eq rfl) (hb hby at_153) (fun _ _ => ⟨rfl, e37, (by decide : 1 + 0 ≤ _), (by decide : 18 + 0 ≤ _)⟩)
    dsimp only [Pt.U, Pt.locs, Pt.cells, Pt.slots] at X41 l41 y41 z41 st41 hQ41
    subst l41 y41 z41
    obtain ⟨rfl, N41q, e41⟩ := hQ41
    have N41 := Fr.app N37 N41q
    have pre42 : ∀ t, Steps p.tables e below (T41.setTop (mkF m 165 #[.val (.int p1), .val (.ref b), .val (.int ((p1 &&& (2147483647 : Int32)) % (18 : Int32))), .val (.int (0 : Int32))] [(.int (1 : Int32))])) t → Steps p.tables e below (s₁.setTop (entryFrame m #[(.int p1)] maxLocals)) t := by
      intro t k
      refine pre40 t ?_
      refine st41.trans ?_
      show Steps p.tables e below (T41.setTop (mkF m 156 #[.val (.int p1), .val (.ref b), .val (.int ((p1 &&& (2147483647 : Int32)) % (18 : Int32))), .val (.int (0 : Int32))] [(.int (own_mem f (f ((p1 &&& (2147483647 : Int32)) % (18 : Int32)).toNatClampNeg)))])) _
      refine XS.iloadN X41.here hx rfl (hb hby at_156) rfl ?_
      show Steps p.tables e below (T41.setTop (mkF m 157 #[.val (.int p1), .val (.ref b), .val (.int ((p1 &&& (2147483647 : Int32)) % (18 : Int32))), .val (.int (0 : Int32))] [(.int (0 : Int32)), (.int (own_mem f (f ((p1 &&& (2147483647 : Int32)) % (18 : Int32)).toNatClampNeg)))])) _
      refine XS.icmpNo X41.here hx rfl (hb hby at_157) rfl (teq hv).2 ?_
      show Steps p.tables e below (T41.setTop (mkF m 160 #[.val (.int p1), .val (.ref b), .val (.int ((p1 &&& (2147483647 : Int32)) % (18 : Int32))), .val (.int (0 : Int32))] [])) _
      refine XS.iconst X41.here hx rfl (hb hby at_160) ?_
      show Steps p.tables e below (T41.setTop (mkF m 161 #[.val (.int p1), .val (.ref b), .val (.int ((p1 &&& (2147483647 : Int32)) % (18 : Int32))), .val (.int (0 : Int32))] [(.int (1 : Int32))])) _
      refine XS.goto X41.here hx rfl (pc0 := 161) (pc' := 165) rfl (hb hby at_161) (by decide) (by decide) ?_
      show Steps p.tables e below (T41.setTop (mkF m 165 #[.val (.int p1), .val (.ref b), .val (.int ((p1 &&& (2147483647 : Int32)) % (18 : Int32))), .val (.int (0 : Int32))] [(.int (1 : Int32))])) _
      exact k
    obtain ⟨fs, hr, hrun, hended, hW, hsame⟩ := X41.leave (v := some (.int (1 : Int32))) (fun h => by rw [Bd.returns] at h; cases h)
    refine ⟨_, _, pre42 _ ?_, hrun, hended, _, _, rfl, ?_, ⟨_, rfl⟩, hW, hsame.mono (by decide) (by decide)⟩
    · exact retN X41 hx (t := .boolean) Bd.returns (by simp) (hb hby at_165) hr
    · show Q0 Z p1 h0 n0 _ T41.heap _
      rw [e41]
      exact ⟨rfl, N41⟩
  · have q_hc136 : 1 ≤ ((p1 &&& (2147483647 : Int32)) % (18 : Int32)).toInt := own_nlt hc136
    have pre43 : ∀ t, Steps p.tables e below (T37.setTop (mkF m 141 #[.val (.int p1), .val (.ref b), .val (.int ((p1 &&& (2147483647 : Int32)) % (18 : Int32))), .unset] [(.int (5 : Int32)), (.int ((p1 &&& (2147483647 : Int32)) % (18 : Int32)))])) t → Steps p.tables e below (s₁.setTop (entryFrame m #[(.int p1)] maxLocals)) t := by
      intro t k
      refine pre39 t ?_
      refine XS.icmpNo X37.here hx rfl (hb hby at_136) rfl (flt hc136).1 ?_
      show Steps p.tables e below (T37.setTop (mkF m 139 #[.val (.int p1), .val (.ref b), .val (.int ((p1 &&& (2147483647 : Int32)) % (18 : Int32))), .unset] [])) _
      refine XS.iloadN X37.here hx rfl (hb hby at_139) rfl ?_
      show Steps p.tables e below (T37.setTop (mkF m 140 #[.val (.int p1), .val (.ref b), .val (.int ((p1 &&& (2147483647 : Int32)) % (18 : Int32))), .unset] [(.int ((p1 &&& (2147483647 : Int32)) % (18 : Int32)))])) _
      refine XS.iconst X37.here hx rfl (hb hby at_140) ?_
      show Steps p.tables e below (T37.setTop (mkF m 141 #[.val (.int p1), .val (.ref b), .val (.int ((p1 &&& (2147483647 : Int32)) % (18 : Int32))), .unset] [(.int (5 : Int32)), (.int ((p1 &&& (2147483647 : Int32)) % (18 : Int32)))])) _
      exact k
    by_cases hc141 : (5 : Int32) < ((p1 &&& (2147483647 : Int32)) % (18 : Int32))
    · have q_hc141 : 5 < ((p1 &&& (2147483647 : Int32)) % (18 : Int32)).toInt := own_lt hc141
      have hv : own_mem f (f ((p1 &&& (2147483647 : Int32)) % (18 : Int32)).toNatClampNeg) = (0 : Int32) := hv0.trans (if_neg (by omega))
      have pre44 : ∀ t, Steps p.tables e below (T37.setTop (mkF m 153 #[.val (.int p1), .val (.ref b), .val (.int ((p1 &&& (2147483647 : Int32)) % (18 : Int32))), .val (.int (0 : Int32))] [(.ref (f ((p1 &&& (2147483647 : Int32)) % (18 : Int32)).toNatClampNeg))])) t → Steps p.tables e below (s₁.setTop (entryFrame m #[(.int p1)] maxLocals)) t := by
        intro t k
        refine pre43 t ?_
        refine XS.icmpYes X37.here hx rfl (pc0 := 141) (pc' := 148) rfl (hb hby at_141) rfl (tlt hc141).2.2.1 (by decide) (by decide) ?_
        show Steps p.tables e below (T37.setTop (mkF m 148 #[.val (.int p1), .val (.ref b), .val (.int ((p1 &&& (2147483647 : Int32)) % (18 : Int32))), .unset] [])) _
        refine XS.iconst X37.here hx rfl (hb hby at_148) ?_
        show Steps p.tables e below (T37.setTop (mkF m 149 #[.val (.int p1), .val (.ref b), .val (.int ((p1 &&& (2147483647 : Int32)) % (18 : Int32))), .unset] [(.int (0 : Int32))])) _
        refine XS.istoreN X37.here hx rfl (hb hby at_149) rfl (l' := #[.val (.int p1), .val (.ref b), .val (.int ((p1 &&& (2147483647 : Int32)) % (18 : Int32))), .val (.int (0 : Int32))]) rfl ?_
        show Steps p.tables e below (T37.setTop (mkF m 150 #[.val (.int p1), .val (.ref b), .val (.int ((p1 &&& (2147483647 : Int32)) % (18 : Int32))), .val (.int (0 : Int32))] [])) _
        refine XS.aloadN X37.here hx rfl (hb hby at_150) rfl rfl ?_
        show Steps p.tables e below (T37.setTop (mkF m 151 #[.val (.int p1), .val (.ref b), .val (.int ((p1 &&& (2147483647 : Int32)) % (18 : Int32))), .val (.int (0 : Int32))] [(.ref b)])) _
        refine XS.iloadN X37.here hx rfl (hb hby at_151) rfl ?_
        show Steps p.tables e below (T37.setTop (mkF m 152 #[.val (.int p1), .val (.ref b), .val (.int ((p1 &&& (2147483647 : Int32)) % (18 : Int32))), .val (.int (0 : Int32))] [(.int ((p1 &&& (2147483647 : Int32)) % (18 : Int32))), (.ref b)])) _
        refine X37.aaload hx (j := ((p1 &&& (2147483647 : Int32)) % (18 : Int32))) (v := (.ref (f ((p1 &&& (2147483647 : Int32)) % (18 : Int32)).toNatClampNeg))) (by rw [e37]; exact Ar.1) (State.isArrayOf_alike hZ.alike Ar.2.1) rfl Ar.2.2 hin hat (g := (mkF m 152 #[.val (.int p1), .val (.ref b), .val (.int ((p1 &&& (2147483647 : Int32)) % (18 : Int32))), .val (.int (0 : Int32))] [(.int ((p1 &&& (2147483647 : Int32)) % (18 : Int32))), (.ref b)])) rfl rfl (hb hby at_152) _ ?_
        show Steps p.tables e below (T37.setTop (mkF m 153 #[.val (.int p1), .val (.ref b), .val (.int ((p1 &&& (2147483647 : Int32)) % (18 : Int32))), .val (.int (0 : Int32))] [(.ref (f ((p1 &&& (2147483647 : Int32)) % (18 : Int32)).toNatClampNeg))])) _
        exact k
      obtain ⟨cq45, kq45, q45a, q45b, q45c⟩ := isOf hZ e37 hE'
      obtain ⟨_, _, ⟨T45, L45, k45, n45⟩, -, X45, ⟨Lc45, hQ45, l45, y45, z45⟩, st45⟩ := X37.virtualBack hx (y := (⟨"com/example/schemma/schemma/ObjectReference$Kind", "isRelation", "()Z"⟩ : MethodName)) (z := (⟨"com/example/schemma/schemma/ObjectReference$Kind", "isRelation", "()Z"⟩ : MethodName)) hown (mvT hZ (hw _ (List.mem_of_getElem? (i := 41) rfl))) (mvT hZ (hw _ (List.mem_of_getElem? (i := 42) rfl))) (notFace_of_selects (args := #[]) (mvT hZ (hw _ (List.mem_of_getElem? (i := 44) rfl)))) (mvT hZ (hw _ (List.mem_of_getElem? (i := 44) rfl))) (mvT hZ (hw _ (List.mem_of_getElem? (i := 43) rfl))) (by decide) (backOf (W := 0) (rm1 l Z a0 hw [] (f ((p1 &&& (2147483647 : Int32)) % (18 : Int32)).toNatClampNeg) f h37 n0 (Nat.le_trans Z0 KL.1) (own_sta S1 KL) (own_sta S2 KL) (own_sta S3 KL) (own_sta S4 KL) (own_sta S5 KL)) hZ (hw _ (List.mem_of_getElem? (i := 45) rfl)) (hw _ (List.mem_of_getElem? (i := 3) rfl)) (by decide) (by decide)) q45a q45c (g := (mkF m 153 #[.val (.int p1), .val (.ref b), .val (.int ((p1 &&& (2147483647 : Int32)) % (18 : Int32))), .val (.int (0 : Int32))] [(.ref (f ((p1 &&& (2147483647 : Int32)) % (18 : Int32)).toNatClampNeg))])) rfl (by rw [hml]; rfl) (Steps.refl _) (argsL := []) (rest := []) (lenOf pd_0 rfl) rfl (by show 2 * 0 + _ ≤ _; exact Nat.le_of_eq rfl) (hb hby at_153) (fun _ _ => ⟨rfl, e37, (by decide : 1 + 0 ≤ _), (by decide : 18 + 0 ≤ _)⟩)
      dsimp only [Pt.U, Pt.locs, Pt.cells, Pt.slots] at X45 l45 y45 z45 st45 hQ45
      subst l45 y45 z45
      obtain ⟨rfl, N45q, e45⟩ := hQ45
      have N45 := Fr.app N37 N45q
      have pre46 : ∀ t, Steps p.tables e below (T45.setTop (mkF m 165 #[.val (.int p1), .val (.ref b), .val (.int ((p1 &&& (2147483647 : Int32)) % (18 : Int32))), .val (.int (0 : Int32))] [(.int (1 : Int32))])) t → Steps p.tables e below (s₁.setTop (entryFrame m #[(.int p1)] maxLocals)) t := by
        intro t k
        refine pre44 t ?_
        refine st45.trans ?_
        show Steps p.tables e below (T45.setTop (mkF m 156 #[.val (.int p1), .val (.ref b), .val (.int ((p1 &&& (2147483647 : Int32)) % (18 : Int32))), .val (.int (0 : Int32))] [(.int (own_mem f (f ((p1 &&& (2147483647 : Int32)) % (18 : Int32)).toNatClampNeg)))])) _
        refine XS.iloadN X45.here hx rfl (hb hby at_156) rfl ?_
        show Steps p.tables e below (T45.setTop (mkF m 157 #[.val (.int p1), .val (.ref b), .val (.int ((p1 &&& (2147483647 : Int32)) % (18 : Int32))), .val (.int (0 : Int32))] [(.int (0 : Int32)), (.int (own_mem f (f ((p1 &&& (2147483647 : Int32)) % (18 : Int32)).toNatClampNeg)))])) _
        refine XS.icmpNo X45.here hx rfl (hb hby at_157) rfl (teq hv).2 ?_
        show Steps p.tables e below (T45.setTop (mkF m 160 #[.val (.int p1), .val (.ref b), .val (.int ((p1 &&& (2147483647 : Int32)) % (18 : Int32))), .val (.int (0 : Int32))] [])) _
        refine XS.iconst X45.here hx rfl (hb hby at_160) ?_
        show Steps p.tables e below (T45.setTop (mkF m 161 #[.val (.int p1), .val (.ref b), .val (.int ((p1 &&& (2147483647 : Int32)) % (18 : Int32))), .val (.int (0 : Int32))] [(.int (1 : Int32))])) _
        refine XS.goto X45.here hx rfl (pc0 := 161) (pc' := 165) rfl (hb hby at_161) (by decide) (by decide) ?_
        show Steps p.tables e below (T45.setTop (mkF m 165 #[.val (.int p1), .val (.ref b), .val (.int ((p1 &&& (2147483647 : Int32)) % (18 : Int32))), .val (.int (0 : Int32))] [(.int (1 : Int32))])) _
        exact k
      obtain ⟨fs, hr, hrun, hended, hW, hsame⟩ := X45.leave (v := some (.int (1 : Int32))) (fun h => by rw [Bd.returns] at h; cases h)
      refine ⟨_, _, pre46 _ ?_, hrun, hended, _, _, rfl, ?_, ⟨_, rfl⟩, hW, hsame.mono (by decide) (by decide)⟩
      · exact retN X45 hx (t := .boolean) Bd.returns (by simp) (hb hby at_165) hr
      · show Q0 Z p1 h0 n0 _ T45.heap _
        rw [e45]
        exact ⟨rfl, N45⟩
    · have q_hc141 : ((p1 &&& (2147483647 : Int32)) % (18 : Int32)).toInt ≤ 5 := own_nlt hc141
      have hv : own_mem f (f ((p1 &&& (2147483647 : Int32)) % (18 : Int32)).toNatClampNeg) = (1 : Int32) := hv0.trans (if_pos (by omega))
      have pre47 : ∀ t, Steps p.tables e below (T37.setTop (mkF m 153 #[.val (.int p1), .val (.ref b), .val (.int ((p1 &&& (2147483647 : Int32)) % (18 : Int32))), .val (.int (1 : Int32))] [(.ref (f ((p1 &&& (2147483647 : Int32)) % (18 : Int32)).toNatClampNeg))])) t → Steps p.tables e below (s₁.setTop (entryFrame m #[(.int p1)] maxLocals)) t := by
        intro t k
        refine pre43 t ?_
        refine XS.icmpNo X37.here hx rfl (hb hby at_141) rfl (flt hc141).2.2.1 ?_
        show Steps p.tables e below (T37.setTop (mkF m 144 #[.val (.int p1), .val (.ref b), .val (.int ((p1 &&& (2147483647 : Int32)) % (18 : Int32))), .unset] [])) _
        refine XS.iconst X37.here hx rfl (hb hby at_144) ?_
        show Steps p.tables e below (T37.setTop (mkF m 145 #[.val (.int p1), .val (.ref b), .val (.int ((p1 &&& (2147483647 : Int32)) % (18 : Int32))), .unset] [(.int (1 : Int32))])) _
        refine XS.goto X37.here hx rfl (pc0 := 145) (pc' := 149) rfl (hb hby at_145) (by decide) (by decide) ?_
        show Steps p.tables e below (T37.setTop (mkF m 149 #[.val (.int p1), .val (.ref b), .val (.int ((p1 &&& (2147483647 : Int32)) % (18 : Int32))), .unset] [(.int (1 : Int32))])) _
        refine XS.istoreN X37.here hx rfl (hb hby at_149) rfl (l' := #[.val (.int p1), .val (.ref b), .val (.int ((p1 &&& (2147483647 : Int32)) % (18 : Int32))), .val (.int (1 : Int32))]) rfl ?_
        show Steps p.tables e below (T37.setTop (mkF m 150 #[.val (.int p1), .val (.ref b), .val (.int ((p1 &&& (2147483647 : Int32)) % (18 : Int32))), .val (.int (1 : Int32))] [])) _
        refine XS.aloadN X37.here hx rfl (hb hby at_150) rfl rfl ?_
        show Steps p.tables e below (T37.setTop (mkF m 151 #[.val (.int p1), .val (.ref b), .val (.int ((p1 &&& (2147483647 : Int32)) % (18 : Int32))), .val (.int (1 : Int32))] [(.ref b)])) _
        refine XS.iloadN X37.here hx rfl (hb hby at_151) rfl ?_
        show Steps p.tables e below (T37.setTop (mkF m 152 #[.val (.int p1), .val (.ref b), .val (.int ((p1 &&& (2147483647 : Int32)) % (18 : Int32))), .val (.int (1 : Int32))] [(.int ((p1 &&& (2147483647 : Int32)) % (18 : Int32))), (.ref b)])) _
        refine X37.aaload hx (j := ((p1 &&& (2147483647 : Int32)) % (18 : Int32))) (v := (.ref (f ((p1 &&& (2147483647 : Int32)) % (18 : Int32)).toNatClampNeg))) (by rw [e37]; exact Ar.1) (State.isArrayOf_alike hZ.alike Ar.2.1) rfl Ar.2.2 hin hat (g := (mkF m 152 #[.val (.int p1), .val (.ref b), .val (.int ((p1 &&& (2147483647 : Int32)) % (18 : Int32))), .val (.int (1 : Int32))] [(.int ((p1 &&& (2147483647 : Int32)) % (18 : Int32))), (.ref b)])) rfl rfl (hb hby at_152) _ ?_
        show Steps p.tables e below (T37.setTop (mkF m 153 #[.val (.int p1), .val (.ref b), .val (.int ((p1 &&& (2147483647 : Int32)) % (18 : Int32))), .val (.int (1 : Int32))] [(.ref (f ((p1 &&& (2147483647 : Int32)) % (18 : Int32)).toNatClampNeg))])) _
        exact k
      obtain ⟨cq48, kq48, q48a, q48b, q48c⟩ := isOf hZ e37 hE'
      obtain ⟨_, _, ⟨T48, L48, k48, n48⟩, -, X48, ⟨Lc48, hQ48, l48, y48, z48⟩, st48⟩ := X37.virtualBack hx (y := (⟨"com/example/schemma/schemma/ObjectReference$Kind", "isRelation", "()Z"⟩ : MethodName)) (z := (⟨"com/example/schemma/schemma/ObjectReference$Kind", "isRelation", "()Z"⟩ : MethodName)) hown (mvT hZ (hw _ (List.mem_of_getElem? (i := 41) rfl))) (mvT hZ (hw _ (List.mem_of_getElem? (i := 42) rfl))) (notFace_of_selects (args := #[]) (mvT hZ (hw _ (List.mem_of_getElem? (i := 44) rfl)))) (mvT hZ (hw _ (List.mem_of_getElem? (i := 44) rfl))) (mvT hZ (hw _ (List.mem_of_getElem? (i := 43) rfl))) (by decide) (backOf (W := 0) (rm1 l Z a0 hw [] (f ((p1 &&& (2147483647 : Int32)) % (18 : Int32)).toNatClampNeg) f h37 n0 (Nat.le_trans Z0 KL.1) (own_sta S1 KL) (own_sta S2 KL) (own_sta S3 KL) (own_sta S4 KL) (own_sta S5 KL)) hZ (hw _ (List.mem_of_getElem? (i := 45) rfl)) (hw _ (List.mem_of_getElem? (i := 3) rfl)) (by decide) (by decide)) q48a q48c (g := (mkF m 153 #[.val (.int p1), .val (.ref b), .val (.int ((p1 &&& (2147483647 : Int32)) % (18 : Int32))), .val (.int (1 : Int32))] [(.ref (f ((p1 &&& (2147483647 : Int32)) % (18 : Int32)).toNatClampNeg))])) rfl (by rw [hml]; rfl) (Steps.refl _) (argsL := []) (rest := []) (lenOf pd_0 rfl) rfl (by show 2 * 0 + _ ≤ _; exact Nat.le_of_eq rfl) (hb hby at_153) (fun _ _ => ⟨rfl, e37, (by decide : 1 + 0 ≤ _), (by decide : 18 + 0 ≤ _)⟩)
      dsimp only [Pt.U, Pt.locs, Pt.cells, Pt.slots] at X48 l48 y48 z48 st48 hQ48
      subst l48 y48 z48
      obtain ⟨rfl, N48q, e48⟩ := hQ48
      have N48 := Fr.app N37 N48q
      have pre49 : ∀ t, Steps p.tables e below (T48.setTop (mkF m 165 #[.val (.int p1), .val (.ref b), .val (.int ((p1 &&& (2147483647 : Int32)) % (18 : Int32))), .val (.int (1 : Int32))] [(.int (1 : Int32))])) t → Steps p.tables e below (s₁.setTop (entryFrame m #[(.int p1)] maxLocals)) t := by
        intro t k
        refine pre47 t ?_
        refine st48.trans ?_
        show Steps p.tables e below (T48.setTop (mkF m 156 #[.val (.int p1), .val (.ref b), .val (.int ((p1 &&& (2147483647 : Int32)) % (18 : Int32))), .val (.int (1 : Int32))] [(.int (own_mem f (f ((p1 &&& (2147483647 : Int32)) % (18 : Int32)).toNatClampNeg)))])) _
        refine XS.iloadN X48.here hx rfl (hb hby at_156) rfl ?_
        show Steps p.tables e below (T48.setTop (mkF m 157 #[.val (.int p1), .val (.ref b), .val (.int ((p1 &&& (2147483647 : Int32)) % (18 : Int32))), .val (.int (1 : Int32))] [(.int (1 : Int32)), (.int (own_mem f (f ((p1 &&& (2147483647 : Int32)) % (18 : Int32)).toNatClampNeg)))])) _
        refine XS.icmpNo X48.here hx rfl (hb hby at_157) rfl (teq hv).2 ?_
        show Steps p.tables e below (T48.setTop (mkF m 160 #[.val (.int p1), .val (.ref b), .val (.int ((p1 &&& (2147483647 : Int32)) % (18 : Int32))), .val (.int (1 : Int32))] [])) _
        refine XS.iconst X48.here hx rfl (hb hby at_160) ?_
        show Steps p.tables e below (T48.setTop (mkF m 161 #[.val (.int p1), .val (.ref b), .val (.int ((p1 &&& (2147483647 : Int32)) % (18 : Int32))), .val (.int (1 : Int32))] [(.int (1 : Int32))])) _
        refine XS.goto X48.here hx rfl (pc0 := 161) (pc' := 165) rfl (hb hby at_161) (by decide) (by decide) ?_
        show Steps p.tables e below (T48.setTop (mkF m 165 #[.val (.int p1), .val (.ref b), .val (.int ((p1 &&& (2147483647 : Int32)) % (18 : Int32))), .val (.int (1 : Int32))] [(.int (1 : Int32))])) _
        exact k
      obtain ⟨fs, hr, hrun, hended, hW, hsame⟩ := X48.leave (v := some (.int (1 : Int32))) (fun h => by rw [Bd.returns] at h; cases h)
      refine ⟨_, _, pre49 _ ?_, hrun, hended, _, _, rfl, ?_, ⟨_, rfl⟩, hW, hsame.mono (by decide) (by decide)⟩
      · exact retN X48 hx (t := .boolean) Bd.returns (by simp) (hb hby at_165) hr
      · show Q0 Z p1 h0 n0 _ T48.heap _
        rw [e48]
        exact ⟨rfl, N48⟩
set_option maxRecDepth 65536 in
set_option maxHeartbeats 40000000 in
theorem comes_1 {Post : Tables → Env → Array Value → State → Outcome → State → Prop} (hpost : ∀ tb e args s v u, (limb_1_1.after args s (.returned v) u = true ∧ limb_1_2.after args s (.returned v) u = true ∧ True) → FrameEnd s (.returned v) u (Jvm.fieldLocs frame_1_writes args s ++ Jvm.arrayLocs frame_1_arrays args s ++ Jvm.staticLocs frame_1_statics s) 16 128 → Post tb e args s (.returned v) u) :
    ArmFor flags0 classFile x code maxLocals ret World_1 tables_1 room_1 Calls_1 rest_1 Pre_1 Post := by
  intro l hfl _ _ p e ha hc hk s m args below hf hA hF happ hP
  obtain ⟨hcalls, hrest, hpre⟩ := hP
  obtain ⟨-, -, -, hnamed, -, -, -, hat⟩ := (Spec.applies_iff hf).mp happ
  obtain ⟨hg, hn⟩ := and_e (Cond.before_iff.mp (show (Jvm.Cond.and given_1 narrow_1).before args s = true from hpre))
  obtain ⟨g3, g4⟩ := and_e hg
  obtain ⟨w0, rfl⟩ : ∃ w0 : Value, args = #[w0] := by
    have hs : args.size = 1 := by simpa [Cond.value, given_1] using g3
    obtain ⟨L⟩ := args
    match L, hs with
    | [w0], _ => exact ⟨w0, rfl⟩
  have hw := fun d (hd : d ∈ tables_1) => atoms_spec (ws := Jvm.Cond.code x code maxLocals ret :: tables_1) hat d (List.mem_cons_of_mem _ hd)
  obtain ⟨i0, ei0⟩ := is_v g4
  obtain rfl : w0 = (.int i0) := Option.some.inj ei0
  obtain ⟨x0, r0⟩ := and_e hn
  obtain ⟨x1, r1⟩ := and_e r0
  obtain ⟨x2, r2⟩ := and_e r1
  obtain ⟨x3, r3⟩ := and_e r2
  obtain ⟨x4, r4⟩ := and_e r3
  obtain ⟨x5, r5⟩ := and_e r4
  obtain ⟨x6, r6⟩ := and_e r5
  obtain ⟨x7, r7⟩ := and_e r6
  obtain ⟨x8, r8⟩ := and_e r7
  obtain ⟨x9, r9⟩ := and_e r8
  obtain ⟨x10, r10⟩ := and_e r9
  obtain ⟨x11, r11⟩ := and_e r10
  obtain ⟨x12, r12⟩ := and_e r11
  obtain ⟨x13, r13⟩ := and_e r12
  obtain ⟨x14, r14⟩ := and_e r13
  obtain ⟨x15, r15⟩ := and_e r14
  obtain ⟨x16, r16⟩ := and_e r15
  obtain ⟨x17, r17⟩ := and_e r16
  obtain ⟨y0, r18⟩ := and_e r17
  obtain ⟨y1, r19⟩ := and_e r18
  obtain ⟨y2, r20⟩ := and_e r19
  obtain ⟨y3, r21⟩ := and_e r20
  obtain ⟨y4, r22⟩ := and_e r21
  obtain ⟨y5, r23⟩ := and_e r22
  obtain ⟨y7, r24⟩ := and_e r23
  obtain ⟨y11, r25⟩ := and_e r24
  obtain ⟨y8, r26⟩ := and_e r25
  obtain ⟨y12, r27⟩ := and_e r26
  obtain ⟨y16, r28⟩ := and_e r27
  obtain ⟨y15, r29⟩ := and_e r28
  obtain ⟨y10, r30⟩ := and_e r29
  obtain ⟨y13, r31⟩ := and_e r30
  obtain ⟨y6, r32⟩ := and_e r31
  obtain ⟨y17, r33⟩ := and_e r32
  obtain ⟨y14, r34⟩ := and_e r33
  have y9 := r34
  obtain ⟨k0, ev0⟩ := exa_v x0
  have E0 := Exa.start ev0 x0
  have S0 := Sta.start ev0 (Or.inr ⟨(hw _ (List.mem_of_getElem? (i := 3) rfl)), (hw _ (List.mem_of_getElem? (i := 4) rfl))⟩)
  have O0 := Fld.start ((fld_at ev0).symm.trans (own_eqint y0))
  obtain ⟨k1, ev1⟩ := exa_v x1
  have E1 := Exa.start ev1 x1
  have S1 := Sta.start ev1 (Or.inr ⟨(hw _ (List.mem_of_getElem? (i := 3) rfl)), (hw _ (List.mem_of_getElem? (i := 7) rfl))⟩)
  have O1 := Fld.start ((fld_at ev1).symm.trans (own_eqint y1))
  obtain ⟨k2, ev2⟩ := exa_v x2
  have E2 := Exa.start ev2 x2
  have S2 := Sta.start ev2 (Or.inr ⟨(hw _ (List.mem_of_getElem? (i := 3) rfl)), (hw _ (List.mem_of_getElem? (i := 9) rfl))⟩)
  have O2 := Fld.start ((fld_at ev2).symm.trans (own_eqint y2))
  obtain ⟨k3, ev3⟩ := exa_v x3
  have E3 := Exa.start ev3 x3
  have S3 := Sta.start ev3 (Or.inr ⟨(hw _ (List.mem_of_getElem? (i := 3) rfl)), (hw _ (List.mem_of_getElem? (i := 11) rfl))⟩)
  have O3 := Fld.start ((fld_at ev3).symm.trans (own_eqint y3))
  obtain ⟨k4, ev4⟩ := exa_v x4
  have E4 := Exa.start ev4 x4
  have S4 := Sta.start ev4 (Or.inr ⟨(hw _ (List.mem_of_getElem? (i := 3) rfl)), (hw _ (List.mem_of_getElem? (i := 13) rfl))⟩)
  have O4 := Fld.start ((fld_at ev4).symm.trans (own_eqint y4))
  obtain ⟨k5, ev5⟩ := exa_v x5
  have E5 := Exa.start ev5 x5
  have S5 := Sta.start ev5 (Or.inr ⟨(hw _ (List.mem_of_getElem? (i := 3) rfl)), (hw _ (List.mem_of_getElem? (i := 15) rfl))⟩)
  have O5 := Fld.start ((fld_at ev5).symm.trans (own_eqint y5))
  obtain ⟨k6, ev6⟩ := exa_v x6
  have E6 := Exa.start ev6 x6
  have S6 := Sta.start ev6 (Or.inr ⟨(hw _ (List.mem_of_getElem? (i := 3) rfl)), (hw _ (List.mem_of_getElem? (i := 17) rfl))⟩)
  have O6 := Fld.start ((fld_at ev6).symm.trans (own_eqint y6))
  obtain ⟨k7, ev7⟩ := exa_v x7
  have E7 := Exa.start ev7 x7
  have S7 := Sta.start ev7 (Or.inr ⟨(hw _ (List.mem_of_getElem? (i := 3) rfl)), (hw _ (List.mem_of_getElem? (i := 19) rfl))⟩)
  have O7 := Fld.start ((fld_at ev7).symm.trans (own_eqint y7))
  obtain ⟨k8, ev8⟩ := exa_v x8
  have E8 := Exa.start ev8 x8
  have S8 := Sta.start ev8 (Or.inr ⟨(hw _ (List.mem_of_getElem? (i := 3) rfl)), (hw _ (List.mem_of_getElem? (i := 21) rfl))⟩)
  have O8 := Fld.start ((fld_at ev8).symm.trans (own_eqint y8))
  obtain ⟨k9, ev9⟩ := exa_v x9
  have E9 := Exa.start ev9 x9
  have S9 := Sta.start ev9 (Or.inr ⟨(hw _ (List.mem_of_getElem? (i := 3) rfl)), (hw _ (List.mem_of_getElem? (i := 23) rfl))⟩)
  have O9 := Fld.start ((fld_at ev9).symm.trans (own_eqint y9))
  obtain ⟨k10, ev10⟩ := exa_v x10
  have E10 := Exa.start ev10 x10
  have S10 := Sta.start ev10 (Or.inr ⟨(hw _ (List.mem_of_getElem? (i := 3) rfl)), (hw _ (List.mem_of_getElem? (i := 25) rfl))⟩)
  have O10 := Fld.start ((fld_at ev10).symm.trans (own_eqint y10))
  obtain ⟨k11, ev11⟩ := exa_v x11
  have E11 := Exa.start ev11 x11
  have S11 := Sta.start ev11 (Or.inr ⟨(hw _ (List.mem_of_getElem? (i := 3) rfl)), (hw _ (List.mem_of_getElem? (i := 27) rfl))⟩)
  have O11 := Fld.start ((fld_at ev11).symm.trans (own_eqint y11))
  obtain ⟨k12, ev12⟩ := exa_v x12
  have E12 := Exa.start ev12 x12
  have S12 := Sta.start ev12 (Or.inr ⟨(hw _ (List.mem_of_getElem? (i := 3) rfl)), (hw _ (List.mem_of_getElem? (i := 29) rfl))⟩)
  have O12 := Fld.start ((fld_at ev12).symm.trans (own_eqint y12))
  obtain ⟨k13, ev13⟩ := exa_v x13
  have E13 := Exa.start ev13 x13
  have S13 := Sta.start ev13 (Or.inr ⟨(hw _ (List.mem_of_getElem? (i := 3) rfl)), (hw _ (List.mem_of_getElem? (i := 31) rfl))⟩)
  have O13 := Fld.start ((fld_at ev13).symm.trans (own_eqint y13))
  obtain ⟨k14, ev14⟩ := exa_v x14
  have E14 := Exa.start ev14 x14
  have S14 := Sta.start ev14 (Or.inr ⟨(hw _ (List.mem_of_getElem? (i := 3) rfl)), (hw _ (List.mem_of_getElem? (i := 33) rfl))⟩)
  have O14 := Fld.start ((fld_at ev14).symm.trans (own_eqint y14))
  obtain ⟨k15, ev15⟩ := exa_v x15
  have E15 := Exa.start ev15 x15
  have S15 := Sta.start ev15 (Or.inr ⟨(hw _ (List.mem_of_getElem? (i := 3) rfl)), (hw _ (List.mem_of_getElem? (i := 35) rfl))⟩)
  have O15 := Fld.start ((fld_at ev15).symm.trans (own_eqint y15))
  obtain ⟨k16, ev16⟩ := exa_v x16
  have E16 := Exa.start ev16 x16
  have S16 := Sta.start ev16 (Or.inr ⟨(hw _ (List.mem_of_getElem? (i := 3) rfl)), (hw _ (List.mem_of_getElem? (i := 37) rfl))⟩)
  have O16 := Fld.start ((fld_at ev16).symm.trans (own_eqint y16))
  obtain ⟨k17, ev17⟩ := exa_v x17
  have E17 := Exa.start ev17 x17
  have S17 := Sta.start ev17 (Or.inr ⟨(hw _ (List.mem_of_getElem? (i := 3) rfl)), (hw _ (List.mem_of_getElem? (i := 39) rfl))⟩)
  have O17 := Fld.start ((fld_at ev17).symm.trans (own_eqint y17))
  let f : Nat → Addr := fun i => [k0, k1, k2, k3, k4, k5, k6, k7, k8, k9, k10, k11, k12, k13, k14, k15, k16, k17].getD i 0
  have hE : ∀ i, i < 18 → Exa s s.heap (f i) "com/example/schemma/schemma/ObjectReference$Kind" := fun i hi => match i, hi with
      | 0, _ => E0
      | 1, _ => E1
      | 2, _ => E2
      | 3, _ => E3
      | 4, _ => E4
      | 5, _ => E5
      | 6, _ => E6
      | 7, _ => E7
      | 8, _ => E8
      | 9, _ => E9
      | 10, _ => E10
      | 11, _ => E11
      | 12, _ => E12
      | 13, _ => E13
      | 14, _ => E14
      | 15, _ => E15
      | 16, _ => E16
      | 17, _ => E17
      | n + 18, h => absurd h (by omega)
  have hO : ∀ i, i < 18 → Fld s s.heap (f i) "java/lang/Enum" "ordinal" "I" (.int (Int32.ofNat i)) := fun i hi => match i, hi with
      | 0, _ => O0
      | 1, _ => O1
      | 2, _ => O2
      | 3, _ => O3
      | 4, _ => O4
      | 5, _ => O5
      | 6, _ => O6
      | 7, _ => O7
      | 8, _ => O8
      | 9, _ => O9
      | 10, _ => O10
      | 11, _ => O11
      | 12, _ => O12
      | 13, _ => O13
      | 14, _ => O14
      | 15, _ => O15
      | 16, _ => O16
      | 17, _ => O17
      | n + 18, h => absurd h (by omega)
  obtain ⟨n, o, h1, h2, h3, _, L, rfl, ⟨rfl, N⟩, hq⟩ := rm0 l s _ hw tables_1 i0 f s.heap s.heap.size (Nat.le_refl _) S0 S1 S2 S3 S4 S5 S6 S7 S8 S9 S10 S11 S12 S13 S14 S15 S16 S17 hE hO p e ha hc hk s m _ below hf ((Spec.applies_iff_loose hf).mp happ).1 ⟨rfl, State.Warmed39.refl s, rfl⟩ trivial
  refine ⟨n, _, h1, h2, h3, hpost _ _ _ _ _ _ ⟨Cond.after_iff.mpr rfl, Cond.after_iff.mpr (eq_i res_at (Term.int_eval (1)) rfl), trivial⟩ ⟨hq.1, hq.2.1, (hq.2.2.sift fun y hy => Or.inr (N y hy)).mono (by decide) (by decide)⟩⟩
theorem main_1_1 : Claimed_1_1 := comes_1 fun _ _ _ _ _ _ h hF => ⟨h.1, hF⟩
theorem main_1_2 : Claimed_1_2 := comes_1 fun _ _ _ _ _ _ h hF => ⟨h.2.1, hF⟩
end Jvm.Pilot.@@N@@
namespace Jvm.Pilot.@@N@@
open Jvm Jvm.ClassFile Sem Op Lib Jvm.Free Jvm.Stand Jvm.Pilot.@@N@@.Jvm.D
/-! MADE BY PROGRAM (witnessworld.py) out of the Statement's table words and the real class files: 11 classes; the members and pool entries that the words name. The judged class is class 1, her method 1. -/
namespace start1
open Jvm.ClassFile
def u (s : String) : CpInfo := .utf8 (stringToUtf16 s)
/-- a pool by its gaps: so many unusable entries, then the entry; so many at the end -/
def gap : Nat → List CpInfo → List CpInfo
  | 0, r => r
  | n + 1, r => .unusable :: gap n r
def poolList (es : List (Nat × CpInfo)) (last : Nat) : List CpInfo := es.foldr (fun e r => gap e.1 (e.2 :: r)) (gap last [])
def pool (es : List (Nat × CpInfo)) (last : Nat) : Array CpInfo := ⟨poolList es last⟩
def fileOf (pool : Array CpInfo) (this : Nat) (attrs : Array Attribute := #[]) (ms : Array MethodInfo := #[]) (fl : Nat := 33) (sup : Nat := 0) (ifs : Array Nat := #[]) (fds : Array FieldInfo := #[]) : ClassFile where
  minorVersion := 0
  majorVersion := 65
  constantPool := pool
  accessFlags := fl
  thisClass := this
  superClass := sup
  interfaces := ifs
  fields := fds
  methods := ms
  attributes := attrs
def plain (name : String) (sup : Option ClassId) : Class where
  name := name
  kind := .ordinary
  loader := none
  accessFlags := 33
  super := sup
  interfaces := #[]
  cf := none
  fields := #[]
  methods := #[]
  instanceTypes := #[]
  staticTypes := #[]
  resolved := #[]
  callSites := []
  init := .initialized
  statics := none
  mirror := none

def pool0 : Array CpInfo := pool [(5, u "<init>"), (0, u "()V"), (1, .class_ 10), (1, u "java/lang/Object")] 113

def k0m0 : Method := { name := "<init>", desc := "()V", sig := { parameters := [], returnType := none }, accessFlags := 1, code := none }
/-- java/lang/Object -/
def k0 : Class := { plain "java/lang/Object" none with
  accessFlags := 33
  interfaces := #[]
  cf := some (fileOf pool0 8 #[] #[{ accessFlags := 1, nameIndex := 5, descriptorIndex := 6, attributes := #[] }] 33 0 #[] #[])
  fields := #[]
  methods := #[k0m0]
  instanceTypes := #[]
  staticTypes := #[]
  resolved := Array.replicate 124 none
  statics := none }

def pool1 : Array CpInfo := pool [(2, .class_ 4), (1, u "java/lang/Object"), (0, u "<init>"), (0, u "()V"), (0, .class_ 8), (0, u "com/example/schemma/schemma/ObjectReference$Kind"), (0, .fieldref 7 10), (0, .nameAndType 11 12), (0, u "SCHEMA"), (0, u "Lcom/example/schemma/schemma/ObjectReference$Kind;"), (0, .fieldref 7 14), (0, .nameAndType 15 12), (0, u "TABLE"), (0, .fieldref 7 17), (0, .nameAndType 18 12), (0, u "VIEW"), (0, .fieldref 7 20), (0, .nameAndType 21 12), (0, u "MATERIALIZED_VIEW"), (0, .fieldref 7 23), (0, .nameAndType 24 12), (0, u "SEQUENCE"), (0, .fieldref 7 26), (0, .nameAndType 27 12), (0, u "INDEX"), (0, .fieldref 7 29), (0, .nameAndType 30 12), (0, u "TYPE"), (0, .fieldref 7 32), (0, .nameAndType 33 12), (0, u "DOMAIN"), (0, .fieldref 7 35), (0, .nameAndType 36 12), (0, u "FUNCTION"), (0, .fieldref 7 38), (0, .nameAndType 39 12), (0, u "PROCEDURE"), (0, .fieldref 7 41), (0, .nameAndType 42 12), (0, u "ROUTINE"), (0, .fieldref 7 44), (0, .nameAndType 45 12), (0, u "AGGREGATE"), (0, .fieldref 7 47), (0, .nameAndType 48 12), (0, u "COLUMN"), (0, .fieldref 7 50), (0, .nameAndType 51 12), (0, u "CONSTRAINT"), (0, .fieldref 7 53), (0, .nameAndType 54 12), (0, u "TRIGGER"), (0, .fieldref 7 56), (0, .nameAndType 57 12), (0, u "RULE"), (0, .fieldref 7 59), (0, .nameAndType 60 12), (0, u "POLICY"), (0, .fieldref 7 62), (0, .nameAndType 63 12), (0, u "EXTENSION"), (0, .integer 2147483647), (0, .methodref 7 66), (0, .nameAndType 67 68), (0, u "isRelation"), (0, u "()Z"), (0, .class_ 70), (0, u "com/example/schemma/schemma/KindIsRelationPinLaw"), (2, u "law"), (0, u "(I)Z")] 9

def k1m0 : Method := { name := "<init>", desc := "()V", sig := { parameters := [], returnType := none }, accessFlags := 1, code := none }
def k1c1 : Code := { maxStack := 4, maxLocals := 4, code := code, exceptionTable := #[], attributes := #[] }
def k1m1 : Method := { name := "law", desc := "(I)Z", sig := { parameters := [.int], returnType := some .boolean }, accessFlags := 9, code := some k1c1 }
/-- com/example/schemma/schemma/KindIsRelationPinLaw -/
def k1 : Class := { plain "com/example/schemma/schemma/KindIsRelationPinLaw" (some 0) with
  accessFlags := 49
  interfaces := #[]
  cf := some (fileOf pool1 69 #[] #[{ accessFlags := 1, nameIndex := 5, descriptorIndex := 6, attributes := #[] }, { accessFlags := 9, nameIndex := 73, descriptorIndex := 74, attributes := #[] }] 49 2 #[] #[])
  fields := #[]
  methods := #[k1m0, k1m1]
  instanceTypes := #[]
  staticTypes := #[]
  resolved := Array.replicate 84 none
  statics := none }

def pool2 : Array CpInfo := pool [(1, .class_ 2), (0, u "java/lang/constant/Constable"), (0, .class_ 4), (0, u "java/lang/Object")] 6

/-- java/lang/constant/Constable -/
def k2 : Class := { plain "java/lang/constant/Constable" (some 0) with
  accessFlags := 1537
  interfaces := #[]
  cf := some (fileOf pool2 1 #[] #[] 1537 3 #[] #[])
  fields := #[]
  methods := #[]
  instanceTypes := #[]
  staticTypes := #[]
  resolved := Array.replicate 11 none
  statics := none }

def pool3 : Array CpInfo := pool [(1, .class_ 2), (0, u "java/lang/Comparable"), (0, .class_ 4), (0, u "java/lang/Object")] 7

/-- java/lang/Comparable -/
def k3 : Class := { plain "java/lang/Comparable" (some 0) with
  accessFlags := 1537
  interfaces := #[]
  cf := some (fileOf pool3 1 #[] #[] 1537 3 #[] #[])
  fields := #[]
  methods := #[]
  instanceTypes := #[]
  staticTypes := #[]
  resolved := Array.replicate 12 none
  statics := none }

def pool4 : Array CpInfo := pool [(1, .class_ 2), (0, u "java/io/Serializable"), (0, .class_ 4), (0, u "java/lang/Object")] 2

/-- java/io/Serializable -/
def k4 : Class := { plain "java/io/Serializable" (some 0) with
  accessFlags := 1537
  interfaces := #[]
  cf := some (fileOf pool4 1 #[] #[] 1537 3 #[] #[])
  fields := #[]
  methods := #[]
  instanceTypes := #[]
  staticTypes := #[]
  resolved := Array.replicate 7 none
  statics := none }

def pool5 : Array CpInfo := pool [(2, .class_ 4), (1, u "java/lang/Enum"), (0, u "name"), (0, u "Ljava/lang/String;"), (2, u "ordinal"), (0, u "I"), (1, .class_ 14), (1, u "java/lang/Object"), (4, u "hash"), (86, .class_ 108), (1, u "java/lang/Enum$EnumDesc"), (2, .class_ 112), (0, u "java/lang/constant/Constable"), (0, .class_ 114), (0, u "java/lang/Comparable"), (0, .class_ 116), (0, u "java/io/Serializable")] 87

/-- java/lang/Enum -/
def k5 : Class := { plain "java/lang/Enum" (some 0) with
  accessFlags := 1057
  interfaces := #[2, 3, 4]
  cf := some (fileOf pool5 2 #[.nestMembers #[106]] #[] 1057 12 #[111, 113, 115] #[{ accessFlags := 18, nameIndex := 5, descriptorIndex := 6, attributes := #[] }, { accessFlags := 18, nameIndex := 9, descriptorIndex := 10, attributes := #[] }, { accessFlags := 2, nameIndex := 19, descriptorIndex := 10, attributes := #[] }])
  fields := #[{ name := "name", type := (.object "java/lang/String"), accessFlags := 18, slot := 0, constantValue := 0 }, { name := "ordinal", type := .int, accessFlags := 18, slot := 1, constantValue := 0 }, { name := "hash", type := .int, accessFlags := 2, slot := 2, constantValue := 0 }]
  methods := #[]
  instanceTypes := #[(.object "java/lang/String"), .int, .int]
  staticTypes := #[]
  resolved := Array.replicate 204 none
  statics := none }

def pool6 : Array CpInfo := pool [(1, .class_ 2), (0, u "com/example/schemma/schemma/ObjectReference$Kind"), (2, u "SCHEMA"), (0, u "Lcom/example/schemma/schemma/ObjectReference$Kind;"), (0, .fieldref 1 8), (0, .nameAndType 9 6), (0, u "TABLE"), (0, .fieldref 1 11), (0, .nameAndType 12 6), (0, u "VIEW"), (0, .fieldref 1 14), (0, .nameAndType 15 6), (0, u "MATERIALIZED_VIEW"), (0, .fieldref 1 17), (0, .nameAndType 18 6), (0, u "SEQUENCE"), (0, .fieldref 1 20), (0, .nameAndType 21 6), (0, u "INDEX"), (2, u "TYPE"), (2, u "DOMAIN"), (2, u "FUNCTION"), (2, u "PROCEDURE"), (2, u "ROUTINE"), (2, u "AGGREGATE"), (2, u "COLUMN"), (2, u "CONSTRAINT"), (2, u "TRIGGER"), (2, u "RULE"), (2, u "POLICY"), (2, u "EXTENSION"), (2, u "$VALUES"), (0, u "[Lcom/example/schemma/schemma/ObjectReference$Kind;"), (6, .class_ 70), (1, u "java/lang/Enum"), (8, u "words"), (0, u "Ljava/lang/String;"), (3, u "()Z"), (71, u "isRelation"), (7, .class_ 165), (0, u "com/example/schemma/schemma/ObjectReference")] 2

def k6c0 : Code := { maxStack := 2, maxLocals := 1, code := prog_145_method_7_code, exceptionTable := #[], attributes := #[] }
def k6m0 : Method := { name := "isRelation", desc := "()Z", sig := { parameters := [], returnType := some .boolean }, accessFlags := 0, code := some k6c0 }
/-- com/example/schemma/schemma/ObjectReference$Kind -/
def k6 : Class := { plain "com/example/schemma/schemma/ObjectReference$Kind" (some 5) with
  accessFlags := 16432
  interfaces := #[]
  cf := some (fileOf pool6 1 #[.nestHost 164] #[{ accessFlags := 0, nameIndex := 156, descriptorIndex := 84, attributes := #[] }] 16432 68 #[] #[{ accessFlags := 16409, nameIndex := 5, descriptorIndex := 6, attributes := #[] }, { accessFlags := 16409, nameIndex := 9, descriptorIndex := 6, attributes := #[] }, { accessFlags := 16409, nameIndex := 12, descriptorIndex := 6, attributes := #[] }, { accessFlags := 16409, nameIndex := 15, descriptorIndex := 6, attributes := #[] }, { accessFlags := 16409, nameIndex := 18, descriptorIndex := 6, attributes := #[] }, { accessFlags := 16409, nameIndex := 21, descriptorIndex := 6, attributes := #[] }, { accessFlags := 16409, nameIndex := 24, descriptorIndex := 6, attributes := #[] }, { accessFlags := 16409, nameIndex := 27, descriptorIndex := 6, attributes := #[] }, { accessFlags := 16409, nameIndex := 30, descriptorIndex := 6, attributes := #[] }, { accessFlags := 16409, nameIndex := 33, descriptorIndex := 6, attributes := #[] }, { accessFlags := 16409, nameIndex := 36, descriptorIndex := 6, attributes := #[] }, { accessFlags := 16409, nameIndex := 39, descriptorIndex := 6, attributes := #[] }, { accessFlags := 16409, nameIndex := 42, descriptorIndex := 6, attributes := #[] }, { accessFlags := 16409, nameIndex := 45, descriptorIndex := 6, attributes := #[] }, { accessFlags := 16409, nameIndex := 48, descriptorIndex := 6, attributes := #[] }, { accessFlags := 16409, nameIndex := 51, descriptorIndex := 6, attributes := #[] }, { accessFlags := 16409, nameIndex := 54, descriptorIndex := 6, attributes := #[] }, { accessFlags := 16409, nameIndex := 57, descriptorIndex := 6, attributes := #[] }, { accessFlags := 18, nameIndex := 79, descriptorIndex := 80, attributes := #[] }, { accessFlags := 4122, nameIndex := 60, descriptorIndex := 61, attributes := #[] }])
  fields := #[{ name := "SCHEMA", type := (.object "com/example/schemma/schemma/ObjectReference$Kind"), accessFlags := 16409, slot := 0, constantValue := 0 }, { name := "TABLE", type := (.object "com/example/schemma/schemma/ObjectReference$Kind"), accessFlags := 16409, slot := 1, constantValue := 0 }, { name := "VIEW", type := (.object "com/example/schemma/schemma/ObjectReference$Kind"), accessFlags := 16409, slot := 2, constantValue := 0 }, { name := "MATERIALIZED_VIEW", type := (.object "com/example/schemma/schemma/ObjectReference$Kind"), accessFlags := 16409, slot := 3, constantValue := 0 }, { name := "SEQUENCE", type := (.object "com/example/schemma/schemma/ObjectReference$Kind"), accessFlags := 16409, slot := 4, constantValue := 0 }, { name := "INDEX", type := (.object "com/example/schemma/schemma/ObjectReference$Kind"), accessFlags := 16409, slot := 5, constantValue := 0 }, { name := "TYPE", type := (.object "com/example/schemma/schemma/ObjectReference$Kind"), accessFlags := 16409, slot := 6, constantValue := 0 }, { name := "DOMAIN", type := (.object "com/example/schemma/schemma/ObjectReference$Kind"), accessFlags := 16409, slot := 7, constantValue := 0 }, { name := "FUNCTION", type := (.object "com/example/schemma/schemma/ObjectReference$Kind"), accessFlags := 16409, slot := 8, constantValue := 0 }, { name := "PROCEDURE", type := (.object "com/example/schemma/schemma/ObjectReference$Kind"), accessFlags := 16409, slot := 9, constantValue := 0 }, { name := "ROUTINE", type := (.object "com/example/schemma/schemma/ObjectReference$Kind"), accessFlags := 16409, slot := 10, constantValue := 0 }, { name := "AGGREGATE", type := (.object "com/example/schemma/schemma/ObjectReference$Kind"), accessFlags := 16409, slot := 11, constantValue := 0 }, { name := "COLUMN", type := (.object "com/example/schemma/schemma/ObjectReference$Kind"), accessFlags := 16409, slot := 12, constantValue := 0 }, { name := "CONSTRAINT", type := (.object "com/example/schemma/schemma/ObjectReference$Kind"), accessFlags := 16409, slot := 13, constantValue := 0 }, { name := "TRIGGER", type := (.object "com/example/schemma/schemma/ObjectReference$Kind"), accessFlags := 16409, slot := 14, constantValue := 0 }, { name := "RULE", type := (.object "com/example/schemma/schemma/ObjectReference$Kind"), accessFlags := 16409, slot := 15, constantValue := 0 }, { name := "POLICY", type := (.object "com/example/schemma/schemma/ObjectReference$Kind"), accessFlags := 16409, slot := 16, constantValue := 0 }, { name := "EXTENSION", type := (.object "com/example/schemma/schemma/ObjectReference$Kind"), accessFlags := 16409, slot := 17, constantValue := 0 }, { name := "words", type := (.object "java/lang/String"), accessFlags := 18, slot := 3, constantValue := 0 }, { name := "$VALUES", type := (.array (.object "com/example/schemma/schemma/ObjectReference$Kind")), accessFlags := 4122, slot := 18, constantValue := 0 }]
  methods := #[k6m0]
  instanceTypes := #[(.object "java/lang/String"), .int, .int, (.object "java/lang/String")]
  staticTypes := #[(.object "com/example/schemma/schemma/ObjectReference$Kind"), (.object "com/example/schemma/schemma/ObjectReference$Kind"), (.object "com/example/schemma/schemma/ObjectReference$Kind"), (.object "com/example/schemma/schemma/ObjectReference$Kind"), (.object "com/example/schemma/schemma/ObjectReference$Kind"), (.object "com/example/schemma/schemma/ObjectReference$Kind"), (.object "com/example/schemma/schemma/ObjectReference$Kind"), (.object "com/example/schemma/schemma/ObjectReference$Kind"), (.object "com/example/schemma/schemma/ObjectReference$Kind"), (.object "com/example/schemma/schemma/ObjectReference$Kind"), (.object "com/example/schemma/schemma/ObjectReference$Kind"), (.object "com/example/schemma/schemma/ObjectReference$Kind"), (.object "com/example/schemma/schemma/ObjectReference$Kind"), (.object "com/example/schemma/schemma/ObjectReference$Kind"), (.object "com/example/schemma/schemma/ObjectReference$Kind"), (.object "com/example/schemma/schemma/ObjectReference$Kind"), (.object "com/example/schemma/schemma/ObjectReference$Kind"), (.object "com/example/schemma/schemma/ObjectReference$Kind"), (.array (.object "com/example/schemma/schemma/ObjectReference$Kind"))]
  resolved := Array.replicate 168 none
  statics := some 0 }

def pool7 : Array CpInfo := pool [(1, u "java/lang/Cloneable"), (0, .class_ 1), (0, u "java/lang/Object"), (0, .class_ 3)] 3

/-- java/lang/Cloneable -/
def k7 : Class := { plain "java/lang/Cloneable" (some 0) with
  accessFlags := 1537
  interfaces := #[]
  cf := some (fileOf pool7 2 #[] #[] 1537 4 #[] #[])
  fields := #[]
  methods := #[]
  instanceTypes := #[]
  staticTypes := #[]
  resolved := Array.replicate 8 none
  statics := none }

/-- the primitive byte -/
def k8 : Class := { plain "byte" none with kind := .primitive 'B', accessFlags := 0x411 }
/-- [B -/
def k9 : Class := { plain "[B" (some 0) with kind := .array 8 .byte, interfaces := #[7, 4], accessFlags := 1041 }

/-- [Lcom/example/schemma/schemma/ObjectReference$Kind; -/
def k10 : Class := { plain "[Lcom/example/schemma/schemma/ObjectReference$Kind;" (some 0) with kind := .array 6 (.object "com/example/schemma/schemma/ObjectReference$Kind"), interfaces := #[7, 4], accessFlags := 1041 }

def heap : Heap := #[{ cls := 6, slots := #[.ref 1, .ref 2, .ref 3, .ref 4, .ref 5, .ref 6, .ref 7, .ref 8, .ref 9, .ref 10, .ref 11, .ref 12, .ref 13, .ref 14, .ref 15, .ref 16, .ref 17, .ref 18, .null], vm := .statics 6 },
  { cls := 6, slots := #[.null, .int 0, .int 0, .null], vm := .none },
  { cls := 6, slots := #[.null, .int 1, .int 0, .null], vm := .none },
  { cls := 6, slots := #[.null, .int 2, .int 0, .null], vm := .none },
  { cls := 6, slots := #[.null, .int 3, .int 0, .null], vm := .none },
  { cls := 6, slots := #[.null, .int 4, .int 0, .null], vm := .none },
  { cls := 6, slots := #[.null, .int 5, .int 0, .null], vm := .none },
  { cls := 6, slots := #[.null, .int 6, .int 0, .null], vm := .none },
  { cls := 6, slots := #[.null, .int 7, .int 0, .null], vm := .none },
  { cls := 6, slots := #[.null, .int 8, .int 0, .null], vm := .none },
  { cls := 6, slots := #[.null, .int 9, .int 0, .null], vm := .none },
  { cls := 6, slots := #[.null, .int 10, .int 0, .null], vm := .none },
  { cls := 6, slots := #[.null, .int 11, .int 0, .null], vm := .none },
  { cls := 6, slots := #[.null, .int 12, .int 0, .null], vm := .none },
  { cls := 6, slots := #[.null, .int 13, .int 0, .null], vm := .none },
  { cls := 6, slots := #[.null, .int 14, .int 0, .null], vm := .none },
  { cls := 6, slots := #[.null, .int 15, .int 0, .null], vm := .none },
  { cls := 6, slots := #[.null, .int 16, .int 0, .null], vm := .none },
  { cls := 6, slots := #[.null, .int 17, .int 0, .null], vm := .none }]
def classes : Array Class := #[k0, k1, k2, k3, k4, k5, k6, k7, k8, k9, k10]
def interned : List (Array UInt16 × Addr) := []
def slotsUsed : Nat := 91
def theMethod : MethodId := ⟨1, 1⟩
def args0 : Array Value := #[.int 5]
def aboutOver (below : List Frame) : State where
  vm := { classes := classes, interned := interned.toArray }
  heap := heap
  slotsUsed := slotsUsed
  threads := #[{ frames := .invoking theMethod args0 :: below }]
def below0 : List Frame := [.native { method := ⟨0, 0⟩, args := #[] }]
def about1 : State := aboutOver below0
def p0 : Program := .bare "" "" ""
def e0 : Env := launch0.env 0 0 0
theorem w_frames : about1.frames = Frame.invoking theMethod args0 :: below0 := rfl
set_option maxRecDepth 65536 in
theorem w_args : argsFit about1.vm theMethod args0 = true := by decide +kernel
set_option maxRecDepth 65536 in
theorem w_heap : heapFits about1 = true := by decide +kernel
set_option maxRecDepth 65536 in
theorem w_runnable : about1.curStatus? = some .runnable := by decide +kernel
set_option maxRecDepth 65536 in
theorem w_alone : about1.alone = true := by decide +kernel
set_option maxRecDepth 65536 in
theorem w_named : about1.methodNamed? x = some theMethod := by decide +kernel
set_option maxRecDepth 65536 in
theorem w_hears : about1.hears theMethod below0 = true := by decide +kernel
set_option maxRecDepth 65536 in
theorem w_ripe : about1.ripe theMethod args0 below0 = true := by decide +kernel
theorem w_running : about1.status = .running := rfl
set_option maxRecDepth 65536 in
theorem w_room : about1.hasRoom e0.platform room_1 = true :=
  launch0.hasRoom_least _ room_1 (by decide +kernel) (by decide +kernel) (by decide +kernel) (by decide +kernel) (by decide +kernel) (by decide +kernel)
theorem allAtoms_all (ts : List Jvm.Cond) (a : Array Jvm.Value) (st : Jvm.State) : (allAtoms ts).before a st = ts.all (fun c => c.before a st) := by
  induction ts with
  | nil => rfl
  | cons c t ih =>
    show (Jvm.Cond.and c (allAtoms t)).before a st = _
    rw [Jvm.Cond.before_and, ih, List.all_cons]
def words1 : List Jvm.Cond := Jvm.Cond.code x code maxLocals ret :: tables_1
/-- a 'code' word, met by the world's own term for the bytes: nothing is compared byte by byte -/
theorem code_word {y : MethodName} {bytes : ByteArray} {mx : Nat} {rt : Option FieldType} {a : Array Value} {s : State} {m : MethodId} {meth : Method} {c : Code} (h1 : s.methodNamed? y = some m) (h2 : s.vm.method? m = some meth) (h3 : meth.code = some c) (h4 : c.code = bytes)
    (h5 : (c.maxLocals == mx && c.exceptionTable.isEmpty && decide (c.maxStack ≤ mostOperands) && decide (meth.sig.returnType = rt) && !meth.locks && decide (parseMethodDescriptor y.desc = some meth.sig)) = true) : (Jvm.Cond.code y bytes mx rt).before a s = true := by
  simp only [Bool.and_eq_true, beq_iff_eq, Bool.not_eq_true', decide_eq_true_eq] at h5
  obtain ⟨⟨⟨⟨⟨g1, g2⟩, g3⟩, g4⟩, g5⟩, g6⟩ := h5
  simp [Cond.before, Cond.holds, Cond.value, h1, h2, h3, h4, g1, g2, g3, g4, g5, g6]
def isCode : Jvm.Cond → Bool
  | .code _ _ _ _ => true
  | _ => false
theorem all_split {L : List Jvm.Cond} {P : Jvm.Cond → Bool} (h1 : L.all (fun c => isCode c || P c) = true) (h2 : ∀ c ∈ L.filter isCode, P c = true) : L.all P = true := by
  refine List.all_eq_true.mpr fun c hc => ?_
  have h := List.all_eq_true.mp h1 c hc
  rcases Bool.eq_false_or_eq_true (isCode c) with hi | hi
  · exact h2 c (List.mem_filter.mpr ⟨hc, hi⟩)
  · simpa [hi] using h
set_option maxRecDepth 65536 in
theorem w_c0 : (Jvm.Cond.code x code maxLocals ret).before args0 about1 = true := code_word (m := ⟨1, 1⟩) (meth := k1m1) (c := k1c1) (by decide +kernel) rfl rfl rfl (by decide +kernel)
set_option maxRecDepth 65536 in
theorem w_c1 : (Jvm.Cond.code ({ cls := "com/example/schemma/schemma/ObjectReference$Kind", name := "isRelation", desc := "()Z" } : Jvm.MethodName) prog_145_method_7_code (1 : Nat) (Option.some Jvm.ClassFile.FieldType.boolean)).before args0 about1 = true := code_word (m := ⟨6, 0⟩) (meth := k6m0) (c := k6c0) (by decide +kernel) rfl rfl rfl (by decide +kernel)
def codes1 : List Jvm.Cond := [Jvm.Cond.code x code maxLocals ret, Jvm.Cond.code ({ cls := "com/example/schemma/schemma/ObjectReference$Kind", name := "isRelation", desc := "()Z" } : Jvm.MethodName) prog_145_method_7_code (1 : Nat) (Option.some Jvm.ClassFile.FieldType.boolean)]
set_option maxRecDepth 65536 in
theorem codes_eq : words1.filter isCode = codes1 := rfl
theorem w_codes : ∀ c ∈ words1.filter isCode, c.before args0 about1 = true := by
  rw [codes_eq]
  intro c hc
  simp only [codes1, List.mem_cons, List.not_mem_nil, or_false] at hc
  rcases hc with rfl | rfl
  · exact w_c0
  · exact w_c1
set_option maxRecDepth 65536 in
theorem w_t1 : (words1.take 24).all (fun c => isCode c || c.before args0 about1) = true := by decide +kernel
set_option maxRecDepth 65536 in
theorem w_t2 : ((words1.drop 24).take 24).all (fun c => isCode c || c.before args0 about1) = true := by decide +kernel
set_option maxRecDepth 65536 in
theorem w_t3 : ((words1.drop 24).drop 24).all (fun c => isCode c || c.before args0 about1) = true := by decide +kernel
theorem w_tables : (allAtoms (Jvm.Cond.code x code maxLocals ret :: tables_1)).before args0 about1 = true := by
  rw [allAtoms_all]
  show words1.all (fun c => c.before args0 about1) = true
  refine all_split ?_ w_codes
  rw [← List.take_append_drop 24 words1, List.all_append, w_t1, ← List.take_append_drop 24 (words1.drop 24), List.all_append, w_t2, w_t3]
  rfl
set_option maxRecDepth 65536 in
theorem w_case : (Jvm.Cond.and given_1 narrow_1).before args0 about1 = true := by decide +kernel
theorem w_applies : (headSpec (Jvm.Cond.code x code maxLocals ret :: tables_1) room_1).applies x e0.platform about1 = true :=
  (Spec.applies_iff w_frames).mpr ⟨w_running, w_runnable, w_alone, w_named, w_hears, w_ripe, w_room, w_tables⟩
theorem atStart : AtStart classFile x code maxLocals ret World_1 tables_1 room_1 Calls_1 rest_1 Pre_1 launch0 p0 e0 about1 theMethod args0 below0 :=
  ⟨lists_1, trivial, launch0.admits_env _ _ _, launch0.least_env, fairChoices_fair.cas, fairChoices_fair.clock, w_frames, w_args, w_heap, w_applies, trivial, trivial, w_case⟩
end start1
theorem witness_1 : WitnessClaimed_1 := ⟨start1.p0, start1.e0, start1.about1, start1.theMethod, start1.args0, start1.below0, start1.atStart⟩
end Jvm.Pilot.@@N@@
