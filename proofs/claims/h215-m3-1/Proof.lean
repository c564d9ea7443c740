import JvmDerived
import JvmDerived.Pilot.@@N@@Statement
import JvmDerived.Pilot.@@N@@Code
set_option linter.unusedVariables false
set_option linter.unusedSimpArgs false

namespace Jvm.Pilot.@@N@@
open Jvm Jvm.ClassFile Sem Op Lib Jvm.Free Jvm.Stand Jvm.LawKit Jvm.RoadKit Bundle Jvm.Pilot.@@N@@.Jvm.D
/-- the run comes from the state A to an end of which P holds -/
def Ends (p : Program) (e : Env) (below : List Frame) (P : State → Outcome → Prop) (A : State) : Prop := ∃ t o, Steps p.tables e below A t ∧ t.status = .running ∧ Ended t below o ∧ P t o
theorem Ends.pre {p : Program} {e : Env} {below : List Frame} {P : State → Outcome → Prop} {A B : State} (h : ∀ t, Steps p.tables e below B t → Steps p.tables e below A t) (k : Ends p e below P B) : Ends p e below P A := by
  obtain ⟨t, o, h1, h2⟩ := k
  exact ⟨t, o, h t h1, h2⟩
theorem own_sta_keep0 {Z : State} {h h' : Heap} {C n d : String} {v : Value} (F : Sta Z h C n d v) (K : Keep h h' []) : Sta Z h' C n d v := by
  obtain ⟨cf, i, k, f, st, cell, h1, h2, h3, h4, h5, h6, h7⟩ := F
  exact ⟨cf, i, k, f, st, cell, h1, h2, h3, h4, K.2.1 _ _ h5 nin0, h6, h7⟩
theorem own_sta_keep1 {Z : State} {h h' : Heap} {C n d : String} {v : Value} {b : Addr} {C' : String} (F : Sta Z h C n d v) (K : Keep h h' [b]) (E : Exa Z h b C') : Sta Z h' C n d v := by
  obtain ⟨cf, i, k, f, st, cell, h1, h2, h3, h4, h5, h6, h7⟩ := F
  obtain ⟨c2, k2, g1, g2, g3, g4, g5⟩ := E
  have ne : st ≠ b := fun q => by subst q; cases h5.symm.trans g1; rw [h6] at g4; cases g4
  exact ⟨cf, i, k, f, st, cell, h1, h2, h3, h4, K.2.1 _ _ h5 (ninS ne nin0), h6, h7⟩

theorem own_eq_v {args : Array Value} {first s : State} {o : Option Outcome} {idx : List Nat} {a b : Term} {x : Value} (hb : b.eval args first o idx s = some x) (hk : (∃ z, x = .int z) ∨ ∃ z, x = .double z) (h : (Jvm.Cond.eq a b).value args first o s idx = some true) : a.eval args first o idx s = some x := by
  cases ha : a.eval args first o idx s with
  | none => simp [Cond.value, ha] at h
  | some y => rcases hk with ⟨z, rfl⟩ | ⟨z, rfl⟩ <;> cases y <;> simp [Cond.value, ha, hb] at h ⊢ <;> exact h
theorem own_fld {args : Array Value} {s : State} {t b : Term} {a : Addr} {x : Value} {C n d : String} (ht : t.eval args s none [] s = some (.ref a)) (hb : b.eval args s none [] s = some x) (hk : (∃ z, x = .int z) ∨ ∃ z, x = .double z) (h : (Jvm.Cond.eq (Term.field t C n d) b).value args s none s [] = some true) : Fld s s.heap a C n d x :=
  Fld.start ((fld_at ht).symm.trans (own_eq_v hb hk h))
theorem own_ne {Z : State} {h : Heap} {a b : Addr} {C n d : String} {x y : Int32} (F : Fld Z h a C n d (.int x)) (G : Fld Z h b C n d (.int y)) (q : x ≠ y) : a ≠ b := Fld.ne F G fun r => q (Value.int.inj r)
theorem d1_0 : decode prog_40_method_5_code 0 = .ok (.aload_n 0, 1) := by decide +kernel
theorem d1_1 : decode prog_40_method_5_code 1 = .ok (.getstatic 7, 3) := by decide +kernel
theorem d1_4 : decode prog_40_method_5_code 4 = .ok (.if_acmp .eq 10, 3) := by decide +kernel
theorem d1_7 : decode prog_40_method_5_code 7 = .ok (.aload_n 0, 1) := by decide +kernel
theorem d1_8 : decode prog_40_method_5_code 8 = .ok (.getstatic 10, 3) := by decide +kernel
theorem d1_11 : decode prog_40_method_5_code 11 = .ok (.if_acmp .ne 7, 3) := by decide +kernel
theorem d1_14 : decode prog_40_method_5_code 14 = .ok (.iconst 1, 1) := by decide +kernel
theorem d1_15 : decode prog_40_method_5_code 15 = .ok (.goto 4, 3) := by decide +kernel
theorem d1_18 : decode prog_40_method_5_code 18 = .ok (.iconst 0, 1) := by decide +kernel
theorem d1_19 : decode prog_40_method_5_code 19 = .ok (.ireturn, 1) := by decide +kernel
theorem pn1 : plainName "com/example/bare_ranker/bareranker/search/Model" = true := by first | (simp [plainName, overriddenIn]; done) | decide +kernel
theorem ef1 (m : MethodId) (x0 : Addr) : entryFrame m #[(.ref x0)] 1 = mkF m 0 #[.val (.ref x0)] [] := by first | (simp [entryFrame, mkF, argsToLocals, Value.category]; done) | rfl
def Q1 (Z : State) (a : Addr) (aL : Addr) (aP : Addr) (h0 : Heap) (n0 : Nat) (v : Option Value) (h : Heap) (L : List Loc) : Prop := v = some (.int (if a = aL then 1 else if a = aP then 1 else 0)) ∧ Fr n0 L ∧ h = h0
set_option maxRecDepth 65536 in
set_option maxHeartbeats 40000000 in
theorem rm1 (l : Launch) (Z : State) (a0 : Array Value) (hw : ∀ d ∈ tables_1, d.before a0 Z = true) (ws : List Jvm.Cond) (a : Addr) (aL : Addr) (aP : Addr) (h0 : Heap) (n0 : Nat) (Z0 : n0 ≤ h0.size) (SL : Sta Z h0 "com/example/bare_ranker/bareranker/search/Model" "BM25L" "Lcom/example/bare_ranker/bareranker/search/Model;" (.ref aL)) (SP : Sta Z h0 "com/example/bare_ranker/bareranker/search/Model" "BM25_PLUS" "Lcom/example/bare_ranker/bareranker/search/Model;" (.ref aP)) :
    MetFree l (⟨"com/example/bare_ranker/bareranker/search/Model", "takesDelta", "()Z"⟩ : MethodName) (head1 (Jvm.Cond.code (⟨"com/example/bare_ranker/bareranker/search/Model", "takesDelta", "()Z"⟩ : MethodName) prog_40_method_5_code 1 (some .boolean) :: ws) ({ frames := 0, cells := 0, slots := 0, locals := 0 } : Room)) (fun aa U => aa = #[(.ref a)] ∧ Z.Warmed39 U.vm ∧ U.heap = h0) (fun _ _ _ _ _ => True) (fun _ U o U' => ∃ v L, o = .returned v ∧ Q1 Z a aL aP h0 n0 v U'.heap L ∧ FrameEnd U o U' L ({ frames := 0, cells := 0, slots := 0, locals := 0 } : Room).cells ({ frames := 0, cells := 0, slots := 0, locals := 0 } : Room).slots) := by
  refine MetFree.of_bodySF (plainFor_of_name pn1) hisR ?_
  intro p e s m args below meth c s₁ Bd hml0 hP hK
  obtain ⟨rfl, hZ, hh⟩ := hP
  have hx := Bd.exec
  have hby := Bd.bytes
  have hml : c.maxLocals = 1 := hml0
  have hown : s.vm.findClass "com/example/bare_ranker/bareranker/search/Model" = some m.cls := findClass_of_methodNamed Bd.named
  have hnm := (name_of_methodNamed Bd.named Bd.method).1
  have X0 : Stand p l e ({ frames := 0, cells := 0, slots := 0, locals := 0 } : Room) s m #[(.ref a)] below meth c s₁ [] 0 0 := Stand.of_body Bd
  have e0 : s₁.heap = h0 := by rw [← hh, Bd.state]; rfl
  have N0 := Fr.nil n0
  show Ends p e below (fun t o => ∃ v L, o = .returned v ∧ Q1 Z a aL aP h0 n0 v t.heap L ∧ FrameEnd s o t L ({ frames := 0, cells := 0, slots := 0, locals := 0 } : Room).cells ({ frames := 0, cells := 0, slots := 0, locals := 0 } : Room).slots) (s₁.setTop (entryFrame m #[(.ref a)] 1))
  refine Ends.pre (fun t k => castTop (ef1 m a) k) ?_
  show Ends p e below _ (s₁.setTop (mkF m 0 #[.val (.ref a)] []))
  refine Ends.pre (fun t k => XS.aloadN X0.here hx rfl (hb hby d1_0) rfl rfl k) ?_
  show Ends p e below _ (s₁.setTop (mkF m 1 #[.val (.ref a)] [(.ref a)]))
  obtain ⟨T1, X1, e1, st1⟩ := getS2 X0 hx hZ hown (host := "") (Or.inl (hw _ (List.mem_of_getElem? (i := 9) rfl))) Via.refl e0 SL (g := (mkF m 1 #[.val (.ref a)] [(.ref a)])) rfl (hb hby d1_1)
  refine Ends.pre (fun t k => st1 _ k) ?_
  show Ends p e below _ (T1.setTop (mkF m 4 #[.val (.ref a)] [(.ref aL), (.ref a)]))
  by_cases hL : a = aL
  ·
    refine Ends.pre (fun t k => Jvm.RoadKit.acmp (g := (mkF m 4 #[.val (.ref a)] [(.ref aL), (.ref a)])) X1 hx rfl rfl rfl (pc0 := 4) (pc' := 14) (same := true) rfl (hb hby d1_4) rfl (decide_eq_true (congrArg Value.ref hL)) (by decide) (by decide) k) ?_
    show Ends p e below _ (T1.setTop (mkF m 14 #[.val (.ref a)] []))
    refine Ends.pre (fun t k => XS.iconst X1.here hx rfl (hb hby d1_14) k) ?_
    show Ends p e below _ (T1.setTop (mkF m 15 #[.val (.ref a)] [(.int (1 : Int32))]))
    refine Ends.pre (fun t k => XS.goto X1.here hx rfl (pc0 := 15) (pc' := 19) rfl (hb hby d1_15) (by decide) (by decide) k) ?_
    show Ends p e below _ (T1.setTop (mkF m 19 #[.val (.ref a)] [(.int (1 : Int32))]))
    obtain ⟨fs, hr, hrun, hended, hW, hsame⟩ := X1.leave (v := some (.int (1 : Int32))) (fun h => by rw [Bd.returns] at h; cases h)
    refine ⟨_, _, retN X1 hx (t := .boolean) Bd.returns (by simp) (hb hby d1_19) hr, hrun, hended, _, _, rfl, ?_, ⟨_, rfl⟩, hW, hsame.mono (by decide) (by decide)⟩
    show Q1 Z a aL aP h0 n0 _ T1.heap _
    rw [e1]
    exact ⟨by rw [if_pos hL], N0, rfl⟩
  ·
    refine Ends.pre (fun t k => Jvm.RoadKit.acmp (g := (mkF m 4 #[.val (.ref a)] [(.ref aL), (.ref a)])) X1 hx rfl rfl rfl (pc0 := 4) (pc' := 7) (same := false) rfl (hb hby d1_4) rfl (decide_eq_false fun q => hL (Value.ref.inj q)) (by decide) (by decide) k) ?_
    show Ends p e below _ (T1.setTop (mkF m 7 #[.val (.ref a)] []))
    refine Ends.pre (fun t k => XS.aloadN X1.here hx rfl (hb hby d1_7) rfl rfl k) ?_
    show Ends p e below _ (T1.setTop (mkF m 8 #[.val (.ref a)] [(.ref a)]))
    obtain ⟨T2, X2, e2, st2⟩ := getS2 X1 hx hZ hown (host := "") (Or.inl (hw _ (List.mem_of_getElem? (i := 11) rfl))) Via.refl e1 SP (g := (mkF m 8 #[.val (.ref a)] [(.ref a)])) rfl (hb hby d1_8)
    refine Ends.pre (fun t k => st2 _ k) ?_
    show Ends p e below _ (T2.setTop (mkF m 11 #[.val (.ref a)] [(.ref aP), (.ref a)]))
    by_cases hP : a = aP
    ·
      refine Ends.pre (fun t k => Jvm.RoadKit.acmp (g := (mkF m 11 #[.val (.ref a)] [(.ref aP), (.ref a)])) X2 hx rfl rfl rfl (pc0 := 11) (pc' := 14) (same := true) rfl (hb hby d1_11) rfl (decide_eq_true (congrArg Value.ref hP)) (by decide) (by decide) k) ?_
      show Ends p e below _ (T2.setTop (mkF m 14 #[.val (.ref a)] []))
      refine Ends.pre (fun t k => XS.iconst X2.here hx rfl (hb hby d1_14) k) ?_
      show Ends p e below _ (T2.setTop (mkF m 15 #[.val (.ref a)] [(.int (1 : Int32))]))
      refine Ends.pre (fun t k => XS.goto X2.here hx rfl (pc0 := 15) (pc' := 19) rfl (hb hby d1_15) (by decide) (by decide) k) ?_
      show Ends p e below _ (T2.setTop (mkF m 19 #[.val (.ref a)] [(.int (1 : Int32))]))
      obtain ⟨fs, hr, hrun, hended, hW, hsame⟩ := X2.leave (v := some (.int (1 : Int32))) (fun h => by rw [Bd.returns] at h; cases h)
      refine ⟨_, _, retN X2 hx (t := .boolean) Bd.returns (by simp) (hb hby d1_19) hr, hrun, hended, _, _, rfl, ?_, ⟨_, rfl⟩, hW, hsame.mono (by decide) (by decide)⟩
      show Q1 Z a aL aP h0 n0 _ T2.heap _
      rw [e2]
      exact ⟨by rw [if_neg hL, if_pos hP], N0, rfl⟩
    ·
      refine Ends.pre (fun t k => Jvm.RoadKit.acmp (g := (mkF m 11 #[.val (.ref a)] [(.ref aP), (.ref a)])) X2 hx rfl rfl rfl (pc0 := 11) (pc' := 18) (same := false) rfl (hb hby d1_11) rfl (decide_eq_false fun q => hP (Value.ref.inj q)) (by decide) (by decide) k) ?_
      show Ends p e below _ (T2.setTop (mkF m 18 #[.val (.ref a)] []))
      refine Ends.pre (fun t k => XS.iconst X2.here hx rfl (hb hby d1_18) k) ?_
      show Ends p e below _ (T2.setTop (mkF m 19 #[.val (.ref a)] [(.int (0 : Int32))]))
      obtain ⟨fs, hr, hrun, hended, hW, hsame⟩ := X2.leave (v := some (.int (0 : Int32))) (fun h => by rw [Bd.returns] at h; cases h)
      refine ⟨_, _, retN X2 hx (t := .boolean) Bd.returns (by simp) (hb hby d1_19) hr, hrun, hended, _, _, rfl, ?_, ⟨_, rfl⟩, hW, hsame.mono (by decide) (by decide)⟩
      show Q1 Z a aL aP h0 n0 _ T2.heap _
      rw [e2]
      exact ⟨by rw [if_neg hL, if_neg hP], N0, rfl⟩
theorem d2_0 : decode prog_40_method_9_code 0 = .ok (.aload_n 0, 1) := by decide +kernel
theorem d2_1 : decode prog_40_method_9_code 1 = .ok (.getfield 42, 3) := by decide +kernel
theorem d2_4 : decode prog_40_method_9_code 4 = .ok (.dreturn, 1) := by decide +kernel
theorem pn2 : plainName "com/example/bare_ranker/bareranker/search/Model" = true := by first | (simp [plainName, overriddenIn]; done) | decide +kernel
theorem ef2 (m : MethodId) (x0 : Addr) : entryFrame m #[(.ref x0)] 1 = mkF m 0 #[.val (.ref x0)] [] := by first | (simp [entryFrame, mkF, argsToLocals, Value.category]; done) | rfl
def Q2 (Z : State) (a : Addr) (u : UInt64) (h0 : Heap) (n0 : Nat) (v : Option Value) (h : Heap) (L : List Loc) : Prop := v = some (.double u) ∧ Fr n0 L ∧ h = h0
set_option maxRecDepth 65536 in
set_option maxHeartbeats 40000000 in
theorem rm2 (l : Launch) (Z : State) (a0 : Array Value) (hw : ∀ d ∈ tables_1, d.before a0 Z = true) (ws : List Jvm.Cond) (a : Addr) (u : UInt64) (h0 : Heap) (n0 : Nat) (Z0 : n0 ≤ h0.size) (F : Fld Z h0 a "com/example/bare_ranker/bareranker/search/Model" "defaultDelta" "D" (.double u)) :
    MetFree l (⟨"com/example/bare_ranker/bareranker/search/Model", "defaultDelta", "()D"⟩ : MethodName) (head1 (Jvm.Cond.code (⟨"com/example/bare_ranker/bareranker/search/Model", "defaultDelta", "()D"⟩ : MethodName) prog_40_method_9_code 1 (some .double) :: ws) ({ frames := 0, cells := 0, slots := 0, locals := 0 } : Room)) (fun aa U => aa = #[(.ref a)] ∧ Z.Warmed39 U.vm ∧ U.heap = h0) (fun _ _ _ _ _ => True) (fun _ U o U' => ∃ v L, o = .returned v ∧ Q2 Z a u h0 n0 v U'.heap L ∧ FrameEnd U o U' L ({ frames := 0, cells := 0, slots := 0, locals := 0 } : Room).cells ({ frames := 0, cells := 0, slots := 0, locals := 0 } : Room).slots) := by
  refine MetFree.of_bodySF (plainFor_of_name pn2) hisR ?_
  intro p e s m args below meth c s₁ Bd hml0 hP hK
  obtain ⟨rfl, hZ, hh⟩ := hP
  have hx := Bd.exec
  have hby := Bd.bytes
  have hml : c.maxLocals = 1 := hml0
  have hown : s.vm.findClass "com/example/bare_ranker/bareranker/search/Model" = some m.cls := findClass_of_methodNamed Bd.named
  have hnm := (name_of_methodNamed Bd.named Bd.method).1
  have X0 : Stand p l e ({ frames := 0, cells := 0, slots := 0, locals := 0 } : Room) s m #[(.ref a)] below meth c s₁ [] 0 0 := Stand.of_body Bd
  have e0 : s₁.heap = h0 := by rw [← hh, Bd.state]; rfl
  have N0 := Fr.nil n0
  show Ends p e below (fun t o => ∃ v L, o = .returned v ∧ Q2 Z a u h0 n0 v t.heap L ∧ FrameEnd s o t L ({ frames := 0, cells := 0, slots := 0, locals := 0 } : Room).cells ({ frames := 0, cells := 0, slots := 0, locals := 0 } : Room).slots) (s₁.setTop (entryFrame m #[(.ref a)] 1))
  refine Ends.pre (fun t k => castTop (ef2 m a) k) ?_
  show Ends p e below _ (s₁.setTop (mkF m 0 #[.val (.ref a)] []))
  refine Ends.pre (fun t k => XS.aloadN X0.here hx rfl (hb hby d2_0) rfl rfl k) ?_
  show Ends p e below _ (s₁.setTop (mkF m 1 #[.val (.ref a)] [(.ref a)]))
  obtain ⟨T3, X3, e3, st3⟩ := getF X0 hx hZ hown (host := "") (Or.inl (hw _ (List.mem_of_getElem? (i := 18) rfl))) Via.refl e0 F (g := (mkF m 1 #[.val (.ref a)] [(.ref a)])) rfl rfl (hb hby d2_1)
  refine Ends.pre (fun t k => st3 _ k) ?_
  show Ends p e below _ (T3.setTop (mkF m 4 #[.val (.ref a)] [(.double u)]))
  obtain ⟨fs, hr, hrun, hended, hW, hsame⟩ := X3.leave (v := some (.double u)) (fun h => by rw [Bd.returns] at h; cases h)
  refine ⟨_, _, retOut X3 hx Bd.returns rfl (Or.inr (Or.inr (Or.inl ⟨rfl, rfl, _, rfl⟩))) (hb hby d2_4) hr, hrun, hended, _, _, rfl, ?_, ⟨_, rfl⟩, hW, hsame.mono (by decide) (by decide)⟩
  show Q2 Z a u h0 n0 _ T3.heap _
  rw [e3]
  exact ⟨rfl, N0, rfl⟩
theorem own_k {x kk : Int32} (h : kk = (x &&& (2147483647 : Int32)) % (5 : Int32)) : kk = 0 ∨ kk = 1 ∨ kk = 2 ∨ kk = 3 ∨ kk = 4 := by
  have h1 := c_mask x 2147483647 31 (by decide) (by decide)
  have h2 := (c_irem (x &&& 2147483647) 5 5 (by decide)).1 (by rw [h1]; omega)
  rw [← h] at h2
  have h3 : kk.toInt = 0 ∨ kk.toInt = 1 ∨ kk.toInt = 2 ∨ kk.toInt = 3 ∨ kk.toInt = 4 := by omega
  rcases h3 with q | q | q | q | q
  · exact Or.inl (Int32.toInt_inj.mp q)
  · exact Or.inr (Or.inl (Int32.toInt_inj.mp q))
  · exact Or.inr (Or.inr (Or.inl (Int32.toInt_inj.mp q)))
  · exact Or.inr (Or.inr (Or.inr (Or.inl (Int32.toInt_inj.mp q))))
  · exact Or.inr (Or.inr (Or.inr (Or.inr (Int32.toInt_inj.mp q))))
theorem pd0_0 : parseMethodDescriptor "()Z" = some ⟨[], some .boolean⟩ := by decide +kernel
theorem pd0_1 : parseMethodDescriptor "()D" = some ⟨[], some .double⟩ := by decide +kernel
theorem pn0 : plainName "com/example/bare_ranker/bareranker/search/ModelTakesDeltaPinLaw" = true := by first | (simp [plainName, overriddenIn]; done) | decide +kernel
theorem ef0 (m : MethodId) (x0 : Int32) : entryFrame m #[(.int x0)] maxLocals = mkF m 0 #[.val (.int x0), .unset, .unset, .unset, .unset, .unset] [] := by first | (simp [entryFrame, mkF, argsToLocals, Value.category, maxLocals]; done) | rfl
def Q0 (Z : State) (x0 : Int32) (m0 : Addr) (m1 : Addr) (m2 : Addr) (m3 : Addr) (m4 : Addr) (h0 : Heap) (n0 : Nat) (v : Option Value) (h : Heap) (L : List Loc) : Prop := v = some (.int 1) ∧ Fr n0 L
set_option maxRecDepth 65536 in
set_option maxHeartbeats 40000000 in
theorem rm0 (l : Launch) (Z : State) (a0 : Array Value) (hw : ∀ d ∈ tables_1, d.before a0 Z = true) (ws : List Jvm.Cond) (x0 : Int32) (m0 : Addr) (m1 : Addr) (m2 : Addr) (m3 : Addr) (m4 : Addr) (h0 : Heap) (n0 : Nat) (Z0 : n0 ≤ h0.size) (S0 : Sta Z h0 "com/example/bare_ranker/bareranker/search/Model" "BM25" "Lcom/example/bare_ranker/bareranker/search/Model;" (.ref m0)) (E0 : Exa Z h0 m0 "com/example/bare_ranker/bareranker/search/Model") (D0 : Fld Z h0 m0 "com/example/bare_ranker/bareranker/search/Model" "defaultDelta" "D" (.double (0 : UInt64))) (S1 : Sta Z h0 "com/example/bare_ranker/bareranker/search/Model" "BM25L" "Lcom/example/bare_ranker/bareranker/search/Model;" (.ref m1)) (E1 : Exa Z h0 m1 "com/example/bare_ranker/bareranker/search/Model") (D1 : Fld Z h0 m1 "com/example/bare_ranker/bareranker/search/Model" "defaultDelta" "D" (.double (4602678819172646912 : UInt64))) (S2 : Sta Z h0 "com/example/bare_ranker/bareranker/search/Model" "BM25_PLUS" "Lcom/example/bare_ranker/bareranker/search/Model;" (.ref m2)) (E2 : Exa Z h0 m2 "com/example/bare_ranker/bareranker/search/Model") (D2 : Fld Z h0 m2 "com/example/bare_ranker/bareranker/search/Model" "defaultDelta" "D" (.double (4607182418800017408 : UInt64))) (S3 : Sta Z h0 "com/example/bare_ranker/bareranker/search/Model" "BM25_ADPT" "Lcom/example/bare_ranker/bareranker/search/Model;" (.ref m3)) (E3 : Exa Z h0 m3 "com/example/bare_ranker/bareranker/search/Model") (D3 : Fld Z h0 m3 "com/example/bare_ranker/bareranker/search/Model" "defaultDelta" "D" (.double (0 : UInt64))) (S4 : Sta Z h0 "com/example/bare_ranker/bareranker/search/Model" "BM25F" "Lcom/example/bare_ranker/bareranker/search/Model;" (.ref m4)) (E4 : Exa Z h0 m4 "com/example/bare_ranker/bareranker/search/Model") (D4 : Fld Z h0 m4 "com/example/bare_ranker/bareranker/search/Model" "defaultDelta" "D" (.double (0 : UInt64))) (n01 : m0 ≠ m1) (n21 : m2 ≠ m1) (n31 : m3 ≠ m1) (n41 : m4 ≠ m1) (n02 : m0 ≠ m2) (n12 : m1 ≠ m2) (n32 : m3 ≠ m2) (n42 : m4 ≠ m2) :
    MetFree l x (head1 (Jvm.Cond.code x code maxLocals ret :: ws) room_1) (fun aa U => aa = #[(.int x0)] ∧ Z.Warmed39 U.vm ∧ U.heap = h0) (fun _ _ _ _ _ => True) (fun _ U o U' => ∃ v L, o = .returned v ∧ Q0 Z x0 m0 m1 m2 m3 m4 h0 n0 v U'.heap L ∧ FrameEnd U o U' L room_1.cells room_1.slots) := by
  refine MetFree.of_bodySF (plainFor_of_name pn0) hisR ?_
  intro p e s m args below meth c s₁ Bd hml0 hP hK
  obtain ⟨rfl, hZ, hh⟩ := hP
  have hx := Bd.exec
  have hby := Bd.bytes
  have hml : c.maxLocals = 6 := hml0
  have hown : s.vm.findClass "com/example/bare_ranker/bareranker/search/ModelTakesDeltaPinLaw" = some m.cls := findClass_of_methodNamed Bd.named
  have hnm := (name_of_methodNamed Bd.named Bd.method).1
  have X0 : Stand p l e room_1 s m #[(.int x0)] below meth c s₁ [] 0 0 := Stand.of_body Bd
  have e0 : s₁.heap = h0 := by rw [← hh, Bd.state]; rfl
  have N0 := Fr.nil n0
  show Ends p e below (fun t o => ∃ v L, o = .returned v ∧ Q0 Z x0 m0 m1 m2 m3 m4 h0 n0 v t.heap L ∧ FrameEnd s o t L room_1.cells room_1.slots) (s₁.setTop (entryFrame m #[(.int x0)] maxLocals))
  refine Ends.pre (fun t k => castTop (ef0 m x0) k) ?_
  show Ends p e below _ (s₁.setTop (mkF m 0 #[.val (.int x0), .unset, .unset, .unset, .unset, .unset] []))
  refine Ends.pre (fun t k => XS.iloadN X0.here hx rfl (hb hby at_0) rfl k) ?_
  show Ends p e below _ (s₁.setTop (mkF m 1 #[.val (.int x0), .unset, .unset, .unset, .unset, .unset] [(.int x0)]))
  refine Ends.pre (fun t k => X0.ldcInt hx hown (mvT hZ (hw _ (List.mem_of_getElem? (i := 0) rfl))) (g := (mkF m 1 #[.val (.int x0), .unset, .unset, .unset, .unset, .unset] [(.int x0)])) rfl (hb hby at_1) _ k) ?_
  show Ends p e below _ (s₁.setTop (mkF m 3 #[.val (.int x0), .unset, .unset, .unset, .unset, .unset] [(.int (2147483647 : Int32)), (.int x0)]))
  refine Ends.pre (fun t k => XS.iand X0.here hx rfl (hb hby at_3) rfl k) ?_
  show Ends p e below _ (s₁.setTop (mkF m 4 #[.val (.int x0), .unset, .unset, .unset, .unset, .unset] [(.int (x0 &&& (2147483647 : Int32)))]))
  refine Ends.pre (fun t k => XS.iconst X0.here hx rfl (hb hby at_4) k) ?_
  show Ends p e below _ (s₁.setTop (mkF m 5 #[.val (.int x0), .unset, .unset, .unset, .unset, .unset] [(.int (5 : Int32)), (.int (x0 &&& (2147483647 : Int32)))]))
  refine Ends.pre (fun t k => iremM X0 hx rfl (hb hby at_5) rfl (by decide) k) ?_
  show Ends p e below _ (s₁.setTop (mkF m 6 #[.val (.int x0), .unset, .unset, .unset, .unset, .unset] [(.int ((x0 &&& (2147483647 : Int32)) % (5 : Int32)))]))
  obtain ⟨kk, hkk⟩ : ∃ z, z = ((x0 &&& (2147483647 : Int32)) % (5 : Int32)) := ⟨_, rfl⟩
  rw [← hkk]
  show Ends p e below _ (s₁.setTop (mkF m 6 #[.val (.int x0), .unset, .unset, .unset, .unset, .unset] [(.int kk)]))
  have hk : kk = 0 ∨ kk = 1 ∨ kk = 2 ∨ kk = 3 ∨ kk = 4 := own_k hkk
  rcases hk with rfl | rfl | rfl | rfl | rfl
  ·
    show Ends p e below _ (s₁.setTop (mkF m 6 #[.val (.int x0), .unset, .unset, .unset, .unset, .unset] [(.int (0 : Int32))]))
    refine Ends.pre (fun t k => XS.istoreN X0.here hx rfl (hb hby at_6) rfl (l' := #[.val (.int x0), .val (.int (0 : Int32)), .unset, .unset, .unset, .unset]) rfl k) ?_
    show Ends p e below _ (s₁.setTop (mkF m 7 #[.val (.int x0), .val (.int (0 : Int32)), .unset, .unset, .unset, .unset] []))
    refine Ends.pre (fun t k => XS.iloadN X0.here hx rfl (hb hby at_7) rfl k) ?_
    show Ends p e below _ (s₁.setTop (mkF m 8 #[.val (.int x0), .val (.int (0 : Int32)), .unset, .unset, .unset, .unset] [(.int (0 : Int32))]))
    refine Ends.pre (fun t k => XS.ifNo X0.here hx rfl (hb hby at_8) rfl ((if0 _ _).trans (teq (by decide)).2) k) ?_
    show Ends p e below _ (s₁.setTop (mkF m 11 #[.val (.int x0), .val (.int (0 : Int32)), .unset, .unset, .unset, .unset] []))
    obtain ⟨T4, X4, e4, st4⟩ := getS2 X0 hx hZ hown (host := "") (Or.inl (hw _ (List.mem_of_getElem? (i := 1) rfl))) Via.refl e0 S0 (g := (mkF m 11 #[.val (.int x0), .val (.int (0 : Int32)), .unset, .unset, .unset, .unset] [])) rfl (hb hby at_11)
    refine Ends.pre (fun t k => st4 _ k) ?_
    show Ends p e below _ (T4.setTop (mkF m 14 #[.val (.int x0), .val (.int (0 : Int32)), .unset, .unset, .unset, .unset] [(.ref m0)]))
    refine Ends.pre (fun t k => XS.astoreN X4.here hx rfl (hb hby at_14) rfl rfl (l' := #[.val (.int x0), .val (.int (0 : Int32)), .val (.ref m0), .unset, .unset, .unset]) rfl k) ?_
    show Ends p e below _ (T4.setTop (mkF m 15 #[.val (.int x0), .val (.int (0 : Int32)), .val (.ref m0), .unset, .unset, .unset] []))
    refine Ends.pre (fun t k => XS.goto X4.here hx rfl (pc0 := 15) (pc' := 58) rfl (hb hby at_15) (by decide) (by decide) k) ?_
    show Ends p e below _ (T4.setTop (mkF m 58 #[.val (.int x0), .val (.int (0 : Int32)), .val (.ref m0), .unset, .unset, .unset] []))
    refine Ends.pre (fun t k => XS.iloadN X4.here hx rfl (hb hby at_58) rfl k) ?_
    show Ends p e below _ (T4.setTop (mkF m 59 #[.val (.int x0), .val (.int (0 : Int32)), .val (.ref m0), .unset, .unset, .unset] [(.int (0 : Int32))]))
    refine Ends.pre (fun t k => XS.iconst X4.here hx rfl (hb hby at_59) k) ?_
    show Ends p e below _ (T4.setTop (mkF m 60 #[.val (.int x0), .val (.int (0 : Int32)), .val (.ref m0), .unset, .unset, .unset] [(.int (1 : Int32)), (.int (0 : Int32))]))
    refine Ends.pre (fun t k => XS.icmpNo X4.here hx rfl (hb hby at_60) rfl (feq (by decide)).1 k) ?_
    show Ends p e below _ (T4.setTop (mkF m 63 #[.val (.int x0), .val (.int (0 : Int32)), .val (.ref m0), .unset, .unset, .unset] []))
    refine Ends.pre (fun t k => XS.iloadN X4.here hx rfl (hb hby at_63) rfl k) ?_
    show Ends p e below _ (T4.setTop (mkF m 64 #[.val (.int x0), .val (.int (0 : Int32)), .val (.ref m0), .unset, .unset, .unset] [(.int (0 : Int32))]))
    refine Ends.pre (fun t k => XS.iconst X4.here hx rfl (hb hby at_64) k) ?_
    show Ends p e below _ (T4.setTop (mkF m 65 #[.val (.int x0), .val (.int (0 : Int32)), .val (.ref m0), .unset, .unset, .unset] [(.int (2 : Int32)), (.int (0 : Int32))]))
    refine Ends.pre (fun t k => XS.icmpYes X4.here hx rfl (pc0 := 65) (pc' := 72) rfl (hb hby at_65) rfl (feq (by decide)).2 (by decide) (by decide) k) ?_
    show Ends p e below _ (T4.setTop (mkF m 72 #[.val (.int x0), .val (.int (0 : Int32)), .val (.ref m0), .unset, .unset, .unset] []))
    refine Ends.pre (fun t k => XS.iconst X4.here hx rfl (hb hby at_72) k) ?_
    show Ends p e below _ (T4.setTop (mkF m 73 #[.val (.int x0), .val (.int (0 : Int32)), .val (.ref m0), .unset, .unset, .unset] [(.int (0 : Int32))]))
    refine Ends.pre (fun t k => XS.istoreN X4.here hx rfl (hb hby at_73) rfl (l' := #[.val (.int x0), .val (.int (0 : Int32)), .val (.ref m0), .val (.int (0 : Int32)), .unset, .unset]) rfl k) ?_
    show Ends p e below _ (T4.setTop (mkF m 74 #[.val (.int x0), .val (.int (0 : Int32)), .val (.ref m0), .val (.int (0 : Int32)), .unset, .unset] []))
    refine Ends.pre (fun t k => XS.aloadN X4.here hx rfl (hb hby at_74) rfl rfl k) ?_
    show Ends p e below _ (T4.setTop (mkF m 75 #[.val (.int x0), .val (.int (0 : Int32)), .val (.ref m0), .val (.int (0 : Int32)), .unset, .unset] [(.ref m0)]))
    obtain ⟨cq5, kq5, q5a, q5b, q5c⟩ := isOf hZ e4 E0
    obtain ⟨_, _, ⟨T5, L5, k5, n5⟩, -, X5, ⟨Lc5, hQ5, l5, y5, z5⟩, st5⟩ := X4.virtualBack hx (y := (⟨"com/example/bare_ranker/bareranker/search/Model", "takesDelta", "()Z"⟩ : MethodName)) (z := (⟨"com/example/bare_ranker/bareranker/search/Model", "takesDelta", "()Z"⟩ : MethodName)) hown (mvT hZ (hw _ (List.mem_of_getElem? (i := 4) rfl))) (mvT hZ (hw _ (List.mem_of_getElem? (i := 5) rfl))) (notFace_of_selects (args := #[]) (mvT hZ (hw _ (List.mem_of_getElem? (i := 7) rfl)))) (mvT hZ (hw _ (List.mem_of_getElem? (i := 7) rfl))) (mvT hZ (hw _ (List.mem_of_getElem? (i := 6) rfl))) (by decide) (backOf (W := 0) (rm1 l Z a0 hw [] m0 m1 m2 h0 n0 Z0 S1 S2) hZ (hw _ (List.mem_of_getElem? (i := 8) rfl)) (hw _ (List.mem_of_getElem? (i := 2) rfl)) (by decide) (by decide)) q5a q5c (g := (mkF m 75 #[.val (.int x0), .val (.int (0 : Int32)), .val (.ref m0), .val (.int (0 : Int32)), .unset, .unset] [(.ref m0)])) rfl (by rw [hml]; rfl) (Steps.refl _) (argsL := []) (rest := []) (lenOf pd0_0 rfl) rfl (by show 2 * 0 + _ ≤ _; exact Nat.le_of_eq rfl) (hb hby at_75) (fun _ _ => ⟨rfl, e4, (show (0 : Nat) + (0 : Nat) ≤ _ from by decide), (show (0 : Nat) + (0 : Nat) ≤ _ from by decide)⟩)
    dsimp only [Pt.U, Pt.locs, Pt.cells, Pt.slots] at X5 l5 y5 z5 st5 hQ5
    subst l5 y5 z5
    obtain ⟨rfl, N5q, e5⟩ := hQ5
    have N5 := Fr.app N0 N5q
    refine Ends.pre (fun t k => st5.trans k) ?_
    show Ends p e below _ (T5.setTop (mkF m 78 #[.val (.int x0), .val (.int (0 : Int32)), .val (.ref m0), .val (.int (0 : Int32)), .unset, .unset] [(.int (if m0 = m1 then (1 : Int32) else if m0 = m2 then 1 else 0))]))
    rw [show (if m0 = m1 then (1 : Int32) else if m0 = m2 then 1 else 0) = 0 from (if_neg n01).trans (if_neg n02)]
    show Ends p e below _ (T5.setTop (mkF m 78 #[.val (.int x0), .val (.int (0 : Int32)), .val (.ref m0), .val (.int (0 : Int32)), .unset, .unset] [(.int (0 : Int32))]))
    refine Ends.pre (fun t k => XS.istore X5.here hx rfl (hb hby at_78) rfl (l' := #[.val (.int x0), .val (.int (0 : Int32)), .val (.ref m0), .val (.int (0 : Int32)), .val (.int (0 : Int32)), .unset]) rfl k) ?_
    show Ends p e below _ (T5.setTop (mkF m 80 #[.val (.int x0), .val (.int (0 : Int32)), .val (.ref m0), .val (.int (0 : Int32)), .val (.int (0 : Int32)), .unset] []))
    refine Ends.pre (fun t k => XS.dconst0 X5.here hx rfl (hb hby at_80) rfl k) ?_
    show Ends p e below _ (T5.setTop (mkF m 81 #[.val (.int x0), .val (.int (0 : Int32)), .val (.ref m0), .val (.int (0 : Int32)), .val (.int (0 : Int32)), .unset] [(.double FP.dconst0)]))
    refine Ends.pre (fun t k => XS.aloadN X5.here hx rfl (hb hby at_81) rfl rfl k) ?_
    show Ends p e below _ (T5.setTop (mkF m 82 #[.val (.int x0), .val (.int (0 : Int32)), .val (.ref m0), .val (.int (0 : Int32)), .val (.int (0 : Int32)), .unset] [(.ref m0), (.double FP.dconst0)]))
    obtain ⟨cq6, kq6, q6a, q6b, q6c⟩ := isOf hZ e5 E0
    obtain ⟨_, _, ⟨T6, L6, k6, n6⟩, -, X6, ⟨Lc6, hQ6, l6, y6, z6⟩, st6⟩ := X5.virtualBack hx (y := (⟨"com/example/bare_ranker/bareranker/search/Model", "defaultDelta", "()D"⟩ : MethodName)) (z := (⟨"com/example/bare_ranker/bareranker/search/Model", "defaultDelta", "()D"⟩ : MethodName)) hown (mvT hZ (hw _ (List.mem_of_getElem? (i := 13) rfl))) (mvT hZ (hw _ (List.mem_of_getElem? (i := 14) rfl))) (notFace_of_selects (args := #[]) (mvT hZ (hw _ (List.mem_of_getElem? (i := 16) rfl)))) (mvT hZ (hw _ (List.mem_of_getElem? (i := 16) rfl))) (mvT hZ (hw _ (List.mem_of_getElem? (i := 15) rfl))) (by decide) (backOf (W := 2) (rm2 l Z a0 hw [] m0 (0 : UInt64) h0 n0 Z0 D0) hZ (hw _ (List.mem_of_getElem? (i := 17) rfl)) (hw _ (List.mem_of_getElem? (i := 2) rfl)) (by decide) (by decide)) q6a q6c (g := (mkF m 82 #[.val (.int x0), .val (.int (0 : Int32)), .val (.ref m0), .val (.int (0 : Int32)), .val (.int (0 : Int32)), .unset] [(.ref m0), (.double FP.dconst0)])) rfl (by rw [hml]; rfl) (Steps.refl _) (argsL := []) (rest := [(.double FP.dconst0)]) (lenOf pd0_1 rfl) rfl (by show 2 * 0 + _ ≤ _; exact Nat.le_of_eq rfl) (hb hby at_82) (fun _ _ => ⟨rfl, e5, (show (0 : Nat) + (0 : Nat) ≤ _ from by decide), (show (0 : Nat) + (0 : Nat) ≤ _ from by decide)⟩)
    dsimp only [Pt.U, Pt.locs, Pt.cells, Pt.slots] at X6 l6 y6 z6 st6 hQ6
    subst l6 y6 z6
    obtain ⟨rfl, N6q, e6⟩ := hQ6
    have N6 := Fr.app N5 N6q
    refine Ends.pre (fun t k => st6.trans k) ?_
    show Ends p e below _ (T6.setTop (mkF m 85 #[.val (.int x0), .val (.int (0 : Int32)), .val (.ref m0), .val (.int (0 : Int32)), .val (.int (0 : Int32)), .unset] [(.double (0 : UInt64)), (.double FP.dconst0)]))
    refine Ends.pre (fun t k => XS.dcmpS X6.here hx rfl (v := (0 : Int32)) (hb hby at_85) rfl (by decide +kernel) k) ?_
    show Ends p e below _ (T6.setTop (mkF m 86 #[.val (.int x0), .val (.int (0 : Int32)), .val (.ref m0), .val (.int (0 : Int32)), .val (.int (0 : Int32)), .unset] [(.int (0 : Int32))]))
    refine Ends.pre (fun t k => XS.ifYes X6.here hx rfl (pc0 := 86) (pc' := 93) rfl (hb hby at_86) rfl ((if0 _ _).trans (flt (by decide)).2.1) (by decide) (by decide) k) ?_
    show Ends p e below _ (T6.setTop (mkF m 93 #[.val (.int x0), .val (.int (0 : Int32)), .val (.ref m0), .val (.int (0 : Int32)), .val (.int (0 : Int32)), .unset] []))
    refine Ends.pre (fun t k => XS.iconst X6.here hx rfl (hb hby at_93) k) ?_
    show Ends p e below _ (T6.setTop (mkF m 94 #[.val (.int x0), .val (.int (0 : Int32)), .val (.ref m0), .val (.int (0 : Int32)), .val (.int (0 : Int32)), .unset] [(.int (0 : Int32))]))
    refine Ends.pre (fun t k => XS.istore X6.here hx rfl (hb hby at_94) rfl (l' := #[.val (.int x0), .val (.int (0 : Int32)), .val (.ref m0), .val (.int (0 : Int32)), .val (.int (0 : Int32)), .val (.int (0 : Int32))]) rfl k) ?_
    show Ends p e below _ (T6.setTop (mkF m 96 #[.val (.int x0), .val (.int (0 : Int32)), .val (.ref m0), .val (.int (0 : Int32)), .val (.int (0 : Int32)), .val (.int (0 : Int32))] []))
    refine Ends.pre (fun t k => XS.iload X6.here hx rfl (hb hby at_96) rfl k) ?_
    show Ends p e below _ (T6.setTop (mkF m 98 #[.val (.int x0), .val (.int (0 : Int32)), .val (.ref m0), .val (.int (0 : Int32)), .val (.int (0 : Int32)), .val (.int (0 : Int32))] [(.int (0 : Int32))]))
    refine Ends.pre (fun t k => XS.iloadN X6.here hx rfl (hb hby at_98) rfl k) ?_
    show Ends p e below _ (T6.setTop (mkF m 99 #[.val (.int x0), .val (.int (0 : Int32)), .val (.ref m0), .val (.int (0 : Int32)), .val (.int (0 : Int32)), .val (.int (0 : Int32))] [(.int (0 : Int32)), (.int (0 : Int32))]))
    refine Ends.pre (fun t k => XS.icmpNo X6.here hx rfl (hb hby at_99) rfl (teq (by decide)).2 k) ?_
    show Ends p e below _ (T6.setTop (mkF m 102 #[.val (.int x0), .val (.int (0 : Int32)), .val (.ref m0), .val (.int (0 : Int32)), .val (.int (0 : Int32)), .val (.int (0 : Int32))] []))
    refine Ends.pre (fun t k => XS.iload X6.here hx rfl (hb hby at_102) rfl k) ?_
    show Ends p e below _ (T6.setTop (mkF m 104 #[.val (.int x0), .val (.int (0 : Int32)), .val (.ref m0), .val (.int (0 : Int32)), .val (.int (0 : Int32)), .val (.int (0 : Int32))] [(.int (0 : Int32))]))
    refine Ends.pre (fun t k => XS.iload X6.here hx rfl (hb hby at_104) rfl k) ?_
    show Ends p e below _ (T6.setTop (mkF m 106 #[.val (.int x0), .val (.int (0 : Int32)), .val (.ref m0), .val (.int (0 : Int32)), .val (.int (0 : Int32)), .val (.int (0 : Int32))] [(.int (0 : Int32)), (.int (0 : Int32))]))
    refine Ends.pre (fun t k => XS.icmpNo X6.here hx rfl (hb hby at_106) rfl (teq (by decide)).2 k) ?_
    show Ends p e below _ (T6.setTop (mkF m 109 #[.val (.int x0), .val (.int (0 : Int32)), .val (.ref m0), .val (.int (0 : Int32)), .val (.int (0 : Int32)), .val (.int (0 : Int32))] []))
    refine Ends.pre (fun t k => XS.iconst X6.here hx rfl (hb hby at_109) k) ?_
    show Ends p e below _ (T6.setTop (mkF m 110 #[.val (.int x0), .val (.int (0 : Int32)), .val (.ref m0), .val (.int (0 : Int32)), .val (.int (0 : Int32)), .val (.int (0 : Int32))] [(.int (1 : Int32))]))
    refine Ends.pre (fun t k => XS.goto X6.here hx rfl (pc0 := 110) (pc' := 114) rfl (hb hby at_110) (by decide) (by decide) k) ?_
    show Ends p e below _ (T6.setTop (mkF m 114 #[.val (.int x0), .val (.int (0 : Int32)), .val (.ref m0), .val (.int (0 : Int32)), .val (.int (0 : Int32)), .val (.int (0 : Int32))] [(.int (1 : Int32))]))
    obtain ⟨fs, hr, hrun, hended, hW, hsame⟩ := X6.leave (v := some (.int (1 : Int32))) (fun h => by rw [Bd.returns] at h; cases h)
    refine ⟨_, _, retN X6 hx (t := .boolean) Bd.returns (by simp) (hb hby at_114) hr, hrun, hended, _, _, rfl, ?_, ⟨_, rfl⟩, hW, hsame.mono (by decide) (by decide)⟩
    show Q0 Z x0 m0 m1 m2 m3 m4 h0 n0 _ T6.heap _
    rw [e6]
    exact ⟨rfl, N6⟩
  ·
    show Ends p e below _ (s₁.setTop (mkF m 6 #[.val (.int x0), .unset, .unset, .unset, .unset, .unset] [(.int (1 : Int32))]))
    refine Ends.pre (fun t k => XS.istoreN X0.here hx rfl (hb hby at_6) rfl (l' := #[.val (.int x0), .val (.int (1 : Int32)), .unset, .unset, .unset, .unset]) rfl k) ?_
    show Ends p e below _ (s₁.setTop (mkF m 7 #[.val (.int x0), .val (.int (1 : Int32)), .unset, .unset, .unset, .unset] []))
    refine Ends.pre (fun t k => XS.iloadN X0.here hx rfl (hb hby at_7) rfl k) ?_
    show Ends p e below _ (s₁.setTop (mkF m 8 #[.val (.int x0), .val (.int (1 : Int32)), .unset, .unset, .unset, .unset] [(.int (1 : Int32))]))
    refine Ends.pre (fun t k => XS.ifYes X0.here hx rfl (pc0 := 8) (pc' := 18) rfl (hb hby at_8) rfl ((if0 _ _).trans (feq (by decide)).2) (by decide) (by decide) k) ?_
    show Ends p e below _ (s₁.setTop (mkF m 18 #[.val (.int x0), .val (.int (1 : Int32)), .unset, .unset, .unset, .unset] []))
    refine Ends.pre (fun t k => XS.iloadN X0.here hx rfl (hb hby at_18) rfl k) ?_
    show Ends p e below _ (s₁.setTop (mkF m 19 #[.val (.int x0), .val (.int (1 : Int32)), .unset, .unset, .unset, .unset] [(.int (1 : Int32))]))
    refine Ends.pre (fun t k => XS.iconst X0.here hx rfl (hb hby at_19) k) ?_
    show Ends p e below _ (s₁.setTop (mkF m 20 #[.val (.int x0), .val (.int (1 : Int32)), .unset, .unset, .unset, .unset] [(.int (1 : Int32)), (.int (1 : Int32))]))
    refine Ends.pre (fun t k => XS.icmpNo X0.here hx rfl (hb hby at_20) rfl (teq (by decide)).2 k) ?_
    show Ends p e below _ (s₁.setTop (mkF m 23 #[.val (.int x0), .val (.int (1 : Int32)), .unset, .unset, .unset, .unset] []))
    obtain ⟨T7, X7, e7, st7⟩ := getS2 X0 hx hZ hown (host := "") (Or.inl (hw _ (List.mem_of_getElem? (i := 22) rfl))) Via.refl e0 S1 (g := (mkF m 23 #[.val (.int x0), .val (.int (1 : Int32)), .unset, .unset, .unset, .unset] [])) rfl (hb hby at_23)
    refine Ends.pre (fun t k => st7 _ k) ?_
    show Ends p e below _ (T7.setTop (mkF m 26 #[.val (.int x0), .val (.int (1 : Int32)), .unset, .unset, .unset, .unset] [(.ref m1)]))
    refine Ends.pre (fun t k => XS.astoreN X7.here hx rfl (hb hby at_26) rfl rfl (l' := #[.val (.int x0), .val (.int (1 : Int32)), .val (.ref m1), .unset, .unset, .unset]) rfl k) ?_
    show Ends p e below _ (T7.setTop (mkF m 27 #[.val (.int x0), .val (.int (1 : Int32)), .val (.ref m1), .unset, .unset, .unset] []))
    refine Ends.pre (fun t k => XS.goto X7.here hx rfl (pc0 := 27) (pc' := 58) rfl (hb hby at_27) (by decide) (by decide) k) ?_
    show Ends p e below _ (T7.setTop (mkF m 58 #[.val (.int x0), .val (.int (1 : Int32)), .val (.ref m1), .unset, .unset, .unset] []))
    refine Ends.pre (fun t k => XS.iloadN X7.here hx rfl (hb hby at_58) rfl k) ?_
    show Ends p e below _ (T7.setTop (mkF m 59 #[.val (.int x0), .val (.int (1 : Int32)), .val (.ref m1), .unset, .unset, .unset] [(.int (1 : Int32))]))
    refine Ends.pre (fun t k => XS.iconst X7.here hx rfl (hb hby at_59) k) ?_
    show Ends p e below _ (T7.setTop (mkF m 60 #[.val (.int x0), .val (.int (1 : Int32)), .val (.ref m1), .unset, .unset, .unset] [(.int (1 : Int32)), (.int (1 : Int32))]))
    refine Ends.pre (fun t k => XS.icmpYes X7.here hx rfl (pc0 := 60) (pc' := 68) rfl (hb hby at_60) rfl (teq (by decide)).1 (by decide) (by decide) k) ?_
    show Ends p e below _ (T7.setTop (mkF m 68 #[.val (.int x0), .val (.int (1 : Int32)), .val (.ref m1), .unset, .unset, .unset] []))
    refine Ends.pre (fun t k => XS.iconst X7.here hx rfl (hb hby at_68) k) ?_
    show Ends p e below _ (T7.setTop (mkF m 69 #[.val (.int x0), .val (.int (1 : Int32)), .val (.ref m1), .unset, .unset, .unset] [(.int (1 : Int32))]))
    refine Ends.pre (fun t k => XS.goto X7.here hx rfl (pc0 := 69) (pc' := 73) rfl (hb hby at_69) (by decide) (by decide) k) ?_
    show Ends p e below _ (T7.setTop (mkF m 73 #[.val (.int x0), .val (.int (1 : Int32)), .val (.ref m1), .unset, .unset, .unset] [(.int (1 : Int32))]))
    refine Ends.pre (fun t k => XS.istoreN X7.here hx rfl (hb hby at_73) rfl (l' := #[.val (.int x0), .val (.int (1 : Int32)), .val (.ref m1), .val (.int (1 : Int32)), .unset, .unset]) rfl k) ?_
    show Ends p e below _ (T7.setTop (mkF m 74 #[.val (.int x0), .val (.int (1 : Int32)), .val (.ref m1), .val (.int (1 : Int32)), .unset, .unset] []))
    refine Ends.pre (fun t k => XS.aloadN X7.here hx rfl (hb hby at_74) rfl rfl k) ?_
    show Ends p e below _ (T7.setTop (mkF m 75 #[.val (.int x0), .val (.int (1 : Int32)), .val (.ref m1), .val (.int (1 : Int32)), .unset, .unset] [(.ref m1)]))
    obtain ⟨cq8, kq8, q8a, q8b, q8c⟩ := isOf hZ e7 E1
    obtain ⟨_, _, ⟨T8, L8, k8, n8⟩, -, X8, ⟨Lc8, hQ8, l8, y8, z8⟩, st8⟩ := X7.virtualBack hx (y := (⟨"com/example/bare_ranker/bareranker/search/Model", "takesDelta", "()Z"⟩ : MethodName)) (z := (⟨"com/example/bare_ranker/bareranker/search/Model", "takesDelta", "()Z"⟩ : MethodName)) hown (mvT hZ (hw _ (List.mem_of_getElem? (i := 4) rfl))) (mvT hZ (hw _ (List.mem_of_getElem? (i := 5) rfl))) (notFace_of_selects (args := #[]) (mvT hZ (hw _ (List.mem_of_getElem? (i := 7) rfl)))) (mvT hZ (hw _ (List.mem_of_getElem? (i := 7) rfl))) (mvT hZ (hw _ (List.mem_of_getElem? (i := 6) rfl))) (by decide) (backOf (W := 0) (rm1 l Z a0 hw [] m1 m1 m2 h0 n0 Z0 S1 S2) hZ (hw _ (List.mem_of_getElem? (i := 8) rfl)) (hw _ (List.mem_of_getElem? (i := 2) rfl)) (by decide) (by decide)) q8a q8c (g := (mkF m 75 #[.val (.int x0), .val (.int (1 : Int32)), .val (.ref m1), .val (.int (1 : Int32)), .unset, .unset] [(.ref m1)])) rfl (by rw [hml]; rfl) (Steps.refl _) (argsL := []) (rest := []) (lenOf pd0_0 rfl) rfl (by show 2 * 0 + _ ≤ _; exact Nat.le_of_eq rfl) (hb hby at_75) (fun _ _ => ⟨rfl, e7, (show (0 : Nat) + (0 : Nat) ≤ _ from by decide), (show (0 : Nat) + (0 : Nat) ≤ _ from by decide)⟩)
    dsimp only [Pt.U, Pt.locs, Pt.cells, Pt.slots] at X8 l8 y8 z8 st8 hQ8
    subst l8 y8 z8
    obtain ⟨rfl, N8q, e8⟩ := hQ8
    have N8 := Fr.app N0 N8q
    refine Ends.pre (fun t k => st8.trans k) ?_
    show Ends p e below _ (T8.setTop (mkF m 78 #[.val (.int x0), .val (.int (1 : Int32)), .val (.ref m1), .val (.int (1 : Int32)), .unset, .unset] [(.int (if m1 = m1 then (1 : Int32) else if m1 = m2 then 1 else 0))]))
    rw [show (if m1 = m1 then (1 : Int32) else if m1 = m2 then 1 else 0) = 1 from if_pos rfl]
    show Ends p e below _ (T8.setTop (mkF m 78 #[.val (.int x0), .val (.int (1 : Int32)), .val (.ref m1), .val (.int (1 : Int32)), .unset, .unset] [(.int (1 : Int32))]))
    refine Ends.pre (fun t k => XS.istore X8.here hx rfl (hb hby at_78) rfl (l' := #[.val (.int x0), .val (.int (1 : Int32)), .val (.ref m1), .val (.int (1 : Int32)), .val (.int (1 : Int32)), .unset]) rfl k) ?_
    show Ends p e below _ (T8.setTop (mkF m 80 #[.val (.int x0), .val (.int (1 : Int32)), .val (.ref m1), .val (.int (1 : Int32)), .val (.int (1 : Int32)), .unset] []))
    refine Ends.pre (fun t k => XS.dconst0 X8.here hx rfl (hb hby at_80) rfl k) ?_
    show Ends p e below _ (T8.setTop (mkF m 81 #[.val (.int x0), .val (.int (1 : Int32)), .val (.ref m1), .val (.int (1 : Int32)), .val (.int (1 : Int32)), .unset] [(.double FP.dconst0)]))
    refine Ends.pre (fun t k => XS.aloadN X8.here hx rfl (hb hby at_81) rfl rfl k) ?_
    show Ends p e below _ (T8.setTop (mkF m 82 #[.val (.int x0), .val (.int (1 : Int32)), .val (.ref m1), .val (.int (1 : Int32)), .val (.int (1 : Int32)), .unset] [(.ref m1), (.double FP.dconst0)]))
    obtain ⟨cq9, kq9, q9a, q9b, q9c⟩ := isOf hZ e8 E1
    obtain ⟨_, _, ⟨T9, L9, k9, n9⟩, -, X9, ⟨Lc9, hQ9, l9, y9, z9⟩, st9⟩ := X8.virtualBack hx (y := (⟨"com/example/bare_ranker/bareranker/search/Model", "defaultDelta", "()D"⟩ : MethodName)) (z := (⟨"com/example/bare_ranker/bareranker/search/Model", "defaultDelta", "()D"⟩ : MethodName)) hown (mvT hZ (hw _ (List.mem_of_getElem? (i := 13) rfl))) (mvT hZ (hw _ (List.mem_of_getElem? (i := 14) rfl))) (notFace_of_selects (args := #[]) (mvT hZ (hw _ (List.mem_of_getElem? (i := 16) rfl)))) (mvT hZ (hw _ (List.mem_of_getElem? (i := 16) rfl))) (mvT hZ (hw _ (List.mem_of_getElem? (i := 15) rfl))) (by decide) (backOf (W := 2) (rm2 l Z a0 hw [] m1 (4602678819172646912 : UInt64) h0 n0 Z0 D1) hZ (hw _ (List.mem_of_getElem? (i := 17) rfl)) (hw _ (List.mem_of_getElem? (i := 2) rfl)) (by decide) (by decide)) q9a q9c (g := (mkF m 82 #[.val (.int x0), .val (.int (1 : Int32)), .val (.ref m1), .val (.int (1 : Int32)), .val (.int (1 : Int32)), .unset] [(.ref m1), (.double FP.dconst0)])) rfl (by rw [hml]; rfl) (Steps.refl _) (argsL := []) (rest := [(.double FP.dconst0)]) (lenOf pd0_1 rfl) rfl (by show 2 * 0 + _ ≤ _; exact Nat.le_of_eq rfl) (hb hby at_82) (fun _ _ => ⟨rfl, e8, (show (0 : Nat) + (0 : Nat) ≤ _ from by decide), (show (0 : Nat) + (0 : Nat) ≤ _ from by decide)⟩)
    dsimp only [Pt.U, Pt.locs, Pt.cells, Pt.slots] at X9 l9 y9 z9 st9 hQ9
    subst l9 y9 z9
    obtain ⟨rfl, N9q, e9⟩ := hQ9
    have N9 := Fr.app N8 N9q
    refine Ends.pre (fun t k => st9.trans k) ?_
    show Ends p e below _ (T9.setTop (mkF m 85 #[.val (.int x0), .val (.int (1 : Int32)), .val (.ref m1), .val (.int (1 : Int32)), .val (.int (1 : Int32)), .unset] [(.double (4602678819172646912 : UInt64)), (.double FP.dconst0)]))
    refine Ends.pre (fun t k => XS.dcmpS X9.here hx rfl (v := (-1 : Int32)) (hb hby at_85) rfl (by decide +kernel) k) ?_
    show Ends p e below _ (T9.setTop (mkF m 86 #[.val (.int x0), .val (.int (1 : Int32)), .val (.ref m1), .val (.int (1 : Int32)), .val (.int (1 : Int32)), .unset] [(.int (-1 : Int32))]))
    refine Ends.pre (fun t k => XS.ifNo X9.here hx rfl (hb hby at_86) rfl ((if0 _ _).trans (tlt (by decide)).2.1) k) ?_
    show Ends p e below _ (T9.setTop (mkF m 89 #[.val (.int x0), .val (.int (1 : Int32)), .val (.ref m1), .val (.int (1 : Int32)), .val (.int (1 : Int32)), .unset] []))
    refine Ends.pre (fun t k => XS.iconst X9.here hx rfl (hb hby at_89) k) ?_
    show Ends p e below _ (T9.setTop (mkF m 90 #[.val (.int x0), .val (.int (1 : Int32)), .val (.ref m1), .val (.int (1 : Int32)), .val (.int (1 : Int32)), .unset] [(.int (1 : Int32))]))
    refine Ends.pre (fun t k => XS.goto X9.here hx rfl (pc0 := 90) (pc' := 94) rfl (hb hby at_90) (by decide) (by decide) k) ?_
    show Ends p e below _ (T9.setTop (mkF m 94 #[.val (.int x0), .val (.int (1 : Int32)), .val (.ref m1), .val (.int (1 : Int32)), .val (.int (1 : Int32)), .unset] [(.int (1 : Int32))]))
    refine Ends.pre (fun t k => XS.istore X9.here hx rfl (hb hby at_94) rfl (l' := #[.val (.int x0), .val (.int (1 : Int32)), .val (.ref m1), .val (.int (1 : Int32)), .val (.int (1 : Int32)), .val (.int (1 : Int32))]) rfl k) ?_
    show Ends p e below _ (T9.setTop (mkF m 96 #[.val (.int x0), .val (.int (1 : Int32)), .val (.ref m1), .val (.int (1 : Int32)), .val (.int (1 : Int32)), .val (.int (1 : Int32))] []))
    refine Ends.pre (fun t k => XS.iload X9.here hx rfl (hb hby at_96) rfl k) ?_
    show Ends p e below _ (T9.setTop (mkF m 98 #[.val (.int x0), .val (.int (1 : Int32)), .val (.ref m1), .val (.int (1 : Int32)), .val (.int (1 : Int32)), .val (.int (1 : Int32))] [(.int (1 : Int32))]))
    refine Ends.pre (fun t k => XS.iloadN X9.here hx rfl (hb hby at_98) rfl k) ?_
    show Ends p e below _ (T9.setTop (mkF m 99 #[.val (.int x0), .val (.int (1 : Int32)), .val (.ref m1), .val (.int (1 : Int32)), .val (.int (1 : Int32)), .val (.int (1 : Int32))] [(.int (1 : Int32)), (.int (1 : Int32))]))
    refine Ends.pre (fun t k => XS.icmpNo X9.here hx rfl (hb hby at_99) rfl (teq (by decide)).2 k) ?_
    show Ends p e below _ (T9.setTop (mkF m 102 #[.val (.int x0), .val (.int (1 : Int32)), .val (.ref m1), .val (.int (1 : Int32)), .val (.int (1 : Int32)), .val (.int (1 : Int32))] []))
    refine Ends.pre (fun t k => XS.iload X9.here hx rfl (hb hby at_102) rfl k) ?_
    show Ends p e below _ (T9.setTop (mkF m 104 #[.val (.int x0), .val (.int (1 : Int32)), .val (.ref m1), .val (.int (1 : Int32)), .val (.int (1 : Int32)), .val (.int (1 : Int32))] [(.int (1 : Int32))]))
    refine Ends.pre (fun t k => XS.iload X9.here hx rfl (hb hby at_104) rfl k) ?_
    show Ends p e below _ (T9.setTop (mkF m 106 #[.val (.int x0), .val (.int (1 : Int32)), .val (.ref m1), .val (.int (1 : Int32)), .val (.int (1 : Int32)), .val (.int (1 : Int32))] [(.int (1 : Int32)), (.int (1 : Int32))]))
    refine Ends.pre (fun t k => XS.icmpNo X9.here hx rfl (hb hby at_106) rfl (teq (by decide)).2 k) ?_
    show Ends p e below _ (T9.setTop (mkF m 109 #[.val (.int x0), .val (.int (1 : Int32)), .val (.ref m1), .val (.int (1 : Int32)), .val (.int (1 : Int32)), .val (.int (1 : Int32))] []))
    refine Ends.pre (fun t k => XS.iconst X9.here hx rfl (hb hby at_109) k) ?_
    show Ends p e below _ (T9.setTop (mkF m 110 #[.val (.int x0), .val (.int (1 : Int32)), .val (.ref m1), .val (.int (1 : Int32)), .val (.int (1 : Int32)), .val (.int (1 : Int32))] [(.int (1 : Int32))]))
    refine Ends.pre (fun t k => XS.goto X9.here hx rfl (pc0 := 110) (pc' := 114) rfl (hb hby at_110) (by decide) (by decide) k) ?_
    show Ends p e below _ (T9.setTop (mkF m 114 #[.val (.int x0), .val (.int (1 : Int32)), .val (.ref m1), .val (.int (1 : Int32)), .val (.int (1 : Int32)), .val (.int (1 : Int32))] [(.int (1 : Int32))]))
    obtain ⟨fs, hr, hrun, hended, hW, hsame⟩ := X9.leave (v := some (.int (1 : Int32))) (fun h => by rw [Bd.returns] at h; cases h)
    refine ⟨_, _, retN X9 hx (t := .boolean) Bd.returns (by simp) (hb hby at_114) hr, hrun, hended, _, _, rfl, ?_, ⟨_, rfl⟩, hW, hsame.mono (by decide) (by decide)⟩
    show Q0 Z x0 m0 m1 m2 m3 m4 h0 n0 _ T9.heap _
    rw [e9]
    exact ⟨rfl, N9⟩
  ·
    show Ends p e below _ (s₁.setTop (mkF m 6 #[.val (.int x0), .unset, .unset, .unset, .unset, .unset] [(.int (2 : Int32))]))
    refine Ends.pre (fun t k => XS.istoreN X0.here hx rfl (hb hby at_6) rfl (l' := #[.val (.int x0), .val (.int (2 : Int32)), .unset, .unset, .unset, .unset]) rfl k) ?_
    show Ends p e below _ (s₁.setTop (mkF m 7 #[.val (.int x0), .val (.int (2 : Int32)), .unset, .unset, .unset, .unset] []))
    refine Ends.pre (fun t k => XS.iloadN X0.here hx rfl (hb hby at_7) rfl k) ?_
    show Ends p e below _ (s₁.setTop (mkF m 8 #[.val (.int x0), .val (.int (2 : Int32)), .unset, .unset, .unset, .unset] [(.int (2 : Int32))]))
    refine Ends.pre (fun t k => XS.ifYes X0.here hx rfl (pc0 := 8) (pc' := 18) rfl (hb hby at_8) rfl ((if0 _ _).trans (feq (by decide)).2) (by decide) (by decide) k) ?_
    show Ends p e below _ (s₁.setTop (mkF m 18 #[.val (.int x0), .val (.int (2 : Int32)), .unset, .unset, .unset, .unset] []))
    refine Ends.pre (fun t k => XS.iloadN X0.here hx rfl (hb hby at_18) rfl k) ?_
    show Ends p e below _ (s₁.setTop (mkF m 19 #[.val (.int x0), .val (.int (2 : Int32)), .unset, .unset, .unset, .unset] [(.int (2 : Int32))]))
    refine Ends.pre (fun t k => XS.iconst X0.here hx rfl (hb hby at_19) k) ?_
    show Ends p e below _ (s₁.setTop (mkF m 20 #[.val (.int x0), .val (.int (2 : Int32)), .unset, .unset, .unset, .unset] [(.int (1 : Int32)), (.int (2 : Int32))]))
    refine Ends.pre (fun t k => XS.icmpYes X0.here hx rfl (pc0 := 20) (pc' := 30) rfl (hb hby at_20) rfl (feq (by decide)).2 (by decide) (by decide) k) ?_
    show Ends p e below _ (s₁.setTop (mkF m 30 #[.val (.int x0), .val (.int (2 : Int32)), .unset, .unset, .unset, .unset] []))
    refine Ends.pre (fun t k => XS.iloadN X0.here hx rfl (hb hby at_30) rfl k) ?_
    show Ends p e below _ (s₁.setTop (mkF m 31 #[.val (.int x0), .val (.int (2 : Int32)), .unset, .unset, .unset, .unset] [(.int (2 : Int32))]))
    refine Ends.pre (fun t k => XS.iconst X0.here hx rfl (hb hby at_31) k) ?_
    show Ends p e below _ (s₁.setTop (mkF m 32 #[.val (.int x0), .val (.int (2 : Int32)), .unset, .unset, .unset, .unset] [(.int (2 : Int32)), (.int (2 : Int32))]))
    refine Ends.pre (fun t k => XS.icmpNo X0.here hx rfl (hb hby at_32) rfl (teq (by decide)).2 k) ?_
    show Ends p e below _ (s₁.setTop (mkF m 35 #[.val (.int x0), .val (.int (2 : Int32)), .unset, .unset, .unset, .unset] []))
    obtain ⟨T10, X10, e10, st10⟩ := getS2 X0 hx hZ hown (host := "") (Or.inl (hw _ (List.mem_of_getElem? (i := 25) rfl))) Via.refl e0 S2 (g := (mkF m 35 #[.val (.int x0), .val (.int (2 : Int32)), .unset, .unset, .unset, .unset] [])) rfl (hb hby at_35)
    refine Ends.pre (fun t k => st10 _ k) ?_
    show Ends p e below _ (T10.setTop (mkF m 38 #[.val (.int x0), .val (.int (2 : Int32)), .unset, .unset, .unset, .unset] [(.ref m2)]))
    refine Ends.pre (fun t k => XS.astoreN X10.here hx rfl (hb hby at_38) rfl rfl (l' := #[.val (.int x0), .val (.int (2 : Int32)), .val (.ref m2), .unset, .unset, .unset]) rfl k) ?_
    show Ends p e below _ (T10.setTop (mkF m 39 #[.val (.int x0), .val (.int (2 : Int32)), .val (.ref m2), .unset, .unset, .unset] []))
    refine Ends.pre (fun t k => XS.goto X10.here hx rfl (pc0 := 39) (pc' := 58) rfl (hb hby at_39) (by decide) (by decide) k) ?_
    show Ends p e below _ (T10.setTop (mkF m 58 #[.val (.int x0), .val (.int (2 : Int32)), .val (.ref m2), .unset, .unset, .unset] []))
    refine Ends.pre (fun t k => XS.iloadN X10.here hx rfl (hb hby at_58) rfl k) ?_
    show Ends p e below _ (T10.setTop (mkF m 59 #[.val (.int x0), .val (.int (2 : Int32)), .val (.ref m2), .unset, .unset, .unset] [(.int (2 : Int32))]))
    refine Ends.pre (fun t k => XS.iconst X10.here hx rfl (hb hby at_59) k) ?_
    show Ends p e below _ (T10.setTop (mkF m 60 #[.val (.int x0), .val (.int (2 : Int32)), .val (.ref m2), .unset, .unset, .unset] [(.int (1 : Int32)), (.int (2 : Int32))]))
    refine Ends.pre (fun t k => XS.icmpNo X10.here hx rfl (hb hby at_60) rfl (feq (by decide)).1 k) ?_
    show Ends p e below _ (T10.setTop (mkF m 63 #[.val (.int x0), .val (.int (2 : Int32)), .val (.ref m2), .unset, .unset, .unset] []))
    refine Ends.pre (fun t k => XS.iloadN X10.here hx rfl (hb hby at_63) rfl k) ?_
    show Ends p e below _ (T10.setTop (mkF m 64 #[.val (.int x0), .val (.int (2 : Int32)), .val (.ref m2), .unset, .unset, .unset] [(.int (2 : Int32))]))
    refine Ends.pre (fun t k => XS.iconst X10.here hx rfl (hb hby at_64) k) ?_
    show Ends p e below _ (T10.setTop (mkF m 65 #[.val (.int x0), .val (.int (2 : Int32)), .val (.ref m2), .unset, .unset, .unset] [(.int (2 : Int32)), (.int (2 : Int32))]))
    refine Ends.pre (fun t k => XS.icmpNo X10.here hx rfl (hb hby at_65) rfl (teq (by decide)).2 k) ?_
    show Ends p e below _ (T10.setTop (mkF m 68 #[.val (.int x0), .val (.int (2 : Int32)), .val (.ref m2), .unset, .unset, .unset] []))
    refine Ends.pre (fun t k => XS.iconst X10.here hx rfl (hb hby at_68) k) ?_
    show Ends p e below _ (T10.setTop (mkF m 69 #[.val (.int x0), .val (.int (2 : Int32)), .val (.ref m2), .unset, .unset, .unset] [(.int (1 : Int32))]))
    refine Ends.pre (fun t k => XS.goto X10.here hx rfl (pc0 := 69) (pc' := 73) rfl (hb hby at_69) (by decide) (by decide) k) ?_
    show Ends p e below _ (T10.setTop (mkF m 73 #[.val (.int x0), .val (.int (2 : Int32)), .val (.ref m2), .unset, .unset, .unset] [(.int (1 : Int32))]))
    refine Ends.pre (fun t k => XS.istoreN X10.here hx rfl (hb hby at_73) rfl (l' := #[.val (.int x0), .val (.int (2 : Int32)), .val (.ref m2), .val (.int (1 : Int32)), .unset, .unset]) rfl k) ?_
    show Ends p e below _ (T10.setTop (mkF m 74 #[.val (.int x0), .val (.int (2 : Int32)), .val (.ref m2), .val (.int (1 : Int32)), .unset, .unset] []))
    refine Ends.pre (fun t k => XS.aloadN X10.here hx rfl (hb hby at_74) rfl rfl k) ?_
    show Ends p e below _ (T10.setTop (mkF m 75 #[.val (.int x0), .val (.int (2 : Int32)), .val (.ref m2), .val (.int (1 : Int32)), .unset, .unset] [(.ref m2)]))
    obtain ⟨cq11, kq11, q11a, q11b, q11c⟩ := isOf hZ e10 E2
    obtain ⟨_, _, ⟨T11, L11, k11, n11⟩, -, X11, ⟨Lc11, hQ11, l11, y11, z11⟩, st11⟩ := X10.virtualBack hx (y := (⟨"com/example/bare_ranker/bareranker/search/Model", "takesDelta", "()Z"⟩ : MethodName)) (z := (⟨"com/example/bare_ranker/bareranker/search/Model", "takesDelta", "()Z"⟩ : MethodName)) hown (mvT hZ (hw _ (List.mem_of_getElem? (i := 4) rfl))) (mvT hZ (hw _ (List.mem_of_getElem? (i := 5) rfl))) (notFace_of_selects (args := #[]) (mvT hZ (hw _ (List.mem_of_getElem? (i := 7) rfl)))) (mvT hZ (hw _ (List.mem_of_getElem? (i := 7) rfl))) (mvT hZ (hw _ (List.mem_of_getElem? (i := 6) rfl))) (by decide) (backOf (W := 0) (rm1 l Z a0 hw [] m2 m1 m2 h0 n0 Z0 S1 S2) hZ (hw _ (List.mem_of_getElem? (i := 8) rfl)) (hw _ (List.mem_of_getElem? (i := 2) rfl)) (by decide) (by decide)) q11a q11c (g := (mkF m 75 #[.val (.int x0), .val (.int (2 : Int32)), .val (.ref m2), .val (.int (1 : Int32)), .unset, .unset] [(.ref m2)])) rfl (by rw [hml]; rfl) (Steps.refl _) (argsL := []) (rest := []) (lenOf pd0_0 rfl) rfl (by show 2 * 0 + _ ≤ _; exact Nat.le_of_eq rfl) (hb hby at_75) (fun _ _ => ⟨rfl, e10, (show (0 : Nat) + (0 : Nat) ≤ _ from by decide), (show (0 : Nat) + (0 : Nat) ≤ _ from by decide)⟩)
    dsimp only [Pt.U, Pt.locs, Pt.cells, Pt.slots] at X11 l11 y11 z11 st11 hQ11
    subst l11 y11 z11
    obtain ⟨rfl, N11q, e11⟩ := hQ11
    have N11 := Fr.app N0 N11q
    refine Ends.pre (fun t k => st11.trans k) ?_
    show Ends p e below _ (T11.setTop (mkF m 78 #[.val (.int x0), .val (.int (2 : Int32)), .val (.ref m2), .val (.int (1 : Int32)), .unset, .unset] [(.int (if m2 = m1 then (1 : Int32) else if m2 = m2 then 1 else 0))]))
    rw [show (if m2 = m1 then (1 : Int32) else if m2 = m2 then 1 else 0) = 1 from (if_neg n21).trans (if_pos rfl)]
    show Ends p e below _ (T11.setTop (mkF m 78 #[.val (.int x0), .val (.int (2 : Int32)), .val (.ref m2), .val (.int (1 : Int32)), .unset, .unset] [(.int (1 : Int32))]))
    refine Ends.pre (fun t k => XS.istore X11.here hx rfl (hb hby at_78) rfl (l' := #[.val (.int x0), .val (.int (2 : Int32)), .val (.ref m2), .val (.int (1 : Int32)), .val (.int (1 : Int32)), .unset]) rfl k) ?_
    show Ends p e below _ (T11.setTop (mkF m 80 #[.val (.int x0), .val (.int (2 : Int32)), .val (.ref m2), .val (.int (1 : Int32)), .val (.int (1 : Int32)), .unset] []))
    refine Ends.pre (fun t k => XS.dconst0 X11.here hx rfl (hb hby at_80) rfl k) ?_
    show Ends p e below _ (T11.setTop (mkF m 81 #[.val (.int x0), .val (.int (2 : Int32)), .val (.ref m2), .val (.int (1 : Int32)), .val (.int (1 : Int32)), .unset] [(.double FP.dconst0)]))
    refine Ends.pre (fun t k => XS.aloadN X11.here hx rfl (hb hby at_81) rfl rfl k) ?_
    show Ends p e below _ (T11.setTop (mkF m 82 #[.val (.int x0), .val (.int (2 : Int32)), .val (.ref m2), .val (.int (1 : Int32)), .val (.int (1 : Int32)), .unset] [(.ref m2), (.double FP.dconst0)]))
    obtain ⟨cq12, kq12, q12a, q12b, q12c⟩ := isOf hZ e11 E2
    obtain ⟨_, _, ⟨T12, L12, k12, n12⟩, -, X12, ⟨Lc12, hQ12, l12, y12, z12⟩, st12⟩ := X11.virtualBack hx (y := (⟨"com/example/bare_ranker/bareranker/search/Model", "defaultDelta", "()D"⟩ : MethodName)) (z := (⟨"com/example/bare_ranker/bareranker/search/Model", "defaultDelta", "()D"⟩ : MethodName)) hown (mvT hZ (hw _ (List.mem_of_getElem? (i := 13) rfl))) (mvT hZ (hw _ (List.mem_of_getElem? (i := 14) rfl))) (notFace_of_selects (args := #[]) (mvT hZ (hw _ (List.mem_of_getElem? (i := 16) rfl)))) (mvT hZ (hw _ (List.mem_of_getElem? (i := 16) rfl))) (mvT hZ (hw _ (List.mem_of_getElem? (i := 15) rfl))) (by decide) (backOf (W := 2) (rm2 l Z a0 hw [] m2 (4607182418800017408 : UInt64) h0 n0 Z0 D2) hZ (hw _ (List.mem_of_getElem? (i := 17) rfl)) (hw _ (List.mem_of_getElem? (i := 2) rfl)) (by decide) (by decide)) q12a q12c (g := (mkF m 82 #[.val (.int x0), .val (.int (2 : Int32)), .val (.ref m2), .val (.int (1 : Int32)), .val (.int (1 : Int32)), .unset] [(.ref m2), (.double FP.dconst0)])) rfl (by rw [hml]; rfl) (Steps.refl _) (argsL := []) (rest := [(.double FP.dconst0)]) (lenOf pd0_1 rfl) rfl (by show 2 * 0 + _ ≤ _; exact Nat.le_of_eq rfl) (hb hby at_82) (fun _ _ => ⟨rfl, e11, (show (0 : Nat) + (0 : Nat) ≤ _ from by decide), (show (0 : Nat) + (0 : Nat) ≤ _ from by decide)⟩)
    dsimp only [Pt.U, Pt.locs, Pt.cells, Pt.slots] at X12 l12 y12 z12 st12 hQ12
    subst l12 y12 z12
    obtain ⟨rfl, N12q, e12⟩ := hQ12
    have N12 := Fr.app N11 N12q
    refine Ends.pre (fun t k => st12.trans k) ?_
    show Ends p e below _ (T12.setTop (mkF m 85 #[.val (.int x0), .val (.int (2 : Int32)), .val (.ref m2), .val (.int (1 : Int32)), .val (.int (1 : Int32)), .unset] [(.double (4607182418800017408 : UInt64)), (.double FP.dconst0)]))
    refine Ends.pre (fun t k => XS.dcmpS X12.here hx rfl (v := (-1 : Int32)) (hb hby at_85) rfl (by decide +kernel) k) ?_
    show Ends p e below _ (T12.setTop (mkF m 86 #[.val (.int x0), .val (.int (2 : Int32)), .val (.ref m2), .val (.int (1 : Int32)), .val (.int (1 : Int32)), .unset] [(.int (-1 : Int32))]))
    refine Ends.pre (fun t k => XS.ifNo X12.here hx rfl (hb hby at_86) rfl ((if0 _ _).trans (tlt (by decide)).2.1) k) ?_
    show Ends p e below _ (T12.setTop (mkF m 89 #[.val (.int x0), .val (.int (2 : Int32)), .val (.ref m2), .val (.int (1 : Int32)), .val (.int (1 : Int32)), .unset] []))
    refine Ends.pre (fun t k => XS.iconst X12.here hx rfl (hb hby at_89) k) ?_
    show Ends p e below _ (T12.setTop (mkF m 90 #[.val (.int x0), .val (.int (2 : Int32)), .val (.ref m2), .val (.int (1 : Int32)), .val (.int (1 : Int32)), .unset] [(.int (1 : Int32))]))
    refine Ends.pre (fun t k => XS.goto X12.here hx rfl (pc0 := 90) (pc' := 94) rfl (hb hby at_90) (by decide) (by decide) k) ?_
    show Ends p e below _ (T12.setTop (mkF m 94 #[.val (.int x0), .val (.int (2 : Int32)), .val (.ref m2), .val (.int (1 : Int32)), .val (.int (1 : Int32)), .unset] [(.int (1 : Int32))]))
    refine Ends.pre (fun t k => XS.istore X12.here hx rfl (hb hby at_94) rfl (l' := #[.val (.int x0), .val (.int (2 : Int32)), .val (.ref m2), .val (.int (1 : Int32)), .val (.int (1 : Int32)), .val (.int (1 : Int32))]) rfl k) ?_
    show Ends p e below _ (T12.setTop (mkF m 96 #[.val (.int x0), .val (.int (2 : Int32)), .val (.ref m2), .val (.int (1 : Int32)), .val (.int (1 : Int32)), .val (.int (1 : Int32))] []))
    refine Ends.pre (fun t k => XS.iload X12.here hx rfl (hb hby at_96) rfl k) ?_
    show Ends p e below _ (T12.setTop (mkF m 98 #[.val (.int x0), .val (.int (2 : Int32)), .val (.ref m2), .val (.int (1 : Int32)), .val (.int (1 : Int32)), .val (.int (1 : Int32))] [(.int (1 : Int32))]))
    refine Ends.pre (fun t k => XS.iloadN X12.here hx rfl (hb hby at_98) rfl k) ?_
    show Ends p e below _ (T12.setTop (mkF m 99 #[.val (.int x0), .val (.int (2 : Int32)), .val (.ref m2), .val (.int (1 : Int32)), .val (.int (1 : Int32)), .val (.int (1 : Int32))] [(.int (1 : Int32)), (.int (1 : Int32))]))
    refine Ends.pre (fun t k => XS.icmpNo X12.here hx rfl (hb hby at_99) rfl (teq (by decide)).2 k) ?_
    show Ends p e below _ (T12.setTop (mkF m 102 #[.val (.int x0), .val (.int (2 : Int32)), .val (.ref m2), .val (.int (1 : Int32)), .val (.int (1 : Int32)), .val (.int (1 : Int32))] []))
    refine Ends.pre (fun t k => XS.iload X12.here hx rfl (hb hby at_102) rfl k) ?_
    show Ends p e below _ (T12.setTop (mkF m 104 #[.val (.int x0), .val (.int (2 : Int32)), .val (.ref m2), .val (.int (1 : Int32)), .val (.int (1 : Int32)), .val (.int (1 : Int32))] [(.int (1 : Int32))]))
    refine Ends.pre (fun t k => XS.iload X12.here hx rfl (hb hby at_104) rfl k) ?_
    show Ends p e below _ (T12.setTop (mkF m 106 #[.val (.int x0), .val (.int (2 : Int32)), .val (.ref m2), .val (.int (1 : Int32)), .val (.int (1 : Int32)), .val (.int (1 : Int32))] [(.int (1 : Int32)), (.int (1 : Int32))]))
    refine Ends.pre (fun t k => XS.icmpNo X12.here hx rfl (hb hby at_106) rfl (teq (by decide)).2 k) ?_
    show Ends p e below _ (T12.setTop (mkF m 109 #[.val (.int x0), .val (.int (2 : Int32)), .val (.ref m2), .val (.int (1 : Int32)), .val (.int (1 : Int32)), .val (.int (1 : Int32))] []))
    refine Ends.pre (fun t k => XS.iconst X12.here hx rfl (hb hby at_109) k) ?_
    show Ends p e below _ (T12.setTop (mkF m 110 #[.val (.int x0), .val (.int (2 : Int32)), .val (.ref m2), .val (.int (1 : Int32)), .val (.int (1 : Int32)), .val (.int (1 : Int32))] [(.int (1 : Int32))]))
    refine Ends.pre (fun t k => XS.goto X12.here hx rfl (pc0 := 110) (pc' := 114) rfl (hb hby at_110) (by decide) (by decide) k) ?_
    show Ends p e below _ (T12.setTop (mkF m 114 #[.val (.int x0), .val (.int (2 : Int32)), .val (.ref m2), .val (.int (1 : Int32)), .val (.int (1 : Int32)), .val (.int (1 : Int32))] [(.int (1 : Int32))]))
    obtain ⟨fs, hr, hrun, hended, hW, hsame⟩ := X12.leave (v := some (.int (1 : Int32))) (fun h => by rw [Bd.returns] at h; cases h)
    refine ⟨_, _, retN X12 hx (t := .boolean) Bd.returns (by simp) (hb hby at_114) hr, hrun, hended, _, _, rfl, ?_, ⟨_, rfl⟩, hW, hsame.mono (by decide) (by decide)⟩
    show Q0 Z x0 m0 m1 m2 m3 m4 h0 n0 _ T12.heap _
    rw [e12]
    exact ⟨rfl, N12⟩
  ·
    show Ends p e below _ (s₁.setTop (mkF m 6 #[.val (.int x0), .unset, .unset, .unset, .unset, .unset] [(.int (3 : Int32))]))
    refine Ends.pre (fun t k => XS.istoreN X0.here hx rfl (hb hby at_6) rfl (l' := #[.val (.int x0), .val (.int (3 : Int32)), .unset, .unset, .unset, .unset]) rfl k) ?_
    show Ends p e below _ (s₁.setTop (mkF m 7 #[.val (.int x0), .val (.int (3 : Int32)), .unset, .unset, .unset, .unset] []))
    refine Ends.pre (fun t k => XS.iloadN X0.here hx rfl (hb hby at_7) rfl k) ?_
    show Ends p e below _ (s₁.setTop (mkF m 8 #[.val (.int x0), .val (.int (3 : Int32)), .unset, .unset, .unset, .unset] [(.int (3 : Int32))]))
    refine Ends.pre (fun t k => XS.ifYes X0.here hx rfl (pc0 := 8) (pc' := 18) rfl (hb hby at_8) rfl ((if0 _ _).trans (feq (by decide)).2) (by decide) (by decide) k) ?_
    show Ends p e below _ (s₁.setTop (mkF m 18 #[.val (.int x0), .val (.int (3 : Int32)), .unset, .unset, .unset, .unset] []))
    refine Ends.pre (fun t k => XS.iloadN X0.here hx rfl (hb hby at_18) rfl k) ?_
    show Ends p e below _ (s₁.setTop (mkF m 19 #[.val (.int x0), .val (.int (3 : Int32)), .unset, .unset, .unset, .unset] [(.int (3 : Int32))]))
    refine Ends.pre (fun t k => XS.iconst X0.here hx rfl (hb hby at_19) k) ?_
    show Ends p e below _ (s₁.setTop (mkF m 20 #[.val (.int x0), .val (.int (3 : Int32)), .unset, .unset, .unset, .unset] [(.int (1 : Int32)), (.int (3 : Int32))]))
    refine Ends.pre (fun t k => XS.icmpYes X0.here hx rfl (pc0 := 20) (pc' := 30) rfl (hb hby at_20) rfl (feq (by decide)).2 (by decide) (by decide) k) ?_
    show Ends p e below _ (s₁.setTop (mkF m 30 #[.val (.int x0), .val (.int (3 : Int32)), .unset, .unset, .unset, .unset] []))
    refine Ends.pre (fun t k => XS.iloadN X0.here hx rfl (hb hby at_30) rfl k) ?_
    show Ends p e below _ (s₁.setTop (mkF m 31 #[.val (.int x0), .val (.int (3 : Int32)), .unset, .unset, .unset, .unset] [(.int (3 : Int32))]))
    refine Ends.pre (fun t k => XS.iconst X0.here hx rfl (hb hby at_31) k) ?_
    show Ends p e below _ (s₁.setTop (mkF m 32 #[.val (.int x0), .val (.int (3 : Int32)), .unset, .unset, .unset, .unset] [(.int (2 : Int32)), (.int (3 : Int32))]))
    refine Ends.pre (fun t k => XS.icmpYes X0.here hx rfl (pc0 := 32) (pc' := 42) rfl (hb hby at_32) rfl (feq (by decide)).2 (by decide) (by decide) k) ?_
    show Ends p e below _ (s₁.setTop (mkF m 42 #[.val (.int x0), .val (.int (3 : Int32)), .unset, .unset, .unset, .unset] []))
    refine Ends.pre (fun t k => XS.iloadN X0.here hx rfl (hb hby at_42) rfl k) ?_
    show Ends p e below _ (s₁.setTop (mkF m 43 #[.val (.int x0), .val (.int (3 : Int32)), .unset, .unset, .unset, .unset] [(.int (3 : Int32))]))
    refine Ends.pre (fun t k => XS.iconst X0.here hx rfl (hb hby at_43) k) ?_
    show Ends p e below _ (s₁.setTop (mkF m 44 #[.val (.int x0), .val (.int (3 : Int32)), .unset, .unset, .unset, .unset] [(.int (3 : Int32)), (.int (3 : Int32))]))
    refine Ends.pre (fun t k => XS.icmpNo X0.here hx rfl (hb hby at_44) rfl (teq (by decide)).2 k) ?_
    show Ends p e below _ (s₁.setTop (mkF m 47 #[.val (.int x0), .val (.int (3 : Int32)), .unset, .unset, .unset, .unset] []))
    obtain ⟨T13, X13, e13, st13⟩ := getS2 X0 hx hZ hown (host := "") (Or.inl (hw _ (List.mem_of_getElem? (i := 20) rfl))) Via.refl e0 S3 (g := (mkF m 47 #[.val (.int x0), .val (.int (3 : Int32)), .unset, .unset, .unset, .unset] [])) rfl (hb hby at_47)
    refine Ends.pre (fun t k => st13 _ k) ?_
    show Ends p e below _ (T13.setTop (mkF m 50 #[.val (.int x0), .val (.int (3 : Int32)), .unset, .unset, .unset, .unset] [(.ref m3)]))
    refine Ends.pre (fun t k => XS.astoreN X13.here hx rfl (hb hby at_50) rfl rfl (l' := #[.val (.int x0), .val (.int (3 : Int32)), .val (.ref m3), .unset, .unset, .unset]) rfl k) ?_
    show Ends p e below _ (T13.setTop (mkF m 51 #[.val (.int x0), .val (.int (3 : Int32)), .val (.ref m3), .unset, .unset, .unset] []))
    refine Ends.pre (fun t k => XS.goto X13.here hx rfl (pc0 := 51) (pc' := 58) rfl (hb hby at_51) (by decide) (by decide) k) ?_
    show Ends p e below _ (T13.setTop (mkF m 58 #[.val (.int x0), .val (.int (3 : Int32)), .val (.ref m3), .unset, .unset, .unset] []))
    refine Ends.pre (fun t k => XS.iloadN X13.here hx rfl (hb hby at_58) rfl k) ?_
    show Ends p e below _ (T13.setTop (mkF m 59 #[.val (.int x0), .val (.int (3 : Int32)), .val (.ref m3), .unset, .unset, .unset] [(.int (3 : Int32))]))
    refine Ends.pre (fun t k => XS.iconst X13.here hx rfl (hb hby at_59) k) ?_
    show Ends p e below _ (T13.setTop (mkF m 60 #[.val (.int x0), .val (.int (3 : Int32)), .val (.ref m3), .unset, .unset, .unset] [(.int (1 : Int32)), (.int (3 : Int32))]))
    refine Ends.pre (fun t k => XS.icmpNo X13.here hx rfl (hb hby at_60) rfl (feq (by decide)).1 k) ?_
    show Ends p e below _ (T13.setTop (mkF m 63 #[.val (.int x0), .val (.int (3 : Int32)), .val (.ref m3), .unset, .unset, .unset] []))
    refine Ends.pre (fun t k => XS.iloadN X13.here hx rfl (hb hby at_63) rfl k) ?_
    show Ends p e below _ (T13.setTop (mkF m 64 #[.val (.int x0), .val (.int (3 : Int32)), .val (.ref m3), .unset, .unset, .unset] [(.int (3 : Int32))]))
    refine Ends.pre (fun t k => XS.iconst X13.here hx rfl (hb hby at_64) k) ?_
    show Ends p e below _ (T13.setTop (mkF m 65 #[.val (.int x0), .val (.int (3 : Int32)), .val (.ref m3), .unset, .unset, .unset] [(.int (2 : Int32)), (.int (3 : Int32))]))
    refine Ends.pre (fun t k => XS.icmpYes X13.here hx rfl (pc0 := 65) (pc' := 72) rfl (hb hby at_65) rfl (feq (by decide)).2 (by decide) (by decide) k) ?_
    show Ends p e below _ (T13.setTop (mkF m 72 #[.val (.int x0), .val (.int (3 : Int32)), .val (.ref m3), .unset, .unset, .unset] []))
    refine Ends.pre (fun t k => XS.iconst X13.here hx rfl (hb hby at_72) k) ?_
    show Ends p e below _ (T13.setTop (mkF m 73 #[.val (.int x0), .val (.int (3 : Int32)), .val (.ref m3), .unset, .unset, .unset] [(.int (0 : Int32))]))
    refine Ends.pre (fun t k => XS.istoreN X13.here hx rfl (hb hby at_73) rfl (l' := #[.val (.int x0), .val (.int (3 : Int32)), .val (.ref m3), .val (.int (0 : Int32)), .unset, .unset]) rfl k) ?_
    show Ends p e below _ (T13.setTop (mkF m 74 #[.val (.int x0), .val (.int (3 : Int32)), .val (.ref m3), .val (.int (0 : Int32)), .unset, .unset] []))
    refine Ends.pre (fun t k => XS.aloadN X13.here hx rfl (hb hby at_74) rfl rfl k) ?_
    show Ends p e below _ (T13.setTop (mkF m 75 #[.val (.int x0), .val (.int (3 : Int32)), .val (.ref m3), .val (.int (0 : Int32)), .unset, .unset] [(.ref m3)]))
    obtain ⟨cq14, kq14, q14a, q14b, q14c⟩ := isOf hZ e13 E3
    obtain ⟨_, _, ⟨T14, L14, k14, n14⟩, -, X14, ⟨Lc14, hQ14, l14, y14, z14⟩, st14⟩ := X13.virtualBack hx (y := (⟨"com/example/bare_ranker/bareranker/search/Model", "takesDelta", "()Z"⟩ : MethodName)) (z := (⟨"com/example/bare_ranker/bareranker/search/Model", "takesDelta", "()Z"⟩ : MethodName)) hown (mvT hZ (hw _ (List.mem_of_getElem? (i := 4) rfl))) (mvT hZ (hw _ (List.mem_of_getElem? (i := 5) rfl))) (notFace_of_selects (args := #[]) (mvT hZ (hw _ (List.mem_of_getElem? (i := 7) rfl)))) (mvT hZ (hw _ (List.mem_of_getElem? (i := 7) rfl))) (mvT hZ (hw _ (List.mem_of_getElem? (i := 6) rfl))) (by decide) (backOf (W := 0) (rm1 l Z a0 hw [] m3 m1 m2 h0 n0 Z0 S1 S2) hZ (hw _ (List.mem_of_getElem? (i := 8) rfl)) (hw _ (List.mem_of_getElem? (i := 2) rfl)) (by decide) (by decide)) q14a q14c (g := (mkF m 75 #[.val (.int x0), .val (.int (3 : Int32)), .val (.ref m3), .val (.int (0 : Int32)), .unset, .unset] [(.ref m3)])) rfl (by rw [hml]; rfl) (Steps.refl _) (argsL := []) (rest := []) (lenOf pd0_0 rfl) rfl (by show 2 * 0 + _ ≤ _; exact Nat.le_of_eq rfl) (hb hby at_75) (fun _ _ => ⟨rfl, e13, (show (0 : Nat) + (0 : Nat) ≤ _ from by decide), (show (0 : Nat) + (0 : Nat) ≤ _ from by decide)⟩)
    dsimp only [Pt.U, Pt.locs, Pt.cells, Pt.slots] at X14 l14 y14 z14 st14 hQ14
    subst l14 y14 z14
    obtain ⟨rfl, N14q, e14⟩ := hQ14
    have N14 := Fr.app N0 N14q
    refine Ends.pre (fun t k => st14.trans k) ?_
    show Ends p e below _ (T14.setTop (mkF m 78 #[.val (.int x0), .val (.int (3 : Int32)), .val (.ref m3), .val (.int (0 : Int32)), .unset, .unset] [(.int (if m3 = m1 then (1 : Int32) else if m3 = m2 then 1 else 0))]))
    rw [show (if m3 = m1 then (1 : Int32) else if m3 = m2 then 1 else 0) = 0 from (if_neg n31).trans (if_neg n32)]
    show Ends p e below _ (T14.setTop (mkF m 78 #[.val (.int x0), .val (.int (3 : Int32)), .val (.ref m3), .val (.int (0 : Int32)), .unset, .unset] [(.int (0 : Int32))]))
    refine Ends.pre (fun t k => XS.istore X14.here hx rfl (hb hby at_78) rfl (l' := #[.val (.int x0), .val (.int (3 : Int32)), .val (.ref m3), .val (.int (0 : Int32)), .val (.int (0 : Int32)), .unset]) rfl k) ?_
    show Ends p e below _ (T14.setTop (mkF m 80 #[.val (.int x0), .val (.int (3 : Int32)), .val (.ref m3), .val (.int (0 : Int32)), .val (.int (0 : Int32)), .unset] []))
    refine Ends.pre (fun t k => XS.dconst0 X14.here hx rfl (hb hby at_80) rfl k) ?_
    show Ends p e below _ (T14.setTop (mkF m 81 #[.val (.int x0), .val (.int (3 : Int32)), .val (.ref m3), .val (.int (0 : Int32)), .val (.int (0 : Int32)), .unset] [(.double FP.dconst0)]))
    refine Ends.pre (fun t k => XS.aloadN X14.here hx rfl (hb hby at_81) rfl rfl k) ?_
    show Ends p e below _ (T14.setTop (mkF m 82 #[.val (.int x0), .val (.int (3 : Int32)), .val (.ref m3), .val (.int (0 : Int32)), .val (.int (0 : Int32)), .unset] [(.ref m3), (.double FP.dconst0)]))
    obtain ⟨cq15, kq15, q15a, q15b, q15c⟩ := isOf hZ e14 E3
    obtain ⟨_, _, ⟨T15, L15, k15, n15⟩, -, X15, ⟨Lc15, hQ15, l15, y15, z15⟩, st15⟩ := X14.virtualBack hx (y := (⟨"com/example/bare_ranker/bareranker/search/Model", "defaultDelta", "()D"⟩ : MethodName)) (z := (⟨"com/example/bare_ranker/bareranker/search/Model", "defaultDelta", "()D"⟩ : MethodName)) hown (mvT hZ (hw _ (List.mem_of_getElem? (i := 13) rfl))) (mvT hZ (hw _ (List.mem_of_getElem? (i := 14) rfl))) (notFace_of_selects (args := #[]) (mvT hZ (hw _ (List.mem_of_getElem? (i := 16) rfl)))) (mvT hZ (hw _ (List.mem_of_getElem? (i := 16) rfl))) (mvT hZ (hw _ (List.mem_of_getElem? (i := 15) rfl))) (by decide) (backOf (W := 2) (rm2 l Z a0 hw [] m3 (0 : UInt64) h0 n0 Z0 D3) hZ (hw _ (List.mem_of_getElem? (i := 17) rfl)) (hw _ (List.mem_of_getElem? (i := 2) rfl)) (by decide) (by decide)) q15a q15c (g := (mkF m 82 #[.val (.int x0), .val (.int (3 : Int32)), .val (.ref m3), .val (.int (0 : Int32)), .val (.int (0 : Int32)), .unset] [(.ref m3), (.double FP.dconst0)])) rfl (by rw [hml]; rfl) (Steps.refl _) (argsL := []) (rest := [(.double FP.dconst0)]) (lenOf pd0_1 rfl) rfl (by show 2 * 0 + _ ≤ _; exact Nat.le_of_eq rfl) (hb hby at_82) (fun _ _ => ⟨rfl, e14, (show (0 : Nat) + (0 : Nat) ≤ _ from by decide), (show (0 : Nat) + (0 : Nat) ≤ _ from by decide)⟩)
    dsimp only [Pt.U, Pt.locs, Pt.cells, Pt.slots] at X15 l15 y15 z15 st15 hQ15
    subst l15 y15 z15
    obtain ⟨rfl, N15q, e15⟩ := hQ15
    have N15 := Fr.app N14 N15q
    refine Ends.pre (fun t k => st15.trans k) ?_
    show Ends p e below _ (T15.setTop (mkF m 85 #[.val (.int x0), .val (.int (3 : Int32)), .val (.ref m3), .val (.int (0 : Int32)), .val (.int (0 : Int32)), .unset] [(.double (0 : UInt64)), (.double FP.dconst0)]))
    refine Ends.pre (fun t k => XS.dcmpS X15.here hx rfl (v := (0 : Int32)) (hb hby at_85) rfl (by decide +kernel) k) ?_
    show Ends p e below _ (T15.setTop (mkF m 86 #[.val (.int x0), .val (.int (3 : Int32)), .val (.ref m3), .val (.int (0 : Int32)), .val (.int (0 : Int32)), .unset] [(.int (0 : Int32))]))
    refine Ends.pre (fun t k => XS.ifYes X15.here hx rfl (pc0 := 86) (pc' := 93) rfl (hb hby at_86) rfl ((if0 _ _).trans (flt (by decide)).2.1) (by decide) (by decide) k) ?_
    show Ends p e below _ (T15.setTop (mkF m 93 #[.val (.int x0), .val (.int (3 : Int32)), .val (.ref m3), .val (.int (0 : Int32)), .val (.int (0 : Int32)), .unset] []))
    refine Ends.pre (fun t k => XS.iconst X15.here hx rfl (hb hby at_93) k) ?_
    show Ends p e below _ (T15.setTop (mkF m 94 #[.val (.int x0), .val (.int (3 : Int32)), .val (.ref m3), .val (.int (0 : Int32)), .val (.int (0 : Int32)), .unset] [(.int (0 : Int32))]))
    refine Ends.pre (fun t k => XS.istore X15.here hx rfl (hb hby at_94) rfl (l' := #[.val (.int x0), .val (.int (3 : Int32)), .val (.ref m3), .val (.int (0 : Int32)), .val (.int (0 : Int32)), .val (.int (0 : Int32))]) rfl k) ?_
    show Ends p e below _ (T15.setTop (mkF m 96 #[.val (.int x0), .val (.int (3 : Int32)), .val (.ref m3), .val (.int (0 : Int32)), .val (.int (0 : Int32)), .val (.int (0 : Int32))] []))
    refine Ends.pre (fun t k => XS.iload X15.here hx rfl (hb hby at_96) rfl k) ?_
    show Ends p e below _ (T15.setTop (mkF m 98 #[.val (.int x0), .val (.int (3 : Int32)), .val (.ref m3), .val (.int (0 : Int32)), .val (.int (0 : Int32)), .val (.int (0 : Int32))] [(.int (0 : Int32))]))
    refine Ends.pre (fun t k => XS.iloadN X15.here hx rfl (hb hby at_98) rfl k) ?_
    show Ends p e below _ (T15.setTop (mkF m 99 #[.val (.int x0), .val (.int (3 : Int32)), .val (.ref m3), .val (.int (0 : Int32)), .val (.int (0 : Int32)), .val (.int (0 : Int32))] [(.int (0 : Int32)), (.int (0 : Int32))]))
    refine Ends.pre (fun t k => XS.icmpNo X15.here hx rfl (hb hby at_99) rfl (teq (by decide)).2 k) ?_
    show Ends p e below _ (T15.setTop (mkF m 102 #[.val (.int x0), .val (.int (3 : Int32)), .val (.ref m3), .val (.int (0 : Int32)), .val (.int (0 : Int32)), .val (.int (0 : Int32))] []))
    refine Ends.pre (fun t k => XS.iload X15.here hx rfl (hb hby at_102) rfl k) ?_
    show Ends p e below _ (T15.setTop (mkF m 104 #[.val (.int x0), .val (.int (3 : Int32)), .val (.ref m3), .val (.int (0 : Int32)), .val (.int (0 : Int32)), .val (.int (0 : Int32))] [(.int (0 : Int32))]))
    refine Ends.pre (fun t k => XS.iload X15.here hx rfl (hb hby at_104) rfl k) ?_
    show Ends p e below _ (T15.setTop (mkF m 106 #[.val (.int x0), .val (.int (3 : Int32)), .val (.ref m3), .val (.int (0 : Int32)), .val (.int (0 : Int32)), .val (.int (0 : Int32))] [(.int (0 : Int32)), (.int (0 : Int32))]))
    refine Ends.pre (fun t k => XS.icmpNo X15.here hx rfl (hb hby at_106) rfl (teq (by decide)).2 k) ?_
    show Ends p e below _ (T15.setTop (mkF m 109 #[.val (.int x0), .val (.int (3 : Int32)), .val (.ref m3), .val (.int (0 : Int32)), .val (.int (0 : Int32)), .val (.int (0 : Int32))] []))
    refine Ends.pre (fun t k => XS.iconst X15.here hx rfl (hb hby at_109) k) ?_
    show Ends p e below _ (T15.setTop (mkF m 110 #[.val (.int x0), .val (.int (3 : Int32)), .val (.ref m3), .val (.int (0 : Int32)), .val (.int (0 : Int32)), .val (.int (0 : Int32))] [(.int (1 : Int32))]))
    refine Ends.pre (fun t k => XS.goto X15.here hx rfl (pc0 := 110) (pc' := 114) rfl (hb hby at_110) (by decide) (by decide) k) ?_
    show Ends p e below _ (T15.setTop (mkF m 114 #[.val (.int x0), .val (.int (3 : Int32)), .val (.ref m3), .val (.int (0 : Int32)), .val (.int (0 : Int32)), .val (.int (0 : Int32))] [(.int (1 : Int32))]))
    obtain ⟨fs, hr, hrun, hended, hW, hsame⟩ := X15.leave (v := some (.int (1 : Int32))) (fun h => by rw [Bd.returns] at h; cases h)
    refine ⟨_, _, retN X15 hx (t := .boolean) Bd.returns (by simp) (hb hby at_114) hr, hrun, hended, _, _, rfl, ?_, ⟨_, rfl⟩, hW, hsame.mono (by decide) (by decide)⟩
    show Q0 Z x0 m0 m1 m2 m3 m4 h0 n0 _ T15.heap _
    rw [e15]
    exact ⟨rfl, N15⟩
  ·
    show Ends p e below _ (s₁.setTop (mkF m 6 #[.val (.int x0), .unset, .unset, .unset, .unset, .unset] [(.int (4 : Int32))]))
    refine Ends.pre (fun t k => XS.istoreN X0.here hx rfl (hb hby at_6) rfl (l' := #[.val (.int x0), .val (.int (4 : Int32)), .unset, .unset, .unset, .unset]) rfl k) ?_
    show Ends p e below _ (s₁.setTop (mkF m 7 #[.val (.int x0), .val (.int (4 : Int32)), .unset, .unset, .unset, .unset] []))
    refine Ends.pre (fun t k => XS.iloadN X0.here hx rfl (hb hby at_7) rfl k) ?_
    show Ends p e below _ (s₁.setTop (mkF m 8 #[.val (.int x0), .val (.int (4 : Int32)), .unset, .unset, .unset, .unset] [(.int (4 : Int32))]))
    refine Ends.pre (fun t k => XS.ifYes X0.here hx rfl (pc0 := 8) (pc' := 18) rfl (hb hby at_8) rfl ((if0 _ _).trans (feq (by decide)).2) (by decide) (by decide) k) ?_
    show Ends p e below _ (s₁.setTop (mkF m 18 #[.val (.int x0), .val (.int (4 : Int32)), .unset, .unset, .unset, .unset] []))
    refine Ends.pre (fun t k => XS.iloadN X0.here hx rfl (hb hby at_18) rfl k) ?_
    show Ends p e below _ (s₁.setTop (mkF m 19 #[.val (.int x0), .val (.int (4 : Int32)), .unset, .unset, .unset, .unset] [(.int (4 : Int32))]))
    refine Ends.pre (fun t k => XS.iconst X0.here hx rfl (hb hby at_19) k) ?_
    show Ends p e below _ (s₁.setTop (mkF m 20 #[.val (.int x0), .val (.int (4 : Int32)), .unset, .unset, .unset, .unset] [(.int (1 : Int32)), (.int (4 : Int32))]))
    refine Ends.pre (fun t k => XS.icmpYes X0.here hx rfl (pc0 := 20) (pc' := 30) rfl (hb hby at_20) rfl (feq (by decide)).2 (by decide) (by decide) k) ?_
    show Ends p e below _ (s₁.setTop (mkF m 30 #[.val (.int x0), .val (.int (4 : Int32)), .unset, .unset, .unset, .unset] []))
    refine Ends.pre (fun t k => XS.iloadN X0.here hx rfl (hb hby at_30) rfl k) ?_
    show Ends p e below _ (s₁.setTop (mkF m 31 #[.val (.int x0), .val (.int (4 : Int32)), .unset, .unset, .unset, .unset] [(.int (4 : Int32))]))
    refine Ends.pre (fun t k => XS.iconst X0.here hx rfl (hb hby at_31) k) ?_
    show Ends p e below _ (s₁.setTop (mkF m 32 #[.val (.int x0), .val (.int (4 : Int32)), .unset, .unset, .unset, .unset] [(.int (2 : Int32)), (.int (4 : Int32))]))
    refine Ends.pre (fun t k => XS.icmpYes X0.here hx rfl (pc0 := 32) (pc' := 42) rfl (hb hby at_32) rfl (feq (by decide)).2 (by decide) (by decide) k) ?_
    show Ends p e below _ (s₁.setTop (mkF m 42 #[.val (.int x0), .val (.int (4 : Int32)), .unset, .unset, .unset, .unset] []))
    refine Ends.pre (fun t k => XS.iloadN X0.here hx rfl (hb hby at_42) rfl k) ?_
    show Ends p e below _ (s₁.setTop (mkF m 43 #[.val (.int x0), .val (.int (4 : Int32)), .unset, .unset, .unset, .unset] [(.int (4 : Int32))]))
    refine Ends.pre (fun t k => XS.iconst X0.here hx rfl (hb hby at_43) k) ?_
    show Ends p e below _ (s₁.setTop (mkF m 44 #[.val (.int x0), .val (.int (4 : Int32)), .unset, .unset, .unset, .unset] [(.int (3 : Int32)), (.int (4 : Int32))]))
    refine Ends.pre (fun t k => XS.icmpYes X0.here hx rfl (pc0 := 44) (pc' := 54) rfl (hb hby at_44) rfl (feq (by decide)).2 (by decide) (by decide) k) ?_
    show Ends p e below _ (s₁.setTop (mkF m 54 #[.val (.int x0), .val (.int (4 : Int32)), .unset, .unset, .unset, .unset] []))
    obtain ⟨T16, X16, e16, st16⟩ := getS2 X0 hx hZ hown (host := "") (Or.inl (hw _ (List.mem_of_getElem? (i := 23) rfl))) Via.refl e0 S4 (g := (mkF m 54 #[.val (.int x0), .val (.int (4 : Int32)), .unset, .unset, .unset, .unset] [])) rfl (hb hby at_54)
    refine Ends.pre (fun t k => st16 _ k) ?_
    show Ends p e below _ (T16.setTop (mkF m 57 #[.val (.int x0), .val (.int (4 : Int32)), .unset, .unset, .unset, .unset] [(.ref m4)]))
    refine Ends.pre (fun t k => XS.astoreN X16.here hx rfl (hb hby at_57) rfl rfl (l' := #[.val (.int x0), .val (.int (4 : Int32)), .val (.ref m4), .unset, .unset, .unset]) rfl k) ?_
    show Ends p e below _ (T16.setTop (mkF m 58 #[.val (.int x0), .val (.int (4 : Int32)), .val (.ref m4), .unset, .unset, .unset] []))
    refine Ends.pre (fun t k => XS.iloadN X16.here hx rfl (hb hby at_58) rfl k) ?_
    show Ends p e below _ (T16.setTop (mkF m 59 #[.val (.int x0), .val (.int (4 : Int32)), .val (.ref m4), .unset, .unset, .unset] [(.int (4 : Int32))]))
    refine Ends.pre (fun t k => XS.iconst X16.here hx rfl (hb hby at_59) k) ?_
    show Ends p e below _ (T16.setTop (mkF m 60 #[.val (.int x0), .val (.int (4 : Int32)), .val (.ref m4), .unset, .unset, .unset] [(.int (1 : Int32)), (.int (4 : Int32))]))
    refine Ends.pre (fun t k => XS.icmpNo X16.here hx rfl (hb hby at_60) rfl (feq (by decide)).1 k) ?_
    show Ends p e below _ (T16.setTop (mkF m 63 #[.val (.int x0), .val (.int (4 : Int32)), .val (.ref m4), .unset, .unset, .unset] []))
    refine Ends.pre (fun t k => XS.iloadN X16.here hx rfl (hb hby at_63) rfl k) ?_
    show Ends p e below _ (T16.setTop (mkF m 64 #[.val (.int x0), .val (.int (4 : Int32)), .val (.ref m4), .unset, .unset, .unset] [(.int (4 : Int32))]))
    refine Ends.pre (fun t k => XS.iconst X16.here hx rfl (hb hby at_64) k) ?_
    show Ends p e below _ (T16.setTop (mkF m 65 #[.val (.int x0), .val (.int (4 : Int32)), .val (.ref m4), .unset, .unset, .unset] [(.int (2 : Int32)), (.int (4 : Int32))]))
    refine Ends.pre (fun t k => XS.icmpYes X16.here hx rfl (pc0 := 65) (pc' := 72) rfl (hb hby at_65) rfl (feq (by decide)).2 (by decide) (by decide) k) ?_
    show Ends p e below _ (T16.setTop (mkF m 72 #[.val (.int x0), .val (.int (4 : Int32)), .val (.ref m4), .unset, .unset, .unset] []))
    refine Ends.pre (fun t k => XS.iconst X16.here hx rfl (hb hby at_72) k) ?_
    show Ends p e below _ (T16.setTop (mkF m 73 #[.val (.int x0), .val (.int (4 : Int32)), .val (.ref m4), .unset, .unset, .unset] [(.int (0 : Int32))]))
    refine Ends.pre (fun t k => XS.istoreN X16.here hx rfl (hb hby at_73) rfl (l' := #[.val (.int x0), .val (.int (4 : Int32)), .val (.ref m4), .val (.int (0 : Int32)), .unset, .unset]) rfl k) ?_
    show Ends p e below _ (T16.setTop (mkF m 74 #[.val (.int x0), .val (.int (4 : Int32)), .val (.ref m4), .val (.int (0 : Int32)), .unset, .unset] []))
    refine Ends.pre (fun t k => XS.aloadN X16.here hx rfl (hb hby at_74) rfl rfl k) ?_
    show Ends p e below _ (T16.setTop (mkF m 75 #[.val (.int x0), .val (.int (4 : Int32)), .val (.ref m4), .val (.int (0 : Int32)), .unset, .unset] [(.ref m4)]))
    obtain ⟨cq17, kq17, q17a, q17b, q17c⟩ := isOf hZ e16 E4
    obtain ⟨_, _, ⟨T17, L17, k17, n17⟩, -, X17, ⟨Lc17, hQ17, l17, y17, z17⟩, st17⟩ := X16.virtualBack hx (y := (⟨"com/example/bare_ranker/bareranker/search/Model", "takesDelta", "()Z"⟩ : MethodName)) (z := (⟨"com/example/bare_ranker/bareranker/search/Model", "takesDelta", "()Z"⟩ : MethodName)) hown (mvT hZ (hw _ (List.mem_of_getElem? (i := 4) rfl))) (mvT hZ (hw _ (List.mem_of_getElem? (i := 5) rfl))) (notFace_of_selects (args := #[]) (mvT hZ (hw _ (List.mem_of_getElem? (i := 7) rfl)))) (mvT hZ (hw _ (List.mem_of_getElem? (i := 7) rfl))) (mvT hZ (hw _ (List.mem_of_getElem? (i := 6) rfl))) (by decide) (backOf (W := 0) (rm1 l Z a0 hw [] m4 m1 m2 h0 n0 Z0 S1 S2) hZ (hw _ (List.mem_of_getElem? (i := 8) rfl)) (hw _ (List.mem_of_getElem? (i := 2) rfl)) (by decide) (by decide)) q17a q17c (g := (mkF m 75 #[.val (.int x0), .val (.int (4 : Int32)), .val (.ref m4), .val (.int (0 : Int32)), .unset, .unset] [(.ref m4)])) rfl (by rw [hml]; rfl) (Steps.refl _) (argsL := []) (rest := []) (lenOf pd0_0 rfl) rfl (by show 2 * 0 + _ ≤ _; exact Nat.le_of_eq rfl) (hb hby at_75) (fun _ _ => ⟨rfl, e16, (show (0 : Nat) + (0 : Nat) ≤ _ from by decide), (show (0 : Nat) + (0 : Nat) ≤ _ from by decide)⟩)
    dsimp only [Pt.U, Pt.locs, Pt.cells, Pt.slots] at X17 l17 y17 z17 st17 hQ17
    subst l17 y17 z17
    obtain ⟨rfl, N17q, e17⟩ := hQ17
    have N17 := Fr.app N0 N17q
    refine Ends.pre (fun t k => st17.trans k) ?_
    show Ends p e below _ (T17.setTop (mkF m 78 #[.val (.int x0), .val (.int (4 : Int32)), .val (.ref m4), .val (.int (0 : Int32)), .unset, .unset] [(.int (if m4 = m1 then (1 : Int32) else if m4 = m2 then 1 else 0))]))
    rw [show (if m4 = m1 then (1 : Int32) else if m4 = m2 then 1 else 0) = 0 from (if_neg n41).trans (if_neg n42)]
    show Ends p e below _ (T17.setTop (mkF m 78 #[.val (.int x0), .val (.int (4 : Int32)), .val (.ref m4), .val (.int (0 : Int32)), .unset, .unset] [(.int (0 : Int32))]))
    refine Ends.pre (fun t k => XS.istore X17.here hx rfl (hb hby at_78) rfl (l' := #[.val (.int x0), .val (.int (4 : Int32)), .val (.ref m4), .val (.int (0 : Int32)), .val (.int (0 : Int32)), .unset]) rfl k) ?_
    show Ends p e below _ (T17.setTop (mkF m 80 #[.val (.int x0), .val (.int (4 : Int32)), .val (.ref m4), .val (.int (0 : Int32)), .val (.int (0 : Int32)), .unset] []))
    refine Ends.pre (fun t k => XS.dconst0 X17.here hx rfl (hb hby at_80) rfl k) ?_
    show Ends p e below _ (T17.setTop (mkF m 81 #[.val (.int x0), .val (.int (4 : Int32)), .val (.ref m4), .val (.int (0 : Int32)), .val (.int (0 : Int32)), .unset] [(.double FP.dconst0)]))
    refine Ends.pre (fun t k => XS.aloadN X17.here hx rfl (hb hby at_81) rfl rfl k) ?_
    show Ends p e below _ (T17.setTop (mkF m 82 #[.val (.int x0), .val (.int (4 : Int32)), .val (.ref m4), .val (.int (0 : Int32)), .val (.int (0 : Int32)), .unset] [(.ref m4), (.double FP.dconst0)]))
    obtain ⟨cq18, kq18, q18a, q18b, q18c⟩ := isOf hZ e17 E4
    obtain ⟨_, _, ⟨T18, L18, k18, n18⟩, -, X18, ⟨Lc18, hQ18, l18, y18, z18⟩, st18⟩ := X17.virtualBack hx (y := (⟨"com/example/bare_ranker/bareranker/search/Model", "defaultDelta", "()D"⟩ : MethodName)) (z := (⟨"com/example/bare_ranker/bareranker/search/Model", "defaultDelta", "()D"⟩ : MethodName)) hown (mvT hZ (hw _ (List.mem_of_getElem? (i := 13) rfl))) (mvT hZ (hw _ (List.mem_of_getElem? (i := 14) rfl))) (notFace_of_selects (args := #[]) (mvT hZ (hw _ (List.mem_of_getElem? (i := 16) rfl)))) (mvT hZ (hw _ (List.mem_of_getElem? (i := 16) rfl))) (mvT hZ (hw _ (List.mem_of_getElem? (i := 15) rfl))) (by decide) (backOf (W := 2) (rm2 l Z a0 hw [] m4 (0 : UInt64) h0 n0 Z0 D4) hZ (hw _ (List.mem_of_getElem? (i := 17) rfl)) (hw _ (List.mem_of_getElem? (i := 2) rfl)) (by decide) (by decide)) q18a q18c (g := (mkF m 82 #[.val (.int x0), .val (.int (4 : Int32)), .val (.ref m4), .val (.int (0 : Int32)), .val (.int (0 : Int32)), .unset] [(.ref m4), (.double FP.dconst0)])) rfl (by rw [hml]; rfl) (Steps.refl _) (argsL := []) (rest := [(.double FP.dconst0)]) (lenOf pd0_1 rfl) rfl (by show 2 * 0 + _ ≤ _; exact Nat.le_of_eq rfl) (hb hby at_82) (fun _ _ => ⟨rfl, e17, (show (0 : Nat) + (0 : Nat) ≤ _ from by decide), (show (0 : Nat) + (0 : Nat) ≤ _ from by decide)⟩)
    dsimp only [Pt.U, Pt.locs, Pt.cells, Pt.slots] at X18 l18 y18 z18 st18 hQ18
    subst l18 y18 z18
    obtain ⟨rfl, N18q, e18⟩ := hQ18
    have N18 := Fr.app N17 N18q
    refine Ends.pre (fun t k => st18.trans k) ?_
    show Ends p e below _ (T18.setTop (mkF m 85 #[.val (.int x0), .val (.int (4 : Int32)), .val (.ref m4), .val (.int (0 : Int32)), .val (.int (0 : Int32)), .unset] [(.double (0 : UInt64)), (.double FP.dconst0)]))
    refine Ends.pre (fun t k => XS.dcmpS X18.here hx rfl (v := (0 : Int32)) (hb hby at_85) rfl (by decide +kernel) k) ?_
    show Ends p e below _ (T18.setTop (mkF m 86 #[.val (.int x0), .val (.int (4 : Int32)), .val (.ref m4), .val (.int (0 : Int32)), .val (.int (0 : Int32)), .unset] [(.int (0 : Int32))]))
    refine Ends.pre (fun t k => XS.ifYes X18.here hx rfl (pc0 := 86) (pc' := 93) rfl (hb hby at_86) rfl ((if0 _ _).trans (flt (by decide)).2.1) (by decide) (by decide) k) ?_
    show Ends p e below _ (T18.setTop (mkF m 93 #[.val (.int x0), .val (.int (4 : Int32)), .val (.ref m4), .val (.int (0 : Int32)), .val (.int (0 : Int32)), .unset] []))
    refine Ends.pre (fun t k => XS.iconst X18.here hx rfl (hb hby at_93) k) ?_
    show Ends p e below _ (T18.setTop (mkF m 94 #[.val (.int x0), .val (.int (4 : Int32)), .val (.ref m4), .val (.int (0 : Int32)), .val (.int (0 : Int32)), .unset] [(.int (0 : Int32))]))
    refine Ends.pre (fun t k => XS.istore X18.here hx rfl (hb hby at_94) rfl (l' := #[.val (.int x0), .val (.int (4 : Int32)), .val (.ref m4), .val (.int (0 : Int32)), .val (.int (0 : Int32)), .val (.int (0 : Int32))]) rfl k) ?_
    show Ends p e below _ (T18.setTop (mkF m 96 #[.val (.int x0), .val (.int (4 : Int32)), .val (.ref m4), .val (.int (0 : Int32)), .val (.int (0 : Int32)), .val (.int (0 : Int32))] []))
    refine Ends.pre (fun t k => XS.iload X18.here hx rfl (hb hby at_96) rfl k) ?_
    show Ends p e below _ (T18.setTop (mkF m 98 #[.val (.int x0), .val (.int (4 : Int32)), .val (.ref m4), .val (.int (0 : Int32)), .val (.int (0 : Int32)), .val (.int (0 : Int32))] [(.int (0 : Int32))]))
    refine Ends.pre (fun t k => XS.iloadN X18.here hx rfl (hb hby at_98) rfl k) ?_
    show Ends p e below _ (T18.setTop (mkF m 99 #[.val (.int x0), .val (.int (4 : Int32)), .val (.ref m4), .val (.int (0 : Int32)), .val (.int (0 : Int32)), .val (.int (0 : Int32))] [(.int (0 : Int32)), (.int (0 : Int32))]))
    refine Ends.pre (fun t k => XS.icmpNo X18.here hx rfl (hb hby at_99) rfl (teq (by decide)).2 k) ?_
    show Ends p e below _ (T18.setTop (mkF m 102 #[.val (.int x0), .val (.int (4 : Int32)), .val (.ref m4), .val (.int (0 : Int32)), .val (.int (0 : Int32)), .val (.int (0 : Int32))] []))
    refine Ends.pre (fun t k => XS.iload X18.here hx rfl (hb hby at_102) rfl k) ?_
    show Ends p e below _ (T18.setTop (mkF m 104 #[.val (.int x0), .val (.int (4 : Int32)), .val (.ref m4), .val (.int (0 : Int32)), .val (.int (0 : Int32)), .val (.int (0 : Int32))] [(.int (0 : Int32))]))
    refine Ends.pre (fun t k => XS.iload X18.here hx rfl (hb hby at_104) rfl k) ?_
    show Ends p e below _ (T18.setTop (mkF m 106 #[.val (.int x0), .val (.int (4 : Int32)), .val (.ref m4), .val (.int (0 : Int32)), .val (.int (0 : Int32)), .val (.int (0 : Int32))] [(.int (0 : Int32)), (.int (0 : Int32))]))
    refine Ends.pre (fun t k => XS.icmpNo X18.here hx rfl (hb hby at_106) rfl (teq (by decide)).2 k) ?_
    show Ends p e below _ (T18.setTop (mkF m 109 #[.val (.int x0), .val (.int (4 : Int32)), .val (.ref m4), .val (.int (0 : Int32)), .val (.int (0 : Int32)), .val (.int (0 : Int32))] []))
    refine Ends.pre (fun t k => XS.iconst X18.here hx rfl (hb hby at_109) k) ?_
    show Ends p e below _ (T18.setTop (mkF m 110 #[.val (.int x0), .val (.int (4 : Int32)), .val (.ref m4), .val (.int (0 : Int32)), .val (.int (0 : Int32)), .val (.int (0 : Int32))] [(.int (1 : Int32))]))
    refine Ends.pre (fun t k => XS.goto X18.here hx rfl (pc0 := 110) (pc' := 114) rfl (hb hby at_110) (by decide) (by decide) k) ?_
    show Ends p e below _ (T18.setTop (mkF m 114 #[.val (.int x0), .val (.int (4 : Int32)), .val (.ref m4), .val (.int (0 : Int32)), .val (.int (0 : Int32)), .val (.int (0 : Int32))] [(.int (1 : Int32))]))
    obtain ⟨fs, hr, hrun, hended, hW, hsame⟩ := X18.leave (v := some (.int (1 : Int32))) (fun h => by rw [Bd.returns] at h; cases h)
    refine ⟨_, _, retN X18 hx (t := .boolean) Bd.returns (by simp) (hb hby at_114) hr, hrun, hended, _, _, rfl, ?_, ⟨_, rfl⟩, hW, hsame.mono (by decide) (by decide)⟩
    show Q0 Z x0 m0 m1 m2 m3 m4 h0 n0 _ T18.heap _
    rw [e18]
    exact ⟨rfl, N18⟩
set_option maxRecDepth 65536 in
set_option maxHeartbeats 40000000 in
theorem comes_1 {Post : Tables → Env → Array Value → State → Outcome → State → Prop} (hpost : ∀ tb e args s v u, (limb_1_1.after args s (.returned v) u = true ∧ limb_1_2.after args s (.returned v) u = true ∧ True) → FrameEnd s (.returned v) u (Jvm.fieldLocs frame_1_writes args s ++ Jvm.arrayLocs frame_1_arrays args s ++ Jvm.staticLocs frame_1_statics s) 0 0 → Post tb e args s (.returned v) u) :
    ArmFor flags0 classFile x code maxLocals ret World_1 tables_1 room_1 Calls_1 rest_1 Pre_1 Post := by
  intro l hfl _ _ p e ha hc hk s m args below hf hA hF happ hP
  obtain ⟨hcalls, hrest, hpre⟩ := hP
  obtain ⟨-, -, -, hnamed, -, -, -, hat⟩ := (Spec.applies_iff hf).mp happ
  obtain ⟨hg, hn⟩ := and_e (Cond.before_iff.mp (show (Jvm.Cond.and given_1 narrow_1).before args s = true from hpre))
  obtain ⟨gc, gg⟩ := and_e hg
  obtain ⟨w0, rfl⟩ : ∃ w0 : Value, args = #[w0] := by
    have hs : args.size = 1 := by simpa [Cond.value, given_1] using gc
    obtain ⟨L⟩ := args
    match L, hs with
    | [w0], _ => exact ⟨w0, rfl⟩
  have hw := fun d (hd : d ∈ tables_1) => atoms_spec (ws := Jvm.Cond.code x code maxLocals ret :: tables_1) hat d (List.mem_cons_of_mem _ hd)
  obtain ⟨i0, ei0⟩ := is_v gg
  obtain rfl : w0 = (.int i0) := Option.some.inj ei0
  obtain ⟨c0, r0⟩ := and_e hn
  obtain ⟨c1, r1⟩ := and_e r0
  obtain ⟨c2, r2⟩ := and_e r1
  obtain ⟨c3, r3⟩ := and_e r2
  obtain ⟨c4, r4⟩ := and_e r3
  obtain ⟨c5, r5⟩ := and_e r4
  obtain ⟨c6, r6⟩ := and_e r5
  obtain ⟨c7, r7⟩ := and_e r6
  obtain ⟨c8, r8⟩ := and_e r7
  obtain ⟨c9, r9⟩ := and_e r8
  obtain ⟨c10, r10⟩ := and_e r9
  obtain ⟨c11, r11⟩ := and_e r10
  obtain ⟨c12, r12⟩ := and_e r11
  obtain ⟨c13, r13⟩ := and_e r12
  have c14 := r13
  obtain ⟨m0, v0⟩ := exa_v c0
  have S0 := Sta.start v0 (Or.inr ⟨(hw _ (List.mem_of_getElem? (i := 2) rfl)), (hw _ (List.mem_of_getElem? (i := 3) rfl))⟩)
  have E0 := Exa.start v0 c0
  have O0 := own_fld v0 (Term.int_eval 0) (Or.inl ⟨_, rfl⟩) c2
  have D0 : Fld s s.heap m0 "com/example/bare_ranker/bareranker/search/Model" "defaultDelta" "D" (.double (0 : UInt64)) := own_fld v0 rfl (Or.inr ⟨_, rfl⟩) c6
  obtain ⟨m1, v1⟩ := exa_v c1
  have S1 := Sta.start v1 (Or.inr ⟨(hw _ (List.mem_of_getElem? (i := 2) rfl)), (hw _ (List.mem_of_getElem? (i := 10) rfl))⟩)
  have E1 := Exa.start v1 c1
  have O1 := own_fld v1 (Term.int_eval 1) (Or.inl ⟨_, rfl⟩) c3
  have D1 : Fld s s.heap m1 "com/example/bare_ranker/bareranker/search/Model" "defaultDelta" "D" (.double (4602678819172646912 : UInt64)) := own_fld v1 rfl (Or.inr ⟨_, rfl⟩) c10
  obtain ⟨m2, v2⟩ := exa_v c4
  have S2 := Sta.start v2 (Or.inr ⟨(hw _ (List.mem_of_getElem? (i := 2) rfl)), (hw _ (List.mem_of_getElem? (i := 12) rfl))⟩)
  have E2 := Exa.start v2 c4
  have O2 := own_fld v2 (Term.int_eval 2) (Or.inl ⟨_, rfl⟩) c5
  have D2 : Fld s s.heap m2 "com/example/bare_ranker/bareranker/search/Model" "defaultDelta" "D" (.double (4607182418800017408 : UInt64)) := own_fld v2 rfl (Or.inr ⟨_, rfl⟩) c14
  obtain ⟨m3, v3⟩ := exa_v c7
  have S3 := Sta.start v3 (Or.inr ⟨(hw _ (List.mem_of_getElem? (i := 2) rfl)), (hw _ (List.mem_of_getElem? (i := 21) rfl))⟩)
  have E3 := Exa.start v3 c7
  have O3 := own_fld v3 (Term.int_eval 3) (Or.inl ⟨_, rfl⟩) c8
  have D3 : Fld s s.heap m3 "com/example/bare_ranker/bareranker/search/Model" "defaultDelta" "D" (.double (0 : UInt64)) := own_fld v3 rfl (Or.inr ⟨_, rfl⟩) c9
  obtain ⟨m4, v4⟩ := exa_v c11
  have S4 := Sta.start v4 (Or.inr ⟨(hw _ (List.mem_of_getElem? (i := 2) rfl)), (hw _ (List.mem_of_getElem? (i := 24) rfl))⟩)
  have E4 := Exa.start v4 c11
  have O4 := own_fld v4 (Term.int_eval 4) (Or.inl ⟨_, rfl⟩) c12
  have D4 : Fld s s.heap m4 "com/example/bare_ranker/bareranker/search/Model" "defaultDelta" "D" (.double (0 : UInt64)) := own_fld v4 rfl (Or.inr ⟨_, rfl⟩) c13
  obtain ⟨n, o, h1, h2, h3, _, L, rfl, ⟨rfl, N⟩, hq⟩ := rm0 l s _ hw tables_1 i0 m0 m1 m2 m3 m4 s.heap s.heap.size (Nat.le_refl _) S0 E0 D0 S1 E1 D1 S2 E2 D2 S3 E3 D3 S4 E4 D4 (own_ne O0 O1 (by decide)) (own_ne O2 O1 (by decide)) (own_ne O3 O1 (by decide)) (own_ne O4 O1 (by decide)) (own_ne O0 O2 (by decide)) (own_ne O1 O2 (by decide)) (own_ne O3 O2 (by decide)) (own_ne O4 O2 (by decide)) p e ha hc hk s m _ below hf ((Spec.applies_iff_loose hf).mp happ).1 ⟨rfl, State.Warmed39.refl s, rfl⟩ trivial
  refine ⟨n, _, h1, h2, h3, hpost _ _ _ _ _ _ ⟨Cond.after_iff.mpr rfl, Cond.after_iff.mpr (eq_i res_at (Term.int_eval (1)) rfl), trivial⟩ ⟨hq.1, hq.2.1, (hq.2.2.sift fun y hy => Or.inr (N y hy)).mono (by decide) (by decide)⟩⟩
theorem main_1_1 : Claimed_1_1 := comes_1 fun _ _ _ _ _ _ h hF => ⟨h.1, hF⟩
theorem main_1_2 : Claimed_1_2 := comes_1 fun _ _ _ _ _ _ h hF => ⟨h.2.1, hF⟩
end Jvm.Pilot.@@N@@
namespace Jvm.Pilot.@@N@@
open Jvm Jvm.ClassFile Sem Op Lib Jvm.Free Jvm.Stand Jvm.Pilot.@@N@@.Jvm.D
/-! MADE BY PROGRAM (witnessworld.py) out of the Statement's table words and the real class files: 12 classes; the members and pool entries that the words name. The judged class is class 1, her method 1. -/
namespace start1
open Jvm.ClassFile
def u (s : String) : CpInfo := .utf8 (stringToUtf16 s)
/-- a pool by its gaps: so many unusable entries, then the entry; so many at the end -/
def gap : Nat → List CpInfo → List CpInfo
  | 0, r => r
  | n + 1, r => .unusable :: gap n r
def poolList (es : List (Nat × CpInfo)) (last : Nat) : List CpInfo := es.foldr (fun e r => gap e.1 (e.2 :: r)) (gap last [])
def pool (es : List (Nat × CpInfo)) (last : Nat) : Array CpInfo := ⟨poolList es last⟩
def fileOf (pool : Array CpInfo) (this : Nat) (attrs : Array Attribute := #[]) (ms : Array MethodInfo := #[]) (fl : Nat := 33) (sup : Nat := 0) (ifs : Array Nat := #[]) (fds : Array FieldInfo := #[]) : ClassFile where
  minorVersion := 0
  majorVersion := 65
  constantPool := pool
  accessFlags := fl
  thisClass := this
  superClass := sup
  interfaces := ifs
  fields := fds
  methods := ms
  attributes := attrs
def plain (name : String) (sup : Option ClassId) : Class where
  name := name
  kind := .ordinary
  loader := none
  accessFlags := 33
  super := sup
  interfaces := #[]
  cf := none
  fields := #[]
  methods := #[]
  instanceTypes := #[]
  staticTypes := #[]
  resolved := #[]
  callSites := []
  init := .initialized
  statics := none
  mirror := none

def pool0 : Array CpInfo := pool [(5, u "<init>"), (0, u "()V"), (1, .class_ 10), (1, u "java/lang/Object")] 113

def k0m0 : Method := { name := "<init>", desc := "()V", sig := { parameters := [], returnType := none }, accessFlags := 1, code := none }
/-- java/lang/Object -/
def k0 : Class := { plain "java/lang/Object" none with
  accessFlags := 33
  interfaces := #[]
  cf := some (fileOf pool0 8 #[] #[{ accessFlags := 1, nameIndex := 5, descriptorIndex := 6, attributes := #[] }] 33 0 #[] #[])
  fields := #[]
  methods := #[k0m0]
  instanceTypes := #[]
  staticTypes := #[]
  resolved := Array.replicate 124 none
  statics := none }

def pool1 : Array CpInfo := pool [(2, .class_ 4), (1, u "java/lang/Object"), (0, u "<init>"), (0, u "()V"), (0, .integer 2147483647), (0, .fieldref 9 10), (0, .class_ 11), (0, .nameAndType 12 13), (0, u "com/example/bare_ranker/bareranker/search/Model"), (0, u "BM25"), (0, u "Lcom/example/bare_ranker/bareranker/search/Model;"), (0, .fieldref 9 15), (0, .nameAndType 16 13), (0, u "BM25L"), (0, .fieldref 9 18), (0, .nameAndType 19 13), (0, u "BM25_PLUS"), (0, .fieldref 9 21), (0, .nameAndType 22 13), (0, u "BM25_ADPT"), (0, .fieldref 9 24), (0, .nameAndType 25 13), (0, u "BM25F"), (0, .methodref 9 27), (0, .nameAndType 28 29), (0, u "takesDelta"), (0, u "()Z"), (0, .methodref 9 31), (0, .nameAndType 32 33), (0, u "defaultDelta"), (0, u "()D"), (0, .class_ 35), (0, u "com/example/bare_ranker/bareranker/search/ModelTakesDeltaPinLaw"), (2, u "law"), (0, u "(I)Z")] 3

def k1m0 : Method := { name := "<init>", desc := "()V", sig := { parameters := [], returnType := none }, accessFlags := 1, code := none }
def k1c1 : Code := { maxStack := 4, maxLocals := 6, code := code, exceptionTable := #[], attributes := #[] }
def k1m1 : Method := { name := "law", desc := "(I)Z", sig := { parameters := [.int], returnType := some .boolean }, accessFlags := 9, code := some k1c1 }
/-- com/example/bare_ranker/bareranker/search/ModelTakesDeltaPinLaw -/
def k1 : Class := { plain "com/example/bare_ranker/bareranker/search/ModelTakesDeltaPinLaw" (some 0) with
  accessFlags := 49
  interfaces := #[]
  cf := some (fileOf pool1 34 #[] #[{ accessFlags := 1, nameIndex := 5, descriptorIndex := 6, attributes := #[] }, { accessFlags := 9, nameIndex := 38, descriptorIndex := 39, attributes := #[] }] 49 2 #[] #[])
  fields := #[]
  methods := #[k1m0, k1m1]
  instanceTypes := #[]
  staticTypes := #[]
  resolved := Array.replicate 43 none
  statics := none }

def pool2 : Array CpInfo := pool [(1, .class_ 2), (0, u "java/lang/constant/Constable"), (0, .class_ 4), (0, u "java/lang/Object")] 6

/-- java/lang/constant/Constable -/
def k2 : Class := { plain "java/lang/constant/Constable" (some 0) with
  accessFlags := 1537
  interfaces := #[]
  cf := some (fileOf pool2 1 #[] #[] 1537 3 #[] #[])
  fields := #[]
  methods := #[]
  instanceTypes := #[]
  staticTypes := #[]
  resolved := Array.replicate 11 none
  statics := none }

def pool3 : Array CpInfo := pool [(1, .class_ 2), (0, u "java/lang/Comparable"), (0, .class_ 4), (0, u "java/lang/Object")] 7

/-- java/lang/Comparable -/
def k3 : Class := { plain "java/lang/Comparable" (some 0) with
  accessFlags := 1537
  interfaces := #[]
  cf := some (fileOf pool3 1 #[] #[] 1537 3 #[] #[])
  fields := #[]
  methods := #[]
  instanceTypes := #[]
  staticTypes := #[]
  resolved := Array.replicate 12 none
  statics := none }

def pool4 : Array CpInfo := pool [(1, .class_ 2), (0, u "java/io/Serializable"), (0, .class_ 4), (0, u "java/lang/Object")] 2

/-- java/io/Serializable -/
def k4 : Class := { plain "java/io/Serializable" (some 0) with
  accessFlags := 1537
  interfaces := #[]
  cf := some (fileOf pool4 1 #[] #[] 1537 3 #[] #[])
  fields := #[]
  methods := #[]
  instanceTypes := #[]
  staticTypes := #[]
  resolved := Array.replicate 7 none
  statics := none }

def pool5 : Array CpInfo := pool [(2, .class_ 4), (1, u "java/lang/Enum"), (0, u "name"), (0, u "Ljava/lang/String;"), (2, u "ordinal"), (0, u "I"), (1, .class_ 14), (1, u "java/lang/Object"), (4, u "hash"), (86, .class_ 108), (1, u "java/lang/Enum$EnumDesc"), (2, .class_ 112), (0, u "java/lang/constant/Constable"), (0, .class_ 114), (0, u "java/lang/Comparable"), (0, .class_ 116), (0, u "java/io/Serializable")] 87

/-- java/lang/Enum -/
def k5 : Class := { plain "java/lang/Enum" (some 0) with
  accessFlags := 1057
  interfaces := #[2, 3, 4]
  cf := some (fileOf pool5 2 #[.nestMembers #[106]] #[] 1057 12 #[111, 113, 115] #[{ accessFlags := 18, nameIndex := 5, descriptorIndex := 6, attributes := #[] }, { accessFlags := 18, nameIndex := 9, descriptorIndex := 10, attributes := #[] }, { accessFlags := 2, nameIndex := 19, descriptorIndex := 10, attributes := #[] }])
  fields := #[{ name := "name", type := (.object "java/lang/String"), accessFlags := 18, slot := 0, constantValue := 0 }, { name := "ordinal", type := .int, accessFlags := 18, slot := 1, constantValue := 0 }, { name := "hash", type := .int, accessFlags := 2, slot := 2, constantValue := 0 }]
  methods := #[]
  instanceTypes := #[(.object "java/lang/String"), .int, .int]
  staticTypes := #[]
  resolved := Array.replicate 204 none
  statics := none }

def pool6 : Array CpInfo := pool [(1, .class_ 2), (0, u "com/example/bare_ranker/bareranker/search/Model"), (2, u "BM25"), (0, u "Lcom/example/bare_ranker/bareranker/search/Model;"), (0, .fieldref 1 8), (0, .nameAndType 9 6), (0, u "BM25L"), (0, .fieldref 1 11), (0, .nameAndType 12 6), (0, u "BM25_PLUS"), (2, u "BM25_ADPT"), (2, u "BM25F"), (2, u "$VALUES"), (0, u "[Lcom/example/bare_ranker/bareranker/search/Model;"), (6, .class_ 31), (1, u "java/lang/Enum"), (8, u "label"), (0, u "Ljava/lang/String;"), (0, .fieldref 1 43), (0, .nameAndType 44 45), (0, u "defaultDelta"), (0, u "D"), (38, u "takesDelta"), (0, u "()Z"), (5, u "()D")] 5

def k6c0 : Code := { maxStack := 2, maxLocals := 1, code := prog_40_method_5_code, exceptionTable := #[], attributes := #[] }
def k6m0 : Method := { name := "takesDelta", desc := "()Z", sig := { parameters := [], returnType := some .boolean }, accessFlags := 1, code := some k6c0 }
def k6c1 : Code := { maxStack := 2, maxLocals := 1, code := prog_40_method_9_code, exceptionTable := #[], attributes := #[] }
def k6m1 : Method := { name := "defaultDelta", desc := "()D", sig := { parameters := [], returnType := some .double }, accessFlags := 1, code := some k6c1 }
/-- com/example/bare_ranker/bareranker/search/Model -/
def k6 : Class := { plain "com/example/bare_ranker/bareranker/search/Model" (some 5) with
  accessFlags := 16433
  interfaces := #[]
  cf := some (fileOf pool6 1 #[] #[{ accessFlags := 1, nameIndex := 84, descriptorIndex := 85, attributes := #[] }, { accessFlags := 1, nameIndex := 44, descriptorIndex := 91, attributes := #[] }] 16433 29 #[] #[{ accessFlags := 16409, nameIndex := 5, descriptorIndex := 6, attributes := #[] }, { accessFlags := 16409, nameIndex := 9, descriptorIndex := 6, attributes := #[] }, { accessFlags := 16409, nameIndex := 12, descriptorIndex := 6, attributes := #[] }, { accessFlags := 16409, nameIndex := 15, descriptorIndex := 6, attributes := #[] }, { accessFlags := 16409, nameIndex := 18, descriptorIndex := 6, attributes := #[] }, { accessFlags := 18, nameIndex := 40, descriptorIndex := 41, attributes := #[] }, { accessFlags := 18, nameIndex := 44, descriptorIndex := 45, attributes := #[] }, { accessFlags := 4122, nameIndex := 21, descriptorIndex := 22, attributes := #[] }])
  fields := #[{ name := "BM25", type := (.object "com/example/bare_ranker/bareranker/search/Model"), accessFlags := 16409, slot := 0, constantValue := 0 }, { name := "BM25L", type := (.object "com/example/bare_ranker/bareranker/search/Model"), accessFlags := 16409, slot := 1, constantValue := 0 }, { name := "BM25_PLUS", type := (.object "com/example/bare_ranker/bareranker/search/Model"), accessFlags := 16409, slot := 2, constantValue := 0 }, { name := "BM25_ADPT", type := (.object "com/example/bare_ranker/bareranker/search/Model"), accessFlags := 16409, slot := 3, constantValue := 0 }, { name := "BM25F", type := (.object "com/example/bare_ranker/bareranker/search/Model"), accessFlags := 16409, slot := 4, constantValue := 0 }, { name := "label", type := (.object "java/lang/String"), accessFlags := 18, slot := 3, constantValue := 0 }, { name := "defaultDelta", type := .double, accessFlags := 18, slot := 4, constantValue := 0 }, { name := "$VALUES", type := (.array (.object "com/example/bare_ranker/bareranker/search/Model")), accessFlags := 4122, slot := 5, constantValue := 0 }]
  methods := #[k6m0, k6m1]
  instanceTypes := #[(.object "java/lang/String"), .int, .int, (.object "java/lang/String"), .double]
  staticTypes := #[(.object "com/example/bare_ranker/bareranker/search/Model"), (.object "com/example/bare_ranker/bareranker/search/Model"), (.object "com/example/bare_ranker/bareranker/search/Model"), (.object "com/example/bare_ranker/bareranker/search/Model"), (.object "com/example/bare_ranker/bareranker/search/Model"), (.array (.object "com/example/bare_ranker/bareranker/search/Model"))]
  resolved := Array.replicate 97 none
  statics := some 0 }

def pool7 : Array CpInfo := pool [(1, u "java/lang/Cloneable"), (0, .class_ 1), (0, u "java/lang/Object"), (0, .class_ 3)] 3

/-- java/lang/Cloneable -/
def k7 : Class := { plain "java/lang/Cloneable" (some 0) with
  accessFlags := 1537
  interfaces := #[]
  cf := some (fileOf pool7 2 #[] #[] 1537 4 #[] #[])
  fields := #[]
  methods := #[]
  instanceTypes := #[]
  staticTypes := #[]
  resolved := Array.replicate 8 none
  statics := none }

/-- the primitive byte -/
def k8 : Class := { plain "byte" none with kind := .primitive 'B', accessFlags := 0x411 }
/-- [B -/
def k9 : Class := { plain "[B" (some 0) with kind := .array 8 .byte, interfaces := #[7, 4], accessFlags := 1041 }

/-- the primitive int -/
def k10 : Class := { plain "int" none with kind := .primitive 'I', accessFlags := 0x411 }
/-- [I -/
def k11 : Class := { plain "[I" (some 0) with kind := .array 10 .int, interfaces := #[7, 4], accessFlags := 1041 }

def heap : Heap := #[{ cls := 6, slots := #[.ref 1, .ref 2, .ref 3, .ref 4, .ref 5, .null], vm := .statics 6 },
  { cls := 6, slots := #[.null, .int 0, .int 0, .null, .double 0], vm := .none },
  { cls := 6, slots := #[.null, .int 1, .int 0, .null, .double 4602678819172646912], vm := .none },
  { cls := 6, slots := #[.null, .int 2, .int 0, .null, .double 4607182418800017408], vm := .none },
  { cls := 6, slots := #[.null, .int 3, .int 0, .null, .double 0], vm := .none },
  { cls := 6, slots := #[.null, .int 4, .int 0, .null, .double 0], vm := .none }]
def classes : Array Class := #[k0, k1, k2, k3, k4, k5, k6, k7, k8, k9, k10, k11]
def interned : List (Array UInt16 × Addr) := []
def slotsUsed : Nat := 31
def theMethod : MethodId := ⟨1, 1⟩
def args0 : Array Value := #[.int 5]
def aboutOver (below : List Frame) : State where
  vm := { classes := classes, interned := interned.toArray }
  heap := heap
  slotsUsed := slotsUsed
  threads := #[{ frames := .invoking theMethod args0 :: below }]
def below0 : List Frame := [.native { method := ⟨0, 0⟩, args := #[] }]
def about1 : State := aboutOver below0
def p0 : Program := .bare "" "" ""
def e0 : Env := launch0.env 0 0 0
theorem w_frames : about1.frames = Frame.invoking theMethod args0 :: below0 := rfl
set_option maxRecDepth 65536 in
theorem w_args : argsFit about1.vm theMethod args0 = true := by decide +kernel
set_option maxRecDepth 65536 in
theorem w_heap : heapFits about1 = true := by decide +kernel
set_option maxRecDepth 65536 in
theorem w_runnable : about1.curStatus? = some .runnable := by decide +kernel
set_option maxRecDepth 65536 in
theorem w_alone : about1.alone = true := by decide +kernel
set_option maxRecDepth 65536 in
theorem w_named : about1.methodNamed? x = some theMethod := by decide +kernel
set_option maxRecDepth 65536 in
theorem w_hears : about1.hears theMethod below0 = true := by decide +kernel
set_option maxRecDepth 65536 in
theorem w_ripe : about1.ripe theMethod args0 below0 = true := by decide +kernel
theorem w_running : about1.status = .running := rfl
set_option maxRecDepth 65536 in
theorem w_room : about1.hasRoom e0.platform room_1 = true :=
  launch0.hasRoom_least _ room_1 (by decide +kernel) (by decide +kernel) (by decide +kernel) (by decide +kernel) (by decide +kernel) (by decide +kernel)
theorem allAtoms_all (ts : List Jvm.Cond) (a : Array Jvm.Value) (st : Jvm.State) : (allAtoms ts).before a st = ts.all (fun c => c.before a st) := by
  induction ts with
  | nil => rfl
  | cons c t ih =>
    show (Jvm.Cond.and c (allAtoms t)).before a st = _
    rw [Jvm.Cond.before_and, ih, List.all_cons]
def words1 : List Jvm.Cond := Jvm.Cond.code x code maxLocals ret :: tables_1
/-- a 'code' word, met by the world's own term for the bytes: nothing is compared byte by byte -/
theorem code_word {y : MethodName} {bytes : ByteArray} {mx : Nat} {rt : Option FieldType} {a : Array Value} {s : State} {m : MethodId} {meth : Method} {c : Code} (h1 : s.methodNamed? y = some m) (h2 : s.vm.method? m = some meth) (h3 : meth.code = some c) (h4 : c.code = bytes)
    (h5 : (c.maxLocals == mx && c.exceptionTable.isEmpty && decide (c.maxStack ≤ mostOperands) && decide (meth.sig.returnType = rt) && !meth.locks && decide (parseMethodDescriptor y.desc = some meth.sig)) = true) : (Jvm.Cond.code y bytes mx rt).before a s = true := by
  simp only [Bool.and_eq_true, beq_iff_eq, Bool.not_eq_true', decide_eq_true_eq] at h5
  obtain ⟨⟨⟨⟨⟨g1, g2⟩, g3⟩, g4⟩, g5⟩, g6⟩ := h5
  simp [Cond.before, Cond.holds, Cond.value, h1, h2, h3, h4, g1, g2, g3, g4, g5, g6]
def isCode : Jvm.Cond → Bool
  | .code _ _ _ _ => true
  | _ => false
theorem all_split {L : List Jvm.Cond} {P : Jvm.Cond → Bool} (h1 : L.all (fun c => isCode c || P c) = true) (h2 : ∀ c ∈ L.filter isCode, P c = true) : L.all P = true := by
  refine List.all_eq_true.mpr fun c hc => ?_
  have h := List.all_eq_true.mp h1 c hc
  rcases Bool.eq_false_or_eq_true (isCode c) with hi | hi
  · exact h2 c (List.mem_filter.mpr ⟨hc, hi⟩)
  · simpa [hi] using h
set_option maxRecDepth 65536 in
theorem w_c0 : (Jvm.Cond.code x code maxLocals ret).before args0 about1 = true := code_word (m := ⟨1, 1⟩) (meth := k1m1) (c := k1c1) (by decide +kernel) rfl rfl rfl (by decide +kernel)
set_option maxRecDepth 65536 in
theorem w_c1 : (Jvm.Cond.code ({ cls := "com/example/bare_ranker/bareranker/search/Model", name := "takesDelta", desc := "()Z" } : Jvm.MethodName) prog_40_method_5_code (1 : Nat) (Option.some Jvm.ClassFile.FieldType.boolean)).before args0 about1 = true := code_word (m := ⟨6, 0⟩) (meth := k6m0) (c := k6c0) (by decide +kernel) rfl rfl rfl (by decide +kernel)
set_option maxRecDepth 65536 in
theorem w_c2 : (Jvm.Cond.code ({ cls := "com/example/bare_ranker/bareranker/search/Model", name := "defaultDelta", desc := "()D" } : Jvm.MethodName) prog_40_method_9_code (1 : Nat) (Option.some Jvm.ClassFile.FieldType.double)).before args0 about1 = true := code_word (m := ⟨6, 1⟩) (meth := k6m1) (c := k6c1) (by decide +kernel) rfl rfl rfl (by decide +kernel)
def codes1 : List Jvm.Cond := [Jvm.Cond.code x code maxLocals ret, Jvm.Cond.code ({ cls := "com/example/bare_ranker/bareranker/search/Model", name := "takesDelta", desc := "()Z" } : Jvm.MethodName) prog_40_method_5_code (1 : Nat) (Option.some Jvm.ClassFile.FieldType.boolean), Jvm.Cond.code ({ cls := "com/example/bare_ranker/bareranker/search/Model", name := "defaultDelta", desc := "()D" } : Jvm.MethodName) prog_40_method_9_code (1 : Nat) (Option.some Jvm.ClassFile.FieldType.double)]
set_option maxRecDepth 65536 in
theorem codes_eq : words1.filter isCode = codes1 := rfl
theorem w_codes : ∀ c ∈ words1.filter isCode, c.before args0 about1 = true := by
  rw [codes_eq]
  intro c hc
  simp only [codes1, List.mem_cons, List.not_mem_nil, or_false] at hc
  rcases hc with rfl | rfl | rfl
  · exact w_c0
  · exact w_c1
  · exact w_c2
set_option maxRecDepth 65536 in
theorem w_t1 : (words1.take 24).all (fun c => isCode c || c.before args0 about1) = true := by decide +kernel
set_option maxRecDepth 65536 in
theorem w_t2 : (words1.drop 24).all (fun c => isCode c || c.before args0 about1) = true := by decide +kernel
theorem w_tables : (allAtoms (Jvm.Cond.code x code maxLocals ret :: tables_1)).before args0 about1 = true := by
  rw [allAtoms_all]
  show words1.all (fun c => c.before args0 about1) = true
  refine all_split ?_ w_codes
  rw [← List.take_append_drop 24 words1, List.all_append, w_t1, w_t2]
  rfl
set_option maxRecDepth 65536 in
theorem w_case : (Jvm.Cond.and given_1 narrow_1).before args0 about1 = true := by decide +kernel
theorem w_applies : (headSpec (Jvm.Cond.code x code maxLocals ret :: tables_1) room_1).applies x e0.platform about1 = true :=
  (Spec.applies_iff w_frames).mpr ⟨w_running, w_runnable, w_alone, w_named, w_hears, w_ripe, w_room, w_tables⟩
theorem atStart : AtStart classFile x code maxLocals ret World_1 tables_1 room_1 Calls_1 rest_1 Pre_1 launch0 p0 e0 about1 theMethod args0 below0 :=
  ⟨lists_1, trivial, launch0.admits_env _ _ _, launch0.least_env, fairChoices_fair.cas, fairChoices_fair.clock, w_frames, w_args, w_heap, w_applies, trivial, trivial, w_case⟩
end start1
theorem witness_1 : WitnessClaimed_1 := ⟨start1.p0, start1.e0, start1.about1, start1.theMethod, start1.args0, start1.below0, start1.atStart⟩
end Jvm.Pilot.@@N@@
