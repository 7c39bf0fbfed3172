import JvmDerived
import JvmDerived.Pilot.@@N@@Statement
import JvmDerived.Pilot.@@N@@Code
set_option linter.unusedVariables false
set_option linter.unusedSimpArgs false
namespace Jvm.RoadKit
open Sem ClassFile Op Lib Jvm.Stand Jvm.Free Jvm.LawKit
section New
variable {p : Program} {l : Launch} {e : Env} {R : Room} {s : State} {m : MethodId} {args : Array Value} {below : List Frame} {meth : Method} {c : Code} {T : State} {locs : List Loc} {cells slots : Nat}
theorem retI (X : Stand p l e R s m args below meth c T locs cells slots) (hx : p.tables.exec = Jvm.exec) {pc : Nat} {Ls : Array Slot} {z : Int32} {rest : List Value} (hret : meth.sig.returnType = some .int) (hd : decode c.code pc = .ok (.ireturn, 1)) {fs : List Frame}
    (hl : ∀ (f : JFrame) (acts : List Action), f.method = m → f.locked = none → f.entered = [] → (doReturn e (T.setTop f) acts (some (.int z))).1 = T.setFrames fs) : Steps p.tables e below (T.setTop (mkF m pc Ls (.int z :: rest))) (T.setFrames fs) := by
  have hm' : T.vm.method? m = some meth := X.method'
  have hn : narrow .int (.int z) = .int z := rfl
  show Steps p.tables e below (T.setTop { method := m, pc := pc, locals := Ls, stack := _ :: rest, locked := none }) _
  jvm_step X.here [X.here.top, hx, hd, hm', hret, hn]
  first | (intro acts; rw [hl _ acts rfl rfl rfl]) | rw [hl _ _ rfl rfl rfl]
  exact Steps.refl _
end New
end Jvm.RoadKit
namespace Jvm.Pilot.@@N@@
open Jvm Jvm.ClassFile Sem Op Lib Jvm.Free Jvm.Stand Jvm.LawKit Jvm.RoadKit Bundle Jvm.Pilot.@@N@@.Jvm.D
abbrev Go (p : Program) (e : Env) (below : List Frame) (T : State) (g : JFrame) (t : State) : Prop := Steps p.tables e below (T.setTop g) t
theorem hwi {Z : State} {a0 : Array Value} (hw : ∀ d ∈ tables_1, d.before a0 Z = true) {d : Jvm.Cond} (i : Nat) (q : tables_1[i]? = some d) : d.before a0 Z = true := hw _ (List.mem_of_getElem? q)

def Wd (Z : State) (h : Heap) (w_FIRST w_LAST w_PREV w_NEXT : Addr) : Prop := (Sta Z h "com/example/rowmotif/rowmotif/expr/NavigationFunction" "FIRST" "Lcom/example/rowmotif/rowmotif/expr/NavigationFunction;" (.ref w_FIRST) ∧ Exa Z h w_FIRST "com/example/rowmotif/rowmotif/expr/NavigationFunction" ∧ Fld Z h w_FIRST "java/lang/Enum" "ordinal" "I" (.int (0 : Int32))) ∧ (Sta Z h "com/example/rowmotif/rowmotif/expr/NavigationFunction" "LAST" "Lcom/example/rowmotif/rowmotif/expr/NavigationFunction;" (.ref w_LAST) ∧ Exa Z h w_LAST "com/example/rowmotif/rowmotif/expr/NavigationFunction" ∧ Fld Z h w_LAST "java/lang/Enum" "ordinal" "I" (.int (1 : Int32))) ∧ (Sta Z h "com/example/rowmotif/rowmotif/expr/NavigationFunction" "PREV" "Lcom/example/rowmotif/rowmotif/expr/NavigationFunction;" (.ref w_PREV) ∧ Exa Z h w_PREV "com/example/rowmotif/rowmotif/expr/NavigationFunction" ∧ Fld Z h w_PREV "java/lang/Enum" "ordinal" "I" (.int (2 : Int32))) ∧ (Sta Z h "com/example/rowmotif/rowmotif/expr/NavigationFunction" "NEXT" "Lcom/example/rowmotif/rowmotif/expr/NavigationFunction;" (.ref w_NEXT) ∧ Exa Z h w_NEXT "com/example/rowmotif/rowmotif/expr/NavigationFunction" ∧ Fld Z h w_NEXT "java/lang/Enum" "ordinal" "I" (.int (3 : Int32)))
theorem Wd_ext {Z : State} {h h' : Heap} {w_FIRST w_LAST w_PREV w_NEXT : Addr} (W : Wd Z h w_FIRST w_LAST w_PREV w_NEXT) (E : Ext h h') : Wd Z h' w_FIRST w_LAST w_PREV w_NEXT := by
  obtain ⟨⟨S_FIRST, E_FIRST, F_FIRST⟩, ⟨S_LAST, E_LAST, F_LAST⟩, ⟨S_PREV, E_PREV, F_PREV⟩, ⟨S_NEXT, E_NEXT, F_NEXT⟩⟩ := W
  exact ⟨⟨S_FIRST.ext E, E_FIRST.ext E, F_FIRST.ext E⟩, ⟨S_LAST.ext E, E_LAST.ext E, F_LAST.ext E⟩, ⟨S_PREV.ext E, E_PREV.ext E, F_PREV.ext E⟩, ⟨S_NEXT.ext E, E_NEXT.ext E, F_NEXT.ext E⟩⟩
theorem own_ext {h0 h : Heap} (K : Keep h0 h []) : Ext h0 h := ⟨K.1, fun a c q => K.2.1 a c q nin0⟩
theorem own_rng (k : Int32) (h : 0 ≤ k.toInt ∧ k.toInt < 4) : k = (0 : Int32) ∨ k = (1 : Int32) ∨ k = (2 : Int32) ∨ k = (3 : Int32) := by
  have q : k.toInt = 0 ∨ k.toInt = 1 ∨ k.toInt = 2 ∨ k.toInt = 3 := by omega
  rcases q with q | q | q | q
  · exact Or.inl (Int32.toInt_inj.mp (by rw [q]; decide))
  · exact Or.inr (Or.inl (Int32.toInt_inj.mp (by rw [q]; decide)))
  · exact Or.inr (Or.inr (Or.inl (Int32.toInt_inj.mp (by rw [q]; decide))))
  · exact Or.inr (Or.inr (Or.inr (Int32.toInt_inj.mp (by rw [q]; decide))))
theorem own_and3 (x : Int32) : 0 ≤ (x &&& (3 : Int32)).toInt ∧ (x &&& (3 : Int32)).toInt < 4 := by
  have h := c_mask x 3 2 (by decide) (by decide)
  omega
theorem own_n1 (x : Int32) : -x = (-1 : Int32) * x := by
  apply Int32.toInt_inj.mp
  have h1 := c_ineg x
  have h2 := c_imul (-1) x
  have e : (-1 : Int32).toInt = -1 := by decide
  rw [e] at h2
  have r1 := rng32 (-x)
  have r2 := rng32 ((-1 : Int32) * x)
  omega
theorem own_n2 (x y : Int32) : -(x + y) = -x + -y := by
  apply Int32.toInt_inj.mp
  have h1 := c_ineg (x + y)
  have h2 := c_iadd x y
  have h3 := c_iadd (-x) (-y)
  have h4 := c_ineg x
  have h5 := c_ineg y
  have r1 := rng32 (-(x + y))
  have r2 := rng32 (-x + -y)
  omega
theorem ef_1 (m : MethodId) (x0 : Addr) (x1 : Int32) : entryFrame m #[(.ref x0), (.int x1)] 2 = mkF m 0 #[.val (.ref x0), .val (.int x1)] [] := by first | (simp [entryFrame, mkF, argsToLocals, Value.category]; done) | rfl
theorem pn_com_example_rowmotif_rowmotif_expr_NavigationFunction : plainName "com/example/rowmotif/rowmotif/expr/NavigationFunction" = true := by first | (simp [plainName, overriddenIn]; done) | decide +kernel
theorem d1_0 : decode prog_49_method_7_code 0 = .ok (.aload_n 0, 1) := by decide +kernel
theorem d1_1 : decode prog_49_method_7_code 1 = .ok (.getstatic 10, 3) := by decide +kernel
theorem d1_4 : decode prog_49_method_7_code 4 = .ok (.if_acmp .ne 8, 3) := by decide +kernel
theorem d1_7 : decode prog_49_method_7_code 7 = .ok (.iload_n 1, 1) := by decide +kernel
theorem d1_8 : decode prog_49_method_7_code 8 = .ok (.ineg, 1) := by decide +kernel
theorem d1_9 : decode prog_49_method_7_code 9 = .ok (.goto 15, 3) := by decide +kernel
theorem d1_24 : decode prog_49_method_7_code 24 = .ok (.ireturn, 1) := by decide +kernel
theorem d1_12 : decode prog_49_method_7_code 12 = .ok (.aload_n 0, 1) := by decide +kernel
theorem d1_13 : decode prog_49_method_7_code 13 = .ok (.getstatic 13, 3) := by decide +kernel
theorem d1_16 : decode prog_49_method_7_code 16 = .ok (.if_acmp .ne 7, 3) := by decide +kernel
theorem d1_19 : decode prog_49_method_7_code 19 = .ok (.iload_n 1, 1) := by decide +kernel
theorem d1_20 : decode prog_49_method_7_code 20 = .ok (.goto 4, 3) := by decide +kernel
theorem d1_23 : decode prog_49_method_7_code 23 = .ok (.iconst 0, 1) := by decide +kernel
def Q_rmS (Z : State) (a1 : Addr) (p2 : Int32) (w_FIRST : Addr) (w_LAST : Addr) (w_PREV : Addr) (w_NEXT : Addr) (h0 : Heap) (n0 : Nat) (v : Option Value) (h : Heap) (L : List Loc) : Prop := v = some (.int (if a1 = w_PREV then -p2 else if a1 = w_NEXT then p2 else 0)) ∧ Fr n0 L ∧ h = h0
set_option maxRecDepth 65536 in
set_option maxHeartbeats 40000000 in
theorem rmS (l : Launch) (Z : State) (a0 : Array Value) (hw : ∀ d ∈ tables_1, d.before a0 Z = true) (ws : List Jvm.Cond) (a1 : Addr) (p2 : Int32) (w_FIRST : Addr) (w_LAST : Addr) (w_PREV : Addr) (w_NEXT : Addr) (h0 : Heap) (n0 : Nat) (Z0 : n0 ≤ h0.size) (hWd : Wd Z h0 w_FIRST w_LAST w_PREV w_NEXT) :
    MetFree l (⟨"com/example/rowmotif/rowmotif/expr/NavigationFunction", "shift", "(I)I"⟩ : MethodName) (head1 (Jvm.Cond.code (⟨"com/example/rowmotif/rowmotif/expr/NavigationFunction", "shift", "(I)I"⟩ : MethodName) prog_49_method_7_code 2 (some .int) :: ws) ({ frames := 0, cells := 0, slots := 0, locals := 0 } : Room)) (fun av_ U_ => av_ = #[(.ref a1), (.int p2)] ∧ Z.Warmed39 U_.vm ∧ U_.heap = h0) (fun _ _ _ _ _ => True) (fun _ U_ o_ V_ => ∃ v_ L_, o_ = .returned v_ ∧ Q_rmS Z a1 p2 w_FIRST w_LAST w_PREV w_NEXT h0 n0 v_ V_.heap L_ ∧ FrameEnd U_ o_ V_ L_ ({ frames := 0, cells := 0, slots := 0, locals := 0 } : Room).cells ({ frames := 0, cells := 0, slots := 0, locals := 0 } : Room).slots) := by
  refine MetFree.of_bodySF (plainFor_of_name pn_com_example_rowmotif_rowmotif_expr_NavigationFunction) hisR ?_
  intro p e s m args below meth c s₁ Bd hml0 hP hK
  obtain ⟨rfl, hZ, hh⟩ := hP
  have hx := Bd.exec
  have hby := Bd.bytes
  have hml : c.maxLocals = 2 := hml0
  have hown : s.vm.findClass "com/example/rowmotif/rowmotif/expr/NavigationFunction" = some m.cls := findClass_of_methodNamed Bd.named
  have hnm := (name_of_methodNamed Bd.named Bd.method).1
  have X0 : Stand p l e ({ frames := 0, cells := 0, slots := 0, locals := 0 } : Room) s m #[(.ref a1), (.int p2)] below meth c s₁ [] 0 0 := Stand.of_body Bd
  have e0 : s₁.heap = h0 := by rw [← hh, Bd.state]; rfl
  have N0 := Fr.nil n0
  have pre0 : ∀ t_, Go p e below s₁ (mkF m 0 #[rv a1, iv p2] []) t_ → Go p e below s₁ (entryFrame m #[(.ref a1), (.int p2)] 2) t_ := fun t_ kt => castTop (ef_1 m a1 p2) kt
  have hWd0 := hWd
  obtain ⟨⟨S_FIRST, E_FIRST, F_FIRST⟩, ⟨S_LAST, E_LAST, F_LAST⟩, ⟨S_PREV, E_PREV, F_PREV⟩, ⟨S_NEXT, E_NEXT, F_NEXT⟩⟩ := hWd
  obtain ⟨T1, X1, e1, st1⟩ := getS2 X0 hx hZ hown (host := "") (Or.inl (hwi hw 17 rfl)) Via.refl e0 S_PREV (g := (mkF m 1 #[rv a1, iv p2] [(.ref a1)])) rfl (hb hby d1_1)
  have pre2 : ∀ t_, Go p e below T1 (mkF m 4 #[rv a1, iv p2] [(.ref w_PREV), (.ref a1)]) t_ → Go p e below s₁ (entryFrame m #[(.ref a1), (.int p2)] 2) t_ := fun t_ kt => pre0 _ (by
      show Go p e below s₁ (mkF m 0 #[rv a1, iv p2] []) _
      refine XS.aloadN X0.here hx rfl (hb hby d1_0) rfl rfl ?_
      show Go p e below s₁ (mkF m 1 #[rv a1, iv p2] [(.ref a1)]) _
      refine st1 _ ?_
      show Go p e below T1 (mkF m 4 #[rv a1, iv p2] [(.ref w_PREV), (.ref a1)]) _
      exact kt)
  by_cases hc4_3 : a1 = w_PREV
  · have pre4 : ∀ t_, Go p e below T1 (mkF m 24 #[rv a1, iv p2] [(.int (-p2))]) t_ → Go p e below s₁ (entryFrame m #[(.ref a1), (.int p2)] 2) t_ := fun t_ kt => pre2 _ (by
        show Go p e below T1 (mkF m 4 #[rv a1, iv p2] [(.ref w_PREV), (.ref a1)]) _
        refine Jvm.RoadKit.acmp (g := (mkF m 4 #[rv a1, iv p2] [(.ref w_PREV), (.ref a1)])) X1 hx rfl rfl rfl (pc0 := 4) (pc' := 7) (same := true) rfl (hb hby d1_4) rfl (decide_eq_true (congrArg Value.ref hc4_3)) (by decide) (by decide) ?_
        show Go p e below T1 (mkF m 7 #[rv a1, iv p2] []) _
        refine XS.iloadN X1.here hx rfl (hb hby d1_7) rfl ?_
        show Go p e below T1 (mkF m 8 #[rv a1, iv p2] [(.int p2)]) _
        refine XS.ineg X1.here hx rfl (hb hby d1_8) rfl ?_
        show Go p e below T1 (mkF m 9 #[rv a1, iv p2] [(.int (-p2))]) _
        refine XS.goto X1.here hx rfl (pc0 := 9) (pc' := 24) rfl (hb hby d1_9) (by decide) (by decide) ?_
        show Go p e below T1 (mkF m 24 #[rv a1, iv p2] [(.int (-p2))]) _
        exact kt)
    obtain ⟨fs, hr, hrun, hended, hW, hsame⟩ := X1.leave (v := some (.int (-p2))) (fun h => by rw [Bd.returns] at h; cases h)
    refine ⟨_, _, pre4 _ ?_, hrun, hended, _, _, rfl, ?_, ⟨_, rfl⟩, hW, hsame.mono (by decide) (by decide)⟩
    · show Steps p.tables e below (T1.setTop (mkF m 24 #[rv a1, iv p2] [(.int (-p2))])) _
      exact retI X1 hx Bd.returns (hb hby d1_24) hr
    · show Q_rmS Z a1 p2 w_FIRST w_LAST w_PREV w_NEXT h0 n0 _ T1.heap _
      rw [e1]
      exact ⟨by rw [if_pos hc4_3], N0, rfl⟩
  · obtain ⟨T5, X5, e5, st5⟩ := getS2 X1 hx hZ hown (host := "") (Or.inl (hwi hw 18 rfl)) Via.refl e1 S_NEXT (g := (mkF m 13 #[rv a1, iv p2] [(.ref a1)])) rfl (hb hby d1_13)
    have pre6 : ∀ t_, Go p e below T5 (mkF m 16 #[rv a1, iv p2] [(.ref w_NEXT), (.ref a1)]) t_ → Go p e below s₁ (entryFrame m #[(.ref a1), (.int p2)] 2) t_ := fun t_ kt => pre2 _ (by
        show Go p e below T1 (mkF m 4 #[rv a1, iv p2] [(.ref w_PREV), (.ref a1)]) _
        refine Jvm.RoadKit.acmp (g := (mkF m 4 #[rv a1, iv p2] [(.ref w_PREV), (.ref a1)])) X1 hx rfl rfl rfl (pc0 := 4) (pc' := 12) (same := false) rfl (hb hby d1_4) rfl (decide_eq_false fun q => hc4_3 (Value.ref.inj q)) (by decide) (by decide) ?_
        show Go p e below T1 (mkF m 12 #[rv a1, iv p2] []) _
        refine XS.aloadN X1.here hx rfl (hb hby d1_12) rfl rfl ?_
        show Go p e below T1 (mkF m 13 #[rv a1, iv p2] [(.ref a1)]) _
        refine st5 _ ?_
        show Go p e below T5 (mkF m 16 #[rv a1, iv p2] [(.ref w_NEXT), (.ref a1)]) _
        exact kt)
    by_cases hc16_7 : a1 = w_NEXT
    · have pre8 : ∀ t_, Go p e below T5 (mkF m 24 #[rv a1, iv p2] [(.int p2)]) t_ → Go p e below s₁ (entryFrame m #[(.ref a1), (.int p2)] 2) t_ := fun t_ kt => pre6 _ (by
          show Go p e below T5 (mkF m 16 #[rv a1, iv p2] [(.ref w_NEXT), (.ref a1)]) _
          refine Jvm.RoadKit.acmp (g := (mkF m 16 #[rv a1, iv p2] [(.ref w_NEXT), (.ref a1)])) X5 hx rfl rfl rfl (pc0 := 16) (pc' := 19) (same := true) rfl (hb hby d1_16) rfl (decide_eq_true (congrArg Value.ref hc16_7)) (by decide) (by decide) ?_
          show Go p e below T5 (mkF m 19 #[rv a1, iv p2] []) _
          refine XS.iloadN X5.here hx rfl (hb hby d1_19) rfl ?_
          show Go p e below T5 (mkF m 20 #[rv a1, iv p2] [(.int p2)]) _
          refine XS.goto X5.here hx rfl (pc0 := 20) (pc' := 24) rfl (hb hby d1_20) (by decide) (by decide) ?_
          show Go p e below T5 (mkF m 24 #[rv a1, iv p2] [(.int p2)]) _
          exact kt)
      obtain ⟨fs, hr, hrun, hended, hW, hsame⟩ := X5.leave (v := some (.int p2)) (fun h => by rw [Bd.returns] at h; cases h)
      refine ⟨_, _, pre8 _ ?_, hrun, hended, _, _, rfl, ?_, ⟨_, rfl⟩, hW, hsame.mono (by decide) (by decide)⟩
      · show Steps p.tables e below (T5.setTop (mkF m 24 #[rv a1, iv p2] [(.int p2)])) _
        exact retI X5 hx Bd.returns (hb hby d1_24) hr
      · show Q_rmS Z a1 p2 w_FIRST w_LAST w_PREV w_NEXT h0 n0 _ T5.heap _
        rw [e5]
        exact ⟨by rw [if_neg hc4_3, if_pos hc16_7], N0, rfl⟩
    · have pre9 : ∀ t_, Go p e below T5 (mkF m 24 #[rv a1, iv p2] [(.int 0)]) t_ → Go p e below s₁ (entryFrame m #[(.ref a1), (.int p2)] 2) t_ := fun t_ kt => pre6 _ (by
          show Go p e below T5 (mkF m 16 #[rv a1, iv p2] [(.ref w_NEXT), (.ref a1)]) _
          refine Jvm.RoadKit.acmp (g := (mkF m 16 #[rv a1, iv p2] [(.ref w_NEXT), (.ref a1)])) X5 hx rfl rfl rfl (pc0 := 16) (pc' := 23) (same := false) rfl (hb hby d1_16) rfl (decide_eq_false fun q => hc16_7 (Value.ref.inj q)) (by decide) (by decide) ?_
          show Go p e below T5 (mkF m 23 #[rv a1, iv p2] []) _
          refine XS.iconst X5.here hx rfl (hb hby d1_23) ?_
          show Go p e below T5 (mkF m 24 #[rv a1, iv p2] [(.int 0)]) _
          exact kt)
      obtain ⟨fs, hr, hrun, hended, hW, hsame⟩ := X5.leave (v := some (.int 0)) (fun h => by rw [Bd.returns] at h; cases h)
      refine ⟨_, _, pre9 _ ?_, hrun, hended, _, _, rfl, ?_, ⟨_, rfl⟩, hW, hsame.mono (by decide) (by decide)⟩
      · show Steps p.tables e below (T5.setTop (mkF m 24 #[rv a1, iv p2] [(.int 0)])) _
        exact retI X5 hx Bd.returns (hb hby d1_24) hr
      · show Q_rmS Z a1 p2 w_FIRST w_LAST w_PREV w_NEXT h0 n0 _ T5.heap _
        rw [e5]
        exact ⟨by rw [if_neg hc4_3, if_neg hc16_7], N0, rfl⟩
theorem ef_2 (m : MethodId) (x0 : Addr) : entryFrame m #[(.ref x0)] 1 = mkF m 0 #[.val (.ref x0)] [] := by first | (simp [entryFrame, mkF, argsToLocals, Value.category]; done) | rfl
theorem d2_0 : decode prog_49_method_6_code 0 = .ok (.aload_n 0, 1) := by decide +kernel
theorem d2_1 : decode prog_49_method_6_code 1 = .ok (.getstatic 10, 3) := by decide +kernel
theorem d2_4 : decode prog_49_method_6_code 4 = .ok (.if_acmp .eq 10, 3) := by decide +kernel
theorem d2_14 : decode prog_49_method_6_code 14 = .ok (.iconst 1, 1) := by decide +kernel
theorem d2_15 : decode prog_49_method_6_code 15 = .ok (.goto 4, 3) := by decide +kernel
theorem d2_19 : decode prog_49_method_6_code 19 = .ok (.ireturn, 1) := by decide +kernel
theorem d2_7 : decode prog_49_method_6_code 7 = .ok (.aload_n 0, 1) := by decide +kernel
theorem d2_8 : decode prog_49_method_6_code 8 = .ok (.getstatic 13, 3) := by decide +kernel
theorem d2_11 : decode prog_49_method_6_code 11 = .ok (.if_acmp .ne 7, 3) := by decide +kernel
theorem d2_18 : decode prog_49_method_6_code 18 = .ok (.iconst 0, 1) := by decide +kernel
def Q_rmP (Z : State) (a1 : Addr) (w_FIRST : Addr) (w_LAST : Addr) (w_PREV : Addr) (w_NEXT : Addr) (h0 : Heap) (n0 : Nat) (v : Option Value) (h : Heap) (L : List Loc) : Prop := v = some (.int (if a1 = w_PREV ∨ a1 = w_NEXT then 1 else 0)) ∧ Fr n0 L ∧ h = h0
set_option maxRecDepth 65536 in
set_option maxHeartbeats 40000000 in
theorem rmP (l : Launch) (Z : State) (a0 : Array Value) (hw : ∀ d ∈ tables_1, d.before a0 Z = true) (ws : List Jvm.Cond) (a1 : Addr) (w_FIRST : Addr) (w_LAST : Addr) (w_PREV : Addr) (w_NEXT : Addr) (h0 : Heap) (n0 : Nat) (Z0 : n0 ≤ h0.size) (hWd : Wd Z h0 w_FIRST w_LAST w_PREV w_NEXT) :
    MetFree l (⟨"com/example/rowmotif/rowmotif/expr/NavigationFunction", "isPhysical", "()Z"⟩ : MethodName) (head1 (Jvm.Cond.code (⟨"com/example/rowmotif/rowmotif/expr/NavigationFunction", "isPhysical", "()Z"⟩ : MethodName) prog_49_method_6_code 1 (some .boolean) :: ws) ({ frames := 0, cells := 0, slots := 0, locals := 0 } : Room)) (fun av_ U_ => av_ = #[(.ref a1)] ∧ Z.Warmed39 U_.vm ∧ U_.heap = h0) (fun _ _ _ _ _ => True) (fun _ U_ o_ V_ => ∃ v_ L_, o_ = .returned v_ ∧ Q_rmP Z a1 w_FIRST w_LAST w_PREV w_NEXT h0 n0 v_ V_.heap L_ ∧ FrameEnd U_ o_ V_ L_ ({ frames := 0, cells := 0, slots := 0, locals := 0 } : Room).cells ({ frames := 0, cells := 0, slots := 0, locals := 0 } : Room).slots) := by
  refine MetFree.of_bodySF (plainFor_of_name pn_com_example_rowmotif_rowmotif_expr_NavigationFunction) hisR ?_
  intro p e s m args below meth c s₁ Bd hml0 hP hK
  obtain ⟨rfl, hZ, hh⟩ := hP
  have hx := Bd.exec
  have hby := Bd.bytes
  have hml : c.maxLocals = 1 := hml0
  have hown : s.vm.findClass "com/example/rowmotif/rowmotif/expr/NavigationFunction" = some m.cls := findClass_of_methodNamed Bd.named
  have hnm := (name_of_methodNamed Bd.named Bd.method).1
  have X0 : Stand p l e ({ frames := 0, cells := 0, slots := 0, locals := 0 } : Room) s m #[(.ref a1)] below meth c s₁ [] 0 0 := Stand.of_body Bd
  have e0 : s₁.heap = h0 := by rw [← hh, Bd.state]; rfl
  have N0 := Fr.nil n0
  have pre0 : ∀ t_, Go p e below s₁ (mkF m 0 #[rv a1] []) t_ → Go p e below s₁ (entryFrame m #[(.ref a1)] 1) t_ := fun t_ kt => castTop (ef_2 m a1) kt
  have hWd0 := hWd
  obtain ⟨⟨S_FIRST, E_FIRST, F_FIRST⟩, ⟨S_LAST, E_LAST, F_LAST⟩, ⟨S_PREV, E_PREV, F_PREV⟩, ⟨S_NEXT, E_NEXT, F_NEXT⟩⟩ := hWd
  obtain ⟨T1, X1, e1, st1⟩ := getS2 X0 hx hZ hown (host := "") (Or.inl (hwi hw 17 rfl)) Via.refl e0 S_PREV (g := (mkF m 1 #[rv a1] [(.ref a1)])) rfl (hb hby d2_1)
  have pre2 : ∀ t_, Go p e below T1 (mkF m 4 #[rv a1] [(.ref w_PREV), (.ref a1)]) t_ → Go p e below s₁ (entryFrame m #[(.ref a1)] 1) t_ := fun t_ kt => pre0 _ (by
      show Go p e below s₁ (mkF m 0 #[rv a1] []) _
      refine XS.aloadN X0.here hx rfl (hb hby d2_0) rfl rfl ?_
      show Go p e below s₁ (mkF m 1 #[rv a1] [(.ref a1)]) _
      refine st1 _ ?_
      show Go p e below T1 (mkF m 4 #[rv a1] [(.ref w_PREV), (.ref a1)]) _
      exact kt)
  by_cases hc4_3 : a1 = w_PREV
  · have pre4 : ∀ t_, Go p e below T1 (mkF m 19 #[rv a1] [(.int 1)]) t_ → Go p e below s₁ (entryFrame m #[(.ref a1)] 1) t_ := fun t_ kt => pre2 _ (by
        show Go p e below T1 (mkF m 4 #[rv a1] [(.ref w_PREV), (.ref a1)]) _
        refine Jvm.RoadKit.acmp (g := (mkF m 4 #[rv a1] [(.ref w_PREV), (.ref a1)])) X1 hx rfl rfl rfl (pc0 := 4) (pc' := 14) (same := true) rfl (hb hby d2_4) rfl (decide_eq_true (congrArg Value.ref hc4_3)) (by decide) (by decide) ?_
        show Go p e below T1 (mkF m 14 #[rv a1] []) _
        refine XS.iconst X1.here hx rfl (hb hby d2_14) ?_
        show Go p e below T1 (mkF m 15 #[rv a1] [(.int 1)]) _
        refine XS.goto X1.here hx rfl (pc0 := 15) (pc' := 19) rfl (hb hby d2_15) (by decide) (by decide) ?_
        show Go p e below T1 (mkF m 19 #[rv a1] [(.int 1)]) _
        exact kt)
    obtain ⟨fs, hr, hrun, hended, hW, hsame⟩ := X1.leave (v := some (.int 1)) (fun h => by rw [Bd.returns] at h; cases h)
    refine ⟨_, _, pre4 _ ?_, hrun, hended, _, _, rfl, ?_, ⟨_, rfl⟩, hW, hsame.mono (by decide) (by decide)⟩
    · show Steps p.tables e below (T1.setTop (mkF m 19 #[rv a1] [(.int 1)])) _
      exact retN X1 hx (t := .boolean) Bd.returns (by simp) (hb hby d2_19) hr
    · show Q_rmP Z a1 w_FIRST w_LAST w_PREV w_NEXT h0 n0 _ T1.heap _
      rw [e1]
      exact ⟨by simp [hc4_3], N0, rfl⟩
  · obtain ⟨T5, X5, e5, st5⟩ := getS2 X1 hx hZ hown (host := "") (Or.inl (hwi hw 18 rfl)) Via.refl e1 S_NEXT (g := (mkF m 8 #[rv a1] [(.ref a1)])) rfl (hb hby d2_8)
    have pre6 : ∀ t_, Go p e below T5 (mkF m 11 #[rv a1] [(.ref w_NEXT), (.ref a1)]) t_ → Go p e below s₁ (entryFrame m #[(.ref a1)] 1) t_ := fun t_ kt => pre2 _ (by
        show Go p e below T1 (mkF m 4 #[rv a1] [(.ref w_PREV), (.ref a1)]) _
        refine Jvm.RoadKit.acmp (g := (mkF m 4 #[rv a1] [(.ref w_PREV), (.ref a1)])) X1 hx rfl rfl rfl (pc0 := 4) (pc' := 7) (same := false) rfl (hb hby d2_4) rfl (decide_eq_false fun q => hc4_3 (Value.ref.inj q)) (by decide) (by decide) ?_
        show Go p e below T1 (mkF m 7 #[rv a1] []) _
        refine XS.aloadN X1.here hx rfl (hb hby d2_7) rfl rfl ?_
        show Go p e below T1 (mkF m 8 #[rv a1] [(.ref a1)]) _
        refine st5 _ ?_
        show Go p e below T5 (mkF m 11 #[rv a1] [(.ref w_NEXT), (.ref a1)]) _
        exact kt)
    by_cases hc11_7 : a1 = w_NEXT
    · have pre8 : ∀ t_, Go p e below T5 (mkF m 19 #[rv a1] [(.int 1)]) t_ → Go p e below s₁ (entryFrame m #[(.ref a1)] 1) t_ := fun t_ kt => pre6 _ (by
          show Go p e below T5 (mkF m 11 #[rv a1] [(.ref w_NEXT), (.ref a1)]) _
          refine Jvm.RoadKit.acmp (g := (mkF m 11 #[rv a1] [(.ref w_NEXT), (.ref a1)])) X5 hx rfl rfl rfl (pc0 := 11) (pc' := 14) (same := true) rfl (hb hby d2_11) rfl (decide_eq_true (congrArg Value.ref hc11_7)) (by decide) (by decide) ?_
          show Go p e below T5 (mkF m 14 #[rv a1] []) _
          refine XS.iconst X5.here hx rfl (hb hby d2_14) ?_
          show Go p e below T5 (mkF m 15 #[rv a1] [(.int 1)]) _
          refine XS.goto X5.here hx rfl (pc0 := 15) (pc' := 19) rfl (hb hby d2_15) (by decide) (by decide) ?_
          show Go p e below T5 (mkF m 19 #[rv a1] [(.int 1)]) _
          exact kt)
      obtain ⟨fs, hr, hrun, hended, hW, hsame⟩ := X5.leave (v := some (.int 1)) (fun h => by rw [Bd.returns] at h; cases h)
      refine ⟨_, _, pre8 _ ?_, hrun, hended, _, _, rfl, ?_, ⟨_, rfl⟩, hW, hsame.mono (by decide) (by decide)⟩
      · show Steps p.tables e below (T5.setTop (mkF m 19 #[rv a1] [(.int 1)])) _
        exact retN X5 hx (t := .boolean) Bd.returns (by simp) (hb hby d2_19) hr
      · show Q_rmP Z a1 w_FIRST w_LAST w_PREV w_NEXT h0 n0 _ T5.heap _
        rw [e5]
        exact ⟨by simp [hc4_3, hc11_7], N0, rfl⟩
    · have pre9 : ∀ t_, Go p e below T5 (mkF m 19 #[rv a1] [(.int 0)]) t_ → Go p e below s₁ (entryFrame m #[(.ref a1)] 1) t_ := fun t_ kt => pre6 _ (by
          show Go p e below T5 (mkF m 11 #[rv a1] [(.ref w_NEXT), (.ref a1)]) _
          refine Jvm.RoadKit.acmp (g := (mkF m 11 #[rv a1] [(.ref w_NEXT), (.ref a1)])) X5 hx rfl rfl rfl (pc0 := 11) (pc' := 18) (same := false) rfl (hb hby d2_11) rfl (decide_eq_false fun q => hc11_7 (Value.ref.inj q)) (by decide) (by decide) ?_
          show Go p e below T5 (mkF m 18 #[rv a1] []) _
          refine XS.iconst X5.here hx rfl (hb hby d2_18) ?_
          show Go p e below T5 (mkF m 19 #[rv a1] [(.int 0)]) _
          exact kt)
      obtain ⟨fs, hr, hrun, hended, hW, hsame⟩ := X5.leave (v := some (.int 0)) (fun h => by rw [Bd.returns] at h; cases h)
      refine ⟨_, _, pre9 _ ?_, hrun, hended, _, _, rfl, ?_, ⟨_, rfl⟩, hW, hsame.mono (by decide) (by decide)⟩
      · show Steps p.tables e below (T5.setTop (mkF m 19 #[rv a1] [(.int 0)])) _
        exact retN X5 hx (t := .boolean) Bd.returns (by simp) (hb hby d2_19) hr
      · show Q_rmP Z a1 w_FIRST w_LAST w_PREV w_NEXT h0 n0 _ T5.heap _
        rw [e5]
        exact ⟨by simp [hc4_3, hc11_7], N0, rfl⟩
theorem ef_0 (m : MethodId) (x0 : Int32) (x1 : Int32) (x2 : Int32) : entryFrame m #[(.int x0), (.int x1), (.int x2)] maxLocals = mkF m 0 #[.val (.int x0), .val (.int x1), .val (.int x2), .unset, .unset, .unset, .unset, .unset, .unset, .unset, .unset] [] := by first | (simp [entryFrame, mkF, argsToLocals, Value.category, maxLocals]; done) | rfl
theorem pn_com_example_rowmotif_rowmotif_expr_NavigationFunctionShiftPinLaw : plainName "com/example/rowmotif/rowmotif/expr/NavigationFunctionShiftPinLaw" = true := by first | (simp [plainName, overriddenIn]; done) | decide +kernel
theorem pd_0 : parseMethodDescriptor "(I)I" = some ⟨[.int], some .int⟩ := by decide +kernel
theorem pd_1 : parseMethodDescriptor "()Z" = some ⟨[], some .boolean⟩ := by decide +kernel
def Q_rmL (Z : State) (p1 : Int32) (p2 : Int32) (p3 : Int32) (w_FIRST : Addr) (w_LAST : Addr) (w_PREV : Addr) (w_NEXT : Addr) (h0 : Heap) (n0 : Nat) (v : Option Value) (h : Heap) (L : List Loc) : Prop := v = some (.int 1) ∧ Fr n0 L
set_option maxRecDepth 65536 in
set_option maxHeartbeats 40000000 in
theorem rmL (l : Launch) (Z : State) (a0 : Array Value) (hw : ∀ d ∈ tables_1, d.before a0 Z = true) (ws : List Jvm.Cond) (p1 : Int32) (p2 : Int32) (p3 : Int32) (w_FIRST : Addr) (w_LAST : Addr) (w_PREV : Addr) (w_NEXT : Addr) (h0 : Heap) (n0 : Nat) (Z0 : n0 ≤ h0.size) (hWd : Wd Z h0 w_FIRST w_LAST w_PREV w_NEXT) :
    MetFree l x (head1 (Jvm.Cond.code x code maxLocals ret :: ws) room_1) (fun av_ U_ => av_ = #[(.int p1), (.int p2), (.int p3)] ∧ Z.Warmed39 U_.vm ∧ U_.heap = h0) (fun _ _ _ _ _ => True) (fun _ U_ o_ V_ => ∃ v_ L_, o_ = .returned v_ ∧ Q_rmL Z p1 p2 p3 w_FIRST w_LAST w_PREV w_NEXT h0 n0 v_ V_.heap L_ ∧ FrameEnd U_ o_ V_ L_ room_1.cells room_1.slots) := by
  refine MetFree.of_bodySF (plainFor_of_name pn_com_example_rowmotif_rowmotif_expr_NavigationFunctionShiftPinLaw) hisR ?_
  intro p e s m args below meth c s₁ Bd hml0 hP hK
  obtain ⟨rfl, hZ, hh⟩ := hP
  have hx := Bd.exec
  have hby := Bd.bytes
  have hml : c.maxLocals = 11 := hml0
  have hown : s.vm.findClass "com/example/rowmotif/rowmotif/expr/NavigationFunctionShiftPinLaw" = some m.cls := findClass_of_methodNamed Bd.named
  have hnm := (name_of_methodNamed Bd.named Bd.method).1
  have X0 : Stand p l e room_1 s m #[(.int p1), (.int p2), (.int p3)] below meth c s₁ [] 0 0 := Stand.of_body Bd
  have e0 : s₁.heap = h0 := by rw [← hh, Bd.state]; rfl
  have N0 := Fr.nil n0
  have pre0 : ∀ t_, Go p e below s₁ (mkF m 0 #[iv p1, iv p2, iv p3, .unset, .unset, .unset, .unset, .unset, .unset, .unset, .unset] []) t_ → Go p e below s₁ (entryFrame m #[(.int p1), (.int p2), (.int p3)] maxLocals) t_ := fun t_ kt => castTop (ef_0 m p1 p2 p3) kt
  have hWd0 := hWd
  obtain ⟨⟨S_FIRST, E_FIRST, F_FIRST⟩, ⟨S_LAST, E_LAST, F_LAST⟩, ⟨S_PREV, E_PREV, F_PREV⟩, ⟨S_NEXT, E_NEXT, F_NEXT⟩⟩ := hWd
  obtain ⟨T1, h1, k1, X1, e1, E1, A1, O1, st1⟩ := newR X0 hx hZ hown (hwi hw 0 rfl) (hwi hw 1 rfl) e0 (g := (mkF m 1 #[iv p1, iv p2, iv p3, .unset, .unset, .unset, .unset, .unset, .unset, .unset, .unset] [(.int 4)])) rfl (hb hby at_1) rfl (by decide) (cap := 4) (by decide) (by decide) (by decide) (by decide)
  obtain ⟨b1, g1⟩ : ∃ z, z = h0.size := ⟨_, rfl⟩
  rw [← g1] at A1 st1
  have V1 : Arv Z h1 b1 k1 (.object "com/example/rowmotif/rowmotif/expr/NavigationFunction") (4 : Int32) [.null, .null, .null, .null] .null := (Arv.new A1 (by decide)).pad (pad_rep [] .null 4)
  have sz_b1 : h0.size ≤ b1 := Nat.le_trans (Keep.refl h0 []).1 (Nat.le_of_eq g1.symm)
  have g_b1 : n0 ≤ b1 := Nat.le_trans Z0 sz_b1
  have K1 : Keep h0 h1 [] := (Keep.refl h0 []).ext E1
  obtain ⟨T2, X2, e2, st2⟩ := getS2 X1 hx hZ hown (host := "") (Or.inl (hwi hw 2 rfl)) Via.refl e1 (S_FIRST.ext (own_ext K1)) (g := (mkF m 6 #[iv p1, iv p2, iv p3, .unset, .unset, .unset, .unset, .unset, .unset, .unset, .unset] [(.int 0), (.ref b1), (.ref b1)])) rfl (hb hby at_6)
  obtain ⟨cl3, Ar3, qa3, Sa3, Na3, Ha3, Ga3⟩ := V1
  have hin3 : ¬ ((0 : Int32) < 0 ∨ cl3.slots.size ≤ ((0 : Int32)).toNatClampNeg) := inb_of Sa3 ⟨by decide, by decide⟩
  obtain ⟨T4, h4, X4, e4, W4, st4⟩ := stR X2 hx hZ e2 Ar3 (j := (0 : Int32)) hin3 rfl (Sto.ofV Ar3 qa3 O1 (Ins.self (E_FIRST.ext (own_ext K1)))) (g := (mkF m 9 #[iv p1, iv p2, iv p3, .unset, .unset, .unset, .unset, .unset, .unset, .unset, .unset] [(.ref w_FIRST), (.int 0), (.ref b1), (.ref b1)])) rfl rfl (hb hby at_9)
  have V4 : Arv Z h4 b1 k1 (.object "com/example/rowmotif/rowmotif/expr/NavigationFunction") (4 : Int32) [(.ref w_FIRST), .null, .null, .null] .null := Arv.set Ar3 qa3 Sa3 Na3 Ha3 Ga3 rfl W4 0 rfl (Nat.le_of_ble_eq_true rfl)
  have K4 : Keep h0 h4 [] := K1.wr W4 (Or.inr sz_b1)
  have N4 := Fr.snoc X4 N0 g_b1
  obtain ⟨T5, X5, e5, st5⟩ := getS2 X4 hx hZ hown (host := "") (Or.inl (hwi hw 6 rfl)) Via.refl e4 (S_LAST.ext (own_ext K4)) (g := (mkF m 12 #[iv p1, iv p2, iv p3, .unset, .unset, .unset, .unset, .unset, .unset, .unset, .unset] [(.int 1), (.ref b1), (.ref b1)])) rfl (hb hby at_12)
  obtain ⟨cl6, Ar6, qa6, Sa6, Na6, Ha6, Ga6⟩ := V4
  have hin6 : ¬ ((1 : Int32) < 0 ∨ cl6.slots.size ≤ ((1 : Int32)).toNatClampNeg) := inb_of Sa6 ⟨by decide, by decide⟩
  obtain ⟨T7, h7, X7, e7, W7, st7⟩ := stR X5 hx hZ e5 Ar6 (j := (1 : Int32)) hin6 rfl (Sto.ofV Ar6 qa6 O1 (Ins.self (E_LAST.ext (own_ext K4)))) (g := (mkF m 15 #[iv p1, iv p2, iv p3, .unset, .unset, .unset, .unset, .unset, .unset, .unset, .unset] [(.ref w_LAST), (.int 1), (.ref b1), (.ref b1)])) rfl rfl (hb hby at_15)
  have V7 : Arv Z h7 b1 k1 (.object "com/example/rowmotif/rowmotif/expr/NavigationFunction") (4 : Int32) [(.ref w_FIRST), (.ref w_LAST), .null, .null] .null := Arv.set Ar6 qa6 Sa6 Na6 Ha6 Ga6 rfl W7 1 rfl (Nat.le_of_ble_eq_true rfl)
  have K7 : Keep h0 h7 [] := K4.wr W7 (Or.inr sz_b1)
  have N7 := Fr.snoc X7 N4 g_b1
  obtain ⟨T8, X8, e8, st8⟩ := getS2 X7 hx hZ hown (host := "") (Or.inl (hwi hw 8 rfl)) Via.refl e7 (S_PREV.ext (own_ext K7)) (g := (mkF m 18 #[iv p1, iv p2, iv p3, .unset, .unset, .unset, .unset, .unset, .unset, .unset, .unset] [(.int 2), (.ref b1), (.ref b1)])) rfl (hb hby at_18)
  obtain ⟨cl9, Ar9, qa9, Sa9, Na9, Ha9, Ga9⟩ := V7
  have hin9 : ¬ ((2 : Int32) < 0 ∨ cl9.slots.size ≤ ((2 : Int32)).toNatClampNeg) := inb_of Sa9 ⟨by decide, by decide⟩
  obtain ⟨T10, h10, X10, e10, W10, st10⟩ := stR X8 hx hZ e8 Ar9 (j := (2 : Int32)) hin9 rfl (Sto.ofV Ar9 qa9 O1 (Ins.self (E_PREV.ext (own_ext K7)))) (g := (mkF m 21 #[iv p1, iv p2, iv p3, .unset, .unset, .unset, .unset, .unset, .unset, .unset, .unset] [(.ref w_PREV), (.int 2), (.ref b1), (.ref b1)])) rfl rfl (hb hby at_21)
  have V10 : Arv Z h10 b1 k1 (.object "com/example/rowmotif/rowmotif/expr/NavigationFunction") (4 : Int32) [(.ref w_FIRST), (.ref w_LAST), (.ref w_PREV), .null] .null := Arv.set Ar9 qa9 Sa9 Na9 Ha9 Ga9 rfl W10 2 rfl (Nat.le_of_ble_eq_true rfl)
  have K10 : Keep h0 h10 [] := K7.wr W10 (Or.inr sz_b1)
  have N10 := Fr.snoc X10 N7 g_b1
  obtain ⟨T11, X11, e11, st11⟩ := getS2 X10 hx hZ hown (host := "") (Or.inl (hwi hw 10 rfl)) Via.refl e10 (S_NEXT.ext (own_ext K10)) (g := (mkF m 24 #[iv p1, iv p2, iv p3, .unset, .unset, .unset, .unset, .unset, .unset, .unset, .unset] [(.int 3), (.ref b1), (.ref b1)])) rfl (hb hby at_24)
  obtain ⟨cl12, Ar12, qa12, Sa12, Na12, Ha12, Ga12⟩ := V10
  have hin12 : ¬ ((3 : Int32) < 0 ∨ cl12.slots.size ≤ ((3 : Int32)).toNatClampNeg) := inb_of Sa12 ⟨by decide, by decide⟩
  obtain ⟨T13, h13, X13, e13, W13, st13⟩ := stR X11 hx hZ e11 Ar12 (j := (3 : Int32)) hin12 rfl (Sto.ofV Ar12 qa12 O1 (Ins.self (E_NEXT.ext (own_ext K10)))) (g := (mkF m 27 #[iv p1, iv p2, iv p3, .unset, .unset, .unset, .unset, .unset, .unset, .unset, .unset] [(.ref w_NEXT), (.int 3), (.ref b1), (.ref b1)])) rfl rfl (hb hby at_27)
  have V13 : Arv Z h13 b1 k1 (.object "com/example/rowmotif/rowmotif/expr/NavigationFunction") (4 : Int32) [(.ref w_FIRST), (.ref w_LAST), (.ref w_PREV), (.ref w_NEXT)] .null := Arv.set Ar12 qa12 Sa12 Na12 Ha12 Ga12 rfl W13 3 rfl (Nat.le_of_ble_eq_true rfl)
  have K13 : Keep h0 h13 [] := K10.wr W13 (Or.inr sz_b1)
  have N13 := Fr.snoc X13 N10 g_b1
  have hir := own_rng _ (own_and3 p1)
  obtain ⟨i, e_i⟩ : ∃ z : Int32, z = (p1 &&& (3 : Int32)) := ⟨_, rfl⟩
  have pre14 : ∀ t_, Go p e below T13 (mkF m 34 #[iv p1, iv p2, iv p3, rv b1, iv i, .unset, .unset, .unset, .unset, .unset, .unset] []) t_ → Go p e below s₁ (entryFrame m #[(.int p1), (.int p2), (.int p3)] maxLocals) t_ := fun t_ kt => pre0 _ (by
      subst e_i
      show Go p e below s₁ (mkF m 0 #[iv p1, iv p2, iv p3, .unset, .unset, .unset, .unset, .unset, .unset, .unset, .unset] []) _
      refine XS.iconst X0.here hx rfl (hb hby at_0) ?_
      show Go p e below s₁ (mkF m 1 #[iv p1, iv p2, iv p3, .unset, .unset, .unset, .unset, .unset, .unset, .unset, .unset] [(.int 4)]) _
      refine st1 _ ?_
      show Go p e below T1 (mkF m 4 #[iv p1, iv p2, iv p3, .unset, .unset, .unset, .unset, .unset, .unset, .unset, .unset] [(.ref b1)]) _
      refine XS.dup X1.here hx rfl (hb hby at_4) rfl rfl ?_
      show Go p e below T1 (mkF m 5 #[iv p1, iv p2, iv p3, .unset, .unset, .unset, .unset, .unset, .unset, .unset, .unset] [(.ref b1), (.ref b1)]) _
      refine XS.iconst X1.here hx rfl (hb hby at_5) ?_
      show Go p e below T1 (mkF m 6 #[iv p1, iv p2, iv p3, .unset, .unset, .unset, .unset, .unset, .unset, .unset, .unset] [(.int 0), (.ref b1), (.ref b1)]) _
      refine st2 _ ?_
      show Go p e below T2 (mkF m 9 #[iv p1, iv p2, iv p3, .unset, .unset, .unset, .unset, .unset, .unset, .unset, .unset] [(.ref w_FIRST), (.int 0), (.ref b1), (.ref b1)]) _
      refine st4 _ ?_
      show Go p e below T4 (mkF m 10 #[iv p1, iv p2, iv p3, .unset, .unset, .unset, .unset, .unset, .unset, .unset, .unset] [(.ref b1)]) _
      refine XS.dup X4.here hx rfl (hb hby at_10) rfl rfl ?_
      show Go p e below T4 (mkF m 11 #[iv p1, iv p2, iv p3, .unset, .unset, .unset, .unset, .unset, .unset, .unset, .unset] [(.ref b1), (.ref b1)]) _
      refine XS.iconst X4.here hx rfl (hb hby at_11) ?_
      show Go p e below T4 (mkF m 12 #[iv p1, iv p2, iv p3, .unset, .unset, .unset, .unset, .unset, .unset, .unset, .unset] [(.int 1), (.ref b1), (.ref b1)]) _
      refine st5 _ ?_
      show Go p e below T5 (mkF m 15 #[iv p1, iv p2, iv p3, .unset, .unset, .unset, .unset, .unset, .unset, .unset, .unset] [(.ref w_LAST), (.int 1), (.ref b1), (.ref b1)]) _
      refine st7 _ ?_
      show Go p e below T7 (mkF m 16 #[iv p1, iv p2, iv p3, .unset, .unset, .unset, .unset, .unset, .unset, .unset, .unset] [(.ref b1)]) _
      refine XS.dup X7.here hx rfl (hb hby at_16) rfl rfl ?_
      show Go p e below T7 (mkF m 17 #[iv p1, iv p2, iv p3, .unset, .unset, .unset, .unset, .unset, .unset, .unset, .unset] [(.ref b1), (.ref b1)]) _
      refine XS.iconst X7.here hx rfl (hb hby at_17) ?_
      show Go p e below T7 (mkF m 18 #[iv p1, iv p2, iv p3, .unset, .unset, .unset, .unset, .unset, .unset, .unset, .unset] [(.int 2), (.ref b1), (.ref b1)]) _
      refine st8 _ ?_
      show Go p e below T8 (mkF m 21 #[iv p1, iv p2, iv p3, .unset, .unset, .unset, .unset, .unset, .unset, .unset, .unset] [(.ref w_PREV), (.int 2), (.ref b1), (.ref b1)]) _
      refine st10 _ ?_
      show Go p e below T10 (mkF m 22 #[iv p1, iv p2, iv p3, .unset, .unset, .unset, .unset, .unset, .unset, .unset, .unset] [(.ref b1)]) _
      refine XS.dup X10.here hx rfl (hb hby at_22) rfl rfl ?_
      show Go p e below T10 (mkF m 23 #[iv p1, iv p2, iv p3, .unset, .unset, .unset, .unset, .unset, .unset, .unset, .unset] [(.ref b1), (.ref b1)]) _
      refine XS.iconst X10.here hx rfl (hb hby at_23) ?_
      show Go p e below T10 (mkF m 24 #[iv p1, iv p2, iv p3, .unset, .unset, .unset, .unset, .unset, .unset, .unset, .unset] [(.int 3), (.ref b1), (.ref b1)]) _
      refine st11 _ ?_
      show Go p e below T11 (mkF m 27 #[iv p1, iv p2, iv p3, .unset, .unset, .unset, .unset, .unset, .unset, .unset, .unset] [(.ref w_NEXT), (.int 3), (.ref b1), (.ref b1)]) _
      refine st13 _ ?_
      show Go p e below T13 (mkF m 28 #[iv p1, iv p2, iv p3, .unset, .unset, .unset, .unset, .unset, .unset, .unset, .unset] [(.ref b1)]) _
      refine XS.astoreN X13.here hx rfl (hb hby at_28) rfl rfl (l' := #[iv p1, iv p2, iv p3, rv b1, .unset, .unset, .unset, .unset, .unset, .unset, .unset]) rfl ?_
      show Go p e below T13 (mkF m 29 #[iv p1, iv p2, iv p3, rv b1, .unset, .unset, .unset, .unset, .unset, .unset, .unset] []) _
      refine XS.iloadN X13.here hx rfl (hb hby at_29) rfl ?_
      show Go p e below T13 (mkF m 30 #[iv p1, iv p2, iv p3, rv b1, .unset, .unset, .unset, .unset, .unset, .unset, .unset] [(.int p1)]) _
      refine XS.iconst X13.here hx rfl (hb hby at_30) ?_
      show Go p e below T13 (mkF m 31 #[iv p1, iv p2, iv p3, rv b1, .unset, .unset, .unset, .unset, .unset, .unset, .unset] [(.int 3), (.int p1)]) _
      refine XS.iand X13.here hx rfl (hb hby at_31) rfl ?_
      show Go p e below T13 (mkF m 32 #[iv p1, iv p2, iv p3, rv b1, .unset, .unset, .unset, .unset, .unset, .unset, .unset] [(.int (p1 &&& (3 : Int32)))]) _
      refine XS.istore X13.here hx rfl (hb hby at_32) rfl (l' := #[iv p1, iv p2, iv p3, rv b1, iv (p1 &&& (3 : Int32)), .unset, .unset, .unset, .unset, .unset, .unset]) rfl ?_
      show Go p e below T13 (mkF m 34 #[iv p1, iv p2, iv p3, rv b1, iv (p1 &&& (3 : Int32)), .unset, .unset, .unset, .unset, .unset, .unset] []) _
      exact kt)
  rw [← e_i] at hir
  clear e_i
  obtain ⟨cl15, Ar15, qa15, Sa15, Na15, Ha15, Ga15⟩ := V13
  have hin_a := inb_of (j := i) Sa15 (by rcases hir with rfl | rfl | rfl | rfl <;> decide)
  obtain ⟨a, at_a, Ea, hP, hX⟩ : ∃ a : Addr, ([(.ref w_FIRST), (.ref w_LAST), (.ref w_PREV), (.ref w_NEXT)] : List Value).getD i.toNatClampNeg .null = .ref a ∧ Exa Z h13 a "com/example/rowmotif/rowmotif/expr/NavigationFunction" ∧ (a = w_PREV ↔ i = (2 : Int32)) ∧ (a = w_NEXT ↔ (¬ i < (2 : Int32) ∧ ¬ i = (2 : Int32))) := by
    rcases hir with rfl | rfl | rfl | rfl
    · exact ⟨w_FIRST, rfl, (E_FIRST.ext (own_ext K13)), ⟨fun q => absurd q (Fld.ne F_FIRST F_PREV (by decide)), fun q => absurd q (by decide)⟩, ⟨fun q => absurd q (Fld.ne F_FIRST F_NEXT (by decide)), fun q => absurd q (by decide)⟩⟩
    · exact ⟨w_LAST, rfl, (E_LAST.ext (own_ext K13)), ⟨fun q => absurd q (Fld.ne F_LAST F_PREV (by decide)), fun q => absurd q (by decide)⟩, ⟨fun q => absurd q (Fld.ne F_LAST F_NEXT (by decide)), fun q => absurd q (by decide)⟩⟩
    · exact ⟨w_PREV, rfl, (E_PREV.ext (own_ext K13)), ⟨fun _ => by decide, fun _ => rfl⟩, ⟨fun q => absurd q (Fld.ne F_PREV F_NEXT (by decide)), fun q => absurd q (by decide)⟩⟩
    · exact ⟨w_NEXT, rfl, (E_NEXT.ext (own_ext K13)), ⟨fun q => absurd q (Fld.ne F_NEXT F_PREV (by decide)), fun q => absurd q (by decide)⟩, ⟨fun _ => by decide, fun _ => rfl⟩⟩
  have pre16 : ∀ t_, Go p e below T13 (mkF m 43 #[iv p1, iv p2, iv p3, rv b1, iv i, rv a, .unset, .unset, .unset, .unset, .unset] [(.int 2), (.int i)]) t_ → Go p e below s₁ (entryFrame m #[(.int p1), (.int p2), (.int p3)] maxLocals) t_ := fun t_ kt => pre14 _ (by
      show Go p e below T13 (mkF m 34 #[iv p1, iv p2, iv p3, rv b1, iv i, .unset, .unset, .unset, .unset, .unset, .unset] []) _
      refine XS.aloadN X13.here hx rfl (hb hby at_34) rfl rfl ?_
      show Go p e below T13 (mkF m 35 #[iv p1, iv p2, iv p3, rv b1, iv i, .unset, .unset, .unset, .unset, .unset, .unset] [(.ref b1)]) _
      refine XS.iload X13.here hx rfl (hb hby at_35) rfl ?_
      show Go p e below T13 (mkF m 37 #[iv p1, iv p2, iv p3, rv b1, iv i, .unset, .unset, .unset, .unset, .unset, .unset] [(.int i), (.ref b1)]) _
      refine X13.aaload hx (j := i) (v := (.ref a)) (by rw [e13]; exact Ar15.1) (State.isArrayOf_alike hZ.alike Ar15.2.1) rfl Ar15.2.2 hin_a (Has.at Ha15 hin_a at_a) (g := (mkF m 37 #[iv p1, iv p2, iv p3, rv b1, iv i, .unset, .unset, .unset, .unset, .unset, .unset] [(.int i), (.ref b1)])) rfl rfl (hb hby at_37) _ ?_
      show Go p e below T13 (mkF m 38 #[iv p1, iv p2, iv p3, rv b1, iv i, .unset, .unset, .unset, .unset, .unset, .unset] [(.ref a)]) _
      refine XS.astore X13.here hx rfl (hb hby at_38) rfl rfl (l' := #[iv p1, iv p2, iv p3, rv b1, iv i, rv a, .unset, .unset, .unset, .unset, .unset]) rfl ?_
      show Go p e below T13 (mkF m 40 #[iv p1, iv p2, iv p3, rv b1, iv i, rv a, .unset, .unset, .unset, .unset, .unset] []) _
      refine XS.iload X13.here hx rfl (hb hby at_40) rfl ?_
      show Go p e below T13 (mkF m 42 #[iv p1, iv p2, iv p3, rv b1, iv i, rv a, .unset, .unset, .unset, .unset, .unset] [(.int i)]) _
      refine XS.iconst X13.here hx rfl (hb hby at_42) ?_
      show Go p e below T13 (mkF m 43 #[iv p1, iv p2, iv p3, rv b1, iv i, rv a, .unset, .unset, .unset, .unset, .unset] [(.int 2), (.int i)]) _
      exact kt)
  by_cases hc43_17 : i < (2 : Int32)
  · have hne : ¬ (a = w_PREV) := fun q => by rw [hP.mp q] at hc43_17; exact absurd hc43_17 (by decide)
    have hnx : ¬ (a = w_NEXT) := fun q => (hX.mp q).1 hc43_17
    obtain ⟨cq18, kq18, q18a, q18b, q18c⟩ := isOf hZ e13 Ea
    obtain ⟨_, _, ⟨T18, L18, k18, n18⟩, -, X18, ⟨Lc18, hQ18, l18, y18, z18⟩, st18⟩ := X13.virtualBack hx (y := (⟨"com/example/rowmotif/rowmotif/expr/NavigationFunction", "shift", "(I)I"⟩ : MethodName)) (z := (⟨"com/example/rowmotif/rowmotif/expr/NavigationFunction", "shift", "(I)I"⟩ : MethodName)) hown (mvT hZ (hwi hw 12 rfl)) (mvT hZ (hwi hw 13 rfl)) (notFace_of_selects (args := #[]) (mvT hZ (hwi hw 15 rfl))) (mvT hZ (hwi hw 15 rfl)) (mvT hZ (hwi hw 14 rfl)) (by decide) (backOf (W := 0) (rmS l Z a0 hw [] a p2 w_FIRST w_LAST w_PREV w_NEXT h13 n0 (Nat.le_trans Z0 K13.1) (Wd_ext hWd0 (own_ext K13))) hZ (hwi hw 16 rfl) (hwi hw 3 rfl) (by decide) (by decide)) q18a q18c (g := (mkF m 66 #[iv p1, iv p2, iv p3, rv b1, iv i, rv a, iv 0, .unset, .unset, .unset, .unset] [(.int p2), (.ref a)])) rfl (by rw [hml]; rfl) (Steps.refl _) (argsL := [(.int p2)]) (rest := []) (lenOf pd_0 rfl) rfl (by show 2 * 0 + _ ≤ _; exact Nat.le_of_eq rfl) (hb hby at_66) (fun _ _ => ⟨rfl, e13, (by decide : 1 + 0 ≤ _), (by decide : 4 + 0 ≤ _)⟩)
    dsimp only [Pt.U, Pt.locs, Pt.cells, Pt.slots] at X18 l18 y18 z18 st18 hQ18
    subst l18 y18 z18
    obtain ⟨hv18, N18q, e18q⟩ := hQ18
    have N18 := Fr.app N13 N18q
    rw [if_neg hne, if_neg hnx] at hv18
    subst hv18
    obtain ⟨cq19, kq19, q19a, q19b, q19c⟩ := isOf hZ e18q Ea
    obtain ⟨_, _, ⟨T19, L19, k19, n19⟩, -, X19, ⟨Lc19, hQ19, l19, y19, z19⟩, st19⟩ := X18.virtualBack hx (y := (⟨"com/example/rowmotif/rowmotif/expr/NavigationFunction", "shift", "(I)I"⟩ : MethodName)) (z := (⟨"com/example/rowmotif/rowmotif/expr/NavigationFunction", "shift", "(I)I"⟩ : MethodName)) hown (mvT hZ (hwi hw 12 rfl)) (mvT hZ (hwi hw 13 rfl)) (notFace_of_selects (args := #[]) (mvT hZ (hwi hw 15 rfl))) (mvT hZ (hwi hw 15 rfl)) (mvT hZ (hwi hw 14 rfl)) (by decide) (backOf (W := 0) (rmS l Z a0 hw [] a (p2 + p3) w_FIRST w_LAST w_PREV w_NEXT h13 n0 (Nat.le_trans Z0 K13.1) (Wd_ext hWd0 (own_ext K13))) hZ (hwi hw 16 rfl) (hwi hw 3 rfl) (by decide) (by decide)) q19a q19c (g := (mkF m 88 #[iv p1, iv p2, iv p3, rv b1, iv i, rv a, iv 0, iv 1, .unset, .unset, .unset] [(.int (p2 + p3)), (.ref a)])) rfl (by rw [hml]; rfl) (Steps.refl _) (argsL := [(.int (p2 + p3))]) (rest := []) (lenOf pd_0 rfl) rfl (by show 2 * 0 + _ ≤ _; exact Nat.le_of_eq rfl) (hb hby at_88) (fun _ _ => ⟨rfl, e18q, (by decide : 1 + 0 ≤ _), (by decide : 4 + 0 ≤ _)⟩)
    dsimp only [Pt.U, Pt.locs, Pt.cells, Pt.slots] at X19 l19 y19 z19 st19 hQ19
    subst l19 y19 z19
    obtain ⟨hv19, N19q, e19q⟩ := hQ19
    have N19 := Fr.app N18 N19q
    rw [if_neg hne, if_neg hnx] at hv19
    subst hv19
    obtain ⟨cq20, kq20, q20a, q20b, q20c⟩ := isOf hZ e19q Ea
    obtain ⟨_, _, ⟨T20, L20, k20, n20⟩, -, X20, ⟨Lc20, hQ20, l20, y20, z20⟩, st20⟩ := X19.virtualBack hx (y := (⟨"com/example/rowmotif/rowmotif/expr/NavigationFunction", "shift", "(I)I"⟩ : MethodName)) (z := (⟨"com/example/rowmotif/rowmotif/expr/NavigationFunction", "shift", "(I)I"⟩ : MethodName)) hown (mvT hZ (hwi hw 12 rfl)) (mvT hZ (hwi hw 13 rfl)) (notFace_of_selects (args := #[]) (mvT hZ (hwi hw 15 rfl))) (mvT hZ (hwi hw 15 rfl)) (mvT hZ (hwi hw 14 rfl)) (by decide) (backOf (W := 1) (rmS l Z a0 hw [] a p2 w_FIRST w_LAST w_PREV w_NEXT h13 n0 (Nat.le_trans Z0 K13.1) (Wd_ext hWd0 (own_ext K13))) hZ (hwi hw 16 rfl) (hwi hw 3 rfl) (by decide) (by decide)) q20a q20c (g := (mkF m 94 #[iv p1, iv p2, iv p3, rv b1, iv i, rv a, iv 0, iv 1, .unset, .unset, .unset] [(.int p2), (.ref a), (.int 0)])) rfl (by rw [hml]; rfl) (Steps.refl _) (argsL := [(.int p2)]) (rest := [(.int 0)]) (lenOf pd_0 rfl) rfl (by show 2 * 0 + _ ≤ _; exact Nat.le_of_eq rfl) (hb hby at_94) (fun _ _ => ⟨rfl, e19q, (by decide : 1 + 0 ≤ _), (by decide : 4 + 0 ≤ _)⟩)
    dsimp only [Pt.U, Pt.locs, Pt.cells, Pt.slots] at X20 l20 y20 z20 st20 hQ20
    subst l20 y20 z20
    obtain ⟨hv20, N20q, e20q⟩ := hQ20
    have N20 := Fr.app N19 N20q
    rw [if_neg hne, if_neg hnx] at hv20
    subst hv20
    obtain ⟨cq21, kq21, q21a, q21b, q21c⟩ := isOf hZ e20q Ea
    obtain ⟨_, _, ⟨T21, L21, k21, n21⟩, -, X21, ⟨Lc21, hQ21, l21, y21, z21⟩, st21⟩ := X20.virtualBack hx (y := (⟨"com/example/rowmotif/rowmotif/expr/NavigationFunction", "shift", "(I)I"⟩ : MethodName)) (z := (⟨"com/example/rowmotif/rowmotif/expr/NavigationFunction", "shift", "(I)I"⟩ : MethodName)) hown (mvT hZ (hwi hw 12 rfl)) (mvT hZ (hwi hw 13 rfl)) (notFace_of_selects (args := #[]) (mvT hZ (hwi hw 15 rfl))) (mvT hZ (hwi hw 15 rfl)) (mvT hZ (hwi hw 14 rfl)) (by decide) (backOf (W := 2) (rmS l Z a0 hw [] a p3 w_FIRST w_LAST w_PREV w_NEXT h13 n0 (Nat.le_trans Z0 K13.1) (Wd_ext hWd0 (own_ext K13))) hZ (hwi hw 16 rfl) (hwi hw 3 rfl) (by decide) (by decide)) q21a q21c (g := (mkF m 100 #[iv p1, iv p2, iv p3, rv b1, iv i, rv a, iv 0, iv 1, .unset, .unset, .unset] [(.int p3), (.ref a), (.int 0), (.int 0)])) rfl (by rw [hml]; rfl) (Steps.refl _) (argsL := [(.int p3)]) (rest := [(.int 0), (.int 0)]) (lenOf pd_0 rfl) rfl (by show 2 * 0 + _ ≤ _; exact Nat.le_of_eq rfl) (hb hby at_100) (fun _ _ => ⟨rfl, e20q, (by decide : 1 + 0 ≤ _), (by decide : 4 + 0 ≤ _)⟩)
    dsimp only [Pt.U, Pt.locs, Pt.cells, Pt.slots] at X21 l21 y21 z21 st21 hQ21
    subst l21 y21 z21
    obtain ⟨hv21, N21q, e21q⟩ := hQ21
    have N21 := Fr.app N20 N21q
    rw [if_neg hne, if_neg hnx] at hv21
    subst hv21
    obtain ⟨cq22, kq22, q22a, q22b, q22c⟩ := isOf hZ e21q Ea
    obtain ⟨_, _, ⟨T22, L22, k22, n22⟩, -, X22, ⟨Lc22, hQ22, l22, y22, z22⟩, st22⟩ := X21.virtualBack hx (y := (⟨"com/example/rowmotif/rowmotif/expr/NavigationFunction", "shift", "(I)I"⟩ : MethodName)) (z := (⟨"com/example/rowmotif/rowmotif/expr/NavigationFunction", "shift", "(I)I"⟩ : MethodName)) hown (mvT hZ (hwi hw 12 rfl)) (mvT hZ (hwi hw 13 rfl)) (notFace_of_selects (args := #[]) (mvT hZ (hwi hw 15 rfl))) (mvT hZ (hwi hw 15 rfl)) (mvT hZ (hwi hw 14 rfl)) (by decide) (backOf (W := 0) (rmS l Z a0 hw [] a (1 : Int32) w_FIRST w_LAST w_PREV w_NEXT h13 n0 (Nat.le_trans Z0 K13.1) (Wd_ext hWd0 (own_ext K13))) hZ (hwi hw 16 rfl) (hwi hw 3 rfl) (by decide) (by decide)) q22a q22c (g := (mkF m 117 #[iv p1, iv p2, iv p3, rv b1, iv i, rv a, iv 0, iv 1, iv 1, .unset, .unset] [(.int 1), (.ref a)])) rfl (by rw [hml]; rfl) (Steps.refl _) (argsL := [(.int 1)]) (rest := []) (lenOf pd_0 rfl) rfl (by show 2 * 0 + _ ≤ _; exact Nat.le_of_eq rfl) (hb hby at_117) (fun _ _ => ⟨rfl, e21q, (by decide : 1 + 0 ≤ _), (by decide : 4 + 0 ≤ _)⟩)
    dsimp only [Pt.U, Pt.locs, Pt.cells, Pt.slots] at X22 l22 y22 z22 st22 hQ22
    subst l22 y22 z22
    obtain ⟨hv22, N22q, e22q⟩ := hQ22
    have N22 := Fr.app N21 N22q
    rw [if_neg hne, if_neg hnx] at hv22
    subst hv22
    obtain ⟨cq23, kq23, q23a, q23b, q23c⟩ := isOf hZ e22q Ea
    obtain ⟨_, _, ⟨T23, L23, k23, n23⟩, -, X23, ⟨Lc23, hQ23, l23, y23, z23⟩, st23⟩ := X22.virtualBack hx (y := (⟨"com/example/rowmotif/rowmotif/expr/NavigationFunction", "isPhysical", "()Z"⟩ : MethodName)) (z := (⟨"com/example/rowmotif/rowmotif/expr/NavigationFunction", "isPhysical", "()Z"⟩ : MethodName)) hown (mvT hZ (hwi hw 19 rfl)) (mvT hZ (hwi hw 20 rfl)) (notFace_of_selects (args := #[]) (mvT hZ (hwi hw 22 rfl))) (mvT hZ (hwi hw 22 rfl)) (mvT hZ (hwi hw 21 rfl)) (by decide) (backOf (W := 0) (rmP l Z a0 hw [] a w_FIRST w_LAST w_PREV w_NEXT h13 n0 (Nat.le_trans Z0 K13.1) (Wd_ext hWd0 (own_ext K13))) hZ (hwi hw 23 rfl) (hwi hw 3 rfl) (by decide) (by decide)) q23a q23c (g := (mkF m 134 #[iv p1, iv p2, iv p3, rv b1, iv i, rv a, iv 0, iv 1, iv 1, iv 1, .unset] [(.ref a)])) rfl (by rw [hml]; rfl) (Steps.refl _) (argsL := []) (rest := []) (lenOf pd_1 rfl) rfl (by show 2 * 0 + _ ≤ _; exact Nat.le_of_eq rfl) (hb hby at_134) (fun _ _ => ⟨rfl, e22q, (by decide : 1 + 0 ≤ _), (by decide : 4 + 0 ≤ _)⟩)
    dsimp only [Pt.U, Pt.locs, Pt.cells, Pt.slots] at X23 l23 y23 z23 st23 hQ23
    subst l23 y23 z23
    obtain ⟨hv23, N23q, e23q⟩ := hQ23
    have N23 := Fr.app N22 N23q
    rw [if_neg (fun q => q.elim hne hnx)] at hv23
    subst hv23
    obtain ⟨cq24, kq24, q24a, q24b, q24c⟩ := isOf hZ e23q Ea
    obtain ⟨_, _, ⟨T24, L24, k24, n24⟩, -, X24, ⟨Lc24, hQ24, l24, y24, z24⟩, st24⟩ := X23.virtualBack hx (y := (⟨"com/example/rowmotif/rowmotif/expr/NavigationFunction", "shift", "(I)I"⟩ : MethodName)) (z := (⟨"com/example/rowmotif/rowmotif/expr/NavigationFunction", "shift", "(I)I"⟩ : MethodName)) hown (mvT hZ (hwi hw 12 rfl)) (mvT hZ (hwi hw 13 rfl)) (notFace_of_selects (args := #[]) (mvT hZ (hwi hw 15 rfl))) (mvT hZ (hwi hw 15 rfl)) (mvT hZ (hwi hw 14 rfl)) (by decide) (backOf (W := 0) (rmS l Z a0 hw [] a p3 w_FIRST w_LAST w_PREV w_NEXT h13 n0 (Nat.le_trans Z0 K13.1) (Wd_ext hWd0 (own_ext K13))) hZ (hwi hw 16 rfl) (hwi hw 3 rfl) (by decide) (by decide)) q24a q24c (g := (mkF m 143 #[iv p1, iv p2, iv p3, rv b1, iv i, rv a, iv 0, iv 1, iv 1, iv 1, .unset] [(.int p3), (.ref a)])) rfl (by rw [hml]; rfl) (Steps.refl _) (argsL := [(.int p3)]) (rest := []) (lenOf pd_0 rfl) rfl (by show 2 * 0 + _ ≤ _; exact Nat.le_of_eq rfl) (hb hby at_143) (fun _ _ => ⟨rfl, e23q, (by decide : 1 + 0 ≤ _), (by decide : 4 + 0 ≤ _)⟩)
    dsimp only [Pt.U, Pt.locs, Pt.cells, Pt.slots] at X24 l24 y24 z24 st24 hQ24
    subst l24 y24 z24
    obtain ⟨hv24, N24q, e24q⟩ := hQ24
    have N24 := Fr.app N23 N24q
    rw [if_neg hne, if_neg hnx] at hv24
    subst hv24
    have pre25 : ∀ t_, Go p e below T24 (mkF m 181 #[iv p1, iv p2, iv p3, rv b1, iv i, rv a, iv 0, iv 1, iv 1, iv 1, iv 1] [(.int 1)]) t_ → Go p e below s₁ (entryFrame m #[(.int p1), (.int p2), (.int p3)] maxLocals) t_ := fun t_ kt => pre16 _ (by
        show Go p e below T13 (mkF m 43 #[iv p1, iv p2, iv p3, rv b1, iv i, rv a, .unset, .unset, .unset, .unset, .unset] [(.int 2), (.int i)]) _
        refine XS.icmpNo X13.here hx rfl (hb hby at_43) rfl (tlt hc43_17).2.1 ?_
        show Go p e below T13 (mkF m 46 #[iv p1, iv p2, iv p3, rv b1, iv i, rv a, .unset, .unset, .unset, .unset, .unset] []) _
        refine XS.iconst X13.here hx rfl (hb hby at_46) ?_
        show Go p e below T13 (mkF m 47 #[iv p1, iv p2, iv p3, rv b1, iv i, rv a, .unset, .unset, .unset, .unset, .unset] [(.int 0)]) _
        refine XS.goto X13.here hx rfl (pc0 := 47) (pc' := 61) rfl (hb hby at_47) (by decide) (by decide) ?_
        show Go p e below T13 (mkF m 61 #[iv p1, iv p2, iv p3, rv b1, iv i, rv a, .unset, .unset, .unset, .unset, .unset] [(.int 0)]) _
        refine XS.istore X13.here hx rfl (hb hby at_61) rfl (l' := #[iv p1, iv p2, iv p3, rv b1, iv i, rv a, iv 0, .unset, .unset, .unset, .unset]) rfl ?_
        show Go p e below T13 (mkF m 63 #[iv p1, iv p2, iv p3, rv b1, iv i, rv a, iv 0, .unset, .unset, .unset, .unset] []) _
        refine XS.aload X13.here hx rfl (hb hby at_63) rfl rfl ?_
        show Go p e below T13 (mkF m 65 #[iv p1, iv p2, iv p3, rv b1, iv i, rv a, iv 0, .unset, .unset, .unset, .unset] [(.ref a)]) _
        refine XS.iloadN X13.here hx rfl (hb hby at_65) rfl ?_
        show Go p e below T13 (mkF m 66 #[iv p1, iv p2, iv p3, rv b1, iv i, rv a, iv 0, .unset, .unset, .unset, .unset] [(.int p2), (.ref a)]) _
        refine st18.trans ?_
        show Go p e below T18 (mkF m 69 #[iv p1, iv p2, iv p3, rv b1, iv i, rv a, iv 0, .unset, .unset, .unset, .unset] [(.int 0)]) _
        refine XS.iload X18.here hx rfl (hb hby at_69) rfl ?_
        show Go p e below T18 (mkF m 71 #[iv p1, iv p2, iv p3, rv b1, iv i, rv a, iv 0, .unset, .unset, .unset, .unset] [(.int 0), (.int 0)]) _
        refine XS.iloadN X18.here hx rfl (hb hby at_71) rfl ?_
        show Go p e below T18 (mkF m 72 #[iv p1, iv p2, iv p3, rv b1, iv i, rv a, iv 0, .unset, .unset, .unset, .unset] [(.int p2), (.int 0), (.int 0)]) _
        refine XS.imul X18.here hx rfl (hb hby at_72) rfl ?_
        show Go p e below T18 (mkF m 73 #[iv p1, iv p2, iv p3, rv b1, iv i, rv a, iv 0, .unset, .unset, .unset, .unset] [(.int ((0 : Int32) * p2)), (.int 0)]) _
        refine XS.icmpNo X18.here hx rfl (hb hby at_73) rfl (teq ((by simp) : (0 : Int32) = ((0 : Int32) * p2))).2 ?_
        show Go p e below T18 (mkF m 76 #[iv p1, iv p2, iv p3, rv b1, iv i, rv a, iv 0, .unset, .unset, .unset, .unset] []) _
        refine XS.iconst X18.here hx rfl (hb hby at_76) ?_
        show Go p e below T18 (mkF m 77 #[iv p1, iv p2, iv p3, rv b1, iv i, rv a, iv 0, .unset, .unset, .unset, .unset] [(.int 1)]) _
        refine XS.goto X18.here hx rfl (pc0 := 77) (pc' := 81) rfl (hb hby at_77) (by decide) (by decide) ?_
        show Go p e below T18 (mkF m 81 #[iv p1, iv p2, iv p3, rv b1, iv i, rv a, iv 0, .unset, .unset, .unset, .unset] [(.int 1)]) _
        refine XS.istore X18.here hx rfl (hb hby at_81) rfl (l' := #[iv p1, iv p2, iv p3, rv b1, iv i, rv a, iv 0, iv 1, .unset, .unset, .unset]) rfl ?_
        show Go p e below T18 (mkF m 83 #[iv p1, iv p2, iv p3, rv b1, iv i, rv a, iv 0, iv 1, .unset, .unset, .unset] []) _
        refine XS.aload X18.here hx rfl (hb hby at_83) rfl rfl ?_
        show Go p e below T18 (mkF m 85 #[iv p1, iv p2, iv p3, rv b1, iv i, rv a, iv 0, iv 1, .unset, .unset, .unset] [(.ref a)]) _
        refine XS.iloadN X18.here hx rfl (hb hby at_85) rfl ?_
        show Go p e below T18 (mkF m 86 #[iv p1, iv p2, iv p3, rv b1, iv i, rv a, iv 0, iv 1, .unset, .unset, .unset] [(.int p2), (.ref a)]) _
        refine XS.iloadN X18.here hx rfl (hb hby at_86) rfl ?_
        show Go p e below T18 (mkF m 87 #[iv p1, iv p2, iv p3, rv b1, iv i, rv a, iv 0, iv 1, .unset, .unset, .unset] [(.int p3), (.int p2), (.ref a)]) _
        refine XS.iadd X18.here hx rfl (hb hby at_87) rfl ?_
        show Go p e below T18 (mkF m 88 #[iv p1, iv p2, iv p3, rv b1, iv i, rv a, iv 0, iv 1, .unset, .unset, .unset] [(.int (p2 + p3)), (.ref a)]) _
        refine st19.trans ?_
        show Go p e below T19 (mkF m 91 #[iv p1, iv p2, iv p3, rv b1, iv i, rv a, iv 0, iv 1, .unset, .unset, .unset] [(.int 0)]) _
        refine XS.aload X19.here hx rfl (hb hby at_91) rfl rfl ?_
        show Go p e below T19 (mkF m 93 #[iv p1, iv p2, iv p3, rv b1, iv i, rv a, iv 0, iv 1, .unset, .unset, .unset] [(.ref a), (.int 0)]) _
        refine XS.iloadN X19.here hx rfl (hb hby at_93) rfl ?_
        show Go p e below T19 (mkF m 94 #[iv p1, iv p2, iv p3, rv b1, iv i, rv a, iv 0, iv 1, .unset, .unset, .unset] [(.int p2), (.ref a), (.int 0)]) _
        refine st20.trans ?_
        show Go p e below T20 (mkF m 97 #[iv p1, iv p2, iv p3, rv b1, iv i, rv a, iv 0, iv 1, .unset, .unset, .unset] [(.int 0), (.int 0)]) _
        refine XS.aload X20.here hx rfl (hb hby at_97) rfl rfl ?_
        show Go p e below T20 (mkF m 99 #[iv p1, iv p2, iv p3, rv b1, iv i, rv a, iv 0, iv 1, .unset, .unset, .unset] [(.ref a), (.int 0), (.int 0)]) _
        refine XS.iloadN X20.here hx rfl (hb hby at_99) rfl ?_
        show Go p e below T20 (mkF m 100 #[iv p1, iv p2, iv p3, rv b1, iv i, rv a, iv 0, iv 1, .unset, .unset, .unset] [(.int p3), (.ref a), (.int 0), (.int 0)]) _
        refine st21.trans ?_
        show Go p e below T21 (mkF m 103 #[iv p1, iv p2, iv p3, rv b1, iv i, rv a, iv 0, iv 1, .unset, .unset, .unset] [(.int 0), (.int 0), (.int 0)]) _
        refine XS.iadd X21.here hx rfl (hb hby at_103) rfl ?_
        show Go p e below T21 (mkF m 104 #[iv p1, iv p2, iv p3, rv b1, iv i, rv a, iv 0, iv 1, .unset, .unset, .unset] [(.int 0), (.int 0)]) _
        refine XS.icmpNo X21.here hx rfl (hb hby at_104) rfl (teq ((by decide) : (0 : Int32) = (0 : Int32))).2 ?_
        show Go p e below T21 (mkF m 107 #[iv p1, iv p2, iv p3, rv b1, iv i, rv a, iv 0, iv 1, .unset, .unset, .unset] []) _
        refine XS.iconst X21.here hx rfl (hb hby at_107) ?_
        show Go p e below T21 (mkF m 108 #[iv p1, iv p2, iv p3, rv b1, iv i, rv a, iv 0, iv 1, .unset, .unset, .unset] [(.int 1)]) _
        refine XS.goto X21.here hx rfl (pc0 := 108) (pc' := 112) rfl (hb hby at_108) (by decide) (by decide) ?_
        show Go p e below T21 (mkF m 112 #[iv p1, iv p2, iv p3, rv b1, iv i, rv a, iv 0, iv 1, .unset, .unset, .unset] [(.int 1)]) _
        refine XS.istore X21.here hx rfl (hb hby at_112) rfl (l' := #[iv p1, iv p2, iv p3, rv b1, iv i, rv a, iv 0, iv 1, iv 1, .unset, .unset]) rfl ?_
        show Go p e below T21 (mkF m 114 #[iv p1, iv p2, iv p3, rv b1, iv i, rv a, iv 0, iv 1, iv 1, .unset, .unset] []) _
        refine XS.aload X21.here hx rfl (hb hby at_114) rfl rfl ?_
        show Go p e below T21 (mkF m 116 #[iv p1, iv p2, iv p3, rv b1, iv i, rv a, iv 0, iv 1, iv 1, .unset, .unset] [(.ref a)]) _
        refine XS.iconst X21.here hx rfl (hb hby at_116) ?_
        show Go p e below T21 (mkF m 117 #[iv p1, iv p2, iv p3, rv b1, iv i, rv a, iv 0, iv 1, iv 1, .unset, .unset] [(.int 1), (.ref a)]) _
        refine st22.trans ?_
        show Go p e below T22 (mkF m 120 #[iv p1, iv p2, iv p3, rv b1, iv i, rv a, iv 0, iv 1, iv 1, .unset, .unset] [(.int 0)]) _
        refine XS.iload X22.here hx rfl (hb hby at_120) rfl ?_
        show Go p e below T22 (mkF m 122 #[iv p1, iv p2, iv p3, rv b1, iv i, rv a, iv 0, iv 1, iv 1, .unset, .unset] [(.int 0), (.int 0)]) _
        refine XS.icmpNo X22.here hx rfl (hb hby at_122) rfl (teq ((by decide) : (0 : Int32) = (0 : Int32))).2 ?_
        show Go p e below T22 (mkF m 125 #[iv p1, iv p2, iv p3, rv b1, iv i, rv a, iv 0, iv 1, iv 1, .unset, .unset] []) _
        refine XS.iconst X22.here hx rfl (hb hby at_125) ?_
        show Go p e below T22 (mkF m 126 #[iv p1, iv p2, iv p3, rv b1, iv i, rv a, iv 0, iv 1, iv 1, .unset, .unset] [(.int 1)]) _
        refine XS.goto X22.here hx rfl (pc0 := 126) (pc' := 130) rfl (hb hby at_126) (by decide) (by decide) ?_
        show Go p e below T22 (mkF m 130 #[iv p1, iv p2, iv p3, rv b1, iv i, rv a, iv 0, iv 1, iv 1, .unset, .unset] [(.int 1)]) _
        refine XS.istore X22.here hx rfl (hb hby at_130) rfl (l' := #[iv p1, iv p2, iv p3, rv b1, iv i, rv a, iv 0, iv 1, iv 1, iv 1, .unset]) rfl ?_
        show Go p e below T22 (mkF m 132 #[iv p1, iv p2, iv p3, rv b1, iv i, rv a, iv 0, iv 1, iv 1, iv 1, .unset] []) _
        refine XS.aload X22.here hx rfl (hb hby at_132) rfl rfl ?_
        show Go p e below T22 (mkF m 134 #[iv p1, iv p2, iv p3, rv b1, iv i, rv a, iv 0, iv 1, iv 1, iv 1, .unset] [(.ref a)]) _
        refine st23.trans ?_
        show Go p e below T23 (mkF m 137 #[iv p1, iv p2, iv p3, rv b1, iv i, rv a, iv 0, iv 1, iv 1, iv 1, .unset] [(.int 0)]) _
        refine XS.ifNo X23.here hx rfl (hb hby at_137) rfl ((if0 _ _).trans (teq ((by decide) : (0 : Int32) = (0 : Int32))).2) ?_
        show Go p e below T23 (mkF m 140 #[iv p1, iv p2, iv p3, rv b1, iv i, rv a, iv 0, iv 1, iv 1, iv 1, .unset] []) _
        refine XS.aload X23.here hx rfl (hb hby at_140) rfl rfl ?_
        show Go p e below T23 (mkF m 142 #[iv p1, iv p2, iv p3, rv b1, iv i, rv a, iv 0, iv 1, iv 1, iv 1, .unset] [(.ref a)]) _
        refine XS.iloadN X23.here hx rfl (hb hby at_142) rfl ?_
        show Go p e below T23 (mkF m 143 #[iv p1, iv p2, iv p3, rv b1, iv i, rv a, iv 0, iv 1, iv 1, iv 1, .unset] [(.int p3), (.ref a)]) _
        refine st24.trans ?_
        show Go p e below T24 (mkF m 146 #[iv p1, iv p2, iv p3, rv b1, iv i, rv a, iv 0, iv 1, iv 1, iv 1, .unset] [(.int 0)]) _
        refine XS.ifNo X24.here hx rfl (hb hby at_146) rfl ((if0 _ _).trans (teq ((by decide) : (0 : Int32) = (0 : Int32))).2) ?_
        show Go p e below T24 (mkF m 149 #[iv p1, iv p2, iv p3, rv b1, iv i, rv a, iv 0, iv 1, iv 1, iv 1, .unset] []) _
        refine XS.iconst X24.here hx rfl (hb hby at_149) ?_
        show Go p e below T24 (mkF m 150 #[iv p1, iv p2, iv p3, rv b1, iv i, rv a, iv 0, iv 1, iv 1, iv 1, .unset] [(.int 1)]) _
        refine XS.goto X24.here hx rfl (pc0 := 150) (pc' := 154) rfl (hb hby at_150) (by decide) (by decide) ?_
        show Go p e below T24 (mkF m 154 #[iv p1, iv p2, iv p3, rv b1, iv i, rv a, iv 0, iv 1, iv 1, iv 1, .unset] [(.int 1)]) _
        refine XS.istore X24.here hx rfl (hb hby at_154) rfl (l' := #[iv p1, iv p2, iv p3, rv b1, iv i, rv a, iv 0, iv 1, iv 1, iv 1, iv 1]) rfl ?_
        show Go p e below T24 (mkF m 156 #[iv p1, iv p2, iv p3, rv b1, iv i, rv a, iv 0, iv 1, iv 1, iv 1, iv 1] []) _
        refine XS.iload X24.here hx rfl (hb hby at_156) rfl ?_
        show Go p e below T24 (mkF m 158 #[iv p1, iv p2, iv p3, rv b1, iv i, rv a, iv 0, iv 1, iv 1, iv 1, iv 1] [(.int 1)]) _
        refine XS.ifNo X24.here hx rfl (hb hby at_158) rfl ((if0 _ _).trans (feq ((by decide) : ¬ ((1 : Int32) = (0 : Int32)))).1) ?_
        show Go p e below T24 (mkF m 161 #[iv p1, iv p2, iv p3, rv b1, iv i, rv a, iv 0, iv 1, iv 1, iv 1, iv 1] []) _
        refine XS.iload X24.here hx rfl (hb hby at_161) rfl ?_
        show Go p e below T24 (mkF m 163 #[iv p1, iv p2, iv p3, rv b1, iv i, rv a, iv 0, iv 1, iv 1, iv 1, iv 1] [(.int 1)]) _
        refine XS.ifNo X24.here hx rfl (hb hby at_163) rfl ((if0 _ _).trans (feq ((by decide) : ¬ ((1 : Int32) = (0 : Int32)))).1) ?_
        show Go p e below T24 (mkF m 166 #[iv p1, iv p2, iv p3, rv b1, iv i, rv a, iv 0, iv 1, iv 1, iv 1, iv 1] []) _
        refine XS.iload X24.here hx rfl (hb hby at_166) rfl ?_
        show Go p e below T24 (mkF m 168 #[iv p1, iv p2, iv p3, rv b1, iv i, rv a, iv 0, iv 1, iv 1, iv 1, iv 1] [(.int 1)]) _
        refine XS.ifNo X24.here hx rfl (hb hby at_168) rfl ((if0 _ _).trans (feq ((by decide) : ¬ ((1 : Int32) = (0 : Int32)))).1) ?_
        show Go p e below T24 (mkF m 171 #[iv p1, iv p2, iv p3, rv b1, iv i, rv a, iv 0, iv 1, iv 1, iv 1, iv 1] []) _
        refine XS.iload X24.here hx rfl (hb hby at_171) rfl ?_
        show Go p e below T24 (mkF m 173 #[iv p1, iv p2, iv p3, rv b1, iv i, rv a, iv 0, iv 1, iv 1, iv 1, iv 1] [(.int 1)]) _
        refine XS.ifNo X24.here hx rfl (hb hby at_173) rfl ((if0 _ _).trans (feq ((by decide) : ¬ ((1 : Int32) = (0 : Int32)))).1) ?_
        show Go p e below T24 (mkF m 176 #[iv p1, iv p2, iv p3, rv b1, iv i, rv a, iv 0, iv 1, iv 1, iv 1, iv 1] []) _
        refine XS.iconst X24.here hx rfl (hb hby at_176) ?_
        show Go p e below T24 (mkF m 177 #[iv p1, iv p2, iv p3, rv b1, iv i, rv a, iv 0, iv 1, iv 1, iv 1, iv 1] [(.int 1)]) _
        refine XS.goto X24.here hx rfl (pc0 := 177) (pc' := 181) rfl (hb hby at_177) (by decide) (by decide) ?_
        show Go p e below T24 (mkF m 181 #[iv p1, iv p2, iv p3, rv b1, iv i, rv a, iv 0, iv 1, iv 1, iv 1, iv 1] [(.int 1)]) _
        exact kt)
    obtain ⟨fs, hr, hrun, hended, hW, hsame⟩ := X24.leave (v := some (.int 1)) (fun h => by rw [Bd.returns] at h; cases h)
    refine ⟨_, _, pre25 _ ?_, hrun, hended, _, _, rfl, ?_, ⟨_, rfl⟩, hW, hsame.mono (by decide) (by decide)⟩
    · show Steps p.tables e below (T24.setTop (mkF m 181 #[iv p1, iv p2, iv p3, rv b1, iv i, rv a, iv 0, iv 1, iv 1, iv 1, iv 1] [(.int 1)])) _
      exact retN X24 hx (t := .boolean) Bd.returns (by simp) (hb hby at_181) hr
    · show Q_rmL Z p1 p2 p3 w_FIRST w_LAST w_PREV w_NEXT h0 n0 _ T24.heap _
      rw [e24q]
      exact ⟨rfl, N24⟩
  · have pre26 : ∀ t_, Go p e below T13 (mkF m 53 #[iv p1, iv p2, iv p3, rv b1, iv i, rv a, .unset, .unset, .unset, .unset, .unset] [(.int 2), (.int i)]) t_ → Go p e below s₁ (entryFrame m #[(.int p1), (.int p2), (.int p3)] maxLocals) t_ := fun t_ kt => pre16 _ (by
        show Go p e below T13 (mkF m 43 #[iv p1, iv p2, iv p3, rv b1, iv i, rv a, .unset, .unset, .unset, .unset, .unset] [(.int 2), (.int i)]) _
        refine XS.icmpYes X13.here hx rfl (pc0 := 43) (pc' := 50) rfl (hb hby at_43) rfl (flt hc43_17).2.1 (by decide) (by decide) ?_
        show Go p e below T13 (mkF m 50 #[iv p1, iv p2, iv p3, rv b1, iv i, rv a, .unset, .unset, .unset, .unset, .unset] []) _
        refine XS.iload X13.here hx rfl (hb hby at_50) rfl ?_
        show Go p e below T13 (mkF m 52 #[iv p1, iv p2, iv p3, rv b1, iv i, rv a, .unset, .unset, .unset, .unset, .unset] [(.int i)]) _
        refine XS.iconst X13.here hx rfl (hb hby at_52) ?_
        show Go p e below T13 (mkF m 53 #[iv p1, iv p2, iv p3, rv b1, iv i, rv a, .unset, .unset, .unset, .unset, .unset] [(.int 2), (.int i)]) _
        exact kt)
    by_cases hc53_27 : i = (2 : Int32)
    · have hpe : a = w_PREV := hP.mpr hc53_27
      obtain ⟨cq28, kq28, q28a, q28b, q28c⟩ := isOf hZ e13 Ea
      obtain ⟨_, _, ⟨T28, L28, k28, n28⟩, -, X28, ⟨Lc28, hQ28, l28, y28, z28⟩, st28⟩ := X13.virtualBack hx (y := (⟨"com/example/rowmotif/rowmotif/expr/NavigationFunction", "shift", "(I)I"⟩ : MethodName)) (z := (⟨"com/example/rowmotif/rowmotif/expr/NavigationFunction", "shift", "(I)I"⟩ : MethodName)) hown (mvT hZ (hwi hw 12 rfl)) (mvT hZ (hwi hw 13 rfl)) (notFace_of_selects (args := #[]) (mvT hZ (hwi hw 15 rfl))) (mvT hZ (hwi hw 15 rfl)) (mvT hZ (hwi hw 14 rfl)) (by decide) (backOf (W := 0) (rmS l Z a0 hw [] a p2 w_FIRST w_LAST w_PREV w_NEXT h13 n0 (Nat.le_trans Z0 K13.1) (Wd_ext hWd0 (own_ext K13))) hZ (hwi hw 16 rfl) (hwi hw 3 rfl) (by decide) (by decide)) q28a q28c (g := (mkF m 66 #[iv p1, iv p2, iv p3, rv b1, iv i, rv a, iv (-1), .unset, .unset, .unset, .unset] [(.int p2), (.ref a)])) rfl (by rw [hml]; rfl) (Steps.refl _) (argsL := [(.int p2)]) (rest := []) (lenOf pd_0 rfl) rfl (by show 2 * 0 + _ ≤ _; exact Nat.le_of_eq rfl) (hb hby at_66) (fun _ _ => ⟨rfl, e13, (by decide : 1 + 0 ≤ _), (by decide : 4 + 0 ≤ _)⟩)
      dsimp only [Pt.U, Pt.locs, Pt.cells, Pt.slots] at X28 l28 y28 z28 st28 hQ28
      subst l28 y28 z28
      obtain ⟨hv28, N28q, e28q⟩ := hQ28
      have N28 := Fr.app N13 N28q
      rw [if_pos hpe] at hv28
      subst hv28
      obtain ⟨cq29, kq29, q29a, q29b, q29c⟩ := isOf hZ e28q Ea
      obtain ⟨_, _, ⟨T29, L29, k29, n29⟩, -, X29, ⟨Lc29, hQ29, l29, y29, z29⟩, st29⟩ := X28.virtualBack hx (y := (⟨"com/example/rowmotif/rowmotif/expr/NavigationFunction", "shift", "(I)I"⟩ : MethodName)) (z := (⟨"com/example/rowmotif/rowmotif/expr/NavigationFunction", "shift", "(I)I"⟩ : MethodName)) hown (mvT hZ (hwi hw 12 rfl)) (mvT hZ (hwi hw 13 rfl)) (notFace_of_selects (args := #[]) (mvT hZ (hwi hw 15 rfl))) (mvT hZ (hwi hw 15 rfl)) (mvT hZ (hwi hw 14 rfl)) (by decide) (backOf (W := 0) (rmS l Z a0 hw [] a (p2 + p3) w_FIRST w_LAST w_PREV w_NEXT h13 n0 (Nat.le_trans Z0 K13.1) (Wd_ext hWd0 (own_ext K13))) hZ (hwi hw 16 rfl) (hwi hw 3 rfl) (by decide) (by decide)) q29a q29c (g := (mkF m 88 #[iv p1, iv p2, iv p3, rv b1, iv i, rv a, iv (-1), iv 1, .unset, .unset, .unset] [(.int (p2 + p3)), (.ref a)])) rfl (by rw [hml]; rfl) (Steps.refl _) (argsL := [(.int (p2 + p3))]) (rest := []) (lenOf pd_0 rfl) rfl (by show 2 * 0 + _ ≤ _; exact Nat.le_of_eq rfl) (hb hby at_88) (fun _ _ => ⟨rfl, e28q, (by decide : 1 + 0 ≤ _), (by decide : 4 + 0 ≤ _)⟩)
      dsimp only [Pt.U, Pt.locs, Pt.cells, Pt.slots] at X29 l29 y29 z29 st29 hQ29
      subst l29 y29 z29
      obtain ⟨hv29, N29q, e29q⟩ := hQ29
      have N29 := Fr.app N28 N29q
      rw [if_pos hpe] at hv29
      subst hv29
      obtain ⟨cq30, kq30, q30a, q30b, q30c⟩ := isOf hZ e29q Ea
      obtain ⟨_, _, ⟨T30, L30, k30, n30⟩, -, X30, ⟨Lc30, hQ30, l30, y30, z30⟩, st30⟩ := X29.virtualBack hx (y := (⟨"com/example/rowmotif/rowmotif/expr/NavigationFunction", "shift", "(I)I"⟩ : MethodName)) (z := (⟨"com/example/rowmotif/rowmotif/expr/NavigationFunction", "shift", "(I)I"⟩ : MethodName)) hown (mvT hZ (hwi hw 12 rfl)) (mvT hZ (hwi hw 13 rfl)) (notFace_of_selects (args := #[]) (mvT hZ (hwi hw 15 rfl))) (mvT hZ (hwi hw 15 rfl)) (mvT hZ (hwi hw 14 rfl)) (by decide) (backOf (W := 1) (rmS l Z a0 hw [] a p2 w_FIRST w_LAST w_PREV w_NEXT h13 n0 (Nat.le_trans Z0 K13.1) (Wd_ext hWd0 (own_ext K13))) hZ (hwi hw 16 rfl) (hwi hw 3 rfl) (by decide) (by decide)) q30a q30c (g := (mkF m 94 #[iv p1, iv p2, iv p3, rv b1, iv i, rv a, iv (-1), iv 1, .unset, .unset, .unset] [(.int p2), (.ref a), (.int (-(p2 + p3)))])) rfl (by rw [hml]; rfl) (Steps.refl _) (argsL := [(.int p2)]) (rest := [(.int (-(p2 + p3)))]) (lenOf pd_0 rfl) rfl (by show 2 * 0 + _ ≤ _; exact Nat.le_of_eq rfl) (hb hby at_94) (fun _ _ => ⟨rfl, e29q, (by decide : 1 + 0 ≤ _), (by decide : 4 + 0 ≤ _)⟩)
      dsimp only [Pt.U, Pt.locs, Pt.cells, Pt.slots] at X30 l30 y30 z30 st30 hQ30
      subst l30 y30 z30
      obtain ⟨hv30, N30q, e30q⟩ := hQ30
      have N30 := Fr.app N29 N30q
      rw [if_pos hpe] at hv30
      subst hv30
      obtain ⟨cq31, kq31, q31a, q31b, q31c⟩ := isOf hZ e30q Ea
      obtain ⟨_, _, ⟨T31, L31, k31, n31⟩, -, X31, ⟨Lc31, hQ31, l31, y31, z31⟩, st31⟩ := X30.virtualBack hx (y := (⟨"com/example/rowmotif/rowmotif/expr/NavigationFunction", "shift", "(I)I"⟩ : MethodName)) (z := (⟨"com/example/rowmotif/rowmotif/expr/NavigationFunction", "shift", "(I)I"⟩ : MethodName)) hown (mvT hZ (hwi hw 12 rfl)) (mvT hZ (hwi hw 13 rfl)) (notFace_of_selects (args := #[]) (mvT hZ (hwi hw 15 rfl))) (mvT hZ (hwi hw 15 rfl)) (mvT hZ (hwi hw 14 rfl)) (by decide) (backOf (W := 2) (rmS l Z a0 hw [] a p3 w_FIRST w_LAST w_PREV w_NEXT h13 n0 (Nat.le_trans Z0 K13.1) (Wd_ext hWd0 (own_ext K13))) hZ (hwi hw 16 rfl) (hwi hw 3 rfl) (by decide) (by decide)) q31a q31c (g := (mkF m 100 #[iv p1, iv p2, iv p3, rv b1, iv i, rv a, iv (-1), iv 1, .unset, .unset, .unset] [(.int p3), (.ref a), (.int (-p2)), (.int (-(p2 + p3)))])) rfl (by rw [hml]; rfl) (Steps.refl _) (argsL := [(.int p3)]) (rest := [(.int (-p2)), (.int (-(p2 + p3)))]) (lenOf pd_0 rfl) rfl (by show 2 * 0 + _ ≤ _; exact Nat.le_of_eq rfl) (hb hby at_100) (fun _ _ => ⟨rfl, e30q, (by decide : 1 + 0 ≤ _), (by decide : 4 + 0 ≤ _)⟩)
      dsimp only [Pt.U, Pt.locs, Pt.cells, Pt.slots] at X31 l31 y31 z31 st31 hQ31
      subst l31 y31 z31
      obtain ⟨hv31, N31q, e31q⟩ := hQ31
      have N31 := Fr.app N30 N31q
      rw [if_pos hpe] at hv31
      subst hv31
      obtain ⟨cq32, kq32, q32a, q32b, q32c⟩ := isOf hZ e31q Ea
      obtain ⟨_, _, ⟨T32, L32, k32, n32⟩, -, X32, ⟨Lc32, hQ32, l32, y32, z32⟩, st32⟩ := X31.virtualBack hx (y := (⟨"com/example/rowmotif/rowmotif/expr/NavigationFunction", "shift", "(I)I"⟩ : MethodName)) (z := (⟨"com/example/rowmotif/rowmotif/expr/NavigationFunction", "shift", "(I)I"⟩ : MethodName)) hown (mvT hZ (hwi hw 12 rfl)) (mvT hZ (hwi hw 13 rfl)) (notFace_of_selects (args := #[]) (mvT hZ (hwi hw 15 rfl))) (mvT hZ (hwi hw 15 rfl)) (mvT hZ (hwi hw 14 rfl)) (by decide) (backOf (W := 0) (rmS l Z a0 hw [] a (1 : Int32) w_FIRST w_LAST w_PREV w_NEXT h13 n0 (Nat.le_trans Z0 K13.1) (Wd_ext hWd0 (own_ext K13))) hZ (hwi hw 16 rfl) (hwi hw 3 rfl) (by decide) (by decide)) q32a q32c (g := (mkF m 117 #[iv p1, iv p2, iv p3, rv b1, iv i, rv a, iv (-1), iv 1, iv 1, .unset, .unset] [(.int 1), (.ref a)])) rfl (by rw [hml]; rfl) (Steps.refl _) (argsL := [(.int 1)]) (rest := []) (lenOf pd_0 rfl) rfl (by show 2 * 0 + _ ≤ _; exact Nat.le_of_eq rfl) (hb hby at_117) (fun _ _ => ⟨rfl, e31q, (by decide : 1 + 0 ≤ _), (by decide : 4 + 0 ≤ _)⟩)
      dsimp only [Pt.U, Pt.locs, Pt.cells, Pt.slots] at X32 l32 y32 z32 st32 hQ32
      subst l32 y32 z32
      obtain ⟨hv32, N32q, e32q⟩ := hQ32
      have N32 := Fr.app N31 N32q
      rw [if_pos hpe] at hv32
      subst hv32
      obtain ⟨cq33, kq33, q33a, q33b, q33c⟩ := isOf hZ e32q Ea
      obtain ⟨_, _, ⟨T33, L33, k33, n33⟩, -, X33, ⟨Lc33, hQ33, l33, y33, z33⟩, st33⟩ := X32.virtualBack hx (y := (⟨"com/example/rowmotif/rowmotif/expr/NavigationFunction", "isPhysical", "()Z"⟩ : MethodName)) (z := (⟨"com/example/rowmotif/rowmotif/expr/NavigationFunction", "isPhysical", "()Z"⟩ : MethodName)) hown (mvT hZ (hwi hw 19 rfl)) (mvT hZ (hwi hw 20 rfl)) (notFace_of_selects (args := #[]) (mvT hZ (hwi hw 22 rfl))) (mvT hZ (hwi hw 22 rfl)) (mvT hZ (hwi hw 21 rfl)) (by decide) (backOf (W := 0) (rmP l Z a0 hw [] a w_FIRST w_LAST w_PREV w_NEXT h13 n0 (Nat.le_trans Z0 K13.1) (Wd_ext hWd0 (own_ext K13))) hZ (hwi hw 23 rfl) (hwi hw 3 rfl) (by decide) (by decide)) q33a q33c (g := (mkF m 134 #[iv p1, iv p2, iv p3, rv b1, iv i, rv a, iv (-1), iv 1, iv 1, iv 1, .unset] [(.ref a)])) rfl (by rw [hml]; rfl) (Steps.refl _) (argsL := []) (rest := []) (lenOf pd_1 rfl) rfl (by show 2 * 0 + _ ≤ _; exact Nat.le_of_eq rfl) (hb hby at_134) (fun _ _ => ⟨rfl, e32q, (by decide : 1 + 0 ≤ _), (by decide : 4 + 0 ≤ _)⟩)
      dsimp only [Pt.U, Pt.locs, Pt.cells, Pt.slots] at X33 l33 y33 z33 st33 hQ33
      subst l33 y33 z33
      obtain ⟨hv33, N33q, e33q⟩ := hQ33
      have N33 := Fr.app N32 N33q
      rw [if_pos (Or.inl hpe)] at hv33
      subst hv33
      have pre34 : ∀ t_, Go p e below T33 (mkF m 181 #[iv p1, iv p2, iv p3, rv b1, iv i, rv a, iv (-1), iv 1, iv 1, iv 1, iv 1] [(.int 1)]) t_ → Go p e below s₁ (entryFrame m #[(.int p1), (.int p2), (.int p3)] maxLocals) t_ := fun t_ kt => pre26 _ (by
          show Go p e below T13 (mkF m 53 #[iv p1, iv p2, iv p3, rv b1, iv i, rv a, .unset, .unset, .unset, .unset, .unset] [(.int 2), (.int i)]) _
          refine XS.icmpNo X13.here hx rfl (hb hby at_53) rfl (teq hc53_27).2 ?_
          show Go p e below T13 (mkF m 56 #[iv p1, iv p2, iv p3, rv b1, iv i, rv a, .unset, .unset, .unset, .unset, .unset] []) _
          refine XS.iconst X13.here hx rfl (hb hby at_56) ?_
          show Go p e below T13 (mkF m 57 #[iv p1, iv p2, iv p3, rv b1, iv i, rv a, .unset, .unset, .unset, .unset, .unset] [(.int (-1))]) _
          refine XS.goto X13.here hx rfl (pc0 := 57) (pc' := 61) rfl (hb hby at_57) (by decide) (by decide) ?_
          show Go p e below T13 (mkF m 61 #[iv p1, iv p2, iv p3, rv b1, iv i, rv a, .unset, .unset, .unset, .unset, .unset] [(.int (-1))]) _
          refine XS.istore X13.here hx rfl (hb hby at_61) rfl (l' := #[iv p1, iv p2, iv p3, rv b1, iv i, rv a, iv (-1), .unset, .unset, .unset, .unset]) rfl ?_
          show Go p e below T13 (mkF m 63 #[iv p1, iv p2, iv p3, rv b1, iv i, rv a, iv (-1), .unset, .unset, .unset, .unset] []) _
          refine XS.aload X13.here hx rfl (hb hby at_63) rfl rfl ?_
          show Go p e below T13 (mkF m 65 #[iv p1, iv p2, iv p3, rv b1, iv i, rv a, iv (-1), .unset, .unset, .unset, .unset] [(.ref a)]) _
          refine XS.iloadN X13.here hx rfl (hb hby at_65) rfl ?_
          show Go p e below T13 (mkF m 66 #[iv p1, iv p2, iv p3, rv b1, iv i, rv a, iv (-1), .unset, .unset, .unset, .unset] [(.int p2), (.ref a)]) _
          refine st28.trans ?_
          show Go p e below T28 (mkF m 69 #[iv p1, iv p2, iv p3, rv b1, iv i, rv a, iv (-1), .unset, .unset, .unset, .unset] [(.int (-p2))]) _
          refine XS.iload X28.here hx rfl (hb hby at_69) rfl ?_
          show Go p e below T28 (mkF m 71 #[iv p1, iv p2, iv p3, rv b1, iv i, rv a, iv (-1), .unset, .unset, .unset, .unset] [(.int (-1)), (.int (-p2))]) _
          refine XS.iloadN X28.here hx rfl (hb hby at_71) rfl ?_
          show Go p e below T28 (mkF m 72 #[iv p1, iv p2, iv p3, rv b1, iv i, rv a, iv (-1), .unset, .unset, .unset, .unset] [(.int p2), (.int (-1)), (.int (-p2))]) _
          refine XS.imul X28.here hx rfl (hb hby at_72) rfl ?_
          show Go p e below T28 (mkF m 73 #[iv p1, iv p2, iv p3, rv b1, iv i, rv a, iv (-1), .unset, .unset, .unset, .unset] [(.int ((-1 : Int32) * p2)), (.int (-p2))]) _
          refine XS.icmpNo X28.here hx rfl (hb hby at_73) rfl (teq (own_n1 _)).2 ?_
          show Go p e below T28 (mkF m 76 #[iv p1, iv p2, iv p3, rv b1, iv i, rv a, iv (-1), .unset, .unset, .unset, .unset] []) _
          refine XS.iconst X28.here hx rfl (hb hby at_76) ?_
          show Go p e below T28 (mkF m 77 #[iv p1, iv p2, iv p3, rv b1, iv i, rv a, iv (-1), .unset, .unset, .unset, .unset] [(.int 1)]) _
          refine XS.goto X28.here hx rfl (pc0 := 77) (pc' := 81) rfl (hb hby at_77) (by decide) (by decide) ?_
          show Go p e below T28 (mkF m 81 #[iv p1, iv p2, iv p3, rv b1, iv i, rv a, iv (-1), .unset, .unset, .unset, .unset] [(.int 1)]) _
          refine XS.istore X28.here hx rfl (hb hby at_81) rfl (l' := #[iv p1, iv p2, iv p3, rv b1, iv i, rv a, iv (-1), iv 1, .unset, .unset, .unset]) rfl ?_
          show Go p e below T28 (mkF m 83 #[iv p1, iv p2, iv p3, rv b1, iv i, rv a, iv (-1), iv 1, .unset, .unset, .unset] []) _
          refine XS.aload X28.here hx rfl (hb hby at_83) rfl rfl ?_
          show Go p e below T28 (mkF m 85 #[iv p1, iv p2, iv p3, rv b1, iv i, rv a, iv (-1), iv 1, .unset, .unset, .unset] [(.ref a)]) _
          refine XS.iloadN X28.here hx rfl (hb hby at_85) rfl ?_
          show Go p e below T28 (mkF m 86 #[iv p1, iv p2, iv p3, rv b1, iv i, rv a, iv (-1), iv 1, .unset, .unset, .unset] [(.int p2), (.ref a)]) _
          refine XS.iloadN X28.here hx rfl (hb hby at_86) rfl ?_
          show Go p e below T28 (mkF m 87 #[iv p1, iv p2, iv p3, rv b1, iv i, rv a, iv (-1), iv 1, .unset, .unset, .unset] [(.int p3), (.int p2), (.ref a)]) _
          refine XS.iadd X28.here hx rfl (hb hby at_87) rfl ?_
          show Go p e below T28 (mkF m 88 #[iv p1, iv p2, iv p3, rv b1, iv i, rv a, iv (-1), iv 1, .unset, .unset, .unset] [(.int (p2 + p3)), (.ref a)]) _
          refine st29.trans ?_
          show Go p e below T29 (mkF m 91 #[iv p1, iv p2, iv p3, rv b1, iv i, rv a, iv (-1), iv 1, .unset, .unset, .unset] [(.int (-(p2 + p3)))]) _
          refine XS.aload X29.here hx rfl (hb hby at_91) rfl rfl ?_
          show Go p e below T29 (mkF m 93 #[iv p1, iv p2, iv p3, rv b1, iv i, rv a, iv (-1), iv 1, .unset, .unset, .unset] [(.ref a), (.int (-(p2 + p3)))]) _
          refine XS.iloadN X29.here hx rfl (hb hby at_93) rfl ?_
          show Go p e below T29 (mkF m 94 #[iv p1, iv p2, iv p3, rv b1, iv i, rv a, iv (-1), iv 1, .unset, .unset, .unset] [(.int p2), (.ref a), (.int (-(p2 + p3)))]) _
          refine st30.trans ?_
          show Go p e below T30 (mkF m 97 #[iv p1, iv p2, iv p3, rv b1, iv i, rv a, iv (-1), iv 1, .unset, .unset, .unset] [(.int (-p2)), (.int (-(p2 + p3)))]) _
          refine XS.aload X30.here hx rfl (hb hby at_97) rfl rfl ?_
          show Go p e below T30 (mkF m 99 #[iv p1, iv p2, iv p3, rv b1, iv i, rv a, iv (-1), iv 1, .unset, .unset, .unset] [(.ref a), (.int (-p2)), (.int (-(p2 + p3)))]) _
          refine XS.iloadN X30.here hx rfl (hb hby at_99) rfl ?_
          show Go p e below T30 (mkF m 100 #[iv p1, iv p2, iv p3, rv b1, iv i, rv a, iv (-1), iv 1, .unset, .unset, .unset] [(.int p3), (.ref a), (.int (-p2)), (.int (-(p2 + p3)))]) _
          refine st31.trans ?_
          show Go p e below T31 (mkF m 103 #[iv p1, iv p2, iv p3, rv b1, iv i, rv a, iv (-1), iv 1, .unset, .unset, .unset] [(.int (-p3)), (.int (-p2)), (.int (-(p2 + p3)))]) _
          refine XS.iadd X31.here hx rfl (hb hby at_103) rfl ?_
          show Go p e below T31 (mkF m 104 #[iv p1, iv p2, iv p3, rv b1, iv i, rv a, iv (-1), iv 1, .unset, .unset, .unset] [(.int ((-p2) + (-p3))), (.int (-(p2 + p3)))]) _
          refine XS.icmpNo X31.here hx rfl (hb hby at_104) rfl (teq (own_n2 _ _)).2 ?_
          show Go p e below T31 (mkF m 107 #[iv p1, iv p2, iv p3, rv b1, iv i, rv a, iv (-1), iv 1, .unset, .unset, .unset] []) _
          refine XS.iconst X31.here hx rfl (hb hby at_107) ?_
          show Go p e below T31 (mkF m 108 #[iv p1, iv p2, iv p3, rv b1, iv i, rv a, iv (-1), iv 1, .unset, .unset, .unset] [(.int 1)]) _
          refine XS.goto X31.here hx rfl (pc0 := 108) (pc' := 112) rfl (hb hby at_108) (by decide) (by decide) ?_
          show Go p e below T31 (mkF m 112 #[iv p1, iv p2, iv p3, rv b1, iv i, rv a, iv (-1), iv 1, .unset, .unset, .unset] [(.int 1)]) _
          refine XS.istore X31.here hx rfl (hb hby at_112) rfl (l' := #[iv p1, iv p2, iv p3, rv b1, iv i, rv a, iv (-1), iv 1, iv 1, .unset, .unset]) rfl ?_
          show Go p e below T31 (mkF m 114 #[iv p1, iv p2, iv p3, rv b1, iv i, rv a, iv (-1), iv 1, iv 1, .unset, .unset] []) _
          refine XS.aload X31.here hx rfl (hb hby at_114) rfl rfl ?_
          show Go p e below T31 (mkF m 116 #[iv p1, iv p2, iv p3, rv b1, iv i, rv a, iv (-1), iv 1, iv 1, .unset, .unset] [(.ref a)]) _
          refine XS.iconst X31.here hx rfl (hb hby at_116) ?_
          show Go p e below T31 (mkF m 117 #[iv p1, iv p2, iv p3, rv b1, iv i, rv a, iv (-1), iv 1, iv 1, .unset, .unset] [(.int 1), (.ref a)]) _
          refine st32.trans ?_
          show Go p e below T32 (mkF m 120 #[iv p1, iv p2, iv p3, rv b1, iv i, rv a, iv (-1), iv 1, iv 1, .unset, .unset] [(.int (-(1 : Int32)))]) _
          refine XS.iload X32.here hx rfl (hb hby at_120) rfl ?_
          show Go p e below T32 (mkF m 122 #[iv p1, iv p2, iv p3, rv b1, iv i, rv a, iv (-1), iv 1, iv 1, .unset, .unset] [(.int (-1)), (.int (-(1 : Int32)))]) _
          refine XS.icmpNo X32.here hx rfl (hb hby at_122) rfl (teq ((by decide) : (-(1 : Int32)) = (-1 : Int32))).2 ?_
          show Go p e below T32 (mkF m 125 #[iv p1, iv p2, iv p3, rv b1, iv i, rv a, iv (-1), iv 1, iv 1, .unset, .unset] []) _
          refine XS.iconst X32.here hx rfl (hb hby at_125) ?_
          show Go p e below T32 (mkF m 126 #[iv p1, iv p2, iv p3, rv b1, iv i, rv a, iv (-1), iv 1, iv 1, .unset, .unset] [(.int 1)]) _
          refine XS.goto X32.here hx rfl (pc0 := 126) (pc' := 130) rfl (hb hby at_126) (by decide) (by decide) ?_
          show Go p e below T32 (mkF m 130 #[iv p1, iv p2, iv p3, rv b1, iv i, rv a, iv (-1), iv 1, iv 1, .unset, .unset] [(.int 1)]) _
          refine XS.istore X32.here hx rfl (hb hby at_130) rfl (l' := #[iv p1, iv p2, iv p3, rv b1, iv i, rv a, iv (-1), iv 1, iv 1, iv 1, .unset]) rfl ?_
          show Go p e below T32 (mkF m 132 #[iv p1, iv p2, iv p3, rv b1, iv i, rv a, iv (-1), iv 1, iv 1, iv 1, .unset] []) _
          refine XS.aload X32.here hx rfl (hb hby at_132) rfl rfl ?_
          show Go p e below T32 (mkF m 134 #[iv p1, iv p2, iv p3, rv b1, iv i, rv a, iv (-1), iv 1, iv 1, iv 1, .unset] [(.ref a)]) _
          refine st33.trans ?_
          show Go p e below T33 (mkF m 137 #[iv p1, iv p2, iv p3, rv b1, iv i, rv a, iv (-1), iv 1, iv 1, iv 1, .unset] [(.int 1)]) _
          refine XS.ifYes X33.here hx rfl (pc0 := 137) (pc' := 149) rfl (hb hby at_137) rfl ((if0 _ _).trans (feq ((by decide) : ¬ ((1 : Int32) = (0 : Int32)))).2) (by decide) (by decide) ?_
          show Go p e below T33 (mkF m 149 #[iv p1, iv p2, iv p3, rv b1, iv i, rv a, iv (-1), iv 1, iv 1, iv 1, .unset] []) _
          refine XS.iconst X33.here hx rfl (hb hby at_149) ?_
          show Go p e below T33 (mkF m 150 #[iv p1, iv p2, iv p3, rv b1, iv i, rv a, iv (-1), iv 1, iv 1, iv 1, .unset] [(.int 1)]) _
          refine XS.goto X33.here hx rfl (pc0 := 150) (pc' := 154) rfl (hb hby at_150) (by decide) (by decide) ?_
          show Go p e below T33 (mkF m 154 #[iv p1, iv p2, iv p3, rv b1, iv i, rv a, iv (-1), iv 1, iv 1, iv 1, .unset] [(.int 1)]) _
          refine XS.istore X33.here hx rfl (hb hby at_154) rfl (l' := #[iv p1, iv p2, iv p3, rv b1, iv i, rv a, iv (-1), iv 1, iv 1, iv 1, iv 1]) rfl ?_
          show Go p e below T33 (mkF m 156 #[iv p1, iv p2, iv p3, rv b1, iv i, rv a, iv (-1), iv 1, iv 1, iv 1, iv 1] []) _
          refine XS.iload X33.here hx rfl (hb hby at_156) rfl ?_
          show Go p e below T33 (mkF m 158 #[iv p1, iv p2, iv p3, rv b1, iv i, rv a, iv (-1), iv 1, iv 1, iv 1, iv 1] [(.int 1)]) _
          refine XS.ifNo X33.here hx rfl (hb hby at_158) rfl ((if0 _ _).trans (feq ((by decide) : ¬ ((1 : Int32) = (0 : Int32)))).1) ?_
          show Go p e below T33 (mkF m 161 #[iv p1, iv p2, iv p3, rv b1, iv i, rv a, iv (-1), iv 1, iv 1, iv 1, iv 1] []) _
          refine XS.iload X33.here hx rfl (hb hby at_161) rfl ?_
          show Go p e below T33 (mkF m 163 #[iv p1, iv p2, iv p3, rv b1, iv i, rv a, iv (-1), iv 1, iv 1, iv 1, iv 1] [(.int 1)]) _
          refine XS.ifNo X33.here hx rfl (hb hby at_163) rfl ((if0 _ _).trans (feq ((by decide) : ¬ ((1 : Int32) = (0 : Int32)))).1) ?_
          show Go p e below T33 (mkF m 166 #[iv p1, iv p2, iv p3, rv b1, iv i, rv a, iv (-1), iv 1, iv 1, iv 1, iv 1] []) _
          refine XS.iload X33.here hx rfl (hb hby at_166) rfl ?_
          show Go p e below T33 (mkF m 168 #[iv p1, iv p2, iv p3, rv b1, iv i, rv a, iv (-1), iv 1, iv 1, iv 1, iv 1] [(.int 1)]) _
          refine XS.ifNo X33.here hx rfl (hb hby at_168) rfl ((if0 _ _).trans (feq ((by decide) : ¬ ((1 : Int32) = (0 : Int32)))).1) ?_
          show Go p e below T33 (mkF m 171 #[iv p1, iv p2, iv p3, rv b1, iv i, rv a, iv (-1), iv 1, iv 1, iv 1, iv 1] []) _
          refine XS.iload X33.here hx rfl (hb hby at_171) rfl ?_
          show Go p e below T33 (mkF m 173 #[iv p1, iv p2, iv p3, rv b1, iv i, rv a, iv (-1), iv 1, iv 1, iv 1, iv 1] [(.int 1)]) _
          refine XS.ifNo X33.here hx rfl (hb hby at_173) rfl ((if0 _ _).trans (feq ((by decide) : ¬ ((1 : Int32) = (0 : Int32)))).1) ?_
          show Go p e below T33 (mkF m 176 #[iv p1, iv p2, iv p3, rv b1, iv i, rv a, iv (-1), iv 1, iv 1, iv 1, iv 1] []) _
          refine XS.iconst X33.here hx rfl (hb hby at_176) ?_
          show Go p e below T33 (mkF m 177 #[iv p1, iv p2, iv p3, rv b1, iv i, rv a, iv (-1), iv 1, iv 1, iv 1, iv 1] [(.int 1)]) _
          refine XS.goto X33.here hx rfl (pc0 := 177) (pc' := 181) rfl (hb hby at_177) (by decide) (by decide) ?_
          show Go p e below T33 (mkF m 181 #[iv p1, iv p2, iv p3, rv b1, iv i, rv a, iv (-1), iv 1, iv 1, iv 1, iv 1] [(.int 1)]) _
          exact kt)
      obtain ⟨fs, hr, hrun, hended, hW, hsame⟩ := X33.leave (v := some (.int 1)) (fun h => by rw [Bd.returns] at h; cases h)
      refine ⟨_, _, pre34 _ ?_, hrun, hended, _, _, rfl, ?_, ⟨_, rfl⟩, hW, hsame.mono (by decide) (by decide)⟩
      · show Steps p.tables e below (T33.setTop (mkF m 181 #[iv p1, iv p2, iv p3, rv b1, iv i, rv a, iv (-1), iv 1, iv 1, iv 1, iv 1] [(.int 1)])) _
        exact retN X33 hx (t := .boolean) Bd.returns (by simp) (hb hby at_181) hr
      · show Q_rmL Z p1 p2 p3 w_FIRST w_LAST w_PREV w_NEXT h0 n0 _ T33.heap _
        rw [e33q]
        exact ⟨rfl, N33⟩
    · have hne : ¬ (a = w_PREV) := fun q => hc53_27 (hP.mp q)
      have hnx : a = w_NEXT := hX.mpr ⟨hc43_17, hc53_27⟩
      obtain ⟨cq35, kq35, q35a, q35b, q35c⟩ := isOf hZ e13 Ea
      obtain ⟨_, _, ⟨T35, L35, k35, n35⟩, -, X35, ⟨Lc35, hQ35, l35, y35, z35⟩, st35⟩ := X13.virtualBack hx (y := (⟨"com/example/rowmotif/rowmotif/expr/NavigationFunction", "shift", "(I)I"⟩ : MethodName)) (z := (⟨"com/example/rowmotif/rowmotif/expr/NavigationFunction", "shift", "(I)I"⟩ : MethodName)) hown (mvT hZ (hwi hw 12 rfl)) (mvT hZ (hwi hw 13 rfl)) (notFace_of_selects (args := #[]) (mvT hZ (hwi hw 15 rfl))) (mvT hZ (hwi hw 15 rfl)) (mvT hZ (hwi hw 14 rfl)) (by decide) (backOf (W := 0) (rmS l Z a0 hw [] a p2 w_FIRST w_LAST w_PREV w_NEXT h13 n0 (Nat.le_trans Z0 K13.1) (Wd_ext hWd0 (own_ext K13))) hZ (hwi hw 16 rfl) (hwi hw 3 rfl) (by decide) (by decide)) q35a q35c (g := (mkF m 66 #[iv p1, iv p2, iv p3, rv b1, iv i, rv a, iv 1, .unset, .unset, .unset, .unset] [(.int p2), (.ref a)])) rfl (by rw [hml]; rfl) (Steps.refl _) (argsL := [(.int p2)]) (rest := []) (lenOf pd_0 rfl) rfl (by show 2 * 0 + _ ≤ _; exact Nat.le_of_eq rfl) (hb hby at_66) (fun _ _ => ⟨rfl, e13, (by decide : 1 + 0 ≤ _), (by decide : 4 + 0 ≤ _)⟩)
      dsimp only [Pt.U, Pt.locs, Pt.cells, Pt.slots] at X35 l35 y35 z35 st35 hQ35
      subst l35 y35 z35
      obtain ⟨hv35, N35q, e35q⟩ := hQ35
      have N35 := Fr.app N13 N35q
      rw [if_neg hne, if_pos hnx] at hv35
      subst hv35
      obtain ⟨cq36, kq36, q36a, q36b, q36c⟩ := isOf hZ e35q Ea
      obtain ⟨_, _, ⟨T36, L36, k36, n36⟩, -, X36, ⟨Lc36, hQ36, l36, y36, z36⟩, st36⟩ := X35.virtualBack hx (y := (⟨"com/example/rowmotif/rowmotif/expr/NavigationFunction", "shift", "(I)I"⟩ : MethodName)) (z := (⟨"com/example/rowmotif/rowmotif/expr/NavigationFunction", "shift", "(I)I"⟩ : MethodName)) hown (mvT hZ (hwi hw 12 rfl)) (mvT hZ (hwi hw 13 rfl)) (notFace_of_selects (args := #[]) (mvT hZ (hwi hw 15 rfl))) (mvT hZ (hwi hw 15 rfl)) (mvT hZ (hwi hw 14 rfl)) (by decide) (backOf (W := 0) (rmS l Z a0 hw [] a (p2 + p3) w_FIRST w_LAST w_PREV w_NEXT h13 n0 (Nat.le_trans Z0 K13.1) (Wd_ext hWd0 (own_ext K13))) hZ (hwi hw 16 rfl) (hwi hw 3 rfl) (by decide) (by decide)) q36a q36c (g := (mkF m 88 #[iv p1, iv p2, iv p3, rv b1, iv i, rv a, iv 1, iv 1, .unset, .unset, .unset] [(.int (p2 + p3)), (.ref a)])) rfl (by rw [hml]; rfl) (Steps.refl _) (argsL := [(.int (p2 + p3))]) (rest := []) (lenOf pd_0 rfl) rfl (by show 2 * 0 + _ ≤ _; exact Nat.le_of_eq rfl) (hb hby at_88) (fun _ _ => ⟨rfl, e35q, (by decide : 1 + 0 ≤ _), (by decide : 4 + 0 ≤ _)⟩)
      dsimp only [Pt.U, Pt.locs, Pt.cells, Pt.slots] at X36 l36 y36 z36 st36 hQ36
      subst l36 y36 z36
      obtain ⟨hv36, N36q, e36q⟩ := hQ36
      have N36 := Fr.app N35 N36q
      rw [if_neg hne, if_pos hnx] at hv36
      subst hv36
      obtain ⟨cq37, kq37, q37a, q37b, q37c⟩ := isOf hZ e36q Ea
      obtain ⟨_, _, ⟨T37, L37, k37, n37⟩, -, X37, ⟨Lc37, hQ37, l37, y37, z37⟩, st37⟩ := X36.virtualBack hx (y := (⟨"com/example/rowmotif/rowmotif/expr/NavigationFunction", "shift", "(I)I"⟩ : MethodName)) (z := (⟨"com/example/rowmotif/rowmotif/expr/NavigationFunction", "shift", "(I)I"⟩ : MethodName)) hown (mvT hZ (hwi hw 12 rfl)) (mvT hZ (hwi hw 13 rfl)) (notFace_of_selects (args := #[]) (mvT hZ (hwi hw 15 rfl))) (mvT hZ (hwi hw 15 rfl)) (mvT hZ (hwi hw 14 rfl)) (by decide) (backOf (W := 1) (rmS l Z a0 hw [] a p2 w_FIRST w_LAST w_PREV w_NEXT h13 n0 (Nat.le_trans Z0 K13.1) (Wd_ext hWd0 (own_ext K13))) hZ (hwi hw 16 rfl) (hwi hw 3 rfl) (by decide) (by decide)) q37a q37c (g := (mkF m 94 #[iv p1, iv p2, iv p3, rv b1, iv i, rv a, iv 1, iv 1, .unset, .unset, .unset] [(.int p2), (.ref a), (.int (p2 + p3))])) rfl (by rw [hml]; rfl) (Steps.refl _) (argsL := [(.int p2)]) (rest := [(.int (p2 + p3))]) (lenOf pd_0 rfl) rfl (by show 2 * 0 + _ ≤ _; exact Nat.le_of_eq rfl) (hb hby at_94) (fun _ _ => ⟨rfl, e36q, (by decide : 1 + 0 ≤ _), (by decide : 4 + 0 ≤ _)⟩)
      dsimp only [Pt.U, Pt.locs, Pt.cells, Pt.slots] at X37 l37 y37 z37 st37 hQ37
      subst l37 y37 z37
      obtain ⟨hv37, N37q, e37q⟩ := hQ37
      have N37 := Fr.app N36 N37q
      rw [if_neg hne, if_pos hnx] at hv37
      subst hv37
      obtain ⟨cq38, kq38, q38a, q38b, q38c⟩ := isOf hZ e37q Ea
      obtain ⟨_, _, ⟨T38, L38, k38, n38⟩, -, X38, ⟨Lc38, hQ38, l38, y38, z38⟩, st38⟩ := X37.virtualBack hx (y := (⟨"com/example/rowmotif/rowmotif/expr/NavigationFunction", "shift", "(I)I"⟩ : MethodName)) (z := (⟨"com/example/rowmotif/rowmotif/expr/NavigationFunction", "shift", "(I)I"⟩ : MethodName)) hown (mvT hZ (hwi hw 12 rfl)) (mvT hZ (hwi hw 13 rfl)) (notFace_of_selects (args := #[]) (mvT hZ (hwi hw 15 rfl))) (mvT hZ (hwi hw 15 rfl)) (mvT hZ (hwi hw 14 rfl)) (by decide) (backOf (W := 2) (rmS l Z a0 hw [] a p3 w_FIRST w_LAST w_PREV w_NEXT h13 n0 (Nat.le_trans Z0 K13.1) (Wd_ext hWd0 (own_ext K13))) hZ (hwi hw 16 rfl) (hwi hw 3 rfl) (by decide) (by decide)) q38a q38c (g := (mkF m 100 #[iv p1, iv p2, iv p3, rv b1, iv i, rv a, iv 1, iv 1, .unset, .unset, .unset] [(.int p3), (.ref a), (.int p2), (.int (p2 + p3))])) rfl (by rw [hml]; rfl) (Steps.refl _) (argsL := [(.int p3)]) (rest := [(.int p2), (.int (p2 + p3))]) (lenOf pd_0 rfl) rfl (by show 2 * 0 + _ ≤ _; exact Nat.le_of_eq rfl) (hb hby at_100) (fun _ _ => ⟨rfl, e37q, (by decide : 1 + 0 ≤ _), (by decide : 4 + 0 ≤ _)⟩)
      dsimp only [Pt.U, Pt.locs, Pt.cells, Pt.slots] at X38 l38 y38 z38 st38 hQ38
      subst l38 y38 z38
      obtain ⟨hv38, N38q, e38q⟩ := hQ38
      have N38 := Fr.app N37 N38q
      rw [if_neg hne, if_pos hnx] at hv38
      subst hv38
      obtain ⟨cq39, kq39, q39a, q39b, q39c⟩ := isOf hZ e38q Ea
      obtain ⟨_, _, ⟨T39, L39, k39, n39⟩, -, X39, ⟨Lc39, hQ39, l39, y39, z39⟩, st39⟩ := X38.virtualBack hx (y := (⟨"com/example/rowmotif/rowmotif/expr/NavigationFunction", "shift", "(I)I"⟩ : MethodName)) (z := (⟨"com/example/rowmotif/rowmotif/expr/NavigationFunction", "shift", "(I)I"⟩ : MethodName)) hown (mvT hZ (hwi hw 12 rfl)) (mvT hZ (hwi hw 13 rfl)) (notFace_of_selects (args := #[]) (mvT hZ (hwi hw 15 rfl))) (mvT hZ (hwi hw 15 rfl)) (mvT hZ (hwi hw 14 rfl)) (by decide) (backOf (W := 0) (rmS l Z a0 hw [] a (1 : Int32) w_FIRST w_LAST w_PREV w_NEXT h13 n0 (Nat.le_trans Z0 K13.1) (Wd_ext hWd0 (own_ext K13))) hZ (hwi hw 16 rfl) (hwi hw 3 rfl) (by decide) (by decide)) q39a q39c (g := (mkF m 117 #[iv p1, iv p2, iv p3, rv b1, iv i, rv a, iv 1, iv 1, iv 1, .unset, .unset] [(.int 1), (.ref a)])) rfl (by rw [hml]; rfl) (Steps.refl _) (argsL := [(.int 1)]) (rest := []) (lenOf pd_0 rfl) rfl (by show 2 * 0 + _ ≤ _; exact Nat.le_of_eq rfl) (hb hby at_117) (fun _ _ => ⟨rfl, e38q, (by decide : 1 + 0 ≤ _), (by decide : 4 + 0 ≤ _)⟩)
      dsimp only [Pt.U, Pt.locs, Pt.cells, Pt.slots] at X39 l39 y39 z39 st39 hQ39
      subst l39 y39 z39
      obtain ⟨hv39, N39q, e39q⟩ := hQ39
      have N39 := Fr.app N38 N39q
      rw [if_neg hne, if_pos hnx] at hv39
      subst hv39
      obtain ⟨cq40, kq40, q40a, q40b, q40c⟩ := isOf hZ e39q Ea
      obtain ⟨_, _, ⟨T40, L40, k40, n40⟩, -, X40, ⟨Lc40, hQ40, l40, y40, z40⟩, st40⟩ := X39.virtualBack hx (y := (⟨"com/example/rowmotif/rowmotif/expr/NavigationFunction", "isPhysical", "()Z"⟩ : MethodName)) (z := (⟨"com/example/rowmotif/rowmotif/expr/NavigationFunction", "isPhysical", "()Z"⟩ : MethodName)) hown (mvT hZ (hwi hw 19 rfl)) (mvT hZ (hwi hw 20 rfl)) (notFace_of_selects (args := #[]) (mvT hZ (hwi hw 22 rfl))) (mvT hZ (hwi hw 22 rfl)) (mvT hZ (hwi hw 21 rfl)) (by decide) (backOf (W := 0) (rmP l Z a0 hw [] a w_FIRST w_LAST w_PREV w_NEXT h13 n0 (Nat.le_trans Z0 K13.1) (Wd_ext hWd0 (own_ext K13))) hZ (hwi hw 23 rfl) (hwi hw 3 rfl) (by decide) (by decide)) q40a q40c (g := (mkF m 134 #[iv p1, iv p2, iv p3, rv b1, iv i, rv a, iv 1, iv 1, iv 1, iv 1, .unset] [(.ref a)])) rfl (by rw [hml]; rfl) (Steps.refl _) (argsL := []) (rest := []) (lenOf pd_1 rfl) rfl (by show 2 * 0 + _ ≤ _; exact Nat.le_of_eq rfl) (hb hby at_134) (fun _ _ => ⟨rfl, e39q, (by decide : 1 + 0 ≤ _), (by decide : 4 + 0 ≤ _)⟩)
      dsimp only [Pt.U, Pt.locs, Pt.cells, Pt.slots] at X40 l40 y40 z40 st40 hQ40
      subst l40 y40 z40
      obtain ⟨hv40, N40q, e40q⟩ := hQ40
      have N40 := Fr.app N39 N40q
      rw [if_pos (Or.inr hnx)] at hv40
      subst hv40
      have pre41 : ∀ t_, Go p e below T40 (mkF m 181 #[iv p1, iv p2, iv p3, rv b1, iv i, rv a, iv 1, iv 1, iv 1, iv 1, iv 1] [(.int 1)]) t_ → Go p e below s₁ (entryFrame m #[(.int p1), (.int p2), (.int p3)] maxLocals) t_ := fun t_ kt => pre26 _ (by
          show Go p e below T13 (mkF m 53 #[iv p1, iv p2, iv p3, rv b1, iv i, rv a, .unset, .unset, .unset, .unset, .unset] [(.int 2), (.int i)]) _
          refine XS.icmpYes X13.here hx rfl (pc0 := 53) (pc' := 60) rfl (hb hby at_53) rfl (feq hc53_27).2 (by decide) (by decide) ?_
          show Go p e below T13 (mkF m 60 #[iv p1, iv p2, iv p3, rv b1, iv i, rv a, .unset, .unset, .unset, .unset, .unset] []) _
          refine XS.iconst X13.here hx rfl (hb hby at_60) ?_
          show Go p e below T13 (mkF m 61 #[iv p1, iv p2, iv p3, rv b1, iv i, rv a, .unset, .unset, .unset, .unset, .unset] [(.int 1)]) _
          refine XS.istore X13.here hx rfl (hb hby at_61) rfl (l' := #[iv p1, iv p2, iv p3, rv b1, iv i, rv a, iv 1, .unset, .unset, .unset, .unset]) rfl ?_
          show Go p e below T13 (mkF m 63 #[iv p1, iv p2, iv p3, rv b1, iv i, rv a, iv 1, .unset, .unset, .unset, .unset] []) _
          refine XS.aload X13.here hx rfl (hb hby at_63) rfl rfl ?_
          show Go p e below T13 (mkF m 65 #[iv p1, iv p2, iv p3, rv b1, iv i, rv a, iv 1, .unset, .unset, .unset, .unset] [(.ref a)]) _
          refine XS.iloadN X13.here hx rfl (hb hby at_65) rfl ?_
          show Go p e below T13 (mkF m 66 #[iv p1, iv p2, iv p3, rv b1, iv i, rv a, iv 1, .unset, .unset, .unset, .unset] [(.int p2), (.ref a)]) _
          refine st35.trans ?_
          show Go p e below T35 (mkF m 69 #[iv p1, iv p2, iv p3, rv b1, iv i, rv a, iv 1, .unset, .unset, .unset, .unset] [(.int p2)]) _
          refine XS.iload X35.here hx rfl (hb hby at_69) rfl ?_
          show Go p e below T35 (mkF m 71 #[iv p1, iv p2, iv p3, rv b1, iv i, rv a, iv 1, .unset, .unset, .unset, .unset] [(.int 1), (.int p2)]) _
          refine XS.iloadN X35.here hx rfl (hb hby at_71) rfl ?_
          show Go p e below T35 (mkF m 72 #[iv p1, iv p2, iv p3, rv b1, iv i, rv a, iv 1, .unset, .unset, .unset, .unset] [(.int p2), (.int 1), (.int p2)]) _
          refine XS.imul X35.here hx rfl (hb hby at_72) rfl ?_
          show Go p e below T35 (mkF m 73 #[iv p1, iv p2, iv p3, rv b1, iv i, rv a, iv 1, .unset, .unset, .unset, .unset] [(.int ((1 : Int32) * p2)), (.int p2)]) _
          refine XS.icmpNo X35.here hx rfl (hb hby at_73) rfl (teq ((by simp) : p2 = ((1 : Int32) * p2))).2 ?_
          show Go p e below T35 (mkF m 76 #[iv p1, iv p2, iv p3, rv b1, iv i, rv a, iv 1, .unset, .unset, .unset, .unset] []) _
          refine XS.iconst X35.here hx rfl (hb hby at_76) ?_
          show Go p e below T35 (mkF m 77 #[iv p1, iv p2, iv p3, rv b1, iv i, rv a, iv 1, .unset, .unset, .unset, .unset] [(.int 1)]) _
          refine XS.goto X35.here hx rfl (pc0 := 77) (pc' := 81) rfl (hb hby at_77) (by decide) (by decide) ?_
          show Go p e below T35 (mkF m 81 #[iv p1, iv p2, iv p3, rv b1, iv i, rv a, iv 1, .unset, .unset, .unset, .unset] [(.int 1)]) _
          refine XS.istore X35.here hx rfl (hb hby at_81) rfl (l' := #[iv p1, iv p2, iv p3, rv b1, iv i, rv a, iv 1, iv 1, .unset, .unset, .unset]) rfl ?_
          show Go p e below T35 (mkF m 83 #[iv p1, iv p2, iv p3, rv b1, iv i, rv a, iv 1, iv 1, .unset, .unset, .unset] []) _
          refine XS.aload X35.here hx rfl (hb hby at_83) rfl rfl ?_
          show Go p e below T35 (mkF m 85 #[iv p1, iv p2, iv p3, rv b1, iv i, rv a, iv 1, iv 1, .unset, .unset, .unset] [(.ref a)]) _
          refine XS.iloadN X35.here hx rfl (hb hby at_85) rfl ?_
          show Go p e below T35 (mkF m 86 #[iv p1, iv p2, iv p3, rv b1, iv i, rv a, iv 1, iv 1, .unset, .unset, .unset] [(.int p2), (.ref a)]) _
          refine XS.iloadN X35.here hx rfl (hb hby at_86) rfl ?_
          show Go p e below T35 (mkF m 87 #[iv p1, iv p2, iv p3, rv b1, iv i, rv a, iv 1, iv 1, .unset, .unset, .unset] [(.int p3), (.int p2), (.ref a)]) _
          refine XS.iadd X35.here hx rfl (hb hby at_87) rfl ?_
          show Go p e below T35 (mkF m 88 #[iv p1, iv p2, iv p3, rv b1, iv i, rv a, iv 1, iv 1, .unset, .unset, .unset] [(.int (p2 + p3)), (.ref a)]) _
          refine st36.trans ?_
          show Go p e below T36 (mkF m 91 #[iv p1, iv p2, iv p3, rv b1, iv i, rv a, iv 1, iv 1, .unset, .unset, .unset] [(.int (p2 + p3))]) _
          refine XS.aload X36.here hx rfl (hb hby at_91) rfl rfl ?_
          show Go p e below T36 (mkF m 93 #[iv p1, iv p2, iv p3, rv b1, iv i, rv a, iv 1, iv 1, .unset, .unset, .unset] [(.ref a), (.int (p2 + p3))]) _
          refine XS.iloadN X36.here hx rfl (hb hby at_93) rfl ?_
          show Go p e below T36 (mkF m 94 #[iv p1, iv p2, iv p3, rv b1, iv i, rv a, iv 1, iv 1, .unset, .unset, .unset] [(.int p2), (.ref a), (.int (p2 + p3))]) _
          refine st37.trans ?_
          show Go p e below T37 (mkF m 97 #[iv p1, iv p2, iv p3, rv b1, iv i, rv a, iv 1, iv 1, .unset, .unset, .unset] [(.int p2), (.int (p2 + p3))]) _
          refine XS.aload X37.here hx rfl (hb hby at_97) rfl rfl ?_
          show Go p e below T37 (mkF m 99 #[iv p1, iv p2, iv p3, rv b1, iv i, rv a, iv 1, iv 1, .unset, .unset, .unset] [(.ref a), (.int p2), (.int (p2 + p3))]) _
          refine XS.iloadN X37.here hx rfl (hb hby at_99) rfl ?_
          show Go p e below T37 (mkF m 100 #[iv p1, iv p2, iv p3, rv b1, iv i, rv a, iv 1, iv 1, .unset, .unset, .unset] [(.int p3), (.ref a), (.int p2), (.int (p2 + p3))]) _
          refine st38.trans ?_
          show Go p e below T38 (mkF m 103 #[iv p1, iv p2, iv p3, rv b1, iv i, rv a, iv 1, iv 1, .unset, .unset, .unset] [(.int p3), (.int p2), (.int (p2 + p3))]) _
          refine XS.iadd X38.here hx rfl (hb hby at_103) rfl ?_
          show Go p e below T38 (mkF m 104 #[iv p1, iv p2, iv p3, rv b1, iv i, rv a, iv 1, iv 1, .unset, .unset, .unset] [(.int (p2 + p3)), (.int (p2 + p3))]) _
          refine XS.icmpNo X38.here hx rfl (hb hby at_104) rfl (teq (rfl : (p2 + p3) = (p2 + p3))).2 ?_
          show Go p e below T38 (mkF m 107 #[iv p1, iv p2, iv p3, rv b1, iv i, rv a, iv 1, iv 1, .unset, .unset, .unset] []) _
          refine XS.iconst X38.here hx rfl (hb hby at_107) ?_
          show Go p e below T38 (mkF m 108 #[iv p1, iv p2, iv p3, rv b1, iv i, rv a, iv 1, iv 1, .unset, .unset, .unset] [(.int 1)]) _
          refine XS.goto X38.here hx rfl (pc0 := 108) (pc' := 112) rfl (hb hby at_108) (by decide) (by decide) ?_
          show Go p e below T38 (mkF m 112 #[iv p1, iv p2, iv p3, rv b1, iv i, rv a, iv 1, iv 1, .unset, .unset, .unset] [(.int 1)]) _
          refine XS.istore X38.here hx rfl (hb hby at_112) rfl (l' := #[iv p1, iv p2, iv p3, rv b1, iv i, rv a, iv 1, iv 1, iv 1, .unset, .unset]) rfl ?_
          show Go p e below T38 (mkF m 114 #[iv p1, iv p2, iv p3, rv b1, iv i, rv a, iv 1, iv 1, iv 1, .unset, .unset] []) _
          refine XS.aload X38.here hx rfl (hb hby at_114) rfl rfl ?_
          show Go p e below T38 (mkF m 116 #[iv p1, iv p2, iv p3, rv b1, iv i, rv a, iv 1, iv 1, iv 1, .unset, .unset] [(.ref a)]) _
          refine XS.iconst X38.here hx rfl (hb hby at_116) ?_
          show Go p e below T38 (mkF m 117 #[iv p1, iv p2, iv p3, rv b1, iv i, rv a, iv 1, iv 1, iv 1, .unset, .unset] [(.int 1), (.ref a)]) _
          refine st39.trans ?_
          show Go p e below T39 (mkF m 120 #[iv p1, iv p2, iv p3, rv b1, iv i, rv a, iv 1, iv 1, iv 1, .unset, .unset] [(.int 1)]) _
          refine XS.iload X39.here hx rfl (hb hby at_120) rfl ?_
          show Go p e below T39 (mkF m 122 #[iv p1, iv p2, iv p3, rv b1, iv i, rv a, iv 1, iv 1, iv 1, .unset, .unset] [(.int 1), (.int 1)]) _
          refine XS.icmpNo X39.here hx rfl (hb hby at_122) rfl (teq ((by decide) : (1 : Int32) = (1 : Int32))).2 ?_
          show Go p e below T39 (mkF m 125 #[iv p1, iv p2, iv p3, rv b1, iv i, rv a, iv 1, iv 1, iv 1, .unset, .unset] []) _
          refine XS.iconst X39.here hx rfl (hb hby at_125) ?_
          show Go p e below T39 (mkF m 126 #[iv p1, iv p2, iv p3, rv b1, iv i, rv a, iv 1, iv 1, iv 1, .unset, .unset] [(.int 1)]) _
          refine XS.goto X39.here hx rfl (pc0 := 126) (pc' := 130) rfl (hb hby at_126) (by decide) (by decide) ?_
          show Go p e below T39 (mkF m 130 #[iv p1, iv p2, iv p3, rv b1, iv i, rv a, iv 1, iv 1, iv 1, .unset, .unset] [(.int 1)]) _
          refine XS.istore X39.here hx rfl (hb hby at_130) rfl (l' := #[iv p1, iv p2, iv p3, rv b1, iv i, rv a, iv 1, iv 1, iv 1, iv 1, .unset]) rfl ?_
          show Go p e below T39 (mkF m 132 #[iv p1, iv p2, iv p3, rv b1, iv i, rv a, iv 1, iv 1, iv 1, iv 1, .unset] []) _
          refine XS.aload X39.here hx rfl (hb hby at_132) rfl rfl ?_
          show Go p e below T39 (mkF m 134 #[iv p1, iv p2, iv p3, rv b1, iv i, rv a, iv 1, iv 1, iv 1, iv 1, .unset] [(.ref a)]) _
          refine st40.trans ?_
          show Go p e below T40 (mkF m 137 #[iv p1, iv p2, iv p3, rv b1, iv i, rv a, iv 1, iv 1, iv 1, iv 1, .unset] [(.int 1)]) _
          refine XS.ifYes X40.here hx rfl (pc0 := 137) (pc' := 149) rfl (hb hby at_137) rfl ((if0 _ _).trans (feq ((by decide) : ¬ ((1 : Int32) = (0 : Int32)))).2) (by decide) (by decide) ?_
          show Go p e below T40 (mkF m 149 #[iv p1, iv p2, iv p3, rv b1, iv i, rv a, iv 1, iv 1, iv 1, iv 1, .unset] []) _
          refine XS.iconst X40.here hx rfl (hb hby at_149) ?_
          show Go p e below T40 (mkF m 150 #[iv p1, iv p2, iv p3, rv b1, iv i, rv a, iv 1, iv 1, iv 1, iv 1, .unset] [(.int 1)]) _
          refine XS.goto X40.here hx rfl (pc0 := 150) (pc' := 154) rfl (hb hby at_150) (by decide) (by decide) ?_
          show Go p e below T40 (mkF m 154 #[iv p1, iv p2, iv p3, rv b1, iv i, rv a, iv 1, iv 1, iv 1, iv 1, .unset] [(.int 1)]) _
          refine XS.istore X40.here hx rfl (hb hby at_154) rfl (l' := #[iv p1, iv p2, iv p3, rv b1, iv i, rv a, iv 1, iv 1, iv 1, iv 1, iv 1]) rfl ?_
          show Go p e below T40 (mkF m 156 #[iv p1, iv p2, iv p3, rv b1, iv i, rv a, iv 1, iv 1, iv 1, iv 1, iv 1] []) _
          refine XS.iload X40.here hx rfl (hb hby at_156) rfl ?_
          show Go p e below T40 (mkF m 158 #[iv p1, iv p2, iv p3, rv b1, iv i, rv a, iv 1, iv 1, iv 1, iv 1, iv 1] [(.int 1)]) _
          refine XS.ifNo X40.here hx rfl (hb hby at_158) rfl ((if0 _ _).trans (feq ((by decide) : ¬ ((1 : Int32) = (0 : Int32)))).1) ?_
          show Go p e below T40 (mkF m 161 #[iv p1, iv p2, iv p3, rv b1, iv i, rv a, iv 1, iv 1, iv 1, iv 1, iv 1] []) _
          refine XS.iload X40.here hx rfl (hb hby at_161) rfl ?_
          show Go p e below T40 (mkF m 163 #[iv p1, iv p2, iv p3, rv b1, iv i, rv a, iv 1, iv 1, iv 1, iv 1, iv 1] [(.int 1)]) _
          refine XS.ifNo X40.here hx rfl (hb hby at_163) rfl ((if0 _ _).trans (feq ((by decide) : ¬ ((1 : Int32) = (0 : Int32)))).1) ?_
          show Go p e below T40 (mkF m 166 #[iv p1, iv p2, iv p3, rv b1, iv i, rv a, iv 1, iv 1, iv 1, iv 1, iv 1] []) _
          refine XS.iload X40.here hx rfl (hb hby at_166) rfl ?_
          show Go p e below T40 (mkF m 168 #[iv p1, iv p2, iv p3, rv b1, iv i, rv a, iv 1, iv 1, iv 1, iv 1, iv 1] [(.int 1)]) _
          refine XS.ifNo X40.here hx rfl (hb hby at_168) rfl ((if0 _ _).trans (feq ((by decide) : ¬ ((1 : Int32) = (0 : Int32)))).1) ?_
          show Go p e below T40 (mkF m 171 #[iv p1, iv p2, iv p3, rv b1, iv i, rv a, iv 1, iv 1, iv 1, iv 1, iv 1] []) _
          refine XS.iload X40.here hx rfl (hb hby at_171) rfl ?_
          show Go p e below T40 (mkF m 173 #[iv p1, iv p2, iv p3, rv b1, iv i, rv a, iv 1, iv 1, iv 1, iv 1, iv 1] [(.int 1)]) _
          refine XS.ifNo X40.here hx rfl (hb hby at_173) rfl ((if0 _ _).trans (feq ((by decide) : ¬ ((1 : Int32) = (0 : Int32)))).1) ?_
          show Go p e below T40 (mkF m 176 #[iv p1, iv p2, iv p3, rv b1, iv i, rv a, iv 1, iv 1, iv 1, iv 1, iv 1] []) _
          refine XS.iconst X40.here hx rfl (hb hby at_176) ?_
          show Go p e below T40 (mkF m 177 #[iv p1, iv p2, iv p3, rv b1, iv i, rv a, iv 1, iv 1, iv 1, iv 1, iv 1] [(.int 1)]) _
          refine XS.goto X40.here hx rfl (pc0 := 177) (pc' := 181) rfl (hb hby at_177) (by decide) (by decide) ?_
          show Go p e below T40 (mkF m 181 #[iv p1, iv p2, iv p3, rv b1, iv i, rv a, iv 1, iv 1, iv 1, iv 1, iv 1] [(.int 1)]) _
          exact kt)
      obtain ⟨fs, hr, hrun, hended, hW, hsame⟩ := X40.leave (v := some (.int 1)) (fun h => by rw [Bd.returns] at h; cases h)
      refine ⟨_, _, pre41 _ ?_, hrun, hended, _, _, rfl, ?_, ⟨_, rfl⟩, hW, hsame.mono (by decide) (by decide)⟩
      · show Steps p.tables e below (T40.setTop (mkF m 181 #[iv p1, iv p2, iv p3, rv b1, iv i, rv a, iv 1, iv 1, iv 1, iv 1, iv 1] [(.int 1)])) _
        exact retN X40 hx (t := .boolean) Bd.returns (by simp) (hb hby at_181) hr
      · show Q_rmL Z p1 p2 p3 w_FIRST w_LAST w_PREV w_NEXT h0 n0 _ T40.heap _
        rw [e40q]
        exact ⟨rfl, N40⟩
set_option maxRecDepth 65536 in
set_option maxHeartbeats 40000000 in
theorem comes_1 {Post : Tables → Env → Array Value → State → Outcome → State → Prop} (hpost : ∀ tb e args s v u, (limb_1_1.after args s (.returned v) u = true ∧ limb_1_2.after args s (.returned v) u = true ∧ True) → FrameEnd s (.returned v) u (Jvm.fieldLocs frame_1_writes args s ++ Jvm.arrayLocs frame_1_arrays args s ++ Jvm.staticLocs frame_1_statics s) 16 128 → Post tb e args s (.returned v) u) :
    ArmFor flags0 classFile x code maxLocals ret World_1 tables_1 room_1 Calls_1 rest_1 Pre_1 Post := by
  intro l hfl _ _ p e ha hc hk s m args below hf hA hF happ hP
  obtain ⟨hcalls, hrest, hpre⟩ := hP
  obtain ⟨-, -, -, hnamed, -, -, -, hat⟩ := (Spec.applies_iff hf).mp happ
  obtain ⟨hg, hn⟩ := and_e (Cond.before_iff.mp (show (Jvm.Cond.and given_1 narrow_1).before args s = true from hpre))
  obtain ⟨g1, g2⟩ := and_e hg
  obtain ⟨g3, g4⟩ := and_e g2
  obtain ⟨g5, g6⟩ := and_e g4
  obtain ⟨w0, w1, w2, rfl⟩ : ∃ w0 w1 w2 : Value, args = #[w0, w1, w2] := by
    have hs : args.size = 3 := by simpa [Cond.value, given_1] using g1
    obtain ⟨L⟩ := args
    match L, hs with
    | [w0, w1, w2], _ => exact ⟨w0, w1, w2, rfl⟩
  have hw := fun d (hd : d ∈ tables_1) => atoms_spec (ws := Jvm.Cond.code x code maxLocals ret :: tables_1) hat d (List.mem_cons_of_mem _ hd)
  have hfit : Fit s := fun {y c} hc i hi => by
    obtain ⟨ha, rfl⟩ := Array.getElem?_eq_some_iff.mp hc
    have q := List.all_eq_true.mp ((Array.all_eq_true_iff_forall_mem.mp hF) _ (Array.getElem_mem ha)) i (List.mem_range.mpr hi)
    simpa [Array.getElem?_eq_getElem hi] using q
  obtain ⟨i0, ei0⟩ := is_v g3
  obtain rfl : w0 = (.int i0) := Option.some.inj ei0
  obtain ⟨i1, ei1⟩ := is_v g5
  obtain rfl : w1 = (.int i1) := Option.some.inj ei1
  obtain ⟨i2, ei2⟩ := is_v g6
  obtain rfl : w2 = (.int i2) := Option.some.inj ei2
  obtain ⟨g7, g8⟩ := and_e hn
  obtain ⟨g9, g10⟩ := and_e g8
  obtain ⟨g11, g12⟩ := and_e g10
  obtain ⟨g13, g14⟩ := and_e g12
  obtain ⟨g15, g16⟩ := and_e g14
  obtain ⟨g17, g18⟩ := and_e g16
  obtain ⟨g19, g20⟩ := and_e g18
  obtain ⟨w_FIRST, ev_FIRST⟩ := exa_v g7
  have E_FIRST : Exa s s.heap w_FIRST "com/example/rowmotif/rowmotif/expr/NavigationFunction" := Exa.start ev_FIRST g7
  have S_FIRST : Sta s s.heap "com/example/rowmotif/rowmotif/expr/NavigationFunction" "FIRST" "Lcom/example/rowmotif/rowmotif/expr/NavigationFunction;" (.ref w_FIRST) := Sta.start ev_FIRST (Or.inr ⟨(hwi hw 3 rfl), (hwi hw 4 rfl)⟩)
  obtain ⟨w_LAST, ev_LAST⟩ := exa_v g9
  have E_LAST : Exa s s.heap w_LAST "com/example/rowmotif/rowmotif/expr/NavigationFunction" := Exa.start ev_LAST g9
  have S_LAST : Sta s s.heap "com/example/rowmotif/rowmotif/expr/NavigationFunction" "LAST" "Lcom/example/rowmotif/rowmotif/expr/NavigationFunction;" (.ref w_LAST) := Sta.start ev_LAST (Or.inr ⟨(hwi hw 3 rfl), (hwi hw 7 rfl)⟩)
  obtain ⟨w_PREV, ev_PREV⟩ := exa_v g11
  have E_PREV : Exa s s.heap w_PREV "com/example/rowmotif/rowmotif/expr/NavigationFunction" := Exa.start ev_PREV g11
  have S_PREV : Sta s s.heap "com/example/rowmotif/rowmotif/expr/NavigationFunction" "PREV" "Lcom/example/rowmotif/rowmotif/expr/NavigationFunction;" (.ref w_PREV) := Sta.start ev_PREV (Or.inr ⟨(hwi hw 3 rfl), (hwi hw 9 rfl)⟩)
  obtain ⟨w_NEXT, ev_NEXT⟩ := exa_v g13
  have E_NEXT : Exa s s.heap w_NEXT "com/example/rowmotif/rowmotif/expr/NavigationFunction" := Exa.start ev_NEXT g13
  have S_NEXT : Sta s s.heap "com/example/rowmotif/rowmotif/expr/NavigationFunction" "NEXT" "Lcom/example/rowmotif/rowmotif/expr/NavigationFunction;" (.ref w_NEXT) := Sta.start ev_NEXT (Or.inr ⟨(hwi hw 3 rfl), (hwi hw 11 rfl)⟩)
  have F_FIRST : Fld s s.heap w_FIRST "java/lang/Enum" "ordinal" "I" (.int (0 : Int32)) := Fld.start ((fld_at ev_FIRST).symm.trans (eqv_i (Term.int_eval _) g15))
  have F_PREV : Fld s s.heap w_PREV "java/lang/Enum" "ordinal" "I" (.int (2 : Int32)) := Fld.start ((fld_at ev_PREV).symm.trans (eqv_i (Term.int_eval _) g17))
  have F_NEXT : Fld s s.heap w_NEXT "java/lang/Enum" "ordinal" "I" (.int (3 : Int32)) := Fld.start ((fld_at ev_NEXT).symm.trans (eqv_i (Term.int_eval _) g19))
  have F_LAST : Fld s s.heap w_LAST "java/lang/Enum" "ordinal" "I" (.int (1 : Int32)) := Fld.start ((fld_at ev_LAST).symm.trans (eqv_i (Term.int_eval _) g20))
  obtain ⟨n, o, h1, h2, h3, _, L, rfl, ⟨rfl, N⟩, hq⟩ := rmL l s _ hw tables_1 i0 i1 i2 w_FIRST w_LAST w_PREV w_NEXT s.heap s.heap.size (Nat.le_refl _) ⟨⟨S_FIRST, E_FIRST, F_FIRST⟩, ⟨S_LAST, E_LAST, F_LAST⟩, ⟨S_PREV, E_PREV, F_PREV⟩, ⟨S_NEXT, E_NEXT, F_NEXT⟩⟩ p e ha hc hk s m _ below hf ((Spec.applies_iff_loose hf).mp happ).1 ⟨rfl, State.Warmed39.refl s, rfl⟩ trivial
  refine ⟨n, _, h1, h2, h3, hpost _ _ _ _ _ _ ⟨Cond.after_iff.mpr rfl, Cond.after_iff.mpr (eq_i res_at (Term.int_eval (1)) rfl), trivial⟩ ⟨hq.1, hq.2.1, (hq.2.2.sift fun y hy => Or.inr (N y hy)).mono (by decide) (by decide)⟩⟩
theorem main_1_1 : Claimed_1_1 := comes_1 fun _ _ _ _ _ _ h hF => ⟨h.1, hF⟩
theorem main_1_2 : Claimed_1_2 := comes_1 fun _ _ _ _ _ _ h hF => ⟨h.2.1, hF⟩
end Jvm.Pilot.@@N@@
namespace Jvm.Pilot.@@N@@
open Jvm Jvm.ClassFile Sem Op Lib Jvm.Free Jvm.Stand Jvm.Pilot.@@N@@.Jvm.D
/-! MADE BY PROGRAM (witnessworld.py) out of the Statement's table words and the real class files: 13 classes; the members and pool entries that the words name. The judged class is class 1, her method 1. -/
namespace start1
open Jvm.ClassFile
def u (s : String) : CpInfo := .utf8 (stringToUtf16 s)
/-- a pool by its gaps: so many unusable entries, then the entry; so many at the end -/
def gap : Nat → List CpInfo → List CpInfo
  | 0, r => r
  | n + 1, r => .unusable :: gap n r
def poolList (es : List (Nat × CpInfo)) (last : Nat) : List CpInfo := es.foldr (fun e r => gap e.1 (e.2 :: r)) (gap last [])
def pool (es : List (Nat × CpInfo)) (last : Nat) : Array CpInfo := ⟨poolList es last⟩
def fileOf (pool : Array CpInfo) (this : Nat) (attrs : Array Attribute := #[]) (ms : Array MethodInfo := #[]) (fl : Nat := 33) (sup : Nat := 0) (ifs : Array Nat := #[]) (fds : Array FieldInfo := #[]) : ClassFile where
  minorVersion := 0
  majorVersion := 65
  constantPool := pool
  accessFlags := fl
  thisClass := this
  superClass := sup
  interfaces := ifs
  fields := fds
  methods := ms
  attributes := attrs
def plain (name : String) (sup : Option ClassId) : Class where
  name := name
  kind := .ordinary
  loader := none
  accessFlags := 33
  super := sup
  interfaces := #[]
  cf := none
  fields := #[]
  methods := #[]
  instanceTypes := #[]
  staticTypes := #[]
  resolved := #[]
  callSites := []
  init := .initialized
  statics := none
  mirror := none

def pool0 : Array CpInfo := pool [(5, u "<init>"), (0, u "()V"), (1, .class_ 10), (1, u "java/lang/Object")] 113

def k0m0 : Method := { name := "<init>", desc := "()V", sig := { parameters := [], returnType := none }, accessFlags := 1, code := none }
/-- java/lang/Object -/
def k0 : Class := { plain "java/lang/Object" none with
  accessFlags := 33
  interfaces := #[]
  cf := some (fileOf pool0 8 #[] #[{ accessFlags := 1, nameIndex := 5, descriptorIndex := 6, attributes := #[] }] 33 0 #[] #[])
  fields := #[]
  methods := #[k0m0]
  instanceTypes := #[]
  staticTypes := #[]
  resolved := Array.replicate 124 none
  statics := none }

def pool1 : Array CpInfo := pool [(2, .class_ 4), (1, u "java/lang/Object"), (0, u "<init>"), (0, u "()V"), (0, .class_ 8), (0, u "com/example/rowmotif/rowmotif/expr/NavigationFunction"), (0, .fieldref 7 10), (0, .nameAndType 11 12), (0, u "FIRST"), (0, u "Lcom/example/rowmotif/rowmotif/expr/NavigationFunction;"), (0, .fieldref 7 14), (0, .nameAndType 15 12), (0, u "LAST"), (0, .fieldref 7 17), (0, .nameAndType 18 12), (0, u "PREV"), (0, .fieldref 7 20), (0, .nameAndType 21 12), (0, u "NEXT"), (0, .methodref 7 23), (0, .nameAndType 24 25), (0, u "shift"), (0, u "(I)I"), (0, .methodref 7 27), (0, .nameAndType 28 29), (0, u "isPhysical"), (0, u "()Z"), (0, .class_ 31), (0, u "com/example/rowmotif/rowmotif/expr/NavigationFunctionShiftPinLaw"), (2, u "law"), (0, u "(III)Z")] 5

def k1m0 : Method := { name := "<init>", desc := "()V", sig := { parameters := [], returnType := none }, accessFlags := 1, code := none }
def k1c1 : Code := { maxStack := 4, maxLocals := 11, code := code, exceptionTable := #[], attributes := #[] }
def k1m1 : Method := { name := "law", desc := "(III)Z", sig := { parameters := [.int, .int, .int], returnType := some .boolean }, accessFlags := 9, code := some k1c1 }
/-- com/example/rowmotif/rowmotif/expr/NavigationFunctionShiftPinLaw -/
def k1 : Class := { plain "com/example/rowmotif/rowmotif/expr/NavigationFunctionShiftPinLaw" (some 0) with
  accessFlags := 49
  interfaces := #[]
  cf := some (fileOf pool1 30 #[] #[{ accessFlags := 1, nameIndex := 5, descriptorIndex := 6, attributes := #[] }, { accessFlags := 9, nameIndex := 34, descriptorIndex := 35, attributes := #[] }] 49 2 #[] #[])
  fields := #[]
  methods := #[k1m0, k1m1]
  instanceTypes := #[]
  staticTypes := #[]
  resolved := Array.replicate 41 none
  statics := none }

def pool2 : Array CpInfo := pool [(1, .class_ 2), (0, u "java/lang/constant/Constable"), (0, .class_ 4), (0, u "java/lang/Object")] 6

/-- java/lang/constant/Constable -/
def k2 : Class := { plain "java/lang/constant/Constable" (some 0) with
  accessFlags := 1537
  interfaces := #[]
  cf := some (fileOf pool2 1 #[] #[] 1537 3 #[] #[])
  fields := #[]
  methods := #[]
  instanceTypes := #[]
  staticTypes := #[]
  resolved := Array.replicate 11 none
  statics := none }

def pool3 : Array CpInfo := pool [(1, .class_ 2), (0, u "java/lang/Comparable"), (0, .class_ 4), (0, u "java/lang/Object")] 7

/-- java/lang/Comparable -/
def k3 : Class := { plain "java/lang/Comparable" (some 0) with
  accessFlags := 1537
  interfaces := #[]
  cf := some (fileOf pool3 1 #[] #[] 1537 3 #[] #[])
  fields := #[]
  methods := #[]
  instanceTypes := #[]
  staticTypes := #[]
  resolved := Array.replicate 12 none
  statics := none }

def pool4 : Array CpInfo := pool [(1, .class_ 2), (0, u "java/io/Serializable"), (0, .class_ 4), (0, u "java/lang/Object")] 2

/-- java/io/Serializable -/
def k4 : Class := { plain "java/io/Serializable" (some 0) with
  accessFlags := 1537
  interfaces := #[]
  cf := some (fileOf pool4 1 #[] #[] 1537 3 #[] #[])
  fields := #[]
  methods := #[]
  instanceTypes := #[]
  staticTypes := #[]
  resolved := Array.replicate 7 none
  statics := none }

def pool5 : Array CpInfo := pool [(2, .class_ 4), (1, u "java/lang/Enum"), (0, u "name"), (0, u "Ljava/lang/String;"), (2, u "ordinal"), (0, u "I"), (1, .class_ 14), (1, u "java/lang/Object"), (4, u "hash"), (86, .class_ 108), (1, u "java/lang/Enum$EnumDesc"), (2, .class_ 112), (0, u "java/lang/constant/Constable"), (0, .class_ 114), (0, u "java/lang/Comparable"), (0, .class_ 116), (0, u "java/io/Serializable")] 87

/-- java/lang/Enum -/
def k5 : Class := { plain "java/lang/Enum" (some 0) with
  accessFlags := 1057
  interfaces := #[2, 3, 4]
  cf := some (fileOf pool5 2 #[.nestMembers #[106]] #[] 1057 12 #[111, 113, 115] #[{ accessFlags := 18, nameIndex := 5, descriptorIndex := 6, attributes := #[] }, { accessFlags := 18, nameIndex := 9, descriptorIndex := 10, attributes := #[] }, { accessFlags := 2, nameIndex := 19, descriptorIndex := 10, attributes := #[] }])
  fields := #[{ name := "name", type := (.object "java/lang/String"), accessFlags := 18, slot := 0, constantValue := 0 }, { name := "ordinal", type := .int, accessFlags := 18, slot := 1, constantValue := 0 }, { name := "hash", type := .int, accessFlags := 2, slot := 2, constantValue := 0 }]
  methods := #[]
  instanceTypes := #[(.object "java/lang/String"), .int, .int]
  staticTypes := #[]
  resolved := Array.replicate 204 none
  statics := none }

def pool6 : Array CpInfo := pool [(1, .class_ 2), (0, u "com/example/rowmotif/rowmotif/expr/NavigationFunction"), (2, u "FIRST"), (0, u "Lcom/example/rowmotif/rowmotif/expr/NavigationFunction;"), (2, u "LAST"), (0, .fieldref 1 11), (0, .nameAndType 12 6), (0, u "PREV"), (0, .fieldref 1 14), (0, .nameAndType 15 6), (0, u "NEXT"), (2, u "$VALUES"), (0, u "[Lcom/example/rowmotif/rowmotif/expr/NavigationFunction;"), (6, .class_ 28), (1, u "java/lang/Enum"), (8, u "defaultOffset"), (0, u "I"), (111, u "isPhysical"), (0, u "()Z"), (0, u "shift"), (0, u "(I)I")] 44

def k6c0 : Code := { maxStack := 2, maxLocals := 1, code := prog_49_method_6_code, exceptionTable := #[], attributes := #[] }
def k6m0 : Method := { name := "isPhysical", desc := "()Z", sig := { parameters := [], returnType := some .boolean }, accessFlags := 1, code := some k6c0 }
def k6c1 : Code := { maxStack := 2, maxLocals := 2, code := prog_49_method_7_code, exceptionTable := #[], attributes := #[] }
def k6m1 : Method := { name := "shift", desc := "(I)I", sig := { parameters := [.int], returnType := some .int }, accessFlags := 1, code := some k6c1 }
/-- com/example/rowmotif/rowmotif/expr/NavigationFunction -/
def k6 : Class := { plain "com/example/rowmotif/rowmotif/expr/NavigationFunction" (some 5) with
  accessFlags := 16433
  interfaces := #[]
  cf := some (fileOf pool6 1 #[] #[{ accessFlags := 1, nameIndex := 150, descriptorIndex := 151, attributes := #[] }, { accessFlags := 1, nameIndex := 152, descriptorIndex := 153, attributes := #[] }] 16433 26 #[] #[{ accessFlags := 16409, nameIndex := 5, descriptorIndex := 6, attributes := #[] }, { accessFlags := 16409, nameIndex := 9, descriptorIndex := 6, attributes := #[] }, { accessFlags := 16409, nameIndex := 12, descriptorIndex := 6, attributes := #[] }, { accessFlags := 16409, nameIndex := 15, descriptorIndex := 6, attributes := #[] }, { accessFlags := 18, nameIndex := 37, descriptorIndex := 38, attributes := #[] }, { accessFlags := 4122, nameIndex := 18, descriptorIndex := 19, attributes := #[] }])
  fields := #[{ name := "FIRST", type := (.object "com/example/rowmotif/rowmotif/expr/NavigationFunction"), accessFlags := 16409, slot := 0, constantValue := 0 }, { name := "LAST", type := (.object "com/example/rowmotif/rowmotif/expr/NavigationFunction"), accessFlags := 16409, slot := 1, constantValue := 0 }, { name := "PREV", type := (.object "com/example/rowmotif/rowmotif/expr/NavigationFunction"), accessFlags := 16409, slot := 2, constantValue := 0 }, { name := "NEXT", type := (.object "com/example/rowmotif/rowmotif/expr/NavigationFunction"), accessFlags := 16409, slot := 3, constantValue := 0 }, { name := "defaultOffset", type := .int, accessFlags := 18, slot := 3, constantValue := 0 }, { name := "$VALUES", type := (.array (.object "com/example/rowmotif/rowmotif/expr/NavigationFunction")), accessFlags := 4122, slot := 4, constantValue := 0 }]
  methods := #[k6m0, k6m1]
  instanceTypes := #[(.object "java/lang/String"), .int, .int, .int]
  staticTypes := #[(.object "com/example/rowmotif/rowmotif/expr/NavigationFunction"), (.object "com/example/rowmotif/rowmotif/expr/NavigationFunction"), (.object "com/example/rowmotif/rowmotif/expr/NavigationFunction"), (.object "com/example/rowmotif/rowmotif/expr/NavigationFunction"), (.array (.object "com/example/rowmotif/rowmotif/expr/NavigationFunction"))]
  resolved := Array.replicate 198 none
  statics := some 0 }

def pool7 : Array CpInfo := pool [(1, u "java/lang/Cloneable"), (0, .class_ 1), (0, u "java/lang/Object"), (0, .class_ 3)] 3

/-- java/lang/Cloneable -/
def k7 : Class := { plain "java/lang/Cloneable" (some 0) with
  accessFlags := 1537
  interfaces := #[]
  cf := some (fileOf pool7 2 #[] #[] 1537 4 #[] #[])
  fields := #[]
  methods := #[]
  instanceTypes := #[]
  staticTypes := #[]
  resolved := Array.replicate 8 none
  statics := none }

/-- the primitive byte -/
def k8 : Class := { plain "byte" none with kind := .primitive 'B', accessFlags := 0x411 }
/-- [B -/
def k9 : Class := { plain "[B" (some 0) with kind := .array 8 .byte, interfaces := #[7, 4], accessFlags := 1041 }

/-- the primitive int -/
def k10 : Class := { plain "int" none with kind := .primitive 'I', accessFlags := 0x411 }
/-- [I -/
def k11 : Class := { plain "[I" (some 0) with kind := .array 10 .int, interfaces := #[7, 4], accessFlags := 1041 }

/-- [Lcom/example/rowmotif/rowmotif/expr/NavigationFunction; -/
def k12 : Class := { plain "[Lcom/example/rowmotif/rowmotif/expr/NavigationFunction;" (some 0) with kind := .array 6 (.object "com/example/rowmotif/rowmotif/expr/NavigationFunction"), interfaces := #[7, 4], accessFlags := 1041 }

def heap : Heap := #[{ cls := 6, slots := #[.ref 1, .ref 2, .ref 3, .ref 4, .null], vm := .statics 6 },
  { cls := 6, slots := #[.null, .int 0, .int 0, .int 0], vm := .none },
  { cls := 6, slots := #[.null, .int 1, .int 0, .int 0], vm := .none },
  { cls := 6, slots := #[.null, .int 2, .int 0, .int 0], vm := .none },
  { cls := 6, slots := #[.null, .int 3, .int 0, .int 0], vm := .none }]
def classes : Array Class := #[k0, k1, k2, k3, k4, k5, k6, k7, k8, k9, k10, k11, k12]
def interned : List (Array UInt16 × Addr) := []
def slotsUsed : Nat := 21
def theMethod : MethodId := ⟨1, 1⟩
def args0 : Array Value := #[.int 5, .int 5, .int 5]
def aboutOver (below : List Frame) : State where
  vm := { classes := classes, interned := interned.toArray }
  heap := heap
  slotsUsed := slotsUsed
  threads := #[{ frames := .invoking theMethod args0 :: below }]
def below0 : List Frame := [.native { method := ⟨0, 0⟩, args := #[] }]
def about1 : State := aboutOver below0
def p0 : Program := .bare "" "" ""
def e0 : Env := launch0.env 0 0 0
theorem w_frames : about1.frames = Frame.invoking theMethod args0 :: below0 := rfl
set_option maxRecDepth 65536 in
theorem w_args : argsFit about1.vm theMethod args0 = true := by decide +kernel
set_option maxRecDepth 65536 in
theorem w_heap : heapFits about1 = true := by decide +kernel
set_option maxRecDepth 65536 in
theorem w_runnable : about1.curStatus? = some .runnable := by decide +kernel
set_option maxRecDepth 65536 in
theorem w_alone : about1.alone = true := by decide +kernel
set_option maxRecDepth 65536 in
theorem w_named : about1.methodNamed? x = some theMethod := by decide +kernel
set_option maxRecDepth 65536 in
theorem w_hears : about1.hears theMethod below0 = true := by decide +kernel
set_option maxRecDepth 65536 in
theorem w_ripe : about1.ripe theMethod args0 below0 = true := by decide +kernel
theorem w_running : about1.status = .running := rfl
set_option maxRecDepth 65536 in
theorem w_room : about1.hasRoom e0.platform room_1 = true :=
  launch0.hasRoom_least _ room_1 (by decide +kernel) (by decide +kernel) (by decide +kernel) (by decide +kernel) (by decide +kernel) (by decide +kernel)
theorem allAtoms_all (ts : List Jvm.Cond) (a : Array Jvm.Value) (st : Jvm.State) : (allAtoms ts).before a st = ts.all (fun c => c.before a st) := by
  induction ts with
  | nil => rfl
  | cons c t ih =>
    show (Jvm.Cond.and c (allAtoms t)).before a st = _
    rw [Jvm.Cond.before_and, ih, List.all_cons]
def words1 : List Jvm.Cond := Jvm.Cond.code x code maxLocals ret :: tables_1
/-- a 'code' word, met by the world's own term for the bytes: nothing is compared byte by byte -/
theorem code_word {y : MethodName} {bytes : ByteArray} {mx : Nat} {rt : Option FieldType} {a : Array Value} {s : State} {m : MethodId} {meth : Method} {c : Code} (h1 : s.methodNamed? y = some m) (h2 : s.vm.method? m = some meth) (h3 : meth.code = some c) (h4 : c.code = bytes)
    (h5 : (c.maxLocals == mx && c.exceptionTable.isEmpty && decide (c.maxStack ≤ mostOperands) && decide (meth.sig.returnType = rt) && !meth.locks && decide (parseMethodDescriptor y.desc = some meth.sig)) = true) : (Jvm.Cond.code y bytes mx rt).before a s = true := by
  simp only [Bool.and_eq_true, beq_iff_eq, Bool.not_eq_true', decide_eq_true_eq] at h5
  obtain ⟨⟨⟨⟨⟨g1, g2⟩, g3⟩, g4⟩, g5⟩, g6⟩ := h5
  simp [Cond.before, Cond.holds, Cond.value, h1, h2, h3, h4, g1, g2, g3, g4, g5, g6]
def isCode : Jvm.Cond → Bool
  | .code _ _ _ _ => true
  | _ => false
theorem all_split {L : List Jvm.Cond} {P : Jvm.Cond → Bool} (h1 : L.all (fun c => isCode c || P c) = true) (h2 : ∀ c ∈ L.filter isCode, P c = true) : L.all P = true := by
  refine List.all_eq_true.mpr fun c hc => ?_
  have h := List.all_eq_true.mp h1 c hc
  rcases Bool.eq_false_or_eq_true (isCode c) with hi | hi
  · exact h2 c (List.mem_filter.mpr ⟨hc, hi⟩)
  · simpa [hi] using h
set_option maxRecDepth 65536 in
theorem w_c0 : (Jvm.Cond.code x code maxLocals ret).before args0 about1 = true := code_word (m := ⟨1, 1⟩) (meth := k1m1) (c := k1c1) (by decide +kernel) rfl rfl rfl (by decide +kernel)
set_option maxRecDepth 65536 in
theorem w_c1 : (Jvm.Cond.code ({ cls := "com/example/rowmotif/rowmotif/expr/NavigationFunction", name := "shift", desc := "(I)I" } : Jvm.MethodName) prog_49_method_7_code (2 : Nat) (Option.some Jvm.ClassFile.FieldType.int)).before args0 about1 = true := code_word (m := ⟨6, 1⟩) (meth := k6m1) (c := k6c1) (by decide +kernel) rfl rfl rfl (by decide +kernel)
set_option maxRecDepth 65536 in
theorem w_c2 : (Jvm.Cond.code ({ cls := "com/example/rowmotif/rowmotif/expr/NavigationFunction", name := "isPhysical", desc := "()Z" } : Jvm.MethodName) prog_49_method_6_code (1 : Nat) (Option.some Jvm.ClassFile.FieldType.boolean)).before args0 about1 = true := code_word (m := ⟨6, 0⟩) (meth := k6m0) (c := k6c0) (by decide +kernel) rfl rfl rfl (by decide +kernel)
def codes1 : List Jvm.Cond := [Jvm.Cond.code x code maxLocals ret, Jvm.Cond.code ({ cls := "com/example/rowmotif/rowmotif/expr/NavigationFunction", name := "shift", desc := "(I)I" } : Jvm.MethodName) prog_49_method_7_code (2 : Nat) (Option.some Jvm.ClassFile.FieldType.int), Jvm.Cond.code ({ cls := "com/example/rowmotif/rowmotif/expr/NavigationFunction", name := "isPhysical", desc := "()Z" } : Jvm.MethodName) prog_49_method_6_code (1 : Nat) (Option.some Jvm.ClassFile.FieldType.boolean)]
set_option maxRecDepth 65536 in
theorem codes_eq : words1.filter isCode = codes1 := rfl
theorem w_codes : ∀ c ∈ words1.filter isCode, c.before args0 about1 = true := by
  rw [codes_eq]
  intro c hc
  simp only [codes1, List.mem_cons, List.not_mem_nil, or_false] at hc
  rcases hc with rfl | rfl | rfl
  · exact w_c0
  · exact w_c1
  · exact w_c2
set_option maxRecDepth 65536 in
theorem w_t1 : (words1.take 24).all (fun c => isCode c || c.before args0 about1) = true := by decide +kernel
set_option maxRecDepth 65536 in
theorem w_t2 : (words1.drop 24).all (fun c => isCode c || c.before args0 about1) = true := by decide +kernel
theorem w_tables : (allAtoms (Jvm.Cond.code x code maxLocals ret :: tables_1)).before args0 about1 = true := by
  rw [allAtoms_all]
  show words1.all (fun c => c.before args0 about1) = true
  refine all_split ?_ w_codes
  rw [← List.take_append_drop 24 words1, List.all_append, w_t1, w_t2]
  rfl
set_option maxRecDepth 65536 in
theorem w_case : (Jvm.Cond.and given_1 narrow_1).before args0 about1 = true := by decide +kernel
theorem w_applies : (headSpec (Jvm.Cond.code x code maxLocals ret :: tables_1) room_1).applies x e0.platform about1 = true :=
  (Spec.applies_iff w_frames).mpr ⟨w_running, w_runnable, w_alone, w_named, w_hears, w_ripe, w_room, w_tables⟩
theorem atStart : AtStart classFile x code maxLocals ret World_1 tables_1 room_1 Calls_1 rest_1 Pre_1 launch0 p0 e0 about1 theMethod args0 below0 :=
  ⟨lists_1, trivial, launch0.admits_env _ _ _, launch0.least_env, fairChoices_fair.cas, fairChoices_fair.clock, w_frames, w_args, w_heap, w_applies, trivial, trivial, w_case⟩
end start1
theorem witness_1 : WitnessClaimed_1 := ⟨start1.p0, start1.e0, start1.about1, start1.theMethod, start1.args0, start1.below0, start1.atStart⟩
end Jvm.Pilot.@@N@@
