import JvmDerived
import JvmDerived.Pilot.@@N@@Statement
import JvmDerived.Pilot.@@N@@Code
set_option linter.unusedVariables false
set_option linter.unusedSimpArgs false
namespace Jvm.RoadKit
open Sem ClassFile Op Lib Jvm.Stand Jvm.Free Jvm.LawKit
section New
variable {p : Program} {l : Launch} {e : Env} {R : Room} {s : State} {m : MethodId} {args : Array Value} {below : List Frame} {meth : Method} {c : Code} {T : State} {locs : List Loc} {cells slots : Nat}
theorem retI (X : Stand p l e R s m args below meth c T locs cells slots) (hx : p.tables.exec = Jvm.exec) {pc : Nat} {Ls : Array Slot} {z : Int32} {rest : List Value} (hret : meth.sig.returnType = some .int) (hd : decode c.code pc = .ok (.ireturn, 1)) {fs : List Frame}
    (hl : ∀ (f : JFrame) (acts : List Action), f.method = m → f.locked = none → f.entered = [] → (doReturn e (T.setTop f) acts (some (.int z))).1 = T.setFrames fs) : Steps p.tables e below (T.setTop (mkF m pc Ls (.int z :: rest))) (T.setFrames fs) := by
  have hm' : T.vm.method? m = some meth := X.method'
  have hn : narrow .int (.int z) = .int z := rfl
  show Steps p.tables e below (T.setTop { method := m, pc := pc, locals := Ls, stack := _ :: rest, locked := none }) _
  jvm_step X.here [X.here.top, hx, hd, hm', hret, hn]
  first | (intro acts; rw [hl _ acts rfl rfl rfl]) | rw [hl _ _ rfl rfl rfl]
  exact Steps.refl _
end New
end Jvm.RoadKit
namespace Jvm.Pilot.@@N@@
open Jvm Jvm.ClassFile Sem Op Lib Jvm.Free Jvm.Stand Jvm.LawKit Jvm.RoadKit Bundle Jvm.Pilot.@@N@@.Jvm.D
abbrev Go (p : Program) (e : Env) (below : List Frame) (T : State) (g : JFrame) (t : State) : Prop := Steps p.tables e below (T.setTop g) t
theorem hwi {Z : State} {a0 : Array Value} (hw : ∀ d ∈ tables_1, d.before a0 Z = true) {d : Jvm.Cond} (i : Nat) (q : tables_1[i]? = some d) : d.before a0 Z = true := hw _ (List.mem_of_getElem? q)

def Wd (Z : State) (h : Heap) (w_EQUAL w_NOT_EQUAL w_LESS w_LESS_EQUAL w_GREATER w_GREATER_EQUAL : Addr) : Prop := (Sta Z h "com/example/tandem_abstraction/tandemabstraction/cfa/Relation" "EQUAL" "Lcom/example/tandem_abstraction/tandemabstraction/cfa/Relation;" (.ref w_EQUAL) ∧ Exa Z h w_EQUAL "com/example/tandem_abstraction/tandemabstraction/cfa/Relation" ∧ Fld Z h w_EQUAL "java/lang/Enum" "ordinal" "I" (.int (0 : Int32))) ∧ (Sta Z h "com/example/tandem_abstraction/tandemabstraction/cfa/Relation" "NOT_EQUAL" "Lcom/example/tandem_abstraction/tandemabstraction/cfa/Relation;" (.ref w_NOT_EQUAL) ∧ Exa Z h w_NOT_EQUAL "com/example/tandem_abstraction/tandemabstraction/cfa/Relation" ∧ Fld Z h w_NOT_EQUAL "java/lang/Enum" "ordinal" "I" (.int (1 : Int32))) ∧ (Sta Z h "com/example/tandem_abstraction/tandemabstraction/cfa/Relation" "LESS" "Lcom/example/tandem_abstraction/tandemabstraction/cfa/Relation;" (.ref w_LESS) ∧ Exa Z h w_LESS "com/example/tandem_abstraction/tandemabstraction/cfa/Relation" ∧ Fld Z h w_LESS "java/lang/Enum" "ordinal" "I" (.int (2 : Int32))) ∧ (Sta Z h "com/example/tandem_abstraction/tandemabstraction/cfa/Relation" "LESS_EQUAL" "Lcom/example/tandem_abstraction/tandemabstraction/cfa/Relation;" (.ref w_LESS_EQUAL) ∧ Exa Z h w_LESS_EQUAL "com/example/tandem_abstraction/tandemabstraction/cfa/Relation" ∧ Fld Z h w_LESS_EQUAL "java/lang/Enum" "ordinal" "I" (.int (3 : Int32))) ∧ (Sta Z h "com/example/tandem_abstraction/tandemabstraction/cfa/Relation" "GREATER" "Lcom/example/tandem_abstraction/tandemabstraction/cfa/Relation;" (.ref w_GREATER) ∧ Exa Z h w_GREATER "com/example/tandem_abstraction/tandemabstraction/cfa/Relation" ∧ Fld Z h w_GREATER "java/lang/Enum" "ordinal" "I" (.int (4 : Int32))) ∧ (Sta Z h "com/example/tandem_abstraction/tandemabstraction/cfa/Relation" "GREATER_EQUAL" "Lcom/example/tandem_abstraction/tandemabstraction/cfa/Relation;" (.ref w_GREATER_EQUAL) ∧ Exa Z h w_GREATER_EQUAL "com/example/tandem_abstraction/tandemabstraction/cfa/Relation" ∧ Fld Z h w_GREATER_EQUAL "java/lang/Enum" "ordinal" "I" (.int (5 : Int32)))
theorem Wd_ext {Z : State} {h h' : Heap} {w_EQUAL w_NOT_EQUAL w_LESS w_LESS_EQUAL w_GREATER w_GREATER_EQUAL : Addr} (W : Wd Z h w_EQUAL w_NOT_EQUAL w_LESS w_LESS_EQUAL w_GREATER w_GREATER_EQUAL) (E : Ext h h') : Wd Z h' w_EQUAL w_NOT_EQUAL w_LESS w_LESS_EQUAL w_GREATER w_GREATER_EQUAL := by
  obtain ⟨⟨S_EQUAL, E_EQUAL, F_EQUAL⟩, ⟨S_NOT_EQUAL, E_NOT_EQUAL, F_NOT_EQUAL⟩, ⟨S_LESS, E_LESS, F_LESS⟩, ⟨S_LESS_EQUAL, E_LESS_EQUAL, F_LESS_EQUAL⟩, ⟨S_GREATER, E_GREATER, F_GREATER⟩, ⟨S_GREATER_EQUAL, E_GREATER_EQUAL, F_GREATER_EQUAL⟩⟩ := W
  exact ⟨⟨S_EQUAL.ext E, E_EQUAL.ext E, F_EQUAL.ext E⟩, ⟨S_NOT_EQUAL.ext E, E_NOT_EQUAL.ext E, F_NOT_EQUAL.ext E⟩, ⟨S_LESS.ext E, E_LESS.ext E, F_LESS.ext E⟩, ⟨S_LESS_EQUAL.ext E, E_LESS_EQUAL.ext E, F_LESS_EQUAL.ext E⟩, ⟨S_GREATER.ext E, E_GREATER.ext E, F_GREATER.ext E⟩, ⟨S_GREATER_EQUAL.ext E, E_GREATER_EQUAL.ext E, F_GREATER_EQUAL.ext E⟩⟩
theorem own_mod (x m : Int32) (d : Int) (hm : m.toInt = d) (hd : 0 < d) : 0 ≤ ((x &&& (2147483647 : Int32)) % m).toInt ∧ ((x &&& (2147483647 : Int32)) % m).toInt < d := by
  have h1 := c_mask x 2147483647 31 (by decide) (by decide)
  have h2 := (c_irem (x &&& 2147483647) m d hm).1 (by omega)
  rw [h2]; exact ⟨Int.emod_nonneg _ (by omega), Int.emod_lt_of_pos _ hd⟩
theorem own_s (x : Int32) : ((x &&& (2147483647 : Int32)) % (3 : Int32) - (1 : Int32)) = (-1 : Int32) ∨ ((x &&& (2147483647 : Int32)) % (3 : Int32) - (1 : Int32)) = (0 : Int32) ∨ ((x &&& (2147483647 : Int32)) % (3 : Int32) - (1 : Int32)) = (1 : Int32) := by
  have h := own_mod x 3 3 (by decide) (by decide)
  have c := c_isub ((x &&& (2147483647 : Int32)) % (3 : Int32)) 1
  have r := rng32 ((x &&& (2147483647 : Int32)) % (3 : Int32) - (1 : Int32))
  have e1 : (1 : Int32).toInt = 1 := by decide
  rw [e1] at c
  have q : ((x &&& (2147483647 : Int32)) % (3 : Int32) - (1 : Int32)).toInt = -1 ∨ ((x &&& (2147483647 : Int32)) % (3 : Int32) - (1 : Int32)).toInt = 0 ∨ ((x &&& (2147483647 : Int32)) % (3 : Int32) - (1 : Int32)).toInt = 1 := by omega
  rcases q with q | q | q
  · exact Or.inl (Int32.toInt_inj.mp (by rw [q]; decide))
  · exact Or.inr (Or.inl (Int32.toInt_inj.mp (by rw [q]; decide)))
  · exact Or.inr (Or.inr (Int32.toInt_inj.mp (by rw [q]; decide)))
theorem ef_2 (m : MethodId) (x0 : Addr) : entryFrame m #[(.ref x0)] 1 = mkF m 0 #[.val (.ref x0)] [] := by first | (simp [entryFrame, mkF, argsToLocals, Value.category]; done) | rfl
theorem pn_java_lang_Enum : plainName "java/lang/Enum" = true := by first | (simp [plainName, overriddenIn]; done) | decide +kernel
theorem d2_0 : decode jdk_37_method_2_code 0 = .ok (.aload_n 0, 1) := by decide +kernel
theorem d2_1 : decode jdk_37_method_2_code 1 = .ok (.getfield 7, 3) := by decide +kernel
theorem d2_4 : decode jdk_37_method_2_code 4 = .ok (.ireturn, 1) := by decide +kernel
def Q_rmO (Z : State) (a1 : Addr) (o : Int32) (h0 : Heap) (n0 : Nat) (v : Option Value) (h : Heap) (L : List Loc) : Prop := v = some (.int o) ∧ Fr n0 L ∧ h = h0
set_option maxRecDepth 65536 in
set_option maxHeartbeats 40000000 in
theorem rmO (l : Launch) (Z : State) (a0 : Array Value) (hw : ∀ d ∈ tables_1, d.before a0 Z = true) (ws : List Jvm.Cond) (a1 : Addr) (o : Int32) (h0 : Heap) (n0 : Nat) (Z0 : n0 ≤ h0.size) (Fo : Fld Z h0 a1 "java/lang/Enum" "ordinal" "I" (.int o)) :
    MetFree l (⟨"java/lang/Enum", "ordinal", "()I"⟩ : MethodName) (head1 (Jvm.Cond.code (⟨"java/lang/Enum", "ordinal", "()I"⟩ : MethodName) jdk_37_method_2_code 1 (some .int) :: ws) ({ frames := 0, cells := 0, slots := 0, locals := 0 } : Room)) (fun av_ U_ => av_ = #[(.ref a1)] ∧ Z.Warmed39 U_.vm ∧ U_.heap = h0) (fun _ _ _ _ _ => True) (fun _ U_ o_ V_ => ∃ v_ L_, o_ = .returned v_ ∧ Q_rmO Z a1 o h0 n0 v_ V_.heap L_ ∧ FrameEnd U_ o_ V_ L_ ({ frames := 0, cells := 0, slots := 0, locals := 0 } : Room).cells ({ frames := 0, cells := 0, slots := 0, locals := 0 } : Room).slots) := by
  refine MetFree.of_bodySF (plainFor_of_name pn_java_lang_Enum) hisR ?_
  intro p e s m args below meth c s₁ Bd hml0 hP hK
  obtain ⟨rfl, hZ, hh⟩ := hP
  have hx := Bd.exec
  have hby := Bd.bytes
  have hml : c.maxLocals = 1 := hml0
  have hown : s.vm.findClass "java/lang/Enum" = some m.cls := findClass_of_methodNamed Bd.named
  have hnm := (name_of_methodNamed Bd.named Bd.method).1
  have X0 : Stand p l e ({ frames := 0, cells := 0, slots := 0, locals := 0 } : Room) s m #[(.ref a1)] below meth c s₁ [] 0 0 := Stand.of_body Bd
  have e0 : s₁.heap = h0 := by rw [← hh, Bd.state]; rfl
  have N0 := Fr.nil n0
  have pre0 : ∀ t_, Go p e below s₁ (mkF m 0 #[rv a1] []) t_ → Go p e below s₁ (entryFrame m #[(.ref a1)] 1) t_ := fun t_ kt => castTop (ef_2 m a1) kt
  obtain ⟨T1, X1, e1, st1⟩ := getF X0 hx hZ hown (host := "") (Or.inl (hwi hw 16 rfl)) Via.refl e0 Fo (g := (mkF m 1 #[rv a1] [(.ref a1)])) rfl rfl (hb hby d2_1)
  have pre2 : ∀ t_, Go p e below T1 (mkF m 4 #[rv a1] [(.int o)]) t_ → Go p e below s₁ (entryFrame m #[(.ref a1)] 1) t_ := fun t_ kt => pre0 _ (by
      show Go p e below s₁ (mkF m 0 #[rv a1] []) _
      refine XS.aloadN X0.here hx rfl (hb hby d2_0) rfl rfl ?_
      show Go p e below s₁ (mkF m 1 #[rv a1] [(.ref a1)]) _
      refine st1 _ ?_
      show Go p e below T1 (mkF m 4 #[rv a1] [(.int o)]) _
      exact kt)
  obtain ⟨fs, hr, hrun, hended, hW, hsame⟩ := X1.leave (v := some (.int o)) (fun h => by rw [Bd.returns] at h; cases h)
  refine ⟨_, _, pre2 _ ?_, hrun, hended, _, _, rfl, ?_, ⟨_, rfl⟩, hW, hsame.mono (by decide) (by decide)⟩
  · show Steps p.tables e below (T1.setTop (mkF m 4 #[rv a1] [(.int o)])) _
    exact retI X1 hx Bd.returns (hb hby d2_4) hr
  · show Q_rmO Z a1 o h0 n0 _ T1.heap _
    rw [e1]
    exact ⟨rfl, N0, rfl⟩
theorem ef_1 (m : MethodId) (x0 : Addr) (x1 : Int32) : entryFrame m #[(.ref x0), (.int x1)] 2 = mkF m 0 #[.val (.ref x0), .val (.int x1)] [] := by first | (simp [entryFrame, mkF, argsToLocals, Value.category]; done) | rfl
theorem pn_com_example_tandem_abstraction_tandemabstraction_cfa_Relation : plainName "com/example/tandem_abstraction/tandemabstraction/cfa/Relation" = true := by first | (simp [plainName, overriddenIn]; done) | decide +kernel
theorem d1_0 : decode prog_39_method_5_code 0 = .ok (.aload_n 0, 1) := by decide +kernel
theorem d1_1 : decode prog_39_method_5_code 1 = .ok (.invokevirtual 45, 3) := by decide +kernel
theorem pd_1 : parseMethodDescriptor "()I" = some ⟨[], some .int⟩ := by decide +kernel
theorem d1_4 : decode prog_39_method_5_code 4 = .ok (.tableswitch 40 0 5 #[50, 62, 74, 86, 98, 110], 40) := by decide +kernel
theorem d1_54 : decode prog_39_method_5_code 54 = .ok (.iload_n 1, 1) := by decide +kernel
theorem d1_55 : decode prog_39_method_5_code 55 = .ok (.ifCond .ne 7, 3) := by decide +kernel
theorem d1_58 : decode prog_39_method_5_code 58 = .ok (.iconst 1, 1) := by decide +kernel
theorem d1_59 : decode prog_39_method_5_code 59 = .ok (.goto 64, 3) := by decide +kernel
theorem d1_123 : decode prog_39_method_5_code 123 = .ok (.ireturn, 1) := by decide +kernel
theorem d1_62 : decode prog_39_method_5_code 62 = .ok (.iconst 0, 1) := by decide +kernel
theorem d1_63 : decode prog_39_method_5_code 63 = .ok (.goto 60, 3) := by decide +kernel
def Q_rmH0 (Z : State) (a1 : Addr) (s1 : Int32) (h0 : Heap) (n0 : Nat) (v : Option Value) (h : Heap) (L : List Loc) : Prop := v = some (.int (if s1 = 0 then 1 else 0)) ∧ Fr n0 L ∧ h = h0
set_option maxRecDepth 65536 in
set_option maxHeartbeats 40000000 in
theorem rmH0 (l : Launch) (Z : State) (a0 : Array Value) (hw : ∀ d ∈ tables_1, d.before a0 Z = true) (ws : List Jvm.Cond) (a1 : Addr) (s1 : Int32) (h0 : Heap) (n0 : Nat) (Z0 : n0 ≤ h0.size) (Ea : Exa Z h0 a1 "com/example/tandem_abstraction/tandemabstraction/cfa/Relation") (Fa : Fld Z h0 a1 "java/lang/Enum" "ordinal" "I" (.int (0 : Int32))) :
    MetFree l (⟨"com/example/tandem_abstraction/tandemabstraction/cfa/Relation", "holds", "(I)Z"⟩ : MethodName) (head1 (Jvm.Cond.code (⟨"com/example/tandem_abstraction/tandemabstraction/cfa/Relation", "holds", "(I)Z"⟩ : MethodName) prog_39_method_5_code 2 (some .boolean) :: ws) ({ frames := 1, cells := 0, slots := 0, locals := 12 } : Room)) (fun av_ U_ => av_ = #[(.ref a1), (.int s1)] ∧ Z.Warmed39 U_.vm ∧ U_.heap = h0) (fun _ _ _ _ _ => True) (fun _ U_ o_ V_ => ∃ v_ L_, o_ = .returned v_ ∧ Q_rmH0 Z a1 s1 h0 n0 v_ V_.heap L_ ∧ FrameEnd U_ o_ V_ L_ ({ frames := 1, cells := 0, slots := 0, locals := 12 } : Room).cells ({ frames := 1, cells := 0, slots := 0, locals := 12 } : Room).slots) := by
  refine MetFree.of_bodySF (plainFor_of_name pn_com_example_tandem_abstraction_tandemabstraction_cfa_Relation) hisR ?_
  intro p e s m args below meth c s₁ Bd hml0 hP hK
  obtain ⟨rfl, hZ, hh⟩ := hP
  have hx := Bd.exec
  have hby := Bd.bytes
  have hml : c.maxLocals = 2 := hml0
  have hown : s.vm.findClass "com/example/tandem_abstraction/tandemabstraction/cfa/Relation" = some m.cls := findClass_of_methodNamed Bd.named
  have hnm := (name_of_methodNamed Bd.named Bd.method).1
  have X0 : Stand p l e ({ frames := 1, cells := 0, slots := 0, locals := 12 } : Room) s m #[(.ref a1), (.int s1)] below meth c s₁ [] 0 0 := Stand.of_body Bd
  have e0 : s₁.heap = h0 := by rw [← hh, Bd.state]; rfl
  have N0 := Fr.nil n0
  have pre0 : ∀ t_, Go p e below s₁ (mkF m 0 #[rv a1, iv s1] []) t_ → Go p e below s₁ (entryFrame m #[(.ref a1), (.int s1)] 2) t_ := fun t_ kt => castTop (ef_1 m a1 s1) kt
  obtain ⟨cq1, kq1, q1a, q1b, q1c⟩ := isOf hZ e0 Ea
  obtain ⟨_, _, ⟨T1, L1, k1, n1⟩, -, X1, ⟨Lc1, hQ1, l1, y1, z1⟩, st1⟩ := X0.virtualBackUp hx (owner := "java/lang/Enum") (x := (⟨"com/example/tandem_abstraction/tandemabstraction/cfa/Relation", "ordinal", "()I"⟩ : MethodName)) (y := (⟨"java/lang/Enum", "ordinal", "()I"⟩ : MethodName)) hown (mvT hZ (hwi hw 9 rfl)) (mvT hZ (hwi hw 10 rfl)) (mvT hZ (hwi hw 11 rfl)) (by decide) (mvT hZ (hwi hw 13 rfl)) (mvT hZ (hwi hw 12 rfl)) (backOf (W := 0) (rmO l Z a0 hw [] a1 0 h0 n0 Z0 Fa) hZ (hwi hw 15 rfl) (hwi hw 14 rfl) (by decide) (by decide)) q1a q1c (g := (mkF m 1 #[rv a1, iv s1] [(.ref a1)])) rfl (by rw [hml]; rfl) (Steps.refl _) (argsL := []) (rest := []) (lenOf pd_1 rfl) rfl (by show 2 * 0 + _ ≤ _; exact Nat.le_of_eq rfl) (hb hby d1_1) (fun _ _ => ⟨rfl, e0, (by decide : 0 + 0 ≤ _), (by decide : 0 + 0 ≤ _)⟩)
  dsimp only [Pt.U, Pt.locs, Pt.cells, Pt.slots] at X1 l1 y1 z1 st1 hQ1
  subst l1 y1 z1
  obtain ⟨rfl, N1q, e1q⟩ := hQ1
  have N1 := Fr.app N0 N1q
  have pre2 : ∀ t_, Go p e below T1 (mkF m 55 #[rv a1, iv s1] [(.int s1)]) t_ → Go p e below s₁ (entryFrame m #[(.ref a1), (.int s1)] 2) t_ := fun t_ kt => pre0 _ (by
      show Go p e below s₁ (mkF m 0 #[rv a1, iv s1] []) _
      refine XS.aloadN X0.here hx rfl (hb hby d1_0) rfl rfl ?_
      show Go p e below s₁ (mkF m 1 #[rv a1, iv s1] [(.ref a1)]) _
      refine st1.trans ?_
      show Go p e below T1 (mkF m 4 #[rv a1, iv s1] [(.int 0)]) _
      refine XS.tswIn X1.here hx rfl (pc0 := 4) (pc' := 54) rfl (hb hby d1_4) rfl (by decide) (o := 50) (by first | rfl | decide) (by decide) (by decide) ?_
      show Go p e below T1 (mkF m 54 #[rv a1, iv s1] []) _
      refine XS.iloadN X1.here hx rfl (hb hby d1_54) rfl ?_
      show Go p e below T1 (mkF m 55 #[rv a1, iv s1] [(.int s1)]) _
      exact kt)
  by_cases hc55_3 : s1 = (0 : Int32)
  · have pre4 : ∀ t_, Go p e below T1 (mkF m 123 #[rv a1, iv s1] [(.int 1)]) t_ → Go p e below s₁ (entryFrame m #[(.ref a1), (.int s1)] 2) t_ := fun t_ kt => pre2 _ (by
        show Go p e below T1 (mkF m 55 #[rv a1, iv s1] [(.int s1)]) _
        refine XS.ifNo X1.here hx rfl (hb hby d1_55) rfl ((if0 _ _).trans (teq hc55_3).2) ?_
        show Go p e below T1 (mkF m 58 #[rv a1, iv s1] []) _
        refine XS.iconst X1.here hx rfl (hb hby d1_58) ?_
        show Go p e below T1 (mkF m 59 #[rv a1, iv s1] [(.int 1)]) _
        refine XS.goto X1.here hx rfl (pc0 := 59) (pc' := 123) rfl (hb hby d1_59) (by decide) (by decide) ?_
        show Go p e below T1 (mkF m 123 #[rv a1, iv s1] [(.int 1)]) _
        exact kt)
    obtain ⟨fs, hr, hrun, hended, hW, hsame⟩ := X1.leave (v := some (.int 1)) (fun h => by rw [Bd.returns] at h; cases h)
    refine ⟨_, _, pre4 _ ?_, hrun, hended, _, _, rfl, ?_, ⟨_, rfl⟩, hW, hsame.mono (by decide) (by decide)⟩
    · show Steps p.tables e below (T1.setTop (mkF m 123 #[rv a1, iv s1] [(.int 1)])) _
      exact retN X1 hx (t := .boolean) Bd.returns (by simp) (hb hby d1_123) hr
    · show Q_rmH0 Z a1 s1 h0 n0 _ T1.heap _
      rw [e1q]
      exact ⟨by simp [hc55_3], N1, rfl⟩
  · have pre5 : ∀ t_, Go p e below T1 (mkF m 123 #[rv a1, iv s1] [(.int 0)]) t_ → Go p e below s₁ (entryFrame m #[(.ref a1), (.int s1)] 2) t_ := fun t_ kt => pre2 _ (by
        show Go p e below T1 (mkF m 55 #[rv a1, iv s1] [(.int s1)]) _
        refine XS.ifYes X1.here hx rfl (pc0 := 55) (pc' := 62) rfl (hb hby d1_55) rfl ((if0 _ _).trans (feq hc55_3).2) (by decide) (by decide) ?_
        show Go p e below T1 (mkF m 62 #[rv a1, iv s1] []) _
        refine XS.iconst X1.here hx rfl (hb hby d1_62) ?_
        show Go p e below T1 (mkF m 63 #[rv a1, iv s1] [(.int 0)]) _
        refine XS.goto X1.here hx rfl (pc0 := 63) (pc' := 123) rfl (hb hby d1_63) (by decide) (by decide) ?_
        show Go p e below T1 (mkF m 123 #[rv a1, iv s1] [(.int 0)]) _
        exact kt)
    obtain ⟨fs, hr, hrun, hended, hW, hsame⟩ := X1.leave (v := some (.int 0)) (fun h => by rw [Bd.returns] at h; cases h)
    refine ⟨_, _, pre5 _ ?_, hrun, hended, _, _, rfl, ?_, ⟨_, rfl⟩, hW, hsame.mono (by decide) (by decide)⟩
    · show Steps p.tables e below (T1.setTop (mkF m 123 #[rv a1, iv s1] [(.int 0)])) _
      exact retN X1 hx (t := .boolean) Bd.returns (by simp) (hb hby d1_123) hr
    · show Q_rmH0 Z a1 s1 h0 n0 _ T1.heap _
      rw [e1q]
      exact ⟨by simp [hc55_3], N1, rfl⟩
theorem d1_66 : decode prog_39_method_5_code 66 = .ok (.iload_n 1, 1) := by decide +kernel
theorem d1_67 : decode prog_39_method_5_code 67 = .ok (.ifCond .eq 7, 3) := by decide +kernel
theorem d1_74 : decode prog_39_method_5_code 74 = .ok (.iconst 0, 1) := by decide +kernel
theorem d1_75 : decode prog_39_method_5_code 75 = .ok (.goto 48, 3) := by decide +kernel
theorem d1_70 : decode prog_39_method_5_code 70 = .ok (.iconst 1, 1) := by decide +kernel
theorem d1_71 : decode prog_39_method_5_code 71 = .ok (.goto 52, 3) := by decide +kernel
def Q_rmH1 (Z : State) (a1 : Addr) (s1 : Int32) (h0 : Heap) (n0 : Nat) (v : Option Value) (h : Heap) (L : List Loc) : Prop := v = some (.int (if ¬ s1 = 0 then 1 else 0)) ∧ Fr n0 L ∧ h = h0
set_option maxRecDepth 65536 in
set_option maxHeartbeats 40000000 in
theorem rmH1 (l : Launch) (Z : State) (a0 : Array Value) (hw : ∀ d ∈ tables_1, d.before a0 Z = true) (ws : List Jvm.Cond) (a1 : Addr) (s1 : Int32) (h0 : Heap) (n0 : Nat) (Z0 : n0 ≤ h0.size) (Ea : Exa Z h0 a1 "com/example/tandem_abstraction/tandemabstraction/cfa/Relation") (Fa : Fld Z h0 a1 "java/lang/Enum" "ordinal" "I" (.int (1 : Int32))) :
    MetFree l (⟨"com/example/tandem_abstraction/tandemabstraction/cfa/Relation", "holds", "(I)Z"⟩ : MethodName) (head1 (Jvm.Cond.code (⟨"com/example/tandem_abstraction/tandemabstraction/cfa/Relation", "holds", "(I)Z"⟩ : MethodName) prog_39_method_5_code 2 (some .boolean) :: ws) ({ frames := 1, cells := 0, slots := 0, locals := 12 } : Room)) (fun av_ U_ => av_ = #[(.ref a1), (.int s1)] ∧ Z.Warmed39 U_.vm ∧ U_.heap = h0) (fun _ _ _ _ _ => True) (fun _ U_ o_ V_ => ∃ v_ L_, o_ = .returned v_ ∧ Q_rmH1 Z a1 s1 h0 n0 v_ V_.heap L_ ∧ FrameEnd U_ o_ V_ L_ ({ frames := 1, cells := 0, slots := 0, locals := 12 } : Room).cells ({ frames := 1, cells := 0, slots := 0, locals := 12 } : Room).slots) := by
  refine MetFree.of_bodySF (plainFor_of_name pn_com_example_tandem_abstraction_tandemabstraction_cfa_Relation) hisR ?_
  intro p e s m args below meth c s₁ Bd hml0 hP hK
  obtain ⟨rfl, hZ, hh⟩ := hP
  have hx := Bd.exec
  have hby := Bd.bytes
  have hml : c.maxLocals = 2 := hml0
  have hown : s.vm.findClass "com/example/tandem_abstraction/tandemabstraction/cfa/Relation" = some m.cls := findClass_of_methodNamed Bd.named
  have hnm := (name_of_methodNamed Bd.named Bd.method).1
  have X0 : Stand p l e ({ frames := 1, cells := 0, slots := 0, locals := 12 } : Room) s m #[(.ref a1), (.int s1)] below meth c s₁ [] 0 0 := Stand.of_body Bd
  have e0 : s₁.heap = h0 := by rw [← hh, Bd.state]; rfl
  have N0 := Fr.nil n0
  have pre0 : ∀ t_, Go p e below s₁ (mkF m 0 #[rv a1, iv s1] []) t_ → Go p e below s₁ (entryFrame m #[(.ref a1), (.int s1)] 2) t_ := fun t_ kt => castTop (ef_1 m a1 s1) kt
  obtain ⟨cq1, kq1, q1a, q1b, q1c⟩ := isOf hZ e0 Ea
  obtain ⟨_, _, ⟨T1, L1, k1, n1⟩, -, X1, ⟨Lc1, hQ1, l1, y1, z1⟩, st1⟩ := X0.virtualBackUp hx (owner := "java/lang/Enum") (x := (⟨"com/example/tandem_abstraction/tandemabstraction/cfa/Relation", "ordinal", "()I"⟩ : MethodName)) (y := (⟨"java/lang/Enum", "ordinal", "()I"⟩ : MethodName)) hown (mvT hZ (hwi hw 9 rfl)) (mvT hZ (hwi hw 10 rfl)) (mvT hZ (hwi hw 11 rfl)) (by decide) (mvT hZ (hwi hw 13 rfl)) (mvT hZ (hwi hw 12 rfl)) (backOf (W := 0) (rmO l Z a0 hw [] a1 1 h0 n0 Z0 Fa) hZ (hwi hw 15 rfl) (hwi hw 14 rfl) (by decide) (by decide)) q1a q1c (g := (mkF m 1 #[rv a1, iv s1] [(.ref a1)])) rfl (by rw [hml]; rfl) (Steps.refl _) (argsL := []) (rest := []) (lenOf pd_1 rfl) rfl (by show 2 * 0 + _ ≤ _; exact Nat.le_of_eq rfl) (hb hby d1_1) (fun _ _ => ⟨rfl, e0, (by decide : 0 + 0 ≤ _), (by decide : 0 + 0 ≤ _)⟩)
  dsimp only [Pt.U, Pt.locs, Pt.cells, Pt.slots] at X1 l1 y1 z1 st1 hQ1
  subst l1 y1 z1
  obtain ⟨rfl, N1q, e1q⟩ := hQ1
  have N1 := Fr.app N0 N1q
  have pre2 : ∀ t_, Go p e below T1 (mkF m 67 #[rv a1, iv s1] [(.int s1)]) t_ → Go p e below s₁ (entryFrame m #[(.ref a1), (.int s1)] 2) t_ := fun t_ kt => pre0 _ (by
      show Go p e below s₁ (mkF m 0 #[rv a1, iv s1] []) _
      refine XS.aloadN X0.here hx rfl (hb hby d1_0) rfl rfl ?_
      show Go p e below s₁ (mkF m 1 #[rv a1, iv s1] [(.ref a1)]) _
      refine st1.trans ?_
      show Go p e below T1 (mkF m 4 #[rv a1, iv s1] [(.int 1)]) _
      refine XS.tswIn X1.here hx rfl (pc0 := 4) (pc' := 66) rfl (hb hby d1_4) rfl (by decide) (o := 62) (by first | rfl | decide) (by decide) (by decide) ?_
      show Go p e below T1 (mkF m 66 #[rv a1, iv s1] []) _
      refine XS.iloadN X1.here hx rfl (hb hby d1_66) rfl ?_
      show Go p e below T1 (mkF m 67 #[rv a1, iv s1] [(.int s1)]) _
      exact kt)
  by_cases hc67_3 : s1 = (0 : Int32)
  · have pre4 : ∀ t_, Go p e below T1 (mkF m 123 #[rv a1, iv s1] [(.int 0)]) t_ → Go p e below s₁ (entryFrame m #[(.ref a1), (.int s1)] 2) t_ := fun t_ kt => pre2 _ (by
        show Go p e below T1 (mkF m 67 #[rv a1, iv s1] [(.int s1)]) _
        refine XS.ifYes X1.here hx rfl (pc0 := 67) (pc' := 74) rfl (hb hby d1_67) rfl ((if0 _ _).trans (teq hc67_3).1) (by decide) (by decide) ?_
        show Go p e below T1 (mkF m 74 #[rv a1, iv s1] []) _
        refine XS.iconst X1.here hx rfl (hb hby d1_74) ?_
        show Go p e below T1 (mkF m 75 #[rv a1, iv s1] [(.int 0)]) _
        refine XS.goto X1.here hx rfl (pc0 := 75) (pc' := 123) rfl (hb hby d1_75) (by decide) (by decide) ?_
        show Go p e below T1 (mkF m 123 #[rv a1, iv s1] [(.int 0)]) _
        exact kt)
    obtain ⟨fs, hr, hrun, hended, hW, hsame⟩ := X1.leave (v := some (.int 0)) (fun h => by rw [Bd.returns] at h; cases h)
    refine ⟨_, _, pre4 _ ?_, hrun, hended, _, _, rfl, ?_, ⟨_, rfl⟩, hW, hsame.mono (by decide) (by decide)⟩
    · show Steps p.tables e below (T1.setTop (mkF m 123 #[rv a1, iv s1] [(.int 0)])) _
      exact retN X1 hx (t := .boolean) Bd.returns (by simp) (hb hby d1_123) hr
    · show Q_rmH1 Z a1 s1 h0 n0 _ T1.heap _
      rw [e1q]
      exact ⟨by simp [hc67_3], N1, rfl⟩
  · have pre5 : ∀ t_, Go p e below T1 (mkF m 123 #[rv a1, iv s1] [(.int 1)]) t_ → Go p e below s₁ (entryFrame m #[(.ref a1), (.int s1)] 2) t_ := fun t_ kt => pre2 _ (by
        show Go p e below T1 (mkF m 67 #[rv a1, iv s1] [(.int s1)]) _
        refine XS.ifNo X1.here hx rfl (hb hby d1_67) rfl ((if0 _ _).trans (feq hc67_3).1) ?_
        show Go p e below T1 (mkF m 70 #[rv a1, iv s1] []) _
        refine XS.iconst X1.here hx rfl (hb hby d1_70) ?_
        show Go p e below T1 (mkF m 71 #[rv a1, iv s1] [(.int 1)]) _
        refine XS.goto X1.here hx rfl (pc0 := 71) (pc' := 123) rfl (hb hby d1_71) (by decide) (by decide) ?_
        show Go p e below T1 (mkF m 123 #[rv a1, iv s1] [(.int 1)]) _
        exact kt)
    obtain ⟨fs, hr, hrun, hended, hW, hsame⟩ := X1.leave (v := some (.int 1)) (fun h => by rw [Bd.returns] at h; cases h)
    refine ⟨_, _, pre5 _ ?_, hrun, hended, _, _, rfl, ?_, ⟨_, rfl⟩, hW, hsame.mono (by decide) (by decide)⟩
    · show Steps p.tables e below (T1.setTop (mkF m 123 #[rv a1, iv s1] [(.int 1)])) _
      exact retN X1 hx (t := .boolean) Bd.returns (by simp) (hb hby d1_123) hr
    · show Q_rmH1 Z a1 s1 h0 n0 _ T1.heap _
      rw [e1q]
      exact ⟨by simp [hc67_3], N1, rfl⟩
theorem d1_78 : decode prog_39_method_5_code 78 = .ok (.iload_n 1, 1) := by decide +kernel
theorem d1_79 : decode prog_39_method_5_code 79 = .ok (.ifCond .ge 7, 3) := by decide +kernel
theorem d1_82 : decode prog_39_method_5_code 82 = .ok (.iconst 1, 1) := by decide +kernel
theorem d1_83 : decode prog_39_method_5_code 83 = .ok (.goto 40, 3) := by decide +kernel
theorem d1_86 : decode prog_39_method_5_code 86 = .ok (.iconst 0, 1) := by decide +kernel
theorem d1_87 : decode prog_39_method_5_code 87 = .ok (.goto 36, 3) := by decide +kernel
def Q_rmH2 (Z : State) (a1 : Addr) (s1 : Int32) (h0 : Heap) (n0 : Nat) (v : Option Value) (h : Heap) (L : List Loc) : Prop := v = some (.int (if s1 < 0 then 1 else 0)) ∧ Fr n0 L ∧ h = h0
set_option maxRecDepth 65536 in
set_option maxHeartbeats 40000000 in
theorem rmH2 (l : Launch) (Z : State) (a0 : Array Value) (hw : ∀ d ∈ tables_1, d.before a0 Z = true) (ws : List Jvm.Cond) (a1 : Addr) (s1 : Int32) (h0 : Heap) (n0 : Nat) (Z0 : n0 ≤ h0.size) (Ea : Exa Z h0 a1 "com/example/tandem_abstraction/tandemabstraction/cfa/Relation") (Fa : Fld Z h0 a1 "java/lang/Enum" "ordinal" "I" (.int (2 : Int32))) :
    MetFree l (⟨"com/example/tandem_abstraction/tandemabstraction/cfa/Relation", "holds", "(I)Z"⟩ : MethodName) (head1 (Jvm.Cond.code (⟨"com/example/tandem_abstraction/tandemabstraction/cfa/Relation", "holds", "(I)Z"⟩ : MethodName) prog_39_method_5_code 2 (some .boolean) :: ws) ({ frames := 1, cells := 0, slots := 0, locals := 12 } : Room)) (fun av_ U_ => av_ = #[(.ref a1), (.int s1)] ∧ Z.Warmed39 U_.vm ∧ U_.heap = h0) (fun _ _ _ _ _ => True) (fun _ U_ o_ V_ => ∃ v_ L_, o_ = .returned v_ ∧ Q_rmH2 Z a1 s1 h0 n0 v_ V_.heap L_ ∧ FrameEnd U_ o_ V_ L_ ({ frames := 1, cells := 0, slots := 0, locals := 12 } : Room).cells ({ frames := 1, cells := 0, slots := 0, locals := 12 } : Room).slots) := by
  refine MetFree.of_bodySF (plainFor_of_name pn_com_example_tandem_abstraction_tandemabstraction_cfa_Relation) hisR ?_
  intro p e s m args below meth c s₁ Bd hml0 hP hK
  obtain ⟨rfl, hZ, hh⟩ := hP
  have hx := Bd.exec
  have hby := Bd.bytes
  have hml : c.maxLocals = 2 := hml0
  have hown : s.vm.findClass "com/example/tandem_abstraction/tandemabstraction/cfa/Relation" = some m.cls := findClass_of_methodNamed Bd.named
  have hnm := (name_of_methodNamed Bd.named Bd.method).1
  have X0 : Stand p l e ({ frames := 1, cells := 0, slots := 0, locals := 12 } : Room) s m #[(.ref a1), (.int s1)] below meth c s₁ [] 0 0 := Stand.of_body Bd
  have e0 : s₁.heap = h0 := by rw [← hh, Bd.state]; rfl
  have N0 := Fr.nil n0
  have pre0 : ∀ t_, Go p e below s₁ (mkF m 0 #[rv a1, iv s1] []) t_ → Go p e below s₁ (entryFrame m #[(.ref a1), (.int s1)] 2) t_ := fun t_ kt => castTop (ef_1 m a1 s1) kt
  obtain ⟨cq1, kq1, q1a, q1b, q1c⟩ := isOf hZ e0 Ea
  obtain ⟨_, _, ⟨T1, L1, k1, n1⟩, -, X1, ⟨Lc1, hQ1, l1, y1, z1⟩, st1⟩ := X0.virtualBackUp hx (owner := "java/lang/Enum") (x := (⟨"com/example/tandem_abstraction/tandemabstraction/cfa/Relation", "ordinal", "()I"⟩ : MethodName)) (y := (⟨"java/lang/Enum", "ordinal", "()I"⟩ : MethodName)) hown (mvT hZ (hwi hw 9 rfl)) (mvT hZ (hwi hw 10 rfl)) (mvT hZ (hwi hw 11 rfl)) (by decide) (mvT hZ (hwi hw 13 rfl)) (mvT hZ (hwi hw 12 rfl)) (backOf (W := 0) (rmO l Z a0 hw [] a1 2 h0 n0 Z0 Fa) hZ (hwi hw 15 rfl) (hwi hw 14 rfl) (by decide) (by decide)) q1a q1c (g := (mkF m 1 #[rv a1, iv s1] [(.ref a1)])) rfl (by rw [hml]; rfl) (Steps.refl _) (argsL := []) (rest := []) (lenOf pd_1 rfl) rfl (by show 2 * 0 + _ ≤ _; exact Nat.le_of_eq rfl) (hb hby d1_1) (fun _ _ => ⟨rfl, e0, (by decide : 0 + 0 ≤ _), (by decide : 0 + 0 ≤ _)⟩)
  dsimp only [Pt.U, Pt.locs, Pt.cells, Pt.slots] at X1 l1 y1 z1 st1 hQ1
  subst l1 y1 z1
  obtain ⟨rfl, N1q, e1q⟩ := hQ1
  have N1 := Fr.app N0 N1q
  have pre2 : ∀ t_, Go p e below T1 (mkF m 79 #[rv a1, iv s1] [(.int s1)]) t_ → Go p e below s₁ (entryFrame m #[(.ref a1), (.int s1)] 2) t_ := fun t_ kt => pre0 _ (by
      show Go p e below s₁ (mkF m 0 #[rv a1, iv s1] []) _
      refine XS.aloadN X0.here hx rfl (hb hby d1_0) rfl rfl ?_
      show Go p e below s₁ (mkF m 1 #[rv a1, iv s1] [(.ref a1)]) _
      refine st1.trans ?_
      show Go p e below T1 (mkF m 4 #[rv a1, iv s1] [(.int 2)]) _
      refine XS.tswIn X1.here hx rfl (pc0 := 4) (pc' := 78) rfl (hb hby d1_4) rfl (by decide) (o := 74) (by first | rfl | decide) (by decide) (by decide) ?_
      show Go p e below T1 (mkF m 78 #[rv a1, iv s1] []) _
      refine XS.iloadN X1.here hx rfl (hb hby d1_78) rfl ?_
      show Go p e below T1 (mkF m 79 #[rv a1, iv s1] [(.int s1)]) _
      exact kt)
  by_cases hc79_3 : s1 < (0 : Int32)
  · have pre4 : ∀ t_, Go p e below T1 (mkF m 123 #[rv a1, iv s1] [(.int 1)]) t_ → Go p e below s₁ (entryFrame m #[(.ref a1), (.int s1)] 2) t_ := fun t_ kt => pre2 _ (by
        show Go p e below T1 (mkF m 79 #[rv a1, iv s1] [(.int s1)]) _
        refine XS.ifNo X1.here hx rfl (hb hby d1_79) rfl ((if0 _ _).trans (tlt hc79_3).2.1) ?_
        show Go p e below T1 (mkF m 82 #[rv a1, iv s1] []) _
        refine XS.iconst X1.here hx rfl (hb hby d1_82) ?_
        show Go p e below T1 (mkF m 83 #[rv a1, iv s1] [(.int 1)]) _
        refine XS.goto X1.here hx rfl (pc0 := 83) (pc' := 123) rfl (hb hby d1_83) (by decide) (by decide) ?_
        show Go p e below T1 (mkF m 123 #[rv a1, iv s1] [(.int 1)]) _
        exact kt)
    obtain ⟨fs, hr, hrun, hended, hW, hsame⟩ := X1.leave (v := some (.int 1)) (fun h => by rw [Bd.returns] at h; cases h)
    refine ⟨_, _, pre4 _ ?_, hrun, hended, _, _, rfl, ?_, ⟨_, rfl⟩, hW, hsame.mono (by decide) (by decide)⟩
    · show Steps p.tables e below (T1.setTop (mkF m 123 #[rv a1, iv s1] [(.int 1)])) _
      exact retN X1 hx (t := .boolean) Bd.returns (by simp) (hb hby d1_123) hr
    · show Q_rmH2 Z a1 s1 h0 n0 _ T1.heap _
      rw [e1q]
      exact ⟨by simp [hc79_3], N1, rfl⟩
  · have pre5 : ∀ t_, Go p e below T1 (mkF m 123 #[rv a1, iv s1] [(.int 0)]) t_ → Go p e below s₁ (entryFrame m #[(.ref a1), (.int s1)] 2) t_ := fun t_ kt => pre2 _ (by
        show Go p e below T1 (mkF m 79 #[rv a1, iv s1] [(.int s1)]) _
        refine XS.ifYes X1.here hx rfl (pc0 := 79) (pc' := 86) rfl (hb hby d1_79) rfl ((if0 _ _).trans (flt hc79_3).2.1) (by decide) (by decide) ?_
        show Go p e below T1 (mkF m 86 #[rv a1, iv s1] []) _
        refine XS.iconst X1.here hx rfl (hb hby d1_86) ?_
        show Go p e below T1 (mkF m 87 #[rv a1, iv s1] [(.int 0)]) _
        refine XS.goto X1.here hx rfl (pc0 := 87) (pc' := 123) rfl (hb hby d1_87) (by decide) (by decide) ?_
        show Go p e below T1 (mkF m 123 #[rv a1, iv s1] [(.int 0)]) _
        exact kt)
    obtain ⟨fs, hr, hrun, hended, hW, hsame⟩ := X1.leave (v := some (.int 0)) (fun h => by rw [Bd.returns] at h; cases h)
    refine ⟨_, _, pre5 _ ?_, hrun, hended, _, _, rfl, ?_, ⟨_, rfl⟩, hW, hsame.mono (by decide) (by decide)⟩
    · show Steps p.tables e below (T1.setTop (mkF m 123 #[rv a1, iv s1] [(.int 0)])) _
      exact retN X1 hx (t := .boolean) Bd.returns (by simp) (hb hby d1_123) hr
    · show Q_rmH2 Z a1 s1 h0 n0 _ T1.heap _
      rw [e1q]
      exact ⟨by simp [hc79_3], N1, rfl⟩
theorem d1_90 : decode prog_39_method_5_code 90 = .ok (.iload_n 1, 1) := by decide +kernel
theorem d1_91 : decode prog_39_method_5_code 91 = .ok (.ifCond .gt 7, 3) := by decide +kernel
theorem d1_98 : decode prog_39_method_5_code 98 = .ok (.iconst 0, 1) := by decide +kernel
theorem d1_99 : decode prog_39_method_5_code 99 = .ok (.goto 24, 3) := by decide +kernel
theorem d1_94 : decode prog_39_method_5_code 94 = .ok (.iconst 1, 1) := by decide +kernel
theorem d1_95 : decode prog_39_method_5_code 95 = .ok (.goto 28, 3) := by decide +kernel
def Q_rmH3 (Z : State) (a1 : Addr) (s1 : Int32) (h0 : Heap) (n0 : Nat) (v : Option Value) (h : Heap) (L : List Loc) : Prop := v = some (.int (if ¬ 0 < s1 then 1 else 0)) ∧ Fr n0 L ∧ h = h0
set_option maxRecDepth 65536 in
set_option maxHeartbeats 40000000 in
theorem rmH3 (l : Launch) (Z : State) (a0 : Array Value) (hw : ∀ d ∈ tables_1, d.before a0 Z = true) (ws : List Jvm.Cond) (a1 : Addr) (s1 : Int32) (h0 : Heap) (n0 : Nat) (Z0 : n0 ≤ h0.size) (Ea : Exa Z h0 a1 "com/example/tandem_abstraction/tandemabstraction/cfa/Relation") (Fa : Fld Z h0 a1 "java/lang/Enum" "ordinal" "I" (.int (3 : Int32))) :
    MetFree l (⟨"com/example/tandem_abstraction/tandemabstraction/cfa/Relation", "holds", "(I)Z"⟩ : MethodName) (head1 (Jvm.Cond.code (⟨"com/example/tandem_abstraction/tandemabstraction/cfa/Relation", "holds", "(I)Z"⟩ : MethodName) prog_39_method_5_code 2 (some .boolean) :: ws) ({ frames := 1, cells := 0, slots := 0, locals := 12 } : Room)) (fun av_ U_ => av_ = #[(.ref a1), (.int s1)] ∧ Z.Warmed39 U_.vm ∧ U_.heap = h0) (fun _ _ _ _ _ => True) (fun _ U_ o_ V_ => ∃ v_ L_, o_ = .returned v_ ∧ Q_rmH3 Z a1 s1 h0 n0 v_ V_.heap L_ ∧ FrameEnd U_ o_ V_ L_ ({ frames := 1, cells := 0, slots := 0, locals := 12 } : Room).cells ({ frames := 1, cells := 0, slots := 0, locals := 12 } : Room).slots) := by
  refine MetFree.of_bodySF (plainFor_of_name pn_com_example_tandem_abstraction_tandemabstraction_cfa_Relation) hisR ?_
  intro p e s m args below meth c s₁ Bd hml0 hP hK
  obtain ⟨rfl, hZ, hh⟩ := hP
  have hx := Bd.exec
  have hby := Bd.bytes
  have hml : c.maxLocals = 2 := hml0
  have hown : s.vm.findClass "com/example/tandem_abstraction/tandemabstraction/cfa/Relation" = some m.cls := findClass_of_methodNamed Bd.named
  have hnm := (name_of_methodNamed Bd.named Bd.method).1
  have X0 : Stand p l e ({ frames := 1, cells := 0, slots := 0, locals := 12 } : Room) s m #[(.ref a1), (.int s1)] below meth c s₁ [] 0 0 := Stand.of_body Bd
  have e0 : s₁.heap = h0 := by rw [← hh, Bd.state]; rfl
  have N0 := Fr.nil n0
  have pre0 : ∀ t_, Go p e below s₁ (mkF m 0 #[rv a1, iv s1] []) t_ → Go p e below s₁ (entryFrame m #[(.ref a1), (.int s1)] 2) t_ := fun t_ kt => castTop (ef_1 m a1 s1) kt
  obtain ⟨cq1, kq1, q1a, q1b, q1c⟩ := isOf hZ e0 Ea
  obtain ⟨_, _, ⟨T1, L1, k1, n1⟩, -, X1, ⟨Lc1, hQ1, l1, y1, z1⟩, st1⟩ := X0.virtualBackUp hx (owner := "java/lang/Enum") (x := (⟨"com/example/tandem_abstraction/tandemabstraction/cfa/Relation", "ordinal", "()I"⟩ : MethodName)) (y := (⟨"java/lang/Enum", "ordinal", "()I"⟩ : MethodName)) hown (mvT hZ (hwi hw 9 rfl)) (mvT hZ (hwi hw 10 rfl)) (mvT hZ (hwi hw 11 rfl)) (by decide) (mvT hZ (hwi hw 13 rfl)) (mvT hZ (hwi hw 12 rfl)) (backOf (W := 0) (rmO l Z a0 hw [] a1 3 h0 n0 Z0 Fa) hZ (hwi hw 15 rfl) (hwi hw 14 rfl) (by decide) (by decide)) q1a q1c (g := (mkF m 1 #[rv a1, iv s1] [(.ref a1)])) rfl (by rw [hml]; rfl) (Steps.refl _) (argsL := []) (rest := []) (lenOf pd_1 rfl) rfl (by show 2 * 0 + _ ≤ _; exact Nat.le_of_eq rfl) (hb hby d1_1) (fun _ _ => ⟨rfl, e0, (by decide : 0 + 0 ≤ _), (by decide : 0 + 0 ≤ _)⟩)
  dsimp only [Pt.U, Pt.locs, Pt.cells, Pt.slots] at X1 l1 y1 z1 st1 hQ1
  subst l1 y1 z1
  obtain ⟨rfl, N1q, e1q⟩ := hQ1
  have N1 := Fr.app N0 N1q
  have pre2 : ∀ t_, Go p e below T1 (mkF m 91 #[rv a1, iv s1] [(.int s1)]) t_ → Go p e below s₁ (entryFrame m #[(.ref a1), (.int s1)] 2) t_ := fun t_ kt => pre0 _ (by
      show Go p e below s₁ (mkF m 0 #[rv a1, iv s1] []) _
      refine XS.aloadN X0.here hx rfl (hb hby d1_0) rfl rfl ?_
      show Go p e below s₁ (mkF m 1 #[rv a1, iv s1] [(.ref a1)]) _
      refine st1.trans ?_
      show Go p e below T1 (mkF m 4 #[rv a1, iv s1] [(.int 3)]) _
      refine XS.tswIn X1.here hx rfl (pc0 := 4) (pc' := 90) rfl (hb hby d1_4) rfl (by decide) (o := 86) (by first | rfl | decide) (by decide) (by decide) ?_
      show Go p e below T1 (mkF m 90 #[rv a1, iv s1] []) _
      refine XS.iloadN X1.here hx rfl (hb hby d1_90) rfl ?_
      show Go p e below T1 (mkF m 91 #[rv a1, iv s1] [(.int s1)]) _
      exact kt)
  by_cases hc91_3 : (0 : Int32) < s1
  · have pre4 : ∀ t_, Go p e below T1 (mkF m 123 #[rv a1, iv s1] [(.int 0)]) t_ → Go p e below s₁ (entryFrame m #[(.ref a1), (.int s1)] 2) t_ := fun t_ kt => pre2 _ (by
        show Go p e below T1 (mkF m 91 #[rv a1, iv s1] [(.int s1)]) _
        refine XS.ifYes X1.here hx rfl (pc0 := 91) (pc' := 98) rfl (hb hby d1_91) rfl ((if0 _ _).trans (tlt hc91_3).2.2.1) (by decide) (by decide) ?_
        show Go p e below T1 (mkF m 98 #[rv a1, iv s1] []) _
        refine XS.iconst X1.here hx rfl (hb hby d1_98) ?_
        show Go p e below T1 (mkF m 99 #[rv a1, iv s1] [(.int 0)]) _
        refine XS.goto X1.here hx rfl (pc0 := 99) (pc' := 123) rfl (hb hby d1_99) (by decide) (by decide) ?_
        show Go p e below T1 (mkF m 123 #[rv a1, iv s1] [(.int 0)]) _
        exact kt)
    obtain ⟨fs, hr, hrun, hended, hW, hsame⟩ := X1.leave (v := some (.int 0)) (fun h => by rw [Bd.returns] at h; cases h)
    refine ⟨_, _, pre4 _ ?_, hrun, hended, _, _, rfl, ?_, ⟨_, rfl⟩, hW, hsame.mono (by decide) (by decide)⟩
    · show Steps p.tables e below (T1.setTop (mkF m 123 #[rv a1, iv s1] [(.int 0)])) _
      exact retN X1 hx (t := .boolean) Bd.returns (by simp) (hb hby d1_123) hr
    · show Q_rmH3 Z a1 s1 h0 n0 _ T1.heap _
      rw [e1q]
      exact ⟨by simp [hc91_3], N1, rfl⟩
  · have pre5 : ∀ t_, Go p e below T1 (mkF m 123 #[rv a1, iv s1] [(.int 1)]) t_ → Go p e below s₁ (entryFrame m #[(.ref a1), (.int s1)] 2) t_ := fun t_ kt => pre2 _ (by
        show Go p e below T1 (mkF m 91 #[rv a1, iv s1] [(.int s1)]) _
        refine XS.ifNo X1.here hx rfl (hb hby d1_91) rfl ((if0 _ _).trans (flt hc91_3).2.2.1) ?_
        show Go p e below T1 (mkF m 94 #[rv a1, iv s1] []) _
        refine XS.iconst X1.here hx rfl (hb hby d1_94) ?_
        show Go p e below T1 (mkF m 95 #[rv a1, iv s1] [(.int 1)]) _
        refine XS.goto X1.here hx rfl (pc0 := 95) (pc' := 123) rfl (hb hby d1_95) (by decide) (by decide) ?_
        show Go p e below T1 (mkF m 123 #[rv a1, iv s1] [(.int 1)]) _
        exact kt)
    obtain ⟨fs, hr, hrun, hended, hW, hsame⟩ := X1.leave (v := some (.int 1)) (fun h => by rw [Bd.returns] at h; cases h)
    refine ⟨_, _, pre5 _ ?_, hrun, hended, _, _, rfl, ?_, ⟨_, rfl⟩, hW, hsame.mono (by decide) (by decide)⟩
    · show Steps p.tables e below (T1.setTop (mkF m 123 #[rv a1, iv s1] [(.int 1)])) _
      exact retN X1 hx (t := .boolean) Bd.returns (by simp) (hb hby d1_123) hr
    · show Q_rmH3 Z a1 s1 h0 n0 _ T1.heap _
      rw [e1q]
      exact ⟨by simp [hc91_3], N1, rfl⟩
theorem d1_102 : decode prog_39_method_5_code 102 = .ok (.iload_n 1, 1) := by decide +kernel
theorem d1_103 : decode prog_39_method_5_code 103 = .ok (.ifCond .le 7, 3) := by decide +kernel
theorem d1_106 : decode prog_39_method_5_code 106 = .ok (.iconst 1, 1) := by decide +kernel
theorem d1_107 : decode prog_39_method_5_code 107 = .ok (.goto 16, 3) := by decide +kernel
theorem d1_110 : decode prog_39_method_5_code 110 = .ok (.iconst 0, 1) := by decide +kernel
theorem d1_111 : decode prog_39_method_5_code 111 = .ok (.goto 12, 3) := by decide +kernel
def Q_rmH4 (Z : State) (a1 : Addr) (s1 : Int32) (h0 : Heap) (n0 : Nat) (v : Option Value) (h : Heap) (L : List Loc) : Prop := v = some (.int (if 0 < s1 then 1 else 0)) ∧ Fr n0 L ∧ h = h0
set_option maxRecDepth 65536 in
set_option maxHeartbeats 40000000 in
theorem rmH4 (l : Launch) (Z : State) (a0 : Array Value) (hw : ∀ d ∈ tables_1, d.before a0 Z = true) (ws : List Jvm.Cond) (a1 : Addr) (s1 : Int32) (h0 : Heap) (n0 : Nat) (Z0 : n0 ≤ h0.size) (Ea : Exa Z h0 a1 "com/example/tandem_abstraction/tandemabstraction/cfa/Relation") (Fa : Fld Z h0 a1 "java/lang/Enum" "ordinal" "I" (.int (4 : Int32))) :
    MetFree l (⟨"com/example/tandem_abstraction/tandemabstraction/cfa/Relation", "holds", "(I)Z"⟩ : MethodName) (head1 (Jvm.Cond.code (⟨"com/example/tandem_abstraction/tandemabstraction/cfa/Relation", "holds", "(I)Z"⟩ : MethodName) prog_39_method_5_code 2 (some .boolean) :: ws) ({ frames := 1, cells := 0, slots := 0, locals := 12 } : Room)) (fun av_ U_ => av_ = #[(.ref a1), (.int s1)] ∧ Z.Warmed39 U_.vm ∧ U_.heap = h0) (fun _ _ _ _ _ => True) (fun _ U_ o_ V_ => ∃ v_ L_, o_ = .returned v_ ∧ Q_rmH4 Z a1 s1 h0 n0 v_ V_.heap L_ ∧ FrameEnd U_ o_ V_ L_ ({ frames := 1, cells := 0, slots := 0, locals := 12 } : Room).cells ({ frames := 1, cells := 0, slots := 0, locals := 12 } : Room).slots) := by
  refine MetFree.of_bodySF (plainFor_of_name pn_com_example_tandem_abstraction_tandemabstraction_cfa_Relation) hisR ?_
  intro p e s m args below meth c s₁ Bd hml0 hP hK
  obtain ⟨rfl, hZ, hh⟩ := hP
  have hx := Bd.exec
  have hby := Bd.bytes
  have hml : c.maxLocals = 2 := hml0
  have hown : s.vm.findClass "com/example/tandem_abstraction/tandemabstraction/cfa/Relation" = some m.cls := findClass_of_methodNamed Bd.named
  have hnm := (name_of_methodNamed Bd.named Bd.method).1
  have X0 : Stand p l e ({ frames := 1, cells := 0, slots := 0, locals := 12 } : Room) s m #[(.ref a1), (.int s1)] below meth c s₁ [] 0 0 := Stand.of_body Bd
  have e0 : s₁.heap = h0 := by rw [← hh, Bd.state]; rfl
  have N0 := Fr.nil n0
  have pre0 : ∀ t_, Go p e below s₁ (mkF m 0 #[rv a1, iv s1] []) t_ → Go p e below s₁ (entryFrame m #[(.ref a1), (.int s1)] 2) t_ := fun t_ kt => castTop (ef_1 m a1 s1) kt
  obtain ⟨cq1, kq1, q1a, q1b, q1c⟩ := isOf hZ e0 Ea
  obtain ⟨_, _, ⟨T1, L1, k1, n1⟩, -, X1, ⟨Lc1, hQ1, l1, y1, z1⟩, st1⟩ := X0.virtualBackUp hx (owner := "java/lang/Enum") (x := (⟨"com/example/tandem_abstraction/tandemabstraction/cfa/Relation", "ordinal", "()I"⟩ : MethodName)) (y := (⟨"java/lang/Enum", "ordinal", "()I"⟩ : MethodName)) hown (mvT hZ (hwi hw 9 rfl)) (mvT hZ (hwi hw 10 rfl)) (mvT hZ (hwi hw 11 rfl)) (by decide) (mvT hZ (hwi hw 13 rfl)) (mvT hZ (hwi hw 12 rfl)) (backOf (W := 0) (rmO l Z a0 hw [] a1 4 h0 n0 Z0 Fa) hZ (hwi hw 15 rfl) (hwi hw 14 rfl) (by decide) (by decide)) q1a q1c (g := (mkF m 1 #[rv a1, iv s1] [(.ref a1)])) rfl (by rw [hml]; rfl) (Steps.refl _) (argsL := []) (rest := []) (lenOf pd_1 rfl) rfl (by show 2 * 0 + _ ≤ _; exact Nat.le_of_eq rfl) (hb hby d1_1) (fun _ _ => ⟨rfl, e0, (by decide : 0 + 0 ≤ _), (by decide : 0 + 0 ≤ _)⟩)
  dsimp only [Pt.U, Pt.locs, Pt.cells, Pt.slots] at X1 l1 y1 z1 st1 hQ1
  subst l1 y1 z1
  obtain ⟨rfl, N1q, e1q⟩ := hQ1
  have N1 := Fr.app N0 N1q
  have pre2 : ∀ t_, Go p e below T1 (mkF m 103 #[rv a1, iv s1] [(.int s1)]) t_ → Go p e below s₁ (entryFrame m #[(.ref a1), (.int s1)] 2) t_ := fun t_ kt => pre0 _ (by
      show Go p e below s₁ (mkF m 0 #[rv a1, iv s1] []) _
      refine XS.aloadN X0.here hx rfl (hb hby d1_0) rfl rfl ?_
      show Go p e below s₁ (mkF m 1 #[rv a1, iv s1] [(.ref a1)]) _
      refine st1.trans ?_
      show Go p e below T1 (mkF m 4 #[rv a1, iv s1] [(.int 4)]) _
      refine XS.tswIn X1.here hx rfl (pc0 := 4) (pc' := 102) rfl (hb hby d1_4) rfl (by decide) (o := 98) (by first | rfl | decide) (by decide) (by decide) ?_
      show Go p e below T1 (mkF m 102 #[rv a1, iv s1] []) _
      refine XS.iloadN X1.here hx rfl (hb hby d1_102) rfl ?_
      show Go p e below T1 (mkF m 103 #[rv a1, iv s1] [(.int s1)]) _
      exact kt)
  by_cases hc103_3 : (0 : Int32) < s1
  · have pre4 : ∀ t_, Go p e below T1 (mkF m 123 #[rv a1, iv s1] [(.int 1)]) t_ → Go p e below s₁ (entryFrame m #[(.ref a1), (.int s1)] 2) t_ := fun t_ kt => pre2 _ (by
        show Go p e below T1 (mkF m 103 #[rv a1, iv s1] [(.int s1)]) _
        refine XS.ifNo X1.here hx rfl (hb hby d1_103) rfl ((if0 _ _).trans (tlt hc103_3).2.2.2) ?_
        show Go p e below T1 (mkF m 106 #[rv a1, iv s1] []) _
        refine XS.iconst X1.here hx rfl (hb hby d1_106) ?_
        show Go p e below T1 (mkF m 107 #[rv a1, iv s1] [(.int 1)]) _
        refine XS.goto X1.here hx rfl (pc0 := 107) (pc' := 123) rfl (hb hby d1_107) (by decide) (by decide) ?_
        show Go p e below T1 (mkF m 123 #[rv a1, iv s1] [(.int 1)]) _
        exact kt)
    obtain ⟨fs, hr, hrun, hended, hW, hsame⟩ := X1.leave (v := some (.int 1)) (fun h => by rw [Bd.returns] at h; cases h)
    refine ⟨_, _, pre4 _ ?_, hrun, hended, _, _, rfl, ?_, ⟨_, rfl⟩, hW, hsame.mono (by decide) (by decide)⟩
    · show Steps p.tables e below (T1.setTop (mkF m 123 #[rv a1, iv s1] [(.int 1)])) _
      exact retN X1 hx (t := .boolean) Bd.returns (by simp) (hb hby d1_123) hr
    · show Q_rmH4 Z a1 s1 h0 n0 _ T1.heap _
      rw [e1q]
      exact ⟨by simp [hc103_3], N1, rfl⟩
  · have pre5 : ∀ t_, Go p e below T1 (mkF m 123 #[rv a1, iv s1] [(.int 0)]) t_ → Go p e below s₁ (entryFrame m #[(.ref a1), (.int s1)] 2) t_ := fun t_ kt => pre2 _ (by
        show Go p e below T1 (mkF m 103 #[rv a1, iv s1] [(.int s1)]) _
        refine XS.ifYes X1.here hx rfl (pc0 := 103) (pc' := 110) rfl (hb hby d1_103) rfl ((if0 _ _).trans (flt hc103_3).2.2.2) (by decide) (by decide) ?_
        show Go p e below T1 (mkF m 110 #[rv a1, iv s1] []) _
        refine XS.iconst X1.here hx rfl (hb hby d1_110) ?_
        show Go p e below T1 (mkF m 111 #[rv a1, iv s1] [(.int 0)]) _
        refine XS.goto X1.here hx rfl (pc0 := 111) (pc' := 123) rfl (hb hby d1_111) (by decide) (by decide) ?_
        show Go p e below T1 (mkF m 123 #[rv a1, iv s1] [(.int 0)]) _
        exact kt)
    obtain ⟨fs, hr, hrun, hended, hW, hsame⟩ := X1.leave (v := some (.int 0)) (fun h => by rw [Bd.returns] at h; cases h)
    refine ⟨_, _, pre5 _ ?_, hrun, hended, _, _, rfl, ?_, ⟨_, rfl⟩, hW, hsame.mono (by decide) (by decide)⟩
    · show Steps p.tables e below (T1.setTop (mkF m 123 #[rv a1, iv s1] [(.int 0)])) _
      exact retN X1 hx (t := .boolean) Bd.returns (by simp) (hb hby d1_123) hr
    · show Q_rmH4 Z a1 s1 h0 n0 _ T1.heap _
      rw [e1q]
      exact ⟨by simp [hc103_3], N1, rfl⟩
theorem d1_114 : decode prog_39_method_5_code 114 = .ok (.iload_n 1, 1) := by decide +kernel
theorem d1_115 : decode prog_39_method_5_code 115 = .ok (.ifCond .lt 7, 3) := by decide +kernel
theorem d1_122 : decode prog_39_method_5_code 122 = .ok (.iconst 0, 1) := by decide +kernel
theorem d1_118 : decode prog_39_method_5_code 118 = .ok (.iconst 1, 1) := by decide +kernel
theorem d1_119 : decode prog_39_method_5_code 119 = .ok (.goto 4, 3) := by decide +kernel
def Q_rmH5 (Z : State) (a1 : Addr) (s1 : Int32) (h0 : Heap) (n0 : Nat) (v : Option Value) (h : Heap) (L : List Loc) : Prop := v = some (.int (if ¬ s1 < 0 then 1 else 0)) ∧ Fr n0 L ∧ h = h0
set_option maxRecDepth 65536 in
set_option maxHeartbeats 40000000 in
theorem rmH5 (l : Launch) (Z : State) (a0 : Array Value) (hw : ∀ d ∈ tables_1, d.before a0 Z = true) (ws : List Jvm.Cond) (a1 : Addr) (s1 : Int32) (h0 : Heap) (n0 : Nat) (Z0 : n0 ≤ h0.size) (Ea : Exa Z h0 a1 "com/example/tandem_abstraction/tandemabstraction/cfa/Relation") (Fa : Fld Z h0 a1 "java/lang/Enum" "ordinal" "I" (.int (5 : Int32))) :
    MetFree l (⟨"com/example/tandem_abstraction/tandemabstraction/cfa/Relation", "holds", "(I)Z"⟩ : MethodName) (head1 (Jvm.Cond.code (⟨"com/example/tandem_abstraction/tandemabstraction/cfa/Relation", "holds", "(I)Z"⟩ : MethodName) prog_39_method_5_code 2 (some .boolean) :: ws) ({ frames := 1, cells := 0, slots := 0, locals := 12 } : Room)) (fun av_ U_ => av_ = #[(.ref a1), (.int s1)] ∧ Z.Warmed39 U_.vm ∧ U_.heap = h0) (fun _ _ _ _ _ => True) (fun _ U_ o_ V_ => ∃ v_ L_, o_ = .returned v_ ∧ Q_rmH5 Z a1 s1 h0 n0 v_ V_.heap L_ ∧ FrameEnd U_ o_ V_ L_ ({ frames := 1, cells := 0, slots := 0, locals := 12 } : Room).cells ({ frames := 1, cells := 0, slots := 0, locals := 12 } : Room).slots) := by
  refine MetFree.of_bodySF (plainFor_of_name pn_com_example_tandem_abstraction_tandemabstraction_cfa_Relation) hisR ?_
  intro p e s m args below meth c s₁ Bd hml0 hP hK
  obtain ⟨rfl, hZ, hh⟩ := hP
  have hx := Bd.exec
  have hby := Bd.bytes
  have hml : c.maxLocals = 2 := hml0
  have hown : s.vm.findClass "com/example/tandem_abstraction/tandemabstraction/cfa/Relation" = some m.cls := findClass_of_methodNamed Bd.named
  have hnm := (name_of_methodNamed Bd.named Bd.method).1
  have X0 : Stand p l e ({ frames := 1, cells := 0, slots := 0, locals := 12 } : Room) s m #[(.ref a1), (.int s1)] below meth c s₁ [] 0 0 := Stand.of_body Bd
  have e0 : s₁.heap = h0 := by rw [← hh, Bd.state]; rfl
  have N0 := Fr.nil n0
  have pre0 : ∀ t_, Go p e below s₁ (mkF m 0 #[rv a1, iv s1] []) t_ → Go p e below s₁ (entryFrame m #[(.ref a1), (.int s1)] 2) t_ := fun t_ kt => castTop (ef_1 m a1 s1) kt
  obtain ⟨cq1, kq1, q1a, q1b, q1c⟩ := isOf hZ e0 Ea
  obtain ⟨_, _, ⟨T1, L1, k1, n1⟩, -, X1, ⟨Lc1, hQ1, l1, y1, z1⟩, st1⟩ := X0.virtualBackUp hx (owner := "java/lang/Enum") (x := (⟨"com/example/tandem_abstraction/tandemabstraction/cfa/Relation", "ordinal", "()I"⟩ : MethodName)) (y := (⟨"java/lang/Enum", "ordinal", "()I"⟩ : MethodName)) hown (mvT hZ (hwi hw 9 rfl)) (mvT hZ (hwi hw 10 rfl)) (mvT hZ (hwi hw 11 rfl)) (by decide) (mvT hZ (hwi hw 13 rfl)) (mvT hZ (hwi hw 12 rfl)) (backOf (W := 0) (rmO l Z a0 hw [] a1 5 h0 n0 Z0 Fa) hZ (hwi hw 15 rfl) (hwi hw 14 rfl) (by decide) (by decide)) q1a q1c (g := (mkF m 1 #[rv a1, iv s1] [(.ref a1)])) rfl (by rw [hml]; rfl) (Steps.refl _) (argsL := []) (rest := []) (lenOf pd_1 rfl) rfl (by show 2 * 0 + _ ≤ _; exact Nat.le_of_eq rfl) (hb hby d1_1) (fun _ _ => ⟨rfl, e0, (by decide : 0 + 0 ≤ _), (by decide : 0 + 0 ≤ _)⟩)
  dsimp only [Pt.U, Pt.locs, Pt.cells, Pt.slots] at X1 l1 y1 z1 st1 hQ1
  subst l1 y1 z1
  obtain ⟨rfl, N1q, e1q⟩ := hQ1
  have N1 := Fr.app N0 N1q
  have pre2 : ∀ t_, Go p e below T1 (mkF m 115 #[rv a1, iv s1] [(.int s1)]) t_ → Go p e below s₁ (entryFrame m #[(.ref a1), (.int s1)] 2) t_ := fun t_ kt => pre0 _ (by
      show Go p e below s₁ (mkF m 0 #[rv a1, iv s1] []) _
      refine XS.aloadN X0.here hx rfl (hb hby d1_0) rfl rfl ?_
      show Go p e below s₁ (mkF m 1 #[rv a1, iv s1] [(.ref a1)]) _
      refine st1.trans ?_
      show Go p e below T1 (mkF m 4 #[rv a1, iv s1] [(.int 5)]) _
      refine XS.tswIn X1.here hx rfl (pc0 := 4) (pc' := 114) rfl (hb hby d1_4) rfl (by decide) (o := 110) (by first | rfl | decide) (by decide) (by decide) ?_
      show Go p e below T1 (mkF m 114 #[rv a1, iv s1] []) _
      refine XS.iloadN X1.here hx rfl (hb hby d1_114) rfl ?_
      show Go p e below T1 (mkF m 115 #[rv a1, iv s1] [(.int s1)]) _
      exact kt)
  by_cases hc115_3 : s1 < (0 : Int32)
  · have pre4 : ∀ t_, Go p e below T1 (mkF m 123 #[rv a1, iv s1] [(.int 0)]) t_ → Go p e below s₁ (entryFrame m #[(.ref a1), (.int s1)] 2) t_ := fun t_ kt => pre2 _ (by
        show Go p e below T1 (mkF m 115 #[rv a1, iv s1] [(.int s1)]) _
        refine XS.ifYes X1.here hx rfl (pc0 := 115) (pc' := 122) rfl (hb hby d1_115) rfl ((if0 _ _).trans (tlt hc115_3).1) (by decide) (by decide) ?_
        show Go p e below T1 (mkF m 122 #[rv a1, iv s1] []) _
        refine XS.iconst X1.here hx rfl (hb hby d1_122) ?_
        show Go p e below T1 (mkF m 123 #[rv a1, iv s1] [(.int 0)]) _
        exact kt)
    obtain ⟨fs, hr, hrun, hended, hW, hsame⟩ := X1.leave (v := some (.int 0)) (fun h => by rw [Bd.returns] at h; cases h)
    refine ⟨_, _, pre4 _ ?_, hrun, hended, _, _, rfl, ?_, ⟨_, rfl⟩, hW, hsame.mono (by decide) (by decide)⟩
    · show Steps p.tables e below (T1.setTop (mkF m 123 #[rv a1, iv s1] [(.int 0)])) _
      exact retN X1 hx (t := .boolean) Bd.returns (by simp) (hb hby d1_123) hr
    · show Q_rmH5 Z a1 s1 h0 n0 _ T1.heap _
      rw [e1q]
      exact ⟨by simp [hc115_3], N1, rfl⟩
  · have pre5 : ∀ t_, Go p e below T1 (mkF m 123 #[rv a1, iv s1] [(.int 1)]) t_ → Go p e below s₁ (entryFrame m #[(.ref a1), (.int s1)] 2) t_ := fun t_ kt => pre2 _ (by
        show Go p e below T1 (mkF m 115 #[rv a1, iv s1] [(.int s1)]) _
        refine XS.ifNo X1.here hx rfl (hb hby d1_115) rfl ((if0 _ _).trans (flt hc115_3).1) ?_
        show Go p e below T1 (mkF m 118 #[rv a1, iv s1] []) _
        refine XS.iconst X1.here hx rfl (hb hby d1_118) ?_
        show Go p e below T1 (mkF m 119 #[rv a1, iv s1] [(.int 1)]) _
        refine XS.goto X1.here hx rfl (pc0 := 119) (pc' := 123) rfl (hb hby d1_119) (by decide) (by decide) ?_
        show Go p e below T1 (mkF m 123 #[rv a1, iv s1] [(.int 1)]) _
        exact kt)
    obtain ⟨fs, hr, hrun, hended, hW, hsame⟩ := X1.leave (v := some (.int 1)) (fun h => by rw [Bd.returns] at h; cases h)
    refine ⟨_, _, pre5 _ ?_, hrun, hended, _, _, rfl, ?_, ⟨_, rfl⟩, hW, hsame.mono (by decide) (by decide)⟩
    · show Steps p.tables e below (T1.setTop (mkF m 123 #[rv a1, iv s1] [(.int 1)])) _
      exact retN X1 hx (t := .boolean) Bd.returns (by simp) (hb hby d1_123) hr
    · show Q_rmH5 Z a1 s1 h0 n0 _ T1.heap _
      rw [e1q]
      exact ⟨by simp [hc115_3], N1, rfl⟩
theorem ef_0 (m : MethodId) (x0 : Int32) (x1 : Int32) : entryFrame m #[(.int x0), (.int x1)] maxLocals = mkF m 0 #[.val (.int x0), .val (.int x1), .unset, .unset, .unset, .unset, .unset] [] := by first | (simp [entryFrame, mkF, argsToLocals, Value.category, maxLocals]; done) | rfl
theorem pn_com_example_tandem_abstraction_tandemabstraction_cfa_RelationHoldsPinLaw : plainName "com/example/tandem_abstraction/tandemabstraction/cfa/RelationHoldsPinLaw" = true := by first | (simp [plainName, overriddenIn]; done) | decide +kernel
theorem pd_0 : parseMethodDescriptor "(I)Z" = some ⟨[.int], some .boolean⟩ := by decide +kernel
def Q_rmL (Z : State) (p1 : Int32) (p2 : Int32) (w_EQUAL : Addr) (w_NOT_EQUAL : Addr) (w_LESS : Addr) (w_LESS_EQUAL : Addr) (w_GREATER : Addr) (w_GREATER_EQUAL : Addr) (h0 : Heap) (n0 : Nat) (v : Option Value) (h : Heap) (L : List Loc) : Prop := v = some (.int 1) ∧ Fr n0 L
set_option maxRecDepth 65536 in
set_option maxHeartbeats 40000000 in
theorem rmL (l : Launch) (Z : State) (a0 : Array Value) (hw : ∀ d ∈ tables_1, d.before a0 Z = true) (ws : List Jvm.Cond) (p1 : Int32) (p2 : Int32) (w_EQUAL : Addr) (w_NOT_EQUAL : Addr) (w_LESS : Addr) (w_LESS_EQUAL : Addr) (w_GREATER : Addr) (w_GREATER_EQUAL : Addr) (h0 : Heap) (n0 : Nat) (Z0 : n0 ≤ h0.size) (hWd : Wd Z h0 w_EQUAL w_NOT_EQUAL w_LESS w_LESS_EQUAL w_GREATER w_GREATER_EQUAL) :
    MetFree l x (head1 (Jvm.Cond.code x code maxLocals ret :: ws) room_1) (fun av_ U_ => av_ = #[(.int p1), (.int p2)] ∧ Z.Warmed39 U_.vm ∧ U_.heap = h0) (fun _ _ _ _ _ => True) (fun _ U_ o_ V_ => ∃ v_ L_, o_ = .returned v_ ∧ Q_rmL Z p1 p2 w_EQUAL w_NOT_EQUAL w_LESS w_LESS_EQUAL w_GREATER w_GREATER_EQUAL h0 n0 v_ V_.heap L_ ∧ FrameEnd U_ o_ V_ L_ room_1.cells room_1.slots) := by
  refine MetFree.of_bodySF (plainFor_of_name pn_com_example_tandem_abstraction_tandemabstraction_cfa_RelationHoldsPinLaw) hisR ?_
  intro p e s m args below meth c s₁ Bd hml0 hP hK
  obtain ⟨rfl, hZ, hh⟩ := hP
  have hx := Bd.exec
  have hby := Bd.bytes
  have hml : c.maxLocals = 7 := hml0
  have hown : s.vm.findClass "com/example/tandem_abstraction/tandemabstraction/cfa/RelationHoldsPinLaw" = some m.cls := findClass_of_methodNamed Bd.named
  have hnm := (name_of_methodNamed Bd.named Bd.method).1
  have X0 : Stand p l e room_1 s m #[(.int p1), (.int p2)] below meth c s₁ [] 0 0 := Stand.of_body Bd
  have e0 : s₁.heap = h0 := by rw [← hh, Bd.state]; rfl
  have N0 := Fr.nil n0
  have pre0 : ∀ t_, Go p e below s₁ (mkF m 0 #[iv p1, iv p2, .unset, .unset, .unset, .unset, .unset] []) t_ → Go p e below s₁ (entryFrame m #[(.int p1), (.int p2)] maxLocals) t_ := fun t_ kt => castTop (ef_0 m p1 p2) kt
  have hWd0 := hWd
  obtain ⟨⟨S_EQUAL, E_EQUAL, F_EQUAL⟩, ⟨S_NOT_EQUAL, E_NOT_EQUAL, F_NOT_EQUAL⟩, ⟨S_LESS, E_LESS, F_LESS⟩, ⟨S_LESS_EQUAL, E_LESS_EQUAL, F_LESS_EQUAL⟩, ⟨S_GREATER, E_GREATER, F_GREATER⟩, ⟨S_GREATER_EQUAL, E_GREATER_EQUAL, F_GREATER_EQUAL⟩⟩ := hWd
  obtain ⟨r, e_r⟩ : ∃ z : Int32, z = ((p1 &&& (2147483647 : Int32)) % (6 : Int32)) := ⟨_, rfl⟩
  have pre1 : ∀ t_, Go p e below s₁ (mkF m 8 #[iv p1, iv p2, iv r, .unset, .unset, .unset, .unset] []) t_ → Go p e below s₁ (entryFrame m #[(.int p1), (.int p2)] maxLocals) t_ := fun t_ kt => pre0 _ (by
      subst e_r
      show Go p e below s₁ (mkF m 0 #[iv p1, iv p2, .unset, .unset, .unset, .unset, .unset] []) _
      refine XS.iloadN X0.here hx rfl (hb hby at_0) rfl ?_
      show Go p e below s₁ (mkF m 1 #[iv p1, iv p2, .unset, .unset, .unset, .unset, .unset] [(.int p1)]) _
      refine X0.ldcInt hx hown (mvT hZ (hwi hw 0 rfl)) (g := (mkF m 1 #[iv p1, iv p2, .unset, .unset, .unset, .unset, .unset] [(.int p1)])) rfl (hb hby at_1) _ ?_
      show Go p e below s₁ (mkF m 3 #[iv p1, iv p2, .unset, .unset, .unset, .unset, .unset] [(.int 2147483647), (.int p1)]) _
      refine XS.iand X0.here hx rfl (hb hby at_3) rfl ?_
      show Go p e below s₁ (mkF m 4 #[iv p1, iv p2, .unset, .unset, .unset, .unset, .unset] [(.int (p1 &&& (2147483647 : Int32)))]) _
      refine XS.bipush X0.here hx rfl (hb hby at_4) ?_
      show Go p e below s₁ (mkF m 6 #[iv p1, iv p2, .unset, .unset, .unset, .unset, .unset] [(.int 6), (.int (p1 &&& (2147483647 : Int32)))]) _
      refine iremM X0 hx rfl (hb hby at_6) rfl (by decide) ?_
      show Go p e below s₁ (mkF m 7 #[iv p1, iv p2, .unset, .unset, .unset, .unset, .unset] [(.int ((p1 &&& (2147483647 : Int32)) % (6 : Int32)))]) _
      refine XS.istoreN X0.here hx rfl (hb hby at_7) rfl (l' := #[iv p1, iv p2, iv ((p1 &&& (2147483647 : Int32)) % (6 : Int32)), .unset, .unset, .unset, .unset]) rfl ?_
      show Go p e below s₁ (mkF m 8 #[iv p1, iv p2, iv ((p1 &&& (2147483647 : Int32)) % (6 : Int32)), .unset, .unset, .unset, .unset] []) _
      exact kt)
  have hs := own_s p2
  obtain ⟨sv, e_sv⟩ : ∃ z : Int32, z = (((p2 &&& (2147483647 : Int32)) % (3 : Int32)) - (1 : Int32)) := ⟨_, rfl⟩
  have pre2 : ∀ t_, Go p e below s₁ (mkF m 17 #[iv p1, iv p2, iv r, iv sv, .unset, .unset, .unset] []) t_ → Go p e below s₁ (entryFrame m #[(.int p1), (.int p2)] maxLocals) t_ := fun t_ kt => pre1 _ (by
      subst e_sv
      show Go p e below s₁ (mkF m 8 #[iv p1, iv p2, iv r, .unset, .unset, .unset, .unset] []) _
      refine XS.iloadN X0.here hx rfl (hb hby at_8) rfl ?_
      show Go p e below s₁ (mkF m 9 #[iv p1, iv p2, iv r, .unset, .unset, .unset, .unset] [(.int p2)]) _
      refine X0.ldcInt hx hown (mvT hZ (hwi hw 0 rfl)) (g := (mkF m 9 #[iv p1, iv p2, iv r, .unset, .unset, .unset, .unset] [(.int p2)])) rfl (hb hby at_9) _ ?_
      show Go p e below s₁ (mkF m 11 #[iv p1, iv p2, iv r, .unset, .unset, .unset, .unset] [(.int 2147483647), (.int p2)]) _
      refine XS.iand X0.here hx rfl (hb hby at_11) rfl ?_
      show Go p e below s₁ (mkF m 12 #[iv p1, iv p2, iv r, .unset, .unset, .unset, .unset] [(.int (p2 &&& (2147483647 : Int32)))]) _
      refine XS.iconst X0.here hx rfl (hb hby at_12) ?_
      show Go p e below s₁ (mkF m 13 #[iv p1, iv p2, iv r, .unset, .unset, .unset, .unset] [(.int 3), (.int (p2 &&& (2147483647 : Int32)))]) _
      refine iremM X0 hx rfl (hb hby at_13) rfl (by decide) ?_
      show Go p e below s₁ (mkF m 14 #[iv p1, iv p2, iv r, .unset, .unset, .unset, .unset] [(.int ((p2 &&& (2147483647 : Int32)) % (3 : Int32)))]) _
      refine XS.iconst X0.here hx rfl (hb hby at_14) ?_
      show Go p e below s₁ (mkF m 15 #[iv p1, iv p2, iv r, .unset, .unset, .unset, .unset] [(.int 1), (.int ((p2 &&& (2147483647 : Int32)) % (3 : Int32)))]) _
      refine XS.isub X0.here hx rfl (hb hby at_15) rfl ?_
      show Go p e below s₁ (mkF m 16 #[iv p1, iv p2, iv r, .unset, .unset, .unset, .unset] [(.int (((p2 &&& (2147483647 : Int32)) % (3 : Int32)) - (1 : Int32)))]) _
      refine XS.istoreN X0.here hx rfl (hb hby at_16) rfl (l' := #[iv p1, iv p2, iv r, iv (((p2 &&& (2147483647 : Int32)) % (3 : Int32)) - (1 : Int32)), .unset, .unset, .unset]) rfl ?_
      show Go p e below s₁ (mkF m 17 #[iv p1, iv p2, iv r, iv (((p2 &&& (2147483647 : Int32)) % (3 : Int32)) - (1 : Int32)), .unset, .unset, .unset] []) _
      exact kt)
  rw [← e_sv] at hs
  clear e_sv
  rcases hs with rfl | rfl | rfl
  · have pre3 : ∀ t_, Go p e below s₁ (mkF m 18 #[iv p1, iv p2, iv r, iv (-1), .unset, .unset, .unset] [(.int r)]) t_ → Go p e below s₁ (entryFrame m #[(.int p1), (.int p2)] maxLocals) t_ := fun t_ kt => pre2 _ (by
        show Go p e below s₁ (mkF m 17 #[iv p1, iv p2, iv r, iv (-1), .unset, .unset, .unset] []) _
        refine XS.iloadN X0.here hx rfl (hb hby at_17) rfl ?_
        show Go p e below s₁ (mkF m 18 #[iv p1, iv p2, iv r, iv (-1), .unset, .unset, .unset] [(.int r)]) _
        exact kt)
    by_cases hc18_4 : r = (0 : Int32)
    · obtain ⟨T5, X5, e5, st5⟩ := getS2 X0 hx hZ hown (host := "") (Or.inl (hwi hw 1 rfl)) Via.refl e0 S_EQUAL (g := (mkF m 21 #[iv p1, iv p2, iv r, iv (-1), .unset, .unset, .unset] [])) rfl (hb hby at_21)
      obtain ⟨cq6, kq6, q6a, q6b, q6c⟩ := isOf hZ e5 E_EQUAL
      obtain ⟨_, _, ⟨T6, L6, k6, n6⟩, -, X6, ⟨Lc6, hQ6, l6, y6, z6⟩, st6⟩ := X5.virtualBack hx (y := (⟨"com/example/tandem_abstraction/tandemabstraction/cfa/Relation", "holds", "(I)Z"⟩ : MethodName)) (z := (⟨"com/example/tandem_abstraction/tandemabstraction/cfa/Relation", "holds", "(I)Z"⟩ : MethodName)) hown (mvT hZ (hwi hw 4 rfl)) (mvT hZ (hwi hw 5 rfl)) (notFace_of_selects (args := #[]) (mvT hZ (hwi hw 7 rfl))) (mvT hZ (hwi hw 7 rfl)) (mvT hZ (hwi hw 6 rfl)) (by decide) (backOf (W := 0) (rmH0 l Z a0 hw [] w_EQUAL (-1 : Int32) h0 n0 Z0 E_EQUAL F_EQUAL) hZ (hwi hw 8 rfl) (hwi hw 2 rfl) (by decide) (by decide)) q6a q6c (g := (mkF m 126 #[iv p1, iv p2, iv r, iv (-1), rv w_EQUAL, iv 2, iv 0] [(.int (-1)), (.ref w_EQUAL)])) rfl (by rw [hml]; rfl) (Steps.refl _) (argsL := [(.int (-1))]) (rest := []) (lenOf pd_0 rfl) rfl (by show 2 * 0 + _ ≤ _; exact Nat.le_of_eq rfl) (hb hby at_126) (fun _ _ => ⟨rfl, e5, (by decide : 0 + 0 ≤ _), (by decide : 0 + 0 ≤ _)⟩)
      dsimp only [Pt.U, Pt.locs, Pt.cells, Pt.slots] at X6 l6 y6 z6 st6 hQ6
      subst l6 y6 z6
      obtain ⟨hv6, N6q, e6q⟩ := hQ6
      have N6 := Fr.app N0 N6q
      rw [show (if (-1 : Int32) = 0 then (1 : Int32) else 0) = 0 from by decide] at hv6
      subst hv6
      have pre7 : ∀ t_, Go p e below T6 (mkF m 139 #[iv p1, iv p2, iv r, iv (-1), rv w_EQUAL, iv 2, iv 0] [(.int 1)]) t_ → Go p e below s₁ (entryFrame m #[(.int p1), (.int p2)] maxLocals) t_ := fun t_ kt => pre3 _ (by
          show Go p e below s₁ (mkF m 18 #[iv p1, iv p2, iv r, iv (-1), .unset, .unset, .unset] [(.int r)]) _
          refine XS.ifNo X0.here hx rfl (hb hby at_18) rfl ((if0 _ _).trans (teq hc18_4).2) ?_
          show Go p e below s₁ (mkF m 21 #[iv p1, iv p2, iv r, iv (-1), .unset, .unset, .unset] []) _
          refine st5 _ ?_
          show Go p e below T5 (mkF m 24 #[iv p1, iv p2, iv r, iv (-1), .unset, .unset, .unset] [(.ref w_EQUAL)]) _
          refine XS.astore X5.here hx rfl (hb hby at_24) rfl rfl (l' := #[iv p1, iv p2, iv r, iv (-1), rv w_EQUAL, .unset, .unset]) rfl ?_
          show Go p e below T5 (mkF m 26 #[iv p1, iv p2, iv r, iv (-1), rv w_EQUAL, .unset, .unset] []) _
          refine XS.iconst X5.here hx rfl (hb hby at_26) ?_
          show Go p e below T5 (mkF m 27 #[iv p1, iv p2, iv r, iv (-1), rv w_EQUAL, .unset, .unset] [(.int 2)]) _
          refine XS.istore X5.here hx rfl (hb hby at_27) rfl (l' := #[iv p1, iv p2, iv r, iv (-1), rv w_EQUAL, iv 2, .unset]) rfl ?_
          show Go p e below T5 (mkF m 29 #[iv p1, iv p2, iv r, iv (-1), rv w_EQUAL, iv 2, .unset] []) _
          refine XS.goto X5.here hx rfl (pc0 := 29) (pc' := 105) rfl (hb hby at_29) (by decide) (by decide) ?_
          show Go p e below T5 (mkF m 105 #[iv p1, iv p2, iv r, iv (-1), rv w_EQUAL, iv 2, .unset] []) _
          refine XS.iload X5.here hx rfl (hb hby at_105) rfl ?_
          show Go p e below T5 (mkF m 107 #[iv p1, iv p2, iv r, iv (-1), rv w_EQUAL, iv 2, .unset] [(.int 2)]) _
          refine XS.iloadN X5.here hx rfl (hb hby at_107) rfl ?_
          show Go p e below T5 (mkF m 108 #[iv p1, iv p2, iv r, iv (-1), rv w_EQUAL, iv 2, .unset] [(.int (-1)), (.int 2)]) _
          refine XS.iconst X5.here hx rfl (hb hby at_108) ?_
          show Go p e below T5 (mkF m 109 #[iv p1, iv p2, iv r, iv (-1), rv w_EQUAL, iv 2, .unset] [(.int 1), (.int (-1)), (.int 2)]) _
          refine XS.iadd X5.here hx rfl (hb hby at_109) rfl ?_
          show Go p e below T5 (mkF m 110 #[iv p1, iv p2, iv r, iv (-1), rv w_EQUAL, iv 2, .unset] [(.int 0), (.int 2)]) _
          refine XS.ishr X5.here hx rfl (hb hby at_110) rfl ?_
          show Go p e below T5 (mkF m 111 #[iv p1, iv p2, iv r, iv (-1), rv w_EQUAL, iv 2, .unset] [(.int ((2 : Int32) >>> ((0 : Int32) &&& 31)))]) _
          refine XS.iconst X5.here hx rfl (hb hby at_111) ?_
          show Go p e below T5 (mkF m 112 #[iv p1, iv p2, iv r, iv (-1), rv w_EQUAL, iv 2, .unset] [(.int 1), (.int ((2 : Int32) >>> ((0 : Int32) &&& 31)))]) _
          refine XS.iand X5.here hx rfl (hb hby at_112) rfl ?_
          show Go p e below T5 (mkF m 113 #[iv p1, iv p2, iv r, iv (-1), rv w_EQUAL, iv 2, .unset] [(.int (((2 : Int32) >>> ((0 : Int32) &&& 31)) &&& (1 : Int32)))]) _
          refine XS.ifYes X5.here hx rfl (pc0 := 113) (pc' := 120) rfl (hb hby at_113) rfl ((if0 _ _).trans (teq ((by decide) : (((2 : Int32) >>> ((0 : Int32) &&& 31)) &&& (1 : Int32)) = (0 : Int32))).1) (by decide) (by decide) ?_
          show Go p e below T5 (mkF m 120 #[iv p1, iv p2, iv r, iv (-1), rv w_EQUAL, iv 2, .unset] []) _
          refine XS.iconst X5.here hx rfl (hb hby at_120) ?_
          show Go p e below T5 (mkF m 121 #[iv p1, iv p2, iv r, iv (-1), rv w_EQUAL, iv 2, .unset] [(.int 0)]) _
          refine XS.istore X5.here hx rfl (hb hby at_121) rfl (l' := #[iv p1, iv p2, iv r, iv (-1), rv w_EQUAL, iv 2, iv 0]) rfl ?_
          show Go p e below T5 (mkF m 123 #[iv p1, iv p2, iv r, iv (-1), rv w_EQUAL, iv 2, iv 0] []) _
          refine XS.aload X5.here hx rfl (hb hby at_123) rfl rfl ?_
          show Go p e below T5 (mkF m 125 #[iv p1, iv p2, iv r, iv (-1), rv w_EQUAL, iv 2, iv 0] [(.ref w_EQUAL)]) _
          refine XS.iloadN X5.here hx rfl (hb hby at_125) rfl ?_
          show Go p e below T5 (mkF m 126 #[iv p1, iv p2, iv r, iv (-1), rv w_EQUAL, iv 2, iv 0] [(.int (-1)), (.ref w_EQUAL)]) _
          refine st6.trans ?_
          show Go p e below T6 (mkF m 129 #[iv p1, iv p2, iv r, iv (-1), rv w_EQUAL, iv 2, iv 0] [(.int 0)]) _
          refine XS.iload X6.here hx rfl (hb hby at_129) rfl ?_
          show Go p e below T6 (mkF m 131 #[iv p1, iv p2, iv r, iv (-1), rv w_EQUAL, iv 2, iv 0] [(.int 0), (.int 0)]) _
          refine XS.icmpNo X6.here hx rfl (hb hby at_131) rfl (teq ((by decide) : (0 : Int32) = (0 : Int32))).2 ?_
          show Go p e below T6 (mkF m 134 #[iv p1, iv p2, iv r, iv (-1), rv w_EQUAL, iv 2, iv 0] []) _
          refine XS.iconst X6.here hx rfl (hb hby at_134) ?_
          show Go p e below T6 (mkF m 135 #[iv p1, iv p2, iv r, iv (-1), rv w_EQUAL, iv 2, iv 0] [(.int 1)]) _
          refine XS.goto X6.here hx rfl (pc0 := 135) (pc' := 139) rfl (hb hby at_135) (by decide) (by decide) ?_
          show Go p e below T6 (mkF m 139 #[iv p1, iv p2, iv r, iv (-1), rv w_EQUAL, iv 2, iv 0] [(.int 1)]) _
          exact kt)
      obtain ⟨fs, hr, hrun, hended, hW, hsame⟩ := X6.leave (v := some (.int 1)) (fun h => by rw [Bd.returns] at h; cases h)
      refine ⟨_, _, pre7 _ ?_, hrun, hended, _, _, rfl, ?_, ⟨_, rfl⟩, hW, hsame.mono (by decide) (by decide)⟩
      · show Steps p.tables e below (T6.setTop (mkF m 139 #[iv p1, iv p2, iv r, iv (-1), rv w_EQUAL, iv 2, iv 0] [(.int 1)])) _
        exact retN X6 hx (t := .boolean) Bd.returns (by simp) (hb hby at_139) hr
      · show Q_rmL Z p1 p2 w_EQUAL w_NOT_EQUAL w_LESS w_LESS_EQUAL w_GREATER w_GREATER_EQUAL h0 n0 _ T6.heap _
        rw [e6q]
        exact ⟨rfl, N6⟩
    · have pre8 : ∀ t_, Go p e below s₁ (mkF m 34 #[iv p1, iv p2, iv r, iv (-1), .unset, .unset, .unset] [(.int 1), (.int r)]) t_ → Go p e below s₁ (entryFrame m #[(.int p1), (.int p2)] maxLocals) t_ := fun t_ kt => pre3 _ (by
          show Go p e below s₁ (mkF m 18 #[iv p1, iv p2, iv r, iv (-1), .unset, .unset, .unset] [(.int r)]) _
          refine XS.ifYes X0.here hx rfl (pc0 := 18) (pc' := 32) rfl (hb hby at_18) rfl ((if0 _ _).trans (feq hc18_4).2) (by decide) (by decide) ?_
          show Go p e below s₁ (mkF m 32 #[iv p1, iv p2, iv r, iv (-1), .unset, .unset, .unset] []) _
          refine XS.iloadN X0.here hx rfl (hb hby at_32) rfl ?_
          show Go p e below s₁ (mkF m 33 #[iv p1, iv p2, iv r, iv (-1), .unset, .unset, .unset] [(.int r)]) _
          refine XS.iconst X0.here hx rfl (hb hby at_33) ?_
          show Go p e below s₁ (mkF m 34 #[iv p1, iv p2, iv r, iv (-1), .unset, .unset, .unset] [(.int 1), (.int r)]) _
          exact kt)
      by_cases hc34_9 : r = (1 : Int32)
      · obtain ⟨T10, X10, e10, st10⟩ := getS2 X0 hx hZ hown (host := "") (Or.inl (hwi hw 22 rfl)) Via.refl e0 S_NOT_EQUAL (g := (mkF m 37 #[iv p1, iv p2, iv r, iv (-1), .unset, .unset, .unset] [])) rfl (hb hby at_37)
        obtain ⟨cq11, kq11, q11a, q11b, q11c⟩ := isOf hZ e10 E_NOT_EQUAL
        obtain ⟨_, _, ⟨T11, L11, k11, n11⟩, -, X11, ⟨Lc11, hQ11, l11, y11, z11⟩, st11⟩ := X10.virtualBack hx (y := (⟨"com/example/tandem_abstraction/tandemabstraction/cfa/Relation", "holds", "(I)Z"⟩ : MethodName)) (z := (⟨"com/example/tandem_abstraction/tandemabstraction/cfa/Relation", "holds", "(I)Z"⟩ : MethodName)) hown (mvT hZ (hwi hw 4 rfl)) (mvT hZ (hwi hw 5 rfl)) (notFace_of_selects (args := #[]) (mvT hZ (hwi hw 7 rfl))) (mvT hZ (hwi hw 7 rfl)) (mvT hZ (hwi hw 6 rfl)) (by decide) (backOf (W := 0) (rmH1 l Z a0 hw [] w_NOT_EQUAL (-1 : Int32) h0 n0 Z0 E_NOT_EQUAL F_NOT_EQUAL) hZ (hwi hw 8 rfl) (hwi hw 2 rfl) (by decide) (by decide)) q11a q11c (g := (mkF m 126 #[iv p1, iv p2, iv r, iv (-1), rv w_NOT_EQUAL, iv 5, iv 1] [(.int (-1)), (.ref w_NOT_EQUAL)])) rfl (by rw [hml]; rfl) (Steps.refl _) (argsL := [(.int (-1))]) (rest := []) (lenOf pd_0 rfl) rfl (by show 2 * 0 + _ ≤ _; exact Nat.le_of_eq rfl) (hb hby at_126) (fun _ _ => ⟨rfl, e10, (by decide : 0 + 0 ≤ _), (by decide : 0 + 0 ≤ _)⟩)
        dsimp only [Pt.U, Pt.locs, Pt.cells, Pt.slots] at X11 l11 y11 z11 st11 hQ11
        subst l11 y11 z11
        obtain ⟨hv11, N11q, e11q⟩ := hQ11
        have N11 := Fr.app N0 N11q
        rw [show (if ¬ (-1 : Int32) = 0 then (1 : Int32) else 0) = 1 from by decide] at hv11
        subst hv11
        have pre12 : ∀ t_, Go p e below T11 (mkF m 139 #[iv p1, iv p2, iv r, iv (-1), rv w_NOT_EQUAL, iv 5, iv 1] [(.int 1)]) t_ → Go p e below s₁ (entryFrame m #[(.int p1), (.int p2)] maxLocals) t_ := fun t_ kt => pre8 _ (by
            show Go p e below s₁ (mkF m 34 #[iv p1, iv p2, iv r, iv (-1), .unset, .unset, .unset] [(.int 1), (.int r)]) _
            refine XS.icmpNo X0.here hx rfl (hb hby at_34) rfl (teq hc34_9).2 ?_
            show Go p e below s₁ (mkF m 37 #[iv p1, iv p2, iv r, iv (-1), .unset, .unset, .unset] []) _
            refine st10 _ ?_
            show Go p e below T10 (mkF m 40 #[iv p1, iv p2, iv r, iv (-1), .unset, .unset, .unset] [(.ref w_NOT_EQUAL)]) _
            refine XS.astore X10.here hx rfl (hb hby at_40) rfl rfl (l' := #[iv p1, iv p2, iv r, iv (-1), rv w_NOT_EQUAL, .unset, .unset]) rfl ?_
            show Go p e below T10 (mkF m 42 #[iv p1, iv p2, iv r, iv (-1), rv w_NOT_EQUAL, .unset, .unset] []) _
            refine XS.iconst X10.here hx rfl (hb hby at_42) ?_
            show Go p e below T10 (mkF m 43 #[iv p1, iv p2, iv r, iv (-1), rv w_NOT_EQUAL, .unset, .unset] [(.int 5)]) _
            refine XS.istore X10.here hx rfl (hb hby at_43) rfl (l' := #[iv p1, iv p2, iv r, iv (-1), rv w_NOT_EQUAL, iv 5, .unset]) rfl ?_
            show Go p e below T10 (mkF m 45 #[iv p1, iv p2, iv r, iv (-1), rv w_NOT_EQUAL, iv 5, .unset] []) _
            refine XS.goto X10.here hx rfl (pc0 := 45) (pc' := 105) rfl (hb hby at_45) (by decide) (by decide) ?_
            show Go p e below T10 (mkF m 105 #[iv p1, iv p2, iv r, iv (-1), rv w_NOT_EQUAL, iv 5, .unset] []) _
            refine XS.iload X10.here hx rfl (hb hby at_105) rfl ?_
            show Go p e below T10 (mkF m 107 #[iv p1, iv p2, iv r, iv (-1), rv w_NOT_EQUAL, iv 5, .unset] [(.int 5)]) _
            refine XS.iloadN X10.here hx rfl (hb hby at_107) rfl ?_
            show Go p e below T10 (mkF m 108 #[iv p1, iv p2, iv r, iv (-1), rv w_NOT_EQUAL, iv 5, .unset] [(.int (-1)), (.int 5)]) _
            refine XS.iconst X10.here hx rfl (hb hby at_108) ?_
            show Go p e below T10 (mkF m 109 #[iv p1, iv p2, iv r, iv (-1), rv w_NOT_EQUAL, iv 5, .unset] [(.int 1), (.int (-1)), (.int 5)]) _
            refine XS.iadd X10.here hx rfl (hb hby at_109) rfl ?_
            show Go p e below T10 (mkF m 110 #[iv p1, iv p2, iv r, iv (-1), rv w_NOT_EQUAL, iv 5, .unset] [(.int 0), (.int 5)]) _
            refine XS.ishr X10.here hx rfl (hb hby at_110) rfl ?_
            show Go p e below T10 (mkF m 111 #[iv p1, iv p2, iv r, iv (-1), rv w_NOT_EQUAL, iv 5, .unset] [(.int ((5 : Int32) >>> ((0 : Int32) &&& 31)))]) _
            refine XS.iconst X10.here hx rfl (hb hby at_111) ?_
            show Go p e below T10 (mkF m 112 #[iv p1, iv p2, iv r, iv (-1), rv w_NOT_EQUAL, iv 5, .unset] [(.int 1), (.int ((5 : Int32) >>> ((0 : Int32) &&& 31)))]) _
            refine XS.iand X10.here hx rfl (hb hby at_112) rfl ?_
            show Go p e below T10 (mkF m 113 #[iv p1, iv p2, iv r, iv (-1), rv w_NOT_EQUAL, iv 5, .unset] [(.int (((5 : Int32) >>> ((0 : Int32) &&& 31)) &&& (1 : Int32)))]) _
            refine XS.ifNo X10.here hx rfl (hb hby at_113) rfl ((if0 _ _).trans (feq ((by decide) : ¬ ((((5 : Int32) >>> ((0 : Int32) &&& 31)) &&& (1 : Int32)) = (0 : Int32)))).1) ?_
            show Go p e below T10 (mkF m 116 #[iv p1, iv p2, iv r, iv (-1), rv w_NOT_EQUAL, iv 5, .unset] []) _
            refine XS.iconst X10.here hx rfl (hb hby at_116) ?_
            show Go p e below T10 (mkF m 117 #[iv p1, iv p2, iv r, iv (-1), rv w_NOT_EQUAL, iv 5, .unset] [(.int 1)]) _
            refine XS.goto X10.here hx rfl (pc0 := 117) (pc' := 121) rfl (hb hby at_117) (by decide) (by decide) ?_
            show Go p e below T10 (mkF m 121 #[iv p1, iv p2, iv r, iv (-1), rv w_NOT_EQUAL, iv 5, .unset] [(.int 1)]) _
            refine XS.istore X10.here hx rfl (hb hby at_121) rfl (l' := #[iv p1, iv p2, iv r, iv (-1), rv w_NOT_EQUAL, iv 5, iv 1]) rfl ?_
            show Go p e below T10 (mkF m 123 #[iv p1, iv p2, iv r, iv (-1), rv w_NOT_EQUAL, iv 5, iv 1] []) _
            refine XS.aload X10.here hx rfl (hb hby at_123) rfl rfl ?_
            show Go p e below T10 (mkF m 125 #[iv p1, iv p2, iv r, iv (-1), rv w_NOT_EQUAL, iv 5, iv 1] [(.ref w_NOT_EQUAL)]) _
            refine XS.iloadN X10.here hx rfl (hb hby at_125) rfl ?_
            show Go p e below T10 (mkF m 126 #[iv p1, iv p2, iv r, iv (-1), rv w_NOT_EQUAL, iv 5, iv 1] [(.int (-1)), (.ref w_NOT_EQUAL)]) _
            refine st11.trans ?_
            show Go p e below T11 (mkF m 129 #[iv p1, iv p2, iv r, iv (-1), rv w_NOT_EQUAL, iv 5, iv 1] [(.int 1)]) _
            refine XS.iload X11.here hx rfl (hb hby at_129) rfl ?_
            show Go p e below T11 (mkF m 131 #[iv p1, iv p2, iv r, iv (-1), rv w_NOT_EQUAL, iv 5, iv 1] [(.int 1), (.int 1)]) _
            refine XS.icmpNo X11.here hx rfl (hb hby at_131) rfl (teq ((by decide) : (1 : Int32) = (1 : Int32))).2 ?_
            show Go p e below T11 (mkF m 134 #[iv p1, iv p2, iv r, iv (-1), rv w_NOT_EQUAL, iv 5, iv 1] []) _
            refine XS.iconst X11.here hx rfl (hb hby at_134) ?_
            show Go p e below T11 (mkF m 135 #[iv p1, iv p2, iv r, iv (-1), rv w_NOT_EQUAL, iv 5, iv 1] [(.int 1)]) _
            refine XS.goto X11.here hx rfl (pc0 := 135) (pc' := 139) rfl (hb hby at_135) (by decide) (by decide) ?_
            show Go p e below T11 (mkF m 139 #[iv p1, iv p2, iv r, iv (-1), rv w_NOT_EQUAL, iv 5, iv 1] [(.int 1)]) _
            exact kt)
        obtain ⟨fs, hr, hrun, hended, hW, hsame⟩ := X11.leave (v := some (.int 1)) (fun h => by rw [Bd.returns] at h; cases h)
        refine ⟨_, _, pre12 _ ?_, hrun, hended, _, _, rfl, ?_, ⟨_, rfl⟩, hW, hsame.mono (by decide) (by decide)⟩
        · show Steps p.tables e below (T11.setTop (mkF m 139 #[iv p1, iv p2, iv r, iv (-1), rv w_NOT_EQUAL, iv 5, iv 1] [(.int 1)])) _
          exact retN X11 hx (t := .boolean) Bd.returns (by simp) (hb hby at_139) hr
        · show Q_rmL Z p1 p2 w_EQUAL w_NOT_EQUAL w_LESS w_LESS_EQUAL w_GREATER w_GREATER_EQUAL h0 n0 _ T11.heap _
          rw [e11q]
          exact ⟨rfl, N11⟩
      · have pre13 : ∀ t_, Go p e below s₁ (mkF m 50 #[iv p1, iv p2, iv r, iv (-1), .unset, .unset, .unset] [(.int 2), (.int r)]) t_ → Go p e below s₁ (entryFrame m #[(.int p1), (.int p2)] maxLocals) t_ := fun t_ kt => pre8 _ (by
            show Go p e below s₁ (mkF m 34 #[iv p1, iv p2, iv r, iv (-1), .unset, .unset, .unset] [(.int 1), (.int r)]) _
            refine XS.icmpYes X0.here hx rfl (pc0 := 34) (pc' := 48) rfl (hb hby at_34) rfl (feq hc34_9).2 (by decide) (by decide) ?_
            show Go p e below s₁ (mkF m 48 #[iv p1, iv p2, iv r, iv (-1), .unset, .unset, .unset] []) _
            refine XS.iloadN X0.here hx rfl (hb hby at_48) rfl ?_
            show Go p e below s₁ (mkF m 49 #[iv p1, iv p2, iv r, iv (-1), .unset, .unset, .unset] [(.int r)]) _
            refine XS.iconst X0.here hx rfl (hb hby at_49) ?_
            show Go p e below s₁ (mkF m 50 #[iv p1, iv p2, iv r, iv (-1), .unset, .unset, .unset] [(.int 2), (.int r)]) _
            exact kt)
        by_cases hc50_14 : r = (2 : Int32)
        · obtain ⟨T15, X15, e15, st15⟩ := getS2 X0 hx hZ hown (host := "") (Or.inl (hwi hw 18 rfl)) Via.refl e0 S_LESS (g := (mkF m 53 #[iv p1, iv p2, iv r, iv (-1), .unset, .unset, .unset] [])) rfl (hb hby at_53)
          obtain ⟨cq16, kq16, q16a, q16b, q16c⟩ := isOf hZ e15 E_LESS
          obtain ⟨_, _, ⟨T16, L16, k16, n16⟩, -, X16, ⟨Lc16, hQ16, l16, y16, z16⟩, st16⟩ := X15.virtualBack hx (y := (⟨"com/example/tandem_abstraction/tandemabstraction/cfa/Relation", "holds", "(I)Z"⟩ : MethodName)) (z := (⟨"com/example/tandem_abstraction/tandemabstraction/cfa/Relation", "holds", "(I)Z"⟩ : MethodName)) hown (mvT hZ (hwi hw 4 rfl)) (mvT hZ (hwi hw 5 rfl)) (notFace_of_selects (args := #[]) (mvT hZ (hwi hw 7 rfl))) (mvT hZ (hwi hw 7 rfl)) (mvT hZ (hwi hw 6 rfl)) (by decide) (backOf (W := 0) (rmH2 l Z a0 hw [] w_LESS (-1 : Int32) h0 n0 Z0 E_LESS F_LESS) hZ (hwi hw 8 rfl) (hwi hw 2 rfl) (by decide) (by decide)) q16a q16c (g := (mkF m 126 #[iv p1, iv p2, iv r, iv (-1), rv w_LESS, iv 1, iv 1] [(.int (-1)), (.ref w_LESS)])) rfl (by rw [hml]; rfl) (Steps.refl _) (argsL := [(.int (-1))]) (rest := []) (lenOf pd_0 rfl) rfl (by show 2 * 0 + _ ≤ _; exact Nat.le_of_eq rfl) (hb hby at_126) (fun _ _ => ⟨rfl, e15, (by decide : 0 + 0 ≤ _), (by decide : 0 + 0 ≤ _)⟩)
          dsimp only [Pt.U, Pt.locs, Pt.cells, Pt.slots] at X16 l16 y16 z16 st16 hQ16
          subst l16 y16 z16
          obtain ⟨hv16, N16q, e16q⟩ := hQ16
          have N16 := Fr.app N0 N16q
          rw [show (if (-1 : Int32) < 0 then (1 : Int32) else 0) = 1 from by decide] at hv16
          subst hv16
          have pre17 : ∀ t_, Go p e below T16 (mkF m 139 #[iv p1, iv p2, iv r, iv (-1), rv w_LESS, iv 1, iv 1] [(.int 1)]) t_ → Go p e below s₁ (entryFrame m #[(.int p1), (.int p2)] maxLocals) t_ := fun t_ kt => pre13 _ (by
              show Go p e below s₁ (mkF m 50 #[iv p1, iv p2, iv r, iv (-1), .unset, .unset, .unset] [(.int 2), (.int r)]) _
              refine XS.icmpNo X0.here hx rfl (hb hby at_50) rfl (teq hc50_14).2 ?_
              show Go p e below s₁ (mkF m 53 #[iv p1, iv p2, iv r, iv (-1), .unset, .unset, .unset] []) _
              refine st15 _ ?_
              show Go p e below T15 (mkF m 56 #[iv p1, iv p2, iv r, iv (-1), .unset, .unset, .unset] [(.ref w_LESS)]) _
              refine XS.astore X15.here hx rfl (hb hby at_56) rfl rfl (l' := #[iv p1, iv p2, iv r, iv (-1), rv w_LESS, .unset, .unset]) rfl ?_
              show Go p e below T15 (mkF m 58 #[iv p1, iv p2, iv r, iv (-1), rv w_LESS, .unset, .unset] []) _
              refine XS.iconst X15.here hx rfl (hb hby at_58) ?_
              show Go p e below T15 (mkF m 59 #[iv p1, iv p2, iv r, iv (-1), rv w_LESS, .unset, .unset] [(.int 1)]) _
              refine XS.istore X15.here hx rfl (hb hby at_59) rfl (l' := #[iv p1, iv p2, iv r, iv (-1), rv w_LESS, iv 1, .unset]) rfl ?_
              show Go p e below T15 (mkF m 61 #[iv p1, iv p2, iv r, iv (-1), rv w_LESS, iv 1, .unset] []) _
              refine XS.goto X15.here hx rfl (pc0 := 61) (pc' := 105) rfl (hb hby at_61) (by decide) (by decide) ?_
              show Go p e below T15 (mkF m 105 #[iv p1, iv p2, iv r, iv (-1), rv w_LESS, iv 1, .unset] []) _
              refine XS.iload X15.here hx rfl (hb hby at_105) rfl ?_
              show Go p e below T15 (mkF m 107 #[iv p1, iv p2, iv r, iv (-1), rv w_LESS, iv 1, .unset] [(.int 1)]) _
              refine XS.iloadN X15.here hx rfl (hb hby at_107) rfl ?_
              show Go p e below T15 (mkF m 108 #[iv p1, iv p2, iv r, iv (-1), rv w_LESS, iv 1, .unset] [(.int (-1)), (.int 1)]) _
              refine XS.iconst X15.here hx rfl (hb hby at_108) ?_
              show Go p e below T15 (mkF m 109 #[iv p1, iv p2, iv r, iv (-1), rv w_LESS, iv 1, .unset] [(.int 1), (.int (-1)), (.int 1)]) _
              refine XS.iadd X15.here hx rfl (hb hby at_109) rfl ?_
              show Go p e below T15 (mkF m 110 #[iv p1, iv p2, iv r, iv (-1), rv w_LESS, iv 1, .unset] [(.int 0), (.int 1)]) _
              refine XS.ishr X15.here hx rfl (hb hby at_110) rfl ?_
              show Go p e below T15 (mkF m 111 #[iv p1, iv p2, iv r, iv (-1), rv w_LESS, iv 1, .unset] [(.int ((1 : Int32) >>> ((0 : Int32) &&& 31)))]) _
              refine XS.iconst X15.here hx rfl (hb hby at_111) ?_
              show Go p e below T15 (mkF m 112 #[iv p1, iv p2, iv r, iv (-1), rv w_LESS, iv 1, .unset] [(.int 1), (.int ((1 : Int32) >>> ((0 : Int32) &&& 31)))]) _
              refine XS.iand X15.here hx rfl (hb hby at_112) rfl ?_
              show Go p e below T15 (mkF m 113 #[iv p1, iv p2, iv r, iv (-1), rv w_LESS, iv 1, .unset] [(.int (((1 : Int32) >>> ((0 : Int32) &&& 31)) &&& (1 : Int32)))]) _
              refine XS.ifNo X15.here hx rfl (hb hby at_113) rfl ((if0 _ _).trans (feq ((by decide) : ¬ ((((1 : Int32) >>> ((0 : Int32) &&& 31)) &&& (1 : Int32)) = (0 : Int32)))).1) ?_
              show Go p e below T15 (mkF m 116 #[iv p1, iv p2, iv r, iv (-1), rv w_LESS, iv 1, .unset] []) _
              refine XS.iconst X15.here hx rfl (hb hby at_116) ?_
              show Go p e below T15 (mkF m 117 #[iv p1, iv p2, iv r, iv (-1), rv w_LESS, iv 1, .unset] [(.int 1)]) _
              refine XS.goto X15.here hx rfl (pc0 := 117) (pc' := 121) rfl (hb hby at_117) (by decide) (by decide) ?_
              show Go p e below T15 (mkF m 121 #[iv p1, iv p2, iv r, iv (-1), rv w_LESS, iv 1, .unset] [(.int 1)]) _
              refine XS.istore X15.here hx rfl (hb hby at_121) rfl (l' := #[iv p1, iv p2, iv r, iv (-1), rv w_LESS, iv 1, iv 1]) rfl ?_
              show Go p e below T15 (mkF m 123 #[iv p1, iv p2, iv r, iv (-1), rv w_LESS, iv 1, iv 1] []) _
              refine XS.aload X15.here hx rfl (hb hby at_123) rfl rfl ?_
              show Go p e below T15 (mkF m 125 #[iv p1, iv p2, iv r, iv (-1), rv w_LESS, iv 1, iv 1] [(.ref w_LESS)]) _
              refine XS.iloadN X15.here hx rfl (hb hby at_125) rfl ?_
              show Go p e below T15 (mkF m 126 #[iv p1, iv p2, iv r, iv (-1), rv w_LESS, iv 1, iv 1] [(.int (-1)), (.ref w_LESS)]) _
              refine st16.trans ?_
              show Go p e below T16 (mkF m 129 #[iv p1, iv p2, iv r, iv (-1), rv w_LESS, iv 1, iv 1] [(.int 1)]) _
              refine XS.iload X16.here hx rfl (hb hby at_129) rfl ?_
              show Go p e below T16 (mkF m 131 #[iv p1, iv p2, iv r, iv (-1), rv w_LESS, iv 1, iv 1] [(.int 1), (.int 1)]) _
              refine XS.icmpNo X16.here hx rfl (hb hby at_131) rfl (teq ((by decide) : (1 : Int32) = (1 : Int32))).2 ?_
              show Go p e below T16 (mkF m 134 #[iv p1, iv p2, iv r, iv (-1), rv w_LESS, iv 1, iv 1] []) _
              refine XS.iconst X16.here hx rfl (hb hby at_134) ?_
              show Go p e below T16 (mkF m 135 #[iv p1, iv p2, iv r, iv (-1), rv w_LESS, iv 1, iv 1] [(.int 1)]) _
              refine XS.goto X16.here hx rfl (pc0 := 135) (pc' := 139) rfl (hb hby at_135) (by decide) (by decide) ?_
              show Go p e below T16 (mkF m 139 #[iv p1, iv p2, iv r, iv (-1), rv w_LESS, iv 1, iv 1] [(.int 1)]) _
              exact kt)
          obtain ⟨fs, hr, hrun, hended, hW, hsame⟩ := X16.leave (v := some (.int 1)) (fun h => by rw [Bd.returns] at h; cases h)
          refine ⟨_, _, pre17 _ ?_, hrun, hended, _, _, rfl, ?_, ⟨_, rfl⟩, hW, hsame.mono (by decide) (by decide)⟩
          · show Steps p.tables e below (T16.setTop (mkF m 139 #[iv p1, iv p2, iv r, iv (-1), rv w_LESS, iv 1, iv 1] [(.int 1)])) _
            exact retN X16 hx (t := .boolean) Bd.returns (by simp) (hb hby at_139) hr
          · show Q_rmL Z p1 p2 w_EQUAL w_NOT_EQUAL w_LESS w_LESS_EQUAL w_GREATER w_GREATER_EQUAL h0 n0 _ T16.heap _
            rw [e16q]
            exact ⟨rfl, N16⟩
        · have pre18 : ∀ t_, Go p e below s₁ (mkF m 66 #[iv p1, iv p2, iv r, iv (-1), .unset, .unset, .unset] [(.int 3), (.int r)]) t_ → Go p e below s₁ (entryFrame m #[(.int p1), (.int p2)] maxLocals) t_ := fun t_ kt => pre13 _ (by
              show Go p e below s₁ (mkF m 50 #[iv p1, iv p2, iv r, iv (-1), .unset, .unset, .unset] [(.int 2), (.int r)]) _
              refine XS.icmpYes X0.here hx rfl (pc0 := 50) (pc' := 64) rfl (hb hby at_50) rfl (feq hc50_14).2 (by decide) (by decide) ?_
              show Go p e below s₁ (mkF m 64 #[iv p1, iv p2, iv r, iv (-1), .unset, .unset, .unset] []) _
              refine XS.iloadN X0.here hx rfl (hb hby at_64) rfl ?_
              show Go p e below s₁ (mkF m 65 #[iv p1, iv p2, iv r, iv (-1), .unset, .unset, .unset] [(.int r)]) _
              refine XS.iconst X0.here hx rfl (hb hby at_65) ?_
              show Go p e below s₁ (mkF m 66 #[iv p1, iv p2, iv r, iv (-1), .unset, .unset, .unset] [(.int 3), (.int r)]) _
              exact kt)
          by_cases hc66_19 : r = (3 : Int32)
          · obtain ⟨T20, X20, e20, st20⟩ := getS2 X0 hx hZ hown (host := "") (Or.inl (hwi hw 26 rfl)) Via.refl e0 S_LESS_EQUAL (g := (mkF m 69 #[iv p1, iv p2, iv r, iv (-1), .unset, .unset, .unset] [])) rfl (hb hby at_69)
            obtain ⟨cq21, kq21, q21a, q21b, q21c⟩ := isOf hZ e20 E_LESS_EQUAL
            obtain ⟨_, _, ⟨T21, L21, k21, n21⟩, -, X21, ⟨Lc21, hQ21, l21, y21, z21⟩, st21⟩ := X20.virtualBack hx (y := (⟨"com/example/tandem_abstraction/tandemabstraction/cfa/Relation", "holds", "(I)Z"⟩ : MethodName)) (z := (⟨"com/example/tandem_abstraction/tandemabstraction/cfa/Relation", "holds", "(I)Z"⟩ : MethodName)) hown (mvT hZ (hwi hw 4 rfl)) (mvT hZ (hwi hw 5 rfl)) (notFace_of_selects (args := #[]) (mvT hZ (hwi hw 7 rfl))) (mvT hZ (hwi hw 7 rfl)) (mvT hZ (hwi hw 6 rfl)) (by decide) (backOf (W := 0) (rmH3 l Z a0 hw [] w_LESS_EQUAL (-1 : Int32) h0 n0 Z0 E_LESS_EQUAL F_LESS_EQUAL) hZ (hwi hw 8 rfl) (hwi hw 2 rfl) (by decide) (by decide)) q21a q21c (g := (mkF m 126 #[iv p1, iv p2, iv r, iv (-1), rv w_LESS_EQUAL, iv 3, iv 1] [(.int (-1)), (.ref w_LESS_EQUAL)])) rfl (by rw [hml]; rfl) (Steps.refl _) (argsL := [(.int (-1))]) (rest := []) (lenOf pd_0 rfl) rfl (by show 2 * 0 + _ ≤ _; exact Nat.le_of_eq rfl) (hb hby at_126) (fun _ _ => ⟨rfl, e20, (by decide : 0 + 0 ≤ _), (by decide : 0 + 0 ≤ _)⟩)
            dsimp only [Pt.U, Pt.locs, Pt.cells, Pt.slots] at X21 l21 y21 z21 st21 hQ21
            subst l21 y21 z21
            obtain ⟨hv21, N21q, e21q⟩ := hQ21
            have N21 := Fr.app N0 N21q
            rw [show (if ¬ 0 < (-1 : Int32) then (1 : Int32) else 0) = 1 from by decide] at hv21
            subst hv21
            have pre22 : ∀ t_, Go p e below T21 (mkF m 139 #[iv p1, iv p2, iv r, iv (-1), rv w_LESS_EQUAL, iv 3, iv 1] [(.int 1)]) t_ → Go p e below s₁ (entryFrame m #[(.int p1), (.int p2)] maxLocals) t_ := fun t_ kt => pre18 _ (by
                show Go p e below s₁ (mkF m 66 #[iv p1, iv p2, iv r, iv (-1), .unset, .unset, .unset] [(.int 3), (.int r)]) _
                refine XS.icmpNo X0.here hx rfl (hb hby at_66) rfl (teq hc66_19).2 ?_
                show Go p e below s₁ (mkF m 69 #[iv p1, iv p2, iv r, iv (-1), .unset, .unset, .unset] []) _
                refine st20 _ ?_
                show Go p e below T20 (mkF m 72 #[iv p1, iv p2, iv r, iv (-1), .unset, .unset, .unset] [(.ref w_LESS_EQUAL)]) _
                refine XS.astore X20.here hx rfl (hb hby at_72) rfl rfl (l' := #[iv p1, iv p2, iv r, iv (-1), rv w_LESS_EQUAL, .unset, .unset]) rfl ?_
                show Go p e below T20 (mkF m 74 #[iv p1, iv p2, iv r, iv (-1), rv w_LESS_EQUAL, .unset, .unset] []) _
                refine XS.iconst X20.here hx rfl (hb hby at_74) ?_
                show Go p e below T20 (mkF m 75 #[iv p1, iv p2, iv r, iv (-1), rv w_LESS_EQUAL, .unset, .unset] [(.int 3)]) _
                refine XS.istore X20.here hx rfl (hb hby at_75) rfl (l' := #[iv p1, iv p2, iv r, iv (-1), rv w_LESS_EQUAL, iv 3, .unset]) rfl ?_
                show Go p e below T20 (mkF m 77 #[iv p1, iv p2, iv r, iv (-1), rv w_LESS_EQUAL, iv 3, .unset] []) _
                refine XS.goto X20.here hx rfl (pc0 := 77) (pc' := 105) rfl (hb hby at_77) (by decide) (by decide) ?_
                show Go p e below T20 (mkF m 105 #[iv p1, iv p2, iv r, iv (-1), rv w_LESS_EQUAL, iv 3, .unset] []) _
                refine XS.iload X20.here hx rfl (hb hby at_105) rfl ?_
                show Go p e below T20 (mkF m 107 #[iv p1, iv p2, iv r, iv (-1), rv w_LESS_EQUAL, iv 3, .unset] [(.int 3)]) _
                refine XS.iloadN X20.here hx rfl (hb hby at_107) rfl ?_
                show Go p e below T20 (mkF m 108 #[iv p1, iv p2, iv r, iv (-1), rv w_LESS_EQUAL, iv 3, .unset] [(.int (-1)), (.int 3)]) _
                refine XS.iconst X20.here hx rfl (hb hby at_108) ?_
                show Go p e below T20 (mkF m 109 #[iv p1, iv p2, iv r, iv (-1), rv w_LESS_EQUAL, iv 3, .unset] [(.int 1), (.int (-1)), (.int 3)]) _
                refine XS.iadd X20.here hx rfl (hb hby at_109) rfl ?_
                show Go p e below T20 (mkF m 110 #[iv p1, iv p2, iv r, iv (-1), rv w_LESS_EQUAL, iv 3, .unset] [(.int 0), (.int 3)]) _
                refine XS.ishr X20.here hx rfl (hb hby at_110) rfl ?_
                show Go p e below T20 (mkF m 111 #[iv p1, iv p2, iv r, iv (-1), rv w_LESS_EQUAL, iv 3, .unset] [(.int ((3 : Int32) >>> ((0 : Int32) &&& 31)))]) _
                refine XS.iconst X20.here hx rfl (hb hby at_111) ?_
                show Go p e below T20 (mkF m 112 #[iv p1, iv p2, iv r, iv (-1), rv w_LESS_EQUAL, iv 3, .unset] [(.int 1), (.int ((3 : Int32) >>> ((0 : Int32) &&& 31)))]) _
                refine XS.iand X20.here hx rfl (hb hby at_112) rfl ?_
                show Go p e below T20 (mkF m 113 #[iv p1, iv p2, iv r, iv (-1), rv w_LESS_EQUAL, iv 3, .unset] [(.int (((3 : Int32) >>> ((0 : Int32) &&& 31)) &&& (1 : Int32)))]) _
                refine XS.ifNo X20.here hx rfl (hb hby at_113) rfl ((if0 _ _).trans (feq ((by decide) : ¬ ((((3 : Int32) >>> ((0 : Int32) &&& 31)) &&& (1 : Int32)) = (0 : Int32)))).1) ?_
                show Go p e below T20 (mkF m 116 #[iv p1, iv p2, iv r, iv (-1), rv w_LESS_EQUAL, iv 3, .unset] []) _
                refine XS.iconst X20.here hx rfl (hb hby at_116) ?_
                show Go p e below T20 (mkF m 117 #[iv p1, iv p2, iv r, iv (-1), rv w_LESS_EQUAL, iv 3, .unset] [(.int 1)]) _
                refine XS.goto X20.here hx rfl (pc0 := 117) (pc' := 121) rfl (hb hby at_117) (by decide) (by decide) ?_
                show Go p e below T20 (mkF m 121 #[iv p1, iv p2, iv r, iv (-1), rv w_LESS_EQUAL, iv 3, .unset] [(.int 1)]) _
                refine XS.istore X20.here hx rfl (hb hby at_121) rfl (l' := #[iv p1, iv p2, iv r, iv (-1), rv w_LESS_EQUAL, iv 3, iv 1]) rfl ?_
                show Go p e below T20 (mkF m 123 #[iv p1, iv p2, iv r, iv (-1), rv w_LESS_EQUAL, iv 3, iv 1] []) _
                refine XS.aload X20.here hx rfl (hb hby at_123) rfl rfl ?_
                show Go p e below T20 (mkF m 125 #[iv p1, iv p2, iv r, iv (-1), rv w_LESS_EQUAL, iv 3, iv 1] [(.ref w_LESS_EQUAL)]) _
                refine XS.iloadN X20.here hx rfl (hb hby at_125) rfl ?_
                show Go p e below T20 (mkF m 126 #[iv p1, iv p2, iv r, iv (-1), rv w_LESS_EQUAL, iv 3, iv 1] [(.int (-1)), (.ref w_LESS_EQUAL)]) _
                refine st21.trans ?_
                show Go p e below T21 (mkF m 129 #[iv p1, iv p2, iv r, iv (-1), rv w_LESS_EQUAL, iv 3, iv 1] [(.int 1)]) _
                refine XS.iload X21.here hx rfl (hb hby at_129) rfl ?_
                show Go p e below T21 (mkF m 131 #[iv p1, iv p2, iv r, iv (-1), rv w_LESS_EQUAL, iv 3, iv 1] [(.int 1), (.int 1)]) _
                refine XS.icmpNo X21.here hx rfl (hb hby at_131) rfl (teq ((by decide) : (1 : Int32) = (1 : Int32))).2 ?_
                show Go p e below T21 (mkF m 134 #[iv p1, iv p2, iv r, iv (-1), rv w_LESS_EQUAL, iv 3, iv 1] []) _
                refine XS.iconst X21.here hx rfl (hb hby at_134) ?_
                show Go p e below T21 (mkF m 135 #[iv p1, iv p2, iv r, iv (-1), rv w_LESS_EQUAL, iv 3, iv 1] [(.int 1)]) _
                refine XS.goto X21.here hx rfl (pc0 := 135) (pc' := 139) rfl (hb hby at_135) (by decide) (by decide) ?_
                show Go p e below T21 (mkF m 139 #[iv p1, iv p2, iv r, iv (-1), rv w_LESS_EQUAL, iv 3, iv 1] [(.int 1)]) _
                exact kt)
            obtain ⟨fs, hr, hrun, hended, hW, hsame⟩ := X21.leave (v := some (.int 1)) (fun h => by rw [Bd.returns] at h; cases h)
            refine ⟨_, _, pre22 _ ?_, hrun, hended, _, _, rfl, ?_, ⟨_, rfl⟩, hW, hsame.mono (by decide) (by decide)⟩
            · show Steps p.tables e below (T21.setTop (mkF m 139 #[iv p1, iv p2, iv r, iv (-1), rv w_LESS_EQUAL, iv 3, iv 1] [(.int 1)])) _
              exact retN X21 hx (t := .boolean) Bd.returns (by simp) (hb hby at_139) hr
            · show Q_rmL Z p1 p2 w_EQUAL w_NOT_EQUAL w_LESS w_LESS_EQUAL w_GREATER w_GREATER_EQUAL h0 n0 _ T21.heap _
              rw [e21q]
              exact ⟨rfl, N21⟩
          · have pre23 : ∀ t_, Go p e below s₁ (mkF m 82 #[iv p1, iv p2, iv r, iv (-1), .unset, .unset, .unset] [(.int 4), (.int r)]) t_ → Go p e below s₁ (entryFrame m #[(.int p1), (.int p2)] maxLocals) t_ := fun t_ kt => pre18 _ (by
                show Go p e below s₁ (mkF m 66 #[iv p1, iv p2, iv r, iv (-1), .unset, .unset, .unset] [(.int 3), (.int r)]) _
                refine XS.icmpYes X0.here hx rfl (pc0 := 66) (pc' := 80) rfl (hb hby at_66) rfl (feq hc66_19).2 (by decide) (by decide) ?_
                show Go p e below s₁ (mkF m 80 #[iv p1, iv p2, iv r, iv (-1), .unset, .unset, .unset] []) _
                refine XS.iloadN X0.here hx rfl (hb hby at_80) rfl ?_
                show Go p e below s₁ (mkF m 81 #[iv p1, iv p2, iv r, iv (-1), .unset, .unset, .unset] [(.int r)]) _
                refine XS.iconst X0.here hx rfl (hb hby at_81) ?_
                show Go p e below s₁ (mkF m 82 #[iv p1, iv p2, iv r, iv (-1), .unset, .unset, .unset] [(.int 4), (.int r)]) _
                exact kt)
            by_cases hc82_24 : r = (4 : Int32)
            · obtain ⟨T25, X25, e25, st25⟩ := getS2 X0 hx hZ hown (host := "") (Or.inl (hwi hw 20 rfl)) Via.refl e0 S_GREATER (g := (mkF m 85 #[iv p1, iv p2, iv r, iv (-1), .unset, .unset, .unset] [])) rfl (hb hby at_85)
              obtain ⟨cq26, kq26, q26a, q26b, q26c⟩ := isOf hZ e25 E_GREATER
              obtain ⟨_, _, ⟨T26, L26, k26, n26⟩, -, X26, ⟨Lc26, hQ26, l26, y26, z26⟩, st26⟩ := X25.virtualBack hx (y := (⟨"com/example/tandem_abstraction/tandemabstraction/cfa/Relation", "holds", "(I)Z"⟩ : MethodName)) (z := (⟨"com/example/tandem_abstraction/tandemabstraction/cfa/Relation", "holds", "(I)Z"⟩ : MethodName)) hown (mvT hZ (hwi hw 4 rfl)) (mvT hZ (hwi hw 5 rfl)) (notFace_of_selects (args := #[]) (mvT hZ (hwi hw 7 rfl))) (mvT hZ (hwi hw 7 rfl)) (mvT hZ (hwi hw 6 rfl)) (by decide) (backOf (W := 0) (rmH4 l Z a0 hw [] w_GREATER (-1 : Int32) h0 n0 Z0 E_GREATER F_GREATER) hZ (hwi hw 8 rfl) (hwi hw 2 rfl) (by decide) (by decide)) q26a q26c (g := (mkF m 126 #[iv p1, iv p2, iv r, iv (-1), rv w_GREATER, iv 4, iv 0] [(.int (-1)), (.ref w_GREATER)])) rfl (by rw [hml]; rfl) (Steps.refl _) (argsL := [(.int (-1))]) (rest := []) (lenOf pd_0 rfl) rfl (by show 2 * 0 + _ ≤ _; exact Nat.le_of_eq rfl) (hb hby at_126) (fun _ _ => ⟨rfl, e25, (by decide : 0 + 0 ≤ _), (by decide : 0 + 0 ≤ _)⟩)
              dsimp only [Pt.U, Pt.locs, Pt.cells, Pt.slots] at X26 l26 y26 z26 st26 hQ26
              subst l26 y26 z26
              obtain ⟨hv26, N26q, e26q⟩ := hQ26
              have N26 := Fr.app N0 N26q
              rw [show (if 0 < (-1 : Int32) then (1 : Int32) else 0) = 0 from by decide] at hv26
              subst hv26
              have pre27 : ∀ t_, Go p e below T26 (mkF m 139 #[iv p1, iv p2, iv r, iv (-1), rv w_GREATER, iv 4, iv 0] [(.int 1)]) t_ → Go p e below s₁ (entryFrame m #[(.int p1), (.int p2)] maxLocals) t_ := fun t_ kt => pre23 _ (by
                  show Go p e below s₁ (mkF m 82 #[iv p1, iv p2, iv r, iv (-1), .unset, .unset, .unset] [(.int 4), (.int r)]) _
                  refine XS.icmpNo X0.here hx rfl (hb hby at_82) rfl (teq hc82_24).2 ?_
                  show Go p e below s₁ (mkF m 85 #[iv p1, iv p2, iv r, iv (-1), .unset, .unset, .unset] []) _
                  refine st25 _ ?_
                  show Go p e below T25 (mkF m 88 #[iv p1, iv p2, iv r, iv (-1), .unset, .unset, .unset] [(.ref w_GREATER)]) _
                  refine XS.astore X25.here hx rfl (hb hby at_88) rfl rfl (l' := #[iv p1, iv p2, iv r, iv (-1), rv w_GREATER, .unset, .unset]) rfl ?_
                  show Go p e below T25 (mkF m 90 #[iv p1, iv p2, iv r, iv (-1), rv w_GREATER, .unset, .unset] []) _
                  refine XS.iconst X25.here hx rfl (hb hby at_90) ?_
                  show Go p e below T25 (mkF m 91 #[iv p1, iv p2, iv r, iv (-1), rv w_GREATER, .unset, .unset] [(.int 4)]) _
                  refine XS.istore X25.here hx rfl (hb hby at_91) rfl (l' := #[iv p1, iv p2, iv r, iv (-1), rv w_GREATER, iv 4, .unset]) rfl ?_
                  show Go p e below T25 (mkF m 93 #[iv p1, iv p2, iv r, iv (-1), rv w_GREATER, iv 4, .unset] []) _
                  refine XS.goto X25.here hx rfl (pc0 := 93) (pc' := 105) rfl (hb hby at_93) (by decide) (by decide) ?_
                  show Go p e below T25 (mkF m 105 #[iv p1, iv p2, iv r, iv (-1), rv w_GREATER, iv 4, .unset] []) _
                  refine XS.iload X25.here hx rfl (hb hby at_105) rfl ?_
                  show Go p e below T25 (mkF m 107 #[iv p1, iv p2, iv r, iv (-1), rv w_GREATER, iv 4, .unset] [(.int 4)]) _
                  refine XS.iloadN X25.here hx rfl (hb hby at_107) rfl ?_
                  show Go p e below T25 (mkF m 108 #[iv p1, iv p2, iv r, iv (-1), rv w_GREATER, iv 4, .unset] [(.int (-1)), (.int 4)]) _
                  refine XS.iconst X25.here hx rfl (hb hby at_108) ?_
                  show Go p e below T25 (mkF m 109 #[iv p1, iv p2, iv r, iv (-1), rv w_GREATER, iv 4, .unset] [(.int 1), (.int (-1)), (.int 4)]) _
                  refine XS.iadd X25.here hx rfl (hb hby at_109) rfl ?_
                  show Go p e below T25 (mkF m 110 #[iv p1, iv p2, iv r, iv (-1), rv w_GREATER, iv 4, .unset] [(.int 0), (.int 4)]) _
                  refine XS.ishr X25.here hx rfl (hb hby at_110) rfl ?_
                  show Go p e below T25 (mkF m 111 #[iv p1, iv p2, iv r, iv (-1), rv w_GREATER, iv 4, .unset] [(.int ((4 : Int32) >>> ((0 : Int32) &&& 31)))]) _
                  refine XS.iconst X25.here hx rfl (hb hby at_111) ?_
                  show Go p e below T25 (mkF m 112 #[iv p1, iv p2, iv r, iv (-1), rv w_GREATER, iv 4, .unset] [(.int 1), (.int ((4 : Int32) >>> ((0 : Int32) &&& 31)))]) _
                  refine XS.iand X25.here hx rfl (hb hby at_112) rfl ?_
                  show Go p e below T25 (mkF m 113 #[iv p1, iv p2, iv r, iv (-1), rv w_GREATER, iv 4, .unset] [(.int (((4 : Int32) >>> ((0 : Int32) &&& 31)) &&& (1 : Int32)))]) _
                  refine XS.ifYes X25.here hx rfl (pc0 := 113) (pc' := 120) rfl (hb hby at_113) rfl ((if0 _ _).trans (teq ((by decide) : (((4 : Int32) >>> ((0 : Int32) &&& 31)) &&& (1 : Int32)) = (0 : Int32))).1) (by decide) (by decide) ?_
                  show Go p e below T25 (mkF m 120 #[iv p1, iv p2, iv r, iv (-1), rv w_GREATER, iv 4, .unset] []) _
                  refine XS.iconst X25.here hx rfl (hb hby at_120) ?_
                  show Go p e below T25 (mkF m 121 #[iv p1, iv p2, iv r, iv (-1), rv w_GREATER, iv 4, .unset] [(.int 0)]) _
                  refine XS.istore X25.here hx rfl (hb hby at_121) rfl (l' := #[iv p1, iv p2, iv r, iv (-1), rv w_GREATER, iv 4, iv 0]) rfl ?_
                  show Go p e below T25 (mkF m 123 #[iv p1, iv p2, iv r, iv (-1), rv w_GREATER, iv 4, iv 0] []) _
                  refine XS.aload X25.here hx rfl (hb hby at_123) rfl rfl ?_
                  show Go p e below T25 (mkF m 125 #[iv p1, iv p2, iv r, iv (-1), rv w_GREATER, iv 4, iv 0] [(.ref w_GREATER)]) _
                  refine XS.iloadN X25.here hx rfl (hb hby at_125) rfl ?_
                  show Go p e below T25 (mkF m 126 #[iv p1, iv p2, iv r, iv (-1), rv w_GREATER, iv 4, iv 0] [(.int (-1)), (.ref w_GREATER)]) _
                  refine st26.trans ?_
                  show Go p e below T26 (mkF m 129 #[iv p1, iv p2, iv r, iv (-1), rv w_GREATER, iv 4, iv 0] [(.int 0)]) _
                  refine XS.iload X26.here hx rfl (hb hby at_129) rfl ?_
                  show Go p e below T26 (mkF m 131 #[iv p1, iv p2, iv r, iv (-1), rv w_GREATER, iv 4, iv 0] [(.int 0), (.int 0)]) _
                  refine XS.icmpNo X26.here hx rfl (hb hby at_131) rfl (teq ((by decide) : (0 : Int32) = (0 : Int32))).2 ?_
                  show Go p e below T26 (mkF m 134 #[iv p1, iv p2, iv r, iv (-1), rv w_GREATER, iv 4, iv 0] []) _
                  refine XS.iconst X26.here hx rfl (hb hby at_134) ?_
                  show Go p e below T26 (mkF m 135 #[iv p1, iv p2, iv r, iv (-1), rv w_GREATER, iv 4, iv 0] [(.int 1)]) _
                  refine XS.goto X26.here hx rfl (pc0 := 135) (pc' := 139) rfl (hb hby at_135) (by decide) (by decide) ?_
                  show Go p e below T26 (mkF m 139 #[iv p1, iv p2, iv r, iv (-1), rv w_GREATER, iv 4, iv 0] [(.int 1)]) _
                  exact kt)
              obtain ⟨fs, hr, hrun, hended, hW, hsame⟩ := X26.leave (v := some (.int 1)) (fun h => by rw [Bd.returns] at h; cases h)
              refine ⟨_, _, pre27 _ ?_, hrun, hended, _, _, rfl, ?_, ⟨_, rfl⟩, hW, hsame.mono (by decide) (by decide)⟩
              · show Steps p.tables e below (T26.setTop (mkF m 139 #[iv p1, iv p2, iv r, iv (-1), rv w_GREATER, iv 4, iv 0] [(.int 1)])) _
                exact retN X26 hx (t := .boolean) Bd.returns (by simp) (hb hby at_139) hr
              · show Q_rmL Z p1 p2 w_EQUAL w_NOT_EQUAL w_LESS w_LESS_EQUAL w_GREATER w_GREATER_EQUAL h0 n0 _ T26.heap _
                rw [e26q]
                exact ⟨rfl, N26⟩
            · obtain ⟨T28, X28, e28, st28⟩ := getS2 X0 hx hZ hown (host := "") (Or.inl (hwi hw 24 rfl)) Via.refl e0 S_GREATER_EQUAL (g := (mkF m 96 #[iv p1, iv p2, iv r, iv (-1), .unset, .unset, .unset] [])) rfl (hb hby at_96)
              obtain ⟨cq29, kq29, q29a, q29b, q29c⟩ := isOf hZ e28 E_GREATER_EQUAL
              obtain ⟨_, _, ⟨T29, L29, k29, n29⟩, -, X29, ⟨Lc29, hQ29, l29, y29, z29⟩, st29⟩ := X28.virtualBack hx (y := (⟨"com/example/tandem_abstraction/tandemabstraction/cfa/Relation", "holds", "(I)Z"⟩ : MethodName)) (z := (⟨"com/example/tandem_abstraction/tandemabstraction/cfa/Relation", "holds", "(I)Z"⟩ : MethodName)) hown (mvT hZ (hwi hw 4 rfl)) (mvT hZ (hwi hw 5 rfl)) (notFace_of_selects (args := #[]) (mvT hZ (hwi hw 7 rfl))) (mvT hZ (hwi hw 7 rfl)) (mvT hZ (hwi hw 6 rfl)) (by decide) (backOf (W := 0) (rmH5 l Z a0 hw [] w_GREATER_EQUAL (-1 : Int32) h0 n0 Z0 E_GREATER_EQUAL F_GREATER_EQUAL) hZ (hwi hw 8 rfl) (hwi hw 2 rfl) (by decide) (by decide)) q29a q29c (g := (mkF m 126 #[iv p1, iv p2, iv r, iv (-1), rv w_GREATER_EQUAL, iv 6, iv 0] [(.int (-1)), (.ref w_GREATER_EQUAL)])) rfl (by rw [hml]; rfl) (Steps.refl _) (argsL := [(.int (-1))]) (rest := []) (lenOf pd_0 rfl) rfl (by show 2 * 0 + _ ≤ _; exact Nat.le_of_eq rfl) (hb hby at_126) (fun _ _ => ⟨rfl, e28, (by decide : 0 + 0 ≤ _), (by decide : 0 + 0 ≤ _)⟩)
              dsimp only [Pt.U, Pt.locs, Pt.cells, Pt.slots] at X29 l29 y29 z29 st29 hQ29
              subst l29 y29 z29
              obtain ⟨hv29, N29q, e29q⟩ := hQ29
              have N29 := Fr.app N0 N29q
              rw [show (if ¬ (-1 : Int32) < 0 then (1 : Int32) else 0) = 0 from by decide] at hv29
              subst hv29
              have pre30 : ∀ t_, Go p e below T29 (mkF m 139 #[iv p1, iv p2, iv r, iv (-1), rv w_GREATER_EQUAL, iv 6, iv 0] [(.int 1)]) t_ → Go p e below s₁ (entryFrame m #[(.int p1), (.int p2)] maxLocals) t_ := fun t_ kt => pre23 _ (by
                  show Go p e below s₁ (mkF m 82 #[iv p1, iv p2, iv r, iv (-1), .unset, .unset, .unset] [(.int 4), (.int r)]) _
                  refine XS.icmpYes X0.here hx rfl (pc0 := 82) (pc' := 96) rfl (hb hby at_82) rfl (feq hc82_24).2 (by decide) (by decide) ?_
                  show Go p e below s₁ (mkF m 96 #[iv p1, iv p2, iv r, iv (-1), .unset, .unset, .unset] []) _
                  refine st28 _ ?_
                  show Go p e below T28 (mkF m 99 #[iv p1, iv p2, iv r, iv (-1), .unset, .unset, .unset] [(.ref w_GREATER_EQUAL)]) _
                  refine XS.astore X28.here hx rfl (hb hby at_99) rfl rfl (l' := #[iv p1, iv p2, iv r, iv (-1), rv w_GREATER_EQUAL, .unset, .unset]) rfl ?_
                  show Go p e below T28 (mkF m 101 #[iv p1, iv p2, iv r, iv (-1), rv w_GREATER_EQUAL, .unset, .unset] []) _
                  refine XS.bipush X28.here hx rfl (hb hby at_101) ?_
                  show Go p e below T28 (mkF m 103 #[iv p1, iv p2, iv r, iv (-1), rv w_GREATER_EQUAL, .unset, .unset] [(.int 6)]) _
                  refine XS.istore X28.here hx rfl (hb hby at_103) rfl (l' := #[iv p1, iv p2, iv r, iv (-1), rv w_GREATER_EQUAL, iv 6, .unset]) rfl ?_
                  show Go p e below T28 (mkF m 105 #[iv p1, iv p2, iv r, iv (-1), rv w_GREATER_EQUAL, iv 6, .unset] []) _
                  refine XS.iload X28.here hx rfl (hb hby at_105) rfl ?_
                  show Go p e below T28 (mkF m 107 #[iv p1, iv p2, iv r, iv (-1), rv w_GREATER_EQUAL, iv 6, .unset] [(.int 6)]) _
                  refine XS.iloadN X28.here hx rfl (hb hby at_107) rfl ?_
                  show Go p e below T28 (mkF m 108 #[iv p1, iv p2, iv r, iv (-1), rv w_GREATER_EQUAL, iv 6, .unset] [(.int (-1)), (.int 6)]) _
                  refine XS.iconst X28.here hx rfl (hb hby at_108) ?_
                  show Go p e below T28 (mkF m 109 #[iv p1, iv p2, iv r, iv (-1), rv w_GREATER_EQUAL, iv 6, .unset] [(.int 1), (.int (-1)), (.int 6)]) _
                  refine XS.iadd X28.here hx rfl (hb hby at_109) rfl ?_
                  show Go p e below T28 (mkF m 110 #[iv p1, iv p2, iv r, iv (-1), rv w_GREATER_EQUAL, iv 6, .unset] [(.int 0), (.int 6)]) _
                  refine XS.ishr X28.here hx rfl (hb hby at_110) rfl ?_
                  show Go p e below T28 (mkF m 111 #[iv p1, iv p2, iv r, iv (-1), rv w_GREATER_EQUAL, iv 6, .unset] [(.int ((6 : Int32) >>> ((0 : Int32) &&& 31)))]) _
                  refine XS.iconst X28.here hx rfl (hb hby at_111) ?_
                  show Go p e below T28 (mkF m 112 #[iv p1, iv p2, iv r, iv (-1), rv w_GREATER_EQUAL, iv 6, .unset] [(.int 1), (.int ((6 : Int32) >>> ((0 : Int32) &&& 31)))]) _
                  refine XS.iand X28.here hx rfl (hb hby at_112) rfl ?_
                  show Go p e below T28 (mkF m 113 #[iv p1, iv p2, iv r, iv (-1), rv w_GREATER_EQUAL, iv 6, .unset] [(.int (((6 : Int32) >>> ((0 : Int32) &&& 31)) &&& (1 : Int32)))]) _
                  refine XS.ifYes X28.here hx rfl (pc0 := 113) (pc' := 120) rfl (hb hby at_113) rfl ((if0 _ _).trans (teq ((by decide) : (((6 : Int32) >>> ((0 : Int32) &&& 31)) &&& (1 : Int32)) = (0 : Int32))).1) (by decide) (by decide) ?_
                  show Go p e below T28 (mkF m 120 #[iv p1, iv p2, iv r, iv (-1), rv w_GREATER_EQUAL, iv 6, .unset] []) _
                  refine XS.iconst X28.here hx rfl (hb hby at_120) ?_
                  show Go p e below T28 (mkF m 121 #[iv p1, iv p2, iv r, iv (-1), rv w_GREATER_EQUAL, iv 6, .unset] [(.int 0)]) _
                  refine XS.istore X28.here hx rfl (hb hby at_121) rfl (l' := #[iv p1, iv p2, iv r, iv (-1), rv w_GREATER_EQUAL, iv 6, iv 0]) rfl ?_
                  show Go p e below T28 (mkF m 123 #[iv p1, iv p2, iv r, iv (-1), rv w_GREATER_EQUAL, iv 6, iv 0] []) _
                  refine XS.aload X28.here hx rfl (hb hby at_123) rfl rfl ?_
                  show Go p e below T28 (mkF m 125 #[iv p1, iv p2, iv r, iv (-1), rv w_GREATER_EQUAL, iv 6, iv 0] [(.ref w_GREATER_EQUAL)]) _
                  refine XS.iloadN X28.here hx rfl (hb hby at_125) rfl ?_
                  show Go p e below T28 (mkF m 126 #[iv p1, iv p2, iv r, iv (-1), rv w_GREATER_EQUAL, iv 6, iv 0] [(.int (-1)), (.ref w_GREATER_EQUAL)]) _
                  refine st29.trans ?_
                  show Go p e below T29 (mkF m 129 #[iv p1, iv p2, iv r, iv (-1), rv w_GREATER_EQUAL, iv 6, iv 0] [(.int 0)]) _
                  refine XS.iload X29.here hx rfl (hb hby at_129) rfl ?_
                  show Go p e below T29 (mkF m 131 #[iv p1, iv p2, iv r, iv (-1), rv w_GREATER_EQUAL, iv 6, iv 0] [(.int 0), (.int 0)]) _
                  refine XS.icmpNo X29.here hx rfl (hb hby at_131) rfl (teq ((by decide) : (0 : Int32) = (0 : Int32))).2 ?_
                  show Go p e below T29 (mkF m 134 #[iv p1, iv p2, iv r, iv (-1), rv w_GREATER_EQUAL, iv 6, iv 0] []) _
                  refine XS.iconst X29.here hx rfl (hb hby at_134) ?_
                  show Go p e below T29 (mkF m 135 #[iv p1, iv p2, iv r, iv (-1), rv w_GREATER_EQUAL, iv 6, iv 0] [(.int 1)]) _
                  refine XS.goto X29.here hx rfl (pc0 := 135) (pc' := 139) rfl (hb hby at_135) (by decide) (by decide) ?_
                  show Go p e below T29 (mkF m 139 #[iv p1, iv p2, iv r, iv (-1), rv w_GREATER_EQUAL, iv 6, iv 0] [(.int 1)]) _
                  exact kt)
              obtain ⟨fs, hr, hrun, hended, hW, hsame⟩ := X29.leave (v := some (.int 1)) (fun h => by rw [Bd.returns] at h; cases h)
              refine ⟨_, _, pre30 _ ?_, hrun, hended, _, _, rfl, ?_, ⟨_, rfl⟩, hW, hsame.mono (by decide) (by decide)⟩
              · show Steps p.tables e below (T29.setTop (mkF m 139 #[iv p1, iv p2, iv r, iv (-1), rv w_GREATER_EQUAL, iv 6, iv 0] [(.int 1)])) _
                exact retN X29 hx (t := .boolean) Bd.returns (by simp) (hb hby at_139) hr
              · show Q_rmL Z p1 p2 w_EQUAL w_NOT_EQUAL w_LESS w_LESS_EQUAL w_GREATER w_GREATER_EQUAL h0 n0 _ T29.heap _
                rw [e29q]
                exact ⟨rfl, N29⟩
  · have pre31 : ∀ t_, Go p e below s₁ (mkF m 18 #[iv p1, iv p2, iv r, iv 0, .unset, .unset, .unset] [(.int r)]) t_ → Go p e below s₁ (entryFrame m #[(.int p1), (.int p2)] maxLocals) t_ := fun t_ kt => pre2 _ (by
        show Go p e below s₁ (mkF m 17 #[iv p1, iv p2, iv r, iv 0, .unset, .unset, .unset] []) _
        refine XS.iloadN X0.here hx rfl (hb hby at_17) rfl ?_
        show Go p e below s₁ (mkF m 18 #[iv p1, iv p2, iv r, iv 0, .unset, .unset, .unset] [(.int r)]) _
        exact kt)
    by_cases hc18_32 : r = (0 : Int32)
    · obtain ⟨T33, X33, e33, st33⟩ := getS2 X0 hx hZ hown (host := "") (Or.inl (hwi hw 1 rfl)) Via.refl e0 S_EQUAL (g := (mkF m 21 #[iv p1, iv p2, iv r, iv 0, .unset, .unset, .unset] [])) rfl (hb hby at_21)
      obtain ⟨cq34, kq34, q34a, q34b, q34c⟩ := isOf hZ e33 E_EQUAL
      obtain ⟨_, _, ⟨T34, L34, k34, n34⟩, -, X34, ⟨Lc34, hQ34, l34, y34, z34⟩, st34⟩ := X33.virtualBack hx (y := (⟨"com/example/tandem_abstraction/tandemabstraction/cfa/Relation", "holds", "(I)Z"⟩ : MethodName)) (z := (⟨"com/example/tandem_abstraction/tandemabstraction/cfa/Relation", "holds", "(I)Z"⟩ : MethodName)) hown (mvT hZ (hwi hw 4 rfl)) (mvT hZ (hwi hw 5 rfl)) (notFace_of_selects (args := #[]) (mvT hZ (hwi hw 7 rfl))) (mvT hZ (hwi hw 7 rfl)) (mvT hZ (hwi hw 6 rfl)) (by decide) (backOf (W := 0) (rmH0 l Z a0 hw [] w_EQUAL (0 : Int32) h0 n0 Z0 E_EQUAL F_EQUAL) hZ (hwi hw 8 rfl) (hwi hw 2 rfl) (by decide) (by decide)) q34a q34c (g := (mkF m 126 #[iv p1, iv p2, iv r, iv 0, rv w_EQUAL, iv 2, iv 1] [(.int 0), (.ref w_EQUAL)])) rfl (by rw [hml]; rfl) (Steps.refl _) (argsL := [(.int 0)]) (rest := []) (lenOf pd_0 rfl) rfl (by show 2 * 0 + _ ≤ _; exact Nat.le_of_eq rfl) (hb hby at_126) (fun _ _ => ⟨rfl, e33, (by decide : 0 + 0 ≤ _), (by decide : 0 + 0 ≤ _)⟩)
      dsimp only [Pt.U, Pt.locs, Pt.cells, Pt.slots] at X34 l34 y34 z34 st34 hQ34
      subst l34 y34 z34
      obtain ⟨hv34, N34q, e34q⟩ := hQ34
      have N34 := Fr.app N0 N34q
      rw [show (if (0 : Int32) = 0 then (1 : Int32) else 0) = 1 from by decide] at hv34
      subst hv34
      have pre35 : ∀ t_, Go p e below T34 (mkF m 139 #[iv p1, iv p2, iv r, iv 0, rv w_EQUAL, iv 2, iv 1] [(.int 1)]) t_ → Go p e below s₁ (entryFrame m #[(.int p1), (.int p2)] maxLocals) t_ := fun t_ kt => pre31 _ (by
          show Go p e below s₁ (mkF m 18 #[iv p1, iv p2, iv r, iv 0, .unset, .unset, .unset] [(.int r)]) _
          refine XS.ifNo X0.here hx rfl (hb hby at_18) rfl ((if0 _ _).trans (teq hc18_32).2) ?_
          show Go p e below s₁ (mkF m 21 #[iv p1, iv p2, iv r, iv 0, .unset, .unset, .unset] []) _
          refine st33 _ ?_
          show Go p e below T33 (mkF m 24 #[iv p1, iv p2, iv r, iv 0, .unset, .unset, .unset] [(.ref w_EQUAL)]) _
          refine XS.astore X33.here hx rfl (hb hby at_24) rfl rfl (l' := #[iv p1, iv p2, iv r, iv 0, rv w_EQUAL, .unset, .unset]) rfl ?_
          show Go p e below T33 (mkF m 26 #[iv p1, iv p2, iv r, iv 0, rv w_EQUAL, .unset, .unset] []) _
          refine XS.iconst X33.here hx rfl (hb hby at_26) ?_
          show Go p e below T33 (mkF m 27 #[iv p1, iv p2, iv r, iv 0, rv w_EQUAL, .unset, .unset] [(.int 2)]) _
          refine XS.istore X33.here hx rfl (hb hby at_27) rfl (l' := #[iv p1, iv p2, iv r, iv 0, rv w_EQUAL, iv 2, .unset]) rfl ?_
          show Go p e below T33 (mkF m 29 #[iv p1, iv p2, iv r, iv 0, rv w_EQUAL, iv 2, .unset] []) _
          refine XS.goto X33.here hx rfl (pc0 := 29) (pc' := 105) rfl (hb hby at_29) (by decide) (by decide) ?_
          show Go p e below T33 (mkF m 105 #[iv p1, iv p2, iv r, iv 0, rv w_EQUAL, iv 2, .unset] []) _
          refine XS.iload X33.here hx rfl (hb hby at_105) rfl ?_
          show Go p e below T33 (mkF m 107 #[iv p1, iv p2, iv r, iv 0, rv w_EQUAL, iv 2, .unset] [(.int 2)]) _
          refine XS.iloadN X33.here hx rfl (hb hby at_107) rfl ?_
          show Go p e below T33 (mkF m 108 #[iv p1, iv p2, iv r, iv 0, rv w_EQUAL, iv 2, .unset] [(.int 0), (.int 2)]) _
          refine XS.iconst X33.here hx rfl (hb hby at_108) ?_
          show Go p e below T33 (mkF m 109 #[iv p1, iv p2, iv r, iv 0, rv w_EQUAL, iv 2, .unset] [(.int 1), (.int 0), (.int 2)]) _
          refine XS.iadd X33.here hx rfl (hb hby at_109) rfl ?_
          show Go p e below T33 (mkF m 110 #[iv p1, iv p2, iv r, iv 0, rv w_EQUAL, iv 2, .unset] [(.int 1), (.int 2)]) _
          refine XS.ishr X33.here hx rfl (hb hby at_110) rfl ?_
          show Go p e below T33 (mkF m 111 #[iv p1, iv p2, iv r, iv 0, rv w_EQUAL, iv 2, .unset] [(.int ((2 : Int32) >>> ((1 : Int32) &&& 31)))]) _
          refine XS.iconst X33.here hx rfl (hb hby at_111) ?_
          show Go p e below T33 (mkF m 112 #[iv p1, iv p2, iv r, iv 0, rv w_EQUAL, iv 2, .unset] [(.int 1), (.int ((2 : Int32) >>> ((1 : Int32) &&& 31)))]) _
          refine XS.iand X33.here hx rfl (hb hby at_112) rfl ?_
          show Go p e below T33 (mkF m 113 #[iv p1, iv p2, iv r, iv 0, rv w_EQUAL, iv 2, .unset] [(.int (((2 : Int32) >>> ((1 : Int32) &&& 31)) &&& (1 : Int32)))]) _
          refine XS.ifNo X33.here hx rfl (hb hby at_113) rfl ((if0 _ _).trans (feq ((by decide) : ¬ ((((2 : Int32) >>> ((1 : Int32) &&& 31)) &&& (1 : Int32)) = (0 : Int32)))).1) ?_
          show Go p e below T33 (mkF m 116 #[iv p1, iv p2, iv r, iv 0, rv w_EQUAL, iv 2, .unset] []) _
          refine XS.iconst X33.here hx rfl (hb hby at_116) ?_
          show Go p e below T33 (mkF m 117 #[iv p1, iv p2, iv r, iv 0, rv w_EQUAL, iv 2, .unset] [(.int 1)]) _
          refine XS.goto X33.here hx rfl (pc0 := 117) (pc' := 121) rfl (hb hby at_117) (by decide) (by decide) ?_
          show Go p e below T33 (mkF m 121 #[iv p1, iv p2, iv r, iv 0, rv w_EQUAL, iv 2, .unset] [(.int 1)]) _
          refine XS.istore X33.here hx rfl (hb hby at_121) rfl (l' := #[iv p1, iv p2, iv r, iv 0, rv w_EQUAL, iv 2, iv 1]) rfl ?_
          show Go p e below T33 (mkF m 123 #[iv p1, iv p2, iv r, iv 0, rv w_EQUAL, iv 2, iv 1] []) _
          refine XS.aload X33.here hx rfl (hb hby at_123) rfl rfl ?_
          show Go p e below T33 (mkF m 125 #[iv p1, iv p2, iv r, iv 0, rv w_EQUAL, iv 2, iv 1] [(.ref w_EQUAL)]) _
          refine XS.iloadN X33.here hx rfl (hb hby at_125) rfl ?_
          show Go p e below T33 (mkF m 126 #[iv p1, iv p2, iv r, iv 0, rv w_EQUAL, iv 2, iv 1] [(.int 0), (.ref w_EQUAL)]) _
          refine st34.trans ?_
          show Go p e below T34 (mkF m 129 #[iv p1, iv p2, iv r, iv 0, rv w_EQUAL, iv 2, iv 1] [(.int 1)]) _
          refine XS.iload X34.here hx rfl (hb hby at_129) rfl ?_
          show Go p e below T34 (mkF m 131 #[iv p1, iv p2, iv r, iv 0, rv w_EQUAL, iv 2, iv 1] [(.int 1), (.int 1)]) _
          refine XS.icmpNo X34.here hx rfl (hb hby at_131) rfl (teq ((by decide) : (1 : Int32) = (1 : Int32))).2 ?_
          show Go p e below T34 (mkF m 134 #[iv p1, iv p2, iv r, iv 0, rv w_EQUAL, iv 2, iv 1] []) _
          refine XS.iconst X34.here hx rfl (hb hby at_134) ?_
          show Go p e below T34 (mkF m 135 #[iv p1, iv p2, iv r, iv 0, rv w_EQUAL, iv 2, iv 1] [(.int 1)]) _
          refine XS.goto X34.here hx rfl (pc0 := 135) (pc' := 139) rfl (hb hby at_135) (by decide) (by decide) ?_
          show Go p e below T34 (mkF m 139 #[iv p1, iv p2, iv r, iv 0, rv w_EQUAL, iv 2, iv 1] [(.int 1)]) _
          exact kt)
      obtain ⟨fs, hr, hrun, hended, hW, hsame⟩ := X34.leave (v := some (.int 1)) (fun h => by rw [Bd.returns] at h; cases h)
      refine ⟨_, _, pre35 _ ?_, hrun, hended, _, _, rfl, ?_, ⟨_, rfl⟩, hW, hsame.mono (by decide) (by decide)⟩
      · show Steps p.tables e below (T34.setTop (mkF m 139 #[iv p1, iv p2, iv r, iv 0, rv w_EQUAL, iv 2, iv 1] [(.int 1)])) _
        exact retN X34 hx (t := .boolean) Bd.returns (by simp) (hb hby at_139) hr
      · show Q_rmL Z p1 p2 w_EQUAL w_NOT_EQUAL w_LESS w_LESS_EQUAL w_GREATER w_GREATER_EQUAL h0 n0 _ T34.heap _
        rw [e34q]
        exact ⟨rfl, N34⟩
    · have pre36 : ∀ t_, Go p e below s₁ (mkF m 34 #[iv p1, iv p2, iv r, iv 0, .unset, .unset, .unset] [(.int 1), (.int r)]) t_ → Go p e below s₁ (entryFrame m #[(.int p1), (.int p2)] maxLocals) t_ := fun t_ kt => pre31 _ (by
          show Go p e below s₁ (mkF m 18 #[iv p1, iv p2, iv r, iv 0, .unset, .unset, .unset] [(.int r)]) _
          refine XS.ifYes X0.here hx rfl (pc0 := 18) (pc' := 32) rfl (hb hby at_18) rfl ((if0 _ _).trans (feq hc18_32).2) (by decide) (by decide) ?_
          show Go p e below s₁ (mkF m 32 #[iv p1, iv p2, iv r, iv 0, .unset, .unset, .unset] []) _
          refine XS.iloadN X0.here hx rfl (hb hby at_32) rfl ?_
          show Go p e below s₁ (mkF m 33 #[iv p1, iv p2, iv r, iv 0, .unset, .unset, .unset] [(.int r)]) _
          refine XS.iconst X0.here hx rfl (hb hby at_33) ?_
          show Go p e below s₁ (mkF m 34 #[iv p1, iv p2, iv r, iv 0, .unset, .unset, .unset] [(.int 1), (.int r)]) _
          exact kt)
      by_cases hc34_37 : r = (1 : Int32)
      · obtain ⟨T38, X38, e38, st38⟩ := getS2 X0 hx hZ hown (host := "") (Or.inl (hwi hw 22 rfl)) Via.refl e0 S_NOT_EQUAL (g := (mkF m 37 #[iv p1, iv p2, iv r, iv 0, .unset, .unset, .unset] [])) rfl (hb hby at_37)
        obtain ⟨cq39, kq39, q39a, q39b, q39c⟩ := isOf hZ e38 E_NOT_EQUAL
        obtain ⟨_, _, ⟨T39, L39, k39, n39⟩, -, X39, ⟨Lc39, hQ39, l39, y39, z39⟩, st39⟩ := X38.virtualBack hx (y := (⟨"com/example/tandem_abstraction/tandemabstraction/cfa/Relation", "holds", "(I)Z"⟩ : MethodName)) (z := (⟨"com/example/tandem_abstraction/tandemabstraction/cfa/Relation", "holds", "(I)Z"⟩ : MethodName)) hown (mvT hZ (hwi hw 4 rfl)) (mvT hZ (hwi hw 5 rfl)) (notFace_of_selects (args := #[]) (mvT hZ (hwi hw 7 rfl))) (mvT hZ (hwi hw 7 rfl)) (mvT hZ (hwi hw 6 rfl)) (by decide) (backOf (W := 0) (rmH1 l Z a0 hw [] w_NOT_EQUAL (0 : Int32) h0 n0 Z0 E_NOT_EQUAL F_NOT_EQUAL) hZ (hwi hw 8 rfl) (hwi hw 2 rfl) (by decide) (by decide)) q39a q39c (g := (mkF m 126 #[iv p1, iv p2, iv r, iv 0, rv w_NOT_EQUAL, iv 5, iv 0] [(.int 0), (.ref w_NOT_EQUAL)])) rfl (by rw [hml]; rfl) (Steps.refl _) (argsL := [(.int 0)]) (rest := []) (lenOf pd_0 rfl) rfl (by show 2 * 0 + _ ≤ _; exact Nat.le_of_eq rfl) (hb hby at_126) (fun _ _ => ⟨rfl, e38, (by decide : 0 + 0 ≤ _), (by decide : 0 + 0 ≤ _)⟩)
        dsimp only [Pt.U, Pt.locs, Pt.cells, Pt.slots] at X39 l39 y39 z39 st39 hQ39
        subst l39 y39 z39
        obtain ⟨hv39, N39q, e39q⟩ := hQ39
        have N39 := Fr.app N0 N39q
        rw [show (if ¬ (0 : Int32) = 0 then (1 : Int32) else 0) = 0 from by decide] at hv39
        subst hv39
        have pre40 : ∀ t_, Go p e below T39 (mkF m 139 #[iv p1, iv p2, iv r, iv 0, rv w_NOT_EQUAL, iv 5, iv 0] [(.int 1)]) t_ → Go p e below s₁ (entryFrame m #[(.int p1), (.int p2)] maxLocals) t_ := fun t_ kt => pre36 _ (by
            show Go p e below s₁ (mkF m 34 #[iv p1, iv p2, iv r, iv 0, .unset, .unset, .unset] [(.int 1), (.int r)]) _
            refine XS.icmpNo X0.here hx rfl (hb hby at_34) rfl (teq hc34_37).2 ?_
            show Go p e below s₁ (mkF m 37 #[iv p1, iv p2, iv r, iv 0, .unset, .unset, .unset] []) _
            refine st38 _ ?_
            show Go p e below T38 (mkF m 40 #[iv p1, iv p2, iv r, iv 0, .unset, .unset, .unset] [(.ref w_NOT_EQUAL)]) _
            refine XS.astore X38.here hx rfl (hb hby at_40) rfl rfl (l' := #[iv p1, iv p2, iv r, iv 0, rv w_NOT_EQUAL, .unset, .unset]) rfl ?_
            show Go p e below T38 (mkF m 42 #[iv p1, iv p2, iv r, iv 0, rv w_NOT_EQUAL, .unset, .unset] []) _
            refine XS.iconst X38.here hx rfl (hb hby at_42) ?_
            show Go p e below T38 (mkF m 43 #[iv p1, iv p2, iv r, iv 0, rv w_NOT_EQUAL, .unset, .unset] [(.int 5)]) _
            refine XS.istore X38.here hx rfl (hb hby at_43) rfl (l' := #[iv p1, iv p2, iv r, iv 0, rv w_NOT_EQUAL, iv 5, .unset]) rfl ?_
            show Go p e below T38 (mkF m 45 #[iv p1, iv p2, iv r, iv 0, rv w_NOT_EQUAL, iv 5, .unset] []) _
            refine XS.goto X38.here hx rfl (pc0 := 45) (pc' := 105) rfl (hb hby at_45) (by decide) (by decide) ?_
            show Go p e below T38 (mkF m 105 #[iv p1, iv p2, iv r, iv 0, rv w_NOT_EQUAL, iv 5, .unset] []) _
            refine XS.iload X38.here hx rfl (hb hby at_105) rfl ?_
            show Go p e below T38 (mkF m 107 #[iv p1, iv p2, iv r, iv 0, rv w_NOT_EQUAL, iv 5, .unset] [(.int 5)]) _
            refine XS.iloadN X38.here hx rfl (hb hby at_107) rfl ?_
            show Go p e below T38 (mkF m 108 #[iv p1, iv p2, iv r, iv 0, rv w_NOT_EQUAL, iv 5, .unset] [(.int 0), (.int 5)]) _
            refine XS.iconst X38.here hx rfl (hb hby at_108) ?_
            show Go p e below T38 (mkF m 109 #[iv p1, iv p2, iv r, iv 0, rv w_NOT_EQUAL, iv 5, .unset] [(.int 1), (.int 0), (.int 5)]) _
            refine XS.iadd X38.here hx rfl (hb hby at_109) rfl ?_
            show Go p e below T38 (mkF m 110 #[iv p1, iv p2, iv r, iv 0, rv w_NOT_EQUAL, iv 5, .unset] [(.int 1), (.int 5)]) _
            refine XS.ishr X38.here hx rfl (hb hby at_110) rfl ?_
            show Go p e below T38 (mkF m 111 #[iv p1, iv p2, iv r, iv 0, rv w_NOT_EQUAL, iv 5, .unset] [(.int ((5 : Int32) >>> ((1 : Int32) &&& 31)))]) _
            refine XS.iconst X38.here hx rfl (hb hby at_111) ?_
            show Go p e below T38 (mkF m 112 #[iv p1, iv p2, iv r, iv 0, rv w_NOT_EQUAL, iv 5, .unset] [(.int 1), (.int ((5 : Int32) >>> ((1 : Int32) &&& 31)))]) _
            refine XS.iand X38.here hx rfl (hb hby at_112) rfl ?_
            show Go p e below T38 (mkF m 113 #[iv p1, iv p2, iv r, iv 0, rv w_NOT_EQUAL, iv 5, .unset] [(.int (((5 : Int32) >>> ((1 : Int32) &&& 31)) &&& (1 : Int32)))]) _
            refine XS.ifYes X38.here hx rfl (pc0 := 113) (pc' := 120) rfl (hb hby at_113) rfl ((if0 _ _).trans (teq ((by decide) : (((5 : Int32) >>> ((1 : Int32) &&& 31)) &&& (1 : Int32)) = (0 : Int32))).1) (by decide) (by decide) ?_
            show Go p e below T38 (mkF m 120 #[iv p1, iv p2, iv r, iv 0, rv w_NOT_EQUAL, iv 5, .unset] []) _
            refine XS.iconst X38.here hx rfl (hb hby at_120) ?_
            show Go p e below T38 (mkF m 121 #[iv p1, iv p2, iv r, iv 0, rv w_NOT_EQUAL, iv 5, .unset] [(.int 0)]) _
            refine XS.istore X38.here hx rfl (hb hby at_121) rfl (l' := #[iv p1, iv p2, iv r, iv 0, rv w_NOT_EQUAL, iv 5, iv 0]) rfl ?_
            show Go p e below T38 (mkF m 123 #[iv p1, iv p2, iv r, iv 0, rv w_NOT_EQUAL, iv 5, iv 0] []) _
            refine XS.aload X38.here hx rfl (hb hby at_123) rfl rfl ?_
            show Go p e below T38 (mkF m 125 #[iv p1, iv p2, iv r, iv 0, rv w_NOT_EQUAL, iv 5, iv 0] [(.ref w_NOT_EQUAL)]) _
            refine XS.iloadN X38.here hx rfl (hb hby at_125) rfl ?_
            show Go p e below T38 (mkF m 126 #[iv p1, iv p2, iv r, iv 0, rv w_NOT_EQUAL, iv 5, iv 0] [(.int 0), (.ref w_NOT_EQUAL)]) _
            refine st39.trans ?_
            show Go p e below T39 (mkF m 129 #[iv p1, iv p2, iv r, iv 0, rv w_NOT_EQUAL, iv 5, iv 0] [(.int 0)]) _
            refine XS.iload X39.here hx rfl (hb hby at_129) rfl ?_
            show Go p e below T39 (mkF m 131 #[iv p1, iv p2, iv r, iv 0, rv w_NOT_EQUAL, iv 5, iv 0] [(.int 0), (.int 0)]) _
            refine XS.icmpNo X39.here hx rfl (hb hby at_131) rfl (teq ((by decide) : (0 : Int32) = (0 : Int32))).2 ?_
            show Go p e below T39 (mkF m 134 #[iv p1, iv p2, iv r, iv 0, rv w_NOT_EQUAL, iv 5, iv 0] []) _
            refine XS.iconst X39.here hx rfl (hb hby at_134) ?_
            show Go p e below T39 (mkF m 135 #[iv p1, iv p2, iv r, iv 0, rv w_NOT_EQUAL, iv 5, iv 0] [(.int 1)]) _
            refine XS.goto X39.here hx rfl (pc0 := 135) (pc' := 139) rfl (hb hby at_135) (by decide) (by decide) ?_
            show Go p e below T39 (mkF m 139 #[iv p1, iv p2, iv r, iv 0, rv w_NOT_EQUAL, iv 5, iv 0] [(.int 1)]) _
            exact kt)
        obtain ⟨fs, hr, hrun, hended, hW, hsame⟩ := X39.leave (v := some (.int 1)) (fun h => by rw [Bd.returns] at h; cases h)
        refine ⟨_, _, pre40 _ ?_, hrun, hended, _, _, rfl, ?_, ⟨_, rfl⟩, hW, hsame.mono (by decide) (by decide)⟩
        · show Steps p.tables e below (T39.setTop (mkF m 139 #[iv p1, iv p2, iv r, iv 0, rv w_NOT_EQUAL, iv 5, iv 0] [(.int 1)])) _
          exact retN X39 hx (t := .boolean) Bd.returns (by simp) (hb hby at_139) hr
        · show Q_rmL Z p1 p2 w_EQUAL w_NOT_EQUAL w_LESS w_LESS_EQUAL w_GREATER w_GREATER_EQUAL h0 n0 _ T39.heap _
          rw [e39q]
          exact ⟨rfl, N39⟩
      · have pre41 : ∀ t_, Go p e below s₁ (mkF m 50 #[iv p1, iv p2, iv r, iv 0, .unset, .unset, .unset] [(.int 2), (.int r)]) t_ → Go p e below s₁ (entryFrame m #[(.int p1), (.int p2)] maxLocals) t_ := fun t_ kt => pre36 _ (by
            show Go p e below s₁ (mkF m 34 #[iv p1, iv p2, iv r, iv 0, .unset, .unset, .unset] [(.int 1), (.int r)]) _
            refine XS.icmpYes X0.here hx rfl (pc0 := 34) (pc' := 48) rfl (hb hby at_34) rfl (feq hc34_37).2 (by decide) (by decide) ?_
            show Go p e below s₁ (mkF m 48 #[iv p1, iv p2, iv r, iv 0, .unset, .unset, .unset] []) _
            refine XS.iloadN X0.here hx rfl (hb hby at_48) rfl ?_
            show Go p e below s₁ (mkF m 49 #[iv p1, iv p2, iv r, iv 0, .unset, .unset, .unset] [(.int r)]) _
            refine XS.iconst X0.here hx rfl (hb hby at_49) ?_
            show Go p e below s₁ (mkF m 50 #[iv p1, iv p2, iv r, iv 0, .unset, .unset, .unset] [(.int 2), (.int r)]) _
            exact kt)
        by_cases hc50_42 : r = (2 : Int32)
        · obtain ⟨T43, X43, e43, st43⟩ := getS2 X0 hx hZ hown (host := "") (Or.inl (hwi hw 18 rfl)) Via.refl e0 S_LESS (g := (mkF m 53 #[iv p1, iv p2, iv r, iv 0, .unset, .unset, .unset] [])) rfl (hb hby at_53)
          obtain ⟨cq44, kq44, q44a, q44b, q44c⟩ := isOf hZ e43 E_LESS
          obtain ⟨_, _, ⟨T44, L44, k44, n44⟩, -, X44, ⟨Lc44, hQ44, l44, y44, z44⟩, st44⟩ := X43.virtualBack hx (y := (⟨"com/example/tandem_abstraction/tandemabstraction/cfa/Relation", "holds", "(I)Z"⟩ : MethodName)) (z := (⟨"com/example/tandem_abstraction/tandemabstraction/cfa/Relation", "holds", "(I)Z"⟩ : MethodName)) hown (mvT hZ (hwi hw 4 rfl)) (mvT hZ (hwi hw 5 rfl)) (notFace_of_selects (args := #[]) (mvT hZ (hwi hw 7 rfl))) (mvT hZ (hwi hw 7 rfl)) (mvT hZ (hwi hw 6 rfl)) (by decide) (backOf (W := 0) (rmH2 l Z a0 hw [] w_LESS (0 : Int32) h0 n0 Z0 E_LESS F_LESS) hZ (hwi hw 8 rfl) (hwi hw 2 rfl) (by decide) (by decide)) q44a q44c (g := (mkF m 126 #[iv p1, iv p2, iv r, iv 0, rv w_LESS, iv 1, iv 0] [(.int 0), (.ref w_LESS)])) rfl (by rw [hml]; rfl) (Steps.refl _) (argsL := [(.int 0)]) (rest := []) (lenOf pd_0 rfl) rfl (by show 2 * 0 + _ ≤ _; exact Nat.le_of_eq rfl) (hb hby at_126) (fun _ _ => ⟨rfl, e43, (by decide : 0 + 0 ≤ _), (by decide : 0 + 0 ≤ _)⟩)
          dsimp only [Pt.U, Pt.locs, Pt.cells, Pt.slots] at X44 l44 y44 z44 st44 hQ44
          subst l44 y44 z44
          obtain ⟨hv44, N44q, e44q⟩ := hQ44
          have N44 := Fr.app N0 N44q
          rw [show (if (0 : Int32) < 0 then (1 : Int32) else 0) = 0 from by decide] at hv44
          subst hv44
          have pre45 : ∀ t_, Go p e below T44 (mkF m 139 #[iv p1, iv p2, iv r, iv 0, rv w_LESS, iv 1, iv 0] [(.int 1)]) t_ → Go p e below s₁ (entryFrame m #[(.int p1), (.int p2)] maxLocals) t_ := fun t_ kt => pre41 _ (by
              show Go p e below s₁ (mkF m 50 #[iv p1, iv p2, iv r, iv 0, .unset, .unset, .unset] [(.int 2), (.int r)]) _
              refine XS.icmpNo X0.here hx rfl (hb hby at_50) rfl (teq hc50_42).2 ?_
              show Go p e below s₁ (mkF m 53 #[iv p1, iv p2, iv r, iv 0, .unset, .unset, .unset] []) _
              refine st43 _ ?_
              show Go p e below T43 (mkF m 56 #[iv p1, iv p2, iv r, iv 0, .unset, .unset, .unset] [(.ref w_LESS)]) _
              refine XS.astore X43.here hx rfl (hb hby at_56) rfl rfl (l' := #[iv p1, iv p2, iv r, iv 0, rv w_LESS, .unset, .unset]) rfl ?_
              show Go p e below T43 (mkF m 58 #[iv p1, iv p2, iv r, iv 0, rv w_LESS, .unset, .unset] []) _
              refine XS.iconst X43.here hx rfl (hb hby at_58) ?_
              show Go p e below T43 (mkF m 59 #[iv p1, iv p2, iv r, iv 0, rv w_LESS, .unset, .unset] [(.int 1)]) _
              refine XS.istore X43.here hx rfl (hb hby at_59) rfl (l' := #[iv p1, iv p2, iv r, iv 0, rv w_LESS, iv 1, .unset]) rfl ?_
              show Go p e below T43 (mkF m 61 #[iv p1, iv p2, iv r, iv 0, rv w_LESS, iv 1, .unset] []) _
              refine XS.goto X43.here hx rfl (pc0 := 61) (pc' := 105) rfl (hb hby at_61) (by decide) (by decide) ?_
              show Go p e below T43 (mkF m 105 #[iv p1, iv p2, iv r, iv 0, rv w_LESS, iv 1, .unset] []) _
              refine XS.iload X43.here hx rfl (hb hby at_105) rfl ?_
              show Go p e below T43 (mkF m 107 #[iv p1, iv p2, iv r, iv 0, rv w_LESS, iv 1, .unset] [(.int 1)]) _
              refine XS.iloadN X43.here hx rfl (hb hby at_107) rfl ?_
              show Go p e below T43 (mkF m 108 #[iv p1, iv p2, iv r, iv 0, rv w_LESS, iv 1, .unset] [(.int 0), (.int 1)]) _
              refine XS.iconst X43.here hx rfl (hb hby at_108) ?_
              show Go p e below T43 (mkF m 109 #[iv p1, iv p2, iv r, iv 0, rv w_LESS, iv 1, .unset] [(.int 1), (.int 0), (.int 1)]) _
              refine XS.iadd X43.here hx rfl (hb hby at_109) rfl ?_
              show Go p e below T43 (mkF m 110 #[iv p1, iv p2, iv r, iv 0, rv w_LESS, iv 1, .unset] [(.int 1), (.int 1)]) _
              refine XS.ishr X43.here hx rfl (hb hby at_110) rfl ?_
              show Go p e below T43 (mkF m 111 #[iv p1, iv p2, iv r, iv 0, rv w_LESS, iv 1, .unset] [(.int ((1 : Int32) >>> ((1 : Int32) &&& 31)))]) _
              refine XS.iconst X43.here hx rfl (hb hby at_111) ?_
              show Go p e below T43 (mkF m 112 #[iv p1, iv p2, iv r, iv 0, rv w_LESS, iv 1, .unset] [(.int 1), (.int ((1 : Int32) >>> ((1 : Int32) &&& 31)))]) _
              refine XS.iand X43.here hx rfl (hb hby at_112) rfl ?_
              show Go p e below T43 (mkF m 113 #[iv p1, iv p2, iv r, iv 0, rv w_LESS, iv 1, .unset] [(.int (((1 : Int32) >>> ((1 : Int32) &&& 31)) &&& (1 : Int32)))]) _
              refine XS.ifYes X43.here hx rfl (pc0 := 113) (pc' := 120) rfl (hb hby at_113) rfl ((if0 _ _).trans (teq ((by decide) : (((1 : Int32) >>> ((1 : Int32) &&& 31)) &&& (1 : Int32)) = (0 : Int32))).1) (by decide) (by decide) ?_
              show Go p e below T43 (mkF m 120 #[iv p1, iv p2, iv r, iv 0, rv w_LESS, iv 1, .unset] []) _
              refine XS.iconst X43.here hx rfl (hb hby at_120) ?_
              show Go p e below T43 (mkF m 121 #[iv p1, iv p2, iv r, iv 0, rv w_LESS, iv 1, .unset] [(.int 0)]) _
              refine XS.istore X43.here hx rfl (hb hby at_121) rfl (l' := #[iv p1, iv p2, iv r, iv 0, rv w_LESS, iv 1, iv 0]) rfl ?_
              show Go p e below T43 (mkF m 123 #[iv p1, iv p2, iv r, iv 0, rv w_LESS, iv 1, iv 0] []) _
              refine XS.aload X43.here hx rfl (hb hby at_123) rfl rfl ?_
              show Go p e below T43 (mkF m 125 #[iv p1, iv p2, iv r, iv 0, rv w_LESS, iv 1, iv 0] [(.ref w_LESS)]) _
              refine XS.iloadN X43.here hx rfl (hb hby at_125) rfl ?_
              show Go p e below T43 (mkF m 126 #[iv p1, iv p2, iv r, iv 0, rv w_LESS, iv 1, iv 0] [(.int 0), (.ref w_LESS)]) _
              refine st44.trans ?_
              show Go p e below T44 (mkF m 129 #[iv p1, iv p2, iv r, iv 0, rv w_LESS, iv 1, iv 0] [(.int 0)]) _
              refine XS.iload X44.here hx rfl (hb hby at_129) rfl ?_
              show Go p e below T44 (mkF m 131 #[iv p1, iv p2, iv r, iv 0, rv w_LESS, iv 1, iv 0] [(.int 0), (.int 0)]) _
              refine XS.icmpNo X44.here hx rfl (hb hby at_131) rfl (teq ((by decide) : (0 : Int32) = (0 : Int32))).2 ?_
              show Go p e below T44 (mkF m 134 #[iv p1, iv p2, iv r, iv 0, rv w_LESS, iv 1, iv 0] []) _
              refine XS.iconst X44.here hx rfl (hb hby at_134) ?_
              show Go p e below T44 (mkF m 135 #[iv p1, iv p2, iv r, iv 0, rv w_LESS, iv 1, iv 0] [(.int 1)]) _
              refine XS.goto X44.here hx rfl (pc0 := 135) (pc' := 139) rfl (hb hby at_135) (by decide) (by decide) ?_
              show Go p e below T44 (mkF m 139 #[iv p1, iv p2, iv r, iv 0, rv w_LESS, iv 1, iv 0] [(.int 1)]) _
              exact kt)
          obtain ⟨fs, hr, hrun, hended, hW, hsame⟩ := X44.leave (v := some (.int 1)) (fun h => by rw [Bd.returns] at h; cases h)
          refine ⟨_, _, pre45 _ ?_, hrun, hended, _, _, rfl, ?_, ⟨_, rfl⟩, hW, hsame.mono (by decide) (by decide)⟩
          · show Steps p.tables e below (T44.setTop (mkF m 139 #[iv p1, iv p2, iv r, iv 0, rv w_LESS, iv 1, iv 0] [(.int 1)])) _
            exact retN X44 hx (t := .boolean) Bd.returns (by simp) (hb hby at_139) hr
          · show Q_rmL Z p1 p2 w_EQUAL w_NOT_EQUAL w_LESS w_LESS_EQUAL w_GREATER w_GREATER_EQUAL h0 n0 _ T44.heap _
            rw [e44q]
            exact ⟨rfl, N44⟩
        · have pre46 : ∀ t_, Go p e below s₁ (mkF m 66 #[iv p1, iv p2, iv r, iv 0, .unset, .unset, .unset] [(.int 3), (.int r)]) t_ → Go p e below s₁ (entryFrame m #[(.int p1), (.int p2)] maxLocals) t_ := fun t_ kt => pre41 _ (by
              show Go p e below s₁ (mkF m 50 #[iv p1, iv p2, iv r, iv 0, .unset, .unset, .unset] [(.int 2), (.int r)]) _
              refine XS.icmpYes X0.here hx rfl (pc0 := 50) (pc' := 64) rfl (hb hby at_50) rfl (feq hc50_42).2 (by decide) (by decide) ?_
              show Go p e below s₁ (mkF m 64 #[iv p1, iv p2, iv r, iv 0, .unset, .unset, .unset] []) _
              refine XS.iloadN X0.here hx rfl (hb hby at_64) rfl ?_
              show Go p e below s₁ (mkF m 65 #[iv p1, iv p2, iv r, iv 0, .unset, .unset, .unset] [(.int r)]) _
              refine XS.iconst X0.here hx rfl (hb hby at_65) ?_
              show Go p e below s₁ (mkF m 66 #[iv p1, iv p2, iv r, iv 0, .unset, .unset, .unset] [(.int 3), (.int r)]) _
              exact kt)
          by_cases hc66_47 : r = (3 : Int32)
          · obtain ⟨T48, X48, e48, st48⟩ := getS2 X0 hx hZ hown (host := "") (Or.inl (hwi hw 26 rfl)) Via.refl e0 S_LESS_EQUAL (g := (mkF m 69 #[iv p1, iv p2, iv r, iv 0, .unset, .unset, .unset] [])) rfl (hb hby at_69)
            obtain ⟨cq49, kq49, q49a, q49b, q49c⟩ := isOf hZ e48 E_LESS_EQUAL
            obtain ⟨_, _, ⟨T49, L49, k49, n49⟩, -, X49, ⟨Lc49, hQ49, l49, y49, z49⟩, st49⟩ := X48.virtualBack hx (y := (⟨"com/example/tandem_abstraction/tandemabstraction/cfa/Relation", "holds", "(I)Z"⟩ : MethodName)) (z := (⟨"com/example/tandem_abstraction/tandemabstraction/cfa/Relation", "holds", "(I)Z"⟩ : MethodName)) hown (mvT hZ (hwi hw 4 rfl)) (mvT hZ (hwi hw 5 rfl)) (notFace_of_selects (args := #[]) (mvT hZ (hwi hw 7 rfl))) (mvT hZ (hwi hw 7 rfl)) (mvT hZ (hwi hw 6 rfl)) (by decide) (backOf (W := 0) (rmH3 l Z a0 hw [] w_LESS_EQUAL (0 : Int32) h0 n0 Z0 E_LESS_EQUAL F_LESS_EQUAL) hZ (hwi hw 8 rfl) (hwi hw 2 rfl) (by decide) (by decide)) q49a q49c (g := (mkF m 126 #[iv p1, iv p2, iv r, iv 0, rv w_LESS_EQUAL, iv 3, iv 1] [(.int 0), (.ref w_LESS_EQUAL)])) rfl (by rw [hml]; rfl) (Steps.refl _) (argsL := [(.int 0)]) (rest := []) (lenOf pd_0 rfl) rfl (by show 2 * 0 + _ ≤ _; exact Nat.le_of_eq rfl) (hb hby at_126) (fun _ _ => ⟨rfl, e48, (by decide : 0 + 0 ≤ _), (by decide : 0 + 0 ≤ _)⟩)
            dsimp only [Pt.U, Pt.locs, Pt.cells, Pt.slots] at X49 l49 y49 z49 st49 hQ49
            subst l49 y49 z49
            obtain ⟨hv49, N49q, e49q⟩ := hQ49
            have N49 := Fr.app N0 N49q
            rw [show (if ¬ 0 < (0 : Int32) then (1 : Int32) else 0) = 1 from by decide] at hv49
            subst hv49
            have pre50 : ∀ t_, Go p e below T49 (mkF m 139 #[iv p1, iv p2, iv r, iv 0, rv w_LESS_EQUAL, iv 3, iv 1] [(.int 1)]) t_ → Go p e below s₁ (entryFrame m #[(.int p1), (.int p2)] maxLocals) t_ := fun t_ kt => pre46 _ (by
                show Go p e below s₁ (mkF m 66 #[iv p1, iv p2, iv r, iv 0, .unset, .unset, .unset] [(.int 3), (.int r)]) _
                refine XS.icmpNo X0.here hx rfl (hb hby at_66) rfl (teq hc66_47).2 ?_
                show Go p e below s₁ (mkF m 69 #[iv p1, iv p2, iv r, iv 0, .unset, .unset, .unset] []) _
                refine st48 _ ?_
                show Go p e below T48 (mkF m 72 #[iv p1, iv p2, iv r, iv 0, .unset, .unset, .unset] [(.ref w_LESS_EQUAL)]) _
                refine XS.astore X48.here hx rfl (hb hby at_72) rfl rfl (l' := #[iv p1, iv p2, iv r, iv 0, rv w_LESS_EQUAL, .unset, .unset]) rfl ?_
                show Go p e below T48 (mkF m 74 #[iv p1, iv p2, iv r, iv 0, rv w_LESS_EQUAL, .unset, .unset] []) _
                refine XS.iconst X48.here hx rfl (hb hby at_74) ?_
                show Go p e below T48 (mkF m 75 #[iv p1, iv p2, iv r, iv 0, rv w_LESS_EQUAL, .unset, .unset] [(.int 3)]) _
                refine XS.istore X48.here hx rfl (hb hby at_75) rfl (l' := #[iv p1, iv p2, iv r, iv 0, rv w_LESS_EQUAL, iv 3, .unset]) rfl ?_
                show Go p e below T48 (mkF m 77 #[iv p1, iv p2, iv r, iv 0, rv w_LESS_EQUAL, iv 3, .unset] []) _
                refine XS.goto X48.here hx rfl (pc0 := 77) (pc' := 105) rfl (hb hby at_77) (by decide) (by decide) ?_
                show Go p e below T48 (mkF m 105 #[iv p1, iv p2, iv r, iv 0, rv w_LESS_EQUAL, iv 3, .unset] []) _
                refine XS.iload X48.here hx rfl (hb hby at_105) rfl ?_
                show Go p e below T48 (mkF m 107 #[iv p1, iv p2, iv r, iv 0, rv w_LESS_EQUAL, iv 3, .unset] [(.int 3)]) _
                refine XS.iloadN X48.here hx rfl (hb hby at_107) rfl ?_
                show Go p e below T48 (mkF m 108 #[iv p1, iv p2, iv r, iv 0, rv w_LESS_EQUAL, iv 3, .unset] [(.int 0), (.int 3)]) _
                refine XS.iconst X48.here hx rfl (hb hby at_108) ?_
                show Go p e below T48 (mkF m 109 #[iv p1, iv p2, iv r, iv 0, rv w_LESS_EQUAL, iv 3, .unset] [(.int 1), (.int 0), (.int 3)]) _
                refine XS.iadd X48.here hx rfl (hb hby at_109) rfl ?_
                show Go p e below T48 (mkF m 110 #[iv p1, iv p2, iv r, iv 0, rv w_LESS_EQUAL, iv 3, .unset] [(.int 1), (.int 3)]) _
                refine XS.ishr X48.here hx rfl (hb hby at_110) rfl ?_
                show Go p e below T48 (mkF m 111 #[iv p1, iv p2, iv r, iv 0, rv w_LESS_EQUAL, iv 3, .unset] [(.int ((3 : Int32) >>> ((1 : Int32) &&& 31)))]) _
                refine XS.iconst X48.here hx rfl (hb hby at_111) ?_
                show Go p e below T48 (mkF m 112 #[iv p1, iv p2, iv r, iv 0, rv w_LESS_EQUAL, iv 3, .unset] [(.int 1), (.int ((3 : Int32) >>> ((1 : Int32) &&& 31)))]) _
                refine XS.iand X48.here hx rfl (hb hby at_112) rfl ?_
                show Go p e below T48 (mkF m 113 #[iv p1, iv p2, iv r, iv 0, rv w_LESS_EQUAL, iv 3, .unset] [(.int (((3 : Int32) >>> ((1 : Int32) &&& 31)) &&& (1 : Int32)))]) _
                refine XS.ifNo X48.here hx rfl (hb hby at_113) rfl ((if0 _ _).trans (feq ((by decide) : ¬ ((((3 : Int32) >>> ((1 : Int32) &&& 31)) &&& (1 : Int32)) = (0 : Int32)))).1) ?_
                show Go p e below T48 (mkF m 116 #[iv p1, iv p2, iv r, iv 0, rv w_LESS_EQUAL, iv 3, .unset] []) _
                refine XS.iconst X48.here hx rfl (hb hby at_116) ?_
                show Go p e below T48 (mkF m 117 #[iv p1, iv p2, iv r, iv 0, rv w_LESS_EQUAL, iv 3, .unset] [(.int 1)]) _
                refine XS.goto X48.here hx rfl (pc0 := 117) (pc' := 121) rfl (hb hby at_117) (by decide) (by decide) ?_
                show Go p e below T48 (mkF m 121 #[iv p1, iv p2, iv r, iv 0, rv w_LESS_EQUAL, iv 3, .unset] [(.int 1)]) _
                refine XS.istore X48.here hx rfl (hb hby at_121) rfl (l' := #[iv p1, iv p2, iv r, iv 0, rv w_LESS_EQUAL, iv 3, iv 1]) rfl ?_
                show Go p e below T48 (mkF m 123 #[iv p1, iv p2, iv r, iv 0, rv w_LESS_EQUAL, iv 3, iv 1] []) _
                refine XS.aload X48.here hx rfl (hb hby at_123) rfl rfl ?_
                show Go p e below T48 (mkF m 125 #[iv p1, iv p2, iv r, iv 0, rv w_LESS_EQUAL, iv 3, iv 1] [(.ref w_LESS_EQUAL)]) _
                refine XS.iloadN X48.here hx rfl (hb hby at_125) rfl ?_
                show Go p e below T48 (mkF m 126 #[iv p1, iv p2, iv r, iv 0, rv w_LESS_EQUAL, iv 3, iv 1] [(.int 0), (.ref w_LESS_EQUAL)]) _
                refine st49.trans ?_
                show Go p e below T49 (mkF m 129 #[iv p1, iv p2, iv r, iv 0, rv w_LESS_EQUAL, iv 3, iv 1] [(.int 1)]) _
                refine XS.iload X49.here hx rfl (hb hby at_129) rfl ?_
                show Go p e below T49 (mkF m 131 #[iv p1, iv p2, iv r, iv 0, rv w_LESS_EQUAL, iv 3, iv 1] [(.int 1), (.int 1)]) _
                refine XS.icmpNo X49.here hx rfl (hb hby at_131) rfl (teq ((by decide) : (1 : Int32) = (1 : Int32))).2 ?_
                show Go p e below T49 (mkF m 134 #[iv p1, iv p2, iv r, iv 0, rv w_LESS_EQUAL, iv 3, iv 1] []) _
                refine XS.iconst X49.here hx rfl (hb hby at_134) ?_
                show Go p e below T49 (mkF m 135 #[iv p1, iv p2, iv r, iv 0, rv w_LESS_EQUAL, iv 3, iv 1] [(.int 1)]) _
                refine XS.goto X49.here hx rfl (pc0 := 135) (pc' := 139) rfl (hb hby at_135) (by decide) (by decide) ?_
                show Go p e below T49 (mkF m 139 #[iv p1, iv p2, iv r, iv 0, rv w_LESS_EQUAL, iv 3, iv 1] [(.int 1)]) _
                exact kt)
            obtain ⟨fs, hr, hrun, hended, hW, hsame⟩ := X49.leave (v := some (.int 1)) (fun h => by rw [Bd.returns] at h; cases h)
            refine ⟨_, _, pre50 _ ?_, hrun, hended, _, _, rfl, ?_, ⟨_, rfl⟩, hW, hsame.mono (by decide) (by decide)⟩
            · show Steps p.tables e below (T49.setTop (mkF m 139 #[iv p1, iv p2, iv r, iv 0, rv w_LESS_EQUAL, iv 3, iv 1] [(.int 1)])) _
              exact retN X49 hx (t := .boolean) Bd.returns (by simp) (hb hby at_139) hr
            · show Q_rmL Z p1 p2 w_EQUAL w_NOT_EQUAL w_LESS w_LESS_EQUAL w_GREATER w_GREATER_EQUAL h0 n0 _ T49.heap _
              rw [e49q]
              exact ⟨rfl, N49⟩
          · have pre51 : ∀ t_, Go p e below s₁ (mkF m 82 #[iv p1, iv p2, iv r, iv 0, .unset, .unset, .unset] [(.int 4), (.int r)]) t_ → Go p e below s₁ (entryFrame m #[(.int p1), (.int p2)] maxLocals) t_ := fun t_ kt => pre46 _ (by
                show Go p e below s₁ (mkF m 66 #[iv p1, iv p2, iv r, iv 0, .unset, .unset, .unset] [(.int 3), (.int r)]) _
                refine XS.icmpYes X0.here hx rfl (pc0 := 66) (pc' := 80) rfl (hb hby at_66) rfl (feq hc66_47).2 (by decide) (by decide) ?_
                show Go p e below s₁ (mkF m 80 #[iv p1, iv p2, iv r, iv 0, .unset, .unset, .unset] []) _
                refine XS.iloadN X0.here hx rfl (hb hby at_80) rfl ?_
                show Go p e below s₁ (mkF m 81 #[iv p1, iv p2, iv r, iv 0, .unset, .unset, .unset] [(.int r)]) _
                refine XS.iconst X0.here hx rfl (hb hby at_81) ?_
                show Go p e below s₁ (mkF m 82 #[iv p1, iv p2, iv r, iv 0, .unset, .unset, .unset] [(.int 4), (.int r)]) _
                exact kt)
            by_cases hc82_52 : r = (4 : Int32)
            · obtain ⟨T53, X53, e53, st53⟩ := getS2 X0 hx hZ hown (host := "") (Or.inl (hwi hw 20 rfl)) Via.refl e0 S_GREATER (g := (mkF m 85 #[iv p1, iv p2, iv r, iv 0, .unset, .unset, .unset] [])) rfl (hb hby at_85)
              obtain ⟨cq54, kq54, q54a, q54b, q54c⟩ := isOf hZ e53 E_GREATER
              obtain ⟨_, _, ⟨T54, L54, k54, n54⟩, -, X54, ⟨Lc54, hQ54, l54, y54, z54⟩, st54⟩ := X53.virtualBack hx (y := (⟨"com/example/tandem_abstraction/tandemabstraction/cfa/Relation", "holds", "(I)Z"⟩ : MethodName)) (z := (⟨"com/example/tandem_abstraction/tandemabstraction/cfa/Relation", "holds", "(I)Z"⟩ : MethodName)) hown (mvT hZ (hwi hw 4 rfl)) (mvT hZ (hwi hw 5 rfl)) (notFace_of_selects (args := #[]) (mvT hZ (hwi hw 7 rfl))) (mvT hZ (hwi hw 7 rfl)) (mvT hZ (hwi hw 6 rfl)) (by decide) (backOf (W := 0) (rmH4 l Z a0 hw [] w_GREATER (0 : Int32) h0 n0 Z0 E_GREATER F_GREATER) hZ (hwi hw 8 rfl) (hwi hw 2 rfl) (by decide) (by decide)) q54a q54c (g := (mkF m 126 #[iv p1, iv p2, iv r, iv 0, rv w_GREATER, iv 4, iv 0] [(.int 0), (.ref w_GREATER)])) rfl (by rw [hml]; rfl) (Steps.refl _) (argsL := [(.int 0)]) (rest := []) (lenOf pd_0 rfl) rfl (by show 2 * 0 + _ ≤ _; exact Nat.le_of_eq rfl) (hb hby at_126) (fun _ _ => ⟨rfl, e53, (by decide : 0 + 0 ≤ _), (by decide : 0 + 0 ≤ _)⟩)
              dsimp only [Pt.U, Pt.locs, Pt.cells, Pt.slots] at X54 l54 y54 z54 st54 hQ54
              subst l54 y54 z54
              obtain ⟨hv54, N54q, e54q⟩ := hQ54
              have N54 := Fr.app N0 N54q
              rw [show (if 0 < (0 : Int32) then (1 : Int32) else 0) = 0 from by decide] at hv54
              subst hv54
              have pre55 : ∀ t_, Go p e below T54 (mkF m 139 #[iv p1, iv p2, iv r, iv 0, rv w_GREATER, iv 4, iv 0] [(.int 1)]) t_ → Go p e below s₁ (entryFrame m #[(.int p1), (.int p2)] maxLocals) t_ := fun t_ kt => pre51 _ (by
                  show Go p e below s₁ (mkF m 82 #[iv p1, iv p2, iv r, iv 0, .unset, .unset, .unset] [(.int 4), (.int r)]) _
                  refine XS.icmpNo X0.here hx rfl (hb hby at_82) rfl (teq hc82_52).2 ?_
                  show Go p e below s₁ (mkF m 85 #[iv p1, iv p2, iv r, iv 0, .unset, .unset, .unset] []) _
                  refine st53 _ ?_
                  show Go p e below T53 (mkF m 88 #[iv p1, iv p2, iv r, iv 0, .unset, .unset, .unset] [(.ref w_GREATER)]) _
                  refine XS.astore X53.here hx rfl (hb hby at_88) rfl rfl (l' := #[iv p1, iv p2, iv r, iv 0, rv w_GREATER, .unset, .unset]) rfl ?_
                  show Go p e below T53 (mkF m 90 #[iv p1, iv p2, iv r, iv 0, rv w_GREATER, .unset, .unset] []) _
                  refine XS.iconst X53.here hx rfl (hb hby at_90) ?_
                  show Go p e below T53 (mkF m 91 #[iv p1, iv p2, iv r, iv 0, rv w_GREATER, .unset, .unset] [(.int 4)]) _
                  refine XS.istore X53.here hx rfl (hb hby at_91) rfl (l' := #[iv p1, iv p2, iv r, iv 0, rv w_GREATER, iv 4, .unset]) rfl ?_
                  show Go p e below T53 (mkF m 93 #[iv p1, iv p2, iv r, iv 0, rv w_GREATER, iv 4, .unset] []) _
                  refine XS.goto X53.here hx rfl (pc0 := 93) (pc' := 105) rfl (hb hby at_93) (by decide) (by decide) ?_
                  show Go p e below T53 (mkF m 105 #[iv p1, iv p2, iv r, iv 0, rv w_GREATER, iv 4, .unset] []) _
                  refine XS.iload X53.here hx rfl (hb hby at_105) rfl ?_
                  show Go p e below T53 (mkF m 107 #[iv p1, iv p2, iv r, iv 0, rv w_GREATER, iv 4, .unset] [(.int 4)]) _
                  refine XS.iloadN X53.here hx rfl (hb hby at_107) rfl ?_
                  show Go p e below T53 (mkF m 108 #[iv p1, iv p2, iv r, iv 0, rv w_GREATER, iv 4, .unset] [(.int 0), (.int 4)]) _
                  refine XS.iconst X53.here hx rfl (hb hby at_108) ?_
                  show Go p e below T53 (mkF m 109 #[iv p1, iv p2, iv r, iv 0, rv w_GREATER, iv 4, .unset] [(.int 1), (.int 0), (.int 4)]) _
                  refine XS.iadd X53.here hx rfl (hb hby at_109) rfl ?_
                  show Go p e below T53 (mkF m 110 #[iv p1, iv p2, iv r, iv 0, rv w_GREATER, iv 4, .unset] [(.int 1), (.int 4)]) _
                  refine XS.ishr X53.here hx rfl (hb hby at_110) rfl ?_
                  show Go p e below T53 (mkF m 111 #[iv p1, iv p2, iv r, iv 0, rv w_GREATER, iv 4, .unset] [(.int ((4 : Int32) >>> ((1 : Int32) &&& 31)))]) _
                  refine XS.iconst X53.here hx rfl (hb hby at_111) ?_
                  show Go p e below T53 (mkF m 112 #[iv p1, iv p2, iv r, iv 0, rv w_GREATER, iv 4, .unset] [(.int 1), (.int ((4 : Int32) >>> ((1 : Int32) &&& 31)))]) _
                  refine XS.iand X53.here hx rfl (hb hby at_112) rfl ?_
                  show Go p e below T53 (mkF m 113 #[iv p1, iv p2, iv r, iv 0, rv w_GREATER, iv 4, .unset] [(.int (((4 : Int32) >>> ((1 : Int32) &&& 31)) &&& (1 : Int32)))]) _
                  refine XS.ifYes X53.here hx rfl (pc0 := 113) (pc' := 120) rfl (hb hby at_113) rfl ((if0 _ _).trans (teq ((by decide) : (((4 : Int32) >>> ((1 : Int32) &&& 31)) &&& (1 : Int32)) = (0 : Int32))).1) (by decide) (by decide) ?_
                  show Go p e below T53 (mkF m 120 #[iv p1, iv p2, iv r, iv 0, rv w_GREATER, iv 4, .unset] []) _
                  refine XS.iconst X53.here hx rfl (hb hby at_120) ?_
                  show Go p e below T53 (mkF m 121 #[iv p1, iv p2, iv r, iv 0, rv w_GREATER, iv 4, .unset] [(.int 0)]) _
                  refine XS.istore X53.here hx rfl (hb hby at_121) rfl (l' := #[iv p1, iv p2, iv r, iv 0, rv w_GREATER, iv 4, iv 0]) rfl ?_
                  show Go p e below T53 (mkF m 123 #[iv p1, iv p2, iv r, iv 0, rv w_GREATER, iv 4, iv 0] []) _
                  refine XS.aload X53.here hx rfl (hb hby at_123) rfl rfl ?_
                  show Go p e below T53 (mkF m 125 #[iv p1, iv p2, iv r, iv 0, rv w_GREATER, iv 4, iv 0] [(.ref w_GREATER)]) _
                  refine XS.iloadN X53.here hx rfl (hb hby at_125) rfl ?_
                  show Go p e below T53 (mkF m 126 #[iv p1, iv p2, iv r, iv 0, rv w_GREATER, iv 4, iv 0] [(.int 0), (.ref w_GREATER)]) _
                  refine st54.trans ?_
                  show Go p e below T54 (mkF m 129 #[iv p1, iv p2, iv r, iv 0, rv w_GREATER, iv 4, iv 0] [(.int 0)]) _
                  refine XS.iload X54.here hx rfl (hb hby at_129) rfl ?_
                  show Go p e below T54 (mkF m 131 #[iv p1, iv p2, iv r, iv 0, rv w_GREATER, iv 4, iv 0] [(.int 0), (.int 0)]) _
                  refine XS.icmpNo X54.here hx rfl (hb hby at_131) rfl (teq ((by decide) : (0 : Int32) = (0 : Int32))).2 ?_
                  show Go p e below T54 (mkF m 134 #[iv p1, iv p2, iv r, iv 0, rv w_GREATER, iv 4, iv 0] []) _
                  refine XS.iconst X54.here hx rfl (hb hby at_134) ?_
                  show Go p e below T54 (mkF m 135 #[iv p1, iv p2, iv r, iv 0, rv w_GREATER, iv 4, iv 0] [(.int 1)]) _
                  refine XS.goto X54.here hx rfl (pc0 := 135) (pc' := 139) rfl (hb hby at_135) (by decide) (by decide) ?_
                  show Go p e below T54 (mkF m 139 #[iv p1, iv p2, iv r, iv 0, rv w_GREATER, iv 4, iv 0] [(.int 1)]) _
                  exact kt)
              obtain ⟨fs, hr, hrun, hended, hW, hsame⟩ := X54.leave (v := some (.int 1)) (fun h => by rw [Bd.returns] at h; cases h)
              refine ⟨_, _, pre55 _ ?_, hrun, hended, _, _, rfl, ?_, ⟨_, rfl⟩, hW, hsame.mono (by decide) (by decide)⟩
              · show Steps p.tables e below (T54.setTop (mkF m 139 #[iv p1, iv p2, iv r, iv 0, rv w_GREATER, iv 4, iv 0] [(.int 1)])) _
                exact retN X54 hx (t := .boolean) Bd.returns (by simp) (hb hby at_139) hr
              · show Q_rmL Z p1 p2 w_EQUAL w_NOT_EQUAL w_LESS w_LESS_EQUAL w_GREATER w_GREATER_EQUAL h0 n0 _ T54.heap _
                rw [e54q]
                exact ⟨rfl, N54⟩
            · obtain ⟨T56, X56, e56, st56⟩ := getS2 X0 hx hZ hown (host := "") (Or.inl (hwi hw 24 rfl)) Via.refl e0 S_GREATER_EQUAL (g := (mkF m 96 #[iv p1, iv p2, iv r, iv 0, .unset, .unset, .unset] [])) rfl (hb hby at_96)
              obtain ⟨cq57, kq57, q57a, q57b, q57c⟩ := isOf hZ e56 E_GREATER_EQUAL
              obtain ⟨_, _, ⟨T57, L57, k57, n57⟩, -, X57, ⟨Lc57, hQ57, l57, y57, z57⟩, st57⟩ := X56.virtualBack hx (y := (⟨"com/example/tandem_abstraction/tandemabstraction/cfa/Relation", "holds", "(I)Z"⟩ : MethodName)) (z := (⟨"com/example/tandem_abstraction/tandemabstraction/cfa/Relation", "holds", "(I)Z"⟩ : MethodName)) hown (mvT hZ (hwi hw 4 rfl)) (mvT hZ (hwi hw 5 rfl)) (notFace_of_selects (args := #[]) (mvT hZ (hwi hw 7 rfl))) (mvT hZ (hwi hw 7 rfl)) (mvT hZ (hwi hw 6 rfl)) (by decide) (backOf (W := 0) (rmH5 l Z a0 hw [] w_GREATER_EQUAL (0 : Int32) h0 n0 Z0 E_GREATER_EQUAL F_GREATER_EQUAL) hZ (hwi hw 8 rfl) (hwi hw 2 rfl) (by decide) (by decide)) q57a q57c (g := (mkF m 126 #[iv p1, iv p2, iv r, iv 0, rv w_GREATER_EQUAL, iv 6, iv 1] [(.int 0), (.ref w_GREATER_EQUAL)])) rfl (by rw [hml]; rfl) (Steps.refl _) (argsL := [(.int 0)]) (rest := []) (lenOf pd_0 rfl) rfl (by show 2 * 0 + _ ≤ _; exact Nat.le_of_eq rfl) (hb hby at_126) (fun _ _ => ⟨rfl, e56, (by decide : 0 + 0 ≤ _), (by decide : 0 + 0 ≤ _)⟩)
              dsimp only [Pt.U, Pt.locs, Pt.cells, Pt.slots] at X57 l57 y57 z57 st57 hQ57
              subst l57 y57 z57
              obtain ⟨hv57, N57q, e57q⟩ := hQ57
              have N57 := Fr.app N0 N57q
              rw [show (if ¬ (0 : Int32) < 0 then (1 : Int32) else 0) = 1 from by decide] at hv57
              subst hv57
              have pre58 : ∀ t_, Go p e below T57 (mkF m 139 #[iv p1, iv p2, iv r, iv 0, rv w_GREATER_EQUAL, iv 6, iv 1] [(.int 1)]) t_ → Go p e below s₁ (entryFrame m #[(.int p1), (.int p2)] maxLocals) t_ := fun t_ kt => pre51 _ (by
                  show Go p e below s₁ (mkF m 82 #[iv p1, iv p2, iv r, iv 0, .unset, .unset, .unset] [(.int 4), (.int r)]) _
                  refine XS.icmpYes X0.here hx rfl (pc0 := 82) (pc' := 96) rfl (hb hby at_82) rfl (feq hc82_52).2 (by decide) (by decide) ?_
                  show Go p e below s₁ (mkF m 96 #[iv p1, iv p2, iv r, iv 0, .unset, .unset, .unset] []) _
                  refine st56 _ ?_
                  show Go p e below T56 (mkF m 99 #[iv p1, iv p2, iv r, iv 0, .unset, .unset, .unset] [(.ref w_GREATER_EQUAL)]) _
                  refine XS.astore X56.here hx rfl (hb hby at_99) rfl rfl (l' := #[iv p1, iv p2, iv r, iv 0, rv w_GREATER_EQUAL, .unset, .unset]) rfl ?_
                  show Go p e below T56 (mkF m 101 #[iv p1, iv p2, iv r, iv 0, rv w_GREATER_EQUAL, .unset, .unset] []) _
                  refine XS.bipush X56.here hx rfl (hb hby at_101) ?_
                  show Go p e below T56 (mkF m 103 #[iv p1, iv p2, iv r, iv 0, rv w_GREATER_EQUAL, .unset, .unset] [(.int 6)]) _
                  refine XS.istore X56.here hx rfl (hb hby at_103) rfl (l' := #[iv p1, iv p2, iv r, iv 0, rv w_GREATER_EQUAL, iv 6, .unset]) rfl ?_
                  show Go p e below T56 (mkF m 105 #[iv p1, iv p2, iv r, iv 0, rv w_GREATER_EQUAL, iv 6, .unset] []) _
                  refine XS.iload X56.here hx rfl (hb hby at_105) rfl ?_
                  show Go p e below T56 (mkF m 107 #[iv p1, iv p2, iv r, iv 0, rv w_GREATER_EQUAL, iv 6, .unset] [(.int 6)]) _
                  refine XS.iloadN X56.here hx rfl (hb hby at_107) rfl ?_
                  show Go p e below T56 (mkF m 108 #[iv p1, iv p2, iv r, iv 0, rv w_GREATER_EQUAL, iv 6, .unset] [(.int 0), (.int 6)]) _
                  refine XS.iconst X56.here hx rfl (hb hby at_108) ?_
                  show Go p e below T56 (mkF m 109 #[iv p1, iv p2, iv r, iv 0, rv w_GREATER_EQUAL, iv 6, .unset] [(.int 1), (.int 0), (.int 6)]) _
                  refine XS.iadd X56.here hx rfl (hb hby at_109) rfl ?_
                  show Go p e below T56 (mkF m 110 #[iv p1, iv p2, iv r, iv 0, rv w_GREATER_EQUAL, iv 6, .unset] [(.int 1), (.int 6)]) _
                  refine XS.ishr X56.here hx rfl (hb hby at_110) rfl ?_
                  show Go p e below T56 (mkF m 111 #[iv p1, iv p2, iv r, iv 0, rv w_GREATER_EQUAL, iv 6, .unset] [(.int ((6 : Int32) >>> ((1 : Int32) &&& 31)))]) _
                  refine XS.iconst X56.here hx rfl (hb hby at_111) ?_
                  show Go p e below T56 (mkF m 112 #[iv p1, iv p2, iv r, iv 0, rv w_GREATER_EQUAL, iv 6, .unset] [(.int 1), (.int ((6 : Int32) >>> ((1 : Int32) &&& 31)))]) _
                  refine XS.iand X56.here hx rfl (hb hby at_112) rfl ?_
                  show Go p e below T56 (mkF m 113 #[iv p1, iv p2, iv r, iv 0, rv w_GREATER_EQUAL, iv 6, .unset] [(.int (((6 : Int32) >>> ((1 : Int32) &&& 31)) &&& (1 : Int32)))]) _
                  refine XS.ifNo X56.here hx rfl (hb hby at_113) rfl ((if0 _ _).trans (feq ((by decide) : ¬ ((((6 : Int32) >>> ((1 : Int32) &&& 31)) &&& (1 : Int32)) = (0 : Int32)))).1) ?_
                  show Go p e below T56 (mkF m 116 #[iv p1, iv p2, iv r, iv 0, rv w_GREATER_EQUAL, iv 6, .unset] []) _
                  refine XS.iconst X56.here hx rfl (hb hby at_116) ?_
                  show Go p e below T56 (mkF m 117 #[iv p1, iv p2, iv r, iv 0, rv w_GREATER_EQUAL, iv 6, .unset] [(.int 1)]) _
                  refine XS.goto X56.here hx rfl (pc0 := 117) (pc' := 121) rfl (hb hby at_117) (by decide) (by decide) ?_
                  show Go p e below T56 (mkF m 121 #[iv p1, iv p2, iv r, iv 0, rv w_GREATER_EQUAL, iv 6, .unset] [(.int 1)]) _
                  refine XS.istore X56.here hx rfl (hb hby at_121) rfl (l' := #[iv p1, iv p2, iv r, iv 0, rv w_GREATER_EQUAL, iv 6, iv 1]) rfl ?_
                  show Go p e below T56 (mkF m 123 #[iv p1, iv p2, iv r, iv 0, rv w_GREATER_EQUAL, iv 6, iv 1] []) _
                  refine XS.aload X56.here hx rfl (hb hby at_123) rfl rfl ?_
                  show Go p e below T56 (mkF m 125 #[iv p1, iv p2, iv r, iv 0, rv w_GREATER_EQUAL, iv 6, iv 1] [(.ref w_GREATER_EQUAL)]) _
                  refine XS.iloadN X56.here hx rfl (hb hby at_125) rfl ?_
                  show Go p e below T56 (mkF m 126 #[iv p1, iv p2, iv r, iv 0, rv w_GREATER_EQUAL, iv 6, iv 1] [(.int 0), (.ref w_GREATER_EQUAL)]) _
                  refine st57.trans ?_
                  show Go p e below T57 (mkF m 129 #[iv p1, iv p2, iv r, iv 0, rv w_GREATER_EQUAL, iv 6, iv 1] [(.int 1)]) _
                  refine XS.iload X57.here hx rfl (hb hby at_129) rfl ?_
                  show Go p e below T57 (mkF m 131 #[iv p1, iv p2, iv r, iv 0, rv w_GREATER_EQUAL, iv 6, iv 1] [(.int 1), (.int 1)]) _
                  refine XS.icmpNo X57.here hx rfl (hb hby at_131) rfl (teq ((by decide) : (1 : Int32) = (1 : Int32))).2 ?_
                  show Go p e below T57 (mkF m 134 #[iv p1, iv p2, iv r, iv 0, rv w_GREATER_EQUAL, iv 6, iv 1] []) _
                  refine XS.iconst X57.here hx rfl (hb hby at_134) ?_
                  show Go p e below T57 (mkF m 135 #[iv p1, iv p2, iv r, iv 0, rv w_GREATER_EQUAL, iv 6, iv 1] [(.int 1)]) _
                  refine XS.goto X57.here hx rfl (pc0 := 135) (pc' := 139) rfl (hb hby at_135) (by decide) (by decide) ?_
                  show Go p e below T57 (mkF m 139 #[iv p1, iv p2, iv r, iv 0, rv w_GREATER_EQUAL, iv 6, iv 1] [(.int 1)]) _
                  exact kt)
              obtain ⟨fs, hr, hrun, hended, hW, hsame⟩ := X57.leave (v := some (.int 1)) (fun h => by rw [Bd.returns] at h; cases h)
              refine ⟨_, _, pre58 _ ?_, hrun, hended, _, _, rfl, ?_, ⟨_, rfl⟩, hW, hsame.mono (by decide) (by decide)⟩
              · show Steps p.tables e below (T57.setTop (mkF m 139 #[iv p1, iv p2, iv r, iv 0, rv w_GREATER_EQUAL, iv 6, iv 1] [(.int 1)])) _
                exact retN X57 hx (t := .boolean) Bd.returns (by simp) (hb hby at_139) hr
              · show Q_rmL Z p1 p2 w_EQUAL w_NOT_EQUAL w_LESS w_LESS_EQUAL w_GREATER w_GREATER_EQUAL h0 n0 _ T57.heap _
                rw [e57q]
                exact ⟨rfl, N57⟩
  · have pre59 : ∀ t_, Go p e below s₁ (mkF m 18 #[iv p1, iv p2, iv r, iv 1, .unset, .unset, .unset] [(.int r)]) t_ → Go p e below s₁ (entryFrame m #[(.int p1), (.int p2)] maxLocals) t_ := fun t_ kt => pre2 _ (by
        show Go p e below s₁ (mkF m 17 #[iv p1, iv p2, iv r, iv 1, .unset, .unset, .unset] []) _
        refine XS.iloadN X0.here hx rfl (hb hby at_17) rfl ?_
        show Go p e below s₁ (mkF m 18 #[iv p1, iv p2, iv r, iv 1, .unset, .unset, .unset] [(.int r)]) _
        exact kt)
    by_cases hc18_60 : r = (0 : Int32)
    · obtain ⟨T61, X61, e61, st61⟩ := getS2 X0 hx hZ hown (host := "") (Or.inl (hwi hw 1 rfl)) Via.refl e0 S_EQUAL (g := (mkF m 21 #[iv p1, iv p2, iv r, iv 1, .unset, .unset, .unset] [])) rfl (hb hby at_21)
      obtain ⟨cq62, kq62, q62a, q62b, q62c⟩ := isOf hZ e61 E_EQUAL
      obtain ⟨_, _, ⟨T62, L62, k62, n62⟩, -, X62, ⟨Lc62, hQ62, l62, y62, z62⟩, st62⟩ := X61.virtualBack hx (y := (⟨"com/example/tandem_abstraction/tandemabstraction/cfa/Relation", "holds", "(I)Z"⟩ : MethodName)) (z := (⟨"com/example/tandem_abstraction/tandemabstraction/cfa/Relation", "holds", "(I)Z"⟩ : MethodName)) hown (mvT hZ (hwi hw 4 rfl)) (mvT hZ (hwi hw 5 rfl)) (notFace_of_selects (args := #[]) (mvT hZ (hwi hw 7 rfl))) (mvT hZ (hwi hw 7 rfl)) (mvT hZ (hwi hw 6 rfl)) (by decide) (backOf (W := 0) (rmH0 l Z a0 hw [] w_EQUAL (1 : Int32) h0 n0 Z0 E_EQUAL F_EQUAL) hZ (hwi hw 8 rfl) (hwi hw 2 rfl) (by decide) (by decide)) q62a q62c (g := (mkF m 126 #[iv p1, iv p2, iv r, iv 1, rv w_EQUAL, iv 2, iv 0] [(.int 1), (.ref w_EQUAL)])) rfl (by rw [hml]; rfl) (Steps.refl _) (argsL := [(.int 1)]) (rest := []) (lenOf pd_0 rfl) rfl (by show 2 * 0 + _ ≤ _; exact Nat.le_of_eq rfl) (hb hby at_126) (fun _ _ => ⟨rfl, e61, (by decide : 0 + 0 ≤ _), (by decide : 0 + 0 ≤ _)⟩)
      dsimp only [Pt.U, Pt.locs, Pt.cells, Pt.slots] at X62 l62 y62 z62 st62 hQ62
      subst l62 y62 z62
      obtain ⟨hv62, N62q, e62q⟩ := hQ62
      have N62 := Fr.app N0 N62q
      rw [show (if (1 : Int32) = 0 then (1 : Int32) else 0) = 0 from by decide] at hv62
      subst hv62
      have pre63 : ∀ t_, Go p e below T62 (mkF m 139 #[iv p1, iv p2, iv r, iv 1, rv w_EQUAL, iv 2, iv 0] [(.int 1)]) t_ → Go p e below s₁ (entryFrame m #[(.int p1), (.int p2)] maxLocals) t_ := fun t_ kt => pre59 _ (by
          show Go p e below s₁ (mkF m 18 #[iv p1, iv p2, iv r, iv 1, .unset, .unset, .unset] [(.int r)]) _
          refine XS.ifNo X0.here hx rfl (hb hby at_18) rfl ((if0 _ _).trans (teq hc18_60).2) ?_
          show Go p e below s₁ (mkF m 21 #[iv p1, iv p2, iv r, iv 1, .unset, .unset, .unset] []) _
          refine st61 _ ?_
          show Go p e below T61 (mkF m 24 #[iv p1, iv p2, iv r, iv 1, .unset, .unset, .unset] [(.ref w_EQUAL)]) _
          refine XS.astore X61.here hx rfl (hb hby at_24) rfl rfl (l' := #[iv p1, iv p2, iv r, iv 1, rv w_EQUAL, .unset, .unset]) rfl ?_
          show Go p e below T61 (mkF m 26 #[iv p1, iv p2, iv r, iv 1, rv w_EQUAL, .unset, .unset] []) _
          refine XS.iconst X61.here hx rfl (hb hby at_26) ?_
          show Go p e below T61 (mkF m 27 #[iv p1, iv p2, iv r, iv 1, rv w_EQUAL, .unset, .unset] [(.int 2)]) _
          refine XS.istore X61.here hx rfl (hb hby at_27) rfl (l' := #[iv p1, iv p2, iv r, iv 1, rv w_EQUAL, iv 2, .unset]) rfl ?_
          show Go p e below T61 (mkF m 29 #[iv p1, iv p2, iv r, iv 1, rv w_EQUAL, iv 2, .unset] []) _
          refine XS.goto X61.here hx rfl (pc0 := 29) (pc' := 105) rfl (hb hby at_29) (by decide) (by decide) ?_
          show Go p e below T61 (mkF m 105 #[iv p1, iv p2, iv r, iv 1, rv w_EQUAL, iv 2, .unset] []) _
          refine XS.iload X61.here hx rfl (hb hby at_105) rfl ?_
          show Go p e below T61 (mkF m 107 #[iv p1, iv p2, iv r, iv 1, rv w_EQUAL, iv 2, .unset] [(.int 2)]) _
          refine XS.iloadN X61.here hx rfl (hb hby at_107) rfl ?_
          show Go p e below T61 (mkF m 108 #[iv p1, iv p2, iv r, iv 1, rv w_EQUAL, iv 2, .unset] [(.int 1), (.int 2)]) _
          refine XS.iconst X61.here hx rfl (hb hby at_108) ?_
          show Go p e below T61 (mkF m 109 #[iv p1, iv p2, iv r, iv 1, rv w_EQUAL, iv 2, .unset] [(.int 1), (.int 1), (.int 2)]) _
          refine XS.iadd X61.here hx rfl (hb hby at_109) rfl ?_
          show Go p e below T61 (mkF m 110 #[iv p1, iv p2, iv r, iv 1, rv w_EQUAL, iv 2, .unset] [(.int 2), (.int 2)]) _
          refine XS.ishr X61.here hx rfl (hb hby at_110) rfl ?_
          show Go p e below T61 (mkF m 111 #[iv p1, iv p2, iv r, iv 1, rv w_EQUAL, iv 2, .unset] [(.int ((2 : Int32) >>> ((2 : Int32) &&& 31)))]) _
          refine XS.iconst X61.here hx rfl (hb hby at_111) ?_
          show Go p e below T61 (mkF m 112 #[iv p1, iv p2, iv r, iv 1, rv w_EQUAL, iv 2, .unset] [(.int 1), (.int ((2 : Int32) >>> ((2 : Int32) &&& 31)))]) _
          refine XS.iand X61.here hx rfl (hb hby at_112) rfl ?_
          show Go p e below T61 (mkF m 113 #[iv p1, iv p2, iv r, iv 1, rv w_EQUAL, iv 2, .unset] [(.int (((2 : Int32) >>> ((2 : Int32) &&& 31)) &&& (1 : Int32)))]) _
          refine XS.ifYes X61.here hx rfl (pc0 := 113) (pc' := 120) rfl (hb hby at_113) rfl ((if0 _ _).trans (teq ((by decide) : (((2 : Int32) >>> ((2 : Int32) &&& 31)) &&& (1 : Int32)) = (0 : Int32))).1) (by decide) (by decide) ?_
          show Go p e below T61 (mkF m 120 #[iv p1, iv p2, iv r, iv 1, rv w_EQUAL, iv 2, .unset] []) _
          refine XS.iconst X61.here hx rfl (hb hby at_120) ?_
          show Go p e below T61 (mkF m 121 #[iv p1, iv p2, iv r, iv 1, rv w_EQUAL, iv 2, .unset] [(.int 0)]) _
          refine XS.istore X61.here hx rfl (hb hby at_121) rfl (l' := #[iv p1, iv p2, iv r, iv 1, rv w_EQUAL, iv 2, iv 0]) rfl ?_
          show Go p e below T61 (mkF m 123 #[iv p1, iv p2, iv r, iv 1, rv w_EQUAL, iv 2, iv 0] []) _
          refine XS.aload X61.here hx rfl (hb hby at_123) rfl rfl ?_
          show Go p e below T61 (mkF m 125 #[iv p1, iv p2, iv r, iv 1, rv w_EQUAL, iv 2, iv 0] [(.ref w_EQUAL)]) _
          refine XS.iloadN X61.here hx rfl (hb hby at_125) rfl ?_
          show Go p e below T61 (mkF m 126 #[iv p1, iv p2, iv r, iv 1, rv w_EQUAL, iv 2, iv 0] [(.int 1), (.ref w_EQUAL)]) _
          refine st62.trans ?_
          show Go p e below T62 (mkF m 129 #[iv p1, iv p2, iv r, iv 1, rv w_EQUAL, iv 2, iv 0] [(.int 0)]) _
          refine XS.iload X62.here hx rfl (hb hby at_129) rfl ?_
          show Go p e below T62 (mkF m 131 #[iv p1, iv p2, iv r, iv 1, rv w_EQUAL, iv 2, iv 0] [(.int 0), (.int 0)]) _
          refine XS.icmpNo X62.here hx rfl (hb hby at_131) rfl (teq ((by decide) : (0 : Int32) = (0 : Int32))).2 ?_
          show Go p e below T62 (mkF m 134 #[iv p1, iv p2, iv r, iv 1, rv w_EQUAL, iv 2, iv 0] []) _
          refine XS.iconst X62.here hx rfl (hb hby at_134) ?_
          show Go p e below T62 (mkF m 135 #[iv p1, iv p2, iv r, iv 1, rv w_EQUAL, iv 2, iv 0] [(.int 1)]) _
          refine XS.goto X62.here hx rfl (pc0 := 135) (pc' := 139) rfl (hb hby at_135) (by decide) (by decide) ?_
          show Go p e below T62 (mkF m 139 #[iv p1, iv p2, iv r, iv 1, rv w_EQUAL, iv 2, iv 0] [(.int 1)]) _
          exact kt)
      obtain ⟨fs, hr, hrun, hended, hW, hsame⟩ := X62.leave (v := some (.int 1)) (fun h => by rw [Bd.returns] at h; cases h)
      refine ⟨_, _, pre63 _ ?_, hrun, hended, _, _, rfl, ?_, ⟨_, rfl⟩, hW, hsame.mono (by decide) (by decide)⟩
      · show Steps p.tables e below (T62.setTop (mkF m 139 #[iv p1, iv p2, iv r, iv 1, rv w_EQUAL, iv 2, iv 0] [(.int 1)])) _
        exact retN X62 hx (t := .boolean) Bd.returns (by simp) (hb hby at_139) hr
      · show Q_rmL Z p1 p2 w_EQUAL w_NOT_EQUAL w_LESS w_LESS_EQUAL w_GREATER w_GREATER_EQUAL h0 n0 _ T62.heap _
        rw [e62q]
        exact ⟨rfl, N62⟩
    · have pre64 : ∀ t_, Go p e below s₁ (mkF m 34 #[iv p1, iv p2, iv r, iv 1, .unset, .unset, .unset] [(.int 1), (.int r)]) t_ → Go p e below s₁ (entryFrame m #[(.int p1), (.int p2)] maxLocals) t_ := fun t_ kt => pre59 _ (by
          show Go p e below s₁ (mkF m 18 #[iv p1, iv p2, iv r, iv 1, .unset, .unset, .unset] [(.int r)]) _
          refine XS.ifYes X0.here hx rfl (pc0 := 18) (pc' := 32) rfl (hb hby at_18) rfl ((if0 _ _).trans (feq hc18_60).2) (by decide) (by decide) ?_
          show Go p e below s₁ (mkF m 32 #[iv p1, iv p2, iv r, iv 1, .unset, .unset, .unset] []) _
          refine XS.iloadN X0.here hx rfl (hb hby at_32) rfl ?_
          show Go p e below s₁ (mkF m 33 #[iv p1, iv p2, iv r, iv 1, .unset, .unset, .unset] [(.int r)]) _
          refine XS.iconst X0.here hx rfl (hb hby at_33) ?_
          show Go p e below s₁ (mkF m 34 #[iv p1, iv p2, iv r, iv 1, .unset, .unset, .unset] [(.int 1), (.int r)]) _
          exact kt)
      by_cases hc34_65 : r = (1 : Int32)
      · obtain ⟨T66, X66, e66, st66⟩ := getS2 X0 hx hZ hown (host := "") (Or.inl (hwi hw 22 rfl)) Via.refl e0 S_NOT_EQUAL (g := (mkF m 37 #[iv p1, iv p2, iv r, iv 1, .unset, .unset, .unset] [])) rfl (hb hby at_37)
        obtain ⟨cq67, kq67, q67a, q67b, q67c⟩ := isOf hZ e66 E_NOT_EQUAL
        obtain ⟨_, _, ⟨T67, L67, k67, n67⟩, -, X67, ⟨Lc67, hQ67, l67, y67, z67⟩, st67⟩ := X66.virtualBack hx (y := (⟨"com/example/tandem_abstraction/tandemabstraction/cfa/Relation", "holds", "(I)Z"⟩ : MethodName)) (z := (⟨"com/example/tandem_abstraction/tandemabstraction/cfa/Relation", "holds", "(I)Z"⟩ : MethodName)) hown (mvT hZ (hwi hw 4 rfl)) (mvT hZ (hwi hw 5 rfl)) (notFace_of_selects (args := #[]) (mvT hZ (hwi hw 7 rfl))) (mvT hZ (hwi hw 7 rfl)) (mvT hZ (hwi hw 6 rfl)) (by decide) (backOf (W := 0) (rmH1 l Z a0 hw [] w_NOT_EQUAL (1 : Int32) h0 n0 Z0 E_NOT_EQUAL F_NOT_EQUAL) hZ (hwi hw 8 rfl) (hwi hw 2 rfl) (by decide) (by decide)) q67a q67c (g := (mkF m 126 #[iv p1, iv p2, iv r, iv 1, rv w_NOT_EQUAL, iv 5, iv 1] [(.int 1), (.ref w_NOT_EQUAL)])) rfl (by rw [hml]; rfl) (Steps.refl _) (argsL := [(.int 1)]) (rest := []) (lenOf pd_0 rfl) rfl (by show 2 * 0 + _ ≤ _; exact Nat.le_of_eq rfl) (hb hby at_126) (fun _ _ => ⟨rfl, e66, (by decide : 0 + 0 ≤ _), (by decide : 0 + 0 ≤ _)⟩)
        dsimp only [Pt.U, Pt.locs, Pt.cells, Pt.slots] at X67 l67 y67 z67 st67 hQ67
        subst l67 y67 z67
        obtain ⟨hv67, N67q, e67q⟩ := hQ67
        have N67 := Fr.app N0 N67q
        rw [show (if ¬ (1 : Int32) = 0 then (1 : Int32) else 0) = 1 from by decide] at hv67
        subst hv67
        have pre68 : ∀ t_, Go p e below T67 (mkF m 139 #[iv p1, iv p2, iv r, iv 1, rv w_NOT_EQUAL, iv 5, iv 1] [(.int 1)]) t_ → Go p e below s₁ (entryFrame m #[(.int p1), (.int p2)] maxLocals) t_ := fun t_ kt => pre64 _ (by
            show Go p e below s₁ (mkF m 34 #[iv p1, iv p2, iv r, iv 1, .unset, .unset, .unset] [(.int 1), (.int r)]) _
            refine XS.icmpNo X0.here hx rfl (hb hby at_34) rfl (teq hc34_65).2 ?_
            show Go p e below s₁ (mkF m 37 #[iv p1, iv p2, iv r, iv 1, .unset, .unset, .unset] []) _
            refine st66 _ ?_
            show Go p e below T66 (mkF m 40 #[iv p1, iv p2, iv r, iv 1, .unset, .unset, .unset] [(.ref w_NOT_EQUAL)]) _
            refine XS.astore X66.here hx rfl (hb hby at_40) rfl rfl (l' := #[iv p1, iv p2, iv r, iv 1, rv w_NOT_EQUAL, .unset, .unset]) rfl ?_
            show Go p e below T66 (mkF m 42 #[iv p1, iv p2, iv r, iv 1, rv w_NOT_EQUAL, .unset, .unset] []) _
            refine XS.iconst X66.here hx rfl (hb hby at_42) ?_
            show Go p e below T66 (mkF m 43 #[iv p1, iv p2, iv r, iv 1, rv w_NOT_EQUAL, .unset, .unset] [(.int 5)]) _
            refine XS.istore X66.here hx rfl (hb hby at_43) rfl (l' := #[iv p1, iv p2, iv r, iv 1, rv w_NOT_EQUAL, iv 5, .unset]) rfl ?_
            show Go p e below T66 (mkF m 45 #[iv p1, iv p2, iv r, iv 1, rv w_NOT_EQUAL, iv 5, .unset] []) _
            refine XS.goto X66.here hx rfl (pc0 := 45) (pc' := 105) rfl (hb hby at_45) (by decide) (by decide) ?_
            show Go p e below T66 (mkF m 105 #[iv p1, iv p2, iv r, iv 1, rv w_NOT_EQUAL, iv 5, .unset] []) _
            refine XS.iload X66.here hx rfl (hb hby at_105) rfl ?_
            show Go p e below T66 (mkF m 107 #[iv p1, iv p2, iv r, iv 1, rv w_NOT_EQUAL, iv 5, .unset] [(.int 5)]) _
            refine XS.iloadN X66.here hx rfl (hb hby at_107) rfl ?_
            show Go p e below T66 (mkF m 108 #[iv p1, iv p2, iv r, iv 1, rv w_NOT_EQUAL, iv 5, .unset] [(.int 1), (.int 5)]) _
            refine XS.iconst X66.here hx rfl (hb hby at_108) ?_
            show Go p e below T66 (mkF m 109 #[iv p1, iv p2, iv r, iv 1, rv w_NOT_EQUAL, iv 5, .unset] [(.int 1), (.int 1), (.int 5)]) _
            refine XS.iadd X66.here hx rfl (hb hby at_109) rfl ?_
            show Go p e below T66 (mkF m 110 #[iv p1, iv p2, iv r, iv 1, rv w_NOT_EQUAL, iv 5, .unset] [(.int 2), (.int 5)]) _
            refine XS.ishr X66.here hx rfl (hb hby at_110) rfl ?_
            show Go p e below T66 (mkF m 111 #[iv p1, iv p2, iv r, iv 1, rv w_NOT_EQUAL, iv 5, .unset] [(.int ((5 : Int32) >>> ((2 : Int32) &&& 31)))]) _
            refine XS.iconst X66.here hx rfl (hb hby at_111) ?_
            show Go p e below T66 (mkF m 112 #[iv p1, iv p2, iv r, iv 1, rv w_NOT_EQUAL, iv 5, .unset] [(.int 1), (.int ((5 : Int32) >>> ((2 : Int32) &&& 31)))]) _
            refine XS.iand X66.here hx rfl (hb hby at_112) rfl ?_
            show Go p e below T66 (mkF m 113 #[iv p1, iv p2, iv r, iv 1, rv w_NOT_EQUAL, iv 5, .unset] [(.int (((5 : Int32) >>> ((2 : Int32) &&& 31)) &&& (1 : Int32)))]) _
            refine XS.ifNo X66.here hx rfl (hb hby at_113) rfl ((if0 _ _).trans (feq ((by decide) : ¬ ((((5 : Int32) >>> ((2 : Int32) &&& 31)) &&& (1 : Int32)) = (0 : Int32)))).1) ?_
            show Go p e below T66 (mkF m 116 #[iv p1, iv p2, iv r, iv 1, rv w_NOT_EQUAL, iv 5, .unset] []) _
            refine XS.iconst X66.here hx rfl (hb hby at_116) ?_
            show Go p e below T66 (mkF m 117 #[iv p1, iv p2, iv r, iv 1, rv w_NOT_EQUAL, iv 5, .unset] [(.int 1)]) _
            refine XS.goto X66.here hx rfl (pc0 := 117) (pc' := 121) rfl (hb hby at_117) (by decide) (by decide) ?_
            show Go p e below T66 (mkF m 121 #[iv p1, iv p2, iv r, iv 1, rv w_NOT_EQUAL, iv 5, .unset] [(.int 1)]) _
            refine XS.istore X66.here hx rfl (hb hby at_121) rfl (l' := #[iv p1, iv p2, iv r, iv 1, rv w_NOT_EQUAL, iv 5, iv 1]) rfl ?_
            show Go p e below T66 (mkF m 123 #[iv p1, iv p2, iv r, iv 1, rv w_NOT_EQUAL, iv 5, iv 1] []) _
            refine XS.aload X66.here hx rfl (hb hby at_123) rfl rfl ?_
            show Go p e below T66 (mkF m 125 #[iv p1, iv p2, iv r, iv 1, rv w_NOT_EQUAL, iv 5, iv 1] [(.ref w_NOT_EQUAL)]) _
            refine XS.iloadN X66.here hx rfl (hb hby at_125) rfl ?_
            show Go p e below T66 (mkF m 126 #[iv p1, iv p2, iv r, iv 1, rv w_NOT_EQUAL, iv 5, iv 1] [(.int 1), (.ref w_NOT_EQUAL)]) _
            refine st67.trans ?_
            show Go p e below T67 (mkF m 129 #[iv p1, iv p2, iv r, iv 1, rv w_NOT_EQUAL, iv 5, iv 1] [(.int 1)]) _
            refine XS.iload X67.here hx rfl (hb hby at_129) rfl ?_
            show Go p e below T67 (mkF m 131 #[iv p1, iv p2, iv r, iv 1, rv w_NOT_EQUAL, iv 5, iv 1] [(.int 1), (.int 1)]) _
            refine XS.icmpNo X67.here hx rfl (hb hby at_131) rfl (teq ((by decide) : (1 : Int32) = (1 : Int32))).2 ?_
            show Go p e below T67 (mkF m 134 #[iv p1, iv p2, iv r, iv 1, rv w_NOT_EQUAL, iv 5, iv 1] []) _
            refine XS.iconst X67.here hx rfl (hb hby at_134) ?_
            show Go p e below T67 (mkF m 135 #[iv p1, iv p2, iv r, iv 1, rv w_NOT_EQUAL, iv 5, iv 1] [(.int 1)]) _
            refine XS.goto X67.here hx rfl (pc0 := 135) (pc' := 139) rfl (hb hby at_135) (by decide) (by decide) ?_
            show Go p e below T67 (mkF m 139 #[iv p1, iv p2, iv r, iv 1, rv w_NOT_EQUAL, iv 5, iv 1] [(.int 1)]) _
            exact kt)
        obtain ⟨fs, hr, hrun, hended, hW, hsame⟩ := X67.leave (v := some (.int 1)) (fun h => by rw [Bd.returns] at h; cases h)
        refine ⟨_, _, pre68 _ ?_, hrun, hended, _, _, rfl, ?_, ⟨_, rfl⟩, hW, hsame.mono (by decide) (by decide)⟩
        · show Steps p.tables e below (T67.setTop (mkF m 139 #[iv p1, iv p2, iv r, iv 1, rv w_NOT_EQUAL, iv 5, iv 1] [(.int 1)])) _
          exact retN X67 hx (t := .boolean) Bd.returns (by simp) (hb hby at_139) hr
        · show Q_rmL Z p1 p2 w_EQUAL w_NOT_EQUAL w_LESS w_LESS_EQUAL w_GREATER w_GREATER_EQUAL h0 n0 _ T67.heap _
          rw [e67q]
          exact ⟨rfl, N67⟩
      · have pre69 : ∀ t_, Go p e below s₁ (mkF m 50 #[iv p1, iv p2, iv r, iv 1, .unset, .unset, .unset] [(.int 2), (.int r)]) t_ → Go p e below s₁ (entryFrame m #[(.int p1), (.int p2)] maxLocals) t_ := fun t_ kt => pre64 _ (by
            show Go p e below s₁ (mkF m 34 #[iv p1, iv p2, iv r, iv 1, .unset, .unset, .unset] [(.int 1), (.int r)]) _
            refine XS.icmpYes X0.here hx rfl (pc0 := 34) (pc' := 48) rfl (hb hby at_34) rfl (feq hc34_65).2 (by decide) (by decide) ?_
            show Go p e below s₁ (mkF m 48 #[iv p1, iv p2, iv r, iv 1, .unset, .unset, .unset] []) _
            refine XS.iloadN X0.here hx rfl (hb hby at_48) rfl ?_
            show Go p e below s₁ (mkF m 49 #[iv p1, iv p2, iv r, iv 1, .unset, .unset, .unset] [(.int r)]) _
            refine XS.iconst X0.here hx rfl (hb hby at_49) ?_
            show Go p e below s₁ (mkF m 50 #[iv p1, iv p2, iv r, iv 1, .unset, .unset, .unset] [(.int 2), (.int r)]) _
            exact kt)
        by_cases hc50_70 : r = (2 : Int32)
        · obtain ⟨T71, X71, e71, st71⟩ := getS2 X0 hx hZ hown (host := "") (Or.inl (hwi hw 18 rfl)) Via.refl e0 S_LESS (g := (mkF m 53 #[iv p1, iv p2, iv r, iv 1, .unset, .unset, .unset] [])) rfl (hb hby at_53)
          obtain ⟨cq72, kq72, q72a, q72b, q72c⟩ := isOf hZ e71 E_LESS
          obtain ⟨_, _, ⟨T72, L72, k72, n72⟩, -, X72, ⟨Lc72, hQ72, l72, y72, z72⟩, st72⟩ := X71.virtualBack hx (y := (⟨"com/example/tandem_abstraction/tandemabstraction/cfa/Relation", "holds", "(I)Z"⟩ : MethodName)) (z := (⟨"com/example/tandem_abstraction/tandemabstraction/cfa/Relation", "holds", "(I)Z"⟩ : MethodName)) hown (mvT hZ (hwi hw 4 rfl)) (mvT hZ (hwi hw 5 rfl)) (notFace_of_selects (args := #[]) (mvT hZ (hwi hw 7 rfl))) (mvT hZ (hwi hw 7 rfl)) (mvT hZ (hwi hw 6 rfl)) (by decide) (backOf (W := 0) (rmH2 l Z a0 hw [] w_LESS (1 : Int32) h0 n0 Z0 E_LESS F_LESS) hZ (hwi hw 8 rfl) (hwi hw 2 rfl) (by decide) (by decide)) q72a q72c (g := (mkF m 126 #[iv p1, iv p2, iv r, iv 1, rv w_LESS, iv 1, iv 0] [(.int 1), (.ref w_LESS)])) rfl (by rw [hml]; rfl) (Steps.refl _) (argsL := [(.int 1)]) (rest := []) (lenOf pd_0 rfl) rfl (by show 2 * 0 + _ ≤ _; exact Nat.le_of_eq rfl) (hb hby at_126) (fun _ _ => ⟨rfl, e71, (by decide : 0 + 0 ≤ _), (by decide : 0 + 0 ≤ _)⟩)
          dsimp only [Pt.U, Pt.locs, Pt.cells, Pt.slots] at X72 l72 y72 z72 st72 hQ72
          subst l72 y72 z72
          obtain ⟨hv72, N72q, e72q⟩ := hQ72
          have N72 := Fr.app N0 N72q
          rw [show (if (1 : Int32) < 0 then (1 : Int32) else 0) = 0 from by decide] at hv72
          subst hv72
          have pre73 : ∀ t_, Go p e below T72 (mkF m 139 #[iv p1, iv p2, iv r, iv 1, rv w_LESS, iv 1, iv 0] [(.int 1)]) t_ → Go p e below s₁ (entryFrame m #[(.int p1), (.int p2)] maxLocals) t_ := fun t_ kt => pre69 _ (by
              show Go p e below s₁ (mkF m 50 #[iv p1, iv p2, iv r, iv 1, .unset, .unset, .unset] [(.int 2), (.int r)]) _
              refine XS.icmpNo X0.here hx rfl (hb hby at_50) rfl (teq hc50_70).2 ?_
              show Go p e below s₁ (mkF m 53 #[iv p1, iv p2, iv r, iv 1, .unset, .unset, .unset] []) _
              refine st71 _ ?_
              show Go p e below T71 (mkF m 56 #[iv p1, iv p2, iv r, iv 1, .unset, .unset, .unset] [(.ref w_LESS)]) _
              refine XS.astore X71.here hx rfl (hb hby at_56) rfl rfl (l' := #[iv p1, iv p2, iv r, iv 1, rv w_LESS, .unset, .unset]) rfl ?_
              show Go p e below T71 (mkF m 58 #[iv p1, iv p2, iv r, iv 1, rv w_LESS, .unset, .unset] []) _
              refine XS.iconst X71.here hx rfl (hb hby at_58) ?_
              show Go p e below T71 (mkF m 59 #[iv p1, iv p2, iv r, iv 1, rv w_LESS, .unset, .unset] [(.int 1)]) _
              refine XS.istore X71.here hx rfl (hb hby at_59) rfl (l' := #[iv p1, iv p2, iv r, iv 1, rv w_LESS, iv 1, .unset]) rfl ?_
              show Go p e below T71 (mkF m 61 #[iv p1, iv p2, iv r, iv 1, rv w_LESS, iv 1, .unset] []) _
              refine XS.goto X71.here hx rfl (pc0 := 61) (pc' := 105) rfl (hb hby at_61) (by decide) (by decide) ?_
              show Go p e below T71 (mkF m 105 #[iv p1, iv p2, iv r, iv 1, rv w_LESS, iv 1, .unset] []) _
              refine XS.iload X71.here hx rfl (hb hby at_105) rfl ?_
              show Go p e below T71 (mkF m 107 #[iv p1, iv p2, iv r, iv 1, rv w_LESS, iv 1, .unset] [(.int 1)]) _
              refine XS.iloadN X71.here hx rfl (hb hby at_107) rfl ?_
              show Go p e below T71 (mkF m 108 #[iv p1, iv p2, iv r, iv 1, rv w_LESS, iv 1, .unset] [(.int 1), (.int 1)]) _
              refine XS.iconst X71.here hx rfl (hb hby at_108) ?_
              show Go p e below T71 (mkF m 109 #[iv p1, iv p2, iv r, iv 1, rv w_LESS, iv 1, .unset] [(.int 1), (.int 1), (.int 1)]) _
              refine XS.iadd X71.here hx rfl (hb hby at_109) rfl ?_
              show Go p e below T71 (mkF m 110 #[iv p1, iv p2, iv r, iv 1, rv w_LESS, iv 1, .unset] [(.int 2), (.int 1)]) _
              refine XS.ishr X71.here hx rfl (hb hby at_110) rfl ?_
              show Go p e below T71 (mkF m 111 #[iv p1, iv p2, iv r, iv 1, rv w_LESS, iv 1, .unset] [(.int ((1 : Int32) >>> ((2 : Int32) &&& 31)))]) _
              refine XS.iconst X71.here hx rfl (hb hby at_111) ?_
              show Go p e below T71 (mkF m 112 #[iv p1, iv p2, iv r, iv 1, rv w_LESS, iv 1, .unset] [(.int 1), (.int ((1 : Int32) >>> ((2 : Int32) &&& 31)))]) _
              refine XS.iand X71.here hx rfl (hb hby at_112) rfl ?_
              show Go p e below T71 (mkF m 113 #[iv p1, iv p2, iv r, iv 1, rv w_LESS, iv 1, .unset] [(.int (((1 : Int32) >>> ((2 : Int32) &&& 31)) &&& (1 : Int32)))]) _
              refine XS.ifYes X71.here hx rfl (pc0 := 113) (pc' := 120) rfl (hb hby at_113) rfl ((if0 _ _).trans (teq ((by decide) : (((1 : Int32) >>> ((2 : Int32) &&& 31)) &&& (1 : Int32)) = (0 : Int32))).1) (by decide) (by decide) ?_
              show Go p e below T71 (mkF m 120 #[iv p1, iv p2, iv r, iv 1, rv w_LESS, iv 1, .unset] []) _
              refine XS.iconst X71.here hx rfl (hb hby at_120) ?_
              show Go p e below T71 (mkF m 121 #[iv p1, iv p2, iv r, iv 1, rv w_LESS, iv 1, .unset] [(.int 0)]) _
              refine XS.istore X71.here hx rfl (hb hby at_121) rfl (l' := #[iv p1, iv p2, iv r, iv 1, rv w_LESS, iv 1, iv 0]) rfl ?_
              show Go p e below T71 (mkF m 123 #[iv p1, iv p2, iv r, iv 1, rv w_LESS, iv 1, iv 0] []) _
              refine XS.aload X71.here hx rfl (hb hby at_123) rfl rfl ?_
              show Go p e below T71 (mkF m 125 #[iv p1, iv p2, iv r, iv 1, rv w_LESS, iv 1, iv 0] [(.ref w_LESS)]) _
              refine XS.iloadN X71.here hx rfl (hb hby at_125) rfl ?_
              show Go p e below T71 (mkF m 126 #[iv p1, iv p2, iv r, iv 1, rv w_LESS, iv 1, iv 0] [(.int 1), (.ref w_LESS)]) _
              refine st72.trans ?_
              show Go p e below T72 (mkF m 129 #[iv p1, iv p2, iv r, iv 1, rv w_LESS, iv 1, iv 0] [(.int 0)]) _
              refine XS.iload X72.here hx rfl (hb hby at_129) rfl ?_
              show Go p e below T72 (mkF m 131 #[iv p1, iv p2, iv r, iv 1, rv w_LESS, iv 1, iv 0] [(.int 0), (.int 0)]) _
              refine XS.icmpNo X72.here hx rfl (hb hby at_131) rfl (teq ((by decide) : (0 : Int32) = (0 : Int32))).2 ?_
              show Go p e below T72 (mkF m 134 #[iv p1, iv p2, iv r, iv 1, rv w_LESS, iv 1, iv 0] []) _
              refine XS.iconst X72.here hx rfl (hb hby at_134) ?_
              show Go p e below T72 (mkF m 135 #[iv p1, iv p2, iv r, iv 1, rv w_LESS, iv 1, iv 0] [(.int 1)]) _
              refine XS.goto X72.here hx rfl (pc0 := 135) (pc' := 139) rfl (hb hby at_135) (by decide) (by decide) ?_
              show Go p e below T72 (mkF m 139 #[iv p1, iv p2, iv r, iv 1, rv w_LESS, iv 1, iv 0] [(.int 1)]) _
              exact kt)
          obtain ⟨fs, hr, hrun, hended, hW, hsame⟩ := X72.leave (v := some (.int 1)) (fun h => by rw [Bd.returns] at h; cases h)
          refine ⟨_, _, pre73 _ ?_, hrun, hended, _, _, rfl, ?_, ⟨_, rfl⟩, hW, hsame.mono (by decide) (by decide)⟩
          · show Steps p.tables e below (T72.setTop (mkF m 139 #[iv p1, iv p2, iv r, iv 1, rv w_LESS, iv 1, iv 0] [(.int 1)])) _
            exact retN X72 hx (t := .boolean) Bd.returns (by simp) (hb hby at_139) hr
          · show Q_rmL Z p1 p2 w_EQUAL w_NOT_EQUAL w_LESS w_LESS_EQUAL w_GREATER w_GREATER_EQUAL h0 n0 _ T72.heap _
            rw [e72q]
            exact ⟨rfl, N72⟩
        · have pre74 : ∀ t_, Go p e below s₁ (mkF m 66 #[iv p1, iv p2, iv r, iv 1, .unset, .unset, .unset] [(.int 3), (.int r)]) t_ → Go p e below s₁ (entryFrame m #[(.int p1), (.int p2)] maxLocals) t_ := fun t_ kt => pre69 _ (by
              show Go p e below s₁ (mkF m 50 #[iv p1, iv p2, iv r, iv 1, .unset, .unset, .unset] [(.int 2), (.int r)]) _
              refine XS.icmpYes X0.here hx rfl (pc0 := 50) (pc' := 64) rfl (hb hby at_50) rfl (feq hc50_70).2 (by decide) (by decide) ?_
              show Go p e below s₁ (mkF m 64 #[iv p1, iv p2, iv r, iv 1, .unset, .unset, .unset] []) _
              refine XS.iloadN X0.here hx rfl (hb hby at_64) rfl ?_
              show Go p e below s₁ (mkF m 65 #[iv p1, iv p2, iv r, iv 1, .unset, .unset, .unset] [(.int r)]) _
              refine XS.iconst X0.here hx rfl (hb hby at_65) ?_
              show Go p e below s₁ (mkF m 66 #[iv p1, iv p2, iv r, iv 1, .unset, .unset, .unset] [(.int 3), (.int r)]) _
              exact kt)
          by_cases hc66_75 : r = (3 : Int32)
          · obtain ⟨T76, X76, e76, st76⟩ := getS2 X0 hx hZ hown (host := "") (Or.inl (hwi hw 26 rfl)) Via.refl e0 S_LESS_EQUAL (g := (mkF m 69 #[iv p1, iv p2, iv r, iv 1, .unset, .unset, .unset] [])) rfl (hb hby at_69)
            obtain ⟨cq77, kq77, q77a, q77b, q77c⟩ := isOf hZ e76 E_LESS_EQUAL
            obtain ⟨_, _, ⟨T77, L77, k77, n77⟩, -, X77, ⟨Lc77, hQ77, l77, y77, z77⟩, st77⟩ := X76.virtualBack hx (y := (⟨"com/example/tandem_abstraction/tandemabstraction/cfa/Relation", "holds", "(I)Z"⟩ : MethodName)) (z := (⟨"com/example/tandem_abstraction/tandemabstraction/cfa/Relation", "holds", "(I)Z"⟩ : MethodName)) hown (mvT hZ (hwi hw 4 rfl)) (mvT hZ (hwi hw 5 rfl)) (notFace_of_selects (args := #[]) (mvT hZ (hwi hw 7 rfl))) (mvT hZ (hwi hw 7 rfl)) (mvT hZ (hwi hw 6 rfl)) (by decide) (backOf (W := 0) (rmH3 l Z a0 hw [] w_LESS_EQUAL (1 : Int32) h0 n0 Z0 E_LESS_EQUAL F_LESS_EQUAL) hZ (hwi hw 8 rfl) (hwi hw 2 rfl) (by decide) (by decide)) q77a q77c (g := (mkF m 126 #[iv p1, iv p2, iv r, iv 1, rv w_LESS_EQUAL, iv 3, iv 0] [(.int 1), (.ref w_LESS_EQUAL)])) rfl (by rw [hml]; rfl) (Steps.refl _) (argsL := [(.int 1)]) (rest := []) (lenOf pd_0 rfl) rfl (by show 2 * 0 + _ ≤ _; exact Nat.le_of_eq rfl) (hb hby at_126) (fun _ _ => ⟨rfl, e76, (by decide : 0 + 0 ≤ _), (by decide : 0 + 0 ≤ _)⟩)
            dsimp only [Pt.U, Pt.locs, Pt.cells, Pt.slots] at X77 l77 y77 z77 st77 hQ77
            subst l77 y77 z77
            obtain ⟨hv77, N77q, e77q⟩ := hQ77
            have N77 := Fr.app N0 N77q
            rw [show (if ¬ 0 < (1 : Int32) then (1 : Int32) else 0) = 0 from by decide] at hv77
            subst hv77
            have pre78 : ∀ t_, Go p e below T77 (mkF m 139 #[iv p1, iv p2, iv r, iv 1, rv w_LESS_EQUAL, iv 3, iv 0] [(.int 1)]) t_ → Go p e below s₁ (entryFrame m #[(.int p1), (.int p2)] maxLocals) t_ := fun t_ kt => pre74 _ (by
                show Go p e below s₁ (mkF m 66 #[iv p1, iv p2, iv r, iv 1, .unset, .unset, .unset] [(.int 3), (.int r)]) _
                refine XS.icmpNo X0.here hx rfl (hb hby at_66) rfl (teq hc66_75).2 ?_
                show Go p e below s₁ (mkF m 69 #[iv p1, iv p2, iv r, iv 1, .unset, .unset, .unset] []) _
                refine st76 _ ?_
                show Go p e below T76 (mkF m 72 #[iv p1, iv p2, iv r, iv 1, .unset, .unset, .unset] [(.ref w_LESS_EQUAL)]) _
                refine XS.astore X76.here hx rfl (hb hby at_72) rfl rfl (l' := #[iv p1, iv p2, iv r, iv 1, rv w_LESS_EQUAL, .unset, .unset]) rfl ?_
                show Go p e below T76 (mkF m 74 #[iv p1, iv p2, iv r, iv 1, rv w_LESS_EQUAL, .unset, .unset] []) _
                refine XS.iconst X76.here hx rfl (hb hby at_74) ?_
                show Go p e below T76 (mkF m 75 #[iv p1, iv p2, iv r, iv 1, rv w_LESS_EQUAL, .unset, .unset] [(.int 3)]) _
                refine XS.istore X76.here hx rfl (hb hby at_75) rfl (l' := #[iv p1, iv p2, iv r, iv 1, rv w_LESS_EQUAL, iv 3, .unset]) rfl ?_
                show Go p e below T76 (mkF m 77 #[iv p1, iv p2, iv r, iv 1, rv w_LESS_EQUAL, iv 3, .unset] []) _
                refine XS.goto X76.here hx rfl (pc0 := 77) (pc' := 105) rfl (hb hby at_77) (by decide) (by decide) ?_
                show Go p e below T76 (mkF m 105 #[iv p1, iv p2, iv r, iv 1, rv w_LESS_EQUAL, iv 3, .unset] []) _
                refine XS.iload X76.here hx rfl (hb hby at_105) rfl ?_
                show Go p e below T76 (mkF m 107 #[iv p1, iv p2, iv r, iv 1, rv w_LESS_EQUAL, iv 3, .unset] [(.int 3)]) _
                refine XS.iloadN X76.here hx rfl (hb hby at_107) rfl ?_
                show Go p e below T76 (mkF m 108 #[iv p1, iv p2, iv r, iv 1, rv w_LESS_EQUAL, iv 3, .unset] [(.int 1), (.int 3)]) _
                refine XS.iconst X76.here hx rfl (hb hby at_108) ?_
                show Go p e below T76 (mkF m 109 #[iv p1, iv p2, iv r, iv 1, rv w_LESS_EQUAL, iv 3, .unset] [(.int 1), (.int 1), (.int 3)]) _
                refine XS.iadd X76.here hx rfl (hb hby at_109) rfl ?_
                show Go p e below T76 (mkF m 110 #[iv p1, iv p2, iv r, iv 1, rv w_LESS_EQUAL, iv 3, .unset] [(.int 2), (.int 3)]) _
                refine XS.ishr X76.here hx rfl (hb hby at_110) rfl ?_
                show Go p e below T76 (mkF m 111 #[iv p1, iv p2, iv r, iv 1, rv w_LESS_EQUAL, iv 3, .unset] [(.int ((3 : Int32) >>> ((2 : Int32) &&& 31)))]) _
                refine XS.iconst X76.here hx rfl (hb hby at_111) ?_
                show Go p e below T76 (mkF m 112 #[iv p1, iv p2, iv r, iv 1, rv w_LESS_EQUAL, iv 3, .unset] [(.int 1), (.int ((3 : Int32) >>> ((2 : Int32) &&& 31)))]) _
                refine XS.iand X76.here hx rfl (hb hby at_112) rfl ?_
                show Go p e below T76 (mkF m 113 #[iv p1, iv p2, iv r, iv 1, rv w_LESS_EQUAL, iv 3, .unset] [(.int (((3 : Int32) >>> ((2 : Int32) &&& 31)) &&& (1 : Int32)))]) _
                refine XS.ifYes X76.here hx rfl (pc0 := 113) (pc' := 120) rfl (hb hby at_113) rfl ((if0 _ _).trans (teq ((by decide) : (((3 : Int32) >>> ((2 : Int32) &&& 31)) &&& (1 : Int32)) = (0 : Int32))).1) (by decide) (by decide) ?_
                show Go p e below T76 (mkF m 120 #[iv p1, iv p2, iv r, iv 1, rv w_LESS_EQUAL, iv 3, .unset] []) _
                refine XS.iconst X76.here hx rfl (hb hby at_120) ?_
                show Go p e below T76 (mkF m 121 #[iv p1, iv p2, iv r, iv 1, rv w_LESS_EQUAL, iv 3, .unset] [(.int 0)]) _
                refine XS.istore X76.here hx rfl (hb hby at_121) rfl (l' := #[iv p1, iv p2, iv r, iv 1, rv w_LESS_EQUAL, iv 3, iv 0]) rfl ?_
                show Go p e below T76 (mkF m 123 #[iv p1, iv p2, iv r, iv 1, rv w_LESS_EQUAL, iv 3, iv 0] []) _
                refine XS.aload X76.here hx rfl (hb hby at_123) rfl rfl ?_
                show Go p e below T76 (mkF m 125 #[iv p1, iv p2, iv r, iv 1, rv w_LESS_EQUAL, iv 3, iv 0] [(.ref w_LESS_EQUAL)]) _
                refine XS.iloadN X76.here hx rfl (hb hby at_125) rfl ?_
                show Go p e below T76 (mkF m 126 #[iv p1, iv p2, iv r, iv 1, rv w_LESS_EQUAL, iv 3, iv 0] [(.int 1), (.ref w_LESS_EQUAL)]) _
                refine st77.trans ?_
                show Go p e below T77 (mkF m 129 #[iv p1, iv p2, iv r, iv 1, rv w_LESS_EQUAL, iv 3, iv 0] [(.int 0)]) _
                refine XS.iload X77.here hx rfl (hb hby at_129) rfl ?_
                show Go p e below T77 (mkF m 131 #[iv p1, iv p2, iv r, iv 1, rv w_LESS_EQUAL, iv 3, iv 0] [(.int 0), (.int 0)]) _
                refine XS.icmpNo X77.here hx rfl (hb hby at_131) rfl (teq ((by decide) : (0 : Int32) = (0 : Int32))).2 ?_
                show Go p e below T77 (mkF m 134 #[iv p1, iv p2, iv r, iv 1, rv w_LESS_EQUAL, iv 3, iv 0] []) _
                refine XS.iconst X77.here hx rfl (hb hby at_134) ?_
                show Go p e below T77 (mkF m 135 #[iv p1, iv p2, iv r, iv 1, rv w_LESS_EQUAL, iv 3, iv 0] [(.int 1)]) _
                refine XS.goto X77.here hx rfl (pc0 := 135) (pc' := 139) rfl (hb hby at_135) (by decide) (by decide) ?_
                show Go p e below T77 (mkF m 139 #[iv p1, iv p2, iv r, iv 1, rv w_LESS_EQUAL, iv 3, iv 0] [(.int 1)]) _
                exact kt)
            obtain ⟨fs, hr, hrun, hended, hW, hsame⟩ := X77.leave (v := some (.int 1)) (fun h => by rw [Bd.returns] at h; cases h)
            refine ⟨_, _, pre78 _ ?_, hrun, hended, _, _, rfl, ?_, ⟨_, rfl⟩, hW, hsame.mono (by decide) (by decide)⟩
            · show Steps p.tables e below (T77.setTop (mkF m 139 #[iv p1, iv p2, iv r, iv 1, rv w_LESS_EQUAL, iv 3, iv 0] [(.int 1)])) _
              exact retN X77 hx (t := .boolean) Bd.returns (by simp) (hb hby at_139) hr
            · show Q_rmL Z p1 p2 w_EQUAL w_NOT_EQUAL w_LESS w_LESS_EQUAL w_GREATER w_GREATER_EQUAL h0 n0 _ T77.heap _
              rw [e77q]
              exact ⟨rfl, N77⟩
          · have pre79 : ∀ t_, Go p e below s₁ (mkF m 82 #[iv p1, iv p2, iv r, iv 1, .unset, .unset, .unset] [(.int 4), (.int r)]) t_ → Go p e below s₁ (entryFrame m #[(.int p1), (.int p2)] maxLocals) t_ := fun t_ kt => pre74 _ (by
                show Go p e below s₁ (mkF m 66 #[iv p1, iv p2, iv r, iv 1, .unset, .unset, .unset] [(.int 3), (.int r)]) _
                refine XS.icmpYes X0.here hx rfl (pc0 := 66) (pc' := 80) rfl (hb hby at_66) rfl (feq hc66_75).2 (by decide) (by decide) ?_
                show Go p e below s₁ (mkF m 80 #[iv p1, iv p2, iv r, iv 1, .unset, .unset, .unset] []) _
                refine XS.iloadN X0.here hx rfl (hb hby at_80) rfl ?_
                show Go p e below s₁ (mkF m 81 #[iv p1, iv p2, iv r, iv 1, .unset, .unset, .unset] [(.int r)]) _
                refine XS.iconst X0.here hx rfl (hb hby at_81) ?_
                show Go p e below s₁ (mkF m 82 #[iv p1, iv p2, iv r, iv 1, .unset, .unset, .unset] [(.int 4), (.int r)]) _
                exact kt)
            by_cases hc82_80 : r = (4 : Int32)
            · obtain ⟨T81, X81, e81, st81⟩ := getS2 X0 hx hZ hown (host := "") (Or.inl (hwi hw 20 rfl)) Via.refl e0 S_GREATER (g := (mkF m 85 #[iv p1, iv p2, iv r, iv 1, .unset, .unset, .unset] [])) rfl (hb hby at_85)
              obtain ⟨cq82, kq82, q82a, q82b, q82c⟩ := isOf hZ e81 E_GREATER
              obtain ⟨_, _, ⟨T82, L82, k82, n82⟩, -, X82, ⟨Lc82, hQ82, l82, y82, z82⟩, st82⟩ := X81.virtualBack hx (y := (⟨"com/example/tandem_abstraction/tandemabstraction/cfa/Relation", "holds", "(I)Z"⟩ : MethodName)) (z := (⟨"com/example/tandem_abstraction/tandemabstraction/cfa/Relation", "holds", "(I)Z"⟩ : MethodName)) hown (mvT hZ (hwi hw 4 rfl)) (mvT hZ (hwi hw 5 rfl)) (notFace_of_selects (args := #[]) (mvT hZ (hwi hw 7 rfl))) (mvT hZ (hwi hw 7 rfl)) (mvT hZ (hwi hw 6 rfl)) (by decide) (backOf (W := 0) (rmH4 l Z a0 hw [] w_GREATER (1 : Int32) h0 n0 Z0 E_GREATER F_GREATER) hZ (hwi hw 8 rfl) (hwi hw 2 rfl) (by decide) (by decide)) q82a q82c (g := (mkF m 126 #[iv p1, iv p2, iv r, iv 1, rv w_GREATER, iv 4, iv 1] [(.int 1), (.ref w_GREATER)])) rfl (by rw [hml]; rfl) (Steps.refl _) (argsL := [(.int 1)]) (rest := []) (lenOf pd_0 rfl) rfl (by show 2 * 0 + _ ≤ _; exact Nat.le_of_eq rfl) (hb hby at_126) (fun _ _ => ⟨rfl, e81, (by decide : 0 + 0 ≤ _), (by decide : 0 + 0 ≤ _)⟩)
              dsimp only [Pt.U, Pt.locs, Pt.cells, Pt.slots] at X82 l82 y82 z82 st82 hQ82
              subst l82 y82 z82
              obtain ⟨hv82, N82q, e82q⟩ := hQ82
              have N82 := Fr.app N0 N82q
              rw [show (if 0 < (1 : Int32) then (1 : Int32) else 0) = 1 from by decide] at hv82
              subst hv82
              have pre83 : ∀ t_, Go p e below T82 (mkF m 139 #[iv p1, iv p2, iv r, iv 1, rv w_GREATER, iv 4, iv 1] [(.int 1)]) t_ → Go p e below s₁ (entryFrame m #[(.int p1), (.int p2)] maxLocals) t_ := fun t_ kt => pre79 _ (by
                  show Go p e below s₁ (mkF m 82 #[iv p1, iv p2, iv r, iv 1, .unset, .unset, .unset] [(.int 4), (.int r)]) _
                  refine XS.icmpNo X0.here hx rfl (hb hby at_82) rfl (teq hc82_80).2 ?_
                  show Go p e below s₁ (mkF m 85 #[iv p1, iv p2, iv r, iv 1, .unset, .unset, .unset] []) _
                  refine st81 _ ?_
                  show Go p e below T81 (mkF m 88 #[iv p1, iv p2, iv r, iv 1, .unset, .unset, .unset] [(.ref w_GREATER)]) _
                  refine XS.astore X81.here hx rfl (hb hby at_88) rfl rfl (l' := #[iv p1, iv p2, iv r, iv 1, rv w_GREATER, .unset, .unset]) rfl ?_
                  show Go p e below T81 (mkF m 90 #[iv p1, iv p2, iv r, iv 1, rv w_GREATER, .unset, .unset] []) _
                  refine XS.iconst X81.here hx rfl (hb hby at_90) ?_
                  show Go p e below T81 (mkF m 91 #[iv p1, iv p2, iv r, iv 1, rv w_GREATER, .unset, .unset] [(.int 4)]) _
                  refine XS.istore X81.here hx rfl (hb hby at_91) rfl (l' := #[iv p1, iv p2, iv r, iv 1, rv w_GREATER, iv 4, .unset]) rfl ?_
                  show Go p e below T81 (mkF m 93 #[iv p1, iv p2, iv r, iv 1, rv w_GREATER, iv 4, .unset] []) _
                  refine XS.goto X81.here hx rfl (pc0 := 93) (pc' := 105) rfl (hb hby at_93) (by decide) (by decide) ?_
                  show Go p e below T81 (mkF m 105 #[iv p1, iv p2, iv r, iv 1, rv w_GREATER, iv 4, .unset] []) _
                  refine XS.iload X81.here hx rfl (hb hby at_105) rfl ?_
                  show Go p e below T81 (mkF m 107 #[iv p1, iv p2, iv r, iv 1, rv w_GREATER, iv 4, .unset] [(.int 4)]) _
                  refine XS.iloadN X81.here hx rfl (hb hby at_107) rfl ?_
                  show Go p e below T81 (mkF m 108 #[iv p1, iv p2, iv r, iv 1, rv w_GREATER, iv 4, .unset] [(.int 1), (.int 4)]) _
                  refine XS.iconst X81.here hx rfl (hb hby at_108) ?_
                  show Go p e below T81 (mkF m 109 #[iv p1, iv p2, iv r, iv 1, rv w_GREATER, iv 4, .unset] [(.int 1), (.int 1), (.int 4)]) _
                  refine XS.iadd X81.here hx rfl (hb hby at_109) rfl ?_
                  show Go p e below T81 (mkF m 110 #[iv p1, iv p2, iv r, iv 1, rv w_GREATER, iv 4, .unset] [(.int 2), (.int 4)]) _
                  refine XS.ishr X81.here hx rfl (hb hby at_110) rfl ?_
                  show Go p e below T81 (mkF m 111 #[iv p1, iv p2, iv r, iv 1, rv w_GREATER, iv 4, .unset] [(.int ((4 : Int32) >>> ((2 : Int32) &&& 31)))]) _
                  refine XS.iconst X81.here hx rfl (hb hby at_111) ?_
                  show Go p e below T81 (mkF m 112 #[iv p1, iv p2, iv r, iv 1, rv w_GREATER, iv 4, .unset] [(.int 1), (.int ((4 : Int32) >>> ((2 : Int32) &&& 31)))]) _
                  refine XS.iand X81.here hx rfl (hb hby at_112) rfl ?_
                  show Go p e below T81 (mkF m 113 #[iv p1, iv p2, iv r, iv 1, rv w_GREATER, iv 4, .unset] [(.int (((4 : Int32) >>> ((2 : Int32) &&& 31)) &&& (1 : Int32)))]) _
                  refine XS.ifNo X81.here hx rfl (hb hby at_113) rfl ((if0 _ _).trans (feq ((by decide) : ¬ ((((4 : Int32) >>> ((2 : Int32) &&& 31)) &&& (1 : Int32)) = (0 : Int32)))).1) ?_
                  show Go p e below T81 (mkF m 116 #[iv p1, iv p2, iv r, iv 1, rv w_GREATER, iv 4, .unset] []) _
                  refine XS.iconst X81.here hx rfl (hb hby at_116) ?_
                  show Go p e below T81 (mkF m 117 #[iv p1, iv p2, iv r, iv 1, rv w_GREATER, iv 4, .unset] [(.int 1)]) _
                  refine XS.goto X81.here hx rfl (pc0 := 117) (pc' := 121) rfl (hb hby at_117) (by decide) (by decide) ?_
                  show Go p e below T81 (mkF m 121 #[iv p1, iv p2, iv r, iv 1, rv w_GREATER, iv 4, .unset] [(.int 1)]) _
                  refine XS.istore X81.here hx rfl (hb hby at_121) rfl (l' := #[iv p1, iv p2, iv r, iv 1, rv w_GREATER, iv 4, iv 1]) rfl ?_
                  show Go p e below T81 (mkF m 123 #[iv p1, iv p2, iv r, iv 1, rv w_GREATER, iv 4, iv 1] []) _
                  refine XS.aload X81.here hx rfl (hb hby at_123) rfl rfl ?_
                  show Go p e below T81 (mkF m 125 #[iv p1, iv p2, iv r, iv 1, rv w_GREATER, iv 4, iv 1] [(.ref w_GREATER)]) _
                  refine XS.iloadN X81.here hx rfl (hb hby at_125) rfl ?_
                  show Go p e below T81 (mkF m 126 #[iv p1, iv p2, iv r, iv 1, rv w_GREATER, iv 4, iv 1] [(.int 1), (.ref w_GREATER)]) _
                  refine st82.trans ?_
                  show Go p e below T82 (mkF m 129 #[iv p1, iv p2, iv r, iv 1, rv w_GREATER, iv 4, iv 1] [(.int 1)]) _
                  refine XS.iload X82.here hx rfl (hb hby at_129) rfl ?_
                  show Go p e below T82 (mkF m 131 #[iv p1, iv p2, iv r, iv 1, rv w_GREATER, iv 4, iv 1] [(.int 1), (.int 1)]) _
                  refine XS.icmpNo X82.here hx rfl (hb hby at_131) rfl (teq ((by decide) : (1 : Int32) = (1 : Int32))).2 ?_
                  show Go p e below T82 (mkF m 134 #[iv p1, iv p2, iv r, iv 1, rv w_GREATER, iv 4, iv 1] []) _
                  refine XS.iconst X82.here hx rfl (hb hby at_134) ?_
                  show Go p e below T82 (mkF m 135 #[iv p1, iv p2, iv r, iv 1, rv w_GREATER, iv 4, iv 1] [(.int 1)]) _
                  refine XS.goto X82.here hx rfl (pc0 := 135) (pc' := 139) rfl (hb hby at_135) (by decide) (by decide) ?_
                  show Go p e below T82 (mkF m 139 #[iv p1, iv p2, iv r, iv 1, rv w_GREATER, iv 4, iv 1] [(.int 1)]) _
                  exact kt)
              obtain ⟨fs, hr, hrun, hended, hW, hsame⟩ := X82.leave (v := some (.int 1)) (fun h => by rw [Bd.returns] at h; cases h)
              refine ⟨_, _, pre83 _ ?_, hrun, hended, _, _, rfl, ?_, ⟨_, rfl⟩, hW, hsame.mono (by decide) (by decide)⟩
              · show Steps p.tables e below (T82.setTop (mkF m 139 #[iv p1, iv p2, iv r, iv 1, rv w_GREATER, iv 4, iv 1] [(.int 1)])) _
                exact retN X82 hx (t := .boolean) Bd.returns (by simp) (hb hby at_139) hr
              · show Q_rmL Z p1 p2 w_EQUAL w_NOT_EQUAL w_LESS w_LESS_EQUAL w_GREATER w_GREATER_EQUAL h0 n0 _ T82.heap _
                rw [e82q]
                exact ⟨rfl, N82⟩
            · obtain ⟨T84, X84, e84, st84⟩ := getS2 X0 hx hZ hown (host := "") (Or.inl (hwi hw 24 rfl)) Via.refl e0 S_GREATER_EQUAL (g := (mkF m 96 #[iv p1, iv p2, iv r, iv 1, .unset, .unset, .unset] [])) rfl (hb hby at_96)
              obtain ⟨cq85, kq85, q85a, q85b, q85c⟩ := isOf hZ e84 E_GREATER_EQUAL
              obtain ⟨_, _, ⟨T85, L85, k85, n85⟩, -, X85, ⟨Lc85, hQ85, l85, y85, z85⟩, st85⟩ := X84.virtualBack hx (y := (⟨"com/example/tandem_abstraction/tandemabstraction/cfa/Relation", "holds", "(I)Z"⟩ : MethodName)) (z := (⟨"com/example/tandem_abstraction/tandemabstraction/cfa/Relation", "holds", "(I)Z"⟩ : MethodName)) hown (mvT hZ (hwi hw 4 rfl)) (mvT hZ (hwi hw 5 rfl)) (notFace_of_selects (args := #[]) (mvT hZ (hwi hw 7 rfl))) (mvT hZ (hwi hw 7 rfl)) (mvT hZ (hwi hw 6 rfl)) (by decide) (backOf (W := 0) (rmH5 l Z a0 hw [] w_GREATER_EQUAL (1 : Int32) h0 n0 Z0 E_GREATER_EQUAL F_GREATER_EQUAL) hZ (hwi hw 8 rfl) (hwi hw 2 rfl) (by decide) (by decide)) q85a q85c (g := (mkF m 126 #[iv p1, iv p2, iv r, iv 1, rv w_GREATER_EQUAL, iv 6, iv 1] [(.int 1), (.ref w_GREATER_EQUAL)])) rfl (by rw [hml]; rfl) (Steps.refl _) (argsL := [(.int 1)]) (rest := []) (lenOf pd_0 rfl) rfl (by show 2 * 0 + _ ≤ _; exact Nat.le_of_eq rfl) (hb hby at_126) (fun _ _ => ⟨rfl, e84, (by decide : 0 + 0 ≤ _), (by decide : 0 + 0 ≤ _)⟩)
              dsimp only [Pt.U, Pt.locs, Pt.cells, Pt.slots] at X85 l85 y85 z85 st85 hQ85
              subst l85 y85 z85
              obtain ⟨hv85, N85q, e85q⟩ := hQ85
              have N85 := Fr.app N0 N85q
              rw [show (if ¬ (1 : Int32) < 0 then (1 : Int32) else 0) = 1 from by decide] at hv85
              subst hv85
              have pre86 : ∀ t_, Go p e below T85 (mkF m 139 #[iv p1, iv p2, iv r, iv 1, rv w_GREATER_EQUAL, iv 6, iv 1] [(.int 1)]) t_ → Go p e below s₁ (entryFrame m #[(.int p1), (.int p2)] maxLocals) t_ := fun t_ kt => pre79 _ (by
                  show Go p e below s₁ (mkF m 82 #[iv p1, iv p2, iv r, iv 1, .unset, .unset, .unset] [(.int 4), (.int r)]) _
                  refine XS.icmpYes X0.here hx rfl (pc0 := 82) (pc' := 96) rfl (hb hby at_82) rfl (feq hc82_80).2 (by decide) (by decide) ?_
                  show Go p e below s₁ (mkF m 96 #[iv p1, iv p2, iv r, iv 1, .unset, .unset, .unset] []) _
                  refine st84 _ ?_
                  show Go p e below T84 (mkF m 99 #[iv p1, iv p2, iv r, iv 1, .unset, .unset, .unset] [(.ref w_GREATER_EQUAL)]) _
                  refine XS.astore X84.here hx rfl (hb hby at_99) rfl rfl (l' := #[iv p1, iv p2, iv r, iv 1, rv w_GREATER_EQUAL, .unset, .unset]) rfl ?_
                  show Go p e below T84 (mkF m 101 #[iv p1, iv p2, iv r, iv 1, rv w_GREATER_EQUAL, .unset, .unset] []) _
                  refine XS.bipush X84.here hx rfl (hb hby at_101) ?_
                  show Go p e below T84 (mkF m 103 #[iv p1, iv p2, iv r, iv 1, rv w_GREATER_EQUAL, .unset, .unset] [(.int 6)]) _
                  refine XS.istore X84.here hx rfl (hb hby at_103) rfl (l' := #[iv p1, iv p2, iv r, iv 1, rv w_GREATER_EQUAL, iv 6, .unset]) rfl ?_
                  show Go p e below T84 (mkF m 105 #[iv p1, iv p2, iv r, iv 1, rv w_GREATER_EQUAL, iv 6, .unset] []) _
                  refine XS.iload X84.here hx rfl (hb hby at_105) rfl ?_
                  show Go p e below T84 (mkF m 107 #[iv p1, iv p2, iv r, iv 1, rv w_GREATER_EQUAL, iv 6, .unset] [(.int 6)]) _
                  refine XS.iloadN X84.here hx rfl (hb hby at_107) rfl ?_
                  show Go p e below T84 (mkF m 108 #[iv p1, iv p2, iv r, iv 1, rv w_GREATER_EQUAL, iv 6, .unset] [(.int 1), (.int 6)]) _
                  refine XS.iconst X84.here hx rfl (hb hby at_108) ?_
                  show Go p e below T84 (mkF m 109 #[iv p1, iv p2, iv r, iv 1, rv w_GREATER_EQUAL, iv 6, .unset] [(.int 1), (.int 1), (.int 6)]) _
                  refine XS.iadd X84.here hx rfl (hb hby at_109) rfl ?_
                  show Go p e below T84 (mkF m 110 #[iv p1, iv p2, iv r, iv 1, rv w_GREATER_EQUAL, iv 6, .unset] [(.int 2), (.int 6)]) _
                  refine XS.ishr X84.here hx rfl (hb hby at_110) rfl ?_
                  show Go p e below T84 (mkF m 111 #[iv p1, iv p2, iv r, iv 1, rv w_GREATER_EQUAL, iv 6, .unset] [(.int ((6 : Int32) >>> ((2 : Int32) &&& 31)))]) _
                  refine XS.iconst X84.here hx rfl (hb hby at_111) ?_
                  show Go p e below T84 (mkF m 112 #[iv p1, iv p2, iv r, iv 1, rv w_GREATER_EQUAL, iv 6, .unset] [(.int 1), (.int ((6 : Int32) >>> ((2 : Int32) &&& 31)))]) _
                  refine XS.iand X84.here hx rfl (hb hby at_112) rfl ?_
                  show Go p e below T84 (mkF m 113 #[iv p1, iv p2, iv r, iv 1, rv w_GREATER_EQUAL, iv 6, .unset] [(.int (((6 : Int32) >>> ((2 : Int32) &&& 31)) &&& (1 : Int32)))]) _
                  refine XS.ifNo X84.here hx rfl (hb hby at_113) rfl ((if0 _ _).trans (feq ((by decide) : ¬ ((((6 : Int32) >>> ((2 : Int32) &&& 31)) &&& (1 : Int32)) = (0 : Int32)))).1) ?_
                  show Go p e below T84 (mkF m 116 #[iv p1, iv p2, iv r, iv 1, rv w_GREATER_EQUAL, iv 6, .unset] []) _
                  refine XS.iconst X84.here hx rfl (hb hby at_116) ?_
                  show Go p e below T84 (mkF m 117 #[iv p1, iv p2, iv r, iv 1, rv w_GREATER_EQUAL, iv 6, .unset] [(.int 1)]) _
                  refine XS.goto X84.here hx rfl (pc0 := 117) (pc' := 121) rfl (hb hby at_117) (by decide) (by decide) ?_
                  show Go p e below T84 (mkF m 121 #[iv p1, iv p2, iv r, iv 1, rv w_GREATER_EQUAL, iv 6, .unset] [(.int 1)]) _
                  refine XS.istore X84.here hx rfl (hb hby at_121) rfl (l' := #[iv p1, iv p2, iv r, iv 1, rv w_GREATER_EQUAL, iv 6, iv 1]) rfl ?_
                  show Go p e below T84 (mkF m 123 #[iv p1, iv p2, iv r, iv 1, rv w_GREATER_EQUAL, iv 6, iv 1] []) _
                  refine XS.aload X84.here hx rfl (hb hby at_123) rfl rfl ?_
                  show Go p e below T84 (mkF m 125 #[iv p1, iv p2, iv r, iv 1, rv w_GREATER_EQUAL, iv 6, iv 1] [(.ref w_GREATER_EQUAL)]) _
                  refine XS.iloadN X84.here hx rfl (hb hby at_125) rfl ?_
                  show Go p e below T84 (mkF m 126 #[iv p1, iv p2, iv r, iv 1, rv w_GREATER_EQUAL, iv 6, iv 1] [(.int 1), (.ref w_GREATER_EQUAL)]) _
                  refine st85.trans ?_
                  show Go p e below T85 (mkF m 129 #[iv p1, iv p2, iv r, iv 1, rv w_GREATER_EQUAL, iv 6, iv 1] [(.int 1)]) _
                  refine XS.iload X85.here hx rfl (hb hby at_129) rfl ?_
                  show Go p e below T85 (mkF m 131 #[iv p1, iv p2, iv r, iv 1, rv w_GREATER_EQUAL, iv 6, iv 1] [(.int 1), (.int 1)]) _
                  refine XS.icmpNo X85.here hx rfl (hb hby at_131) rfl (teq ((by decide) : (1 : Int32) = (1 : Int32))).2 ?_
                  show Go p e below T85 (mkF m 134 #[iv p1, iv p2, iv r, iv 1, rv w_GREATER_EQUAL, iv 6, iv 1] []) _
                  refine XS.iconst X85.here hx rfl (hb hby at_134) ?_
                  show Go p e below T85 (mkF m 135 #[iv p1, iv p2, iv r, iv 1, rv w_GREATER_EQUAL, iv 6, iv 1] [(.int 1)]) _
                  refine XS.goto X85.here hx rfl (pc0 := 135) (pc' := 139) rfl (hb hby at_135) (by decide) (by decide) ?_
                  show Go p e below T85 (mkF m 139 #[iv p1, iv p2, iv r, iv 1, rv w_GREATER_EQUAL, iv 6, iv 1] [(.int 1)]) _
                  exact kt)
              obtain ⟨fs, hr, hrun, hended, hW, hsame⟩ := X85.leave (v := some (.int 1)) (fun h => by rw [Bd.returns] at h; cases h)
              refine ⟨_, _, pre86 _ ?_, hrun, hended, _, _, rfl, ?_, ⟨_, rfl⟩, hW, hsame.mono (by decide) (by decide)⟩
              · show Steps p.tables e below (T85.setTop (mkF m 139 #[iv p1, iv p2, iv r, iv 1, rv w_GREATER_EQUAL, iv 6, iv 1] [(.int 1)])) _
                exact retN X85 hx (t := .boolean) Bd.returns (by simp) (hb hby at_139) hr
              · show Q_rmL Z p1 p2 w_EQUAL w_NOT_EQUAL w_LESS w_LESS_EQUAL w_GREATER w_GREATER_EQUAL h0 n0 _ T85.heap _
                rw [e85q]
                exact ⟨rfl, N85⟩
set_option maxRecDepth 65536 in
set_option maxHeartbeats 40000000 in
theorem comes_1 {Post : Tables → Env → Array Value → State → Outcome → State → Prop} (hpost : ∀ tb e args s v u, (limb_1_1.after args s (.returned v) u = true ∧ limb_1_2.after args s (.returned v) u = true ∧ True) → FrameEnd s (.returned v) u (Jvm.fieldLocs frame_1_writes args s ++ Jvm.arrayLocs frame_1_arrays args s ++ Jvm.staticLocs frame_1_statics s) 0 0 → Post tb e args s (.returned v) u) :
    ArmFor flags0 classFile x code maxLocals ret World_1 tables_1 room_1 Calls_1 rest_1 Pre_1 Post := by
  intro l hfl _ _ p e ha hc hk s m args below hf hA hF happ hP
  obtain ⟨hcalls, hrest, hpre⟩ := hP
  obtain ⟨-, -, -, hnamed, -, -, -, hat⟩ := (Spec.applies_iff hf).mp happ
  obtain ⟨hg, hn⟩ := and_e (Cond.before_iff.mp (show (Jvm.Cond.and given_1 narrow_1).before args s = true from hpre))
  obtain ⟨g1, g2⟩ := and_e hg
  obtain ⟨g3, g4⟩ := and_e g2
  obtain ⟨w0, w1, rfl⟩ : ∃ w0 w1 : Value, args = #[w0, w1] := by
    have hs : args.size = 2 := by simpa [Cond.value, given_1] using g1
    obtain ⟨L⟩ := args
    match L, hs with
    | [w0, w1], _ => exact ⟨w0, w1, rfl⟩
  have hw := fun d (hd : d ∈ tables_1) => atoms_spec (ws := Jvm.Cond.code x code maxLocals ret :: tables_1) hat d (List.mem_cons_of_mem _ hd)
  have hfit : Fit s := fun {y c} hc i hi => by
    obtain ⟨ha, rfl⟩ := Array.getElem?_eq_some_iff.mp hc
    have q := List.all_eq_true.mp ((Array.all_eq_true_iff_forall_mem.mp hF) _ (Array.getElem_mem ha)) i (List.mem_range.mpr hi)
    simpa [Array.getElem?_eq_getElem hi] using q
  obtain ⟨i0, ei0⟩ := is_v g3
  obtain rfl : w0 = (.int i0) := Option.some.inj ei0
  obtain ⟨i1, ei1⟩ := is_v g4
  obtain rfl : w1 = (.int i1) := Option.some.inj ei1
  obtain ⟨g5, g6⟩ := and_e hn
  obtain ⟨g7, g8⟩ := and_e g6
  obtain ⟨g9, g10⟩ := and_e g8
  obtain ⟨g11, g12⟩ := and_e g10
  obtain ⟨g13, g14⟩ := and_e g12
  obtain ⟨g15, g16⟩ := and_e g14
  obtain ⟨g17, g18⟩ := and_e g16
  obtain ⟨g19, g20⟩ := and_e g18
  obtain ⟨g21, g22⟩ := and_e g20
  obtain ⟨g23, g24⟩ := and_e g22
  obtain ⟨g25, g26⟩ := and_e g24
  obtain ⟨w_EQUAL, ev_EQUAL⟩ := exa_v g5
  have E_EQUAL : Exa s s.heap w_EQUAL "com/example/tandem_abstraction/tandemabstraction/cfa/Relation" := Exa.start ev_EQUAL g5
  have S_EQUAL : Sta s s.heap "com/example/tandem_abstraction/tandemabstraction/cfa/Relation" "EQUAL" "Lcom/example/tandem_abstraction/tandemabstraction/cfa/Relation;" (.ref w_EQUAL) := Sta.start ev_EQUAL (Or.inr ⟨(hwi hw 2 rfl), (hwi hw 3 rfl)⟩)
  obtain ⟨w_LESS, ev_LESS⟩ := exa_v g9
  have E_LESS : Exa s s.heap w_LESS "com/example/tandem_abstraction/tandemabstraction/cfa/Relation" := Exa.start ev_LESS g9
  have S_LESS : Sta s s.heap "com/example/tandem_abstraction/tandemabstraction/cfa/Relation" "LESS" "Lcom/example/tandem_abstraction/tandemabstraction/cfa/Relation;" (.ref w_LESS) := Sta.start ev_LESS (Or.inr ⟨(hwi hw 2 rfl), (hwi hw 19 rfl)⟩)
  obtain ⟨w_GREATER, ev_GREATER⟩ := exa_v g13
  have E_GREATER : Exa s s.heap w_GREATER "com/example/tandem_abstraction/tandemabstraction/cfa/Relation" := Exa.start ev_GREATER g13
  have S_GREATER : Sta s s.heap "com/example/tandem_abstraction/tandemabstraction/cfa/Relation" "GREATER" "Lcom/example/tandem_abstraction/tandemabstraction/cfa/Relation;" (.ref w_GREATER) := Sta.start ev_GREATER (Or.inr ⟨(hwi hw 2 rfl), (hwi hw 21 rfl)⟩)
  obtain ⟨w_NOT_EQUAL, ev_NOT_EQUAL⟩ := exa_v g17
  have E_NOT_EQUAL : Exa s s.heap w_NOT_EQUAL "com/example/tandem_abstraction/tandemabstraction/cfa/Relation" := Exa.start ev_NOT_EQUAL g17
  have S_NOT_EQUAL : Sta s s.heap "com/example/tandem_abstraction/tandemabstraction/cfa/Relation" "NOT_EQUAL" "Lcom/example/tandem_abstraction/tandemabstraction/cfa/Relation;" (.ref w_NOT_EQUAL) := Sta.start ev_NOT_EQUAL (Or.inr ⟨(hwi hw 2 rfl), (hwi hw 23 rfl)⟩)
  obtain ⟨w_GREATER_EQUAL, ev_GREATER_EQUAL⟩ := exa_v g21
  have E_GREATER_EQUAL : Exa s s.heap w_GREATER_EQUAL "com/example/tandem_abstraction/tandemabstraction/cfa/Relation" := Exa.start ev_GREATER_EQUAL g21
  have S_GREATER_EQUAL : Sta s s.heap "com/example/tandem_abstraction/tandemabstraction/cfa/Relation" "GREATER_EQUAL" "Lcom/example/tandem_abstraction/tandemabstraction/cfa/Relation;" (.ref w_GREATER_EQUAL) := Sta.start ev_GREATER_EQUAL (Or.inr ⟨(hwi hw 2 rfl), (hwi hw 25 rfl)⟩)
  obtain ⟨w_LESS_EQUAL, ev_LESS_EQUAL⟩ := exa_v g25
  have E_LESS_EQUAL : Exa s s.heap w_LESS_EQUAL "com/example/tandem_abstraction/tandemabstraction/cfa/Relation" := Exa.start ev_LESS_EQUAL g25
  have S_LESS_EQUAL : Sta s s.heap "com/example/tandem_abstraction/tandemabstraction/cfa/Relation" "LESS_EQUAL" "Lcom/example/tandem_abstraction/tandemabstraction/cfa/Relation;" (.ref w_LESS_EQUAL) := Sta.start ev_LESS_EQUAL (Or.inr ⟨(hwi hw 2 rfl), (hwi hw 27 rfl)⟩)
  have F_EQUAL : Fld s s.heap w_EQUAL "java/lang/Enum" "ordinal" "I" (.int (0 : Int32)) := Fld.start ((fld_at ev_EQUAL).symm.trans (eqv_i (Term.int_eval _) g7))
  have F_LESS : Fld s s.heap w_LESS "java/lang/Enum" "ordinal" "I" (.int (2 : Int32)) := Fld.start ((fld_at ev_LESS).symm.trans (eqv_i (Term.int_eval _) g11))
  have F_GREATER : Fld s s.heap w_GREATER "java/lang/Enum" "ordinal" "I" (.int (4 : Int32)) := Fld.start ((fld_at ev_GREATER).symm.trans (eqv_i (Term.int_eval _) g15))
  have F_NOT_EQUAL : Fld s s.heap w_NOT_EQUAL "java/lang/Enum" "ordinal" "I" (.int (1 : Int32)) := Fld.start ((fld_at ev_NOT_EQUAL).symm.trans (eqv_i (Term.int_eval _) g19))
  have F_GREATER_EQUAL : Fld s s.heap w_GREATER_EQUAL "java/lang/Enum" "ordinal" "I" (.int (5 : Int32)) := Fld.start ((fld_at ev_GREATER_EQUAL).symm.trans (eqv_i (Term.int_eval _) g23))
  have F_LESS_EQUAL : Fld s s.heap w_LESS_EQUAL "java/lang/Enum" "ordinal" "I" (.int (3 : Int32)) := Fld.start ((fld_at ev_LESS_EQUAL).symm.trans (eqv_i (Term.int_eval _) g26))
  obtain ⟨n, o, h1, h2, h3, _, L, rfl, ⟨rfl, N⟩, hq⟩ := rmL l s _ hw tables_1 i0 i1 w_EQUAL w_NOT_EQUAL w_LESS w_LESS_EQUAL w_GREATER w_GREATER_EQUAL s.heap s.heap.size (Nat.le_refl _) ⟨⟨S_EQUAL, E_EQUAL, F_EQUAL⟩, ⟨S_NOT_EQUAL, E_NOT_EQUAL, F_NOT_EQUAL⟩, ⟨S_LESS, E_LESS, F_LESS⟩, ⟨S_LESS_EQUAL, E_LESS_EQUAL, F_LESS_EQUAL⟩, ⟨S_GREATER, E_GREATER, F_GREATER⟩, ⟨S_GREATER_EQUAL, E_GREATER_EQUAL, F_GREATER_EQUAL⟩⟩ p e ha hc hk s m _ below hf ((Spec.applies_iff_loose hf).mp happ).1 ⟨rfl, State.Warmed39.refl s, rfl⟩ trivial
  refine ⟨n, _, h1, h2, h3, hpost _ _ _ _ _ _ ⟨Cond.after_iff.mpr rfl, Cond.after_iff.mpr (eq_i res_at (Term.int_eval (1)) rfl), trivial⟩ ⟨hq.1, hq.2.1, (hq.2.2.sift fun y hy => Or.inr (N y hy)).mono (by decide) (by decide)⟩⟩
theorem main_1_1 : Claimed_1_1 := comes_1 fun _ _ _ _ _ _ h hF => ⟨h.1, hF⟩
theorem main_1_2 : Claimed_1_2 := comes_1 fun _ _ _ _ _ _ h hF => ⟨h.2.1, hF⟩
end Jvm.Pilot.@@N@@
namespace Jvm.Pilot.@@N@@
open Jvm Jvm.ClassFile Sem Op Lib Jvm.Free Jvm.Stand Jvm.Pilot.@@N@@.Jvm.D
/-! MADE BY PROGRAM (witnessworld.py) out of the Statement's table words and the real class files: 12 classes; the members and pool entries that the words name. The judged class is class 1, her method 1. -/
namespace start1
open Jvm.ClassFile
def u (s : String) : CpInfo := .utf8 (stringToUtf16 s)
/-- a pool by its gaps: so many unusable entries, then the entry; so many at the end -/
def gap : Nat → List CpInfo → List CpInfo
  | 0, r => r
  | n + 1, r => .unusable :: gap n r
def poolList (es : List (Nat × CpInfo)) (last : Nat) : List CpInfo := es.foldr (fun e r => gap e.1 (e.2 :: r)) (gap last [])
def pool (es : List (Nat × CpInfo)) (last : Nat) : Array CpInfo := ⟨poolList es last⟩
def fileOf (pool : Array CpInfo) (this : Nat) (attrs : Array Attribute := #[]) (ms : Array MethodInfo := #[]) (fl : Nat := 33) (sup : Nat := 0) (ifs : Array Nat := #[]) (fds : Array FieldInfo := #[]) : ClassFile where
  minorVersion := 0
  majorVersion := 65
  constantPool := pool
  accessFlags := fl
  thisClass := this
  superClass := sup
  interfaces := ifs
  fields := fds
  methods := ms
  attributes := attrs
def plain (name : String) (sup : Option ClassId) : Class where
  name := name
  kind := .ordinary
  loader := none
  accessFlags := 33
  super := sup
  interfaces := #[]
  cf := none
  fields := #[]
  methods := #[]
  instanceTypes := #[]
  staticTypes := #[]
  resolved := #[]
  callSites := []
  init := .initialized
  statics := none
  mirror := none

def pool0 : Array CpInfo := pool [(5, u "<init>"), (0, u "()V"), (1, .class_ 10), (1, u "java/lang/Object")] 113

def k0m0 : Method := { name := "<init>", desc := "()V", sig := { parameters := [], returnType := none }, accessFlags := 1, code := none }
/-- java/lang/Object -/
def k0 : Class := { plain "java/lang/Object" none with
  accessFlags := 33
  interfaces := #[]
  cf := some (fileOf pool0 8 #[] #[{ accessFlags := 1, nameIndex := 5, descriptorIndex := 6, attributes := #[] }] 33 0 #[] #[])
  fields := #[]
  methods := #[k0m0]
  instanceTypes := #[]
  staticTypes := #[]
  resolved := Array.replicate 124 none
  statics := none }

def pool1 : Array CpInfo := pool [(2, .class_ 4), (1, u "java/lang/Object"), (0, u "<init>"), (0, u "()V"), (0, .integer 2147483647), (0, .fieldref 9 10), (0, .class_ 11), (0, .nameAndType 12 13), (0, u "com/example/tandem_abstraction/tandemabstraction/cfa/Relation"), (0, u "EQUAL"), (0, u "Lcom/example/tandem_abstraction/tandemabstraction/cfa/Relation;"), (0, .fieldref 9 15), (0, .nameAndType 16 13), (0, u "NOT_EQUAL"), (0, .fieldref 9 18), (0, .nameAndType 19 13), (0, u "LESS"), (0, .fieldref 9 21), (0, .nameAndType 22 13), (0, u "LESS_EQUAL"), (0, .fieldref 9 24), (0, .nameAndType 25 13), (0, u "GREATER"), (0, .fieldref 9 27), (0, .nameAndType 28 13), (0, u "GREATER_EQUAL"), (0, .methodref 9 30), (0, .nameAndType 31 32), (0, u "holds"), (0, u "(I)Z"), (0, .class_ 34), (0, u "com/example/tandem_abstraction/tandemabstraction/cfa/RelationHoldsPinLaw"), (2, u "law"), (0, u "(II)Z")] 3

def k1m0 : Method := { name := "<init>", desc := "()V", sig := { parameters := [], returnType := none }, accessFlags := 1, code := none }
def k1c1 : Code := { maxStack := 3, maxLocals := 7, code := code, exceptionTable := #[], attributes := #[] }
def k1m1 : Method := { name := "law", desc := "(II)Z", sig := { parameters := [.int, .int], returnType := some .boolean }, accessFlags := 9, code := some k1c1 }
/-- com/example/tandem_abstraction/tandemabstraction/cfa/RelationHoldsPinLaw -/
def k1 : Class := { plain "com/example/tandem_abstraction/tandemabstraction/cfa/RelationHoldsPinLaw" (some 0) with
  accessFlags := 49
  interfaces := #[]
  cf := some (fileOf pool1 33 #[] #[{ accessFlags := 1, nameIndex := 5, descriptorIndex := 6, attributes := #[] }, { accessFlags := 9, nameIndex := 37, descriptorIndex := 38, attributes := #[] }] 49 2 #[] #[])
  fields := #[]
  methods := #[k1m0, k1m1]
  instanceTypes := #[]
  staticTypes := #[]
  resolved := Array.replicate 42 none
  statics := none }

def pool2 : Array CpInfo := pool [(1, .class_ 2), (0, u "java/lang/constant/Constable"), (0, .class_ 4), (0, u "java/lang/Object")] 6

/-- java/lang/constant/Constable -/
def k2 : Class := { plain "java/lang/constant/Constable" (some 0) with
  accessFlags := 1537
  interfaces := #[]
  cf := some (fileOf pool2 1 #[] #[] 1537 3 #[] #[])
  fields := #[]
  methods := #[]
  instanceTypes := #[]
  staticTypes := #[]
  resolved := Array.replicate 11 none
  statics := none }

def pool3 : Array CpInfo := pool [(1, .class_ 2), (0, u "java/lang/Comparable"), (0, .class_ 4), (0, u "java/lang/Object")] 7

/-- java/lang/Comparable -/
def k3 : Class := { plain "java/lang/Comparable" (some 0) with
  accessFlags := 1537
  interfaces := #[]
  cf := some (fileOf pool3 1 #[] #[] 1537 3 #[] #[])
  fields := #[]
  methods := #[]
  instanceTypes := #[]
  staticTypes := #[]
  resolved := Array.replicate 12 none
  statics := none }

def pool4 : Array CpInfo := pool [(1, .class_ 2), (0, u "java/io/Serializable"), (0, .class_ 4), (0, u "java/lang/Object")] 2

/-- java/io/Serializable -/
def k4 : Class := { plain "java/io/Serializable" (some 0) with
  accessFlags := 1537
  interfaces := #[]
  cf := some (fileOf pool4 1 #[] #[] 1537 3 #[] #[])
  fields := #[]
  methods := #[]
  instanceTypes := #[]
  staticTypes := #[]
  resolved := Array.replicate 7 none
  statics := none }

def pool5 : Array CpInfo := pool [(2, .class_ 4), (1, u "java/lang/Enum"), (0, u "name"), (0, u "Ljava/lang/String;"), (0, .fieldref 2 8), (0, .nameAndType 9 10), (0, u "ordinal"), (0, u "I"), (1, .class_ 14), (1, u "java/lang/Object"), (4, u "hash"), (86, .class_ 108), (1, u "java/lang/Enum$EnumDesc"), (2, .class_ 112), (0, u "java/lang/constant/Constable"), (0, .class_ 114), (0, u "java/lang/Comparable"), (0, .class_ 116), (0, u "java/io/Serializable"), (9, u "()I")] 77

def k5c0 : Code := { maxStack := 1, maxLocals := 1, code := jdk_37_method_2_code, exceptionTable := #[], attributes := #[] }
def k5m0 : Method := { name := "ordinal", desc := "()I", sig := { parameters := [], returnType := some .int }, accessFlags := 17, code := some k5c0 }
/-- java/lang/Enum -/
def k5 : Class := { plain "java/lang/Enum" (some 0) with
  accessFlags := 1057
  interfaces := #[2, 3, 4]
  cf := some (fileOf pool5 2 #[.nestMembers #[106]] #[{ accessFlags := 17, nameIndex := 9, descriptorIndex := 126, attributes := #[] }] 1057 12 #[111, 113, 115] #[{ accessFlags := 18, nameIndex := 5, descriptorIndex := 6, attributes := #[] }, { accessFlags := 18, nameIndex := 9, descriptorIndex := 10, attributes := #[] }, { accessFlags := 2, nameIndex := 19, descriptorIndex := 10, attributes := #[] }])
  fields := #[{ name := "name", type := (.object "java/lang/String"), accessFlags := 18, slot := 0, constantValue := 0 }, { name := "ordinal", type := .int, accessFlags := 18, slot := 1, constantValue := 0 }, { name := "hash", type := .int, accessFlags := 2, slot := 2, constantValue := 0 }]
  methods := #[k5m0]
  instanceTypes := #[(.object "java/lang/String"), .int, .int]
  staticTypes := #[]
  resolved := Array.replicate 204 none
  statics := none }

def pool6 : Array CpInfo := pool [(1, .class_ 2), (0, u "com/example/tandem_abstraction/tandemabstraction/cfa/Relation"), (2, u "EQUAL"), (0, u "Lcom/example/tandem_abstraction/tandemabstraction/cfa/Relation;"), (2, u "NOT_EQUAL"), (2, u "LESS"), (2, u "LESS_EQUAL"), (2, u "GREATER"), (2, u "GREATER_EQUAL"), (2, u "$VALUES"), (0, u "[Lcom/example/tandem_abstraction/tandemabstraction/cfa/Relation;"), (6, .class_ 34), (1, u "java/lang/Enum"), (8, u "symbol"), (0, u "Ljava/lang/String;"), (0, .methodref 1 46), (0, .nameAndType 47 48), (0, u "ordinal"), (0, u "()I"), (40, u "holds"), (0, u "(I)Z")] 7

def k6c0 : Code := { maxStack := 4, maxLocals := 2, code := prog_39_method_5_code, exceptionTable := #[], attributes := #[] }
def k6m0 : Method := { name := "holds", desc := "(I)Z", sig := { parameters := [.int], returnType := some .boolean }, accessFlags := 1, code := some k6c0 }
/-- com/example/tandem_abstraction/tandemabstraction/cfa/Relation -/
def k6 : Class := { plain "com/example/tandem_abstraction/tandemabstraction/cfa/Relation" (some 5) with
  accessFlags := 16433
  interfaces := #[]
  cf := some (fileOf pool6 1 #[] #[{ accessFlags := 1, nameIndex := 89, descriptorIndex := 90, attributes := #[] }] 16433 32 #[] #[{ accessFlags := 16409, nameIndex := 5, descriptorIndex := 6, attributes := #[] }, { accessFlags := 16409, nameIndex := 9, descriptorIndex := 6, attributes := #[] }, { accessFlags := 16409, nameIndex := 12, descriptorIndex := 6, attributes := #[] }, { accessFlags := 16409, nameIndex := 15, descriptorIndex := 6, attributes := #[] }, { accessFlags := 16409, nameIndex := 18, descriptorIndex := 6, attributes := #[] }, { accessFlags := 16409, nameIndex := 21, descriptorIndex := 6, attributes := #[] }, { accessFlags := 18, nameIndex := 43, descriptorIndex := 44, attributes := #[] }, { accessFlags := 4122, nameIndex := 24, descriptorIndex := 25, attributes := #[] }])
  fields := #[{ name := "EQUAL", type := (.object "com/example/tandem_abstraction/tandemabstraction/cfa/Relation"), accessFlags := 16409, slot := 0, constantValue := 0 }, { name := "NOT_EQUAL", type := (.object "com/example/tandem_abstraction/tandemabstraction/cfa/Relation"), accessFlags := 16409, slot := 1, constantValue := 0 }, { name := "LESS", type := (.object "com/example/tandem_abstraction/tandemabstraction/cfa/Relation"), accessFlags := 16409, slot := 2, constantValue := 0 }, { name := "LESS_EQUAL", type := (.object "com/example/tandem_abstraction/tandemabstraction/cfa/Relation"), accessFlags := 16409, slot := 3, constantValue := 0 }, { name := "GREATER", type := (.object "com/example/tandem_abstraction/tandemabstraction/cfa/Relation"), accessFlags := 16409, slot := 4, constantValue := 0 }, { name := "GREATER_EQUAL", type := (.object "com/example/tandem_abstraction/tandemabstraction/cfa/Relation"), accessFlags := 16409, slot := 5, constantValue := 0 }, { name := "symbol", type := (.object "java/lang/String"), accessFlags := 18, slot := 3, constantValue := 0 }, { name := "$VALUES", type := (.array (.object "com/example/tandem_abstraction/tandemabstraction/cfa/Relation")), accessFlags := 4122, slot := 6, constantValue := 0 }]
  methods := #[k6m0]
  instanceTypes := #[(.object "java/lang/String"), .int, .int, (.object "java/lang/String")]
  staticTypes := #[(.object "com/example/tandem_abstraction/tandemabstraction/cfa/Relation"), (.object "com/example/tandem_abstraction/tandemabstraction/cfa/Relation"), (.object "com/example/tandem_abstraction/tandemabstraction/cfa/Relation"), (.object "com/example/tandem_abstraction/tandemabstraction/cfa/Relation"), (.object "com/example/tandem_abstraction/tandemabstraction/cfa/Relation"), (.object "com/example/tandem_abstraction/tandemabstraction/cfa/Relation"), (.array (.object "com/example/tandem_abstraction/tandemabstraction/cfa/Relation"))]
  resolved := Array.replicate 98 none
  statics := some 0 }

def pool7 : Array CpInfo := pool [(1, u "java/lang/Cloneable"), (0, .class_ 1), (0, u "java/lang/Object"), (0, .class_ 3)] 3

/-- java/lang/Cloneable -/
def k7 : Class := { plain "java/lang/Cloneable" (some 0) with
  accessFlags := 1537
  interfaces := #[]
  cf := some (fileOf pool7 2 #[] #[] 1537 4 #[] #[])
  fields := #[]
  methods := #[]
  instanceTypes := #[]
  staticTypes := #[]
  resolved := Array.replicate 8 none
  statics := none }

/-- the primitive byte -/
def k8 : Class := { plain "byte" none with kind := .primitive 'B', accessFlags := 0x411 }
/-- [B -/
def k9 : Class := { plain "[B" (some 0) with kind := .array 8 .byte, interfaces := #[7, 4], accessFlags := 1041 }

/-- the primitive int -/
def k10 : Class := { plain "int" none with kind := .primitive 'I', accessFlags := 0x411 }
/-- [I -/
def k11 : Class := { plain "[I" (some 0) with kind := .array 10 .int, interfaces := #[7, 4], accessFlags := 1041 }

def heap : Heap := #[{ cls := 6, slots := #[.ref 1, .ref 2, .ref 3, .ref 4, .ref 5, .ref 6, .null], vm := .statics 6 },
  { cls := 6, slots := #[.null, .int 0, .int 0, .null], vm := .none },
  { cls := 6, slots := #[.null, .int 1, .int 0, .null], vm := .none },
  { cls := 6, slots := #[.null, .int 2, .int 0, .null], vm := .none },
  { cls := 6, slots := #[.null, .int 3, .int 0, .null], vm := .none },
  { cls := 6, slots := #[.null, .int 4, .int 0, .null], vm := .none },
  { cls := 6, slots := #[.null, .int 5, .int 0, .null], vm := .none }]
def classes : Array Class := #[k0, k1, k2, k3, k4, k5, k6, k7, k8, k9, k10, k11]
def interned : List (Array UInt16 × Addr) := []
def slotsUsed : Nat := 31
def theMethod : MethodId := ⟨1, 1⟩
def args0 : Array Value := #[.int 5, .int 5]
def aboutOver (below : List Frame) : State where
  vm := { classes := classes, interned := interned.toArray }
  heap := heap
  slotsUsed := slotsUsed
  threads := #[{ frames := .invoking theMethod args0 :: below }]
def below0 : List Frame := [.native { method := ⟨0, 0⟩, args := #[] }]
def about1 : State := aboutOver below0
def p0 : Program := .bare "" "" ""
def e0 : Env := launch0.env 0 0 0
theorem w_frames : about1.frames = Frame.invoking theMethod args0 :: below0 := rfl
set_option maxRecDepth 65536 in
theorem w_args : argsFit about1.vm theMethod args0 = true := by decide +kernel
set_option maxRecDepth 65536 in
theorem w_heap : heapFits about1 = true := by decide +kernel
set_option maxRecDepth 65536 in
theorem w_runnable : about1.curStatus? = some .runnable := by decide +kernel
set_option maxRecDepth 65536 in
theorem w_alone : about1.alone = true := by decide +kernel
set_option maxRecDepth 65536 in
theorem w_named : about1.methodNamed? x = some theMethod := by decide +kernel
set_option maxRecDepth 65536 in
theorem w_hears : about1.hears theMethod below0 = true := by decide +kernel
set_option maxRecDepth 65536 in
theorem w_ripe : about1.ripe theMethod args0 below0 = true := by decide +kernel
theorem w_running : about1.status = .running := rfl
set_option maxRecDepth 65536 in
theorem w_room : about1.hasRoom e0.platform room_1 = true :=
  launch0.hasRoom_least _ room_1 (by decide +kernel) (by decide +kernel) (by decide +kernel) (by decide +kernel) (by decide +kernel) (by decide +kernel)
theorem allAtoms_all (ts : List Jvm.Cond) (a : Array Jvm.Value) (st : Jvm.State) : (allAtoms ts).before a st = ts.all (fun c => c.before a st) := by
  induction ts with
  | nil => rfl
  | cons c t ih =>
    show (Jvm.Cond.and c (allAtoms t)).before a st = _
    rw [Jvm.Cond.before_and, ih, List.all_cons]
def words1 : List Jvm.Cond := Jvm.Cond.code x code maxLocals ret :: tables_1
/-- a 'code' word, met by the world's own term for the bytes: nothing is compared byte by byte -/
theorem code_word {y : MethodName} {bytes : ByteArray} {mx : Nat} {rt : Option FieldType} {a : Array Value} {s : State} {m : MethodId} {meth : Method} {c : Code} (h1 : s.methodNamed? y = some m) (h2 : s.vm.method? m = some meth) (h3 : meth.code = some c) (h4 : c.code = bytes)
    (h5 : (c.maxLocals == mx && c.exceptionTable.isEmpty && decide (c.maxStack ≤ mostOperands) && decide (meth.sig.returnType = rt) && !meth.locks && decide (parseMethodDescriptor y.desc = some meth.sig)) = true) : (Jvm.Cond.code y bytes mx rt).before a s = true := by
  simp only [Bool.and_eq_true, beq_iff_eq, Bool.not_eq_true', decide_eq_true_eq] at h5
  obtain ⟨⟨⟨⟨⟨g1, g2⟩, g3⟩, g4⟩, g5⟩, g6⟩ := h5
  simp [Cond.before, Cond.holds, Cond.value, h1, h2, h3, h4, g1, g2, g3, g4, g5, g6]
def isCode : Jvm.Cond → Bool
  | .code _ _ _ _ => true
  | _ => false
theorem all_split {L : List Jvm.Cond} {P : Jvm.Cond → Bool} (h1 : L.all (fun c => isCode c || P c) = true) (h2 : ∀ c ∈ L.filter isCode, P c = true) : L.all P = true := by
  refine List.all_eq_true.mpr fun c hc => ?_
  have h := List.all_eq_true.mp h1 c hc
  rcases Bool.eq_false_or_eq_true (isCode c) with hi | hi
  · exact h2 c (List.mem_filter.mpr ⟨hc, hi⟩)
  · simpa [hi] using h
set_option maxRecDepth 65536 in
theorem w_c0 : (Jvm.Cond.code x code maxLocals ret).before args0 about1 = true := code_word (m := ⟨1, 1⟩) (meth := k1m1) (c := k1c1) (by decide +kernel) rfl rfl rfl (by decide +kernel)
set_option maxRecDepth 65536 in
theorem w_c1 : (Jvm.Cond.code ({ cls := "com/example/tandem_abstraction/tandemabstraction/cfa/Relation", name := "holds", desc := "(I)Z" } : Jvm.MethodName) prog_39_method_5_code (2 : Nat) (Option.some Jvm.ClassFile.FieldType.boolean)).before args0 about1 = true := code_word (m := ⟨6, 0⟩) (meth := k6m0) (c := k6c0) (by decide +kernel) rfl rfl rfl (by decide +kernel)
set_option maxRecDepth 65536 in
theorem w_c2 : (Jvm.Cond.code ({ cls := "java/lang/Enum", name := "ordinal", desc := "()I" } : Jvm.MethodName) jdk_37_method_2_code (1 : Nat) (Option.some Jvm.ClassFile.FieldType.int)).before args0 about1 = true := code_word (m := ⟨5, 0⟩) (meth := k5m0) (c := k5c0) (by decide +kernel) rfl rfl rfl (by decide +kernel)
def codes1 : List Jvm.Cond := [Jvm.Cond.code x code maxLocals ret, Jvm.Cond.code ({ cls := "com/example/tandem_abstraction/tandemabstraction/cfa/Relation", name := "holds", desc := "(I)Z" } : Jvm.MethodName) prog_39_method_5_code (2 : Nat) (Option.some Jvm.ClassFile.FieldType.boolean), Jvm.Cond.code ({ cls := "java/lang/Enum", name := "ordinal", desc := "()I" } : Jvm.MethodName) jdk_37_method_2_code (1 : Nat) (Option.some Jvm.ClassFile.FieldType.int)]
set_option maxRecDepth 65536 in
theorem codes_eq : words1.filter isCode = codes1 := rfl
theorem w_codes : ∀ c ∈ words1.filter isCode, c.before args0 about1 = true := by
  rw [codes_eq]
  intro c hc
  simp only [codes1, List.mem_cons, List.not_mem_nil, or_false] at hc
  rcases hc with rfl | rfl | rfl
  · exact w_c0
  · exact w_c1
  · exact w_c2
set_option maxRecDepth 65536 in
theorem w_t1 : (words1.take 24).all (fun c => isCode c || c.before args0 about1) = true := by decide +kernel
set_option maxRecDepth 65536 in
theorem w_t2 : (words1.drop 24).all (fun c => isCode c || c.before args0 about1) = true := by decide +kernel
theorem w_tables : (allAtoms (Jvm.Cond.code x code maxLocals ret :: tables_1)).before args0 about1 = true := by
  rw [allAtoms_all]
  show words1.all (fun c => c.before args0 about1) = true
  refine all_split ?_ w_codes
  rw [← List.take_append_drop 24 words1, List.all_append, w_t1, w_t2]
  rfl
set_option maxRecDepth 65536 in
theorem w_case : (Jvm.Cond.and given_1 narrow_1).before args0 about1 = true := by decide +kernel
theorem w_applies : (headSpec (Jvm.Cond.code x code maxLocals ret :: tables_1) room_1).applies x e0.platform about1 = true :=
  (Spec.applies_iff w_frames).mpr ⟨w_running, w_runnable, w_alone, w_named, w_hears, w_ripe, w_room, w_tables⟩
theorem atStart : AtStart classFile x code maxLocals ret World_1 tables_1 room_1 Calls_1 rest_1 Pre_1 launch0 p0 e0 about1 theMethod args0 below0 :=
  ⟨lists_1, trivial, launch0.admits_env _ _ _, launch0.least_env, fairChoices_fair.cas, fairChoices_fair.clock, w_frames, w_args, w_heap, w_applies, trivial, trivial, w_case⟩
end start1
theorem witness_1 : WitnessClaimed_1 := ⟨start1.p0, start1.e0, start1.about1, start1.theMethod, start1.args0, start1.below0, start1.atStart⟩
end Jvm.Pilot.@@N@@
