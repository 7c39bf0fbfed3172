import JvmDerived
import JvmDerived.Pilot.@@N@@Statement
import JvmDerived.Pilot.@@N@@Code
set_option linter.unusedVariables false
set_option linter.unusedSimpArgs false
namespace Jvm.RoadKit
open Sem ClassFile Op Lib Jvm.Stand Jvm.Free Jvm.LawKit
section New
variable {p : Program} {l : Launch} {e : Env} {R : Room} {s : State} {m : MethodId} {args : Array Value} {below : List Frame} {meth : Method} {c : Code} {T : State} {locs : List Loc} {cells slots : Nat}
theorem retI (X : Stand p l e R s m args below meth c T locs cells slots) (hx : p.tables.exec = Jvm.exec) {pc : Nat} {Ls : Array Slot} {z : Int32} {rest : List Value} (hret : meth.sig.returnType = some .int) (hd : decode c.code pc = .ok (.ireturn, 1)) {fs : List Frame}
    (hl : ∀ (f : JFrame) (acts : List Action), f.method = m → f.locked = none → f.entered = [] → (doReturn e (T.setTop f) acts (some (.int z))).1 = T.setFrames fs) : Steps p.tables e below (T.setTop (mkF m pc Ls (.int z :: rest))) (T.setFrames fs) := by
  have hm' : T.vm.method? m = some meth := X.method'
  have hn : narrow .int (.int z) = .int z := rfl
  show Steps p.tables e below (T.setTop { method := m, pc := pc, locals := Ls, stack := _ :: rest, locked := none }) _
  jvm_step X.here [X.here.top, hx, hd, hm', hret, hn]
  first | (intro acts; rw [hl _ acts rfl rfl rfl]) | rw [hl _ _ rfl rfl rfl]
  exact Steps.refl _
end New
end Jvm.RoadKit
namespace Jvm.Pilot.@@N@@
open Jvm Jvm.ClassFile Sem Op Lib Jvm.Free Jvm.Stand Jvm.LawKit Jvm.RoadKit Bundle Jvm.Pilot.@@N@@.Jvm.D
abbrev Go (p : Program) (e : Env) (below : List Frame) (T : State) (g : JFrame) (t : State) : Prop := Steps p.tables e below (T.setTop g) t
theorem hwi {Z : State} {a0 : Array Value} (hw : ∀ d ∈ tables_1, d.before a0 Z = true) {d : Jvm.Cond} (i : Nat) (q : tables_1[i]? = some d) : d.before a0 Z = true := hw _ (List.mem_of_getElem? q)

def Wd (Z : State) (h : Heap) (w_VEST w_EXERCISE w_TANDEM w_FORFEIT w_PAY w_LAPSE : Addr) : Prop := (Sta Z h "com/example/vestry/vestry/Change$Kind" "VEST" "Lcom/example/vestry/vestry/Change$Kind;" (.ref w_VEST) ∧ Exa Z h w_VEST "com/example/vestry/vestry/Change$Kind" ∧ Fld Z h w_VEST "java/lang/Enum" "ordinal" "I" (.int (0 : Int32))) ∧ (Sta Z h "com/example/vestry/vestry/Change$Kind" "EXERCISE" "Lcom/example/vestry/vestry/Change$Kind;" (.ref w_EXERCISE) ∧ Exa Z h w_EXERCISE "com/example/vestry/vestry/Change$Kind" ∧ Fld Z h w_EXERCISE "java/lang/Enum" "ordinal" "I" (.int (1 : Int32))) ∧ (Sta Z h "com/example/vestry/vestry/Change$Kind" "TANDEM" "Lcom/example/vestry/vestry/Change$Kind;" (.ref w_TANDEM) ∧ Exa Z h w_TANDEM "com/example/vestry/vestry/Change$Kind" ∧ Fld Z h w_TANDEM "java/lang/Enum" "ordinal" "I" (.int (2 : Int32))) ∧ (Sta Z h "com/example/vestry/vestry/Change$Kind" "FORFEIT" "Lcom/example/vestry/vestry/Change$Kind;" (.ref w_FORFEIT) ∧ Exa Z h w_FORFEIT "com/example/vestry/vestry/Change$Kind" ∧ Fld Z h w_FORFEIT "java/lang/Enum" "ordinal" "I" (.int (3 : Int32))) ∧ (Sta Z h "com/example/vestry/vestry/Change$Kind" "PAY" "Lcom/example/vestry/vestry/Change$Kind;" (.ref w_PAY) ∧ Exa Z h w_PAY "com/example/vestry/vestry/Change$Kind" ∧ Fld Z h w_PAY "java/lang/Enum" "ordinal" "I" (.int (4 : Int32))) ∧ (Sta Z h "com/example/vestry/vestry/Change$Kind" "LAPSE" "Lcom/example/vestry/vestry/Change$Kind;" (.ref w_LAPSE) ∧ Exa Z h w_LAPSE "com/example/vestry/vestry/Change$Kind" ∧ Fld Z h w_LAPSE "java/lang/Enum" "ordinal" "I" (.int (5 : Int32)))
theorem Wd_ext {Z : State} {h h' : Heap} {w_VEST w_EXERCISE w_TANDEM w_FORFEIT w_PAY w_LAPSE : Addr} (W : Wd Z h w_VEST w_EXERCISE w_TANDEM w_FORFEIT w_PAY w_LAPSE) (E : Ext h h') : Wd Z h' w_VEST w_EXERCISE w_TANDEM w_FORFEIT w_PAY w_LAPSE := by
  obtain ⟨⟨S_VEST, E_VEST, F_VEST⟩, ⟨S_EXERCISE, E_EXERCISE, F_EXERCISE⟩, ⟨S_TANDEM, E_TANDEM, F_TANDEM⟩, ⟨S_FORFEIT, E_FORFEIT, F_FORFEIT⟩, ⟨S_PAY, E_PAY, F_PAY⟩, ⟨S_LAPSE, E_LAPSE, F_LAPSE⟩⟩ := W
  exact ⟨⟨S_VEST.ext E, E_VEST.ext E, F_VEST.ext E⟩, ⟨S_EXERCISE.ext E, E_EXERCISE.ext E, F_EXERCISE.ext E⟩, ⟨S_TANDEM.ext E, E_TANDEM.ext E, F_TANDEM.ext E⟩, ⟨S_FORFEIT.ext E, E_FORFEIT.ext E, F_FORFEIT.ext E⟩, ⟨S_PAY.ext E, E_PAY.ext E, F_PAY.ext E⟩, ⟨S_LAPSE.ext E, E_LAPSE.ext E, F_LAPSE.ext E⟩⟩
def plc (k : Int32) : Int32 := if k = 0 then 0 else if k = 1 then 1 else if k = 2 then 1 else if k = 3 then 3 else if k = 4 then 4 else 5
def rkc (k : Int32) : Int32 := if k = 0 then 10 else if k = 1 then 20 else if k = 2 then 20 else if k = 3 then 30 else if k = 4 then 40 else 50
theorem own_pair (k : Int32) : (plc k = 0 ∧ rkc k = 10) ∨ (plc k = 1 ∧ rkc k = 20) ∨ (plc k = 3 ∧ rkc k = 30) ∨ (plc k = 4 ∧ rkc k = 40) ∨ (plc k = 5 ∧ rkc k = 50) := by
  unfold plc rkc
  by_cases h0 : k = 0
  · simp [h0]
  by_cases h1 : k = 1
  · simp [h1]
  by_cases h2 : k = 2
  · simp [h2]
  by_cases h3 : k = 3
  · simp [h3]
  by_cases h4 : k = 4
  · simp [h4]
  simp [h0, h1, h2, h3, h4]
theorem own_rank (i j : Int32) : (plc i < plc j ↔ rkc i < rkc j) ∧ (plc i = plc j ↔ rkc i = rkc j) := by
  rcases own_pair i with ⟨a, b⟩ | ⟨a, b⟩ | ⟨a, b⟩ | ⟨a, b⟩ | ⟨a, b⟩ <;> rcases own_pair j with ⟨c, d⟩ | ⟨c, d⟩ | ⟨c, d⟩ | ⟨c, d⟩ | ⟨c, d⟩ <;> rw [a, b, c, d] <;> decide
theorem ef_3 (m : MethodId) (x0 : Addr) : entryFrame m #[(.ref x0)] 1 = mkF m 0 #[.val (.ref x0)] [] := by first | (simp [entryFrame, mkF, argsToLocals, Value.category]; done) | rfl
theorem pn_java_lang_Enum : plainName "java/lang/Enum" = true := by first | (simp [plainName, overriddenIn]; done) | decide +kernel
theorem d3_0 : decode jdk_37_method_2_code 0 = .ok (.aload_n 0, 1) := by decide +kernel
theorem d3_1 : decode jdk_37_method_2_code 1 = .ok (.getfield 7, 3) := by decide +kernel
theorem d3_4 : decode jdk_37_method_2_code 4 = .ok (.ireturn, 1) := by decide +kernel
def Q_rmO (Z : State) (a1 : Addr) (o : Int32) (h0 : Heap) (n0 : Nat) (v : Option Value) (h : Heap) (L : List Loc) : Prop := v = some (.int o) ∧ Fr n0 L ∧ h = h0
set_option maxRecDepth 65536 in
set_option maxHeartbeats 40000000 in
theorem rmO (l : Launch) (Z : State) (a0 : Array Value) (hw : ∀ d ∈ tables_1, d.before a0 Z = true) (ws : List Jvm.Cond) (a1 : Addr) (o : Int32) (h0 : Heap) (n0 : Nat) (Z0 : n0 ≤ h0.size) (Fo : Fld Z h0 a1 "java/lang/Enum" "ordinal" "I" (.int o)) :
    MetFree l (⟨"java/lang/Enum", "ordinal", "()I"⟩ : MethodName) (head1 (Jvm.Cond.code (⟨"java/lang/Enum", "ordinal", "()I"⟩ : MethodName) jdk_37_method_2_code 1 (some .int) :: ws) ({ frames := 0, cells := 0, slots := 0, locals := 0 } : Room)) (fun av_ U_ => av_ = #[(.ref a1)] ∧ Z.Warmed39 U_.vm ∧ U_.heap = h0) (fun _ _ _ _ _ => True) (fun _ U_ o_ V_ => ∃ v_ L_, o_ = .returned v_ ∧ Q_rmO Z a1 o h0 n0 v_ V_.heap L_ ∧ FrameEnd U_ o_ V_ L_ ({ frames := 0, cells := 0, slots := 0, locals := 0 } : Room).cells ({ frames := 0, cells := 0, slots := 0, locals := 0 } : Room).slots) := by
  refine MetFree.of_bodySF (plainFor_of_name pn_java_lang_Enum) hisR ?_
  intro p e s m args below meth c s₁ Bd hml0 hP hK
  obtain ⟨rfl, hZ, hh⟩ := hP
  have hx := Bd.exec
  have hby := Bd.bytes
  have hml : c.maxLocals = 1 := hml0
  have hown : s.vm.findClass "java/lang/Enum" = some m.cls := findClass_of_methodNamed Bd.named
  have hnm := (name_of_methodNamed Bd.named Bd.method).1
  have X0 : Stand p l e ({ frames := 0, cells := 0, slots := 0, locals := 0 } : Room) s m #[(.ref a1)] below meth c s₁ [] 0 0 := Stand.of_body Bd
  have e0 : s₁.heap = h0 := by rw [← hh, Bd.state]; rfl
  have N0 := Fr.nil n0
  have pre0 : ∀ t_, Go p e below s₁ (mkF m 0 #[rv a1] []) t_ → Go p e below s₁ (entryFrame m #[(.ref a1)] 1) t_ := fun t_ kt => castTop (ef_3 m a1) kt
  obtain ⟨T1, X1, e1, st1⟩ := getF X0 hx hZ hown (host := "") (Or.inl (hwi hw 22 rfl)) Via.refl e0 Fo (g := (mkF m 1 #[rv a1] [(.ref a1)])) rfl rfl (hb hby d3_1)
  have pre2 : ∀ t_, Go p e below T1 (mkF m 4 #[rv a1] [(.int o)]) t_ → Go p e below s₁ (entryFrame m #[(.ref a1)] 1) t_ := fun t_ kt => pre0 _ (by
      show Go p e below s₁ (mkF m 0 #[rv a1] []) _
      refine XS.aloadN X0.here hx rfl (hb hby d3_0) rfl rfl ?_
      show Go p e below s₁ (mkF m 1 #[rv a1] [(.ref a1)]) _
      refine st1 _ ?_
      show Go p e below T1 (mkF m 4 #[rv a1] [(.int o)]) _
      exact kt)
  obtain ⟨fs, hr, hrun, hended, hW, hsame⟩ := X1.leave (v := some (.int o)) (fun h => by rw [Bd.returns] at h; cases h)
  refine ⟨_, _, pre2 _ ?_, hrun, hended, _, _, rfl, ?_, ⟨_, rfl⟩, hW, hsame.mono (by decide) (by decide)⟩
  · show Steps p.tables e below (T1.setTop (mkF m 4 #[rv a1] [(.int o)])) _
    exact retI X1 hx Bd.returns (hb hby d3_4) hr
  · show Q_rmO Z a1 o h0 n0 _ T1.heap _
    rw [e1]
    exact ⟨rfl, N0, rfl⟩
theorem ef_2 (m : MethodId) (x0 : Addr) : entryFrame m #[(.ref x0)] 1 = mkF m 0 #[.val (.ref x0)] [] := by first | (simp [entryFrame, mkF, argsToLocals, Value.category]; done) | rfl
theorem pn_com_example_vestry_vestry_Change_Kind : plainName "com/example/vestry/vestry/Change$Kind" = true := by first | (simp [plainName, overriddenIn]; done) | decide +kernel
theorem d2_0 : decode prog_5_method_5_code 0 = .ok (.aload_n 0, 1) := by decide +kernel
theorem d2_1 : decode prog_5_method_5_code 1 = .ok (.getstatic 10, 3) := by decide +kernel
theorem d2_4 : decode prog_5_method_5_code 4 = .ok (.if_acmp .ne 12, 3) := by decide +kernel
theorem d2_7 : decode prog_5_method_5_code 7 = .ok (.getstatic 7, 3) := by decide +kernel
theorem d2_10 : decode prog_5_method_5_code 10 = .ok (.invokevirtual 45, 3) := by decide +kernel
theorem pd_1 : parseMethodDescriptor "()I" = some ⟨[], some .int⟩ := by decide +kernel
theorem d2_13 : decode prog_5_method_5_code 13 = .ok (.goto 7, 3) := by decide +kernel
theorem d2_20 : decode prog_5_method_5_code 20 = .ok (.ireturn, 1) := by decide +kernel
theorem d2_16 : decode prog_5_method_5_code 16 = .ok (.aload_n 0, 1) := by decide +kernel
theorem d2_17 : decode prog_5_method_5_code 17 = .ok (.invokevirtual 45, 3) := by decide +kernel
def Q_rmPl (Z : State) (a1 : Addr) (o : Int32) (w_VEST : Addr) (w_EXERCISE : Addr) (w_TANDEM : Addr) (w_FORFEIT : Addr) (w_PAY : Addr) (w_LAPSE : Addr) (h0 : Heap) (n0 : Nat) (v : Option Value) (h : Heap) (L : List Loc) : Prop := v = some (.int (if a1 = w_TANDEM then 1 else o)) ∧ Fr n0 L ∧ h = h0
set_option maxRecDepth 65536 in
set_option maxHeartbeats 40000000 in
theorem rmPl (l : Launch) (Z : State) (a0 : Array Value) (hw : ∀ d ∈ tables_1, d.before a0 Z = true) (ws : List Jvm.Cond) (a1 : Addr) (o : Int32) (w_VEST : Addr) (w_EXERCISE : Addr) (w_TANDEM : Addr) (w_FORFEIT : Addr) (w_PAY : Addr) (w_LAPSE : Addr) (h0 : Heap) (n0 : Nat) (Z0 : n0 ≤ h0.size) (hWd : Wd Z h0 w_VEST w_EXERCISE w_TANDEM w_FORFEIT w_PAY w_LAPSE) (Ea : Exa Z h0 a1 "com/example/vestry/vestry/Change$Kind") (Fa : Fld Z h0 a1 "java/lang/Enum" "ordinal" "I" (.int o)) :
    MetFree l (⟨"com/example/vestry/vestry/Change$Kind", "place", "()I"⟩ : MethodName) (head1 (Jvm.Cond.code (⟨"com/example/vestry/vestry/Change$Kind", "place", "()I"⟩ : MethodName) prog_5_method_5_code 1 (some .int) :: ws) ({ frames := 1, cells := 0, slots := 0, locals := 12 } : Room)) (fun av_ U_ => av_ = #[(.ref a1)] ∧ Z.Warmed39 U_.vm ∧ U_.heap = h0) (fun _ _ _ _ _ => True) (fun _ U_ o_ V_ => ∃ v_ L_, o_ = .returned v_ ∧ Q_rmPl Z a1 o w_VEST w_EXERCISE w_TANDEM w_FORFEIT w_PAY w_LAPSE h0 n0 v_ V_.heap L_ ∧ FrameEnd U_ o_ V_ L_ ({ frames := 1, cells := 0, slots := 0, locals := 12 } : Room).cells ({ frames := 1, cells := 0, slots := 0, locals := 12 } : Room).slots) := by
  refine MetFree.of_bodySF (plainFor_of_name pn_com_example_vestry_vestry_Change_Kind) hisR ?_
  intro p e s m args below meth c s₁ Bd hml0 hP hK
  obtain ⟨rfl, hZ, hh⟩ := hP
  have hx := Bd.exec
  have hby := Bd.bytes
  have hml : c.maxLocals = 1 := hml0
  have hown : s.vm.findClass "com/example/vestry/vestry/Change$Kind" = some m.cls := findClass_of_methodNamed Bd.named
  have hnm := (name_of_methodNamed Bd.named Bd.method).1
  have X0 : Stand p l e ({ frames := 1, cells := 0, slots := 0, locals := 12 } : Room) s m #[(.ref a1)] below meth c s₁ [] 0 0 := Stand.of_body Bd
  have e0 : s₁.heap = h0 := by rw [← hh, Bd.state]; rfl
  have N0 := Fr.nil n0
  have pre0 : ∀ t_, Go p e below s₁ (mkF m 0 #[rv a1] []) t_ → Go p e below s₁ (entryFrame m #[(.ref a1)] 1) t_ := fun t_ kt => castTop (ef_2 m a1) kt
  have hWd0 := hWd
  obtain ⟨⟨S_VEST, E_VEST, F_VEST⟩, ⟨S_EXERCISE, E_EXERCISE, F_EXERCISE⟩, ⟨S_TANDEM, E_TANDEM, F_TANDEM⟩, ⟨S_FORFEIT, E_FORFEIT, F_FORFEIT⟩, ⟨S_PAY, E_PAY, F_PAY⟩, ⟨S_LAPSE, E_LAPSE, F_LAPSE⟩⟩ := hWd
  obtain ⟨T1, X1, e1, st1⟩ := getS2 X0 hx hZ hown (host := "") (Or.inl (hwi hw 13 rfl)) Via.refl e0 S_TANDEM (g := (mkF m 1 #[rv a1] [(.ref a1)])) rfl (hb hby d2_1)
  have pre2 : ∀ t_, Go p e below T1 (mkF m 4 #[rv a1] [(.ref w_TANDEM), (.ref a1)]) t_ → Go p e below s₁ (entryFrame m #[(.ref a1)] 1) t_ := fun t_ kt => pre0 _ (by
      show Go p e below s₁ (mkF m 0 #[rv a1] []) _
      refine XS.aloadN X0.here hx rfl (hb hby d2_0) rfl rfl ?_
      show Go p e below s₁ (mkF m 1 #[rv a1] [(.ref a1)]) _
      refine st1 _ ?_
      show Go p e below T1 (mkF m 4 #[rv a1] [(.ref w_TANDEM), (.ref a1)]) _
      exact kt)
  by_cases hc4_3 : a1 = w_TANDEM
  · obtain ⟨T4, X4, e4, st4⟩ := getS2 X1 hx hZ hown (host := "") (Or.inl (hwi hw 30 rfl)) Via.refl e1 S_EXERCISE (g := (mkF m 7 #[rv a1] [])) rfl (hb hby d2_7)
    obtain ⟨cq5, kq5, q5a, q5b, q5c⟩ := isOf hZ e4 E_EXERCISE
    obtain ⟨_, _, ⟨T5, L5, k5, n5⟩, -, X5, ⟨Lc5, hQ5, l5, y5, z5⟩, st5⟩ := X4.virtualBackUp hx (owner := "java/lang/Enum") (x := (⟨"com/example/vestry/vestry/Change$Kind", "ordinal", "()I"⟩ : MethodName)) (y := (⟨"java/lang/Enum", "ordinal", "()I"⟩ : MethodName)) hown (mvT hZ (hwi hw 15 rfl)) (mvT hZ (hwi hw 16 rfl)) (mvT hZ (hwi hw 17 rfl)) (by decide) (mvT hZ (hwi hw 19 rfl)) (mvT hZ (hwi hw 18 rfl)) (backOf (W := 0) (rmO l Z a0 hw [] w_EXERCISE 1 h0 n0 Z0 F_EXERCISE) hZ (hwi hw 21 rfl) (hwi hw 20 rfl) (by decide) (by decide)) q5a q5c (g := (mkF m 10 #[rv a1] [(.ref w_EXERCISE)])) rfl (by rw [hml]; rfl) (Steps.refl _) (argsL := []) (rest := []) (lenOf pd_1 rfl) rfl (by show 2 * 0 + _ ≤ _; exact Nat.le_of_eq rfl) (hb hby d2_10) (fun _ _ => ⟨rfl, e4, (by decide : 0 + 0 ≤ _), (by decide : 0 + 0 ≤ _)⟩)
    dsimp only [Pt.U, Pt.locs, Pt.cells, Pt.slots] at X5 l5 y5 z5 st5 hQ5
    subst l5 y5 z5
    obtain ⟨rfl, N5q, e5q⟩ := hQ5
    have N5 := Fr.app N0 N5q
    have pre6 : ∀ t_, Go p e below T5 (mkF m 20 #[rv a1] [(.int 1)]) t_ → Go p e below s₁ (entryFrame m #[(.ref a1)] 1) t_ := fun t_ kt => pre2 _ (by
        show Go p e below T1 (mkF m 4 #[rv a1] [(.ref w_TANDEM), (.ref a1)]) _
        refine Jvm.RoadKit.acmp (g := (mkF m 4 #[rv a1] [(.ref w_TANDEM), (.ref a1)])) X1 hx rfl rfl rfl (pc0 := 4) (pc' := 7) (same := true) rfl (hb hby d2_4) rfl (decide_eq_true (congrArg Value.ref hc4_3)) (by decide) (by decide) ?_
        show Go p e below T1 (mkF m 7 #[rv a1] []) _
        refine st4 _ ?_
        show Go p e below T4 (mkF m 10 #[rv a1] [(.ref w_EXERCISE)]) _
        refine st5.trans ?_
        show Go p e below T5 (mkF m 13 #[rv a1] [(.int 1)]) _
        refine XS.goto X5.here hx rfl (pc0 := 13) (pc' := 20) rfl (hb hby d2_13) (by decide) (by decide) ?_
        show Go p e below T5 (mkF m 20 #[rv a1] [(.int 1)]) _
        exact kt)
    obtain ⟨fs, hr, hrun, hended, hW, hsame⟩ := X5.leave (v := some (.int 1)) (fun h => by rw [Bd.returns] at h; cases h)
    refine ⟨_, _, pre6 _ ?_, hrun, hended, _, _, rfl, ?_, ⟨_, rfl⟩, hW, hsame.mono (by decide) (by decide)⟩
    · show Steps p.tables e below (T5.setTop (mkF m 20 #[rv a1] [(.int 1)])) _
      exact retI X5 hx Bd.returns (hb hby d2_20) hr
    · show Q_rmPl Z a1 o w_VEST w_EXERCISE w_TANDEM w_FORFEIT w_PAY w_LAPSE h0 n0 _ T5.heap _
      rw [e5q]
      exact ⟨by simp [hc4_3], N5, rfl⟩
  · obtain ⟨cq7, kq7, q7a, q7b, q7c⟩ := isOf hZ e1 Ea
    obtain ⟨_, _, ⟨T7, L7, k7, n7⟩, -, X7, ⟨Lc7, hQ7, l7, y7, z7⟩, st7⟩ := X1.virtualBackUp hx (owner := "java/lang/Enum") (x := (⟨"com/example/vestry/vestry/Change$Kind", "ordinal", "()I"⟩ : MethodName)) (y := (⟨"java/lang/Enum", "ordinal", "()I"⟩ : MethodName)) hown (mvT hZ (hwi hw 15 rfl)) (mvT hZ (hwi hw 16 rfl)) (mvT hZ (hwi hw 17 rfl)) (by decide) (mvT hZ (hwi hw 19 rfl)) (mvT hZ (hwi hw 18 rfl)) (backOf (W := 0) (rmO l Z a0 hw [] a1 o h0 n0 Z0 Fa) hZ (hwi hw 21 rfl) (hwi hw 20 rfl) (by decide) (by decide)) q7a q7c (g := (mkF m 17 #[rv a1] [(.ref a1)])) rfl (by rw [hml]; rfl) (Steps.refl _) (argsL := []) (rest := []) (lenOf pd_1 rfl) rfl (by show 2 * 0 + _ ≤ _; exact Nat.le_of_eq rfl) (hb hby d2_17) (fun _ _ => ⟨rfl, e1, (by decide : 0 + 0 ≤ _), (by decide : 0 + 0 ≤ _)⟩)
    dsimp only [Pt.U, Pt.locs, Pt.cells, Pt.slots] at X7 l7 y7 z7 st7 hQ7
    subst l7 y7 z7
    obtain ⟨rfl, N7q, e7q⟩ := hQ7
    have N7 := Fr.app N0 N7q
    have pre8 : ∀ t_, Go p e below T7 (mkF m 20 #[rv a1] [(.int o)]) t_ → Go p e below s₁ (entryFrame m #[(.ref a1)] 1) t_ := fun t_ kt => pre2 _ (by
        show Go p e below T1 (mkF m 4 #[rv a1] [(.ref w_TANDEM), (.ref a1)]) _
        refine Jvm.RoadKit.acmp (g := (mkF m 4 #[rv a1] [(.ref w_TANDEM), (.ref a1)])) X1 hx rfl rfl rfl (pc0 := 4) (pc' := 16) (same := false) rfl (hb hby d2_4) rfl (decide_eq_false fun q => hc4_3 (Value.ref.inj q)) (by decide) (by decide) ?_
        show Go p e below T1 (mkF m 16 #[rv a1] []) _
        refine XS.aloadN X1.here hx rfl (hb hby d2_16) rfl rfl ?_
        show Go p e below T1 (mkF m 17 #[rv a1] [(.ref a1)]) _
        refine st7.trans ?_
        show Go p e below T7 (mkF m 20 #[rv a1] [(.int o)]) _
        exact kt)
    obtain ⟨fs, hr, hrun, hended, hW, hsame⟩ := X7.leave (v := some (.int o)) (fun h => by rw [Bd.returns] at h; cases h)
    refine ⟨_, _, pre8 _ ?_, hrun, hended, _, _, rfl, ?_, ⟨_, rfl⟩, hW, hsame.mono (by decide) (by decide)⟩
    · show Steps p.tables e below (T7.setTop (mkF m 20 #[rv a1] [(.int o)])) _
      exact retI X7 hx Bd.returns (hb hby d2_20) hr
    · show Q_rmPl Z a1 o w_VEST w_EXERCISE w_TANDEM w_FORFEIT w_PAY w_LAPSE h0 n0 _ T7.heap _
      rw [e7q]
      exact ⟨by simp [hc4_3], N7, rfl⟩
theorem ef_1 (m : MethodId) (x0 : Int32) : entryFrame m #[(.int x0)] 1 = mkF m 0 #[.val (.int x0)] [] := by first | (simp [entryFrame, mkF, argsToLocals, Value.category]; done) | rfl
theorem pn_com_example_vestry_vestry_KindPlacePinLaw : plainName "com/example/vestry/vestry/KindPlacePinLaw" = true := by first | (simp [plainName, overriddenIn]; done) | decide +kernel
theorem d1_0 : decode method_2_code 0 = .ok (.iload_n 0, 1) := by decide +kernel
theorem d1_1 : decode method_2_code 1 = .ok (.ifCond .ne 7, 3) := by decide +kernel
theorem d1_4 : decode method_2_code 4 = .ok (.getstatic 7, 3) := by decide +kernel
theorem d1_7 : decode method_2_code 7 = .ok (.areturn, 1) := by decide +kernel
theorem d1_8 : decode method_2_code 8 = .ok (.iload_n 0, 1) := by decide +kernel
theorem d1_9 : decode method_2_code 9 = .ok (.iconst 1, 1) := by decide +kernel
theorem d1_10 : decode method_2_code 10 = .ok (.if_icmp .ne 7, 3) := by decide +kernel
theorem d1_13 : decode method_2_code 13 = .ok (.getstatic 13, 3) := by decide +kernel
theorem d1_16 : decode method_2_code 16 = .ok (.areturn, 1) := by decide +kernel
theorem d1_17 : decode method_2_code 17 = .ok (.iload_n 0, 1) := by decide +kernel
theorem d1_18 : decode method_2_code 18 = .ok (.iconst 2, 1) := by decide +kernel
theorem d1_19 : decode method_2_code 19 = .ok (.if_icmp .ne 7, 3) := by decide +kernel
theorem d1_22 : decode method_2_code 22 = .ok (.getstatic 16, 3) := by decide +kernel
theorem d1_25 : decode method_2_code 25 = .ok (.areturn, 1) := by decide +kernel
theorem d1_26 : decode method_2_code 26 = .ok (.iload_n 0, 1) := by decide +kernel
theorem d1_27 : decode method_2_code 27 = .ok (.iconst 3, 1) := by decide +kernel
theorem d1_28 : decode method_2_code 28 = .ok (.if_icmp .ne 7, 3) := by decide +kernel
theorem d1_31 : decode method_2_code 31 = .ok (.getstatic 19, 3) := by decide +kernel
theorem d1_34 : decode method_2_code 34 = .ok (.areturn, 1) := by decide +kernel
theorem d1_35 : decode method_2_code 35 = .ok (.iload_n 0, 1) := by decide +kernel
theorem d1_36 : decode method_2_code 36 = .ok (.iconst 4, 1) := by decide +kernel
theorem d1_37 : decode method_2_code 37 = .ok (.if_icmp .ne 7, 3) := by decide +kernel
theorem d1_40 : decode method_2_code 40 = .ok (.getstatic 22, 3) := by decide +kernel
theorem d1_43 : decode method_2_code 43 = .ok (.areturn, 1) := by decide +kernel
theorem d1_44 : decode method_2_code 44 = .ok (.getstatic 25, 3) := by decide +kernel
theorem d1_47 : decode method_2_code 47 = .ok (.areturn, 1) := by decide +kernel
def Q_rmK (Z : State) (k : Int32) (w_VEST : Addr) (w_EXERCISE : Addr) (w_TANDEM : Addr) (w_FORFEIT : Addr) (w_PAY : Addr) (w_LAPSE : Addr) (h0 : Heap) (n0 : Nat) (v : Option Value) (h : Heap) (L : List Loc) : Prop := ∃ (a : Addr) (o : Int32), v = some (.ref a) ∧ Exa Z h0 a "com/example/vestry/vestry/Change$Kind" ∧ Fld Z h0 a "java/lang/Enum" "ordinal" "I" (.int o) ∧ (if a = w_TANDEM then 1 else o) = plc k ∧ Fr n0 L ∧ h = h0
set_option maxRecDepth 65536 in
set_option maxHeartbeats 40000000 in
theorem rmK (l : Launch) (Z : State) (a0 : Array Value) (hw : ∀ d ∈ tables_1, d.before a0 Z = true) (ws : List Jvm.Cond) (k : Int32) (w_VEST : Addr) (w_EXERCISE : Addr) (w_TANDEM : Addr) (w_FORFEIT : Addr) (w_PAY : Addr) (w_LAPSE : Addr) (h0 : Heap) (n0 : Nat) (Z0 : n0 ≤ h0.size) (hWd : Wd Z h0 w_VEST w_EXERCISE w_TANDEM w_FORFEIT w_PAY w_LAPSE) :
    MetFree l (⟨"com/example/vestry/vestry/KindPlacePinLaw", "kindOf", "(I)Lcom/example/vestry/vestry/Change$Kind;"⟩ : MethodName) (head1 (Jvm.Cond.code (⟨"com/example/vestry/vestry/KindPlacePinLaw", "kindOf", "(I)Lcom/example/vestry/vestry/Change$Kind;"⟩ : MethodName) method_2_code 1 (some (.object "com/example/vestry/vestry/Change$Kind")) :: ws) ({ frames := 0, cells := 0, slots := 0, locals := 0 } : Room)) (fun av_ U_ => av_ = #[(.int k)] ∧ Z.Warmed39 U_.vm ∧ U_.heap = h0) (fun _ _ _ _ _ => True) (fun _ U_ o_ V_ => ∃ v_ L_, o_ = .returned v_ ∧ Q_rmK Z k w_VEST w_EXERCISE w_TANDEM w_FORFEIT w_PAY w_LAPSE h0 n0 v_ V_.heap L_ ∧ FrameEnd U_ o_ V_ L_ ({ frames := 0, cells := 0, slots := 0, locals := 0 } : Room).cells ({ frames := 0, cells := 0, slots := 0, locals := 0 } : Room).slots) := by
  refine MetFree.of_bodySF (plainFor_of_name pn_com_example_vestry_vestry_KindPlacePinLaw) hisR ?_
  intro p e s m args below meth c s₁ Bd hml0 hP hK
  obtain ⟨rfl, hZ, hh⟩ := hP
  have hx := Bd.exec
  have hby := Bd.bytes
  have hml : c.maxLocals = 1 := hml0
  have hown : s.vm.findClass "com/example/vestry/vestry/KindPlacePinLaw" = some m.cls := findClass_of_methodNamed Bd.named
  have hnm := (name_of_methodNamed Bd.named Bd.method).1
  have X0 : Stand p l e ({ frames := 0, cells := 0, slots := 0, locals := 0 } : Room) s m #[(.int k)] below meth c s₁ [] 0 0 := Stand.of_body Bd
  have e0 : s₁.heap = h0 := by rw [← hh, Bd.state]; rfl
  have N0 := Fr.nil n0
  have pre0 : ∀ t_, Go p e below s₁ (mkF m 0 #[iv k] []) t_ → Go p e below s₁ (entryFrame m #[(.int k)] 1) t_ := fun t_ kt => castTop (ef_1 m k) kt
  have hWd0 := hWd
  obtain ⟨⟨S_VEST, E_VEST, F_VEST⟩, ⟨S_EXERCISE, E_EXERCISE, F_EXERCISE⟩, ⟨S_TANDEM, E_TANDEM, F_TANDEM⟩, ⟨S_FORFEIT, E_FORFEIT, F_FORFEIT⟩, ⟨S_PAY, E_PAY, F_PAY⟩, ⟨S_LAPSE, E_LAPSE, F_LAPSE⟩⟩ := hWd
  have pre1 : ∀ t_, Go p e below s₁ (mkF m 1 #[iv k] [(.int k)]) t_ → Go p e below s₁ (entryFrame m #[(.int k)] 1) t_ := fun t_ kt => pre0 _ (by
      show Go p e below s₁ (mkF m 0 #[iv k] []) _
      refine XS.iloadN X0.here hx rfl (hb hby d1_0) rfl ?_
      show Go p e below s₁ (mkF m 1 #[iv k] [(.int k)]) _
      exact kt)
  by_cases hc1_2 : k = (0 : Int32)
  · obtain ⟨T3, X3, e3, st3⟩ := getS2 X0 hx hZ hown (host := "") (Or.inl (hwi hw 5 rfl)) Via.refl e0 S_VEST (g := (mkF m 4 #[iv k] [])) rfl (hb hby d1_4)
    have pre4 : ∀ t_, Go p e below T3 (mkF m 7 #[iv k] [(.ref w_VEST)]) t_ → Go p e below s₁ (entryFrame m #[(.int k)] 1) t_ := fun t_ kt => pre1 _ (by
        show Go p e below s₁ (mkF m 1 #[iv k] [(.int k)]) _
        refine XS.ifNo X0.here hx rfl (hb hby d1_1) rfl ((if0 _ _).trans (teq hc1_2).2) ?_
        show Go p e below s₁ (mkF m 4 #[iv k] []) _
        refine st3 _ ?_
        show Go p e below T3 (mkF m 7 #[iv k] [(.ref w_VEST)]) _
        exact kt)
    obtain ⟨fs, hr, hrun, hended, hW, hsame⟩ := X3.leave (v := some (.ref w_VEST)) (fun h => by rw [Bd.returns] at h; cases h)
    refine ⟨_, _, pre4 _ ?_, hrun, hended, _, _, rfl, ?_, ⟨_, rfl⟩, hW, hsame.mono (by decide) (by decide)⟩
    · show Steps p.tables e below (T3.setTop (mkF m 7 #[iv k] [(.ref w_VEST)])) _
      jvm_step X3.here [X3.here.top, hx, (hb hby d1_7), X3.method', Bd.returns, Value.isRef, FieldType.isReference]
      first | (intro acts; rw [hr _ acts rfl rfl rfl]) | rw [hr _ _ rfl rfl rfl]
      exact Steps.refl _
    · show Q_rmK Z k w_VEST w_EXERCISE w_TANDEM w_FORFEIT w_PAY w_LAPSE h0 n0 _ T3.heap _
      rw [e3]
      exact ⟨w_VEST, 0, rfl, E_VEST, F_VEST, by simp [plc, (Fld.ne F_VEST F_TANDEM (by decide)), hc1_2], N0, rfl⟩
  · have pre5 : ∀ t_, Go p e below s₁ (mkF m 10 #[iv k] [(.int 1), (.int k)]) t_ → Go p e below s₁ (entryFrame m #[(.int k)] 1) t_ := fun t_ kt => pre1 _ (by
        show Go p e below s₁ (mkF m 1 #[iv k] [(.int k)]) _
        refine XS.ifYes X0.here hx rfl (pc0 := 1) (pc' := 8) rfl (hb hby d1_1) rfl ((if0 _ _).trans (feq hc1_2).2) (by decide) (by decide) ?_
        show Go p e below s₁ (mkF m 8 #[iv k] []) _
        refine XS.iloadN X0.here hx rfl (hb hby d1_8) rfl ?_
        show Go p e below s₁ (mkF m 9 #[iv k] [(.int k)]) _
        refine XS.iconst X0.here hx rfl (hb hby d1_9) ?_
        show Go p e below s₁ (mkF m 10 #[iv k] [(.int 1), (.int k)]) _
        exact kt)
    by_cases hc10_6 : k = (1 : Int32)
    · obtain ⟨T7, X7, e7, st7⟩ := getS2 X0 hx hZ hown (host := "") (Or.inl (hwi hw 32 rfl)) Via.refl e0 S_EXERCISE (g := (mkF m 13 #[iv k] [])) rfl (hb hby d1_13)
      have pre8 : ∀ t_, Go p e below T7 (mkF m 16 #[iv k] [(.ref w_EXERCISE)]) t_ → Go p e below s₁ (entryFrame m #[(.int k)] 1) t_ := fun t_ kt => pre5 _ (by
          show Go p e below s₁ (mkF m 10 #[iv k] [(.int 1), (.int k)]) _
          refine XS.icmpNo X0.here hx rfl (hb hby d1_10) rfl (teq hc10_6).2 ?_
          show Go p e below s₁ (mkF m 13 #[iv k] []) _
          refine st7 _ ?_
          show Go p e below T7 (mkF m 16 #[iv k] [(.ref w_EXERCISE)]) _
          exact kt)
      obtain ⟨fs, hr, hrun, hended, hW, hsame⟩ := X7.leave (v := some (.ref w_EXERCISE)) (fun h => by rw [Bd.returns] at h; cases h)
      refine ⟨_, _, pre8 _ ?_, hrun, hended, _, _, rfl, ?_, ⟨_, rfl⟩, hW, hsame.mono (by decide) (by decide)⟩
      · show Steps p.tables e below (T7.setTop (mkF m 16 #[iv k] [(.ref w_EXERCISE)])) _
        jvm_step X7.here [X7.here.top, hx, (hb hby d1_16), X7.method', Bd.returns, Value.isRef, FieldType.isReference]
        first | (intro acts; rw [hr _ acts rfl rfl rfl]) | rw [hr _ _ rfl rfl rfl]
        exact Steps.refl _
      · show Q_rmK Z k w_VEST w_EXERCISE w_TANDEM w_FORFEIT w_PAY w_LAPSE h0 n0 _ T7.heap _
        rw [e7]
        exact ⟨w_EXERCISE, 1, rfl, E_EXERCISE, F_EXERCISE, by simp [plc, (Fld.ne F_EXERCISE F_TANDEM (by decide)), hc1_2, hc10_6], N0, rfl⟩
    · have pre9 : ∀ t_, Go p e below s₁ (mkF m 19 #[iv k] [(.int 2), (.int k)]) t_ → Go p e below s₁ (entryFrame m #[(.int k)] 1) t_ := fun t_ kt => pre5 _ (by
          show Go p e below s₁ (mkF m 10 #[iv k] [(.int 1), (.int k)]) _
          refine XS.icmpYes X0.here hx rfl (pc0 := 10) (pc' := 17) rfl (hb hby d1_10) rfl (feq hc10_6).2 (by decide) (by decide) ?_
          show Go p e below s₁ (mkF m 17 #[iv k] []) _
          refine XS.iloadN X0.here hx rfl (hb hby d1_17) rfl ?_
          show Go p e below s₁ (mkF m 18 #[iv k] [(.int k)]) _
          refine XS.iconst X0.here hx rfl (hb hby d1_18) ?_
          show Go p e below s₁ (mkF m 19 #[iv k] [(.int 2), (.int k)]) _
          exact kt)
      by_cases hc19_10 : k = (2 : Int32)
      · obtain ⟨T11, X11, e11, st11⟩ := getS2 X0 hx hZ hown (host := "") (Or.inl (hwi hw 29 rfl)) Via.refl e0 S_TANDEM (g := (mkF m 22 #[iv k] [])) rfl (hb hby d1_22)
        have pre12 : ∀ t_, Go p e below T11 (mkF m 25 #[iv k] [(.ref w_TANDEM)]) t_ → Go p e below s₁ (entryFrame m #[(.int k)] 1) t_ := fun t_ kt => pre9 _ (by
            show Go p e below s₁ (mkF m 19 #[iv k] [(.int 2), (.int k)]) _
            refine XS.icmpNo X0.here hx rfl (hb hby d1_19) rfl (teq hc19_10).2 ?_
            show Go p e below s₁ (mkF m 22 #[iv k] []) _
            refine st11 _ ?_
            show Go p e below T11 (mkF m 25 #[iv k] [(.ref w_TANDEM)]) _
            exact kt)
        obtain ⟨fs, hr, hrun, hended, hW, hsame⟩ := X11.leave (v := some (.ref w_TANDEM)) (fun h => by rw [Bd.returns] at h; cases h)
        refine ⟨_, _, pre12 _ ?_, hrun, hended, _, _, rfl, ?_, ⟨_, rfl⟩, hW, hsame.mono (by decide) (by decide)⟩
        · show Steps p.tables e below (T11.setTop (mkF m 25 #[iv k] [(.ref w_TANDEM)])) _
          jvm_step X11.here [X11.here.top, hx, (hb hby d1_25), X11.method', Bd.returns, Value.isRef, FieldType.isReference]
          first | (intro acts; rw [hr _ acts rfl rfl rfl]) | rw [hr _ _ rfl rfl rfl]
          exact Steps.refl _
        · show Q_rmK Z k w_VEST w_EXERCISE w_TANDEM w_FORFEIT w_PAY w_LAPSE h0 n0 _ T11.heap _
          rw [e11]
          exact ⟨w_TANDEM, 2, rfl, E_TANDEM, F_TANDEM, by simp [plc, hc1_2, hc10_6, hc19_10], N0, rfl⟩
      · have pre13 : ∀ t_, Go p e below s₁ (mkF m 28 #[iv k] [(.int 3), (.int k)]) t_ → Go p e below s₁ (entryFrame m #[(.int k)] 1) t_ := fun t_ kt => pre9 _ (by
            show Go p e below s₁ (mkF m 19 #[iv k] [(.int 2), (.int k)]) _
            refine XS.icmpYes X0.here hx rfl (pc0 := 19) (pc' := 26) rfl (hb hby d1_19) rfl (feq hc19_10).2 (by decide) (by decide) ?_
            show Go p e below s₁ (mkF m 26 #[iv k] []) _
            refine XS.iloadN X0.here hx rfl (hb hby d1_26) rfl ?_
            show Go p e below s₁ (mkF m 27 #[iv k] [(.int k)]) _
            refine XS.iconst X0.here hx rfl (hb hby d1_27) ?_
            show Go p e below s₁ (mkF m 28 #[iv k] [(.int 3), (.int k)]) _
            exact kt)
        by_cases hc28_14 : k = (3 : Int32)
        · obtain ⟨T15, X15, e15, st15⟩ := getS2 X0 hx hZ hown (host := "") (Or.inl (hwi hw 24 rfl)) Via.refl e0 S_FORFEIT (g := (mkF m 31 #[iv k] [])) rfl (hb hby d1_31)
          have pre16 : ∀ t_, Go p e below T15 (mkF m 34 #[iv k] [(.ref w_FORFEIT)]) t_ → Go p e below s₁ (entryFrame m #[(.int k)] 1) t_ := fun t_ kt => pre13 _ (by
              show Go p e below s₁ (mkF m 28 #[iv k] [(.int 3), (.int k)]) _
              refine XS.icmpNo X0.here hx rfl (hb hby d1_28) rfl (teq hc28_14).2 ?_
              show Go p e below s₁ (mkF m 31 #[iv k] []) _
              refine st15 _ ?_
              show Go p e below T15 (mkF m 34 #[iv k] [(.ref w_FORFEIT)]) _
              exact kt)
          obtain ⟨fs, hr, hrun, hended, hW, hsame⟩ := X15.leave (v := some (.ref w_FORFEIT)) (fun h => by rw [Bd.returns] at h; cases h)
          refine ⟨_, _, pre16 _ ?_, hrun, hended, _, _, rfl, ?_, ⟨_, rfl⟩, hW, hsame.mono (by decide) (by decide)⟩
          · show Steps p.tables e below (T15.setTop (mkF m 34 #[iv k] [(.ref w_FORFEIT)])) _
            jvm_step X15.here [X15.here.top, hx, (hb hby d1_34), X15.method', Bd.returns, Value.isRef, FieldType.isReference]
            first | (intro acts; rw [hr _ acts rfl rfl rfl]) | rw [hr _ _ rfl rfl rfl]
            exact Steps.refl _
          · show Q_rmK Z k w_VEST w_EXERCISE w_TANDEM w_FORFEIT w_PAY w_LAPSE h0 n0 _ T15.heap _
            rw [e15]
            exact ⟨w_FORFEIT, 3, rfl, E_FORFEIT, F_FORFEIT, by simp [plc, (Fld.ne F_FORFEIT F_TANDEM (by decide)), hc1_2, hc10_6, hc19_10, hc28_14], N0, rfl⟩
        · have pre17 : ∀ t_, Go p e below s₁ (mkF m 37 #[iv k] [(.int 4), (.int k)]) t_ → Go p e below s₁ (entryFrame m #[(.int k)] 1) t_ := fun t_ kt => pre13 _ (by
              show Go p e below s₁ (mkF m 28 #[iv k] [(.int 3), (.int k)]) _
              refine XS.icmpYes X0.here hx rfl (pc0 := 28) (pc' := 35) rfl (hb hby d1_28) rfl (feq hc28_14).2 (by decide) (by decide) ?_
              show Go p e below s₁ (mkF m 35 #[iv k] []) _
              refine XS.iloadN X0.here hx rfl (hb hby d1_35) rfl ?_
              show Go p e below s₁ (mkF m 36 #[iv k] [(.int k)]) _
              refine XS.iconst X0.here hx rfl (hb hby d1_36) ?_
              show Go p e below s₁ (mkF m 37 #[iv k] [(.int 4), (.int k)]) _
              exact kt)
          by_cases hc37_18 : k = (4 : Int32)
          · obtain ⟨T19, X19, e19, st19⟩ := getS2 X0 hx hZ hown (host := "") (Or.inl (hwi hw 35 rfl)) Via.refl e0 S_PAY (g := (mkF m 40 #[iv k] [])) rfl (hb hby d1_40)
            have pre20 : ∀ t_, Go p e below T19 (mkF m 43 #[iv k] [(.ref w_PAY)]) t_ → Go p e below s₁ (entryFrame m #[(.int k)] 1) t_ := fun t_ kt => pre17 _ (by
                show Go p e below s₁ (mkF m 37 #[iv k] [(.int 4), (.int k)]) _
                refine XS.icmpNo X0.here hx rfl (hb hby d1_37) rfl (teq hc37_18).2 ?_
                show Go p e below s₁ (mkF m 40 #[iv k] []) _
                refine st19 _ ?_
                show Go p e below T19 (mkF m 43 #[iv k] [(.ref w_PAY)]) _
                exact kt)
            obtain ⟨fs, hr, hrun, hended, hW, hsame⟩ := X19.leave (v := some (.ref w_PAY)) (fun h => by rw [Bd.returns] at h; cases h)
            refine ⟨_, _, pre20 _ ?_, hrun, hended, _, _, rfl, ?_, ⟨_, rfl⟩, hW, hsame.mono (by decide) (by decide)⟩
            · show Steps p.tables e below (T19.setTop (mkF m 43 #[iv k] [(.ref w_PAY)])) _
              jvm_step X19.here [X19.here.top, hx, (hb hby d1_43), X19.method', Bd.returns, Value.isRef, FieldType.isReference]
              first | (intro acts; rw [hr _ acts rfl rfl rfl]) | rw [hr _ _ rfl rfl rfl]
              exact Steps.refl _
            · show Q_rmK Z k w_VEST w_EXERCISE w_TANDEM w_FORFEIT w_PAY w_LAPSE h0 n0 _ T19.heap _
              rw [e19]
              exact ⟨w_PAY, 4, rfl, E_PAY, F_PAY, by simp [plc, (Fld.ne F_PAY F_TANDEM (by decide)), hc1_2, hc10_6, hc19_10, hc28_14, hc37_18], N0, rfl⟩
          · obtain ⟨T21, X21, e21, st21⟩ := getS2 X0 hx hZ hown (host := "") (Or.inl (hwi hw 33 rfl)) Via.refl e0 S_LAPSE (g := (mkF m 44 #[iv k] [])) rfl (hb hby d1_44)
            have pre22 : ∀ t_, Go p e below T21 (mkF m 47 #[iv k] [(.ref w_LAPSE)]) t_ → Go p e below s₁ (entryFrame m #[(.int k)] 1) t_ := fun t_ kt => pre17 _ (by
                show Go p e below s₁ (mkF m 37 #[iv k] [(.int 4), (.int k)]) _
                refine XS.icmpYes X0.here hx rfl (pc0 := 37) (pc' := 44) rfl (hb hby d1_37) rfl (feq hc37_18).2 (by decide) (by decide) ?_
                show Go p e below s₁ (mkF m 44 #[iv k] []) _
                refine st21 _ ?_
                show Go p e below T21 (mkF m 47 #[iv k] [(.ref w_LAPSE)]) _
                exact kt)
            obtain ⟨fs, hr, hrun, hended, hW, hsame⟩ := X21.leave (v := some (.ref w_LAPSE)) (fun h => by rw [Bd.returns] at h; cases h)
            refine ⟨_, _, pre22 _ ?_, hrun, hended, _, _, rfl, ?_, ⟨_, rfl⟩, hW, hsame.mono (by decide) (by decide)⟩
            · show Steps p.tables e below (T21.setTop (mkF m 47 #[iv k] [(.ref w_LAPSE)])) _
              jvm_step X21.here [X21.here.top, hx, (hb hby d1_47), X21.method', Bd.returns, Value.isRef, FieldType.isReference]
              first | (intro acts; rw [hr _ acts rfl rfl rfl]) | rw [hr _ _ rfl rfl rfl]
              exact Steps.refl _
            · show Q_rmK Z k w_VEST w_EXERCISE w_TANDEM w_FORFEIT w_PAY w_LAPSE h0 n0 _ T21.heap _
              rw [e21]
              exact ⟨w_LAPSE, 5, rfl, E_LAPSE, F_LAPSE, by simp [plc, (Fld.ne F_LAPSE F_TANDEM (by decide)), hc1_2, hc10_6, hc19_10, hc28_14, hc37_18], N0, rfl⟩
theorem ef_4 (m : MethodId) (x0 : Int32) : entryFrame m #[(.int x0)] 1 = mkF m 0 #[.val (.int x0)] [] := by first | (simp [entryFrame, mkF, argsToLocals, Value.category]; done) | rfl
theorem d4_0 : decode method_3_code 0 = .ok (.iload_n 0, 1) := by decide +kernel
theorem d4_1 : decode method_3_code 1 = .ok (.ifCond .ne 6, 3) := by decide +kernel
theorem d4_4 : decode method_3_code 4 = .ok (.bipush 10, 2) := by decide +kernel
theorem d4_6 : decode method_3_code 6 = .ok (.ireturn, 1) := by decide +kernel
theorem d4_7 : decode method_3_code 7 = .ok (.iload_n 0, 1) := by decide +kernel
theorem d4_8 : decode method_3_code 8 = .ok (.iconst 1, 1) := by decide +kernel
theorem d4_9 : decode method_3_code 9 = .ok (.if_icmp .ne 6, 3) := by decide +kernel
theorem d4_12 : decode method_3_code 12 = .ok (.bipush 20, 2) := by decide +kernel
theorem d4_14 : decode method_3_code 14 = .ok (.ireturn, 1) := by decide +kernel
theorem d4_15 : decode method_3_code 15 = .ok (.iload_n 0, 1) := by decide +kernel
theorem d4_16 : decode method_3_code 16 = .ok (.iconst 2, 1) := by decide +kernel
theorem d4_17 : decode method_3_code 17 = .ok (.if_icmp .ne 6, 3) := by decide +kernel
theorem d4_20 : decode method_3_code 20 = .ok (.bipush 20, 2) := by decide +kernel
theorem d4_22 : decode method_3_code 22 = .ok (.ireturn, 1) := by decide +kernel
theorem d4_23 : decode method_3_code 23 = .ok (.iload_n 0, 1) := by decide +kernel
theorem d4_24 : decode method_3_code 24 = .ok (.iconst 3, 1) := by decide +kernel
theorem d4_25 : decode method_3_code 25 = .ok (.if_icmp .ne 6, 3) := by decide +kernel
theorem d4_28 : decode method_3_code 28 = .ok (.bipush 30, 2) := by decide +kernel
theorem d4_30 : decode method_3_code 30 = .ok (.ireturn, 1) := by decide +kernel
theorem d4_31 : decode method_3_code 31 = .ok (.iload_n 0, 1) := by decide +kernel
theorem d4_32 : decode method_3_code 32 = .ok (.iconst 4, 1) := by decide +kernel
theorem d4_33 : decode method_3_code 33 = .ok (.if_icmp .ne 6, 3) := by decide +kernel
theorem d4_36 : decode method_3_code 36 = .ok (.bipush 40, 2) := by decide +kernel
theorem d4_38 : decode method_3_code 38 = .ok (.ireturn, 1) := by decide +kernel
theorem d4_39 : decode method_3_code 39 = .ok (.bipush 50, 2) := by decide +kernel
theorem d4_41 : decode method_3_code 41 = .ok (.ireturn, 1) := by decide +kernel
def Q_rmR (Z : State) (k : Int32) (h0 : Heap) (n0 : Nat) (v : Option Value) (h : Heap) (L : List Loc) : Prop := v = some (.int (rkc k)) ∧ Fr n0 L ∧ h = h0
set_option maxRecDepth 65536 in
set_option maxHeartbeats 40000000 in
theorem rmR (l : Launch) (Z : State) (a0 : Array Value) (hw : ∀ d ∈ tables_1, d.before a0 Z = true) (ws : List Jvm.Cond) (k : Int32) (h0 : Heap) (n0 : Nat) (Z0 : n0 ≤ h0.size) :
    MetFree l (⟨"com/example/vestry/vestry/KindPlacePinLaw", "rank", "(I)I"⟩ : MethodName) (head1 (Jvm.Cond.code (⟨"com/example/vestry/vestry/KindPlacePinLaw", "rank", "(I)I"⟩ : MethodName) method_3_code 1 (some .int) :: ws) ({ frames := 0, cells := 0, slots := 0, locals := 0 } : Room)) (fun av_ U_ => av_ = #[(.int k)] ∧ Z.Warmed39 U_.vm ∧ U_.heap = h0) (fun _ _ _ _ _ => True) (fun _ U_ o_ V_ => ∃ v_ L_, o_ = .returned v_ ∧ Q_rmR Z k h0 n0 v_ V_.heap L_ ∧ FrameEnd U_ o_ V_ L_ ({ frames := 0, cells := 0, slots := 0, locals := 0 } : Room).cells ({ frames := 0, cells := 0, slots := 0, locals := 0 } : Room).slots) := by
  refine MetFree.of_bodySF (plainFor_of_name pn_com_example_vestry_vestry_KindPlacePinLaw) hisR ?_
  intro p e s m args below meth c s₁ Bd hml0 hP hK
  obtain ⟨rfl, hZ, hh⟩ := hP
  have hx := Bd.exec
  have hby := Bd.bytes
  have hml : c.maxLocals = 1 := hml0
  have hown : s.vm.findClass "com/example/vestry/vestry/KindPlacePinLaw" = some m.cls := findClass_of_methodNamed Bd.named
  have hnm := (name_of_methodNamed Bd.named Bd.method).1
  have X0 : Stand p l e ({ frames := 0, cells := 0, slots := 0, locals := 0 } : Room) s m #[(.int k)] below meth c s₁ [] 0 0 := Stand.of_body Bd
  have e0 : s₁.heap = h0 := by rw [← hh, Bd.state]; rfl
  have N0 := Fr.nil n0
  have pre0 : ∀ t_, Go p e below s₁ (mkF m 0 #[iv k] []) t_ → Go p e below s₁ (entryFrame m #[(.int k)] 1) t_ := fun t_ kt => castTop (ef_4 m k) kt
  have pre1 : ∀ t_, Go p e below s₁ (mkF m 1 #[iv k] [(.int k)]) t_ → Go p e below s₁ (entryFrame m #[(.int k)] 1) t_ := fun t_ kt => pre0 _ (by
      show Go p e below s₁ (mkF m 0 #[iv k] []) _
      refine XS.iloadN X0.here hx rfl (hb hby d4_0) rfl ?_
      show Go p e below s₁ (mkF m 1 #[iv k] [(.int k)]) _
      exact kt)
  by_cases hc1_2 : k = (0 : Int32)
  · have pre3 : ∀ t_, Go p e below s₁ (mkF m 6 #[iv k] [(.int 10)]) t_ → Go p e below s₁ (entryFrame m #[(.int k)] 1) t_ := fun t_ kt => pre1 _ (by
        show Go p e below s₁ (mkF m 1 #[iv k] [(.int k)]) _
        refine XS.ifNo X0.here hx rfl (hb hby d4_1) rfl ((if0 _ _).trans (teq hc1_2).2) ?_
        show Go p e below s₁ (mkF m 4 #[iv k] []) _
        refine XS.bipush X0.here hx rfl (hb hby d4_4) ?_
        show Go p e below s₁ (mkF m 6 #[iv k] [(.int 10)]) _
        exact kt)
    obtain ⟨fs, hr, hrun, hended, hW, hsame⟩ := X0.leave (v := some (.int 10)) (fun h => by rw [Bd.returns] at h; cases h)
    refine ⟨_, _, pre3 _ ?_, hrun, hended, _, _, rfl, ?_, ⟨_, rfl⟩, hW, hsame.mono (by decide) (by decide)⟩
    · show Steps p.tables e below (s₁.setTop (mkF m 6 #[iv k] [(.int 10)])) _
      exact retI X0 hx Bd.returns (hb hby d4_6) hr
    · show Q_rmR Z k h0 n0 _ s₁.heap _
      rw [e0]
      exact ⟨by simp [rkc, hc1_2], N0, rfl⟩
  · have pre4 : ∀ t_, Go p e below s₁ (mkF m 9 #[iv k] [(.int 1), (.int k)]) t_ → Go p e below s₁ (entryFrame m #[(.int k)] 1) t_ := fun t_ kt => pre1 _ (by
        show Go p e below s₁ (mkF m 1 #[iv k] [(.int k)]) _
        refine XS.ifYes X0.here hx rfl (pc0 := 1) (pc' := 7) rfl (hb hby d4_1) rfl ((if0 _ _).trans (feq hc1_2).2) (by decide) (by decide) ?_
        show Go p e below s₁ (mkF m 7 #[iv k] []) _
        refine XS.iloadN X0.here hx rfl (hb hby d4_7) rfl ?_
        show Go p e below s₁ (mkF m 8 #[iv k] [(.int k)]) _
        refine XS.iconst X0.here hx rfl (hb hby d4_8) ?_
        show Go p e below s₁ (mkF m 9 #[iv k] [(.int 1), (.int k)]) _
        exact kt)
    by_cases hc9_5 : k = (1 : Int32)
    · have pre6 : ∀ t_, Go p e below s₁ (mkF m 14 #[iv k] [(.int 20)]) t_ → Go p e below s₁ (entryFrame m #[(.int k)] 1) t_ := fun t_ kt => pre4 _ (by
          show Go p e below s₁ (mkF m 9 #[iv k] [(.int 1), (.int k)]) _
          refine XS.icmpNo X0.here hx rfl (hb hby d4_9) rfl (teq hc9_5).2 ?_
          show Go p e below s₁ (mkF m 12 #[iv k] []) _
          refine XS.bipush X0.here hx rfl (hb hby d4_12) ?_
          show Go p e below s₁ (mkF m 14 #[iv k] [(.int 20)]) _
          exact kt)
      obtain ⟨fs, hr, hrun, hended, hW, hsame⟩ := X0.leave (v := some (.int 20)) (fun h => by rw [Bd.returns] at h; cases h)
      refine ⟨_, _, pre6 _ ?_, hrun, hended, _, _, rfl, ?_, ⟨_, rfl⟩, hW, hsame.mono (by decide) (by decide)⟩
      · show Steps p.tables e below (s₁.setTop (mkF m 14 #[iv k] [(.int 20)])) _
        exact retI X0 hx Bd.returns (hb hby d4_14) hr
      · show Q_rmR Z k h0 n0 _ s₁.heap _
        rw [e0]
        exact ⟨by simp [rkc, hc1_2, hc9_5], N0, rfl⟩
    · have pre7 : ∀ t_, Go p e below s₁ (mkF m 17 #[iv k] [(.int 2), (.int k)]) t_ → Go p e below s₁ (entryFrame m #[(.int k)] 1) t_ := fun t_ kt => pre4 _ (by
          show Go p e below s₁ (mkF m 9 #[iv k] [(.int 1), (.int k)]) _
          refine XS.icmpYes X0.here hx rfl (pc0 := 9) (pc' := 15) rfl (hb hby d4_9) rfl (feq hc9_5).2 (by decide) (by decide) ?_
          show Go p e below s₁ (mkF m 15 #[iv k] []) _
          refine XS.iloadN X0.here hx rfl (hb hby d4_15) rfl ?_
          show Go p e below s₁ (mkF m 16 #[iv k] [(.int k)]) _
          refine XS.iconst X0.here hx rfl (hb hby d4_16) ?_
          show Go p e below s₁ (mkF m 17 #[iv k] [(.int 2), (.int k)]) _
          exact kt)
      by_cases hc17_8 : k = (2 : Int32)
      · have pre9 : ∀ t_, Go p e below s₁ (mkF m 22 #[iv k] [(.int 20)]) t_ → Go p e below s₁ (entryFrame m #[(.int k)] 1) t_ := fun t_ kt => pre7 _ (by
            show Go p e below s₁ (mkF m 17 #[iv k] [(.int 2), (.int k)]) _
            refine XS.icmpNo X0.here hx rfl (hb hby d4_17) rfl (teq hc17_8).2 ?_
            show Go p e below s₁ (mkF m 20 #[iv k] []) _
            refine XS.bipush X0.here hx rfl (hb hby d4_20) ?_
            show Go p e below s₁ (mkF m 22 #[iv k] [(.int 20)]) _
            exact kt)
        obtain ⟨fs, hr, hrun, hended, hW, hsame⟩ := X0.leave (v := some (.int 20)) (fun h => by rw [Bd.returns] at h; cases h)
        refine ⟨_, _, pre9 _ ?_, hrun, hended, _, _, rfl, ?_, ⟨_, rfl⟩, hW, hsame.mono (by decide) (by decide)⟩
        · show Steps p.tables e below (s₁.setTop (mkF m 22 #[iv k] [(.int 20)])) _
          exact retI X0 hx Bd.returns (hb hby d4_22) hr
        · show Q_rmR Z k h0 n0 _ s₁.heap _
          rw [e0]
          exact ⟨by simp [rkc, hc1_2, hc9_5, hc17_8], N0, rfl⟩
      · have pre10 : ∀ t_, Go p e below s₁ (mkF m 25 #[iv k] [(.int 3), (.int k)]) t_ → Go p e below s₁ (entryFrame m #[(.int k)] 1) t_ := fun t_ kt => pre7 _ (by
            show Go p e below s₁ (mkF m 17 #[iv k] [(.int 2), (.int k)]) _
            refine XS.icmpYes X0.here hx rfl (pc0 := 17) (pc' := 23) rfl (hb hby d4_17) rfl (feq hc17_8).2 (by decide) (by decide) ?_
            show Go p e below s₁ (mkF m 23 #[iv k] []) _
            refine XS.iloadN X0.here hx rfl (hb hby d4_23) rfl ?_
            show Go p e below s₁ (mkF m 24 #[iv k] [(.int k)]) _
            refine XS.iconst X0.here hx rfl (hb hby d4_24) ?_
            show Go p e below s₁ (mkF m 25 #[iv k] [(.int 3), (.int k)]) _
            exact kt)
        by_cases hc25_11 : k = (3 : Int32)
        · have pre12 : ∀ t_, Go p e below s₁ (mkF m 30 #[iv k] [(.int 30)]) t_ → Go p e below s₁ (entryFrame m #[(.int k)] 1) t_ := fun t_ kt => pre10 _ (by
              show Go p e below s₁ (mkF m 25 #[iv k] [(.int 3), (.int k)]) _
              refine XS.icmpNo X0.here hx rfl (hb hby d4_25) rfl (teq hc25_11).2 ?_
              show Go p e below s₁ (mkF m 28 #[iv k] []) _
              refine XS.bipush X0.here hx rfl (hb hby d4_28) ?_
              show Go p e below s₁ (mkF m 30 #[iv k] [(.int 30)]) _
              exact kt)
          obtain ⟨fs, hr, hrun, hended, hW, hsame⟩ := X0.leave (v := some (.int 30)) (fun h => by rw [Bd.returns] at h; cases h)
          refine ⟨_, _, pre12 _ ?_, hrun, hended, _, _, rfl, ?_, ⟨_, rfl⟩, hW, hsame.mono (by decide) (by decide)⟩
          · show Steps p.tables e below (s₁.setTop (mkF m 30 #[iv k] [(.int 30)])) _
            exact retI X0 hx Bd.returns (hb hby d4_30) hr
          · show Q_rmR Z k h0 n0 _ s₁.heap _
            rw [e0]
            exact ⟨by simp [rkc, hc1_2, hc9_5, hc17_8, hc25_11], N0, rfl⟩
        · have pre13 : ∀ t_, Go p e below s₁ (mkF m 33 #[iv k] [(.int 4), (.int k)]) t_ → Go p e below s₁ (entryFrame m #[(.int k)] 1) t_ := fun t_ kt => pre10 _ (by
              show Go p e below s₁ (mkF m 25 #[iv k] [(.int 3), (.int k)]) _
              refine XS.icmpYes X0.here hx rfl (pc0 := 25) (pc' := 31) rfl (hb hby d4_25) rfl (feq hc25_11).2 (by decide) (by decide) ?_
              show Go p e below s₁ (mkF m 31 #[iv k] []) _
              refine XS.iloadN X0.here hx rfl (hb hby d4_31) rfl ?_
              show Go p e below s₁ (mkF m 32 #[iv k] [(.int k)]) _
              refine XS.iconst X0.here hx rfl (hb hby d4_32) ?_
              show Go p e below s₁ (mkF m 33 #[iv k] [(.int 4), (.int k)]) _
              exact kt)
          by_cases hc33_14 : k = (4 : Int32)
          · have pre15 : ∀ t_, Go p e below s₁ (mkF m 38 #[iv k] [(.int 40)]) t_ → Go p e below s₁ (entryFrame m #[(.int k)] 1) t_ := fun t_ kt => pre13 _ (by
                show Go p e below s₁ (mkF m 33 #[iv k] [(.int 4), (.int k)]) _
                refine XS.icmpNo X0.here hx rfl (hb hby d4_33) rfl (teq hc33_14).2 ?_
                show Go p e below s₁ (mkF m 36 #[iv k] []) _
                refine XS.bipush X0.here hx rfl (hb hby d4_36) ?_
                show Go p e below s₁ (mkF m 38 #[iv k] [(.int 40)]) _
                exact kt)
            obtain ⟨fs, hr, hrun, hended, hW, hsame⟩ := X0.leave (v := some (.int 40)) (fun h => by rw [Bd.returns] at h; cases h)
            refine ⟨_, _, pre15 _ ?_, hrun, hended, _, _, rfl, ?_, ⟨_, rfl⟩, hW, hsame.mono (by decide) (by decide)⟩
            · show Steps p.tables e below (s₁.setTop (mkF m 38 #[iv k] [(.int 40)])) _
              exact retI X0 hx Bd.returns (hb hby d4_38) hr
            · show Q_rmR Z k h0 n0 _ s₁.heap _
              rw [e0]
              exact ⟨by simp [rkc, hc1_2, hc9_5, hc17_8, hc25_11, hc33_14], N0, rfl⟩
          · have pre16 : ∀ t_, Go p e below s₁ (mkF m 41 #[iv k] [(.int 50)]) t_ → Go p e below s₁ (entryFrame m #[(.int k)] 1) t_ := fun t_ kt => pre13 _ (by
                show Go p e below s₁ (mkF m 33 #[iv k] [(.int 4), (.int k)]) _
                refine XS.icmpYes X0.here hx rfl (pc0 := 33) (pc' := 39) rfl (hb hby d4_33) rfl (feq hc33_14).2 (by decide) (by decide) ?_
                show Go p e below s₁ (mkF m 39 #[iv k] []) _
                refine XS.bipush X0.here hx rfl (hb hby d4_39) ?_
                show Go p e below s₁ (mkF m 41 #[iv k] [(.int 50)]) _
                exact kt)
            obtain ⟨fs, hr, hrun, hended, hW, hsame⟩ := X0.leave (v := some (.int 50)) (fun h => by rw [Bd.returns] at h; cases h)
            refine ⟨_, _, pre16 _ ?_, hrun, hended, _, _, rfl, ?_, ⟨_, rfl⟩, hW, hsame.mono (by decide) (by decide)⟩
            · show Steps p.tables e below (s₁.setTop (mkF m 41 #[iv k] [(.int 50)])) _
              exact retI X0 hx Bd.returns (hb hby d4_41) hr
            · show Q_rmR Z k h0 n0 _ s₁.heap _
              rw [e0]
              exact ⟨by simp [rkc, hc1_2, hc9_5, hc17_8, hc25_11, hc33_14], N0, rfl⟩
theorem ef_0 (m : MethodId) (x0 : Int32) (x1 : Int32) : entryFrame m #[(.int x0), (.int x1)] maxLocals = mkF m 0 #[.val (.int x0), .val (.int x1), .unset, .unset, .unset, .unset, .unset, .unset, .unset, .unset] [] := by first | (simp [entryFrame, mkF, argsToLocals, Value.category, maxLocals]; done) | rfl
theorem pd_0 : parseMethodDescriptor "(I)Lcom/example/vestry/vestry/Change$Kind;" = some ⟨[.int], some (.object "com/example/vestry/vestry/Change$Kind")⟩ := by decide +kernel
theorem pd_2 : parseMethodDescriptor "(I)I" = some ⟨[.int], some .int⟩ := by decide +kernel
def Q_rmL (Z : State) (p1 : Int32) (p2 : Int32) (w_VEST : Addr) (w_EXERCISE : Addr) (w_TANDEM : Addr) (w_FORFEIT : Addr) (w_PAY : Addr) (w_LAPSE : Addr) (h0 : Heap) (n0 : Nat) (v : Option Value) (h : Heap) (L : List Loc) : Prop := v = some (.int 1) ∧ Fr n0 L
set_option maxRecDepth 65536 in
set_option maxHeartbeats 40000000 in
theorem rmL (l : Launch) (Z : State) (a0 : Array Value) (hw : ∀ d ∈ tables_1, d.before a0 Z = true) (ws : List Jvm.Cond) (p1 : Int32) (p2 : Int32) (w_VEST : Addr) (w_EXERCISE : Addr) (w_TANDEM : Addr) (w_FORFEIT : Addr) (w_PAY : Addr) (w_LAPSE : Addr) (h0 : Heap) (n0 : Nat) (Z0 : n0 ≤ h0.size) (hWd : Wd Z h0 w_VEST w_EXERCISE w_TANDEM w_FORFEIT w_PAY w_LAPSE) :
    MetFree l x (head1 (Jvm.Cond.code x code maxLocals ret :: ws) room_1) (fun av_ U_ => av_ = #[(.int p1), (.int p2)] ∧ Z.Warmed39 U_.vm ∧ U_.heap = h0) (fun _ _ _ _ _ => True) (fun _ U_ o_ V_ => ∃ v_ L_, o_ = .returned v_ ∧ Q_rmL Z p1 p2 w_VEST w_EXERCISE w_TANDEM w_FORFEIT w_PAY w_LAPSE h0 n0 v_ V_.heap L_ ∧ FrameEnd U_ o_ V_ L_ room_1.cells room_1.slots) := by
  refine MetFree.of_bodySF (plainFor_of_name pn_com_example_vestry_vestry_KindPlacePinLaw) hisR ?_
  intro p e s m args below meth c s₁ Bd hml0 hP hK
  obtain ⟨rfl, hZ, hh⟩ := hP
  have hx := Bd.exec
  have hby := Bd.bytes
  have hml : c.maxLocals = 10 := hml0
  have hown : s.vm.findClass "com/example/vestry/vestry/KindPlacePinLaw" = some m.cls := findClass_of_methodNamed Bd.named
  have hnm := (name_of_methodNamed Bd.named Bd.method).1
  have X0 : Stand p l e room_1 s m #[(.int p1), (.int p2)] below meth c s₁ [] 0 0 := Stand.of_body Bd
  have e0 : s₁.heap = h0 := by rw [← hh, Bd.state]; rfl
  have N0 := Fr.nil n0
  have pre0 : ∀ t_, Go p e below s₁ (mkF m 0 #[iv p1, iv p2, .unset, .unset, .unset, .unset, .unset, .unset, .unset, .unset] []) t_ → Go p e below s₁ (entryFrame m #[(.int p1), (.int p2)] maxLocals) t_ := fun t_ kt => castTop (ef_0 m p1 p2) kt
  have hWd0 := hWd
  obtain ⟨⟨S_VEST, E_VEST, F_VEST⟩, ⟨S_EXERCISE, E_EXERCISE, F_EXERCISE⟩, ⟨S_TANDEM, E_TANDEM, F_TANDEM⟩, ⟨S_FORFEIT, E_FORFEIT, F_FORFEIT⟩, ⟨S_PAY, E_PAY, F_PAY⟩, ⟨S_LAPSE, E_LAPSE, F_LAPSE⟩⟩ := hWd
  obtain ⟨i, e_i⟩ : ∃ z : Int32, z = ((p1 &&& (2147483647 : Int32)) % (6 : Int32)) := ⟨_, rfl⟩
  have pre1 : ∀ t_, Go p e below s₁ (mkF m 8 #[iv p1, iv p2, iv i, .unset, .unset, .unset, .unset, .unset, .unset, .unset] []) t_ → Go p e below s₁ (entryFrame m #[(.int p1), (.int p2)] maxLocals) t_ := fun t_ kt => pre0 _ (by
      subst e_i
      show Go p e below s₁ (mkF m 0 #[iv p1, iv p2, .unset, .unset, .unset, .unset, .unset, .unset, .unset, .unset] []) _
      refine XS.iloadN X0.here hx rfl (hb hby at_0) rfl ?_
      show Go p e below s₁ (mkF m 1 #[iv p1, iv p2, .unset, .unset, .unset, .unset, .unset, .unset, .unset, .unset] [(.int p1)]) _
      refine X0.ldcInt hx hown (mvT hZ (hwi hw 0 rfl)) (g := (mkF m 1 #[iv p1, iv p2, .unset, .unset, .unset, .unset, .unset, .unset, .unset, .unset] [(.int p1)])) rfl (hb hby at_1) _ ?_
      show Go p e below s₁ (mkF m 3 #[iv p1, iv p2, .unset, .unset, .unset, .unset, .unset, .unset, .unset, .unset] [(.int 2147483647), (.int p1)]) _
      refine XS.iand X0.here hx rfl (hb hby at_3) rfl ?_
      show Go p e below s₁ (mkF m 4 #[iv p1, iv p2, .unset, .unset, .unset, .unset, .unset, .unset, .unset, .unset] [(.int (p1 &&& (2147483647 : Int32)))]) _
      refine XS.bipush X0.here hx rfl (hb hby at_4) ?_
      show Go p e below s₁ (mkF m 6 #[iv p1, iv p2, .unset, .unset, .unset, .unset, .unset, .unset, .unset, .unset] [(.int 6), (.int (p1 &&& (2147483647 : Int32)))]) _
      refine iremM X0 hx rfl (hb hby at_6) rfl (by decide) ?_
      show Go p e below s₁ (mkF m 7 #[iv p1, iv p2, .unset, .unset, .unset, .unset, .unset, .unset, .unset, .unset] [(.int ((p1 &&& (2147483647 : Int32)) % (6 : Int32)))]) _
      refine XS.istoreN X0.here hx rfl (hb hby at_7) rfl (l' := #[iv p1, iv p2, iv ((p1 &&& (2147483647 : Int32)) % (6 : Int32)), .unset, .unset, .unset, .unset, .unset, .unset, .unset]) rfl ?_
      show Go p e below s₁ (mkF m 8 #[iv p1, iv p2, iv ((p1 &&& (2147483647 : Int32)) % (6 : Int32)), .unset, .unset, .unset, .unset, .unset, .unset, .unset] []) _
      exact kt)
  obtain ⟨j, e_j⟩ : ∃ z : Int32, z = ((p2 &&& (2147483647 : Int32)) % (6 : Int32)) := ⟨_, rfl⟩
  have pre2 : ∀ t_, Go p e below s₁ (mkF m 16 #[iv p1, iv p2, iv i, iv j, .unset, .unset, .unset, .unset, .unset, .unset] []) t_ → Go p e below s₁ (entryFrame m #[(.int p1), (.int p2)] maxLocals) t_ := fun t_ kt => pre1 _ (by
      subst e_j
      show Go p e below s₁ (mkF m 8 #[iv p1, iv p2, iv i, .unset, .unset, .unset, .unset, .unset, .unset, .unset] []) _
      refine XS.iloadN X0.here hx rfl (hb hby at_8) rfl ?_
      show Go p e below s₁ (mkF m 9 #[iv p1, iv p2, iv i, .unset, .unset, .unset, .unset, .unset, .unset, .unset] [(.int p2)]) _
      refine X0.ldcInt hx hown (mvT hZ (hwi hw 0 rfl)) (g := (mkF m 9 #[iv p1, iv p2, iv i, .unset, .unset, .unset, .unset, .unset, .unset, .unset] [(.int p2)])) rfl (hb hby at_9) _ ?_
      show Go p e below s₁ (mkF m 11 #[iv p1, iv p2, iv i, .unset, .unset, .unset, .unset, .unset, .unset, .unset] [(.int 2147483647), (.int p2)]) _
      refine XS.iand X0.here hx rfl (hb hby at_11) rfl ?_
      show Go p e below s₁ (mkF m 12 #[iv p1, iv p2, iv i, .unset, .unset, .unset, .unset, .unset, .unset, .unset] [(.int (p2 &&& (2147483647 : Int32)))]) _
      refine XS.bipush X0.here hx rfl (hb hby at_12) ?_
      show Go p e below s₁ (mkF m 14 #[iv p1, iv p2, iv i, .unset, .unset, .unset, .unset, .unset, .unset, .unset] [(.int 6), (.int (p2 &&& (2147483647 : Int32)))]) _
      refine iremM X0 hx rfl (hb hby at_14) rfl (by decide) ?_
      show Go p e below s₁ (mkF m 15 #[iv p1, iv p2, iv i, .unset, .unset, .unset, .unset, .unset, .unset, .unset] [(.int ((p2 &&& (2147483647 : Int32)) % (6 : Int32)))]) _
      refine XS.istoreN X0.here hx rfl (hb hby at_15) rfl (l' := #[iv p1, iv p2, iv i, iv ((p2 &&& (2147483647 : Int32)) % (6 : Int32)), .unset, .unset, .unset, .unset, .unset, .unset]) rfl ?_
      show Go p e below s₁ (mkF m 16 #[iv p1, iv p2, iv i, iv ((p2 &&& (2147483647 : Int32)) % (6 : Int32)), .unset, .unset, .unset, .unset, .unset, .unset] []) _
      exact kt)
  obtain ⟨_, _, ⟨T3, L3, k3, n3⟩, -, X3, ⟨Lc3, hQ3, l3, y3, z3⟩, st3⟩ := Jvm.LawKit.callS X0 hx (y := (⟨"com/example/vestry/vestry/KindPlacePinLaw", "kindOf", "(I)Lcom/example/vestry/vestry/Change$Kind;"⟩ : MethodName)) hown (mvT hZ (hwi hw 1 rfl)) (mvT hZ (hwi hw 2 rfl)) (mvT hZ (hwi hw 3 rfl)) (mvT hZ (hwi hw 4 rfl)) (by decide) (backOf (W := 0) (rmK l Z a0 hw [] i w_VEST w_EXERCISE w_TANDEM w_FORFEIT w_PAY w_LAPSE h0 n0 Z0 hWd0) hZ (hwi hw 4 rfl) (hwi hw 3 rfl) (by decide) (by decide)) (g := (mkF m 17 #[iv p1, iv p2, iv i, iv j, .unset, .unset, .unset, .unset, .unset, .unset] [(.int i)])) rfl (by rw [hml]; rfl) (argsL := [(.int i)]) (rest := []) (lenOf pd_0 rfl) rfl (by show 2 * 0 + _ ≤ _; exact Nat.le_of_eq rfl) (hb hby at_17) (fun _ _ => ⟨rfl, e0, (by decide : 0 + 0 ≤ _), (by decide : 0 + 0 ≤ _)⟩)
  dsimp only [Pt.U, Pt.locs, Pt.cells, Pt.slots] at X3 l3 y3 z3 st3 hQ3
  subst l3 y3 z3
  obtain ⟨a3, o3, rfl, Ea3, Fa3, pl3, N3q, e3q⟩ := hQ3
  have N3 := Fr.app N0 N3q
  obtain ⟨cq4, kq4, q4a, q4b, q4c⟩ := isOf hZ e3q Ea3
  obtain ⟨_, _, ⟨T4, L4, k4, n4⟩, -, X4, ⟨Lc4, hQ4, l4, y4, z4⟩, st4⟩ := X3.virtualBack hx (y := (⟨"com/example/vestry/vestry/Change$Kind", "place", "()I"⟩ : MethodName)) (z := (⟨"com/example/vestry/vestry/Change$Kind", "place", "()I"⟩ : MethodName)) hown (mvT hZ (hwi hw 8 rfl)) (mvT hZ (hwi hw 9 rfl)) (notFace_of_selects (args := #[]) (mvT hZ (hwi hw 11 rfl))) (mvT hZ (hwi hw 11 rfl)) (mvT hZ (hwi hw 10 rfl)) (by decide) (backOf (W := 0) (rmPl l Z a0 hw [] a3 o3 w_VEST w_EXERCISE w_TANDEM w_FORFEIT w_PAY w_LAPSE h0 n0 Z0 hWd0 Ea3 Fa3) hZ (hwi hw 12 rfl) (hwi hw 6 rfl) (by decide) (by decide)) q4a q4c (g := (mkF m 20 #[iv p1, iv p2, iv i, iv j, .unset, .unset, .unset, .unset, .unset, .unset] [(.ref a3)])) rfl (by rw [hml]; rfl) (Steps.refl _) (argsL := []) (rest := []) (lenOf pd_1 rfl) rfl (by show 2 * 0 + _ ≤ _; exact Nat.le_of_eq rfl) (hb hby at_20) (fun _ _ => ⟨rfl, e3q, (by decide : 0 + 0 ≤ _), (by decide : 0 + 0 ≤ _)⟩)
  dsimp only [Pt.U, Pt.locs, Pt.cells, Pt.slots] at X4 l4 y4 z4 st4 hQ4
  subst l4 y4 z4
  obtain ⟨hv4, N4q, e4q⟩ := hQ4
  have N4 := Fr.app N3 N4q
  rw [pl3] at hv4
  subst hv4
  obtain ⟨_, _, ⟨T5, L5, k5, n5⟩, -, X5, ⟨Lc5, hQ5, l5, y5, z5⟩, st5⟩ := Jvm.LawKit.callS X4 hx (y := (⟨"com/example/vestry/vestry/KindPlacePinLaw", "kindOf", "(I)Lcom/example/vestry/vestry/Change$Kind;"⟩ : MethodName)) hown (mvT hZ (hwi hw 1 rfl)) (mvT hZ (hwi hw 2 rfl)) (mvT hZ (hwi hw 3 rfl)) (mvT hZ (hwi hw 4 rfl)) (by decide) (backOf (W := 0) (rmK l Z a0 hw [] j w_VEST w_EXERCISE w_TANDEM w_FORFEIT w_PAY w_LAPSE h0 n0 Z0 hWd0) hZ (hwi hw 4 rfl) (hwi hw 3 rfl) (by decide) (by decide)) (g := (mkF m 26 #[iv p1, iv p2, iv i, iv j, iv (plc i), .unset, .unset, .unset, .unset, .unset] [(.int j)])) rfl (by rw [hml]; rfl) (argsL := [(.int j)]) (rest := []) (lenOf pd_0 rfl) rfl (by show 2 * 0 + _ ≤ _; exact Nat.le_of_eq rfl) (hb hby at_26) (fun _ _ => ⟨rfl, e4q, (by decide : 0 + 0 ≤ _), (by decide : 0 + 0 ≤ _)⟩)
  dsimp only [Pt.U, Pt.locs, Pt.cells, Pt.slots] at X5 l5 y5 z5 st5 hQ5
  subst l5 y5 z5
  obtain ⟨a5, o5, rfl, Ea5, Fa5, pl5, N5q, e5q⟩ := hQ5
  have N5 := Fr.app N4 N5q
  obtain ⟨cq6, kq6, q6a, q6b, q6c⟩ := isOf hZ e5q Ea5
  obtain ⟨_, _, ⟨T6, L6, k6, n6⟩, -, X6, ⟨Lc6, hQ6, l6, y6, z6⟩, st6⟩ := X5.virtualBack hx (y := (⟨"com/example/vestry/vestry/Change$Kind", "place", "()I"⟩ : MethodName)) (z := (⟨"com/example/vestry/vestry/Change$Kind", "place", "()I"⟩ : MethodName)) hown (mvT hZ (hwi hw 8 rfl)) (mvT hZ (hwi hw 9 rfl)) (notFace_of_selects (args := #[]) (mvT hZ (hwi hw 11 rfl))) (mvT hZ (hwi hw 11 rfl)) (mvT hZ (hwi hw 10 rfl)) (by decide) (backOf (W := 0) (rmPl l Z a0 hw [] a5 o5 w_VEST w_EXERCISE w_TANDEM w_FORFEIT w_PAY w_LAPSE h0 n0 Z0 hWd0 Ea5 Fa5) hZ (hwi hw 12 rfl) (hwi hw 6 rfl) (by decide) (by decide)) q6a q6c (g := (mkF m 29 #[iv p1, iv p2, iv i, iv j, iv (plc i), .unset, .unset, .unset, .unset, .unset] [(.ref a5)])) rfl (by rw [hml]; rfl) (Steps.refl _) (argsL := []) (rest := []) (lenOf pd_1 rfl) rfl (by show 2 * 0 + _ ≤ _; exact Nat.le_of_eq rfl) (hb hby at_29) (fun _ _ => ⟨rfl, e5q, (by decide : 0 + 0 ≤ _), (by decide : 0 + 0 ≤ _)⟩)
  dsimp only [Pt.U, Pt.locs, Pt.cells, Pt.slots] at X6 l6 y6 z6 st6 hQ6
  subst l6 y6 z6
  obtain ⟨hv6, N6q, e6q⟩ := hQ6
  have N6 := Fr.app N5 N6q
  rw [pl5] at hv6
  subst hv6
  obtain ⟨_, _, ⟨T7, L7, k7, n7⟩, -, X7, ⟨Lc7, hQ7, l7, y7, z7⟩, st7⟩ := Jvm.LawKit.callS X6 hx (y := (⟨"com/example/vestry/vestry/KindPlacePinLaw", "rank", "(I)I"⟩ : MethodName)) hown (mvT hZ (hwi hw 26 rfl)) (mvT hZ (hwi hw 27 rfl)) (mvT hZ (hwi hw 3 rfl)) (mvT hZ (hwi hw 28 rfl)) (by decide) (backOf (W := 0) (rmR l Z a0 hw [] i h0 n0 Z0) hZ (hwi hw 28 rfl) (hwi hw 3 rfl) (by decide) (by decide)) (g := (mkF m 35 #[iv p1, iv p2, iv i, iv j, iv (plc i), iv (plc j), .unset, .unset, .unset, .unset] [(.int i)])) rfl (by rw [hml]; rfl) (argsL := [(.int i)]) (rest := []) (lenOf pd_2 rfl) rfl (by show 2 * 0 + _ ≤ _; exact Nat.le_of_eq rfl) (hb hby at_35) (fun _ _ => ⟨rfl, e6q, (by decide : 0 + 0 ≤ _), (by decide : 0 + 0 ≤ _)⟩)
  dsimp only [Pt.U, Pt.locs, Pt.cells, Pt.slots] at X7 l7 y7 z7 st7 hQ7
  subst l7 y7 z7
  obtain ⟨rfl, N7q, e7q⟩ := hQ7
  have N7 := Fr.app N6 N7q
  obtain ⟨_, _, ⟨T8, L8, k8, n8⟩, -, X8, ⟨Lc8, hQ8, l8, y8, z8⟩, st8⟩ := Jvm.LawKit.callS X7 hx (y := (⟨"com/example/vestry/vestry/KindPlacePinLaw", "rank", "(I)I"⟩ : MethodName)) hown (mvT hZ (hwi hw 26 rfl)) (mvT hZ (hwi hw 27 rfl)) (mvT hZ (hwi hw 3 rfl)) (mvT hZ (hwi hw 28 rfl)) (by decide) (backOf (W := 0) (rmR l Z a0 hw [] j h0 n0 Z0) hZ (hwi hw 28 rfl) (hwi hw 3 rfl) (by decide) (by decide)) (g := (mkF m 41 #[iv p1, iv p2, iv i, iv j, iv (plc i), iv (plc j), iv (rkc i), .unset, .unset, .unset] [(.int j)])) rfl (by rw [hml]; rfl) (argsL := [(.int j)]) (rest := []) (lenOf pd_2 rfl) rfl (by show 2 * 0 + _ ≤ _; exact Nat.le_of_eq rfl) (hb hby at_41) (fun _ _ => ⟨rfl, e7q, (by decide : 0 + 0 ≤ _), (by decide : 0 + 0 ≤ _)⟩)
  dsimp only [Pt.U, Pt.locs, Pt.cells, Pt.slots] at X8 l8 y8 z8 st8 hQ8
  subst l8 y8 z8
  obtain ⟨rfl, N8q, e8q⟩ := hQ8
  have N8 := Fr.app N7 N8q
  have pre9 : ∀ t_, Go p e below T8 (mkF m 46 #[iv p1, iv p2, iv i, iv j, iv (plc i), iv (plc j), iv (rkc i), iv (rkc j), .unset, .unset] []) t_ → Go p e below s₁ (entryFrame m #[(.int p1), (.int p2)] maxLocals) t_ := fun t_ kt => pre2 _ (by
      show Go p e below s₁ (mkF m 16 #[iv p1, iv p2, iv i, iv j, .unset, .unset, .unset, .unset, .unset, .unset] []) _
      refine XS.iloadN X0.here hx rfl (hb hby at_16) rfl ?_
      show Go p e below s₁ (mkF m 17 #[iv p1, iv p2, iv i, iv j, .unset, .unset, .unset, .unset, .unset, .unset] [(.int i)]) _
      refine st3 _ ?_
      show Go p e below T3 (mkF m 20 #[iv p1, iv p2, iv i, iv j, .unset, .unset, .unset, .unset, .unset, .unset] [(.ref a3)]) _
      refine st4.trans ?_
      show Go p e below T4 (mkF m 23 #[iv p1, iv p2, iv i, iv j, .unset, .unset, .unset, .unset, .unset, .unset] [(.int (plc i))]) _
      refine XS.istore X4.here hx rfl (hb hby at_23) rfl (l' := #[iv p1, iv p2, iv i, iv j, iv (plc i), .unset, .unset, .unset, .unset, .unset]) rfl ?_
      show Go p e below T4 (mkF m 25 #[iv p1, iv p2, iv i, iv j, iv (plc i), .unset, .unset, .unset, .unset, .unset] []) _
      refine XS.iloadN X4.here hx rfl (hb hby at_25) rfl ?_
      show Go p e below T4 (mkF m 26 #[iv p1, iv p2, iv i, iv j, iv (plc i), .unset, .unset, .unset, .unset, .unset] [(.int j)]) _
      refine st5 _ ?_
      show Go p e below T5 (mkF m 29 #[iv p1, iv p2, iv i, iv j, iv (plc i), .unset, .unset, .unset, .unset, .unset] [(.ref a5)]) _
      refine st6.trans ?_
      show Go p e below T6 (mkF m 32 #[iv p1, iv p2, iv i, iv j, iv (plc i), .unset, .unset, .unset, .unset, .unset] [(.int (plc j))]) _
      refine XS.istore X6.here hx rfl (hb hby at_32) rfl (l' := #[iv p1, iv p2, iv i, iv j, iv (plc i), iv (plc j), .unset, .unset, .unset, .unset]) rfl ?_
      show Go p e below T6 (mkF m 34 #[iv p1, iv p2, iv i, iv j, iv (plc i), iv (plc j), .unset, .unset, .unset, .unset] []) _
      refine XS.iloadN X6.here hx rfl (hb hby at_34) rfl ?_
      show Go p e below T6 (mkF m 35 #[iv p1, iv p2, iv i, iv j, iv (plc i), iv (plc j), .unset, .unset, .unset, .unset] [(.int i)]) _
      refine st7 _ ?_
      show Go p e below T7 (mkF m 38 #[iv p1, iv p2, iv i, iv j, iv (plc i), iv (plc j), .unset, .unset, .unset, .unset] [(.int (rkc i))]) _
      refine XS.istore X7.here hx rfl (hb hby at_38) rfl (l' := #[iv p1, iv p2, iv i, iv j, iv (plc i), iv (plc j), iv (rkc i), .unset, .unset, .unset]) rfl ?_
      show Go p e below T7 (mkF m 40 #[iv p1, iv p2, iv i, iv j, iv (plc i), iv (plc j), iv (rkc i), .unset, .unset, .unset] []) _
      refine XS.iloadN X7.here hx rfl (hb hby at_40) rfl ?_
      show Go p e below T7 (mkF m 41 #[iv p1, iv p2, iv i, iv j, iv (plc i), iv (plc j), iv (rkc i), .unset, .unset, .unset] [(.int j)]) _
      refine st8 _ ?_
      show Go p e below T8 (mkF m 44 #[iv p1, iv p2, iv i, iv j, iv (plc i), iv (plc j), iv (rkc i), .unset, .unset, .unset] [(.int (rkc j))]) _
      refine XS.istore X8.here hx rfl (hb hby at_44) rfl (l' := #[iv p1, iv p2, iv i, iv j, iv (plc i), iv (plc j), iv (rkc i), iv (rkc j), .unset, .unset]) rfl ?_
      show Go p e below T8 (mkF m 46 #[iv p1, iv p2, iv i, iv j, iv (plc i), iv (plc j), iv (rkc i), iv (rkc j), .unset, .unset] []) _
      exact kt)
  have pre10 : ∀ t_, Go p e below T8 (mkF m 50 #[iv p1, iv p2, iv i, iv j, iv (plc i), iv (plc j), iv (rkc i), iv (rkc j), .unset, .unset] [(.int (plc j)), (.int (plc i))]) t_ → Go p e below s₁ (entryFrame m #[(.int p1), (.int p2)] maxLocals) t_ := fun t_ kt => pre9 _ (by
      show Go p e below T8 (mkF m 46 #[iv p1, iv p2, iv i, iv j, iv (plc i), iv (plc j), iv (rkc i), iv (rkc j), .unset, .unset] []) _
      refine XS.iload X8.here hx rfl (hb hby at_46) rfl ?_
      show Go p e below T8 (mkF m 48 #[iv p1, iv p2, iv i, iv j, iv (plc i), iv (plc j), iv (rkc i), iv (rkc j), .unset, .unset] [(.int (plc i))]) _
      refine XS.iload X8.here hx rfl (hb hby at_48) rfl ?_
      show Go p e below T8 (mkF m 50 #[iv p1, iv p2, iv i, iv j, iv (plc i), iv (plc j), iv (rkc i), iv (rkc j), .unset, .unset] [(.int (plc j)), (.int (plc i))]) _
      exact kt)
  by_cases hc50_11 : (plc i) < (plc j)
  · have pre12 : ∀ t_, Go p e below T8 (mkF m 84 #[iv p1, iv p2, iv i, iv j, iv (plc i), iv (plc j), iv (rkc i), iv (rkc j), iv 1, .unset] [(.int (plc j)), (.int (plc i))]) t_ → Go p e below s₁ (entryFrame m #[(.int p1), (.int p2)] maxLocals) t_ := fun t_ kt => pre10 _ (by
        show Go p e below T8 (mkF m 50 #[iv p1, iv p2, iv i, iv j, iv (plc i), iv (plc j), iv (rkc i), iv (rkc j), .unset, .unset] [(.int (plc j)), (.int (plc i))]) _
        refine XS.icmpNo X8.here hx rfl (hb hby at_50) rfl (tlt hc50_11).2.1 ?_
        show Go p e below T8 (mkF m 53 #[iv p1, iv p2, iv i, iv j, iv (plc i), iv (plc j), iv (rkc i), iv (rkc j), .unset, .unset] []) _
        refine XS.iconst X8.here hx rfl (hb hby at_53) ?_
        show Go p e below T8 (mkF m 54 #[iv p1, iv p2, iv i, iv j, iv (plc i), iv (plc j), iv (rkc i), iv (rkc j), .unset, .unset] [(.int 1)]) _
        refine XS.goto X8.here hx rfl (pc0 := 54) (pc' := 58) rfl (hb hby at_54) (by decide) (by decide) ?_
        show Go p e below T8 (mkF m 58 #[iv p1, iv p2, iv i, iv j, iv (plc i), iv (plc j), iv (rkc i), iv (rkc j), .unset, .unset] [(.int 1)]) _
        refine XS.iload X8.here hx rfl (hb hby at_58) rfl ?_
        show Go p e below T8 (mkF m 60 #[iv p1, iv p2, iv i, iv j, iv (plc i), iv (plc j), iv (rkc i), iv (rkc j), .unset, .unset] [(.int (rkc i)), (.int 1)]) _
        refine XS.iload X8.here hx rfl (hb hby at_60) rfl ?_
        show Go p e below T8 (mkF m 62 #[iv p1, iv p2, iv i, iv j, iv (plc i), iv (plc j), iv (rkc i), iv (rkc j), .unset, .unset] [(.int (rkc j)), (.int (rkc i)), (.int 1)]) _
        refine XS.icmpNo X8.here hx rfl (hb hby at_62) rfl (tlt ((own_rank i j).1.mp hc50_11)).2.1 ?_
        show Go p e below T8 (mkF m 65 #[iv p1, iv p2, iv i, iv j, iv (plc i), iv (plc j), iv (rkc i), iv (rkc j), .unset, .unset] [(.int 1)]) _
        refine XS.iconst X8.here hx rfl (hb hby at_65) ?_
        show Go p e below T8 (mkF m 66 #[iv p1, iv p2, iv i, iv j, iv (plc i), iv (plc j), iv (rkc i), iv (rkc j), .unset, .unset] [(.int 1), (.int 1)]) _
        refine XS.goto X8.here hx rfl (pc0 := 66) (pc' := 70) rfl (hb hby at_66) (by decide) (by decide) ?_
        show Go p e below T8 (mkF m 70 #[iv p1, iv p2, iv i, iv j, iv (plc i), iv (plc j), iv (rkc i), iv (rkc j), .unset, .unset] [(.int 1), (.int 1)]) _
        refine XS.icmpNo X8.here hx rfl (hb hby at_70) rfl (teq ((by decide) : (1 : Int32) = (1 : Int32))).2 ?_
        show Go p e below T8 (mkF m 73 #[iv p1, iv p2, iv i, iv j, iv (plc i), iv (plc j), iv (rkc i), iv (rkc j), .unset, .unset] []) _
        refine XS.iconst X8.here hx rfl (hb hby at_73) ?_
        show Go p e below T8 (mkF m 74 #[iv p1, iv p2, iv i, iv j, iv (plc i), iv (plc j), iv (rkc i), iv (rkc j), .unset, .unset] [(.int 1)]) _
        refine XS.goto X8.here hx rfl (pc0 := 74) (pc' := 78) rfl (hb hby at_74) (by decide) (by decide) ?_
        show Go p e below T8 (mkF m 78 #[iv p1, iv p2, iv i, iv j, iv (plc i), iv (plc j), iv (rkc i), iv (rkc j), .unset, .unset] [(.int 1)]) _
        refine XS.istore X8.here hx rfl (hb hby at_78) rfl (l' := #[iv p1, iv p2, iv i, iv j, iv (plc i), iv (plc j), iv (rkc i), iv (rkc j), iv 1, .unset]) rfl ?_
        show Go p e below T8 (mkF m 80 #[iv p1, iv p2, iv i, iv j, iv (plc i), iv (plc j), iv (rkc i), iv (rkc j), iv 1, .unset] []) _
        refine XS.iload X8.here hx rfl (hb hby at_80) rfl ?_
        show Go p e below T8 (mkF m 82 #[iv p1, iv p2, iv i, iv j, iv (plc i), iv (plc j), iv (rkc i), iv (rkc j), iv 1, .unset] [(.int (plc i))]) _
        refine XS.iload X8.here hx rfl (hb hby at_82) rfl ?_
        show Go p e below T8 (mkF m 84 #[iv p1, iv p2, iv i, iv j, iv (plc i), iv (plc j), iv (rkc i), iv (rkc j), iv 1, .unset] [(.int (plc j)), (.int (plc i))]) _
        exact kt)
    by_cases hc84_13 : (plc i) = (plc j)
    · have pre14 : ∀ t_, Go p e below T8 (mkF m 129 #[iv p1, iv p2, iv i, iv j, iv (plc i), iv (plc j), iv (rkc i), iv (rkc j), iv 1, iv 1] [(.int 1)]) t_ → Go p e below s₁ (entryFrame m #[(.int p1), (.int p2)] maxLocals) t_ := fun t_ kt => pre12 _ (by
          show Go p e below T8 (mkF m 84 #[iv p1, iv p2, iv i, iv j, iv (plc i), iv (plc j), iv (rkc i), iv (rkc j), iv 1, .unset] [(.int (plc j)), (.int (plc i))]) _
          refine XS.icmpNo X8.here hx rfl (hb hby at_84) rfl (teq hc84_13).2 ?_
          show Go p e below T8 (mkF m 87 #[iv p1, iv p2, iv i, iv j, iv (plc i), iv (plc j), iv (rkc i), iv (rkc j), iv 1, .unset] []) _
          refine XS.iconst X8.here hx rfl (hb hby at_87) ?_
          show Go p e below T8 (mkF m 88 #[iv p1, iv p2, iv i, iv j, iv (plc i), iv (plc j), iv (rkc i), iv (rkc j), iv 1, .unset] [(.int 1)]) _
          refine XS.goto X8.here hx rfl (pc0 := 88) (pc' := 92) rfl (hb hby at_88) (by decide) (by decide) ?_
          show Go p e below T8 (mkF m 92 #[iv p1, iv p2, iv i, iv j, iv (plc i), iv (plc j), iv (rkc i), iv (rkc j), iv 1, .unset] [(.int 1)]) _
          refine XS.iload X8.here hx rfl (hb hby at_92) rfl ?_
          show Go p e below T8 (mkF m 94 #[iv p1, iv p2, iv i, iv j, iv (plc i), iv (plc j), iv (rkc i), iv (rkc j), iv 1, .unset] [(.int (rkc i)), (.int 1)]) _
          refine XS.iload X8.here hx rfl (hb hby at_94) rfl ?_
          show Go p e below T8 (mkF m 96 #[iv p1, iv p2, iv i, iv j, iv (plc i), iv (plc j), iv (rkc i), iv (rkc j), iv 1, .unset] [(.int (rkc j)), (.int (rkc i)), (.int 1)]) _
          refine XS.icmpNo X8.here hx rfl (hb hby at_96) rfl (teq ((own_rank i j).2.mp hc84_13)).2 ?_
          show Go p e below T8 (mkF m 99 #[iv p1, iv p2, iv i, iv j, iv (plc i), iv (plc j), iv (rkc i), iv (rkc j), iv 1, .unset] [(.int 1)]) _
          refine XS.iconst X8.here hx rfl (hb hby at_99) ?_
          show Go p e below T8 (mkF m 100 #[iv p1, iv p2, iv i, iv j, iv (plc i), iv (plc j), iv (rkc i), iv (rkc j), iv 1, .unset] [(.int 1), (.int 1)]) _
          refine XS.goto X8.here hx rfl (pc0 := 100) (pc' := 104) rfl (hb hby at_100) (by decide) (by decide) ?_
          show Go p e below T8 (mkF m 104 #[iv p1, iv p2, iv i, iv j, iv (plc i), iv (plc j), iv (rkc i), iv (rkc j), iv 1, .unset] [(.int 1), (.int 1)]) _
          refine XS.icmpNo X8.here hx rfl (hb hby at_104) rfl (teq ((by decide) : (1 : Int32) = (1 : Int32))).2 ?_
          show Go p e below T8 (mkF m 107 #[iv p1, iv p2, iv i, iv j, iv (plc i), iv (plc j), iv (rkc i), iv (rkc j), iv 1, .unset] []) _
          refine XS.iconst X8.here hx rfl (hb hby at_107) ?_
          show Go p e below T8 (mkF m 108 #[iv p1, iv p2, iv i, iv j, iv (plc i), iv (plc j), iv (rkc i), iv (rkc j), iv 1, .unset] [(.int 1)]) _
          refine XS.goto X8.here hx rfl (pc0 := 108) (pc' := 112) rfl (hb hby at_108) (by decide) (by decide) ?_
          show Go p e below T8 (mkF m 112 #[iv p1, iv p2, iv i, iv j, iv (plc i), iv (plc j), iv (rkc i), iv (rkc j), iv 1, .unset] [(.int 1)]) _
          refine XS.istore X8.here hx rfl (hb hby at_112) rfl (l' := #[iv p1, iv p2, iv i, iv j, iv (plc i), iv (plc j), iv (rkc i), iv (rkc j), iv 1, iv 1]) rfl ?_
          show Go p e below T8 (mkF m 114 #[iv p1, iv p2, iv i, iv j, iv (plc i), iv (plc j), iv (rkc i), iv (rkc j), iv 1, iv 1] []) _
          refine XS.iload X8.here hx rfl (hb hby at_114) rfl ?_
          show Go p e below T8 (mkF m 116 #[iv p1, iv p2, iv i, iv j, iv (plc i), iv (plc j), iv (rkc i), iv (rkc j), iv 1, iv 1] [(.int 1)]) _
          refine XS.ifNo X8.here hx rfl (hb hby at_116) rfl ((if0 _ _).trans (feq ((by decide) : ¬ ((1 : Int32) = (0 : Int32)))).1) ?_
          show Go p e below T8 (mkF m 119 #[iv p1, iv p2, iv i, iv j, iv (plc i), iv (plc j), iv (rkc i), iv (rkc j), iv 1, iv 1] []) _
          refine XS.iload X8.here hx rfl (hb hby at_119) rfl ?_
          show Go p e below T8 (mkF m 121 #[iv p1, iv p2, iv i, iv j, iv (plc i), iv (plc j), iv (rkc i), iv (rkc j), iv 1, iv 1] [(.int 1)]) _
          refine XS.ifNo X8.here hx rfl (hb hby at_121) rfl ((if0 _ _).trans (feq ((by decide) : ¬ ((1 : Int32) = (0 : Int32)))).1) ?_
          show Go p e below T8 (mkF m 124 #[iv p1, iv p2, iv i, iv j, iv (plc i), iv (plc j), iv (rkc i), iv (rkc j), iv 1, iv 1] []) _
          refine XS.iconst X8.here hx rfl (hb hby at_124) ?_
          show Go p e below T8 (mkF m 125 #[iv p1, iv p2, iv i, iv j, iv (plc i), iv (plc j), iv (rkc i), iv (rkc j), iv 1, iv 1] [(.int 1)]) _
          refine XS.goto X8.here hx rfl (pc0 := 125) (pc' := 129) rfl (hb hby at_125) (by decide) (by decide) ?_
          show Go p e below T8 (mkF m 129 #[iv p1, iv p2, iv i, iv j, iv (plc i), iv (plc j), iv (rkc i), iv (rkc j), iv 1, iv 1] [(.int 1)]) _
          exact kt)
      obtain ⟨fs, hr, hrun, hended, hW, hsame⟩ := X8.leave (v := some (.int 1)) (fun h => by rw [Bd.returns] at h; cases h)
      refine ⟨_, _, pre14 _ ?_, hrun, hended, _, _, rfl, ?_, ⟨_, rfl⟩, hW, hsame.mono (by decide) (by decide)⟩
      · show Steps p.tables e below (T8.setTop (mkF m 129 #[iv p1, iv p2, iv i, iv j, iv (plc i), iv (plc j), iv (rkc i), iv (rkc j), iv 1, iv 1] [(.int 1)])) _
        exact retN X8 hx (t := .boolean) Bd.returns (by simp) (hb hby at_129) hr
      · show Q_rmL Z p1 p2 w_VEST w_EXERCISE w_TANDEM w_FORFEIT w_PAY w_LAPSE h0 n0 _ T8.heap _
        rw [e8q]
        exact ⟨rfl, N8⟩
    · have pre15 : ∀ t_, Go p e below T8 (mkF m 129 #[iv p1, iv p2, iv i, iv j, iv (plc i), iv (plc j), iv (rkc i), iv (rkc j), iv 1, iv 1] [(.int 1)]) t_ → Go p e below s₁ (entryFrame m #[(.int p1), (.int p2)] maxLocals) t_ := fun t_ kt => pre12 _ (by
          show Go p e below T8 (mkF m 84 #[iv p1, iv p2, iv i, iv j, iv (plc i), iv (plc j), iv (rkc i), iv (rkc j), iv 1, .unset] [(.int (plc j)), (.int (plc i))]) _
          refine XS.icmpYes X8.here hx rfl (pc0 := 84) (pc' := 91) rfl (hb hby at_84) rfl (feq hc84_13).2 (by decide) (by decide) ?_
          show Go p e below T8 (mkF m 91 #[iv p1, iv p2, iv i, iv j, iv (plc i), iv (plc j), iv (rkc i), iv (rkc j), iv 1, .unset] []) _
          refine XS.iconst X8.here hx rfl (hb hby at_91) ?_
          show Go p e below T8 (mkF m 92 #[iv p1, iv p2, iv i, iv j, iv (plc i), iv (plc j), iv (rkc i), iv (rkc j), iv 1, .unset] [(.int 0)]) _
          refine XS.iload X8.here hx rfl (hb hby at_92) rfl ?_
          show Go p e below T8 (mkF m 94 #[iv p1, iv p2, iv i, iv j, iv (plc i), iv (plc j), iv (rkc i), iv (rkc j), iv 1, .unset] [(.int (rkc i)), (.int 0)]) _
          refine XS.iload X8.here hx rfl (hb hby at_94) rfl ?_
          show Go p e below T8 (mkF m 96 #[iv p1, iv p2, iv i, iv j, iv (plc i), iv (plc j), iv (rkc i), iv (rkc j), iv 1, .unset] [(.int (rkc j)), (.int (rkc i)), (.int 0)]) _
          refine XS.icmpYes X8.here hx rfl (pc0 := 96) (pc' := 103) rfl (hb hby at_96) rfl (feq (fun q => hc84_13 ((own_rank i j).2.mpr q))).2 (by decide) (by decide) ?_
          show Go p e below T8 (mkF m 103 #[iv p1, iv p2, iv i, iv j, iv (plc i), iv (plc j), iv (rkc i), iv (rkc j), iv 1, .unset] [(.int 0)]) _
          refine XS.iconst X8.here hx rfl (hb hby at_103) ?_
          show Go p e below T8 (mkF m 104 #[iv p1, iv p2, iv i, iv j, iv (plc i), iv (plc j), iv (rkc i), iv (rkc j), iv 1, .unset] [(.int 0), (.int 0)]) _
          refine XS.icmpNo X8.here hx rfl (hb hby at_104) rfl (teq ((by decide) : (0 : Int32) = (0 : Int32))).2 ?_
          show Go p e below T8 (mkF m 107 #[iv p1, iv p2, iv i, iv j, iv (plc i), iv (plc j), iv (rkc i), iv (rkc j), iv 1, .unset] []) _
          refine XS.iconst X8.here hx rfl (hb hby at_107) ?_
          show Go p e below T8 (mkF m 108 #[iv p1, iv p2, iv i, iv j, iv (plc i), iv (plc j), iv (rkc i), iv (rkc j), iv 1, .unset] [(.int 1)]) _
          refine XS.goto X8.here hx rfl (pc0 := 108) (pc' := 112) rfl (hb hby at_108) (by decide) (by decide) ?_
          show Go p e below T8 (mkF m 112 #[iv p1, iv p2, iv i, iv j, iv (plc i), iv (plc j), iv (rkc i), iv (rkc j), iv 1, .unset] [(.int 1)]) _
          refine XS.istore X8.here hx rfl (hb hby at_112) rfl (l' := #[iv p1, iv p2, iv i, iv j, iv (plc i), iv (plc j), iv (rkc i), iv (rkc j), iv 1, iv 1]) rfl ?_
          show Go p e below T8 (mkF m 114 #[iv p1, iv p2, iv i, iv j, iv (plc i), iv (plc j), iv (rkc i), iv (rkc j), iv 1, iv 1] []) _
          refine XS.iload X8.here hx rfl (hb hby at_114) rfl ?_
          show Go p e below T8 (mkF m 116 #[iv p1, iv p2, iv i, iv j, iv (plc i), iv (plc j), iv (rkc i), iv (rkc j), iv 1, iv 1] [(.int 1)]) _
          refine XS.ifNo X8.here hx rfl (hb hby at_116) rfl ((if0 _ _).trans (feq ((by decide) : ¬ ((1 : Int32) = (0 : Int32)))).1) ?_
          show Go p e below T8 (mkF m 119 #[iv p1, iv p2, iv i, iv j, iv (plc i), iv (plc j), iv (rkc i), iv (rkc j), iv 1, iv 1] []) _
          refine XS.iload X8.here hx rfl (hb hby at_119) rfl ?_
          show Go p e below T8 (mkF m 121 #[iv p1, iv p2, iv i, iv j, iv (plc i), iv (plc j), iv (rkc i), iv (rkc j), iv 1, iv 1] [(.int 1)]) _
          refine XS.ifNo X8.here hx rfl (hb hby at_121) rfl ((if0 _ _).trans (feq ((by decide) : ¬ ((1 : Int32) = (0 : Int32)))).1) ?_
          show Go p e below T8 (mkF m 124 #[iv p1, iv p2, iv i, iv j, iv (plc i), iv (plc j), iv (rkc i), iv (rkc j), iv 1, iv 1] []) _
          refine XS.iconst X8.here hx rfl (hb hby at_124) ?_
          show Go p e below T8 (mkF m 125 #[iv p1, iv p2, iv i, iv j, iv (plc i), iv (plc j), iv (rkc i), iv (rkc j), iv 1, iv 1] [(.int 1)]) _
          refine XS.goto X8.here hx rfl (pc0 := 125) (pc' := 129) rfl (hb hby at_125) (by decide) (by decide) ?_
          show Go p e below T8 (mkF m 129 #[iv p1, iv p2, iv i, iv j, iv (plc i), iv (plc j), iv (rkc i), iv (rkc j), iv 1, iv 1] [(.int 1)]) _
          exact kt)
      obtain ⟨fs, hr, hrun, hended, hW, hsame⟩ := X8.leave (v := some (.int 1)) (fun h => by rw [Bd.returns] at h; cases h)
      refine ⟨_, _, pre15 _ ?_, hrun, hended, _, _, rfl, ?_, ⟨_, rfl⟩, hW, hsame.mono (by decide) (by decide)⟩
      · show Steps p.tables e below (T8.setTop (mkF m 129 #[iv p1, iv p2, iv i, iv j, iv (plc i), iv (plc j), iv (rkc i), iv (rkc j), iv 1, iv 1] [(.int 1)])) _
        exact retN X8 hx (t := .boolean) Bd.returns (by simp) (hb hby at_129) hr
      · show Q_rmL Z p1 p2 w_VEST w_EXERCISE w_TANDEM w_FORFEIT w_PAY w_LAPSE h0 n0 _ T8.heap _
        rw [e8q]
        exact ⟨rfl, N8⟩
  · have pre16 : ∀ t_, Go p e below T8 (mkF m 84 #[iv p1, iv p2, iv i, iv j, iv (plc i), iv (plc j), iv (rkc i), iv (rkc j), iv 1, .unset] [(.int (plc j)), (.int (plc i))]) t_ → Go p e below s₁ (entryFrame m #[(.int p1), (.int p2)] maxLocals) t_ := fun t_ kt => pre10 _ (by
        show Go p e below T8 (mkF m 50 #[iv p1, iv p2, iv i, iv j, iv (plc i), iv (plc j), iv (rkc i), iv (rkc j), .unset, .unset] [(.int (plc j)), (.int (plc i))]) _
        refine XS.icmpYes X8.here hx rfl (pc0 := 50) (pc' := 57) rfl (hb hby at_50) rfl (flt hc50_11).2.1 (by decide) (by decide) ?_
        show Go p e below T8 (mkF m 57 #[iv p1, iv p2, iv i, iv j, iv (plc i), iv (plc j), iv (rkc i), iv (rkc j), .unset, .unset] []) _
        refine XS.iconst X8.here hx rfl (hb hby at_57) ?_
        show Go p e below T8 (mkF m 58 #[iv p1, iv p2, iv i, iv j, iv (plc i), iv (plc j), iv (rkc i), iv (rkc j), .unset, .unset] [(.int 0)]) _
        refine XS.iload X8.here hx rfl (hb hby at_58) rfl ?_
        show Go p e below T8 (mkF m 60 #[iv p1, iv p2, iv i, iv j, iv (plc i), iv (plc j), iv (rkc i), iv (rkc j), .unset, .unset] [(.int (rkc i)), (.int 0)]) _
        refine XS.iload X8.here hx rfl (hb hby at_60) rfl ?_
        show Go p e below T8 (mkF m 62 #[iv p1, iv p2, iv i, iv j, iv (plc i), iv (plc j), iv (rkc i), iv (rkc j), .unset, .unset] [(.int (rkc j)), (.int (rkc i)), (.int 0)]) _
        refine XS.icmpYes X8.here hx rfl (pc0 := 62) (pc' := 69) rfl (hb hby at_62) rfl (flt (fun q => hc50_11 ((own_rank i j).1.mpr q))).2.1 (by decide) (by decide) ?_
        show Go p e below T8 (mkF m 69 #[iv p1, iv p2, iv i, iv j, iv (plc i), iv (plc j), iv (rkc i), iv (rkc j), .unset, .unset] [(.int 0)]) _
        refine XS.iconst X8.here hx rfl (hb hby at_69) ?_
        show Go p e below T8 (mkF m 70 #[iv p1, iv p2, iv i, iv j, iv (plc i), iv (plc j), iv (rkc i), iv (rkc j), .unset, .unset] [(.int 0), (.int 0)]) _
        refine XS.icmpNo X8.here hx rfl (hb hby at_70) rfl (teq ((by decide) : (0 : Int32) = (0 : Int32))).2 ?_
        show Go p e below T8 (mkF m 73 #[iv p1, iv p2, iv i, iv j, iv (plc i), iv (plc j), iv (rkc i), iv (rkc j), .unset, .unset] []) _
        refine XS.iconst X8.here hx rfl (hb hby at_73) ?_
        show Go p e below T8 (mkF m 74 #[iv p1, iv p2, iv i, iv j, iv (plc i), iv (plc j), iv (rkc i), iv (rkc j), .unset, .unset] [(.int 1)]) _
        refine XS.goto X8.here hx rfl (pc0 := 74) (pc' := 78) rfl (hb hby at_74) (by decide) (by decide) ?_
        show Go p e below T8 (mkF m 78 #[iv p1, iv p2, iv i, iv j, iv (plc i), iv (plc j), iv (rkc i), iv (rkc j), .unset, .unset] [(.int 1)]) _
        refine XS.istore X8.here hx rfl (hb hby at_78) rfl (l' := #[iv p1, iv p2, iv i, iv j, iv (plc i), iv (plc j), iv (rkc i), iv (rkc j), iv 1, .unset]) rfl ?_
        show Go p e below T8 (mkF m 80 #[iv p1, iv p2, iv i, iv j, iv (plc i), iv (plc j), iv (rkc i), iv (rkc j), iv 1, .unset] []) _
        refine XS.iload X8.here hx rfl (hb hby at_80) rfl ?_
        show Go p e below T8 (mkF m 82 #[iv p1, iv p2, iv i, iv j, iv (plc i), iv (plc j), iv (rkc i), iv (rkc j), iv 1, .unset] [(.int (plc i))]) _
        refine XS.iload X8.here hx rfl (hb hby at_82) rfl ?_
        show Go p e below T8 (mkF m 84 #[iv p1, iv p2, iv i, iv j, iv (plc i), iv (plc j), iv (rkc i), iv (rkc j), iv 1, .unset] [(.int (plc j)), (.int (plc i))]) _
        exact kt)
    by_cases hc84_17 : (plc i) = (plc j)
    · have pre18 : ∀ t_, Go p e below T8 (mkF m 129 #[iv p1, iv p2, iv i, iv j, iv (plc i), iv (plc j), iv (rkc i), iv (rkc j), iv 1, iv 1] [(.int 1)]) t_ → Go p e below s₁ (entryFrame m #[(.int p1), (.int p2)] maxLocals) t_ := fun t_ kt => pre16 _ (by
          show Go p e below T8 (mkF m 84 #[iv p1, iv p2, iv i, iv j, iv (plc i), iv (plc j), iv (rkc i), iv (rkc j), iv 1, .unset] [(.int (plc j)), (.int (plc i))]) _
          refine XS.icmpNo X8.here hx rfl (hb hby at_84) rfl (teq hc84_17).2 ?_
          show Go p e below T8 (mkF m 87 #[iv p1, iv p2, iv i, iv j, iv (plc i), iv (plc j), iv (rkc i), iv (rkc j), iv 1, .unset] []) _
          refine XS.iconst X8.here hx rfl (hb hby at_87) ?_
          show Go p e below T8 (mkF m 88 #[iv p1, iv p2, iv i, iv j, iv (plc i), iv (plc j), iv (rkc i), iv (rkc j), iv 1, .unset] [(.int 1)]) _
          refine XS.goto X8.here hx rfl (pc0 := 88) (pc' := 92) rfl (hb hby at_88) (by decide) (by decide) ?_
          show Go p e below T8 (mkF m 92 #[iv p1, iv p2, iv i, iv j, iv (plc i), iv (plc j), iv (rkc i), iv (rkc j), iv 1, .unset] [(.int 1)]) _
          refine XS.iload X8.here hx rfl (hb hby at_92) rfl ?_
          show Go p e below T8 (mkF m 94 #[iv p1, iv p2, iv i, iv j, iv (plc i), iv (plc j), iv (rkc i), iv (rkc j), iv 1, .unset] [(.int (rkc i)), (.int 1)]) _
          refine XS.iload X8.here hx rfl (hb hby at_94) rfl ?_
          show Go p e below T8 (mkF m 96 #[iv p1, iv p2, iv i, iv j, iv (plc i), iv (plc j), iv (rkc i), iv (rkc j), iv 1, .unset] [(.int (rkc j)), (.int (rkc i)), (.int 1)]) _
          refine XS.icmpNo X8.here hx rfl (hb hby at_96) rfl (teq ((own_rank i j).2.mp hc84_17)).2 ?_
          show Go p e below T8 (mkF m 99 #[iv p1, iv p2, iv i, iv j, iv (plc i), iv (plc j), iv (rkc i), iv (rkc j), iv 1, .unset] [(.int 1)]) _
          refine XS.iconst X8.here hx rfl (hb hby at_99) ?_
          show Go p e below T8 (mkF m 100 #[iv p1, iv p2, iv i, iv j, iv (plc i), iv (plc j), iv (rkc i), iv (rkc j), iv 1, .unset] [(.int 1), (.int 1)]) _
          refine XS.goto X8.here hx rfl (pc0 := 100) (pc' := 104) rfl (hb hby at_100) (by decide) (by decide) ?_
          show Go p e below T8 (mkF m 104 #[iv p1, iv p2, iv i, iv j, iv (plc i), iv (plc j), iv (rkc i), iv (rkc j), iv 1, .unset] [(.int 1), (.int 1)]) _
          refine XS.icmpNo X8.here hx rfl (hb hby at_104) rfl (teq ((by decide) : (1 : Int32) = (1 : Int32))).2 ?_
          show Go p e below T8 (mkF m 107 #[iv p1, iv p2, iv i, iv j, iv (plc i), iv (plc j), iv (rkc i), iv (rkc j), iv 1, .unset] []) _
          refine XS.iconst X8.here hx rfl (hb hby at_107) ?_
          show Go p e below T8 (mkF m 108 #[iv p1, iv p2, iv i, iv j, iv (plc i), iv (plc j), iv (rkc i), iv (rkc j), iv 1, .unset] [(.int 1)]) _
          refine XS.goto X8.here hx rfl (pc0 := 108) (pc' := 112) rfl (hb hby at_108) (by decide) (by decide) ?_
          show Go p e below T8 (mkF m 112 #[iv p1, iv p2, iv i, iv j, iv (plc i), iv (plc j), iv (rkc i), iv (rkc j), iv 1, .unset] [(.int 1)]) _
          refine XS.istore X8.here hx rfl (hb hby at_112) rfl (l' := #[iv p1, iv p2, iv i, iv j, iv (plc i), iv (plc j), iv (rkc i), iv (rkc j), iv 1, iv 1]) rfl ?_
          show Go p e below T8 (mkF m 114 #[iv p1, iv p2, iv i, iv j, iv (plc i), iv (plc j), iv (rkc i), iv (rkc j), iv 1, iv 1] []) _
          refine XS.iload X8.here hx rfl (hb hby at_114) rfl ?_
          show Go p e below T8 (mkF m 116 #[iv p1, iv p2, iv i, iv j, iv (plc i), iv (plc j), iv (rkc i), iv (rkc j), iv 1, iv 1] [(.int 1)]) _
          refine XS.ifNo X8.here hx rfl (hb hby at_116) rfl ((if0 _ _).trans (feq ((by decide) : ¬ ((1 : Int32) = (0 : Int32)))).1) ?_
          show Go p e below T8 (mkF m 119 #[iv p1, iv p2, iv i, iv j, iv (plc i), iv (plc j), iv (rkc i), iv (rkc j), iv 1, iv 1] []) _
          refine XS.iload X8.here hx rfl (hb hby at_119) rfl ?_
          show Go p e below T8 (mkF m 121 #[iv p1, iv p2, iv i, iv j, iv (plc i), iv (plc j), iv (rkc i), iv (rkc j), iv 1, iv 1] [(.int 1)]) _
          refine XS.ifNo X8.here hx rfl (hb hby at_121) rfl ((if0 _ _).trans (feq ((by decide) : ¬ ((1 : Int32) = (0 : Int32)))).1) ?_
          show Go p e below T8 (mkF m 124 #[iv p1, iv p2, iv i, iv j, iv (plc i), iv (plc j), iv (rkc i), iv (rkc j), iv 1, iv 1] []) _
          refine XS.iconst X8.here hx rfl (hb hby at_124) ?_
          show Go p e below T8 (mkF m 125 #[iv p1, iv p2, iv i, iv j, iv (plc i), iv (plc j), iv (rkc i), iv (rkc j), iv 1, iv 1] [(.int 1)]) _
          refine XS.goto X8.here hx rfl (pc0 := 125) (pc' := 129) rfl (hb hby at_125) (by decide) (by decide) ?_
          show Go p e below T8 (mkF m 129 #[iv p1, iv p2, iv i, iv j, iv (plc i), iv (plc j), iv (rkc i), iv (rkc j), iv 1, iv 1] [(.int 1)]) _
          exact kt)
      obtain ⟨fs, hr, hrun, hended, hW, hsame⟩ := X8.leave (v := some (.int 1)) (fun h => by rw [Bd.returns] at h; cases h)
      refine ⟨_, _, pre18 _ ?_, hrun, hended, _, _, rfl, ?_, ⟨_, rfl⟩, hW, hsame.mono (by decide) (by decide)⟩
      · show Steps p.tables e below (T8.setTop (mkF m 129 #[iv p1, iv p2, iv i, iv j, iv (plc i), iv (plc j), iv (rkc i), iv (rkc j), iv 1, iv 1] [(.int 1)])) _
        exact retN X8 hx (t := .boolean) Bd.returns (by simp) (hb hby at_129) hr
      · show Q_rmL Z p1 p2 w_VEST w_EXERCISE w_TANDEM w_FORFEIT w_PAY w_LAPSE h0 n0 _ T8.heap _
        rw [e8q]
        exact ⟨rfl, N8⟩
    · have pre19 : ∀ t_, Go p e below T8 (mkF m 129 #[iv p1, iv p2, iv i, iv j, iv (plc i), iv (plc j), iv (rkc i), iv (rkc j), iv 1, iv 1] [(.int 1)]) t_ → Go p e below s₁ (entryFrame m #[(.int p1), (.int p2)] maxLocals) t_ := fun t_ kt => pre16 _ (by
          show Go p e below T8 (mkF m 84 #[iv p1, iv p2, iv i, iv j, iv (plc i), iv (plc j), iv (rkc i), iv (rkc j), iv 1, .unset] [(.int (plc j)), (.int (plc i))]) _
          refine XS.icmpYes X8.here hx rfl (pc0 := 84) (pc' := 91) rfl (hb hby at_84) rfl (feq hc84_17).2 (by decide) (by decide) ?_
          show Go p e below T8 (mkF m 91 #[iv p1, iv p2, iv i, iv j, iv (plc i), iv (plc j), iv (rkc i), iv (rkc j), iv 1, .unset] []) _
          refine XS.iconst X8.here hx rfl (hb hby at_91) ?_
          show Go p e below T8 (mkF m 92 #[iv p1, iv p2, iv i, iv j, iv (plc i), iv (plc j), iv (rkc i), iv (rkc j), iv 1, .unset] [(.int 0)]) _
          refine XS.iload X8.here hx rfl (hb hby at_92) rfl ?_
          show Go p e below T8 (mkF m 94 #[iv p1, iv p2, iv i, iv j, iv (plc i), iv (plc j), iv (rkc i), iv (rkc j), iv 1, .unset] [(.int (rkc i)), (.int 0)]) _
          refine XS.iload X8.here hx rfl (hb hby at_94) rfl ?_
          show Go p e below T8 (mkF m 96 #[iv p1, iv p2, iv i, iv j, iv (plc i), iv (plc j), iv (rkc i), iv (rkc j), iv 1, .unset] [(.int (rkc j)), (.int (rkc i)), (.int 0)]) _
          refine XS.icmpYes X8.here hx rfl (pc0 := 96) (pc' := 103) rfl (hb hby at_96) rfl (feq (fun q => hc84_17 ((own_rank i j).2.mpr q))).2 (by decide) (by decide) ?_
          show Go p e below T8 (mkF m 103 #[iv p1, iv p2, iv i, iv j, iv (plc i), iv (plc j), iv (rkc i), iv (rkc j), iv 1, .unset] [(.int 0)]) _
          refine XS.iconst X8.here hx rfl (hb hby at_103) ?_
          show Go p e below T8 (mkF m 104 #[iv p1, iv p2, iv i, iv j, iv (plc i), iv (plc j), iv (rkc i), iv (rkc j), iv 1, .unset] [(.int 0), (.int 0)]) _
          refine XS.icmpNo X8.here hx rfl (hb hby at_104) rfl (teq ((by decide) : (0 : Int32) = (0 : Int32))).2 ?_
          show Go p e below T8 (mkF m 107 #[iv p1, iv p2, iv i, iv j, iv (plc i), iv (plc j), iv (rkc i), iv (rkc j), iv 1, .unset] []) _
          refine XS.iconst X8.here hx rfl (hb hby at_107) ?_
          show Go p e below T8 (mkF m 108 #[iv p1, iv p2, iv i, iv j, iv (plc i), iv (plc j), iv (rkc i), iv (rkc j), iv 1, .unset] [(.int 1)]) _
          refine XS.goto X8.here hx rfl (pc0 := 108) (pc' := 112) rfl (hb hby at_108) (by decide) (by decide) ?_
          show Go p e below T8 (mkF m 112 #[iv p1, iv p2, iv i, iv j, iv (plc i), iv (plc j), iv (rkc i), iv (rkc j), iv 1, .unset] [(.int 1)]) _
          refine XS.istore X8.here hx rfl (hb hby at_112) rfl (l' := #[iv p1, iv p2, iv i, iv j, iv (plc i), iv (plc j), iv (rkc i), iv (rkc j), iv 1, iv 1]) rfl ?_
          show Go p e below T8 (mkF m 114 #[iv p1, iv p2, iv i, iv j, iv (plc i), iv (plc j), iv (rkc i), iv (rkc j), iv 1, iv 1] []) _
          refine XS.iload X8.here hx rfl (hb hby at_114) rfl ?_
          show Go p e below T8 (mkF m 116 #[iv p1, iv p2, iv i, iv j, iv (plc i), iv (plc j), iv (rkc i), iv (rkc j), iv 1, iv 1] [(.int 1)]) _
          refine XS.ifNo X8.here hx rfl (hb hby at_116) rfl ((if0 _ _).trans (feq ((by decide) : ¬ ((1 : Int32) = (0 : Int32)))).1) ?_
          show Go p e below T8 (mkF m 119 #[iv p1, iv p2, iv i, iv j, iv (plc i), iv (plc j), iv (rkc i), iv (rkc j), iv 1, iv 1] []) _
          refine XS.iload X8.here hx rfl (hb hby at_119) rfl ?_
          show Go p e below T8 (mkF m 121 #[iv p1, iv p2, iv i, iv j, iv (plc i), iv (plc j), iv (rkc i), iv (rkc j), iv 1, iv 1] [(.int 1)]) _
          refine XS.ifNo X8.here hx rfl (hb hby at_121) rfl ((if0 _ _).trans (feq ((by decide) : ¬ ((1 : Int32) = (0 : Int32)))).1) ?_
          show Go p e below T8 (mkF m 124 #[iv p1, iv p2, iv i, iv j, iv (plc i), iv (plc j), iv (rkc i), iv (rkc j), iv 1, iv 1] []) _
          refine XS.iconst X8.here hx rfl (hb hby at_124) ?_
          show Go p e below T8 (mkF m 125 #[iv p1, iv p2, iv i, iv j, iv (plc i), iv (plc j), iv (rkc i), iv (rkc j), iv 1, iv 1] [(.int 1)]) _
          refine XS.goto X8.here hx rfl (pc0 := 125) (pc' := 129) rfl (hb hby at_125) (by decide) (by decide) ?_
          show Go p e below T8 (mkF m 129 #[iv p1, iv p2, iv i, iv j, iv (plc i), iv (plc j), iv (rkc i), iv (rkc j), iv 1, iv 1] [(.int 1)]) _
          exact kt)
      obtain ⟨fs, hr, hrun, hended, hW, hsame⟩ := X8.leave (v := some (.int 1)) (fun h => by rw [Bd.returns] at h; cases h)
      refine ⟨_, _, pre19 _ ?_, hrun, hended, _, _, rfl, ?_, ⟨_, rfl⟩, hW, hsame.mono (by decide) (by decide)⟩
      · show Steps p.tables e below (T8.setTop (mkF m 129 #[iv p1, iv p2, iv i, iv j, iv (plc i), iv (plc j), iv (rkc i), iv (rkc j), iv 1, iv 1] [(.int 1)])) _
        exact retN X8 hx (t := .boolean) Bd.returns (by simp) (hb hby at_129) hr
      · show Q_rmL Z p1 p2 w_VEST w_EXERCISE w_TANDEM w_FORFEIT w_PAY w_LAPSE h0 n0 _ T8.heap _
        rw [e8q]
        exact ⟨rfl, N8⟩
set_option maxRecDepth 65536 in
set_option maxHeartbeats 40000000 in
theorem comes_1 {Post : Tables → Env → Array Value → State → Outcome → State → Prop} (hpost : ∀ tb e args s v u, (limb_1_1.after args s (.returned v) u = true ∧ limb_1_2.after args s (.returned v) u = true ∧ True) → FrameEnd s (.returned v) u (Jvm.fieldLocs frame_1_writes args s ++ Jvm.arrayLocs frame_1_arrays args s ++ Jvm.staticLocs frame_1_statics s) 0 0 → Post tb e args s (.returned v) u) :
    ArmFor flags0 classFile x code maxLocals ret World_1 tables_1 room_1 Calls_1 rest_1 Pre_1 Post := by
  intro l hfl _ _ p e ha hc hk s m args below hf hA hF happ hP
  obtain ⟨hcalls, hrest, hpre⟩ := hP
  obtain ⟨-, -, -, hnamed, -, -, -, hat⟩ := (Spec.applies_iff hf).mp happ
  obtain ⟨hg, hn⟩ := and_e (Cond.before_iff.mp (show (Jvm.Cond.and given_1 narrow_1).before args s = true from hpre))
  obtain ⟨g1, g2⟩ := and_e hg
  obtain ⟨g3, g4⟩ := and_e g2
  obtain ⟨w0, w1, rfl⟩ : ∃ w0 w1 : Value, args = #[w0, w1] := by
    have hs : args.size = 2 := by simpa [Cond.value, given_1] using g1
    obtain ⟨L⟩ := args
    match L, hs with
    | [w0, w1], _ => exact ⟨w0, w1, rfl⟩
  have hw := fun d (hd : d ∈ tables_1) => atoms_spec (ws := Jvm.Cond.code x code maxLocals ret :: tables_1) hat d (List.mem_cons_of_mem _ hd)
  have hfit : Fit s := fun {y c} hc i hi => by
    obtain ⟨ha, rfl⟩ := Array.getElem?_eq_some_iff.mp hc
    have q := List.all_eq_true.mp ((Array.all_eq_true_iff_forall_mem.mp hF) _ (Array.getElem_mem ha)) i (List.mem_range.mpr hi)
    simpa [Array.getElem?_eq_getElem hi] using q
  obtain ⟨i0, ei0⟩ := is_v g3
  obtain rfl : w0 = (.int i0) := Option.some.inj ei0
  obtain ⟨i1, ei1⟩ := is_v g4
  obtain rfl : w1 = (.int i1) := Option.some.inj ei1
  obtain ⟨g5, g6⟩ := and_e hn
  obtain ⟨g7, g8⟩ := and_e g6
  obtain ⟨g9, g10⟩ := and_e g8
  obtain ⟨g11, g12⟩ := and_e g10
  obtain ⟨g13, g14⟩ := and_e g12
  obtain ⟨g15, g16⟩ := and_e g14
  obtain ⟨g17, g18⟩ := and_e g16
  obtain ⟨g19, g20⟩ := and_e g18
  obtain ⟨g21, g22⟩ := and_e g20
  obtain ⟨g23, g24⟩ := and_e g22
  obtain ⟨g25, g26⟩ := and_e g24
  obtain ⟨w_VEST, ev_VEST⟩ := exa_v g5
  have E_VEST : Exa s s.heap w_VEST "com/example/vestry/vestry/Change$Kind" := Exa.start ev_VEST g5
  have S_VEST : Sta s s.heap "com/example/vestry/vestry/Change$Kind" "VEST" "Lcom/example/vestry/vestry/Change$Kind;" (.ref w_VEST) := Sta.start ev_VEST (Or.inr ⟨(hwi hw 6 rfl), (hwi hw 7 rfl)⟩)
  obtain ⟨w_TANDEM, ev_TANDEM⟩ := exa_v g7
  have E_TANDEM : Exa s s.heap w_TANDEM "com/example/vestry/vestry/Change$Kind" := Exa.start ev_TANDEM g7
  have S_TANDEM : Sta s s.heap "com/example/vestry/vestry/Change$Kind" "TANDEM" "Lcom/example/vestry/vestry/Change$Kind;" (.ref w_TANDEM) := Sta.start ev_TANDEM (Or.inr ⟨(hwi hw 6 rfl), (hwi hw 14 rfl)⟩)
  obtain ⟨w_FORFEIT, ev_FORFEIT⟩ := exa_v g13
  have E_FORFEIT : Exa s s.heap w_FORFEIT "com/example/vestry/vestry/Change$Kind" := Exa.start ev_FORFEIT g13
  have S_FORFEIT : Sta s s.heap "com/example/vestry/vestry/Change$Kind" "FORFEIT" "Lcom/example/vestry/vestry/Change$Kind;" (.ref w_FORFEIT) := Sta.start ev_FORFEIT (Or.inr ⟨(hwi hw 6 rfl), (hwi hw 25 rfl)⟩)
  obtain ⟨w_EXERCISE, ev_EXERCISE⟩ := exa_v g17
  have E_EXERCISE : Exa s s.heap w_EXERCISE "com/example/vestry/vestry/Change$Kind" := Exa.start ev_EXERCISE g17
  have S_EXERCISE : Sta s s.heap "com/example/vestry/vestry/Change$Kind" "EXERCISE" "Lcom/example/vestry/vestry/Change$Kind;" (.ref w_EXERCISE) := Sta.start ev_EXERCISE (Or.inr ⟨(hwi hw 6 rfl), (hwi hw 31 rfl)⟩)
  obtain ⟨w_LAPSE, ev_LAPSE⟩ := exa_v g21
  have E_LAPSE : Exa s s.heap w_LAPSE "com/example/vestry/vestry/Change$Kind" := Exa.start ev_LAPSE g21
  have S_LAPSE : Sta s s.heap "com/example/vestry/vestry/Change$Kind" "LAPSE" "Lcom/example/vestry/vestry/Change$Kind;" (.ref w_LAPSE) := Sta.start ev_LAPSE (Or.inr ⟨(hwi hw 6 rfl), (hwi hw 34 rfl)⟩)
  obtain ⟨w_PAY, ev_PAY⟩ := exa_v g25
  have E_PAY : Exa s s.heap w_PAY "com/example/vestry/vestry/Change$Kind" := Exa.start ev_PAY g25
  have S_PAY : Sta s s.heap "com/example/vestry/vestry/Change$Kind" "PAY" "Lcom/example/vestry/vestry/Change$Kind;" (.ref w_PAY) := Sta.start ev_PAY (Or.inr ⟨(hwi hw 6 rfl), (hwi hw 36 rfl)⟩)
  have F_VEST : Fld s s.heap w_VEST "java/lang/Enum" "ordinal" "I" (.int (0 : Int32)) := Fld.start ((fld_at ev_VEST).symm.trans (eqv_i (Term.int_eval _) g9))
  have F_TANDEM : Fld s s.heap w_TANDEM "java/lang/Enum" "ordinal" "I" (.int (2 : Int32)) := Fld.start ((fld_at ev_TANDEM).symm.trans (eqv_i (Term.int_eval _) g11))
  have F_FORFEIT : Fld s s.heap w_FORFEIT "java/lang/Enum" "ordinal" "I" (.int (3 : Int32)) := Fld.start ((fld_at ev_FORFEIT).symm.trans (eqv_i (Term.int_eval _) g15))
  have F_EXERCISE : Fld s s.heap w_EXERCISE "java/lang/Enum" "ordinal" "I" (.int (1 : Int32)) := Fld.start ((fld_at ev_EXERCISE).symm.trans (eqv_i (Term.int_eval _) g19))
  have F_LAPSE : Fld s s.heap w_LAPSE "java/lang/Enum" "ordinal" "I" (.int (5 : Int32)) := Fld.start ((fld_at ev_LAPSE).symm.trans (eqv_i (Term.int_eval _) g23))
  have F_PAY : Fld s s.heap w_PAY "java/lang/Enum" "ordinal" "I" (.int (4 : Int32)) := Fld.start ((fld_at ev_PAY).symm.trans (eqv_i (Term.int_eval _) g26))
  obtain ⟨n, o, h1, h2, h3, _, L, rfl, ⟨rfl, N⟩, hq⟩ := rmL l s _ hw tables_1 i0 i1 w_VEST w_EXERCISE w_TANDEM w_FORFEIT w_PAY w_LAPSE s.heap s.heap.size (Nat.le_refl _) ⟨⟨S_VEST, E_VEST, F_VEST⟩, ⟨S_EXERCISE, E_EXERCISE, F_EXERCISE⟩, ⟨S_TANDEM, E_TANDEM, F_TANDEM⟩, ⟨S_FORFEIT, E_FORFEIT, F_FORFEIT⟩, ⟨S_PAY, E_PAY, F_PAY⟩, ⟨S_LAPSE, E_LAPSE, F_LAPSE⟩⟩ p e ha hc hk s m _ below hf ((Spec.applies_iff_loose hf).mp happ).1 ⟨rfl, State.Warmed39.refl s, rfl⟩ trivial
  refine ⟨n, _, h1, h2, h3, hpost _ _ _ _ _ _ ⟨Cond.after_iff.mpr rfl, Cond.after_iff.mpr (eq_i res_at (Term.int_eval (1)) rfl), trivial⟩ ⟨hq.1, hq.2.1, (hq.2.2.sift fun y hy => Or.inr (N y hy)).mono (by decide) (by decide)⟩⟩
theorem main_1_1 : Claimed_1_1 := comes_1 fun _ _ _ _ _ _ h hF => ⟨h.1, hF⟩
theorem main_1_2 : Claimed_1_2 := comes_1 fun _ _ _ _ _ _ h hF => ⟨h.2.1, hF⟩
end Jvm.Pilot.@@N@@
namespace Jvm.Pilot.@@N@@
open Jvm Jvm.ClassFile Sem Op Lib Jvm.Free Jvm.Stand Jvm.Pilot.@@N@@.Jvm.D
/-! MADE BY PROGRAM (witnessworld.py) out of the Statement's table words and the real class files: 12 classes; the members and pool entries that the words name. The judged class is class 1, her method 3. -/
namespace start1
open Jvm.ClassFile
def u (s : String) : CpInfo := .utf8 (stringToUtf16 s)
/-- a pool by its gaps: so many unusable entries, then the entry; so many at the end -/
def gap : Nat → List CpInfo → List CpInfo
  | 0, r => r
  | n + 1, r => .unusable :: gap n r
def poolList (es : List (Nat × CpInfo)) (last : Nat) : List CpInfo := es.foldr (fun e r => gap e.1 (e.2 :: r)) (gap last [])
def pool (es : List (Nat × CpInfo)) (last : Nat) : Array CpInfo := ⟨poolList es last⟩
def fileOf (pool : Array CpInfo) (this : Nat) (attrs : Array Attribute := #[]) (ms : Array MethodInfo := #[]) (fl : Nat := 33) (sup : Nat := 0) (ifs : Array Nat := #[]) (fds : Array FieldInfo := #[]) : ClassFile where
  minorVersion := 0
  majorVersion := 65
  constantPool := pool
  accessFlags := fl
  thisClass := this
  superClass := sup
  interfaces := ifs
  fields := fds
  methods := ms
  attributes := attrs
def plain (name : String) (sup : Option ClassId) : Class where
  name := name
  kind := .ordinary
  loader := none
  accessFlags := 33
  super := sup
  interfaces := #[]
  cf := none
  fields := #[]
  methods := #[]
  instanceTypes := #[]
  staticTypes := #[]
  resolved := #[]
  callSites := []
  init := .initialized
  statics := none
  mirror := none

def pool0 : Array CpInfo := pool [(5, u "<init>"), (0, u "()V"), (1, .class_ 10), (1, u "java/lang/Object")] 113

def k0m0 : Method := { name := "<init>", desc := "()V", sig := { parameters := [], returnType := none }, accessFlags := 1, code := none }
/-- java/lang/Object -/
def k0 : Class := { plain "java/lang/Object" none with
  accessFlags := 33
  interfaces := #[]
  cf := some (fileOf pool0 8 #[] #[{ accessFlags := 1, nameIndex := 5, descriptorIndex := 6, attributes := #[] }] 33 0 #[] #[])
  fields := #[]
  methods := #[k0m0]
  instanceTypes := #[]
  staticTypes := #[]
  resolved := Array.replicate 124 none
  statics := none }

def pool1 : Array CpInfo := pool [(2, .class_ 4), (1, u "java/lang/Object"), (0, u "<init>"), (0, u "()V"), (0, .fieldref 8 9), (0, .class_ 10), (0, .nameAndType 11 12), (0, u "com/example/vestry/vestry/Change$Kind"), (0, u "VEST"), (0, u "Lcom/example/vestry/vestry/Change$Kind;"), (0, .fieldref 8 14), (0, .nameAndType 15 12), (0, u "EXERCISE"), (0, .fieldref 8 17), (0, .nameAndType 18 12), (0, u "TANDEM"), (0, .fieldref 8 20), (0, .nameAndType 21 12), (0, u "FORFEIT"), (0, .fieldref 8 23), (0, .nameAndType 24 12), (0, u "PAY"), (0, .fieldref 8 26), (0, .nameAndType 27 12), (0, u "LAPSE"), (0, .integer 2147483647), (0, .methodref 30 31), (0, .class_ 32), (0, .nameAndType 33 34), (0, u "com/example/vestry/vestry/KindPlacePinLaw"), (0, u "kindOf"), (0, u "(I)Lcom/example/vestry/vestry/Change$Kind;"), (0, .methodref 8 36), (0, .nameAndType 37 38), (0, u "place"), (0, u "()I"), (0, .methodref 30 40), (0, .nameAndType 41 42), (0, u "rank"), (0, u "(I)I"), (3, u "law"), (0, u "(II)Z")] 6

def k1m0 : Method := { name := "<init>", desc := "()V", sig := { parameters := [], returnType := none }, accessFlags := 2, code := none }
def k1c1 : Code := { maxStack := 2, maxLocals := 1, code := method_2_code, exceptionTable := #[], attributes := #[] }
def k1m1 : Method := { name := "kindOf", desc := "(I)Lcom/example/vestry/vestry/Change$Kind;", sig := { parameters := [.int], returnType := some (.object "com/example/vestry/vestry/Change$Kind") }, accessFlags := 10, code := some k1c1 }
def k1c2 : Code := { maxStack := 2, maxLocals := 1, code := method_3_code, exceptionTable := #[], attributes := #[] }
def k1m2 : Method := { name := "rank", desc := "(I)I", sig := { parameters := [.int], returnType := some .int }, accessFlags := 10, code := some k1c2 }
def k1c3 : Code := { maxStack := 3, maxLocals := 10, code := code, exceptionTable := #[], attributes := #[] }
def k1m3 : Method := { name := "law", desc := "(II)Z", sig := { parameters := [.int, .int], returnType := some .boolean }, accessFlags := 9, code := some k1c3 }
/-- com/example/vestry/vestry/KindPlacePinLaw -/
def k1 : Class := { plain "com/example/vestry/vestry/KindPlacePinLaw" (some 0) with
  accessFlags := 49
  interfaces := #[]
  cf := some (fileOf pool1 30 #[] #[{ accessFlags := 2, nameIndex := 5, descriptorIndex := 6, attributes := #[] }, { accessFlags := 10, nameIndex := 33, descriptorIndex := 34, attributes := #[] }, { accessFlags := 10, nameIndex := 41, descriptorIndex := 42, attributes := #[] }, { accessFlags := 9, nameIndex := 46, descriptorIndex := 47, attributes := #[] }] 49 2 #[] #[])
  fields := #[]
  methods := #[k1m0, k1m1, k1m2, k1m3]
  instanceTypes := #[]
  staticTypes := #[]
  resolved := Array.replicate 54 none
  statics := none }

def pool2 : Array CpInfo := pool [(1, .class_ 2), (0, u "java/lang/constant/Constable"), (0, .class_ 4), (0, u "java/lang/Object")] 6

/-- java/lang/constant/Constable -/
def k2 : Class := { plain "java/lang/constant/Constable" (some 0) with
  accessFlags := 1537
  interfaces := #[]
  cf := some (fileOf pool2 1 #[] #[] 1537 3 #[] #[])
  fields := #[]
  methods := #[]
  instanceTypes := #[]
  staticTypes := #[]
  resolved := Array.replicate 11 none
  statics := none }

def pool3 : Array CpInfo := pool [(1, .class_ 2), (0, u "java/lang/Comparable"), (0, .class_ 4), (0, u "java/lang/Object")] 7

/-- java/lang/Comparable -/
def k3 : Class := { plain "java/lang/Comparable" (some 0) with
  accessFlags := 1537
  interfaces := #[]
  cf := some (fileOf pool3 1 #[] #[] 1537 3 #[] #[])
  fields := #[]
  methods := #[]
  instanceTypes := #[]
  staticTypes := #[]
  resolved := Array.replicate 12 none
  statics := none }

def pool4 : Array CpInfo := pool [(1, .class_ 2), (0, u "java/io/Serializable"), (0, .class_ 4), (0, u "java/lang/Object")] 2

/-- java/io/Serializable -/
def k4 : Class := { plain "java/io/Serializable" (some 0) with
  accessFlags := 1537
  interfaces := #[]
  cf := some (fileOf pool4 1 #[] #[] 1537 3 #[] #[])
  fields := #[]
  methods := #[]
  instanceTypes := #[]
  staticTypes := #[]
  resolved := Array.replicate 7 none
  statics := none }

def pool5 : Array CpInfo := pool [(2, .class_ 4), (1, u "java/lang/Enum"), (0, u "name"), (0, u "Ljava/lang/String;"), (0, .fieldref 2 8), (0, .nameAndType 9 10), (0, u "ordinal"), (0, u "I"), (1, .class_ 14), (1, u "java/lang/Object"), (4, u "hash"), (86, .class_ 108), (1, u "java/lang/Enum$EnumDesc"), (2, .class_ 112), (0, u "java/lang/constant/Constable"), (0, .class_ 114), (0, u "java/lang/Comparable"), (0, .class_ 116), (0, u "java/io/Serializable"), (9, u "()I")] 77

def k5c0 : Code := { maxStack := 1, maxLocals := 1, code := jdk_37_method_2_code, exceptionTable := #[], attributes := #[] }
def k5m0 : Method := { name := "ordinal", desc := "()I", sig := { parameters := [], returnType := some .int }, accessFlags := 17, code := some k5c0 }
/-- java/lang/Enum -/
def k5 : Class := { plain "java/lang/Enum" (some 0) with
  accessFlags := 1057
  interfaces := #[2, 3, 4]
  cf := some (fileOf pool5 2 #[.nestMembers #[106]] #[{ accessFlags := 17, nameIndex := 9, descriptorIndex := 126, attributes := #[] }] 1057 12 #[111, 113, 115] #[{ accessFlags := 18, nameIndex := 5, descriptorIndex := 6, attributes := #[] }, { accessFlags := 18, nameIndex := 9, descriptorIndex := 10, attributes := #[] }, { accessFlags := 2, nameIndex := 19, descriptorIndex := 10, attributes := #[] }])
  fields := #[{ name := "name", type := (.object "java/lang/String"), accessFlags := 18, slot := 0, constantValue := 0 }, { name := "ordinal", type := .int, accessFlags := 18, slot := 1, constantValue := 0 }, { name := "hash", type := .int, accessFlags := 2, slot := 2, constantValue := 0 }]
  methods := #[k5m0]
  instanceTypes := #[(.object "java/lang/String"), .int, .int]
  staticTypes := #[]
  resolved := Array.replicate 204 none
  statics := none }

def pool6 : Array CpInfo := pool [(1, .class_ 2), (0, u "com/example/vestry/vestry/Change$Kind"), (2, u "VEST"), (0, u "Lcom/example/vestry/vestry/Change$Kind;"), (0, .fieldref 1 8), (0, .nameAndType 9 6), (0, u "EXERCISE"), (0, .fieldref 1 11), (0, .nameAndType 12 6), (0, u "TANDEM"), (2, u "FORFEIT"), (2, u "PAY"), (2, u "LAPSE"), (2, u "$VALUES"), (0, u "[Lcom/example/vestry/vestry/Change$Kind;"), (6, .class_ 34), (1, u "java/lang/Enum"), (8, u "label"), (0, u "Ljava/lang/String;"), (0, .methodref 1 46), (0, .nameAndType 47 48), (0, u "ordinal"), (0, u "()I"), (33, u "place"), (7, .class_ 91), (0, u "com/example/vestry/vestry/Change")] 2

def k6c0 : Code := { maxStack := 2, maxLocals := 1, code := prog_5_method_5_code, exceptionTable := #[], attributes := #[] }
def k6m0 : Method := { name := "place", desc := "()I", sig := { parameters := [], returnType := some .int }, accessFlags := 0, code := some k6c0 }
/-- com/example/vestry/vestry/Change$Kind -/
def k6 : Class := { plain "com/example/vestry/vestry/Change$Kind" (some 5) with
  accessFlags := 16433
  interfaces := #[]
  cf := some (fileOf pool6 1 #[.nestHost 90] #[{ accessFlags := 0, nameIndex := 82, descriptorIndex := 48, attributes := #[] }] 16433 32 #[] #[{ accessFlags := 16409, nameIndex := 5, descriptorIndex := 6, attributes := #[] }, { accessFlags := 16409, nameIndex := 9, descriptorIndex := 6, attributes := #[] }, { accessFlags := 16409, nameIndex := 12, descriptorIndex := 6, attributes := #[] }, { accessFlags := 16409, nameIndex := 15, descriptorIndex := 6, attributes := #[] }, { accessFlags := 16409, nameIndex := 18, descriptorIndex := 6, attributes := #[] }, { accessFlags := 16409, nameIndex := 21, descriptorIndex := 6, attributes := #[] }, { accessFlags := 18, nameIndex := 43, descriptorIndex := 44, attributes := #[] }, { accessFlags := 4122, nameIndex := 24, descriptorIndex := 25, attributes := #[] }])
  fields := #[{ name := "VEST", type := (.object "com/example/vestry/vestry/Change$Kind"), accessFlags := 16409, slot := 0, constantValue := 0 }, { name := "EXERCISE", type := (.object "com/example/vestry/vestry/Change$Kind"), accessFlags := 16409, slot := 1, constantValue := 0 }, { name := "TANDEM", type := (.object "com/example/vestry/vestry/Change$Kind"), accessFlags := 16409, slot := 2, constantValue := 0 }, { name := "FORFEIT", type := (.object "com/example/vestry/vestry/Change$Kind"), accessFlags := 16409, slot := 3, constantValue := 0 }, { name := "PAY", type := (.object "com/example/vestry/vestry/Change$Kind"), accessFlags := 16409, slot := 4, constantValue := 0 }, { name := "LAPSE", type := (.object "com/example/vestry/vestry/Change$Kind"), accessFlags := 16409, slot := 5, constantValue := 0 }, { name := "label", type := (.object "java/lang/String"), accessFlags := 18, slot := 3, constantValue := 0 }, { name := "$VALUES", type := (.array (.object "com/example/vestry/vestry/Change$Kind")), accessFlags := 4122, slot := 6, constantValue := 0 }]
  methods := #[k6m0]
  instanceTypes := #[(.object "java/lang/String"), .int, .int, (.object "java/lang/String")]
  staticTypes := #[(.object "com/example/vestry/vestry/Change$Kind"), (.object "com/example/vestry/vestry/Change$Kind"), (.object "com/example/vestry/vestry/Change$Kind"), (.object "com/example/vestry/vestry/Change$Kind"), (.object "com/example/vestry/vestry/Change$Kind"), (.object "com/example/vestry/vestry/Change$Kind"), (.array (.object "com/example/vestry/vestry/Change$Kind"))]
  resolved := Array.replicate 94 none
  statics := some 0 }

def pool7 : Array CpInfo := pool [(1, u "java/lang/Cloneable"), (0, .class_ 1), (0, u "java/lang/Object"), (0, .class_ 3)] 3

/-- java/lang/Cloneable -/
def k7 : Class := { plain "java/lang/Cloneable" (some 0) with
  accessFlags := 1537
  interfaces := #[]
  cf := some (fileOf pool7 2 #[] #[] 1537 4 #[] #[])
  fields := #[]
  methods := #[]
  instanceTypes := #[]
  staticTypes := #[]
  resolved := Array.replicate 8 none
  statics := none }

/-- the primitive byte -/
def k8 : Class := { plain "byte" none with kind := .primitive 'B', accessFlags := 0x411 }
/-- [B -/
def k9 : Class := { plain "[B" (some 0) with kind := .array 8 .byte, interfaces := #[7, 4], accessFlags := 1041 }

/-- the primitive int -/
def k10 : Class := { plain "int" none with kind := .primitive 'I', accessFlags := 0x411 }
/-- [I -/
def k11 : Class := { plain "[I" (some 0) with kind := .array 10 .int, interfaces := #[7, 4], accessFlags := 1041 }

def heap : Heap := #[{ cls := 6, slots := #[.ref 1, .ref 2, .ref 3, .ref 4, .ref 5, .ref 6, .null], vm := .statics 6 },
  { cls := 6, slots := #[.null, .int 0, .int 0, .null], vm := .none },
  { cls := 6, slots := #[.null, .int 1, .int 0, .null], vm := .none },
  { cls := 6, slots := #[.null, .int 2, .int 0, .null], vm := .none },
  { cls := 6, slots := #[.null, .int 3, .int 0, .null], vm := .none },
  { cls := 6, slots := #[.null, .int 4, .int 0, .null], vm := .none },
  { cls := 6, slots := #[.null, .int 5, .int 0, .null], vm := .none }]
def classes : Array Class := #[k0, k1, k2, k3, k4, k5, k6, k7, k8, k9, k10, k11]
def interned : List (Array UInt16 × Addr) := []
def slotsUsed : Nat := 31
def theMethod : MethodId := ⟨1, 3⟩
def args0 : Array Value := #[.int 5, .int 5]
def aboutOver (below : List Frame) : State where
  vm := { classes := classes, interned := interned.toArray }
  heap := heap
  slotsUsed := slotsUsed
  threads := #[{ frames := .invoking theMethod args0 :: below }]
def below0 : List Frame := [.native { method := ⟨0, 0⟩, args := #[] }]
def about1 : State := aboutOver below0
def p0 : Program := .bare "" "" ""
def e0 : Env := launch0.env 0 0 0
theorem w_frames : about1.frames = Frame.invoking theMethod args0 :: below0 := rfl
set_option maxRecDepth 65536 in
theorem w_args : argsFit about1.vm theMethod args0 = true := by decide +kernel
set_option maxRecDepth 65536 in
theorem w_heap : heapFits about1 = true := by decide +kernel
set_option maxRecDepth 65536 in
theorem w_runnable : about1.curStatus? = some .runnable := by decide +kernel
set_option maxRecDepth 65536 in
theorem w_alone : about1.alone = true := by decide +kernel
set_option maxRecDepth 65536 in
theorem w_named : about1.methodNamed? x = some theMethod := by decide +kernel
set_option maxRecDepth 65536 in
theorem w_hears : about1.hears theMethod below0 = true := by decide +kernel
set_option maxRecDepth 65536 in
theorem w_ripe : about1.ripe theMethod args0 below0 = true := by decide +kernel
theorem w_running : about1.status = .running := rfl
set_option maxRecDepth 65536 in
theorem w_room : about1.hasRoom e0.platform room_1 = true :=
  launch0.hasRoom_least _ room_1 (by decide +kernel) (by decide +kernel) (by decide +kernel) (by decide +kernel) (by decide +kernel) (by decide +kernel)
theorem allAtoms_all (ts : List Jvm.Cond) (a : Array Jvm.Value) (st : Jvm.State) : (allAtoms ts).before a st = ts.all (fun c => c.before a st) := by
  induction ts with
  | nil => rfl
  | cons c t ih =>
    show (Jvm.Cond.and c (allAtoms t)).before a st = _
    rw [Jvm.Cond.before_and, ih, List.all_cons]
def words1 : List Jvm.Cond := Jvm.Cond.code x code maxLocals ret :: tables_1
/-- a 'code' word, met by the world's own term for the bytes: nothing is compared byte by byte -/
theorem code_word {y : MethodName} {bytes : ByteArray} {mx : Nat} {rt : Option FieldType} {a : Array Value} {s : State} {m : MethodId} {meth : Method} {c : Code} (h1 : s.methodNamed? y = some m) (h2 : s.vm.method? m = some meth) (h3 : meth.code = some c) (h4 : c.code = bytes)
    (h5 : (c.maxLocals == mx && c.exceptionTable.isEmpty && decide (c.maxStack ≤ mostOperands) && decide (meth.sig.returnType = rt) && !meth.locks && decide (parseMethodDescriptor y.desc = some meth.sig)) = true) : (Jvm.Cond.code y bytes mx rt).before a s = true := by
  simp only [Bool.and_eq_true, beq_iff_eq, Bool.not_eq_true', decide_eq_true_eq] at h5
  obtain ⟨⟨⟨⟨⟨g1, g2⟩, g3⟩, g4⟩, g5⟩, g6⟩ := h5
  simp [Cond.before, Cond.holds, Cond.value, h1, h2, h3, h4, g1, g2, g3, g4, g5, g6]
def isCode : Jvm.Cond → Bool
  | .code _ _ _ _ => true
  | _ => false
theorem all_split {L : List Jvm.Cond} {P : Jvm.Cond → Bool} (h1 : L.all (fun c => isCode c || P c) = true) (h2 : ∀ c ∈ L.filter isCode, P c = true) : L.all P = true := by
  refine List.all_eq_true.mpr fun c hc => ?_
  have h := List.all_eq_true.mp h1 c hc
  rcases Bool.eq_false_or_eq_true (isCode c) with hi | hi
  · exact h2 c (List.mem_filter.mpr ⟨hc, hi⟩)
  · simpa [hi] using h
set_option maxRecDepth 65536 in
theorem w_c0 : (Jvm.Cond.code x code maxLocals ret).before args0 about1 = true := code_word (m := ⟨1, 3⟩) (meth := k1m3) (c := k1c3) (by decide +kernel) rfl rfl rfl (by decide +kernel)
set_option maxRecDepth 65536 in
theorem w_c1 : (Jvm.Cond.code ({ cls := "com/example/vestry/vestry/KindPlacePinLaw", name := "kindOf", desc := "(I)Lcom/example/vestry/vestry/Change$Kind;" } : Jvm.MethodName) method_2_code (1 : Nat) (Option.some (Jvm.ClassFile.FieldType.object "com/example/vestry/vestry/Change$Kind"))).before args0 about1 = true := code_word (m := ⟨1, 1⟩) (meth := k1m1) (c := k1c1) (by decide +kernel) rfl rfl rfl (by decide +kernel)
set_option maxRecDepth 65536 in
theorem w_c2 : (Jvm.Cond.code ({ cls := "com/example/vestry/vestry/Change$Kind", name := "place", desc := "()I" } : Jvm.MethodName) prog_5_method_5_code (1 : Nat) (Option.some Jvm.ClassFile.FieldType.int)).before args0 about1 = true := code_word (m := ⟨6, 0⟩) (meth := k6m0) (c := k6c0) (by decide +kernel) rfl rfl rfl (by decide +kernel)
set_option maxRecDepth 65536 in
theorem w_c3 : (Jvm.Cond.code ({ cls := "java/lang/Enum", name := "ordinal", desc := "()I" } : Jvm.MethodName) jdk_37_method_2_code (1 : Nat) (Option.some Jvm.ClassFile.FieldType.int)).before args0 about1 = true := code_word (m := ⟨5, 0⟩) (meth := k5m0) (c := k5c0) (by decide +kernel) rfl rfl rfl (by decide +kernel)
set_option maxRecDepth 65536 in
theorem w_c4 : (Jvm.Cond.code ({ cls := "com/example/vestry/vestry/KindPlacePinLaw", name := "rank", desc := "(I)I" } : Jvm.MethodName) method_3_code (1 : Nat) (Option.some Jvm.ClassFile.FieldType.int)).before args0 about1 = true := code_word (m := ⟨1, 2⟩) (meth := k1m2) (c := k1c2) (by decide +kernel) rfl rfl rfl (by decide +kernel)
def codes1 : List Jvm.Cond := [Jvm.Cond.code x code maxLocals ret, Jvm.Cond.code ({ cls := "com/example/vestry/vestry/KindPlacePinLaw", name := "kindOf", desc := "(I)Lcom/example/vestry/vestry/Change$Kind;" } : Jvm.MethodName) method_2_code (1 : Nat) (Option.some (Jvm.ClassFile.FieldType.object "com/example/vestry/vestry/Change$Kind")), Jvm.Cond.code ({ cls := "com/example/vestry/vestry/Change$Kind", name := "place", desc := "()I" } : Jvm.MethodName) prog_5_method_5_code (1 : Nat) (Option.some Jvm.ClassFile.FieldType.int), Jvm.Cond.code ({ cls := "java/lang/Enum", name := "ordinal", desc := "()I" } : Jvm.MethodName) jdk_37_method_2_code (1 : Nat) (Option.some Jvm.ClassFile.FieldType.int), Jvm.Cond.code ({ cls := "com/example/vestry/vestry/KindPlacePinLaw", name := "rank", desc := "(I)I" } : Jvm.MethodName) method_3_code (1 : Nat) (Option.some Jvm.ClassFile.FieldType.int)]
set_option maxRecDepth 65536 in
theorem codes_eq : words1.filter isCode = codes1 := rfl
theorem w_codes : ∀ c ∈ words1.filter isCode, c.before args0 about1 = true := by
  rw [codes_eq]
  intro c hc
  simp only [codes1, List.mem_cons, List.not_mem_nil, or_false] at hc
  rcases hc with rfl | rfl | rfl | rfl | rfl
  · exact w_c0
  · exact w_c1
  · exact w_c2
  · exact w_c3
  · exact w_c4
set_option maxRecDepth 65536 in
theorem w_t1 : (words1.take 24).all (fun c => isCode c || c.before args0 about1) = true := by decide +kernel
set_option maxRecDepth 65536 in
theorem w_t2 : (words1.drop 24).all (fun c => isCode c || c.before args0 about1) = true := by decide +kernel
theorem w_tables : (allAtoms (Jvm.Cond.code x code maxLocals ret :: tables_1)).before args0 about1 = true := by
  rw [allAtoms_all]
  show words1.all (fun c => c.before args0 about1) = true
  refine all_split ?_ w_codes
  rw [← List.take_append_drop 24 words1, List.all_append, w_t1, w_t2]
  rfl
set_option maxRecDepth 65536 in
theorem w_case : (Jvm.Cond.and given_1 narrow_1).before args0 about1 = true := by decide +kernel
theorem w_applies : (headSpec (Jvm.Cond.code x code maxLocals ret :: tables_1) room_1).applies x e0.platform about1 = true :=
  (Spec.applies_iff w_frames).mpr ⟨w_running, w_runnable, w_alone, w_named, w_hears, w_ripe, w_room, w_tables⟩
theorem atStart : AtStart classFile x code maxLocals ret World_1 tables_1 room_1 Calls_1 rest_1 Pre_1 launch0 p0 e0 about1 theMethod args0 below0 :=
  ⟨lists_1, trivial, launch0.admits_env _ _ _, launch0.least_env, fairChoices_fair.cas, fairChoices_fair.clock, w_frames, w_args, w_heap, w_applies, trivial, trivial, w_case⟩
end start1
theorem witness_1 : WitnessClaimed_1 := ⟨start1.p0, start1.e0, start1.about1, start1.theMethod, start1.args0, start1.below0, start1.atStart⟩
end Jvm.Pilot.@@N@@
