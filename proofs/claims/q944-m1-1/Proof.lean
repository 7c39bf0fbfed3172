import JvmDerived
import JvmDerived.Pilot.@@N@@Statement
import JvmDerived.Pilot.@@N@@Code
set_option linter.unusedVariables false
set_option linter.unusedSimpArgs false
namespace Jvm.RoadKit
open Sem ClassFile Op Lib Jvm.Stand Jvm.Free Jvm.LawKit
section New
variable {p : Program} {l : Launch} {e : Env} {R : Room} {s : State} {m : MethodId} {args : Array Value} {below : List Frame} {meth : Method} {c : Code} {T : State} {locs : List Loc} {cells slots : Nat}
theorem retI (X : Stand p l e R s m args below meth c T locs cells slots) (hx : p.tables.exec = Jvm.exec) {pc : Nat} {Ls : Array Slot} {z : Int32} {rest : List Value} (hret : meth.sig.returnType = some .int) (hd : decode c.code pc = .ok (.ireturn, 1)) {fs : List Frame}
    (hl : ∀ (f : JFrame) (acts : List Action), f.method = m → f.locked = none → f.entered = [] → (doReturn e (T.setTop f) acts (some (.int z))).1 = T.setFrames fs) : Steps p.tables e below (T.setTop (mkF m pc Ls (.int z :: rest))) (T.setFrames fs) := by
  have hm' : T.vm.method? m = some meth := X.method'
  have hn : narrow .int (.int z) = .int z := rfl
  show Steps p.tables e below (T.setTop { method := m, pc := pc, locals := Ls, stack := _ :: rest, locked := none }) _
  jvm_step X.here [X.here.top, hx, hd, hm', hret, hn]
  first | (intro acts; rw [hl _ acts rfl rfl rfl]) | rw [hl _ _ rfl rfl rfl]
  exact Steps.refl _
end New
end Jvm.RoadKit
namespace Jvm.Pilot.@@N@@
open Jvm Jvm.ClassFile Sem Op Lib Jvm.Free Jvm.Stand Jvm.LawKit Jvm.RoadKit Bundle Jvm.Pilot.@@N@@.Jvm.D
abbrev Go (p : Program) (e : Env) (below : List Frame) (T : State) (g : JFrame) (t : State) : Prop := Steps p.tables e below (T.setTop g) t
theorem hwi {Z : State} {a0 : Array Value} (hw : ∀ d ∈ tables_1, d.before a0 Z = true) {d : Jvm.Cond} (i : Nat) (q : tables_1[i]? = some d) : d.before a0 Z = true := hw _ (List.mem_of_getElem? q)

def Wd (Z : State) (h : Heap) (w_TEXT w_INT w_LONG w_FLOAT w_DOUBLE w_DATETIME w_BOOLEAN w_DATE : Addr) : Prop := (Sta Z h "com/example/archstave/archstave/core/model/DataType" "TEXT" "Lcom/example/archstave/archstave/core/model/DataType;" (.ref w_TEXT) ∧ Exa Z h w_TEXT "com/example/archstave/archstave/core/model/DataType$1") ∧ (Sta Z h "com/example/archstave/archstave/core/model/DataType" "INT" "Lcom/example/archstave/archstave/core/model/DataType;" (.ref w_INT) ∧ Exa Z h w_INT "com/example/archstave/archstave/core/model/DataType$2") ∧ (Sta Z h "com/example/archstave/archstave/core/model/DataType" "LONG" "Lcom/example/archstave/archstave/core/model/DataType;" (.ref w_LONG) ∧ Exa Z h w_LONG "com/example/archstave/archstave/core/model/DataType$3") ∧ (Sta Z h "com/example/archstave/archstave/core/model/DataType" "FLOAT" "Lcom/example/archstave/archstave/core/model/DataType;" (.ref w_FLOAT) ∧ Exa Z h w_FLOAT "com/example/archstave/archstave/core/model/DataType$4") ∧ (Sta Z h "com/example/archstave/archstave/core/model/DataType" "DOUBLE" "Lcom/example/archstave/archstave/core/model/DataType;" (.ref w_DOUBLE) ∧ Exa Z h w_DOUBLE "com/example/archstave/archstave/core/model/DataType$5") ∧ (Sta Z h "com/example/archstave/archstave/core/model/DataType" "DATETIME" "Lcom/example/archstave/archstave/core/model/DataType;" (.ref w_DATETIME) ∧ Exa Z h w_DATETIME "com/example/archstave/archstave/core/model/DataType$7") ∧ (Sta Z h "com/example/archstave/archstave/core/model/DataType" "BOOLEAN" "Lcom/example/archstave/archstave/core/model/DataType;" (.ref w_BOOLEAN) ∧ Exa Z h w_BOOLEAN "com/example/archstave/archstave/core/model/DataType$8") ∧ (Sta Z h "com/example/archstave/archstave/core/model/DataType" "DATE" "Lcom/example/archstave/archstave/core/model/DataType;" (.ref w_DATE) ∧ Exa Z h w_DATE "com/example/archstave/archstave/core/model/DataType$6")
theorem Wd_ext {Z : State} {h h' : Heap} {w_TEXT w_INT w_LONG w_FLOAT w_DOUBLE w_DATETIME w_BOOLEAN w_DATE : Addr} (W : Wd Z h w_TEXT w_INT w_LONG w_FLOAT w_DOUBLE w_DATETIME w_BOOLEAN w_DATE) (E : Ext h h') : Wd Z h' w_TEXT w_INT w_LONG w_FLOAT w_DOUBLE w_DATETIME w_BOOLEAN w_DATE := by
  obtain ⟨⟨S_TEXT, E_TEXT⟩, ⟨S_INT, E_INT⟩, ⟨S_LONG, E_LONG⟩, ⟨S_FLOAT, E_FLOAT⟩, ⟨S_DOUBLE, E_DOUBLE⟩, ⟨S_DATETIME, E_DATETIME⟩, ⟨S_BOOLEAN, E_BOOLEAN⟩, ⟨S_DATE, E_DATE⟩⟩ := W
  exact ⟨⟨S_TEXT.ext E, E_TEXT.ext E⟩, ⟨S_INT.ext E, E_INT.ext E⟩, ⟨S_LONG.ext E, E_LONG.ext E⟩, ⟨S_FLOAT.ext E, E_FLOAT.ext E⟩, ⟨S_DOUBLE.ext E, E_DOUBLE.ext E⟩, ⟨S_DATETIME.ext E, E_DATETIME.ext E⟩, ⟨S_BOOLEAN.ext E, E_BOOLEAN.ext E⟩, ⟨S_DATE.ext E, E_DATE.ext E⟩⟩
theorem ef_1 (m : MethodId) (x0 : Addr) : entryFrame m #[(.ref x0)] 1 = mkF m 0 #[.val (.ref x0)] [] := by first | (simp [entryFrame, mkF, argsToLocals, Value.category]; done) | rfl
theorem pn_com_example_archstave_archstave_core_model_DataType : plainName "com/example/archstave/archstave/core/model/DataType" = true := by first | (simp [plainName, overriddenIn]; done) | decide +kernel
theorem d1_0 : decode prog_37_method_8_code 0 = .ok (.aload_n 0, 1) := by decide +kernel
theorem d1_1 : decode prog_37_method_8_code 1 = .ok (.getstatic 7, 3) := by decide +kernel
theorem d1_4 : decode prog_37_method_8_code 4 = .ok (.if_acmp .eq 24, 3) := by decide +kernel
theorem d1_28 : decode prog_37_method_8_code 28 = .ok (.iconst 1, 1) := by decide +kernel
theorem d1_29 : decode prog_37_method_8_code 29 = .ok (.goto 4, 3) := by decide +kernel
theorem d1_33 : decode prog_37_method_8_code 33 = .ok (.ireturn, 1) := by decide +kernel
theorem d1_7 : decode prog_37_method_8_code 7 = .ok (.aload_n 0, 1) := by decide +kernel
theorem d1_8 : decode prog_37_method_8_code 8 = .ok (.getstatic 10, 3) := by decide +kernel
theorem d1_11 : decode prog_37_method_8_code 11 = .ok (.if_acmp .eq 17, 3) := by decide +kernel
theorem d1_14 : decode prog_37_method_8_code 14 = .ok (.aload_n 0, 1) := by decide +kernel
theorem d1_15 : decode prog_37_method_8_code 15 = .ok (.getstatic 13, 3) := by decide +kernel
theorem d1_18 : decode prog_37_method_8_code 18 = .ok (.if_acmp .eq 10, 3) := by decide +kernel
theorem d1_21 : decode prog_37_method_8_code 21 = .ok (.aload_n 0, 1) := by decide +kernel
theorem d1_22 : decode prog_37_method_8_code 22 = .ok (.getstatic 16, 3) := by decide +kernel
theorem d1_25 : decode prog_37_method_8_code 25 = .ok (.if_acmp .ne 7, 3) := by decide +kernel
theorem d1_32 : decode prog_37_method_8_code 32 = .ok (.iconst 0, 1) := by decide +kernel
def Q_rmC (Z : State) (a1 : Addr) (w_TEXT : Addr) (w_INT : Addr) (w_LONG : Addr) (w_FLOAT : Addr) (w_DOUBLE : Addr) (w_DATETIME : Addr) (w_BOOLEAN : Addr) (w_DATE : Addr) (h0 : Heap) (n0 : Nat) (v : Option Value) (h : Heap) (L : List Loc) : Prop := v = some (.int (if a1 = w_INT ∨ a1 = w_LONG ∨ a1 = w_FLOAT ∨ a1 = w_DOUBLE then 1 else 0)) ∧ Fr n0 L ∧ h = h0
set_option maxRecDepth 65536 in
set_option maxHeartbeats 40000000 in
theorem rmC (l : Launch) (Z : State) (a0 : Array Value) (hw : ∀ d ∈ tables_1, d.before a0 Z = true) (ws : List Jvm.Cond) (a1 : Addr) (w_TEXT : Addr) (w_INT : Addr) (w_LONG : Addr) (w_FLOAT : Addr) (w_DOUBLE : Addr) (w_DATETIME : Addr) (w_BOOLEAN : Addr) (w_DATE : Addr) (h0 : Heap) (n0 : Nat) (Z0 : n0 ≤ h0.size) (hWd : Wd Z h0 w_TEXT w_INT w_LONG w_FLOAT w_DOUBLE w_DATETIME w_BOOLEAN w_DATE) :
    MetFree l (⟨"com/example/archstave/archstave/core/model/DataType", "isNumeric", "()Z"⟩ : MethodName) (head1 (Jvm.Cond.code (⟨"com/example/archstave/archstave/core/model/DataType", "isNumeric", "()Z"⟩ : MethodName) prog_37_method_8_code 1 (some .boolean) :: ws) ({ frames := 0, cells := 0, slots := 0, locals := 0 } : Room)) (fun av_ U_ => av_ = #[(.ref a1)] ∧ Z.Warmed39 U_.vm ∧ U_.heap = h0) (fun _ _ _ _ _ => True) (fun _ U_ o_ V_ => ∃ v_ L_, o_ = .returned v_ ∧ Q_rmC Z a1 w_TEXT w_INT w_LONG w_FLOAT w_DOUBLE w_DATETIME w_BOOLEAN w_DATE h0 n0 v_ V_.heap L_ ∧ FrameEnd U_ o_ V_ L_ ({ frames := 0, cells := 0, slots := 0, locals := 0 } : Room).cells ({ frames := 0, cells := 0, slots := 0, locals := 0 } : Room).slots) := by
  refine MetFree.of_bodySF (plainFor_of_name pn_com_example_archstave_archstave_core_model_DataType) hisR ?_
  intro p e s m args below meth c s₁ Bd hml0 hP hK
  obtain ⟨rfl, hZ, hh⟩ := hP
  have hx := Bd.exec
  have hby := Bd.bytes
  have hml : c.maxLocals = 1 := hml0
  have hown : s.vm.findClass "com/example/archstave/archstave/core/model/DataType" = some m.cls := findClass_of_methodNamed Bd.named
  have hnm := (name_of_methodNamed Bd.named Bd.method).1
  have X0 : Stand p l e ({ frames := 0, cells := 0, slots := 0, locals := 0 } : Room) s m #[(.ref a1)] below meth c s₁ [] 0 0 := Stand.of_body Bd
  have e0 : s₁.heap = h0 := by rw [← hh, Bd.state]; rfl
  have N0 := Fr.nil n0
  have pre0 : ∀ t_, Go p e below s₁ (mkF m 0 #[rv a1] []) t_ → Go p e below s₁ (entryFrame m #[(.ref a1)] 1) t_ := fun t_ kt => castTop (ef_1 m a1) kt
  have hWd0 := hWd
  obtain ⟨⟨S_TEXT, E_TEXT⟩, ⟨S_INT, E_INT⟩, ⟨S_LONG, E_LONG⟩, ⟨S_FLOAT, E_FLOAT⟩, ⟨S_DOUBLE, E_DOUBLE⟩, ⟨S_DATETIME, E_DATETIME⟩, ⟨S_BOOLEAN, E_BOOLEAN⟩, ⟨S_DATE, E_DATE⟩⟩ := hWd
  obtain ⟨T1, X1, e1, st1⟩ := getS2 X0 hx hZ hown (host := "") (Or.inl (hwi hw 9 rfl)) Via.refl e0 S_INT (g := (mkF m 1 #[rv a1] [(.ref a1)])) rfl (hb hby d1_1)
  have pre2 : ∀ t_, Go p e below T1 (mkF m 4 #[rv a1] [(.ref w_INT), (.ref a1)]) t_ → Go p e below s₁ (entryFrame m #[(.ref a1)] 1) t_ := fun t_ kt => pre0 _ (by
      show Go p e below s₁ (mkF m 0 #[rv a1] []) _
      refine XS.aloadN X0.here hx rfl (hb hby d1_0) rfl rfl ?_
      show Go p e below s₁ (mkF m 1 #[rv a1] [(.ref a1)]) _
      refine st1 _ ?_
      show Go p e below T1 (mkF m 4 #[rv a1] [(.ref w_INT), (.ref a1)]) _
      exact kt)
  by_cases hc4_3 : a1 = w_INT
  · have pre4 : ∀ t_, Go p e below T1 (mkF m 33 #[rv a1] [(.int 1)]) t_ → Go p e below s₁ (entryFrame m #[(.ref a1)] 1) t_ := fun t_ kt => pre2 _ (by
        show Go p e below T1 (mkF m 4 #[rv a1] [(.ref w_INT), (.ref a1)]) _
        refine Jvm.RoadKit.acmp (g := (mkF m 4 #[rv a1] [(.ref w_INT), (.ref a1)])) X1 hx rfl rfl rfl (pc0 := 4) (pc' := 28) (same := true) rfl (hb hby d1_4) rfl (decide_eq_true (congrArg Value.ref hc4_3)) (by decide) (by decide) ?_
        show Go p e below T1 (mkF m 28 #[rv a1] []) _
        refine XS.iconst X1.here hx rfl (hb hby d1_28) ?_
        show Go p e below T1 (mkF m 29 #[rv a1] [(.int 1)]) _
        refine XS.goto X1.here hx rfl (pc0 := 29) (pc' := 33) rfl (hb hby d1_29) (by decide) (by decide) ?_
        show Go p e below T1 (mkF m 33 #[rv a1] [(.int 1)]) _
        exact kt)
    obtain ⟨fs, hr, hrun, hended, hW, hsame⟩ := X1.leave (v := some (.int 1)) (fun h => by rw [Bd.returns] at h; cases h)
    refine ⟨_, _, pre4 _ ?_, hrun, hended, _, _, rfl, ?_, ⟨_, rfl⟩, hW, hsame.mono (by decide) (by decide)⟩
    · show Steps p.tables e below (T1.setTop (mkF m 33 #[rv a1] [(.int 1)])) _
      exact retN X1 hx (t := .boolean) Bd.returns (by simp) (hb hby d1_33) hr
    · show Q_rmC Z a1 w_TEXT w_INT w_LONG w_FLOAT w_DOUBLE w_DATETIME w_BOOLEAN w_DATE h0 n0 _ T1.heap _
      rw [e1]
      exact ⟨by simp [hc4_3], N0, rfl⟩
  · obtain ⟨T5, X5, e5, st5⟩ := getS2 X1 hx hZ hown (host := "") (Or.inl (hwi hw 11 rfl)) Via.refl e1 S_LONG (g := (mkF m 8 #[rv a1] [(.ref a1)])) rfl (hb hby d1_8)
    have pre6 : ∀ t_, Go p e below T5 (mkF m 11 #[rv a1] [(.ref w_LONG), (.ref a1)]) t_ → Go p e below s₁ (entryFrame m #[(.ref a1)] 1) t_ := fun t_ kt => pre2 _ (by
        show Go p e below T1 (mkF m 4 #[rv a1] [(.ref w_INT), (.ref a1)]) _
        refine Jvm.RoadKit.acmp (g := (mkF m 4 #[rv a1] [(.ref w_INT), (.ref a1)])) X1 hx rfl rfl rfl (pc0 := 4) (pc' := 7) (same := false) rfl (hb hby d1_4) rfl (decide_eq_false fun q => hc4_3 (Value.ref.inj q)) (by decide) (by decide) ?_
        show Go p e below T1 (mkF m 7 #[rv a1] []) _
        refine XS.aloadN X1.here hx rfl (hb hby d1_7) rfl rfl ?_
        show Go p e below T1 (mkF m 8 #[rv a1] [(.ref a1)]) _
        refine st5 _ ?_
        show Go p e below T5 (mkF m 11 #[rv a1] [(.ref w_LONG), (.ref a1)]) _
        exact kt)
    by_cases hc11_7 : a1 = w_LONG
    · have pre8 : ∀ t_, Go p e below T5 (mkF m 33 #[rv a1] [(.int 1)]) t_ → Go p e below s₁ (entryFrame m #[(.ref a1)] 1) t_ := fun t_ kt => pre6 _ (by
          show Go p e below T5 (mkF m 11 #[rv a1] [(.ref w_LONG), (.ref a1)]) _
          refine Jvm.RoadKit.acmp (g := (mkF m 11 #[rv a1] [(.ref w_LONG), (.ref a1)])) X5 hx rfl rfl rfl (pc0 := 11) (pc' := 28) (same := true) rfl (hb hby d1_11) rfl (decide_eq_true (congrArg Value.ref hc11_7)) (by decide) (by decide) ?_
          show Go p e below T5 (mkF m 28 #[rv a1] []) _
          refine XS.iconst X5.here hx rfl (hb hby d1_28) ?_
          show Go p e below T5 (mkF m 29 #[rv a1] [(.int 1)]) _
          refine XS.goto X5.here hx rfl (pc0 := 29) (pc' := 33) rfl (hb hby d1_29) (by decide) (by decide) ?_
          show Go p e below T5 (mkF m 33 #[rv a1] [(.int 1)]) _
          exact kt)
      obtain ⟨fs, hr, hrun, hended, hW, hsame⟩ := X5.leave (v := some (.int 1)) (fun h => by rw [Bd.returns] at h; cases h)
      refine ⟨_, _, pre8 _ ?_, hrun, hended, _, _, rfl, ?_, ⟨_, rfl⟩, hW, hsame.mono (by decide) (by decide)⟩
      · show Steps p.tables e below (T5.setTop (mkF m 33 #[rv a1] [(.int 1)])) _
        exact retN X5 hx (t := .boolean) Bd.returns (by simp) (hb hby d1_33) hr
      · show Q_rmC Z a1 w_TEXT w_INT w_LONG w_FLOAT w_DOUBLE w_DATETIME w_BOOLEAN w_DATE h0 n0 _ T5.heap _
        rw [e5]
        exact ⟨by simp [hc4_3, hc11_7], N0, rfl⟩
    · obtain ⟨T9, X9, e9, st9⟩ := getS2 X5 hx hZ hown (host := "") (Or.inl (hwi hw 13 rfl)) Via.refl e5 S_FLOAT (g := (mkF m 15 #[rv a1] [(.ref a1)])) rfl (hb hby d1_15)
      have pre10 : ∀ t_, Go p e below T9 (mkF m 18 #[rv a1] [(.ref w_FLOAT), (.ref a1)]) t_ → Go p e below s₁ (entryFrame m #[(.ref a1)] 1) t_ := fun t_ kt => pre6 _ (by
          show Go p e below T5 (mkF m 11 #[rv a1] [(.ref w_LONG), (.ref a1)]) _
          refine Jvm.RoadKit.acmp (g := (mkF m 11 #[rv a1] [(.ref w_LONG), (.ref a1)])) X5 hx rfl rfl rfl (pc0 := 11) (pc' := 14) (same := false) rfl (hb hby d1_11) rfl (decide_eq_false fun q => hc11_7 (Value.ref.inj q)) (by decide) (by decide) ?_
          show Go p e below T5 (mkF m 14 #[rv a1] []) _
          refine XS.aloadN X5.here hx rfl (hb hby d1_14) rfl rfl ?_
          show Go p e below T5 (mkF m 15 #[rv a1] [(.ref a1)]) _
          refine st9 _ ?_
          show Go p e below T9 (mkF m 18 #[rv a1] [(.ref w_FLOAT), (.ref a1)]) _
          exact kt)
      by_cases hc18_11 : a1 = w_FLOAT
      · have pre12 : ∀ t_, Go p e below T9 (mkF m 33 #[rv a1] [(.int 1)]) t_ → Go p e below s₁ (entryFrame m #[(.ref a1)] 1) t_ := fun t_ kt => pre10 _ (by
            show Go p e below T9 (mkF m 18 #[rv a1] [(.ref w_FLOAT), (.ref a1)]) _
            refine Jvm.RoadKit.acmp (g := (mkF m 18 #[rv a1] [(.ref w_FLOAT), (.ref a1)])) X9 hx rfl rfl rfl (pc0 := 18) (pc' := 28) (same := true) rfl (hb hby d1_18) rfl (decide_eq_true (congrArg Value.ref hc18_11)) (by decide) (by decide) ?_
            show Go p e below T9 (mkF m 28 #[rv a1] []) _
            refine XS.iconst X9.here hx rfl (hb hby d1_28) ?_
            show Go p e below T9 (mkF m 29 #[rv a1] [(.int 1)]) _
            refine XS.goto X9.here hx rfl (pc0 := 29) (pc' := 33) rfl (hb hby d1_29) (by decide) (by decide) ?_
            show Go p e below T9 (mkF m 33 #[rv a1] [(.int 1)]) _
            exact kt)
        obtain ⟨fs, hr, hrun, hended, hW, hsame⟩ := X9.leave (v := some (.int 1)) (fun h => by rw [Bd.returns] at h; cases h)
        refine ⟨_, _, pre12 _ ?_, hrun, hended, _, _, rfl, ?_, ⟨_, rfl⟩, hW, hsame.mono (by decide) (by decide)⟩
        · show Steps p.tables e below (T9.setTop (mkF m 33 #[rv a1] [(.int 1)])) _
          exact retN X9 hx (t := .boolean) Bd.returns (by simp) (hb hby d1_33) hr
        · show Q_rmC Z a1 w_TEXT w_INT w_LONG w_FLOAT w_DOUBLE w_DATETIME w_BOOLEAN w_DATE h0 n0 _ T9.heap _
          rw [e9]
          exact ⟨by simp [hc4_3, hc11_7, hc18_11], N0, rfl⟩
      · obtain ⟨T13, X13, e13, st13⟩ := getS2 X9 hx hZ hown (host := "") (Or.inl (hwi hw 15 rfl)) Via.refl e9 S_DOUBLE (g := (mkF m 22 #[rv a1] [(.ref a1)])) rfl (hb hby d1_22)
        have pre14 : ∀ t_, Go p e below T13 (mkF m 25 #[rv a1] [(.ref w_DOUBLE), (.ref a1)]) t_ → Go p e below s₁ (entryFrame m #[(.ref a1)] 1) t_ := fun t_ kt => pre10 _ (by
            show Go p e below T9 (mkF m 18 #[rv a1] [(.ref w_FLOAT), (.ref a1)]) _
            refine Jvm.RoadKit.acmp (g := (mkF m 18 #[rv a1] [(.ref w_FLOAT), (.ref a1)])) X9 hx rfl rfl rfl (pc0 := 18) (pc' := 21) (same := false) rfl (hb hby d1_18) rfl (decide_eq_false fun q => hc18_11 (Value.ref.inj q)) (by decide) (by decide) ?_
            show Go p e below T9 (mkF m 21 #[rv a1] []) _
            refine XS.aloadN X9.here hx rfl (hb hby d1_21) rfl rfl ?_
            show Go p e below T9 (mkF m 22 #[rv a1] [(.ref a1)]) _
            refine st13 _ ?_
            show Go p e below T13 (mkF m 25 #[rv a1] [(.ref w_DOUBLE), (.ref a1)]) _
            exact kt)
        by_cases hc25_15 : a1 = w_DOUBLE
        · have pre16 : ∀ t_, Go p e below T13 (mkF m 33 #[rv a1] [(.int 1)]) t_ → Go p e below s₁ (entryFrame m #[(.ref a1)] 1) t_ := fun t_ kt => pre14 _ (by
              show Go p e below T13 (mkF m 25 #[rv a1] [(.ref w_DOUBLE), (.ref a1)]) _
              refine Jvm.RoadKit.acmp (g := (mkF m 25 #[rv a1] [(.ref w_DOUBLE), (.ref a1)])) X13 hx rfl rfl rfl (pc0 := 25) (pc' := 28) (same := true) rfl (hb hby d1_25) rfl (decide_eq_true (congrArg Value.ref hc25_15)) (by decide) (by decide) ?_
              show Go p e below T13 (mkF m 28 #[rv a1] []) _
              refine XS.iconst X13.here hx rfl (hb hby d1_28) ?_
              show Go p e below T13 (mkF m 29 #[rv a1] [(.int 1)]) _
              refine XS.goto X13.here hx rfl (pc0 := 29) (pc' := 33) rfl (hb hby d1_29) (by decide) (by decide) ?_
              show Go p e below T13 (mkF m 33 #[rv a1] [(.int 1)]) _
              exact kt)
          obtain ⟨fs, hr, hrun, hended, hW, hsame⟩ := X13.leave (v := some (.int 1)) (fun h => by rw [Bd.returns] at h; cases h)
          refine ⟨_, _, pre16 _ ?_, hrun, hended, _, _, rfl, ?_, ⟨_, rfl⟩, hW, hsame.mono (by decide) (by decide)⟩
          · show Steps p.tables e below (T13.setTop (mkF m 33 #[rv a1] [(.int 1)])) _
            exact retN X13 hx (t := .boolean) Bd.returns (by simp) (hb hby d1_33) hr
          · show Q_rmC Z a1 w_TEXT w_INT w_LONG w_FLOAT w_DOUBLE w_DATETIME w_BOOLEAN w_DATE h0 n0 _ T13.heap _
            rw [e13]
            exact ⟨by simp [hc4_3, hc11_7, hc18_11, hc25_15], N0, rfl⟩
        · have pre17 : ∀ t_, Go p e below T13 (mkF m 33 #[rv a1] [(.int 0)]) t_ → Go p e below s₁ (entryFrame m #[(.ref a1)] 1) t_ := fun t_ kt => pre14 _ (by
              show Go p e below T13 (mkF m 25 #[rv a1] [(.ref w_DOUBLE), (.ref a1)]) _
              refine Jvm.RoadKit.acmp (g := (mkF m 25 #[rv a1] [(.ref w_DOUBLE), (.ref a1)])) X13 hx rfl rfl rfl (pc0 := 25) (pc' := 32) (same := false) rfl (hb hby d1_25) rfl (decide_eq_false fun q => hc25_15 (Value.ref.inj q)) (by decide) (by decide) ?_
              show Go p e below T13 (mkF m 32 #[rv a1] []) _
              refine XS.iconst X13.here hx rfl (hb hby d1_32) ?_
              show Go p e below T13 (mkF m 33 #[rv a1] [(.int 0)]) _
              exact kt)
          obtain ⟨fs, hr, hrun, hended, hW, hsame⟩ := X13.leave (v := some (.int 0)) (fun h => by rw [Bd.returns] at h; cases h)
          refine ⟨_, _, pre17 _ ?_, hrun, hended, _, _, rfl, ?_, ⟨_, rfl⟩, hW, hsame.mono (by decide) (by decide)⟩
          · show Steps p.tables e below (T13.setTop (mkF m 33 #[rv a1] [(.int 0)])) _
            exact retN X13 hx (t := .boolean) Bd.returns (by simp) (hb hby d1_33) hr
          · show Q_rmC Z a1 w_TEXT w_INT w_LONG w_FLOAT w_DOUBLE w_DATETIME w_BOOLEAN w_DATE h0 n0 _ T13.heap _
            rw [e13]
            exact ⟨by simp [hc4_3, hc11_7, hc18_11, hc25_15], N0, rfl⟩
theorem ef_0 (m : MethodId) (x0 : Int32) : entryFrame m #[(.int x0)] maxLocals = mkF m 0 #[.val (.int x0), .unset, .unset, .unset] [] := by first | (simp [entryFrame, mkF, argsToLocals, Value.category, maxLocals]; done) | rfl
theorem pn_com_example_archstave_archstave_core_model_DataTypeIsNumericPinLaw : plainName "com/example/archstave/archstave/core/model/DataTypeIsNumericPinLaw" = true := by first | (simp [plainName, overriddenIn]; done) | decide +kernel
theorem pd_0 : parseMethodDescriptor "()Z" = some ⟨[], some .boolean⟩ := by decide +kernel
def Q_rmL (Z : State) (p1 : Int32) (w_TEXT : Addr) (w_INT : Addr) (w_LONG : Addr) (w_FLOAT : Addr) (w_DOUBLE : Addr) (w_DATETIME : Addr) (w_BOOLEAN : Addr) (w_DATE : Addr) (h0 : Heap) (n0 : Nat) (v : Option Value) (h : Heap) (L : List Loc) : Prop := v = some (.int 1) ∧ Fr n0 L
set_option maxRecDepth 65536 in
set_option maxHeartbeats 40000000 in
theorem rmL (l : Launch) (Z : State) (a0 : Array Value) (hw : ∀ d ∈ tables_1, d.before a0 Z = true) (ws : List Jvm.Cond) (p1 : Int32) (w_TEXT : Addr) (w_INT : Addr) (w_LONG : Addr) (w_FLOAT : Addr) (w_DOUBLE : Addr) (w_DATETIME : Addr) (w_BOOLEAN : Addr) (w_DATE : Addr) (h0 : Heap) (n0 : Nat) (Z0 : n0 ≤ h0.size) (hWd : Wd Z h0 w_TEXT w_INT w_LONG w_FLOAT w_DOUBLE w_DATETIME w_BOOLEAN w_DATE) :
    MetFree l x (head1 (Jvm.Cond.code x code maxLocals ret :: ws) room_1) (fun av_ U_ => av_ = #[(.int p1)] ∧ Z.Warmed39 U_.vm ∧ U_.heap = h0) (fun _ _ _ _ _ => True) (fun _ U_ o_ V_ => ∃ v_ L_, o_ = .returned v_ ∧ Q_rmL Z p1 w_TEXT w_INT w_LONG w_FLOAT w_DOUBLE w_DATETIME w_BOOLEAN w_DATE h0 n0 v_ V_.heap L_ ∧ FrameEnd U_ o_ V_ L_ room_1.cells room_1.slots) := by
  refine MetFree.of_bodySF (plainFor_of_name pn_com_example_archstave_archstave_core_model_DataTypeIsNumericPinLaw) hisR ?_
  intro p e s m args below meth c s₁ Bd hml0 hP hK
  obtain ⟨rfl, hZ, hh⟩ := hP
  have hx := Bd.exec
  have hby := Bd.bytes
  have hml : c.maxLocals = 4 := hml0
  have hown : s.vm.findClass "com/example/archstave/archstave/core/model/DataTypeIsNumericPinLaw" = some m.cls := findClass_of_methodNamed Bd.named
  have hnm := (name_of_methodNamed Bd.named Bd.method).1
  have X0 : Stand p l e room_1 s m #[(.int p1)] below meth c s₁ [] 0 0 := Stand.of_body Bd
  have e0 : s₁.heap = h0 := by rw [← hh, Bd.state]; rfl
  have N0 := Fr.nil n0
  have pre0 : ∀ t_, Go p e below s₁ (mkF m 0 #[iv p1, .unset, .unset, .unset] []) t_ → Go p e below s₁ (entryFrame m #[(.int p1)] maxLocals) t_ := fun t_ kt => castTop (ef_0 m p1) kt
  have hWd0 := hWd
  obtain ⟨⟨S_TEXT, E_TEXT⟩, ⟨S_INT, E_INT⟩, ⟨S_LONG, E_LONG⟩, ⟨S_FLOAT, E_FLOAT⟩, ⟨S_DOUBLE, E_DOUBLE⟩, ⟨S_DATETIME, E_DATETIME⟩, ⟨S_BOOLEAN, E_BOOLEAN⟩, ⟨S_DATE, E_DATE⟩⟩ := hWd
  obtain ⟨k, e_k⟩ : ∃ z : Int32, z = ((p1 &&& (2147483647 : Int32)) % (8 : Int32)) := ⟨_, rfl⟩
  have pre1 : ∀ t_, Go p e below s₁ (mkF m 8 #[iv p1, iv k, .unset, .unset] []) t_ → Go p e below s₁ (entryFrame m #[(.int p1)] maxLocals) t_ := fun t_ kt => pre0 _ (by
      subst e_k
      show Go p e below s₁ (mkF m 0 #[iv p1, .unset, .unset, .unset] []) _
      refine XS.iloadN X0.here hx rfl (hb hby at_0) rfl ?_
      show Go p e below s₁ (mkF m 1 #[iv p1, .unset, .unset, .unset] [(.int p1)]) _
      refine X0.ldcInt hx hown (mvT hZ (hwi hw 0 rfl)) (g := (mkF m 1 #[iv p1, .unset, .unset, .unset] [(.int p1)])) rfl (hb hby at_1) _ ?_
      show Go p e below s₁ (mkF m 3 #[iv p1, .unset, .unset, .unset] [(.int 2147483647), (.int p1)]) _
      refine XS.iand X0.here hx rfl (hb hby at_3) rfl ?_
      show Go p e below s₁ (mkF m 4 #[iv p1, .unset, .unset, .unset] [(.int (p1 &&& (2147483647 : Int32)))]) _
      refine XS.bipush X0.here hx rfl (hb hby at_4) ?_
      show Go p e below s₁ (mkF m 6 #[iv p1, .unset, .unset, .unset] [(.int 8), (.int (p1 &&& (2147483647 : Int32)))]) _
      refine iremM X0 hx rfl (hb hby at_6) rfl (by decide) ?_
      show Go p e below s₁ (mkF m 7 #[iv p1, .unset, .unset, .unset] [(.int ((p1 &&& (2147483647 : Int32)) % (8 : Int32)))]) _
      refine XS.istoreN X0.here hx rfl (hb hby at_7) rfl (l' := #[iv p1, iv ((p1 &&& (2147483647 : Int32)) % (8 : Int32)), .unset, .unset]) rfl ?_
      show Go p e below s₁ (mkF m 8 #[iv p1, iv ((p1 &&& (2147483647 : Int32)) % (8 : Int32)), .unset, .unset] []) _
      exact kt)
  have pre2 : ∀ t_, Go p e below s₁ (mkF m 9 #[iv p1, iv k, .unset, .unset] [(.int k)]) t_ → Go p e below s₁ (entryFrame m #[(.int p1)] maxLocals) t_ := fun t_ kt => pre1 _ (by
      show Go p e below s₁ (mkF m 8 #[iv p1, iv k, .unset, .unset] []) _
      refine XS.iloadN X0.here hx rfl (hb hby at_8) rfl ?_
      show Go p e below s₁ (mkF m 9 #[iv p1, iv k, .unset, .unset] [(.int k)]) _
      exact kt)
  by_cases hc9_3 : k = (0 : Int32)
  · obtain ⟨T4, X4, e4, st4⟩ := getS2 X0 hx hZ hown (host := "") (Or.inl (hwi hw 1 rfl)) Via.refl e0 S_TEXT (g := (mkF m 12 #[iv p1, iv k, .unset, .unset] [])) rfl (hb hby at_12)
    obtain ⟨cq5, kq5, q5a, q5b, q5c⟩ := isOf hZ e4 E_TEXT
    obtain ⟨_, _, ⟨T5, L5, k5, n5⟩, -, X5, ⟨Lc5, hQ5, l5, y5, z5⟩, st5⟩ := X4.virtualBack hx (y := (⟨"com/example/archstave/archstave/core/model/DataType", "isNumeric", "()Z"⟩ : MethodName)) (z := (⟨"com/example/archstave/archstave/core/model/DataType", "isNumeric", "()Z"⟩ : MethodName)) hown (mvT hZ (hwi hw 4 rfl)) (mvT hZ (hwi hw 5 rfl)) (notFace_of_selects (args := #[]) (mvT hZ (hwi hw 7 rfl))) (mvT hZ (hwi hw 7 rfl)) (mvT hZ (hwi hw 6 rfl)) (by decide) (backOf (W := 0) (rmC l Z a0 hw [] w_TEXT w_TEXT w_INT w_LONG w_FLOAT w_DOUBLE w_DATETIME w_BOOLEAN w_DATE h0 n0 Z0 hWd0) hZ (hwi hw 8 rfl) (hwi hw 2 rfl) (by decide) (by decide)) q5a q5c (g := (mkF m 113 #[iv p1, iv k, rv w_TEXT, iv 0] [(.ref w_TEXT)])) rfl (by rw [hml]; rfl) (Steps.refl _) (argsL := []) (rest := []) (lenOf pd_0 rfl) rfl (by show 2 * 0 + _ ≤ _; exact Nat.le_of_eq rfl) (hb hby at_113) (fun _ _ => ⟨rfl, e4, (by decide : 0 + 0 ≤ _), (by decide : 0 + 0 ≤ _)⟩)
    dsimp only [Pt.U, Pt.locs, Pt.cells, Pt.slots] at X5 l5 y5 z5 st5 hQ5
    subst l5 y5 z5
    obtain ⟨hv5, N5q, e5q⟩ := hQ5
    have N5 := Fr.app N0 N5q
    rw [show (if w_TEXT = w_INT ∨ w_TEXT = w_LONG ∨ w_TEXT = w_FLOAT ∨ w_TEXT = w_DOUBLE then (1 : Int32) else 0) = 0 from by simp [(ne_exa E_TEXT E_INT (by decide)), (ne_exa E_TEXT E_LONG (by decide)), (ne_exa E_TEXT E_FLOAT (by decide)), (ne_exa E_TEXT E_DOUBLE (by decide))]] at hv5
    subst hv5
    have pre6 : ∀ t_, Go p e below T5 (mkF m 125 #[iv p1, iv k, rv w_TEXT, iv 0] [(.int 1)]) t_ → Go p e below s₁ (entryFrame m #[(.int p1)] maxLocals) t_ := fun t_ kt => pre2 _ (by
        show Go p e below s₁ (mkF m 9 #[iv p1, iv k, .unset, .unset] [(.int k)]) _
        refine XS.ifNo X0.here hx rfl (hb hby at_9) rfl ((if0 _ _).trans (teq hc9_3).2) ?_
        show Go p e below s₁ (mkF m 12 #[iv p1, iv k, .unset, .unset] []) _
        refine st4 _ ?_
        show Go p e below T4 (mkF m 15 #[iv p1, iv k, .unset, .unset] [(.ref w_TEXT)]) _
        refine XS.astoreN X4.here hx rfl (hb hby at_15) rfl rfl (l' := #[iv p1, iv k, rv w_TEXT, .unset]) rfl ?_
        show Go p e below T4 (mkF m 16 #[iv p1, iv k, rv w_TEXT, .unset] []) _
        refine XS.iconst X4.here hx rfl (hb hby at_16) ?_
        show Go p e below T4 (mkF m 17 #[iv p1, iv k, rv w_TEXT, .unset] [(.int 0)]) _
        refine XS.istoreN X4.here hx rfl (hb hby at_17) rfl (l' := #[iv p1, iv k, rv w_TEXT, iv 0]) rfl ?_
        show Go p e below T4 (mkF m 18 #[iv p1, iv k, rv w_TEXT, iv 0] []) _
        refine XS.goto X4.here hx rfl (pc0 := 18) (pc' := 112) rfl (hb hby at_18) (by decide) (by decide) ?_
        show Go p e below T4 (mkF m 112 #[iv p1, iv k, rv w_TEXT, iv 0] []) _
        refine XS.aloadN X4.here hx rfl (hb hby at_112) rfl rfl ?_
        show Go p e below T4 (mkF m 113 #[iv p1, iv k, rv w_TEXT, iv 0] [(.ref w_TEXT)]) _
        refine st5.trans ?_
        show Go p e below T5 (mkF m 116 #[iv p1, iv k, rv w_TEXT, iv 0] [(.int 0)]) _
        refine XS.iloadN X5.here hx rfl (hb hby at_116) rfl ?_
        show Go p e below T5 (mkF m 117 #[iv p1, iv k, rv w_TEXT, iv 0] [(.int 0), (.int 0)]) _
        refine XS.icmpNo X5.here hx rfl (hb hby at_117) rfl (teq ((by decide) : (0 : Int32) = (0 : Int32))).2 ?_
        show Go p e below T5 (mkF m 120 #[iv p1, iv k, rv w_TEXT, iv 0] []) _
        refine XS.iconst X5.here hx rfl (hb hby at_120) ?_
        show Go p e below T5 (mkF m 121 #[iv p1, iv k, rv w_TEXT, iv 0] [(.int 1)]) _
        refine XS.goto X5.here hx rfl (pc0 := 121) (pc' := 125) rfl (hb hby at_121) (by decide) (by decide) ?_
        show Go p e below T5 (mkF m 125 #[iv p1, iv k, rv w_TEXT, iv 0] [(.int 1)]) _
        exact kt)
    obtain ⟨fs, hr, hrun, hended, hW, hsame⟩ := X5.leave (v := some (.int 1)) (fun h => by rw [Bd.returns] at h; cases h)
    refine ⟨_, _, pre6 _ ?_, hrun, hended, _, _, rfl, ?_, ⟨_, rfl⟩, hW, hsame.mono (by decide) (by decide)⟩
    · show Steps p.tables e below (T5.setTop (mkF m 125 #[iv p1, iv k, rv w_TEXT, iv 0] [(.int 1)])) _
      exact retN X5 hx (t := .boolean) Bd.returns (by simp) (hb hby at_125) hr
    · show Q_rmL Z p1 w_TEXT w_INT w_LONG w_FLOAT w_DOUBLE w_DATETIME w_BOOLEAN w_DATE h0 n0 _ T5.heap _
      rw [e5q]
      exact ⟨rfl, N5⟩
  · have pre7 : ∀ t_, Go p e below s₁ (mkF m 23 #[iv p1, iv k, .unset, .unset] [(.int 1), (.int k)]) t_ → Go p e below s₁ (entryFrame m #[(.int p1)] maxLocals) t_ := fun t_ kt => pre2 _ (by
        show Go p e below s₁ (mkF m 9 #[iv p1, iv k, .unset, .unset] [(.int k)]) _
        refine XS.ifYes X0.here hx rfl (pc0 := 9) (pc' := 21) rfl (hb hby at_9) rfl ((if0 _ _).trans (feq hc9_3).2) (by decide) (by decide) ?_
        show Go p e below s₁ (mkF m 21 #[iv p1, iv k, .unset, .unset] []) _
        refine XS.iloadN X0.here hx rfl (hb hby at_21) rfl ?_
        show Go p e below s₁ (mkF m 22 #[iv p1, iv k, .unset, .unset] [(.int k)]) _
        refine XS.iconst X0.here hx rfl (hb hby at_22) ?_
        show Go p e below s₁ (mkF m 23 #[iv p1, iv k, .unset, .unset] [(.int 1), (.int k)]) _
        exact kt)
    by_cases hc23_8 : k = (1 : Int32)
    · obtain ⟨T9, X9, e9, st9⟩ := getS2 X0 hx hZ hown (host := "") (Or.inl (hwi hw 27 rfl)) Via.refl e0 S_INT (g := (mkF m 26 #[iv p1, iv k, .unset, .unset] [])) rfl (hb hby at_26)
      obtain ⟨cq10, kq10, q10a, q10b, q10c⟩ := isOf hZ e9 E_INT
      obtain ⟨_, _, ⟨T10, L10, k10, n10⟩, -, X10, ⟨Lc10, hQ10, l10, y10, z10⟩, st10⟩ := X9.virtualBack hx (y := (⟨"com/example/archstave/archstave/core/model/DataType", "isNumeric", "()Z"⟩ : MethodName)) (z := (⟨"com/example/archstave/archstave/core/model/DataType", "isNumeric", "()Z"⟩ : MethodName)) hown (mvT hZ (hwi hw 4 rfl)) (mvT hZ (hwi hw 5 rfl)) (notFace_of_selects (args := #[]) (mvT hZ (hwi hw 28 rfl))) (mvT hZ (hwi hw 28 rfl)) (mvT hZ (hwi hw 6 rfl)) (by decide) (backOf (W := 0) (rmC l Z a0 hw [] w_INT w_TEXT w_INT w_LONG w_FLOAT w_DOUBLE w_DATETIME w_BOOLEAN w_DATE h0 n0 Z0 hWd0) hZ (hwi hw 8 rfl) (hwi hw 2 rfl) (by decide) (by decide)) q10a q10c (g := (mkF m 113 #[iv p1, iv k, rv w_INT, iv 1] [(.ref w_INT)])) rfl (by rw [hml]; rfl) (Steps.refl _) (argsL := []) (rest := []) (lenOf pd_0 rfl) rfl (by show 2 * 0 + _ ≤ _; exact Nat.le_of_eq rfl) (hb hby at_113) (fun _ _ => ⟨rfl, e9, (by decide : 0 + 0 ≤ _), (by decide : 0 + 0 ≤ _)⟩)
      dsimp only [Pt.U, Pt.locs, Pt.cells, Pt.slots] at X10 l10 y10 z10 st10 hQ10
      subst l10 y10 z10
      obtain ⟨hv10, N10q, e10q⟩ := hQ10
      have N10 := Fr.app N0 N10q
      rw [show (if w_INT = w_INT ∨ w_INT = w_LONG ∨ w_INT = w_FLOAT ∨ w_INT = w_DOUBLE then (1 : Int32) else 0) = 1 from by simp []] at hv10
      subst hv10
      have pre11 : ∀ t_, Go p e below T10 (mkF m 125 #[iv p1, iv k, rv w_INT, iv 1] [(.int 1)]) t_ → Go p e below s₁ (entryFrame m #[(.int p1)] maxLocals) t_ := fun t_ kt => pre7 _ (by
          show Go p e below s₁ (mkF m 23 #[iv p1, iv k, .unset, .unset] [(.int 1), (.int k)]) _
          refine XS.icmpNo X0.here hx rfl (hb hby at_23) rfl (teq hc23_8).2 ?_
          show Go p e below s₁ (mkF m 26 #[iv p1, iv k, .unset, .unset] []) _
          refine st9 _ ?_
          show Go p e below T9 (mkF m 29 #[iv p1, iv k, .unset, .unset] [(.ref w_INT)]) _
          refine XS.astoreN X9.here hx rfl (hb hby at_29) rfl rfl (l' := #[iv p1, iv k, rv w_INT, .unset]) rfl ?_
          show Go p e below T9 (mkF m 30 #[iv p1, iv k, rv w_INT, .unset] []) _
          refine XS.iconst X9.here hx rfl (hb hby at_30) ?_
          show Go p e below T9 (mkF m 31 #[iv p1, iv k, rv w_INT, .unset] [(.int 1)]) _
          refine XS.istoreN X9.here hx rfl (hb hby at_31) rfl (l' := #[iv p1, iv k, rv w_INT, iv 1]) rfl ?_
          show Go p e below T9 (mkF m 32 #[iv p1, iv k, rv w_INT, iv 1] []) _
          refine XS.goto X9.here hx rfl (pc0 := 32) (pc' := 112) rfl (hb hby at_32) (by decide) (by decide) ?_
          show Go p e below T9 (mkF m 112 #[iv p1, iv k, rv w_INT, iv 1] []) _
          refine XS.aloadN X9.here hx rfl (hb hby at_112) rfl rfl ?_
          show Go p e below T9 (mkF m 113 #[iv p1, iv k, rv w_INT, iv 1] [(.ref w_INT)]) _
          refine st10.trans ?_
          show Go p e below T10 (mkF m 116 #[iv p1, iv k, rv w_INT, iv 1] [(.int 1)]) _
          refine XS.iloadN X10.here hx rfl (hb hby at_116) rfl ?_
          show Go p e below T10 (mkF m 117 #[iv p1, iv k, rv w_INT, iv 1] [(.int 1), (.int 1)]) _
          refine XS.icmpNo X10.here hx rfl (hb hby at_117) rfl (teq ((by decide) : (1 : Int32) = (1 : Int32))).2 ?_
          show Go p e below T10 (mkF m 120 #[iv p1, iv k, rv w_INT, iv 1] []) _
          refine XS.iconst X10.here hx rfl (hb hby at_120) ?_
          show Go p e below T10 (mkF m 121 #[iv p1, iv k, rv w_INT, iv 1] [(.int 1)]) _
          refine XS.goto X10.here hx rfl (pc0 := 121) (pc' := 125) rfl (hb hby at_121) (by decide) (by decide) ?_
          show Go p e below T10 (mkF m 125 #[iv p1, iv k, rv w_INT, iv 1] [(.int 1)]) _
          exact kt)
      obtain ⟨fs, hr, hrun, hended, hW, hsame⟩ := X10.leave (v := some (.int 1)) (fun h => by rw [Bd.returns] at h; cases h)
      refine ⟨_, _, pre11 _ ?_, hrun, hended, _, _, rfl, ?_, ⟨_, rfl⟩, hW, hsame.mono (by decide) (by decide)⟩
      · show Steps p.tables e below (T10.setTop (mkF m 125 #[iv p1, iv k, rv w_INT, iv 1] [(.int 1)])) _
        exact retN X10 hx (t := .boolean) Bd.returns (by simp) (hb hby at_125) hr
      · show Q_rmL Z p1 w_TEXT w_INT w_LONG w_FLOAT w_DOUBLE w_DATETIME w_BOOLEAN w_DATE h0 n0 _ T10.heap _
        rw [e10q]
        exact ⟨rfl, N10⟩
    · have pre12 : ∀ t_, Go p e below s₁ (mkF m 37 #[iv p1, iv k, .unset, .unset] [(.int 2), (.int k)]) t_ → Go p e below s₁ (entryFrame m #[(.int p1)] maxLocals) t_ := fun t_ kt => pre7 _ (by
          show Go p e below s₁ (mkF m 23 #[iv p1, iv k, .unset, .unset] [(.int 1), (.int k)]) _
          refine XS.icmpYes X0.here hx rfl (pc0 := 23) (pc' := 35) rfl (hb hby at_23) rfl (feq hc23_8).2 (by decide) (by decide) ?_
          show Go p e below s₁ (mkF m 35 #[iv p1, iv k, .unset, .unset] []) _
          refine XS.iloadN X0.here hx rfl (hb hby at_35) rfl ?_
          show Go p e below s₁ (mkF m 36 #[iv p1, iv k, .unset, .unset] [(.int k)]) _
          refine XS.iconst X0.here hx rfl (hb hby at_36) ?_
          show Go p e below s₁ (mkF m 37 #[iv p1, iv k, .unset, .unset] [(.int 2), (.int k)]) _
          exact kt)
      by_cases hc37_13 : k = (2 : Int32)
      · obtain ⟨T14, X14, e14, st14⟩ := getS2 X0 hx hZ hown (host := "") (Or.inl (hwi hw 25 rfl)) Via.refl e0 S_LONG (g := (mkF m 40 #[iv p1, iv k, .unset, .unset] [])) rfl (hb hby at_40)
        obtain ⟨cq15, kq15, q15a, q15b, q15c⟩ := isOf hZ e14 E_LONG
        obtain ⟨_, _, ⟨T15, L15, k15, n15⟩, -, X15, ⟨Lc15, hQ15, l15, y15, z15⟩, st15⟩ := X14.virtualBack hx (y := (⟨"com/example/archstave/archstave/core/model/DataType", "isNumeric", "()Z"⟩ : MethodName)) (z := (⟨"com/example/archstave/archstave/core/model/DataType", "isNumeric", "()Z"⟩ : MethodName)) hown (mvT hZ (hwi hw 4 rfl)) (mvT hZ (hwi hw 5 rfl)) (notFace_of_selects (args := #[]) (mvT hZ (hwi hw 26 rfl))) (mvT hZ (hwi hw 26 rfl)) (mvT hZ (hwi hw 6 rfl)) (by decide) (backOf (W := 0) (rmC l Z a0 hw [] w_LONG w_TEXT w_INT w_LONG w_FLOAT w_DOUBLE w_DATETIME w_BOOLEAN w_DATE h0 n0 Z0 hWd0) hZ (hwi hw 8 rfl) (hwi hw 2 rfl) (by decide) (by decide)) q15a q15c (g := (mkF m 113 #[iv p1, iv k, rv w_LONG, iv 1] [(.ref w_LONG)])) rfl (by rw [hml]; rfl) (Steps.refl _) (argsL := []) (rest := []) (lenOf pd_0 rfl) rfl (by show 2 * 0 + _ ≤ _; exact Nat.le_of_eq rfl) (hb hby at_113) (fun _ _ => ⟨rfl, e14, (by decide : 0 + 0 ≤ _), (by decide : 0 + 0 ≤ _)⟩)
        dsimp only [Pt.U, Pt.locs, Pt.cells, Pt.slots] at X15 l15 y15 z15 st15 hQ15
        subst l15 y15 z15
        obtain ⟨hv15, N15q, e15q⟩ := hQ15
        have N15 := Fr.app N0 N15q
        rw [show (if w_LONG = w_INT ∨ w_LONG = w_LONG ∨ w_LONG = w_FLOAT ∨ w_LONG = w_DOUBLE then (1 : Int32) else 0) = 1 from by simp []] at hv15
        subst hv15
        have pre16 : ∀ t_, Go p e below T15 (mkF m 125 #[iv p1, iv k, rv w_LONG, iv 1] [(.int 1)]) t_ → Go p e below s₁ (entryFrame m #[(.int p1)] maxLocals) t_ := fun t_ kt => pre12 _ (by
            show Go p e below s₁ (mkF m 37 #[iv p1, iv k, .unset, .unset] [(.int 2), (.int k)]) _
            refine XS.icmpNo X0.here hx rfl (hb hby at_37) rfl (teq hc37_13).2 ?_
            show Go p e below s₁ (mkF m 40 #[iv p1, iv k, .unset, .unset] []) _
            refine st14 _ ?_
            show Go p e below T14 (mkF m 43 #[iv p1, iv k, .unset, .unset] [(.ref w_LONG)]) _
            refine XS.astoreN X14.here hx rfl (hb hby at_43) rfl rfl (l' := #[iv p1, iv k, rv w_LONG, .unset]) rfl ?_
            show Go p e below T14 (mkF m 44 #[iv p1, iv k, rv w_LONG, .unset] []) _
            refine XS.iconst X14.here hx rfl (hb hby at_44) ?_
            show Go p e below T14 (mkF m 45 #[iv p1, iv k, rv w_LONG, .unset] [(.int 1)]) _
            refine XS.istoreN X14.here hx rfl (hb hby at_45) rfl (l' := #[iv p1, iv k, rv w_LONG, iv 1]) rfl ?_
            show Go p e below T14 (mkF m 46 #[iv p1, iv k, rv w_LONG, iv 1] []) _
            refine XS.goto X14.here hx rfl (pc0 := 46) (pc' := 112) rfl (hb hby at_46) (by decide) (by decide) ?_
            show Go p e below T14 (mkF m 112 #[iv p1, iv k, rv w_LONG, iv 1] []) _
            refine XS.aloadN X14.here hx rfl (hb hby at_112) rfl rfl ?_
            show Go p e below T14 (mkF m 113 #[iv p1, iv k, rv w_LONG, iv 1] [(.ref w_LONG)]) _
            refine st15.trans ?_
            show Go p e below T15 (mkF m 116 #[iv p1, iv k, rv w_LONG, iv 1] [(.int 1)]) _
            refine XS.iloadN X15.here hx rfl (hb hby at_116) rfl ?_
            show Go p e below T15 (mkF m 117 #[iv p1, iv k, rv w_LONG, iv 1] [(.int 1), (.int 1)]) _
            refine XS.icmpNo X15.here hx rfl (hb hby at_117) rfl (teq ((by decide) : (1 : Int32) = (1 : Int32))).2 ?_
            show Go p e below T15 (mkF m 120 #[iv p1, iv k, rv w_LONG, iv 1] []) _
            refine XS.iconst X15.here hx rfl (hb hby at_120) ?_
            show Go p e below T15 (mkF m 121 #[iv p1, iv k, rv w_LONG, iv 1] [(.int 1)]) _
            refine XS.goto X15.here hx rfl (pc0 := 121) (pc' := 125) rfl (hb hby at_121) (by decide) (by decide) ?_
            show Go p e below T15 (mkF m 125 #[iv p1, iv k, rv w_LONG, iv 1] [(.int 1)]) _
            exact kt)
        obtain ⟨fs, hr, hrun, hended, hW, hsame⟩ := X15.leave (v := some (.int 1)) (fun h => by rw [Bd.returns] at h; cases h)
        refine ⟨_, _, pre16 _ ?_, hrun, hended, _, _, rfl, ?_, ⟨_, rfl⟩, hW, hsame.mono (by decide) (by decide)⟩
        · show Steps p.tables e below (T15.setTop (mkF m 125 #[iv p1, iv k, rv w_LONG, iv 1] [(.int 1)])) _
          exact retN X15 hx (t := .boolean) Bd.returns (by simp) (hb hby at_125) hr
        · show Q_rmL Z p1 w_TEXT w_INT w_LONG w_FLOAT w_DOUBLE w_DATETIME w_BOOLEAN w_DATE h0 n0 _ T15.heap _
          rw [e15q]
          exact ⟨rfl, N15⟩
      · have pre17 : ∀ t_, Go p e below s₁ (mkF m 51 #[iv p1, iv k, .unset, .unset] [(.int 3), (.int k)]) t_ → Go p e below s₁ (entryFrame m #[(.int p1)] maxLocals) t_ := fun t_ kt => pre12 _ (by
            show Go p e below s₁ (mkF m 37 #[iv p1, iv k, .unset, .unset] [(.int 2), (.int k)]) _
            refine XS.icmpYes X0.here hx rfl (pc0 := 37) (pc' := 49) rfl (hb hby at_37) rfl (feq hc37_13).2 (by decide) (by decide) ?_
            show Go p e below s₁ (mkF m 49 #[iv p1, iv k, .unset, .unset] []) _
            refine XS.iloadN X0.here hx rfl (hb hby at_49) rfl ?_
            show Go p e below s₁ (mkF m 50 #[iv p1, iv k, .unset, .unset] [(.int k)]) _
            refine XS.iconst X0.here hx rfl (hb hby at_50) ?_
            show Go p e below s₁ (mkF m 51 #[iv p1, iv k, .unset, .unset] [(.int 3), (.int k)]) _
            exact kt)
        by_cases hc51_18 : k = (3 : Int32)
        · obtain ⟨T19, X19, e19, st19⟩ := getS2 X0 hx hZ hown (host := "") (Or.inl (hwi hw 17 rfl)) Via.refl e0 S_FLOAT (g := (mkF m 54 #[iv p1, iv k, .unset, .unset] [])) rfl (hb hby at_54)
          obtain ⟨cq20, kq20, q20a, q20b, q20c⟩ := isOf hZ e19 E_FLOAT
          obtain ⟨_, _, ⟨T20, L20, k20, n20⟩, -, X20, ⟨Lc20, hQ20, l20, y20, z20⟩, st20⟩ := X19.virtualBack hx (y := (⟨"com/example/archstave/archstave/core/model/DataType", "isNumeric", "()Z"⟩ : MethodName)) (z := (⟨"com/example/archstave/archstave/core/model/DataType", "isNumeric", "()Z"⟩ : MethodName)) hown (mvT hZ (hwi hw 4 rfl)) (mvT hZ (hwi hw 5 rfl)) (notFace_of_selects (args := #[]) (mvT hZ (hwi hw 18 rfl))) (mvT hZ (hwi hw 18 rfl)) (mvT hZ (hwi hw 6 rfl)) (by decide) (backOf (W := 0) (rmC l Z a0 hw [] w_FLOAT w_TEXT w_INT w_LONG w_FLOAT w_DOUBLE w_DATETIME w_BOOLEAN w_DATE h0 n0 Z0 hWd0) hZ (hwi hw 8 rfl) (hwi hw 2 rfl) (by decide) (by decide)) q20a q20c (g := (mkF m 113 #[iv p1, iv k, rv w_FLOAT, iv 1] [(.ref w_FLOAT)])) rfl (by rw [hml]; rfl) (Steps.refl _) (argsL := []) (rest := []) (lenOf pd_0 rfl) rfl (by show 2 * 0 + _ ≤ _; exact Nat.le_of_eq rfl) (hb hby at_113) (fun _ _ => ⟨rfl, e19, (by decide : 0 + 0 ≤ _), (by decide : 0 + 0 ≤ _)⟩)
          dsimp only [Pt.U, Pt.locs, Pt.cells, Pt.slots] at X20 l20 y20 z20 st20 hQ20
          subst l20 y20 z20
          obtain ⟨hv20, N20q, e20q⟩ := hQ20
          have N20 := Fr.app N0 N20q
          rw [show (if w_FLOAT = w_INT ∨ w_FLOAT = w_LONG ∨ w_FLOAT = w_FLOAT ∨ w_FLOAT = w_DOUBLE then (1 : Int32) else 0) = 1 from by simp []] at hv20
          subst hv20
          have pre21 : ∀ t_, Go p e below T20 (mkF m 125 #[iv p1, iv k, rv w_FLOAT, iv 1] [(.int 1)]) t_ → Go p e below s₁ (entryFrame m #[(.int p1)] maxLocals) t_ := fun t_ kt => pre17 _ (by
              show Go p e below s₁ (mkF m 51 #[iv p1, iv k, .unset, .unset] [(.int 3), (.int k)]) _
              refine XS.icmpNo X0.here hx rfl (hb hby at_51) rfl (teq hc51_18).2 ?_
              show Go p e below s₁ (mkF m 54 #[iv p1, iv k, .unset, .unset] []) _
              refine st19 _ ?_
              show Go p e below T19 (mkF m 57 #[iv p1, iv k, .unset, .unset] [(.ref w_FLOAT)]) _
              refine XS.astoreN X19.here hx rfl (hb hby at_57) rfl rfl (l' := #[iv p1, iv k, rv w_FLOAT, .unset]) rfl ?_
              show Go p e below T19 (mkF m 58 #[iv p1, iv k, rv w_FLOAT, .unset] []) _
              refine XS.iconst X19.here hx rfl (hb hby at_58) ?_
              show Go p e below T19 (mkF m 59 #[iv p1, iv k, rv w_FLOAT, .unset] [(.int 1)]) _
              refine XS.istoreN X19.here hx rfl (hb hby at_59) rfl (l' := #[iv p1, iv k, rv w_FLOAT, iv 1]) rfl ?_
              show Go p e below T19 (mkF m 60 #[iv p1, iv k, rv w_FLOAT, iv 1] []) _
              refine XS.goto X19.here hx rfl (pc0 := 60) (pc' := 112) rfl (hb hby at_60) (by decide) (by decide) ?_
              show Go p e below T19 (mkF m 112 #[iv p1, iv k, rv w_FLOAT, iv 1] []) _
              refine XS.aloadN X19.here hx rfl (hb hby at_112) rfl rfl ?_
              show Go p e below T19 (mkF m 113 #[iv p1, iv k, rv w_FLOAT, iv 1] [(.ref w_FLOAT)]) _
              refine st20.trans ?_
              show Go p e below T20 (mkF m 116 #[iv p1, iv k, rv w_FLOAT, iv 1] [(.int 1)]) _
              refine XS.iloadN X20.here hx rfl (hb hby at_116) rfl ?_
              show Go p e below T20 (mkF m 117 #[iv p1, iv k, rv w_FLOAT, iv 1] [(.int 1), (.int 1)]) _
              refine XS.icmpNo X20.here hx rfl (hb hby at_117) rfl (teq ((by decide) : (1 : Int32) = (1 : Int32))).2 ?_
              show Go p e below T20 (mkF m 120 #[iv p1, iv k, rv w_FLOAT, iv 1] []) _
              refine XS.iconst X20.here hx rfl (hb hby at_120) ?_
              show Go p e below T20 (mkF m 121 #[iv p1, iv k, rv w_FLOAT, iv 1] [(.int 1)]) _
              refine XS.goto X20.here hx rfl (pc0 := 121) (pc' := 125) rfl (hb hby at_121) (by decide) (by decide) ?_
              show Go p e below T20 (mkF m 125 #[iv p1, iv k, rv w_FLOAT, iv 1] [(.int 1)]) _
              exact kt)
          obtain ⟨fs, hr, hrun, hended, hW, hsame⟩ := X20.leave (v := some (.int 1)) (fun h => by rw [Bd.returns] at h; cases h)
          refine ⟨_, _, pre21 _ ?_, hrun, hended, _, _, rfl, ?_, ⟨_, rfl⟩, hW, hsame.mono (by decide) (by decide)⟩
          · show Steps p.tables e below (T20.setTop (mkF m 125 #[iv p1, iv k, rv w_FLOAT, iv 1] [(.int 1)])) _
            exact retN X20 hx (t := .boolean) Bd.returns (by simp) (hb hby at_125) hr
          · show Q_rmL Z p1 w_TEXT w_INT w_LONG w_FLOAT w_DOUBLE w_DATETIME w_BOOLEAN w_DATE h0 n0 _ T20.heap _
            rw [e20q]
            exact ⟨rfl, N20⟩
        · have pre22 : ∀ t_, Go p e below s₁ (mkF m 65 #[iv p1, iv k, .unset, .unset] [(.int 4), (.int k)]) t_ → Go p e below s₁ (entryFrame m #[(.int p1)] maxLocals) t_ := fun t_ kt => pre17 _ (by
              show Go p e below s₁ (mkF m 51 #[iv p1, iv k, .unset, .unset] [(.int 3), (.int k)]) _
              refine XS.icmpYes X0.here hx rfl (pc0 := 51) (pc' := 63) rfl (hb hby at_51) rfl (feq hc51_18).2 (by decide) (by decide) ?_
              show Go p e below s₁ (mkF m 63 #[iv p1, iv k, .unset, .unset] []) _
              refine XS.iloadN X0.here hx rfl (hb hby at_63) rfl ?_
              show Go p e below s₁ (mkF m 64 #[iv p1, iv k, .unset, .unset] [(.int k)]) _
              refine XS.iconst X0.here hx rfl (hb hby at_64) ?_
              show Go p e below s₁ (mkF m 65 #[iv p1, iv k, .unset, .unset] [(.int 4), (.int k)]) _
              exact kt)
          by_cases hc65_23 : k = (4 : Int32)
          · obtain ⟨T24, X24, e24, st24⟩ := getS2 X0 hx hZ hown (host := "") (Or.inl (hwi hw 29 rfl)) Via.refl e0 S_DOUBLE (g := (mkF m 68 #[iv p1, iv k, .unset, .unset] [])) rfl (hb hby at_68)
            obtain ⟨cq25, kq25, q25a, q25b, q25c⟩ := isOf hZ e24 E_DOUBLE
            obtain ⟨_, _, ⟨T25, L25, k25, n25⟩, -, X25, ⟨Lc25, hQ25, l25, y25, z25⟩, st25⟩ := X24.virtualBack hx (y := (⟨"com/example/archstave/archstave/core/model/DataType", "isNumeric", "()Z"⟩ : MethodName)) (z := (⟨"com/example/archstave/archstave/core/model/DataType", "isNumeric", "()Z"⟩ : MethodName)) hown (mvT hZ (hwi hw 4 rfl)) (mvT hZ (hwi hw 5 rfl)) (notFace_of_selects (args := #[]) (mvT hZ (hwi hw 30 rfl))) (mvT hZ (hwi hw 30 rfl)) (mvT hZ (hwi hw 6 rfl)) (by decide) (backOf (W := 0) (rmC l Z a0 hw [] w_DOUBLE w_TEXT w_INT w_LONG w_FLOAT w_DOUBLE w_DATETIME w_BOOLEAN w_DATE h0 n0 Z0 hWd0) hZ (hwi hw 8 rfl) (hwi hw 2 rfl) (by decide) (by decide)) q25a q25c (g := (mkF m 113 #[iv p1, iv k, rv w_DOUBLE, iv 1] [(.ref w_DOUBLE)])) rfl (by rw [hml]; rfl) (Steps.refl _) (argsL := []) (rest := []) (lenOf pd_0 rfl) rfl (by show 2 * 0 + _ ≤ _; exact Nat.le_of_eq rfl) (hb hby at_113) (fun _ _ => ⟨rfl, e24, (by decide : 0 + 0 ≤ _), (by decide : 0 + 0 ≤ _)⟩)
            dsimp only [Pt.U, Pt.locs, Pt.cells, Pt.slots] at X25 l25 y25 z25 st25 hQ25
            subst l25 y25 z25
            obtain ⟨hv25, N25q, e25q⟩ := hQ25
            have N25 := Fr.app N0 N25q
            rw [show (if w_DOUBLE = w_INT ∨ w_DOUBLE = w_LONG ∨ w_DOUBLE = w_FLOAT ∨ w_DOUBLE = w_DOUBLE then (1 : Int32) else 0) = 1 from by simp []] at hv25
            subst hv25
            have pre26 : ∀ t_, Go p e below T25 (mkF m 125 #[iv p1, iv k, rv w_DOUBLE, iv 1] [(.int 1)]) t_ → Go p e below s₁ (entryFrame m #[(.int p1)] maxLocals) t_ := fun t_ kt => pre22 _ (by
                show Go p e below s₁ (mkF m 65 #[iv p1, iv k, .unset, .unset] [(.int 4), (.int k)]) _
                refine XS.icmpNo X0.here hx rfl (hb hby at_65) rfl (teq hc65_23).2 ?_
                show Go p e below s₁ (mkF m 68 #[iv p1, iv k, .unset, .unset] []) _
                refine st24 _ ?_
                show Go p e below T24 (mkF m 71 #[iv p1, iv k, .unset, .unset] [(.ref w_DOUBLE)]) _
                refine XS.astoreN X24.here hx rfl (hb hby at_71) rfl rfl (l' := #[iv p1, iv k, rv w_DOUBLE, .unset]) rfl ?_
                show Go p e below T24 (mkF m 72 #[iv p1, iv k, rv w_DOUBLE, .unset] []) _
                refine XS.iconst X24.here hx rfl (hb hby at_72) ?_
                show Go p e below T24 (mkF m 73 #[iv p1, iv k, rv w_DOUBLE, .unset] [(.int 1)]) _
                refine XS.istoreN X24.here hx rfl (hb hby at_73) rfl (l' := #[iv p1, iv k, rv w_DOUBLE, iv 1]) rfl ?_
                show Go p e below T24 (mkF m 74 #[iv p1, iv k, rv w_DOUBLE, iv 1] []) _
                refine XS.goto X24.here hx rfl (pc0 := 74) (pc' := 112) rfl (hb hby at_74) (by decide) (by decide) ?_
                show Go p e below T24 (mkF m 112 #[iv p1, iv k, rv w_DOUBLE, iv 1] []) _
                refine XS.aloadN X24.here hx rfl (hb hby at_112) rfl rfl ?_
                show Go p e below T24 (mkF m 113 #[iv p1, iv k, rv w_DOUBLE, iv 1] [(.ref w_DOUBLE)]) _
                refine st25.trans ?_
                show Go p e below T25 (mkF m 116 #[iv p1, iv k, rv w_DOUBLE, iv 1] [(.int 1)]) _
                refine XS.iloadN X25.here hx rfl (hb hby at_116) rfl ?_
                show Go p e below T25 (mkF m 117 #[iv p1, iv k, rv w_DOUBLE, iv 1] [(.int 1), (.int 1)]) _
                refine XS.icmpNo X25.here hx rfl (hb hby at_117) rfl (teq ((by decide) : (1 : Int32) = (1 : Int32))).2 ?_
                show Go p e below T25 (mkF m 120 #[iv p1, iv k, rv w_DOUBLE, iv 1] []) _
                refine XS.iconst X25.here hx rfl (hb hby at_120) ?_
                show Go p e below T25 (mkF m 121 #[iv p1, iv k, rv w_DOUBLE, iv 1] [(.int 1)]) _
                refine XS.goto X25.here hx rfl (pc0 := 121) (pc' := 125) rfl (hb hby at_121) (by decide) (by decide) ?_
                show Go p e below T25 (mkF m 125 #[iv p1, iv k, rv w_DOUBLE, iv 1] [(.int 1)]) _
                exact kt)
            obtain ⟨fs, hr, hrun, hended, hW, hsame⟩ := X25.leave (v := some (.int 1)) (fun h => by rw [Bd.returns] at h; cases h)
            refine ⟨_, _, pre26 _ ?_, hrun, hended, _, _, rfl, ?_, ⟨_, rfl⟩, hW, hsame.mono (by decide) (by decide)⟩
            · show Steps p.tables e below (T25.setTop (mkF m 125 #[iv p1, iv k, rv w_DOUBLE, iv 1] [(.int 1)])) _
              exact retN X25 hx (t := .boolean) Bd.returns (by simp) (hb hby at_125) hr
            · show Q_rmL Z p1 w_TEXT w_INT w_LONG w_FLOAT w_DOUBLE w_DATETIME w_BOOLEAN w_DATE h0 n0 _ T25.heap _
              rw [e25q]
              exact ⟨rfl, N25⟩
          · have pre27 : ∀ t_, Go p e below s₁ (mkF m 79 #[iv p1, iv k, .unset, .unset] [(.int 5), (.int k)]) t_ → Go p e below s₁ (entryFrame m #[(.int p1)] maxLocals) t_ := fun t_ kt => pre22 _ (by
                show Go p e below s₁ (mkF m 65 #[iv p1, iv k, .unset, .unset] [(.int 4), (.int k)]) _
                refine XS.icmpYes X0.here hx rfl (pc0 := 65) (pc' := 77) rfl (hb hby at_65) rfl (feq hc65_23).2 (by decide) (by decide) ?_
                show Go p e below s₁ (mkF m 77 #[iv p1, iv k, .unset, .unset] []) _
                refine XS.iloadN X0.here hx rfl (hb hby at_77) rfl ?_
                show Go p e below s₁ (mkF m 78 #[iv p1, iv k, .unset, .unset] [(.int k)]) _
                refine XS.iconst X0.here hx rfl (hb hby at_78) ?_
                show Go p e below s₁ (mkF m 79 #[iv p1, iv k, .unset, .unset] [(.int 5), (.int k)]) _
                exact kt)
            by_cases hc79_28 : k = (5 : Int32)
            · obtain ⟨T29, X29, e29, st29⟩ := getS2 X0 hx hZ hown (host := "") (Or.inl (hwi hw 31 rfl)) Via.refl e0 S_DATE (g := (mkF m 82 #[iv p1, iv k, .unset, .unset] [])) rfl (hb hby at_82)
              obtain ⟨cq30, kq30, q30a, q30b, q30c⟩ := isOf hZ e29 E_DATE
              obtain ⟨_, _, ⟨T30, L30, k30, n30⟩, -, X30, ⟨Lc30, hQ30, l30, y30, z30⟩, st30⟩ := X29.virtualBack hx (y := (⟨"com/example/archstave/archstave/core/model/DataType", "isNumeric", "()Z"⟩ : MethodName)) (z := (⟨"com/example/archstave/archstave/core/model/DataType", "isNumeric", "()Z"⟩ : MethodName)) hown (mvT hZ (hwi hw 4 rfl)) (mvT hZ (hwi hw 5 rfl)) (notFace_of_selects (args := #[]) (mvT hZ (hwi hw 33 rfl))) (mvT hZ (hwi hw 33 rfl)) (mvT hZ (hwi hw 6 rfl)) (by decide) (backOf (W := 0) (rmC l Z a0 hw [] w_DATE w_TEXT w_INT w_LONG w_FLOAT w_DOUBLE w_DATETIME w_BOOLEAN w_DATE h0 n0 Z0 hWd0) hZ (hwi hw 8 rfl) (hwi hw 2 rfl) (by decide) (by decide)) q30a q30c (g := (mkF m 113 #[iv p1, iv k, rv w_DATE, iv 0] [(.ref w_DATE)])) rfl (by rw [hml]; rfl) (Steps.refl _) (argsL := []) (rest := []) (lenOf pd_0 rfl) rfl (by show 2 * 0 + _ ≤ _; exact Nat.le_of_eq rfl) (hb hby at_113) (fun _ _ => ⟨rfl, e29, (by decide : 0 + 0 ≤ _), (by decide : 0 + 0 ≤ _)⟩)
              dsimp only [Pt.U, Pt.locs, Pt.cells, Pt.slots] at X30 l30 y30 z30 st30 hQ30
              subst l30 y30 z30
              obtain ⟨hv30, N30q, e30q⟩ := hQ30
              have N30 := Fr.app N0 N30q
              rw [show (if w_DATE = w_INT ∨ w_DATE = w_LONG ∨ w_DATE = w_FLOAT ∨ w_DATE = w_DOUBLE then (1 : Int32) else 0) = 0 from by simp [(ne_exa E_DATE E_INT (by decide)), (ne_exa E_DATE E_LONG (by decide)), (ne_exa E_DATE E_FLOAT (by decide)), (ne_exa E_DATE E_DOUBLE (by decide))]] at hv30
              subst hv30
              have pre31 : ∀ t_, Go p e below T30 (mkF m 125 #[iv p1, iv k, rv w_DATE, iv 0] [(.int 1)]) t_ → Go p e below s₁ (entryFrame m #[(.int p1)] maxLocals) t_ := fun t_ kt => pre27 _ (by
                  show Go p e below s₁ (mkF m 79 #[iv p1, iv k, .unset, .unset] [(.int 5), (.int k)]) _
                  refine XS.icmpNo X0.here hx rfl (hb hby at_79) rfl (teq hc79_28).2 ?_
                  show Go p e below s₁ (mkF m 82 #[iv p1, iv k, .unset, .unset] []) _
                  refine st29 _ ?_
                  show Go p e below T29 (mkF m 85 #[iv p1, iv k, .unset, .unset] [(.ref w_DATE)]) _
                  refine XS.astoreN X29.here hx rfl (hb hby at_85) rfl rfl (l' := #[iv p1, iv k, rv w_DATE, .unset]) rfl ?_
                  show Go p e below T29 (mkF m 86 #[iv p1, iv k, rv w_DATE, .unset] []) _
                  refine XS.iconst X29.here hx rfl (hb hby at_86) ?_
                  show Go p e below T29 (mkF m 87 #[iv p1, iv k, rv w_DATE, .unset] [(.int 0)]) _
                  refine XS.istoreN X29.here hx rfl (hb hby at_87) rfl (l' := #[iv p1, iv k, rv w_DATE, iv 0]) rfl ?_
                  show Go p e below T29 (mkF m 88 #[iv p1, iv k, rv w_DATE, iv 0] []) _
                  refine XS.goto X29.here hx rfl (pc0 := 88) (pc' := 112) rfl (hb hby at_88) (by decide) (by decide) ?_
                  show Go p e below T29 (mkF m 112 #[iv p1, iv k, rv w_DATE, iv 0] []) _
                  refine XS.aloadN X29.here hx rfl (hb hby at_112) rfl rfl ?_
                  show Go p e below T29 (mkF m 113 #[iv p1, iv k, rv w_DATE, iv 0] [(.ref w_DATE)]) _
                  refine st30.trans ?_
                  show Go p e below T30 (mkF m 116 #[iv p1, iv k, rv w_DATE, iv 0] [(.int 0)]) _
                  refine XS.iloadN X30.here hx rfl (hb hby at_116) rfl ?_
                  show Go p e below T30 (mkF m 117 #[iv p1, iv k, rv w_DATE, iv 0] [(.int 0), (.int 0)]) _
                  refine XS.icmpNo X30.here hx rfl (hb hby at_117) rfl (teq ((by decide) : (0 : Int32) = (0 : Int32))).2 ?_
                  show Go p e below T30 (mkF m 120 #[iv p1, iv k, rv w_DATE, iv 0] []) _
                  refine XS.iconst X30.here hx rfl (hb hby at_120) ?_
                  show Go p e below T30 (mkF m 121 #[iv p1, iv k, rv w_DATE, iv 0] [(.int 1)]) _
                  refine XS.goto X30.here hx rfl (pc0 := 121) (pc' := 125) rfl (hb hby at_121) (by decide) (by decide) ?_
                  show Go p e below T30 (mkF m 125 #[iv p1, iv k, rv w_DATE, iv 0] [(.int 1)]) _
                  exact kt)
              obtain ⟨fs, hr, hrun, hended, hW, hsame⟩ := X30.leave (v := some (.int 1)) (fun h => by rw [Bd.returns] at h; cases h)
              refine ⟨_, _, pre31 _ ?_, hrun, hended, _, _, rfl, ?_, ⟨_, rfl⟩, hW, hsame.mono (by decide) (by decide)⟩
              · show Steps p.tables e below (T30.setTop (mkF m 125 #[iv p1, iv k, rv w_DATE, iv 0] [(.int 1)])) _
                exact retN X30 hx (t := .boolean) Bd.returns (by simp) (hb hby at_125) hr
              · show Q_rmL Z p1 w_TEXT w_INT w_LONG w_FLOAT w_DOUBLE w_DATETIME w_BOOLEAN w_DATE h0 n0 _ T30.heap _
                rw [e30q]
                exact ⟨rfl, N30⟩
            · have pre32 : ∀ t_, Go p e below s₁ (mkF m 94 #[iv p1, iv k, .unset, .unset] [(.int 6), (.int k)]) t_ → Go p e below s₁ (entryFrame m #[(.int p1)] maxLocals) t_ := fun t_ kt => pre27 _ (by
                  show Go p e below s₁ (mkF m 79 #[iv p1, iv k, .unset, .unset] [(.int 5), (.int k)]) _
                  refine XS.icmpYes X0.here hx rfl (pc0 := 79) (pc' := 91) rfl (hb hby at_79) rfl (feq hc79_28).2 (by decide) (by decide) ?_
                  show Go p e below s₁ (mkF m 91 #[iv p1, iv k, .unset, .unset] []) _
                  refine XS.iloadN X0.here hx rfl (hb hby at_91) rfl ?_
                  show Go p e below s₁ (mkF m 92 #[iv p1, iv k, .unset, .unset] [(.int k)]) _
                  refine XS.bipush X0.here hx rfl (hb hby at_92) ?_
                  show Go p e below s₁ (mkF m 94 #[iv p1, iv k, .unset, .unset] [(.int 6), (.int k)]) _
                  exact kt)
              by_cases hc94_33 : k = (6 : Int32)
              · obtain ⟨T34, X34, e34, st34⟩ := getS2 X0 hx hZ hown (host := "") (Or.inl (hwi hw 19 rfl)) Via.refl e0 S_DATETIME (g := (mkF m 97 #[iv p1, iv k, .unset, .unset] [])) rfl (hb hby at_97)
                obtain ⟨cq35, kq35, q35a, q35b, q35c⟩ := isOf hZ e34 E_DATETIME
                obtain ⟨_, _, ⟨T35, L35, k35, n35⟩, -, X35, ⟨Lc35, hQ35, l35, y35, z35⟩, st35⟩ := X34.virtualBack hx (y := (⟨"com/example/archstave/archstave/core/model/DataType", "isNumeric", "()Z"⟩ : MethodName)) (z := (⟨"com/example/archstave/archstave/core/model/DataType", "isNumeric", "()Z"⟩ : MethodName)) hown (mvT hZ (hwi hw 4 rfl)) (mvT hZ (hwi hw 5 rfl)) (notFace_of_selects (args := #[]) (mvT hZ (hwi hw 21 rfl))) (mvT hZ (hwi hw 21 rfl)) (mvT hZ (hwi hw 6 rfl)) (by decide) (backOf (W := 0) (rmC l Z a0 hw [] w_DATETIME w_TEXT w_INT w_LONG w_FLOAT w_DOUBLE w_DATETIME w_BOOLEAN w_DATE h0 n0 Z0 hWd0) hZ (hwi hw 8 rfl) (hwi hw 2 rfl) (by decide) (by decide)) q35a q35c (g := (mkF m 113 #[iv p1, iv k, rv w_DATETIME, iv 0] [(.ref w_DATETIME)])) rfl (by rw [hml]; rfl) (Steps.refl _) (argsL := []) (rest := []) (lenOf pd_0 rfl) rfl (by show 2 * 0 + _ ≤ _; exact Nat.le_of_eq rfl) (hb hby at_113) (fun _ _ => ⟨rfl, e34, (by decide : 0 + 0 ≤ _), (by decide : 0 + 0 ≤ _)⟩)
                dsimp only [Pt.U, Pt.locs, Pt.cells, Pt.slots] at X35 l35 y35 z35 st35 hQ35
                subst l35 y35 z35
                obtain ⟨hv35, N35q, e35q⟩ := hQ35
                have N35 := Fr.app N0 N35q
                rw [show (if w_DATETIME = w_INT ∨ w_DATETIME = w_LONG ∨ w_DATETIME = w_FLOAT ∨ w_DATETIME = w_DOUBLE then (1 : Int32) else 0) = 0 from by simp [(ne_exa E_DATETIME E_INT (by decide)), (ne_exa E_DATETIME E_LONG (by decide)), (ne_exa E_DATETIME E_FLOAT (by decide)), (ne_exa E_DATETIME E_DOUBLE (by decide))]] at hv35
                subst hv35
                have pre36 : ∀ t_, Go p e below T35 (mkF m 125 #[iv p1, iv k, rv w_DATETIME, iv 0] [(.int 1)]) t_ → Go p e below s₁ (entryFrame m #[(.int p1)] maxLocals) t_ := fun t_ kt => pre32 _ (by
                    show Go p e below s₁ (mkF m 94 #[iv p1, iv k, .unset, .unset] [(.int 6), (.int k)]) _
                    refine XS.icmpNo X0.here hx rfl (hb hby at_94) rfl (teq hc94_33).2 ?_
                    show Go p e below s₁ (mkF m 97 #[iv p1, iv k, .unset, .unset] []) _
                    refine st34 _ ?_
                    show Go p e below T34 (mkF m 100 #[iv p1, iv k, .unset, .unset] [(.ref w_DATETIME)]) _
                    refine XS.astoreN X34.here hx rfl (hb hby at_100) rfl rfl (l' := #[iv p1, iv k, rv w_DATETIME, .unset]) rfl ?_
                    show Go p e below T34 (mkF m 101 #[iv p1, iv k, rv w_DATETIME, .unset] []) _
                    refine XS.iconst X34.here hx rfl (hb hby at_101) ?_
                    show Go p e below T34 (mkF m 102 #[iv p1, iv k, rv w_DATETIME, .unset] [(.int 0)]) _
                    refine XS.istoreN X34.here hx rfl (hb hby at_102) rfl (l' := #[iv p1, iv k, rv w_DATETIME, iv 0]) rfl ?_
                    show Go p e below T34 (mkF m 103 #[iv p1, iv k, rv w_DATETIME, iv 0] []) _
                    refine XS.goto X34.here hx rfl (pc0 := 103) (pc' := 112) rfl (hb hby at_103) (by decide) (by decide) ?_
                    show Go p e below T34 (mkF m 112 #[iv p1, iv k, rv w_DATETIME, iv 0] []) _
                    refine XS.aloadN X34.here hx rfl (hb hby at_112) rfl rfl ?_
                    show Go p e below T34 (mkF m 113 #[iv p1, iv k, rv w_DATETIME, iv 0] [(.ref w_DATETIME)]) _
                    refine st35.trans ?_
                    show Go p e below T35 (mkF m 116 #[iv p1, iv k, rv w_DATETIME, iv 0] [(.int 0)]) _
                    refine XS.iloadN X35.here hx rfl (hb hby at_116) rfl ?_
                    show Go p e below T35 (mkF m 117 #[iv p1, iv k, rv w_DATETIME, iv 0] [(.int 0), (.int 0)]) _
                    refine XS.icmpNo X35.here hx rfl (hb hby at_117) rfl (teq ((by decide) : (0 : Int32) = (0 : Int32))).2 ?_
                    show Go p e below T35 (mkF m 120 #[iv p1, iv k, rv w_DATETIME, iv 0] []) _
                    refine XS.iconst X35.here hx rfl (hb hby at_120) ?_
                    show Go p e below T35 (mkF m 121 #[iv p1, iv k, rv w_DATETIME, iv 0] [(.int 1)]) _
                    refine XS.goto X35.here hx rfl (pc0 := 121) (pc' := 125) rfl (hb hby at_121) (by decide) (by decide) ?_
                    show Go p e below T35 (mkF m 125 #[iv p1, iv k, rv w_DATETIME, iv 0] [(.int 1)]) _
                    exact kt)
                obtain ⟨fs, hr, hrun, hended, hW, hsame⟩ := X35.leave (v := some (.int 1)) (fun h => by rw [Bd.returns] at h; cases h)
                refine ⟨_, _, pre36 _ ?_, hrun, hended, _, _, rfl, ?_, ⟨_, rfl⟩, hW, hsame.mono (by decide) (by decide)⟩
                · show Steps p.tables e below (T35.setTop (mkF m 125 #[iv p1, iv k, rv w_DATETIME, iv 0] [(.int 1)])) _
                  exact retN X35 hx (t := .boolean) Bd.returns (by simp) (hb hby at_125) hr
                · show Q_rmL Z p1 w_TEXT w_INT w_LONG w_FLOAT w_DOUBLE w_DATETIME w_BOOLEAN w_DATE h0 n0 _ T35.heap _
                  rw [e35q]
                  exact ⟨rfl, N35⟩
              · obtain ⟨T37, X37, e37, st37⟩ := getS2 X0 hx hZ hown (host := "") (Or.inl (hwi hw 22 rfl)) Via.refl e0 S_BOOLEAN (g := (mkF m 106 #[iv p1, iv k, .unset, .unset] [])) rfl (hb hby at_106)
                obtain ⟨cq38, kq38, q38a, q38b, q38c⟩ := isOf hZ e37 E_BOOLEAN
                obtain ⟨_, _, ⟨T38, L38, k38, n38⟩, -, X38, ⟨Lc38, hQ38, l38, y38, z38⟩, st38⟩ := X37.virtualBack hx (y := (⟨"com/example/archstave/archstave/core/model/DataType", "isNumeric", "()Z"⟩ : MethodName)) (z := (⟨"com/example/archstave/archstave/core/model/DataType", "isNumeric", "()Z"⟩ : MethodName)) hown (mvT hZ (hwi hw 4 rfl)) (mvT hZ (hwi hw 5 rfl)) (notFace_of_selects (args := #[]) (mvT hZ (hwi hw 24 rfl))) (mvT hZ (hwi hw 24 rfl)) (mvT hZ (hwi hw 6 rfl)) (by decide) (backOf (W := 0) (rmC l Z a0 hw [] w_BOOLEAN w_TEXT w_INT w_LONG w_FLOAT w_DOUBLE w_DATETIME w_BOOLEAN w_DATE h0 n0 Z0 hWd0) hZ (hwi hw 8 rfl) (hwi hw 2 rfl) (by decide) (by decide)) q38a q38c (g := (mkF m 113 #[iv p1, iv k, rv w_BOOLEAN, iv 0] [(.ref w_BOOLEAN)])) rfl (by rw [hml]; rfl) (Steps.refl _) (argsL := []) (rest := []) (lenOf pd_0 rfl) rfl (by show 2 * 0 + _ ≤ _; exact Nat.le_of_eq rfl) (hb hby at_113) (fun _ _ => ⟨rfl, e37, (by decide : 0 + 0 ≤ _), (by decide : 0 + 0 ≤ _)⟩)
                dsimp only [Pt.U, Pt.locs, Pt.cells, Pt.slots] at X38 l38 y38 z38 st38 hQ38
                subst l38 y38 z38
                obtain ⟨hv38, N38q, e38q⟩ := hQ38
                have N38 := Fr.app N0 N38q
                rw [show (if w_BOOLEAN = w_INT ∨ w_BOOLEAN = w_LONG ∨ w_BOOLEAN = w_FLOAT ∨ w_BOOLEAN = w_DOUBLE then (1 : Int32) else 0) = 0 from by simp [(ne_exa E_BOOLEAN E_INT (by decide)), (ne_exa E_BOOLEAN E_LONG (by decide)), (ne_exa E_BOOLEAN E_FLOAT (by decide)), (ne_exa E_BOOLEAN E_DOUBLE (by decide))]] at hv38
                subst hv38
                have pre39 : ∀ t_, Go p e below T38 (mkF m 125 #[iv p1, iv k, rv w_BOOLEAN, iv 0] [(.int 1)]) t_ → Go p e below s₁ (entryFrame m #[(.int p1)] maxLocals) t_ := fun t_ kt => pre32 _ (by
                    show Go p e below s₁ (mkF m 94 #[iv p1, iv k, .unset, .unset] [(.int 6), (.int k)]) _
                    refine XS.icmpYes X0.here hx rfl (pc0 := 94) (pc' := 106) rfl (hb hby at_94) rfl (feq hc94_33).2 (by decide) (by decide) ?_
                    show Go p e below s₁ (mkF m 106 #[iv p1, iv k, .unset, .unset] []) _
                    refine st37 _ ?_
                    show Go p e below T37 (mkF m 109 #[iv p1, iv k, .unset, .unset] [(.ref w_BOOLEAN)]) _
                    refine XS.astoreN X37.here hx rfl (hb hby at_109) rfl rfl (l' := #[iv p1, iv k, rv w_BOOLEAN, .unset]) rfl ?_
                    show Go p e below T37 (mkF m 110 #[iv p1, iv k, rv w_BOOLEAN, .unset] []) _
                    refine XS.iconst X37.here hx rfl (hb hby at_110) ?_
                    show Go p e below T37 (mkF m 111 #[iv p1, iv k, rv w_BOOLEAN, .unset] [(.int 0)]) _
                    refine XS.istoreN X37.here hx rfl (hb hby at_111) rfl (l' := #[iv p1, iv k, rv w_BOOLEAN, iv 0]) rfl ?_
                    show Go p e below T37 (mkF m 112 #[iv p1, iv k, rv w_BOOLEAN, iv 0] []) _
                    refine XS.aloadN X37.here hx rfl (hb hby at_112) rfl rfl ?_
                    show Go p e below T37 (mkF m 113 #[iv p1, iv k, rv w_BOOLEAN, iv 0] [(.ref w_BOOLEAN)]) _
                    refine st38.trans ?_
                    show Go p e below T38 (mkF m 116 #[iv p1, iv k, rv w_BOOLEAN, iv 0] [(.int 0)]) _
                    refine XS.iloadN X38.here hx rfl (hb hby at_116) rfl ?_
                    show Go p e below T38 (mkF m 117 #[iv p1, iv k, rv w_BOOLEAN, iv 0] [(.int 0), (.int 0)]) _
                    refine XS.icmpNo X38.here hx rfl (hb hby at_117) rfl (teq ((by decide) : (0 : Int32) = (0 : Int32))).2 ?_
                    show Go p e below T38 (mkF m 120 #[iv p1, iv k, rv w_BOOLEAN, iv 0] []) _
                    refine XS.iconst X38.here hx rfl (hb hby at_120) ?_
                    show Go p e below T38 (mkF m 121 #[iv p1, iv k, rv w_BOOLEAN, iv 0] [(.int 1)]) _
                    refine XS.goto X38.here hx rfl (pc0 := 121) (pc' := 125) rfl (hb hby at_121) (by decide) (by decide) ?_
                    show Go p e below T38 (mkF m 125 #[iv p1, iv k, rv w_BOOLEAN, iv 0] [(.int 1)]) _
                    exact kt)
                obtain ⟨fs, hr, hrun, hended, hW, hsame⟩ := X38.leave (v := some (.int 1)) (fun h => by rw [Bd.returns] at h; cases h)
                refine ⟨_, _, pre39 _ ?_, hrun, hended, _, _, rfl, ?_, ⟨_, rfl⟩, hW, hsame.mono (by decide) (by decide)⟩
                · show Steps p.tables e below (T38.setTop (mkF m 125 #[iv p1, iv k, rv w_BOOLEAN, iv 0] [(.int 1)])) _
                  exact retN X38 hx (t := .boolean) Bd.returns (by simp) (hb hby at_125) hr
                · show Q_rmL Z p1 w_TEXT w_INT w_LONG w_FLOAT w_DOUBLE w_DATETIME w_BOOLEAN w_DATE h0 n0 _ T38.heap _
                  rw [e38q]
                  exact ⟨rfl, N38⟩
set_option maxRecDepth 65536 in
set_option maxHeartbeats 40000000 in
theorem comes_1 {Post : Tables → Env → Array Value → State → Outcome → State → Prop} (hpost : ∀ tb e args s v u, (limb_1_1.after args s (.returned v) u = true ∧ limb_1_2.after args s (.returned v) u = true ∧ True) → FrameEnd s (.returned v) u (Jvm.fieldLocs frame_1_writes args s ++ Jvm.arrayLocs frame_1_arrays args s ++ Jvm.staticLocs frame_1_statics s) 0 0 → Post tb e args s (.returned v) u) :
    ArmFor flags0 classFile x code maxLocals ret World_1 tables_1 room_1 Calls_1 rest_1 Pre_1 Post := by
  intro l hfl _ _ p e ha hc hk s m args below hf hA hF happ hP
  obtain ⟨hcalls, hrest, hpre⟩ := hP
  obtain ⟨-, -, -, hnamed, -, -, -, hat⟩ := (Spec.applies_iff hf).mp happ
  obtain ⟨hg, hn⟩ := and_e (Cond.before_iff.mp (show (Jvm.Cond.and given_1 narrow_1).before args s = true from hpre))
  obtain ⟨g1, g2⟩ := and_e hg
  obtain ⟨w0, rfl⟩ : ∃ w0 : Value, args = #[w0] := by
    have hs : args.size = 1 := by simpa [Cond.value, given_1] using g1
    obtain ⟨L⟩ := args
    match L, hs with
    | [w0], _ => exact ⟨w0, rfl⟩
  have hw := fun d (hd : d ∈ tables_1) => atoms_spec (ws := Jvm.Cond.code x code maxLocals ret :: tables_1) hat d (List.mem_cons_of_mem _ hd)
  have hfit : Fit s := fun {y c} hc i hi => by
    obtain ⟨ha, rfl⟩ := Array.getElem?_eq_some_iff.mp hc
    have q := List.all_eq_true.mp ((Array.all_eq_true_iff_forall_mem.mp hF) _ (Array.getElem_mem ha)) i (List.mem_range.mpr hi)
    simpa [Array.getElem?_eq_getElem hi] using q
  obtain ⟨i0, ei0⟩ := is_v g2
  obtain rfl : w0 = (.int i0) := Option.some.inj ei0
  obtain ⟨g3, g4⟩ := and_e hn
  obtain ⟨g5, g6⟩ := and_e g4
  obtain ⟨g7, g8⟩ := and_e g6
  obtain ⟨g9, g10⟩ := and_e g8
  obtain ⟨g11, g12⟩ := and_e g10
  obtain ⟨g13, g14⟩ := and_e g12
  obtain ⟨g15, g16⟩ := and_e g14
  obtain ⟨w_TEXT, ev_TEXT⟩ := exa_v g3
  have E_TEXT : Exa s s.heap w_TEXT "com/example/archstave/archstave/core/model/DataType$1" := Exa.start ev_TEXT g3
  have S_TEXT : Sta s s.heap "com/example/archstave/archstave/core/model/DataType" "TEXT" "Lcom/example/archstave/archstave/core/model/DataType;" (.ref w_TEXT) := Sta.start ev_TEXT (Or.inr ⟨(hwi hw 2 rfl), (hwi hw 3 rfl)⟩)
  obtain ⟨w_INT, ev_INT⟩ := exa_v g5
  have E_INT : Exa s s.heap w_INT "com/example/archstave/archstave/core/model/DataType$2" := Exa.start ev_INT g5
  have S_INT : Sta s s.heap "com/example/archstave/archstave/core/model/DataType" "INT" "Lcom/example/archstave/archstave/core/model/DataType;" (.ref w_INT) := Sta.start ev_INT (Or.inr ⟨(hwi hw 2 rfl), (hwi hw 10 rfl)⟩)
  obtain ⟨w_LONG, ev_LONG⟩ := exa_v g7
  have E_LONG : Exa s s.heap w_LONG "com/example/archstave/archstave/core/model/DataType$3" := Exa.start ev_LONG g7
  have S_LONG : Sta s s.heap "com/example/archstave/archstave/core/model/DataType" "LONG" "Lcom/example/archstave/archstave/core/model/DataType;" (.ref w_LONG) := Sta.start ev_LONG (Or.inr ⟨(hwi hw 2 rfl), (hwi hw 12 rfl)⟩)
  obtain ⟨w_FLOAT, ev_FLOAT⟩ := exa_v g9
  have E_FLOAT : Exa s s.heap w_FLOAT "com/example/archstave/archstave/core/model/DataType$4" := Exa.start ev_FLOAT g9
  have S_FLOAT : Sta s s.heap "com/example/archstave/archstave/core/model/DataType" "FLOAT" "Lcom/example/archstave/archstave/core/model/DataType;" (.ref w_FLOAT) := Sta.start ev_FLOAT (Or.inr ⟨(hwi hw 2 rfl), (hwi hw 14 rfl)⟩)
  obtain ⟨w_DOUBLE, ev_DOUBLE⟩ := exa_v g11
  have E_DOUBLE : Exa s s.heap w_DOUBLE "com/example/archstave/archstave/core/model/DataType$5" := Exa.start ev_DOUBLE g11
  have S_DOUBLE : Sta s s.heap "com/example/archstave/archstave/core/model/DataType" "DOUBLE" "Lcom/example/archstave/archstave/core/model/DataType;" (.ref w_DOUBLE) := Sta.start ev_DOUBLE (Or.inr ⟨(hwi hw 2 rfl), (hwi hw 16 rfl)⟩)
  obtain ⟨w_DATETIME, ev_DATETIME⟩ := exa_v g13
  have E_DATETIME : Exa s s.heap w_DATETIME "com/example/archstave/archstave/core/model/DataType$7" := Exa.start ev_DATETIME g13
  have S_DATETIME : Sta s s.heap "com/example/archstave/archstave/core/model/DataType" "DATETIME" "Lcom/example/archstave/archstave/core/model/DataType;" (.ref w_DATETIME) := Sta.start ev_DATETIME (Or.inr ⟨(hwi hw 2 rfl), (hwi hw 20 rfl)⟩)
  obtain ⟨w_BOOLEAN, ev_BOOLEAN⟩ := exa_v g15
  have E_BOOLEAN : Exa s s.heap w_BOOLEAN "com/example/archstave/archstave/core/model/DataType$8" := Exa.start ev_BOOLEAN g15
  have S_BOOLEAN : Sta s s.heap "com/example/archstave/archstave/core/model/DataType" "BOOLEAN" "Lcom/example/archstave/archstave/core/model/DataType;" (.ref w_BOOLEAN) := Sta.start ev_BOOLEAN (Or.inr ⟨(hwi hw 2 rfl), (hwi hw 23 rfl)⟩)
  obtain ⟨w_DATE, ev_DATE⟩ := exa_v g16
  have E_DATE : Exa s s.heap w_DATE "com/example/archstave/archstave/core/model/DataType$6" := Exa.start ev_DATE g16
  have S_DATE : Sta s s.heap "com/example/archstave/archstave/core/model/DataType" "DATE" "Lcom/example/archstave/archstave/core/model/DataType;" (.ref w_DATE) := Sta.start ev_DATE (Or.inr ⟨(hwi hw 2 rfl), (hwi hw 32 rfl)⟩)
  obtain ⟨n, o, h1, h2, h3, _, L, rfl, ⟨rfl, N⟩, hq⟩ := rmL l s _ hw tables_1 i0 w_TEXT w_INT w_LONG w_FLOAT w_DOUBLE w_DATETIME w_BOOLEAN w_DATE s.heap s.heap.size (Nat.le_refl _) ⟨⟨S_TEXT, E_TEXT⟩, ⟨S_INT, E_INT⟩, ⟨S_LONG, E_LONG⟩, ⟨S_FLOAT, E_FLOAT⟩, ⟨S_DOUBLE, E_DOUBLE⟩, ⟨S_DATETIME, E_DATETIME⟩, ⟨S_BOOLEAN, E_BOOLEAN⟩, ⟨S_DATE, E_DATE⟩⟩ p e ha hc hk s m _ below hf ((Spec.applies_iff_loose hf).mp happ).1 ⟨rfl, State.Warmed39.refl s, rfl⟩ trivial
  refine ⟨n, _, h1, h2, h3, hpost _ _ _ _ _ _ ⟨Cond.after_iff.mpr rfl, Cond.after_iff.mpr (eq_i res_at (Term.int_eval (1)) rfl), trivial⟩ ⟨hq.1, hq.2.1, (hq.2.2.sift fun y hy => Or.inr (N y hy)).mono (by decide) (by decide)⟩⟩
theorem main_1_1 : Claimed_1_1 := comes_1 fun _ _ _ _ _ _ h hF => ⟨h.1, hF⟩
theorem main_1_2 : Claimed_1_2 := comes_1 fun _ _ _ _ _ _ h hF => ⟨h.2.1, hF⟩
end Jvm.Pilot.@@N@@
namespace Jvm.Pilot.@@N@@
open Jvm Jvm.ClassFile Sem Op Lib Jvm.Free Jvm.Stand Jvm.Pilot.@@N@@.Jvm.D
/-! MADE BY PROGRAM (witnessworld.py) out of the Statement's table words and the real class files: 20 classes; the members and pool entries that the words name. The judged class is class 1, her method 1. -/
namespace start1
open Jvm.ClassFile
def u (s : String) : CpInfo := .utf8 (stringToUtf16 s)
/-- a pool by its gaps: so many unusable entries, then the entry; so many at the end -/
def gap : Nat → List CpInfo → List CpInfo
  | 0, r => r
  | n + 1, r => .unusable :: gap n r
def poolList (es : List (Nat × CpInfo)) (last : Nat) : List CpInfo := es.foldr (fun e r => gap e.1 (e.2 :: r)) (gap last [])
def pool (es : List (Nat × CpInfo)) (last : Nat) : Array CpInfo := ⟨poolList es last⟩
def fileOf (pool : Array CpInfo) (this : Nat) (attrs : Array Attribute := #[]) (ms : Array MethodInfo := #[]) (fl : Nat := 33) (sup : Nat := 0) (ifs : Array Nat := #[]) (fds : Array FieldInfo := #[]) : ClassFile where
  minorVersion := 0
  majorVersion := 65
  constantPool := pool
  accessFlags := fl
  thisClass := this
  superClass := sup
  interfaces := ifs
  fields := fds
  methods := ms
  attributes := attrs
def plain (name : String) (sup : Option ClassId) : Class where
  name := name
  kind := .ordinary
  loader := none
  accessFlags := 33
  super := sup
  interfaces := #[]
  cf := none
  fields := #[]
  methods := #[]
  instanceTypes := #[]
  staticTypes := #[]
  resolved := #[]
  callSites := []
  init := .initialized
  statics := none
  mirror := none

def pool0 : Array CpInfo := pool [(5, u "<init>"), (0, u "()V"), (1, .class_ 10), (1, u "java/lang/Object")] 113

def k0m0 : Method := { name := "<init>", desc := "()V", sig := { parameters := [], returnType := none }, accessFlags := 1, code := none }
/-- java/lang/Object -/
def k0 : Class := { plain "java/lang/Object" none with
  accessFlags := 33
  interfaces := #[]
  cf := some (fileOf pool0 8 #[] #[{ accessFlags := 1, nameIndex := 5, descriptorIndex := 6, attributes := #[] }] 33 0 #[] #[])
  fields := #[]
  methods := #[k0m0]
  instanceTypes := #[]
  staticTypes := #[]
  resolved := Array.replicate 124 none
  statics := none }

def pool1 : Array CpInfo := pool [(2, .class_ 4), (1, u "java/lang/Object"), (0, u "<init>"), (0, u "()V"), (0, .integer 2147483647), (0, .fieldref 9 10), (0, .class_ 11), (0, .nameAndType 12 13), (0, u "com/example/archstave/archstave/core/model/DataType"), (0, u "TEXT"), (0, u "Lcom/example/archstave/archstave/core/model/DataType;"), (0, .fieldref 9 15), (0, .nameAndType 16 13), (0, u "INT"), (0, .fieldref 9 18), (0, .nameAndType 19 13), (0, u "LONG"), (0, .fieldref 9 21), (0, .nameAndType 22 13), (0, u "FLOAT"), (0, .fieldref 9 24), (0, .nameAndType 25 13), (0, u "DOUBLE"), (0, .fieldref 9 27), (0, .nameAndType 28 13), (0, u "DATE"), (0, .fieldref 9 30), (0, .nameAndType 31 13), (0, u "DATETIME"), (0, .fieldref 9 33), (0, .nameAndType 34 13), (0, u "BOOLEAN"), (0, .methodref 9 36), (0, .nameAndType 37 38), (0, u "isNumeric"), (0, u "()Z"), (0, .class_ 40), (0, u "com/example/archstave/archstave/core/model/DataTypeIsNumericPinLaw"), (2, u "law"), (0, u "(I)Z")] 3

def k1m0 : Method := { name := "<init>", desc := "()V", sig := { parameters := [], returnType := none }, accessFlags := 2, code := none }
def k1c1 : Code := { maxStack := 2, maxLocals := 4, code := code, exceptionTable := #[], attributes := #[] }
def k1m1 : Method := { name := "law", desc := "(I)Z", sig := { parameters := [.int], returnType := some .boolean }, accessFlags := 9, code := some k1c1 }
/-- com/example/archstave/archstave/core/model/DataTypeIsNumericPinLaw -/
def k1 : Class := { plain "com/example/archstave/archstave/core/model/DataTypeIsNumericPinLaw" (some 0) with
  accessFlags := 49
  interfaces := #[]
  cf := some (fileOf pool1 39 #[] #[{ accessFlags := 2, nameIndex := 5, descriptorIndex := 6, attributes := #[] }, { accessFlags := 9, nameIndex := 43, descriptorIndex := 44, attributes := #[] }] 49 2 #[] #[])
  fields := #[]
  methods := #[k1m0, k1m1]
  instanceTypes := #[]
  staticTypes := #[]
  resolved := Array.replicate 48 none
  statics := none }

def pool2 : Array CpInfo := pool [(1, .class_ 2), (0, u "java/lang/constant/Constable"), (0, .class_ 4), (0, u "java/lang/Object")] 6

/-- java/lang/constant/Constable -/
def k2 : Class := { plain "java/lang/constant/Constable" (some 0) with
  accessFlags := 1537
  interfaces := #[]
  cf := some (fileOf pool2 1 #[] #[] 1537 3 #[] #[])
  fields := #[]
  methods := #[]
  instanceTypes := #[]
  staticTypes := #[]
  resolved := Array.replicate 11 none
  statics := none }

def pool3 : Array CpInfo := pool [(1, .class_ 2), (0, u "java/lang/Comparable"), (0, .class_ 4), (0, u "java/lang/Object")] 7

/-- java/lang/Comparable -/
def k3 : Class := { plain "java/lang/Comparable" (some 0) with
  accessFlags := 1537
  interfaces := #[]
  cf := some (fileOf pool3 1 #[] #[] 1537 3 #[] #[])
  fields := #[]
  methods := #[]
  instanceTypes := #[]
  staticTypes := #[]
  resolved := Array.replicate 12 none
  statics := none }

def pool4 : Array CpInfo := pool [(1, .class_ 2), (0, u "java/io/Serializable"), (0, .class_ 4), (0, u "java/lang/Object")] 2

/-- java/io/Serializable -/
def k4 : Class := { plain "java/io/Serializable" (some 0) with
  accessFlags := 1537
  interfaces := #[]
  cf := some (fileOf pool4 1 #[] #[] 1537 3 #[] #[])
  fields := #[]
  methods := #[]
  instanceTypes := #[]
  staticTypes := #[]
  resolved := Array.replicate 7 none
  statics := none }

def pool5 : Array CpInfo := pool [(2, .class_ 4), (1, u "java/lang/Enum"), (0, u "name"), (0, u "Ljava/lang/String;"), (2, u "ordinal"), (0, u "I"), (1, .class_ 14), (1, u "java/lang/Object"), (4, u "hash"), (86, .class_ 108), (1, u "java/lang/Enum$EnumDesc"), (2, .class_ 112), (0, u "java/lang/constant/Constable"), (0, .class_ 114), (0, u "java/lang/Comparable"), (0, .class_ 116), (0, u "java/io/Serializable")] 87

/-- java/lang/Enum -/
def k5 : Class := { plain "java/lang/Enum" (some 0) with
  accessFlags := 1057
  interfaces := #[2, 3, 4]
  cf := some (fileOf pool5 2 #[.nestMembers #[106]] #[] 1057 12 #[111, 113, 115] #[{ accessFlags := 18, nameIndex := 5, descriptorIndex := 6, attributes := #[] }, { accessFlags := 18, nameIndex := 9, descriptorIndex := 10, attributes := #[] }, { accessFlags := 2, nameIndex := 19, descriptorIndex := 10, attributes := #[] }])
  fields := #[{ name := "name", type := (.object "java/lang/String"), accessFlags := 18, slot := 0, constantValue := 0 }, { name := "ordinal", type := .int, accessFlags := 18, slot := 1, constantValue := 0 }, { name := "hash", type := .int, accessFlags := 2, slot := 2, constantValue := 0 }]
  methods := #[]
  instanceTypes := #[(.object "java/lang/String"), .int, .int]
  staticTypes := #[]
  resolved := Array.replicate 204 none
  statics := none }

def pool6 : Array CpInfo := pool [(1, .class_ 2), (0, u "com/example/archstave/archstave/core/model/DataType"), (2, u "TEXT"), (0, u "Lcom/example/archstave/archstave/core/model/DataType;"), (0, .fieldref 1 8), (0, .nameAndType 9 6), (0, u "INT"), (0, .fieldref 1 11), (0, .nameAndType 12 6), (0, u "LONG"), (0, .fieldref 1 14), (0, .nameAndType 15 6), (0, u "FLOAT"), (0, .fieldref 1 17), (0, .nameAndType 18 6), (0, u "DOUBLE"), (2, u "DATE"), (2, u "DATETIME"), (2, u "BOOLEAN"), (2, u "$VALUES"), (0, u "[Lcom/example/archstave/archstave/core/model/DataType;"), (6, .class_ 40), (1, u "java/lang/Enum"), (8, u "qualifiedName"), (0, u "Ljava/lang/String;"), (2, u "requirement"), (140, .class_ 195), (0, u "com/example/archstave/archstave/core/model/DataType$1"), (8, .class_ 205), (0, u "com/example/archstave/archstave/core/model/DataType$2"), (6, .class_ 213), (0, u "com/example/archstave/archstave/core/model/DataType$3"), (6, .class_ 221), (0, u "com/example/archstave/archstave/core/model/DataType$4"), (8, .class_ 231), (0, u "com/example/archstave/archstave/core/model/DataType$5"), (6, .class_ 239), (0, u "com/example/archstave/archstave/core/model/DataType$6"), (6, .class_ 247), (0, u "com/example/archstave/archstave/core/model/DataType$7"), (6, .class_ 255), (0, u "com/example/archstave/archstave/core/model/DataType$8"), (29, u "DATE_FORM"), (0, u "Ljava/time/format/DateTimeFormatter;"), (14, u "DATETIME_FORM"), (10, u "isNumeric"), (0, u "()Z")] 61

def k6c0 : Code := { maxStack := 2, maxLocals := 1, code := prog_37_method_8_code, exceptionTable := #[], attributes := #[] }
def k6m0 : Method := { name := "isNumeric", desc := "()Z", sig := { parameters := [], returnType := some .boolean }, accessFlags := 1, code := some k6c0 }
/-- com/example/archstave/archstave/core/model/DataType -/
def k6 : Class := { plain "com/example/archstave/archstave/core/model/DataType" (some 5) with
  accessFlags := 17441
  interfaces := #[]
  cf := some (fileOf pool6 1 #[.nestMembers #[254, 246, 238, 230, 220, 212, 204, 194]] #[{ accessFlags := 1, nameIndex := 312, descriptorIndex := 313, attributes := #[] }] 17441 38 #[] #[{ accessFlags := 16409, nameIndex := 5, descriptorIndex := 6, attributes := #[] }, { accessFlags := 16409, nameIndex := 9, descriptorIndex := 6, attributes := #[] }, { accessFlags := 16409, nameIndex := 12, descriptorIndex := 6, attributes := #[] }, { accessFlags := 16409, nameIndex := 15, descriptorIndex := 6, attributes := #[] }, { accessFlags := 16409, nameIndex := 18, descriptorIndex := 6, attributes := #[] }, { accessFlags := 16409, nameIndex := 21, descriptorIndex := 6, attributes := #[] }, { accessFlags := 16409, nameIndex := 24, descriptorIndex := 6, attributes := #[] }, { accessFlags := 16409, nameIndex := 27, descriptorIndex := 6, attributes := #[] }, { accessFlags := 26, nameIndex := 285, descriptorIndex := 286, attributes := #[] }, { accessFlags := 26, nameIndex := 301, descriptorIndex := 286, attributes := #[] }, { accessFlags := 18, nameIndex := 49, descriptorIndex := 50, attributes := #[] }, { accessFlags := 18, nameIndex := 53, descriptorIndex := 50, attributes := #[] }, { accessFlags := 4122, nameIndex := 30, descriptorIndex := 31, attributes := #[] }])
  fields := #[{ name := "TEXT", type := (.object "com/example/archstave/archstave/core/model/DataType"), accessFlags := 16409, slot := 0, constantValue := 0 }, { name := "INT", type := (.object "com/example/archstave/archstave/core/model/DataType"), accessFlags := 16409, slot := 1, constantValue := 0 }, { name := "LONG", type := (.object "com/example/archstave/archstave/core/model/DataType"), accessFlags := 16409, slot := 2, constantValue := 0 }, { name := "FLOAT", type := (.object "com/example/archstave/archstave/core/model/DataType"), accessFlags := 16409, slot := 3, constantValue := 0 }, { name := "DOUBLE", type := (.object "com/example/archstave/archstave/core/model/DataType"), accessFlags := 16409, slot := 4, constantValue := 0 }, { name := "DATE", type := (.object "com/example/archstave/archstave/core/model/DataType"), accessFlags := 16409, slot := 5, constantValue := 0 }, { name := "DATETIME", type := (.object "com/example/archstave/archstave/core/model/DataType"), accessFlags := 16409, slot := 6, constantValue := 0 }, { name := "BOOLEAN", type := (.object "com/example/archstave/archstave/core/model/DataType"), accessFlags := 16409, slot := 7, constantValue := 0 }, { name := "DATE_FORM", type := (.object "java/time/format/DateTimeFormatter"), accessFlags := 26, slot := 8, constantValue := 0 }, { name := "DATETIME_FORM", type := (.object "java/time/format/DateTimeFormatter"), accessFlags := 26, slot := 9, constantValue := 0 }, { name := "qualifiedName", type := (.object "java/lang/String"), accessFlags := 18, slot := 3, constantValue := 0 }, { name := "requirement", type := (.object "java/lang/String"), accessFlags := 18, slot := 4, constantValue := 0 }, { name := "$VALUES", type := (.array (.object "com/example/archstave/archstave/core/model/DataType")), accessFlags := 4122, slot := 10, constantValue := 0 }]
  methods := #[k6m0]
  instanceTypes := #[(.object "java/lang/String"), .int, .int, (.object "java/lang/String"), (.object "java/lang/String")]
  staticTypes := #[(.object "com/example/archstave/archstave/core/model/DataType"), (.object "com/example/archstave/archstave/core/model/DataType"), (.object "com/example/archstave/archstave/core/model/DataType"), (.object "com/example/archstave/archstave/core/model/DataType"), (.object "com/example/archstave/archstave/core/model/DataType"), (.object "com/example/archstave/archstave/core/model/DataType"), (.object "com/example/archstave/archstave/core/model/DataType"), (.object "com/example/archstave/archstave/core/model/DataType"), (.object "java/time/format/DateTimeFormatter"), (.object "java/time/format/DateTimeFormatter"), (.array (.object "com/example/archstave/archstave/core/model/DataType"))]
  resolved := Array.replicate 375 none
  statics := some 0 }

def pool7 : Array CpInfo := pool [(2, .class_ 4), (1, u "com/example/archstave/archstave/core/model/DataType"), (14, .class_ 20), (0, u "com/example/archstave/archstave/core/model/DataType$1")] 15

/-- com/example/archstave/archstave/core/model/DataType$1 -/
def k7 : Class := { plain "com/example/archstave/archstave/core/model/DataType$1" (some 6) with
  accessFlags := 16432
  interfaces := #[]
  cf := some (fileOf pool7 19 #[.nestHost 2] #[] 16432 2 #[] #[])
  fields := #[]
  methods := #[]
  instanceTypes := #[(.object "java/lang/String"), .int, .int, (.object "java/lang/String"), (.object "java/lang/String")]
  staticTypes := #[]
  resolved := Array.replicate 36 none
  statics := none }

def pool8 : Array CpInfo := pool [(2, .class_ 4), (1, u "com/example/archstave/archstave/core/model/DataType"), (14, .class_ 20), (0, u "com/example/archstave/archstave/core/model/DataType$4")] 15

/-- com/example/archstave/archstave/core/model/DataType$4 -/
def k8 : Class := { plain "com/example/archstave/archstave/core/model/DataType$4" (some 6) with
  accessFlags := 16432
  interfaces := #[]
  cf := some (fileOf pool8 19 #[.nestHost 2] #[] 16432 2 #[] #[])
  fields := #[]
  methods := #[]
  instanceTypes := #[(.object "java/lang/String"), .int, .int, (.object "java/lang/String"), (.object "java/lang/String")]
  staticTypes := #[]
  resolved := Array.replicate 36 none
  statics := none }

def pool9 : Array CpInfo := pool [(2, .class_ 4), (1, u "com/example/archstave/archstave/core/model/DataType"), (23, .class_ 30), (1, u "com/example/archstave/archstave/core/model/DataType$7")] 45

/-- com/example/archstave/archstave/core/model/DataType$7 -/
def k9 : Class := { plain "com/example/archstave/archstave/core/model/DataType$7" (some 6) with
  accessFlags := 16432
  interfaces := #[]
  cf := some (fileOf pool9 28 #[.nestHost 2] #[] 16432 2 #[] #[])
  fields := #[]
  methods := #[]
  instanceTypes := #[(.object "java/lang/String"), .int, .int, (.object "java/lang/String"), (.object "java/lang/String")]
  staticTypes := #[]
  resolved := Array.replicate 76 none
  statics := none }

def pool10 : Array CpInfo := pool [(2, .class_ 4), (1, u "com/example/archstave/archstave/core/model/DataType"), (42, .class_ 48), (0, u "com/example/archstave/archstave/core/model/DataType$8")] 15

/-- com/example/archstave/archstave/core/model/DataType$8 -/
def k10 : Class := { plain "com/example/archstave/archstave/core/model/DataType$8" (some 6) with
  accessFlags := 16432
  interfaces := #[]
  cf := some (fileOf pool10 47 #[.nestHost 2] #[] 16432 2 #[] #[])
  fields := #[]
  methods := #[]
  instanceTypes := #[(.object "java/lang/String"), .int, .int, (.object "java/lang/String"), (.object "java/lang/String")]
  staticTypes := #[]
  resolved := Array.replicate 64 none
  statics := none }

def pool11 : Array CpInfo := pool [(2, .class_ 4), (1, u "com/example/archstave/archstave/core/model/DataType"), (16, .class_ 22), (0, u "com/example/archstave/archstave/core/model/DataType$3")] 15

/-- com/example/archstave/archstave/core/model/DataType$3 -/
def k11 : Class := { plain "com/example/archstave/archstave/core/model/DataType$3" (some 6) with
  accessFlags := 16432
  interfaces := #[]
  cf := some (fileOf pool11 21 #[.nestHost 2] #[] 16432 2 #[] #[])
  fields := #[]
  methods := #[]
  instanceTypes := #[(.object "java/lang/String"), .int, .int, (.object "java/lang/String"), (.object "java/lang/String")]
  staticTypes := #[]
  resolved := Array.replicate 38 none
  statics := none }

def pool12 : Array CpInfo := pool [(2, .class_ 4), (1, u "com/example/archstave/archstave/core/model/DataType"), (16, .class_ 22), (0, u "com/example/archstave/archstave/core/model/DataType$2")] 15

/-- com/example/archstave/archstave/core/model/DataType$2 -/
def k12 : Class := { plain "com/example/archstave/archstave/core/model/DataType$2" (some 6) with
  accessFlags := 16432
  interfaces := #[]
  cf := some (fileOf pool12 21 #[.nestHost 2] #[] 16432 2 #[] #[])
  fields := #[]
  methods := #[]
  instanceTypes := #[(.object "java/lang/String"), .int, .int, (.object "java/lang/String"), (.object "java/lang/String")]
  staticTypes := #[]
  resolved := Array.replicate 38 none
  statics := none }

def pool13 : Array CpInfo := pool [(2, .class_ 4), (1, u "com/example/archstave/archstave/core/model/DataType"), (14, .class_ 20), (0, u "com/example/archstave/archstave/core/model/DataType$5")] 15

/-- com/example/archstave/archstave/core/model/DataType$5 -/
def k13 : Class := { plain "com/example/archstave/archstave/core/model/DataType$5" (some 6) with
  accessFlags := 16432
  interfaces := #[]
  cf := some (fileOf pool13 19 #[.nestHost 2] #[] 16432 2 #[] #[])
  fields := #[]
  methods := #[]
  instanceTypes := #[(.object "java/lang/String"), .int, .int, (.object "java/lang/String"), (.object "java/lang/String")]
  staticTypes := #[]
  resolved := Array.replicate 36 none
  statics := none }

def pool14 : Array CpInfo := pool [(2, .class_ 4), (1, u "com/example/archstave/archstave/core/model/DataType"), (13, .class_ 20), (1, u "com/example/archstave/archstave/core/model/DataType$6")] 37

/-- com/example/archstave/archstave/core/model/DataType$6 -/
def k14 : Class := { plain "com/example/archstave/archstave/core/model/DataType$6" (some 6) with
  accessFlags := 16432
  interfaces := #[]
  cf := some (fileOf pool14 18 #[.nestHost 2] #[] 16432 2 #[] #[])
  fields := #[]
  methods := #[]
  instanceTypes := #[(.object "java/lang/String"), .int, .int, (.object "java/lang/String"), (.object "java/lang/String")]
  staticTypes := #[]
  resolved := Array.replicate 58 none
  statics := none }

def pool15 : Array CpInfo := pool [(1, u "java/lang/Cloneable"), (0, .class_ 1), (0, u "java/lang/Object"), (0, .class_ 3)] 3

/-- java/lang/Cloneable -/
def k15 : Class := { plain "java/lang/Cloneable" (some 0) with
  accessFlags := 1537
  interfaces := #[]
  cf := some (fileOf pool15 2 #[] #[] 1537 4 #[] #[])
  fields := #[]
  methods := #[]
  instanceTypes := #[]
  staticTypes := #[]
  resolved := Array.replicate 8 none
  statics := none }

/-- the primitive byte -/
def k16 : Class := { plain "byte" none with kind := .primitive 'B', accessFlags := 0x411 }
/-- [B -/
def k17 : Class := { plain "[B" (some 0) with kind := .array 16 .byte, interfaces := #[15, 4], accessFlags := 1041 }

/-- the primitive int -/
def k18 : Class := { plain "int" none with kind := .primitive 'I', accessFlags := 0x411 }
/-- [I -/
def k19 : Class := { plain "[I" (some 0) with kind := .array 18 .int, interfaces := #[15, 4], accessFlags := 1041 }

def heap : Heap := #[{ cls := 6, slots := #[.ref 1, .ref 2, .ref 3, .ref 4, .ref 5, .ref 8, .ref 6, .ref 7, .null, .null, .null], vm := .statics 6 },
  { cls := 7, slots := #[.null, .int 0, .int 0, .null, .null], vm := .none },
  { cls := 12, slots := #[.null, .int 0, .int 0, .null, .null], vm := .none },
  { cls := 11, slots := #[.null, .int 0, .int 0, .null, .null], vm := .none },
  { cls := 8, slots := #[.null, .int 0, .int 0, .null, .null], vm := .none },
  { cls := 13, slots := #[.null, .int 0, .int 0, .null, .null], vm := .none },
  { cls := 9, slots := #[.null, .int 0, .int 0, .null, .null], vm := .none },
  { cls := 10, slots := #[.null, .int 0, .int 0, .null, .null], vm := .none },
  { cls := 14, slots := #[.null, .int 0, .int 0, .null, .null], vm := .none }]
def classes : Array Class := #[k0, k1, k2, k3, k4, k5, k6, k7, k8, k9, k10, k11, k12, k13, k14, k15, k16, k17, k18, k19]
def interned : List (Array UInt16 × Addr) := []
def slotsUsed : Nat := 51
def theMethod : MethodId := ⟨1, 1⟩
def args0 : Array Value := #[.int 5]
def aboutOver (below : List Frame) : State where
  vm := { classes := classes, interned := interned.toArray }
  heap := heap
  slotsUsed := slotsUsed
  threads := #[{ frames := .invoking theMethod args0 :: below }]
def below0 : List Frame := [.native { method := ⟨0, 0⟩, args := #[] }]
def about1 : State := aboutOver below0
def p0 : Program := .bare "" "" ""
def e0 : Env := launch0.env 0 0 0
theorem w_frames : about1.frames = Frame.invoking theMethod args0 :: below0 := rfl
set_option maxRecDepth 65536 in
theorem w_args : argsFit about1.vm theMethod args0 = true := by decide +kernel
set_option maxRecDepth 65536 in
theorem w_heap : heapFits about1 = true := by decide +kernel
set_option maxRecDepth 65536 in
theorem w_runnable : about1.curStatus? = some .runnable := by decide +kernel
set_option maxRecDepth 65536 in
theorem w_alone : about1.alone = true := by decide +kernel
set_option maxRecDepth 65536 in
theorem w_named : about1.methodNamed? x = some theMethod := by decide +kernel
set_option maxRecDepth 65536 in
theorem w_hears : about1.hears theMethod below0 = true := by decide +kernel
set_option maxRecDepth 65536 in
theorem w_ripe : about1.ripe theMethod args0 below0 = true := by decide +kernel
theorem w_running : about1.status = .running := rfl
set_option maxRecDepth 65536 in
theorem w_room : about1.hasRoom e0.platform room_1 = true :=
  launch0.hasRoom_least _ room_1 (by decide +kernel) (by decide +kernel) (by decide +kernel) (by decide +kernel) (by decide +kernel) (by decide +kernel)
theorem allAtoms_all (ts : List Jvm.Cond) (a : Array Jvm.Value) (st : Jvm.State) : (allAtoms ts).before a st = ts.all (fun c => c.before a st) := by
  induction ts with
  | nil => rfl
  | cons c t ih =>
    show (Jvm.Cond.and c (allAtoms t)).before a st = _
    rw [Jvm.Cond.before_and, ih, List.all_cons]
def words1 : List Jvm.Cond := Jvm.Cond.code x code maxLocals ret :: tables_1
/-- a 'code' word, met by the world's own term for the bytes: nothing is compared byte by byte -/
theorem code_word {y : MethodName} {bytes : ByteArray} {mx : Nat} {rt : Option FieldType} {a : Array Value} {s : State} {m : MethodId} {meth : Method} {c : Code} (h1 : s.methodNamed? y = some m) (h2 : s.vm.method? m = some meth) (h3 : meth.code = some c) (h4 : c.code = bytes)
    (h5 : (c.maxLocals == mx && c.exceptionTable.isEmpty && decide (c.maxStack ≤ mostOperands) && decide (meth.sig.returnType = rt) && !meth.locks && decide (parseMethodDescriptor y.desc = some meth.sig)) = true) : (Jvm.Cond.code y bytes mx rt).before a s = true := by
  simp only [Bool.and_eq_true, beq_iff_eq, Bool.not_eq_true', decide_eq_true_eq] at h5
  obtain ⟨⟨⟨⟨⟨g1, g2⟩, g3⟩, g4⟩, g5⟩, g6⟩ := h5
  simp [Cond.before, Cond.holds, Cond.value, h1, h2, h3, h4, g1, g2, g3, g4, g5, g6]
def isCode : Jvm.Cond → Bool
  | .code _ _ _ _ => true
  | _ => false
theorem all_split {L : List Jvm.Cond} {P : Jvm.Cond → Bool} (h1 : L.all (fun c => isCode c || P c) = true) (h2 : ∀ c ∈ L.filter isCode, P c = true) : L.all P = true := by
  refine List.all_eq_true.mpr fun c hc => ?_
  have h := List.all_eq_true.mp h1 c hc
  rcases Bool.eq_false_or_eq_true (isCode c) with hi | hi
  · exact h2 c (List.mem_filter.mpr ⟨hc, hi⟩)
  · simpa [hi] using h
set_option maxRecDepth 65536 in
theorem w_c0 : (Jvm.Cond.code x code maxLocals ret).before args0 about1 = true := code_word (m := ⟨1, 1⟩) (meth := k1m1) (c := k1c1) (by decide +kernel) rfl rfl rfl (by decide +kernel)
set_option maxRecDepth 65536 in
theorem w_c1 : (Jvm.Cond.code ({ cls := "com/example/archstave/archstave/core/model/DataType", name := "isNumeric", desc := "()Z" } : Jvm.MethodName) prog_37_method_8_code (1 : Nat) (Option.some Jvm.ClassFile.FieldType.boolean)).before args0 about1 = true := code_word (m := ⟨6, 0⟩) (meth := k6m0) (c := k6c0) (by decide +kernel) rfl rfl rfl (by decide +kernel)
def codes1 : List Jvm.Cond := [Jvm.Cond.code x code maxLocals ret, Jvm.Cond.code ({ cls := "com/example/archstave/archstave/core/model/DataType", name := "isNumeric", desc := "()Z" } : Jvm.MethodName) prog_37_method_8_code (1 : Nat) (Option.some Jvm.ClassFile.FieldType.boolean)]
set_option maxRecDepth 65536 in
theorem codes_eq : words1.filter isCode = codes1 := rfl
theorem w_codes : ∀ c ∈ words1.filter isCode, c.before args0 about1 = true := by
  rw [codes_eq]
  intro c hc
  simp only [codes1, List.mem_cons, List.not_mem_nil, or_false] at hc
  rcases hc with rfl | rfl
  · exact w_c0
  · exact w_c1
set_option maxRecDepth 65536 in
theorem w_t1 : (words1.take 24).all (fun c => isCode c || c.before args0 about1) = true := by decide +kernel
set_option maxRecDepth 65536 in
theorem w_t2 : (words1.drop 24).all (fun c => isCode c || c.before args0 about1) = true := by decide +kernel
theorem w_tables : (allAtoms (Jvm.Cond.code x code maxLocals ret :: tables_1)).before args0 about1 = true := by
  rw [allAtoms_all]
  show words1.all (fun c => c.before args0 about1) = true
  refine all_split ?_ w_codes
  rw [← List.take_append_drop 24 words1, List.all_append, w_t1, w_t2]
  rfl
set_option maxRecDepth 65536 in
theorem w_case : (Jvm.Cond.and given_1 narrow_1).before args0 about1 = true := by decide +kernel
theorem w_applies : (headSpec (Jvm.Cond.code x code maxLocals ret :: tables_1) room_1).applies x e0.platform about1 = true :=
  (Spec.applies_iff w_frames).mpr ⟨w_running, w_runnable, w_alone, w_named, w_hears, w_ripe, w_room, w_tables⟩
theorem atStart : AtStart classFile x code maxLocals ret World_1 tables_1 room_1 Calls_1 rest_1 Pre_1 launch0 p0 e0 about1 theMethod args0 below0 :=
  ⟨lists_1, trivial, launch0.admits_env _ _ _, launch0.least_env, fairChoices_fair.cas, fairChoices_fair.clock, w_frames, w_args, w_heap, w_applies, trivial, trivial, w_case⟩
end start1
theorem witness_1 : WitnessClaimed_1 := ⟨start1.p0, start1.e0, start1.about1, start1.theMethod, start1.args0, start1.below0, start1.atStart⟩
end Jvm.Pilot.@@N@@
