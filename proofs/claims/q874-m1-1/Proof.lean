import JvmDerived
import JvmDerived.Pilot.@@N@@Statement
import JvmDerived.Pilot.@@N@@Code
set_option linter.unusedVariables false
set_option linter.unusedSimpArgs false
namespace Jvm.RoadKit
open Sem ClassFile Op Lib Jvm.Stand Jvm.Free Jvm.LawKit
section New
variable {p : Program} {l : Launch} {e : Env} {R : Room} {s : State} {m : MethodId} {args : Array Value} {below : List Frame} {meth : Method} {c : Code} {T : State} {locs : List Loc} {cells slots : Nat}
theorem retI (X : Stand p l e R s m args below meth c T locs cells slots) (hx : p.tables.exec = Jvm.exec) {pc : Nat} {Ls : Array Slot} {z : Int32} {rest : List Value} (hret : meth.sig.returnType = some .int) (hd : decode c.code pc = .ok (.ireturn, 1)) {fs : List Frame}
    (hl : ∀ (f : JFrame) (acts : List Action), f.method = m → f.locked = none → f.entered = [] → (doReturn e (T.setTop f) acts (some (.int z))).1 = T.setFrames fs) : Steps p.tables e below (T.setTop (mkF m pc Ls (.int z :: rest))) (T.setFrames fs) := by
  have hm' : T.vm.method? m = some meth := X.method'
  have hn : narrow .int (.int z) = .int z := rfl
  show Steps p.tables e below (T.setTop { method := m, pc := pc, locals := Ls, stack := _ :: rest, locked := none }) _
  jvm_step X.here [X.here.top, hx, hd, hm', hret, hn]
  first | (intro acts; rw [hl _ acts rfl rfl rfl]) | rw [hl _ _ rfl rfl rfl]
  exact Steps.refl _
end New
end Jvm.RoadKit
namespace Jvm.Pilot.@@N@@
open Jvm Jvm.ClassFile Sem Op Lib Jvm.Free Jvm.Stand Jvm.LawKit Jvm.RoadKit Bundle Jvm.Pilot.@@N@@.Jvm.D
abbrev Go (p : Program) (e : Env) (below : List Frame) (T : State) (g : JFrame) (t : State) : Prop := Steps p.tables e below (T.setTop g) t
theorem hwi {Z : State} {a0 : Array Value} (hw : ∀ d ∈ tables_1, d.before a0 Z = true) {d : Jvm.Cond} (i : Nat) (q : tables_1[i]? = some d) : d.before a0 Z = true := hw _ (List.mem_of_getElem? q)

def Wd (Z : State) (h : Heap) (w_DRAFT w_SENT w_VIEWED w_PARTLY_PAID w_PAID w_CANCELLED : Addr) : Prop := (Sta Z h "com/example/owed_to_paid/owedtopaid/model/InvoiceStatus" "DRAFT" "Lcom/example/owed_to_paid/owedtopaid/model/InvoiceStatus;" (.ref w_DRAFT) ∧ Exa Z h w_DRAFT "com/example/owed_to_paid/owedtopaid/model/InvoiceStatus" ∧ Fld Z h w_DRAFT "java/lang/Enum" "ordinal" "I" (.int (0 : Int32))) ∧ (Sta Z h "com/example/owed_to_paid/owedtopaid/model/InvoiceStatus" "SENT" "Lcom/example/owed_to_paid/owedtopaid/model/InvoiceStatus;" (.ref w_SENT) ∧ Exa Z h w_SENT "com/example/owed_to_paid/owedtopaid/model/InvoiceStatus" ∧ Fld Z h w_SENT "java/lang/Enum" "ordinal" "I" (.int (1 : Int32))) ∧ (Sta Z h "com/example/owed_to_paid/owedtopaid/model/InvoiceStatus" "VIEWED" "Lcom/example/owed_to_paid/owedtopaid/model/InvoiceStatus;" (.ref w_VIEWED) ∧ Exa Z h w_VIEWED "com/example/owed_to_paid/owedtopaid/model/InvoiceStatus" ∧ Fld Z h w_VIEWED "java/lang/Enum" "ordinal" "I" (.int (2 : Int32))) ∧ (Sta Z h "com/example/owed_to_paid/owedtopaid/model/InvoiceStatus" "PARTLY_PAID" "Lcom/example/owed_to_paid/owedtopaid/model/InvoiceStatus;" (.ref w_PARTLY_PAID) ∧ Exa Z h w_PARTLY_PAID "com/example/owed_to_paid/owedtopaid/model/InvoiceStatus" ∧ Fld Z h w_PARTLY_PAID "java/lang/Enum" "ordinal" "I" (.int (3 : Int32))) ∧ (Sta Z h "com/example/owed_to_paid/owedtopaid/model/InvoiceStatus" "PAID" "Lcom/example/owed_to_paid/owedtopaid/model/InvoiceStatus;" (.ref w_PAID) ∧ Exa Z h w_PAID "com/example/owed_to_paid/owedtopaid/model/InvoiceStatus" ∧ Fld Z h w_PAID "java/lang/Enum" "ordinal" "I" (.int (4 : Int32))) ∧ (Sta Z h "com/example/owed_to_paid/owedtopaid/model/InvoiceStatus" "CANCELLED" "Lcom/example/owed_to_paid/owedtopaid/model/InvoiceStatus;" (.ref w_CANCELLED) ∧ Exa Z h w_CANCELLED "com/example/owed_to_paid/owedtopaid/model/InvoiceStatus" ∧ Fld Z h w_CANCELLED "java/lang/Enum" "ordinal" "I" (.int (5 : Int32)))
theorem Wd_ext {Z : State} {h h' : Heap} {w_DRAFT w_SENT w_VIEWED w_PARTLY_PAID w_PAID w_CANCELLED : Addr} (W : Wd Z h w_DRAFT w_SENT w_VIEWED w_PARTLY_PAID w_PAID w_CANCELLED) (E : Ext h h') : Wd Z h' w_DRAFT w_SENT w_VIEWED w_PARTLY_PAID w_PAID w_CANCELLED := by
  obtain ⟨⟨S_DRAFT, E_DRAFT, F_DRAFT⟩, ⟨S_SENT, E_SENT, F_SENT⟩, ⟨S_VIEWED, E_VIEWED, F_VIEWED⟩, ⟨S_PARTLY_PAID, E_PARTLY_PAID, F_PARTLY_PAID⟩, ⟨S_PAID, E_PAID, F_PAID⟩, ⟨S_CANCELLED, E_CANCELLED, F_CANCELLED⟩⟩ := W
  exact ⟨⟨S_DRAFT.ext E, E_DRAFT.ext E, F_DRAFT.ext E⟩, ⟨S_SENT.ext E, E_SENT.ext E, F_SENT.ext E⟩, ⟨S_VIEWED.ext E, E_VIEWED.ext E, F_VIEWED.ext E⟩, ⟨S_PARTLY_PAID.ext E, E_PARTLY_PAID.ext E, F_PARTLY_PAID.ext E⟩, ⟨S_PAID.ext E, E_PAID.ext E, F_PAID.ext E⟩, ⟨S_CANCELLED.ext E, E_CANCELLED.ext E, F_CANCELLED.ext E⟩⟩
theorem ef_1 (m : MethodId) (x0 : Addr) : entryFrame m #[(.ref x0)] 1 = mkF m 0 #[.val (.ref x0)] [] := by first | (simp [entryFrame, mkF, argsToLocals, Value.category]; done) | rfl
theorem pn_com_example_owed_to_paid_owedtopaid_model_InvoiceStatus : plainName "com/example/owed_to_paid/owedtopaid/model/InvoiceStatus" = true := by first | (simp [plainName, overriddenIn]; done) | decide +kernel
theorem d1_0 : decode prog_17_method_8_code 0 = .ok (.aload_n 0, 1) := by decide +kernel
theorem d1_1 : decode prog_17_method_8_code 1 = .ok (.getstatic 3, 3) := by decide +kernel
theorem d1_4 : decode prog_17_method_8_code 4 = .ok (.if_acmp .eq 17, 3) := by decide +kernel
theorem d1_21 : decode prog_17_method_8_code 21 = .ok (.iconst 1, 1) := by decide +kernel
theorem d1_22 : decode prog_17_method_8_code 22 = .ok (.goto 4, 3) := by decide +kernel
theorem d1_26 : decode prog_17_method_8_code 26 = .ok (.ireturn, 1) := by decide +kernel
theorem d1_7 : decode prog_17_method_8_code 7 = .ok (.aload_n 0, 1) := by decide +kernel
theorem d1_8 : decode prog_17_method_8_code 8 = .ok (.getstatic 7, 3) := by decide +kernel
theorem d1_11 : decode prog_17_method_8_code 11 = .ok (.if_acmp .eq 10, 3) := by decide +kernel
theorem d1_14 : decode prog_17_method_8_code 14 = .ok (.aload_n 0, 1) := by decide +kernel
theorem d1_15 : decode prog_17_method_8_code 15 = .ok (.getstatic 10, 3) := by decide +kernel
theorem d1_18 : decode prog_17_method_8_code 18 = .ok (.if_acmp .ne 7, 3) := by decide +kernel
theorem d1_25 : decode prog_17_method_8_code 25 = .ok (.iconst 0, 1) := by decide +kernel
def Q_rmC (Z : State) (a1 : Addr) (w_DRAFT : Addr) (w_SENT : Addr) (w_VIEWED : Addr) (w_PARTLY_PAID : Addr) (w_PAID : Addr) (w_CANCELLED : Addr) (h0 : Heap) (n0 : Nat) (v : Option Value) (h : Heap) (L : List Loc) : Prop := v = some (.int (if a1 = w_DRAFT ∨ a1 = w_SENT ∨ a1 = w_VIEWED then 1 else 0)) ∧ Fr n0 L ∧ h = h0
set_option maxRecDepth 65536 in
set_option maxHeartbeats 40000000 in
theorem rmC (l : Launch) (Z : State) (a0 : Array Value) (hw : ∀ d ∈ tables_1, d.before a0 Z = true) (ws : List Jvm.Cond) (a1 : Addr) (w_DRAFT : Addr) (w_SENT : Addr) (w_VIEWED : Addr) (w_PARTLY_PAID : Addr) (w_PAID : Addr) (w_CANCELLED : Addr) (h0 : Heap) (n0 : Nat) (Z0 : n0 ≤ h0.size) (hWd : Wd Z h0 w_DRAFT w_SENT w_VIEWED w_PARTLY_PAID w_PAID w_CANCELLED) :
    MetFree l (⟨"com/example/owed_to_paid/owedtopaid/model/InvoiceStatus", "canBeCancelled", "()Z"⟩ : MethodName) (head1 (Jvm.Cond.code (⟨"com/example/owed_to_paid/owedtopaid/model/InvoiceStatus", "canBeCancelled", "()Z"⟩ : MethodName) prog_17_method_8_code 1 (some .boolean) :: ws) ({ frames := 0, cells := 0, slots := 0, locals := 0 } : Room)) (fun av_ U_ => av_ = #[(.ref a1)] ∧ Z.Warmed39 U_.vm ∧ U_.heap = h0) (fun _ _ _ _ _ => True) (fun _ U_ o_ V_ => ∃ v_ L_, o_ = .returned v_ ∧ Q_rmC Z a1 w_DRAFT w_SENT w_VIEWED w_PARTLY_PAID w_PAID w_CANCELLED h0 n0 v_ V_.heap L_ ∧ FrameEnd U_ o_ V_ L_ ({ frames := 0, cells := 0, slots := 0, locals := 0 } : Room).cells ({ frames := 0, cells := 0, slots := 0, locals := 0 } : Room).slots) := by
  refine MetFree.of_bodySF (plainFor_of_name pn_com_example_owed_to_paid_owedtopaid_model_InvoiceStatus) hisR ?_
  intro p e s m args below meth c s₁ Bd hml0 hP hK
  obtain ⟨rfl, hZ, hh⟩ := hP
  have hx := Bd.exec
  have hby := Bd.bytes
  have hml : c.maxLocals = 1 := hml0
  have hown : s.vm.findClass "com/example/owed_to_paid/owedtopaid/model/InvoiceStatus" = some m.cls := findClass_of_methodNamed Bd.named
  have hnm := (name_of_methodNamed Bd.named Bd.method).1
  have X0 : Stand p l e ({ frames := 0, cells := 0, slots := 0, locals := 0 } : Room) s m #[(.ref a1)] below meth c s₁ [] 0 0 := Stand.of_body Bd
  have e0 : s₁.heap = h0 := by rw [← hh, Bd.state]; rfl
  have N0 := Fr.nil n0
  have pre0 : ∀ t_, Go p e below s₁ (mkF m 0 #[rv a1] []) t_ → Go p e below s₁ (entryFrame m #[(.ref a1)] 1) t_ := fun t_ kt => castTop (ef_1 m a1) kt
  have hWd0 := hWd
  obtain ⟨⟨S_DRAFT, E_DRAFT, F_DRAFT⟩, ⟨S_SENT, E_SENT, F_SENT⟩, ⟨S_VIEWED, E_VIEWED, F_VIEWED⟩, ⟨S_PARTLY_PAID, E_PARTLY_PAID, F_PARTLY_PAID⟩, ⟨S_PAID, E_PAID, F_PAID⟩, ⟨S_CANCELLED, E_CANCELLED, F_CANCELLED⟩⟩ := hWd
  obtain ⟨T1, X1, e1, st1⟩ := getS2 X0 hx hZ hown (host := "") (Or.inl (hwi hw 9 rfl)) Via.refl e0 S_DRAFT (g := (mkF m 1 #[rv a1] [(.ref a1)])) rfl (hb hby d1_1)
  have pre2 : ∀ t_, Go p e below T1 (mkF m 4 #[rv a1] [(.ref w_DRAFT), (.ref a1)]) t_ → Go p e below s₁ (entryFrame m #[(.ref a1)] 1) t_ := fun t_ kt => pre0 _ (by
      show Go p e below s₁ (mkF m 0 #[rv a1] []) _
      refine XS.aloadN X0.here hx rfl (hb hby d1_0) rfl rfl ?_
      show Go p e below s₁ (mkF m 1 #[rv a1] [(.ref a1)]) _
      refine st1 _ ?_
      show Go p e below T1 (mkF m 4 #[rv a1] [(.ref w_DRAFT), (.ref a1)]) _
      exact kt)
  by_cases hc4_3 : a1 = w_DRAFT
  · have pre4 : ∀ t_, Go p e below T1 (mkF m 26 #[rv a1] [(.int 1)]) t_ → Go p e below s₁ (entryFrame m #[(.ref a1)] 1) t_ := fun t_ kt => pre2 _ (by
        show Go p e below T1 (mkF m 4 #[rv a1] [(.ref w_DRAFT), (.ref a1)]) _
        refine Jvm.RoadKit.acmp (g := (mkF m 4 #[rv a1] [(.ref w_DRAFT), (.ref a1)])) X1 hx rfl rfl rfl (pc0 := 4) (pc' := 21) (same := true) rfl (hb hby d1_4) rfl (decide_eq_true (congrArg Value.ref hc4_3)) (by decide) (by decide) ?_
        show Go p e below T1 (mkF m 21 #[rv a1] []) _
        refine XS.iconst X1.here hx rfl (hb hby d1_21) ?_
        show Go p e below T1 (mkF m 22 #[rv a1] [(.int 1)]) _
        refine XS.goto X1.here hx rfl (pc0 := 22) (pc' := 26) rfl (hb hby d1_22) (by decide) (by decide) ?_
        show Go p e below T1 (mkF m 26 #[rv a1] [(.int 1)]) _
        exact kt)
    obtain ⟨fs, hr, hrun, hended, hW, hsame⟩ := X1.leave (v := some (.int 1)) (fun h => by rw [Bd.returns] at h; cases h)
    refine ⟨_, _, pre4 _ ?_, hrun, hended, _, _, rfl, ?_, ⟨_, rfl⟩, hW, hsame.mono (by decide) (by decide)⟩
    · show Steps p.tables e below (T1.setTop (mkF m 26 #[rv a1] [(.int 1)])) _
      exact retN X1 hx (t := .boolean) Bd.returns (by simp) (hb hby d1_26) hr
    · show Q_rmC Z a1 w_DRAFT w_SENT w_VIEWED w_PARTLY_PAID w_PAID w_CANCELLED h0 n0 _ T1.heap _
      rw [e1]
      exact ⟨by simp [hc4_3], N0, rfl⟩
  · obtain ⟨T5, X5, e5, st5⟩ := getS2 X1 hx hZ hown (host := "") (Or.inl (hwi hw 12 rfl)) Via.refl e1 S_SENT (g := (mkF m 8 #[rv a1] [(.ref a1)])) rfl (hb hby d1_8)
    have pre6 : ∀ t_, Go p e below T5 (mkF m 11 #[rv a1] [(.ref w_SENT), (.ref a1)]) t_ → Go p e below s₁ (entryFrame m #[(.ref a1)] 1) t_ := fun t_ kt => pre2 _ (by
        show Go p e below T1 (mkF m 4 #[rv a1] [(.ref w_DRAFT), (.ref a1)]) _
        refine Jvm.RoadKit.acmp (g := (mkF m 4 #[rv a1] [(.ref w_DRAFT), (.ref a1)])) X1 hx rfl rfl rfl (pc0 := 4) (pc' := 7) (same := false) rfl (hb hby d1_4) rfl (decide_eq_false fun q => hc4_3 (Value.ref.inj q)) (by decide) (by decide) ?_
        show Go p e below T1 (mkF m 7 #[rv a1] []) _
        refine XS.aloadN X1.here hx rfl (hb hby d1_7) rfl rfl ?_
        show Go p e below T1 (mkF m 8 #[rv a1] [(.ref a1)]) _
        refine st5 _ ?_
        show Go p e below T5 (mkF m 11 #[rv a1] [(.ref w_SENT), (.ref a1)]) _
        exact kt)
    by_cases hc11_7 : a1 = w_SENT
    · have pre8 : ∀ t_, Go p e below T5 (mkF m 26 #[rv a1] [(.int 1)]) t_ → Go p e below s₁ (entryFrame m #[(.ref a1)] 1) t_ := fun t_ kt => pre6 _ (by
          show Go p e below T5 (mkF m 11 #[rv a1] [(.ref w_SENT), (.ref a1)]) _
          refine Jvm.RoadKit.acmp (g := (mkF m 11 #[rv a1] [(.ref w_SENT), (.ref a1)])) X5 hx rfl rfl rfl (pc0 := 11) (pc' := 21) (same := true) rfl (hb hby d1_11) rfl (decide_eq_true (congrArg Value.ref hc11_7)) (by decide) (by decide) ?_
          show Go p e below T5 (mkF m 21 #[rv a1] []) _
          refine XS.iconst X5.here hx rfl (hb hby d1_21) ?_
          show Go p e below T5 (mkF m 22 #[rv a1] [(.int 1)]) _
          refine XS.goto X5.here hx rfl (pc0 := 22) (pc' := 26) rfl (hb hby d1_22) (by decide) (by decide) ?_
          show Go p e below T5 (mkF m 26 #[rv a1] [(.int 1)]) _
          exact kt)
      obtain ⟨fs, hr, hrun, hended, hW, hsame⟩ := X5.leave (v := some (.int 1)) (fun h => by rw [Bd.returns] at h; cases h)
      refine ⟨_, _, pre8 _ ?_, hrun, hended, _, _, rfl, ?_, ⟨_, rfl⟩, hW, hsame.mono (by decide) (by decide)⟩
      · show Steps p.tables e below (T5.setTop (mkF m 26 #[rv a1] [(.int 1)])) _
        exact retN X5 hx (t := .boolean) Bd.returns (by simp) (hb hby d1_26) hr
      · show Q_rmC Z a1 w_DRAFT w_SENT w_VIEWED w_PARTLY_PAID w_PAID w_CANCELLED h0 n0 _ T5.heap _
        rw [e5]
        exact ⟨by simp [hc4_3, hc11_7], N0, rfl⟩
    · obtain ⟨T9, X9, e9, st9⟩ := getS2 X5 hx hZ hown (host := "") (Or.inl (hwi hw 14 rfl)) Via.refl e5 S_VIEWED (g := (mkF m 15 #[rv a1] [(.ref a1)])) rfl (hb hby d1_15)
      have pre10 : ∀ t_, Go p e below T9 (mkF m 18 #[rv a1] [(.ref w_VIEWED), (.ref a1)]) t_ → Go p e below s₁ (entryFrame m #[(.ref a1)] 1) t_ := fun t_ kt => pre6 _ (by
          show Go p e below T5 (mkF m 11 #[rv a1] [(.ref w_SENT), (.ref a1)]) _
          refine Jvm.RoadKit.acmp (g := (mkF m 11 #[rv a1] [(.ref w_SENT), (.ref a1)])) X5 hx rfl rfl rfl (pc0 := 11) (pc' := 14) (same := false) rfl (hb hby d1_11) rfl (decide_eq_false fun q => hc11_7 (Value.ref.inj q)) (by decide) (by decide) ?_
          show Go p e below T5 (mkF m 14 #[rv a1] []) _
          refine XS.aloadN X5.here hx rfl (hb hby d1_14) rfl rfl ?_
          show Go p e below T5 (mkF m 15 #[rv a1] [(.ref a1)]) _
          refine st9 _ ?_
          show Go p e below T9 (mkF m 18 #[rv a1] [(.ref w_VIEWED), (.ref a1)]) _
          exact kt)
      by_cases hc18_11 : a1 = w_VIEWED
      · have pre12 : ∀ t_, Go p e below T9 (mkF m 26 #[rv a1] [(.int 1)]) t_ → Go p e below s₁ (entryFrame m #[(.ref a1)] 1) t_ := fun t_ kt => pre10 _ (by
            show Go p e below T9 (mkF m 18 #[rv a1] [(.ref w_VIEWED), (.ref a1)]) _
            refine Jvm.RoadKit.acmp (g := (mkF m 18 #[rv a1] [(.ref w_VIEWED), (.ref a1)])) X9 hx rfl rfl rfl (pc0 := 18) (pc' := 21) (same := true) rfl (hb hby d1_18) rfl (decide_eq_true (congrArg Value.ref hc18_11)) (by decide) (by decide) ?_
            show Go p e below T9 (mkF m 21 #[rv a1] []) _
            refine XS.iconst X9.here hx rfl (hb hby d1_21) ?_
            show Go p e below T9 (mkF m 22 #[rv a1] [(.int 1)]) _
            refine XS.goto X9.here hx rfl (pc0 := 22) (pc' := 26) rfl (hb hby d1_22) (by decide) (by decide) ?_
            show Go p e below T9 (mkF m 26 #[rv a1] [(.int 1)]) _
            exact kt)
        obtain ⟨fs, hr, hrun, hended, hW, hsame⟩ := X9.leave (v := some (.int 1)) (fun h => by rw [Bd.returns] at h; cases h)
        refine ⟨_, _, pre12 _ ?_, hrun, hended, _, _, rfl, ?_, ⟨_, rfl⟩, hW, hsame.mono (by decide) (by decide)⟩
        · show Steps p.tables e below (T9.setTop (mkF m 26 #[rv a1] [(.int 1)])) _
          exact retN X9 hx (t := .boolean) Bd.returns (by simp) (hb hby d1_26) hr
        · show Q_rmC Z a1 w_DRAFT w_SENT w_VIEWED w_PARTLY_PAID w_PAID w_CANCELLED h0 n0 _ T9.heap _
          rw [e9]
          exact ⟨by simp [hc4_3, hc11_7, hc18_11], N0, rfl⟩
      · have pre13 : ∀ t_, Go p e below T9 (mkF m 26 #[rv a1] [(.int 0)]) t_ → Go p e below s₁ (entryFrame m #[(.ref a1)] 1) t_ := fun t_ kt => pre10 _ (by
            show Go p e below T9 (mkF m 18 #[rv a1] [(.ref w_VIEWED), (.ref a1)]) _
            refine Jvm.RoadKit.acmp (g := (mkF m 18 #[rv a1] [(.ref w_VIEWED), (.ref a1)])) X9 hx rfl rfl rfl (pc0 := 18) (pc' := 25) (same := false) rfl (hb hby d1_18) rfl (decide_eq_false fun q => hc18_11 (Value.ref.inj q)) (by decide) (by decide) ?_
            show Go p e below T9 (mkF m 25 #[rv a1] []) _
            refine XS.iconst X9.here hx rfl (hb hby d1_25) ?_
            show Go p e below T9 (mkF m 26 #[rv a1] [(.int 0)]) _
            exact kt)
        obtain ⟨fs, hr, hrun, hended, hW, hsame⟩ := X9.leave (v := some (.int 0)) (fun h => by rw [Bd.returns] at h; cases h)
        refine ⟨_, _, pre13 _ ?_, hrun, hended, _, _, rfl, ?_, ⟨_, rfl⟩, hW, hsame.mono (by decide) (by decide)⟩
        · show Steps p.tables e below (T9.setTop (mkF m 26 #[rv a1] [(.int 0)])) _
          exact retN X9 hx (t := .boolean) Bd.returns (by simp) (hb hby d1_26) hr
        · show Q_rmC Z a1 w_DRAFT w_SENT w_VIEWED w_PARTLY_PAID w_PAID w_CANCELLED h0 n0 _ T9.heap _
          rw [e9]
          exact ⟨by simp [hc4_3, hc11_7, hc18_11], N0, rfl⟩
theorem ef_0 (m : MethodId) (x0 : Int32) : entryFrame m #[(.int x0)] maxLocals = mkF m 0 #[.val (.int x0), .unset, .unset, .unset, .unset, .unset] [] := by first | (simp [entryFrame, mkF, argsToLocals, Value.category, maxLocals]; done) | rfl
theorem pn_com_example_owed_to_paid_owedtopaid_model_InvoiceStatusCanBeCancelledPinLaw : plainName "com/example/owed_to_paid/owedtopaid/model/InvoiceStatusCanBeCancelledPinLaw" = true := by first | (simp [plainName, overriddenIn]; done) | decide +kernel
theorem pd_0 : parseMethodDescriptor "()Z" = some ⟨[], some .boolean⟩ := by decide +kernel
def Q_rmL (Z : State) (p1 : Int32) (w_DRAFT : Addr) (w_SENT : Addr) (w_VIEWED : Addr) (w_PARTLY_PAID : Addr) (w_PAID : Addr) (w_CANCELLED : Addr) (h0 : Heap) (n0 : Nat) (v : Option Value) (h : Heap) (L : List Loc) : Prop := v = some (.int 1) ∧ Fr n0 L
set_option maxRecDepth 65536 in
set_option maxHeartbeats 40000000 in
theorem rmL (l : Launch) (Z : State) (a0 : Array Value) (hw : ∀ d ∈ tables_1, d.before a0 Z = true) (ws : List Jvm.Cond) (p1 : Int32) (w_DRAFT : Addr) (w_SENT : Addr) (w_VIEWED : Addr) (w_PARTLY_PAID : Addr) (w_PAID : Addr) (w_CANCELLED : Addr) (h0 : Heap) (n0 : Nat) (Z0 : n0 ≤ h0.size) (hWd : Wd Z h0 w_DRAFT w_SENT w_VIEWED w_PARTLY_PAID w_PAID w_CANCELLED) :
    MetFree l x (head1 (Jvm.Cond.code x code maxLocals ret :: ws) room_1) (fun av_ U_ => av_ = #[(.int p1)] ∧ Z.Warmed39 U_.vm ∧ U_.heap = h0) (fun _ _ _ _ _ => True) (fun _ U_ o_ V_ => ∃ v_ L_, o_ = .returned v_ ∧ Q_rmL Z p1 w_DRAFT w_SENT w_VIEWED w_PARTLY_PAID w_PAID w_CANCELLED h0 n0 v_ V_.heap L_ ∧ FrameEnd U_ o_ V_ L_ room_1.cells room_1.slots) := by
  refine MetFree.of_bodySF (plainFor_of_name pn_com_example_owed_to_paid_owedtopaid_model_InvoiceStatusCanBeCancelledPinLaw) hisR ?_
  intro p e s m args below meth c s₁ Bd hml0 hP hK
  obtain ⟨rfl, hZ, hh⟩ := hP
  have hx := Bd.exec
  have hby := Bd.bytes
  have hml : c.maxLocals = 6 := hml0
  have hown : s.vm.findClass "com/example/owed_to_paid/owedtopaid/model/InvoiceStatusCanBeCancelledPinLaw" = some m.cls := findClass_of_methodNamed Bd.named
  have hnm := (name_of_methodNamed Bd.named Bd.method).1
  have X0 : Stand p l e room_1 s m #[(.int p1)] below meth c s₁ [] 0 0 := Stand.of_body Bd
  have e0 : s₁.heap = h0 := by rw [← hh, Bd.state]; rfl
  have N0 := Fr.nil n0
  have pre0 : ∀ t_, Go p e below s₁ (mkF m 0 #[iv p1, .unset, .unset, .unset, .unset, .unset] []) t_ → Go p e below s₁ (entryFrame m #[(.int p1)] maxLocals) t_ := fun t_ kt => castTop (ef_0 m p1) kt
  have hWd0 := hWd
  obtain ⟨⟨S_DRAFT, E_DRAFT, F_DRAFT⟩, ⟨S_SENT, E_SENT, F_SENT⟩, ⟨S_VIEWED, E_VIEWED, F_VIEWED⟩, ⟨S_PARTLY_PAID, E_PARTLY_PAID, F_PARTLY_PAID⟩, ⟨S_PAID, E_PAID, F_PAID⟩, ⟨S_CANCELLED, E_CANCELLED, F_CANCELLED⟩⟩ := hWd
  obtain ⟨k, e_k⟩ : ∃ z : Int32, z = ((p1 &&& (2147483647 : Int32)) % (6 : Int32)) := ⟨_, rfl⟩
  have pre1 : ∀ t_, Go p e below s₁ (mkF m 8 #[iv p1, iv k, .unset, .unset, .unset, .unset] []) t_ → Go p e below s₁ (entryFrame m #[(.int p1)] maxLocals) t_ := fun t_ kt => pre0 _ (by
      subst e_k
      show Go p e below s₁ (mkF m 0 #[iv p1, .unset, .unset, .unset, .unset, .unset] []) _
      refine XS.iloadN X0.here hx rfl (hb hby at_0) rfl ?_
      show Go p e below s₁ (mkF m 1 #[iv p1, .unset, .unset, .unset, .unset, .unset] [(.int p1)]) _
      refine X0.ldcInt hx hown (mvT hZ (hwi hw 0 rfl)) (g := (mkF m 1 #[iv p1, .unset, .unset, .unset, .unset, .unset] [(.int p1)])) rfl (hb hby at_1) _ ?_
      show Go p e below s₁ (mkF m 3 #[iv p1, .unset, .unset, .unset, .unset, .unset] [(.int 2147483647), (.int p1)]) _
      refine XS.iand X0.here hx rfl (hb hby at_3) rfl ?_
      show Go p e below s₁ (mkF m 4 #[iv p1, .unset, .unset, .unset, .unset, .unset] [(.int (p1 &&& (2147483647 : Int32)))]) _
      refine XS.bipush X0.here hx rfl (hb hby at_4) ?_
      show Go p e below s₁ (mkF m 6 #[iv p1, .unset, .unset, .unset, .unset, .unset] [(.int 6), (.int (p1 &&& (2147483647 : Int32)))]) _
      refine iremM X0 hx rfl (hb hby at_6) rfl (by decide) ?_
      show Go p e below s₁ (mkF m 7 #[iv p1, .unset, .unset, .unset, .unset, .unset] [(.int ((p1 &&& (2147483647 : Int32)) % (6 : Int32)))]) _
      refine XS.istoreN X0.here hx rfl (hb hby at_7) rfl (l' := #[iv p1, iv ((p1 &&& (2147483647 : Int32)) % (6 : Int32)), .unset, .unset, .unset, .unset]) rfl ?_
      show Go p e below s₁ (mkF m 8 #[iv p1, iv ((p1 &&& (2147483647 : Int32)) % (6 : Int32)), .unset, .unset, .unset, .unset] []) _
      exact kt)
  have pre2 : ∀ t_, Go p e below s₁ (mkF m 9 #[iv p1, iv k, .unset, .unset, .unset, .unset] [(.int k)]) t_ → Go p e below s₁ (entryFrame m #[(.int p1)] maxLocals) t_ := fun t_ kt => pre1 _ (by
      show Go p e below s₁ (mkF m 8 #[iv p1, iv k, .unset, .unset, .unset, .unset] []) _
      refine XS.iloadN X0.here hx rfl (hb hby at_8) rfl ?_
      show Go p e below s₁ (mkF m 9 #[iv p1, iv k, .unset, .unset, .unset, .unset] [(.int k)]) _
      exact kt)
  by_cases hc9_3 : k = (0 : Int32)
  · obtain ⟨T4, X4, e4, st4⟩ := getS2 X0 hx hZ hown (host := "") (Or.inl (hwi hw 1 rfl)) Via.refl e0 S_DRAFT (g := (mkF m 12 #[iv p1, iv k, .unset, .unset, .unset, .unset] [])) rfl (hb hby at_12)
    obtain ⟨cq5, kq5, q5a, q5b, q5c⟩ := isOf hZ e4 E_DRAFT
    obtain ⟨_, _, ⟨T5, L5, k5, n5⟩, -, X5, ⟨Lc5, hQ5, l5, y5, z5⟩, st5⟩ := X4.virtualBack hx (y := (⟨"com/example/owed_to_paid/owedtopaid/model/InvoiceStatus", "canBeCancelled", "()Z"⟩ : MethodName)) (z := (⟨"com/example/owed_to_paid/owedtopaid/model/InvoiceStatus", "canBeCancelled", "()Z"⟩ : MethodName)) hown (mvT hZ (hwi hw 4 rfl)) (mvT hZ (hwi hw 5 rfl)) (notFace_of_selects (args := #[]) (mvT hZ (hwi hw 7 rfl))) (mvT hZ (hwi hw 7 rfl)) (mvT hZ (hwi hw 6 rfl)) (by decide) (backOf (W := 0) (rmC l Z a0 hw [] w_DRAFT w_DRAFT w_SENT w_VIEWED w_PARTLY_PAID w_PAID w_CANCELLED h0 n0 Z0 hWd0) hZ (hwi hw 8 rfl) (hwi hw 2 rfl) (by decide) (by decide)) q5a q5c (g := (mkF m 118 #[iv p1, iv k, rv w_DRAFT, iv 1, iv 0, iv 1] [(.ref w_DRAFT)])) rfl (by rw [hml]; rfl) (Steps.refl _) (argsL := []) (rest := []) (lenOf pd_0 rfl) rfl (by show 2 * 0 + _ ≤ _; exact Nat.le_of_eq rfl) (hb hby at_118) (fun _ _ => ⟨rfl, e4, (by decide : 0 + 0 ≤ _), (by decide : 0 + 0 ≤ _)⟩)
    dsimp only [Pt.U, Pt.locs, Pt.cells, Pt.slots] at X5 l5 y5 z5 st5 hQ5
    subst l5 y5 z5
    obtain ⟨hv5, N5q, e5q⟩ := hQ5
    have N5 := Fr.app N0 N5q
    rw [show (if w_DRAFT = w_DRAFT ∨ w_DRAFT = w_SENT ∨ w_DRAFT = w_VIEWED then (1 : Int32) else 0) = 1 from by simp []] at hv5
    subst hv5
    have pre6 : ∀ t_, Go p e below T5 (mkF m 131 #[iv p1, iv k, rv w_DRAFT, iv 1, iv 0, iv 1] [(.int 1)]) t_ → Go p e below s₁ (entryFrame m #[(.int p1)] maxLocals) t_ := fun t_ kt => pre2 _ (by
        show Go p e below s₁ (mkF m 9 #[iv p1, iv k, .unset, .unset, .unset, .unset] [(.int k)]) _
        refine XS.ifNo X0.here hx rfl (hb hby at_9) rfl ((if0 _ _).trans (teq hc9_3).2) ?_
        show Go p e below s₁ (mkF m 12 #[iv p1, iv k, .unset, .unset, .unset, .unset] []) _
        refine st4 _ ?_
        show Go p e below T4 (mkF m 15 #[iv p1, iv k, .unset, .unset, .unset, .unset] [(.ref w_DRAFT)]) _
        refine XS.astoreN X4.here hx rfl (hb hby at_15) rfl rfl (l' := #[iv p1, iv k, rv w_DRAFT, .unset, .unset, .unset]) rfl ?_
        show Go p e below T4 (mkF m 16 #[iv p1, iv k, rv w_DRAFT, .unset, .unset, .unset] []) _
        refine XS.iconst X4.here hx rfl (hb hby at_16) ?_
        show Go p e below T4 (mkF m 17 #[iv p1, iv k, rv w_DRAFT, .unset, .unset, .unset] [(.int 1)]) _
        refine XS.istoreN X4.here hx rfl (hb hby at_17) rfl (l' := #[iv p1, iv k, rv w_DRAFT, iv 1, .unset, .unset]) rfl ?_
        show Go p e below T4 (mkF m 18 #[iv p1, iv k, rv w_DRAFT, iv 1, .unset, .unset] []) _
        refine XS.iconst X4.here hx rfl (hb hby at_18) ?_
        show Go p e below T4 (mkF m 19 #[iv p1, iv k, rv w_DRAFT, iv 1, .unset, .unset] [(.int 0)]) _
        refine XS.istore X4.here hx rfl (hb hby at_19) rfl (l' := #[iv p1, iv k, rv w_DRAFT, iv 1, iv 0, .unset]) rfl ?_
        show Go p e below T4 (mkF m 21 #[iv p1, iv k, rv w_DRAFT, iv 1, iv 0, .unset] []) _
        refine XS.goto X4.here hx rfl (pc0 := 21) (pc' := 101) rfl (hb hby at_21) (by decide) (by decide) ?_
        show Go p e below T4 (mkF m 101 #[iv p1, iv k, rv w_DRAFT, iv 1, iv 0, .unset] []) _
        refine XS.iloadN X4.here hx rfl (hb hby at_101) rfl ?_
        show Go p e below T4 (mkF m 102 #[iv p1, iv k, rv w_DRAFT, iv 1, iv 0, .unset] [(.int 1)]) _
        refine XS.ifNo X4.here hx rfl (hb hby at_102) rfl ((if0 _ _).trans (feq ((by decide) : ¬ ((1 : Int32) = (0 : Int32)))).1) ?_
        show Go p e below T4 (mkF m 105 #[iv p1, iv k, rv w_DRAFT, iv 1, iv 0, .unset] []) _
        refine XS.iload X4.here hx rfl (hb hby at_105) rfl ?_
        show Go p e below T4 (mkF m 107 #[iv p1, iv k, rv w_DRAFT, iv 1, iv 0, .unset] [(.int 0)]) _
        refine XS.ifNo X4.here hx rfl (hb hby at_107) rfl ((if0 _ _).trans (teq ((by decide) : (0 : Int32) = (0 : Int32))).2) ?_
        show Go p e below T4 (mkF m 110 #[iv p1, iv k, rv w_DRAFT, iv 1, iv 0, .unset] []) _
        refine XS.iconst X4.here hx rfl (hb hby at_110) ?_
        show Go p e below T4 (mkF m 111 #[iv p1, iv k, rv w_DRAFT, iv 1, iv 0, .unset] [(.int 1)]) _
        refine XS.goto X4.here hx rfl (pc0 := 111) (pc' := 115) rfl (hb hby at_111) (by decide) (by decide) ?_
        show Go p e below T4 (mkF m 115 #[iv p1, iv k, rv w_DRAFT, iv 1, iv 0, .unset] [(.int 1)]) _
        refine XS.istore X4.here hx rfl (hb hby at_115) rfl (l' := #[iv p1, iv k, rv w_DRAFT, iv 1, iv 0, iv 1]) rfl ?_
        show Go p e below T4 (mkF m 117 #[iv p1, iv k, rv w_DRAFT, iv 1, iv 0, iv 1] []) _
        refine XS.aloadN X4.here hx rfl (hb hby at_117) rfl rfl ?_
        show Go p e below T4 (mkF m 118 #[iv p1, iv k, rv w_DRAFT, iv 1, iv 0, iv 1] [(.ref w_DRAFT)]) _
        refine st5.trans ?_
        show Go p e below T5 (mkF m 121 #[iv p1, iv k, rv w_DRAFT, iv 1, iv 0, iv 1] [(.int 1)]) _
        refine XS.iload X5.here hx rfl (hb hby at_121) rfl ?_
        show Go p e below T5 (mkF m 123 #[iv p1, iv k, rv w_DRAFT, iv 1, iv 0, iv 1] [(.int 1), (.int 1)]) _
        refine XS.icmpNo X5.here hx rfl (hb hby at_123) rfl (teq ((by decide) : (1 : Int32) = (1 : Int32))).2 ?_
        show Go p e below T5 (mkF m 126 #[iv p1, iv k, rv w_DRAFT, iv 1, iv 0, iv 1] []) _
        refine XS.iconst X5.here hx rfl (hb hby at_126) ?_
        show Go p e below T5 (mkF m 127 #[iv p1, iv k, rv w_DRAFT, iv 1, iv 0, iv 1] [(.int 1)]) _
        refine XS.goto X5.here hx rfl (pc0 := 127) (pc' := 131) rfl (hb hby at_127) (by decide) (by decide) ?_
        show Go p e below T5 (mkF m 131 #[iv p1, iv k, rv w_DRAFT, iv 1, iv 0, iv 1] [(.int 1)]) _
        exact kt)
    obtain ⟨fs, hr, hrun, hended, hW, hsame⟩ := X5.leave (v := some (.int 1)) (fun h => by rw [Bd.returns] at h; cases h)
    refine ⟨_, _, pre6 _ ?_, hrun, hended, _, _, rfl, ?_, ⟨_, rfl⟩, hW, hsame.mono (by decide) (by decide)⟩
    · show Steps p.tables e below (T5.setTop (mkF m 131 #[iv p1, iv k, rv w_DRAFT, iv 1, iv 0, iv 1] [(.int 1)])) _
      exact retN X5 hx (t := .boolean) Bd.returns (by simp) (hb hby at_131) hr
    · show Q_rmL Z p1 w_DRAFT w_SENT w_VIEWED w_PARTLY_PAID w_PAID w_CANCELLED h0 n0 _ T5.heap _
      rw [e5q]
      exact ⟨rfl, N5⟩
  · have pre7 : ∀ t_, Go p e below s₁ (mkF m 26 #[iv p1, iv k, .unset, .unset, .unset, .unset] [(.int 1), (.int k)]) t_ → Go p e below s₁ (entryFrame m #[(.int p1)] maxLocals) t_ := fun t_ kt => pre2 _ (by
        show Go p e below s₁ (mkF m 9 #[iv p1, iv k, .unset, .unset, .unset, .unset] [(.int k)]) _
        refine XS.ifYes X0.here hx rfl (pc0 := 9) (pc' := 24) rfl (hb hby at_9) rfl ((if0 _ _).trans (feq hc9_3).2) (by decide) (by decide) ?_
        show Go p e below s₁ (mkF m 24 #[iv p1, iv k, .unset, .unset, .unset, .unset] []) _
        refine XS.iloadN X0.here hx rfl (hb hby at_24) rfl ?_
        show Go p e below s₁ (mkF m 25 #[iv p1, iv k, .unset, .unset, .unset, .unset] [(.int k)]) _
        refine XS.iconst X0.here hx rfl (hb hby at_25) ?_
        show Go p e below s₁ (mkF m 26 #[iv p1, iv k, .unset, .unset, .unset, .unset] [(.int 1), (.int k)]) _
        exact kt)
    by_cases hc26_8 : k = (1 : Int32)
    · obtain ⟨T9, X9, e9, st9⟩ := getS2 X0 hx hZ hown (host := "") (Or.inl (hwi hw 17 rfl)) Via.refl e0 S_SENT (g := (mkF m 29 #[iv p1, iv k, .unset, .unset, .unset, .unset] [])) rfl (hb hby at_29)
      obtain ⟨cq10, kq10, q10a, q10b, q10c⟩ := isOf hZ e9 E_SENT
      obtain ⟨_, _, ⟨T10, L10, k10, n10⟩, -, X10, ⟨Lc10, hQ10, l10, y10, z10⟩, st10⟩ := X9.virtualBack hx (y := (⟨"com/example/owed_to_paid/owedtopaid/model/InvoiceStatus", "canBeCancelled", "()Z"⟩ : MethodName)) (z := (⟨"com/example/owed_to_paid/owedtopaid/model/InvoiceStatus", "canBeCancelled", "()Z"⟩ : MethodName)) hown (mvT hZ (hwi hw 4 rfl)) (mvT hZ (hwi hw 5 rfl)) (notFace_of_selects (args := #[]) (mvT hZ (hwi hw 7 rfl))) (mvT hZ (hwi hw 7 rfl)) (mvT hZ (hwi hw 6 rfl)) (by decide) (backOf (W := 0) (rmC l Z a0 hw [] w_SENT w_DRAFT w_SENT w_VIEWED w_PARTLY_PAID w_PAID w_CANCELLED h0 n0 Z0 hWd0) hZ (hwi hw 8 rfl) (hwi hw 2 rfl) (by decide) (by decide)) q10a q10c (g := (mkF m 118 #[iv p1, iv k, rv w_SENT, iv 1, iv 0, iv 1] [(.ref w_SENT)])) rfl (by rw [hml]; rfl) (Steps.refl _) (argsL := []) (rest := []) (lenOf pd_0 rfl) rfl (by show 2 * 0 + _ ≤ _; exact Nat.le_of_eq rfl) (hb hby at_118) (fun _ _ => ⟨rfl, e9, (by decide : 0 + 0 ≤ _), (by decide : 0 + 0 ≤ _)⟩)
      dsimp only [Pt.U, Pt.locs, Pt.cells, Pt.slots] at X10 l10 y10 z10 st10 hQ10
      subst l10 y10 z10
      obtain ⟨hv10, N10q, e10q⟩ := hQ10
      have N10 := Fr.app N0 N10q
      rw [show (if w_SENT = w_DRAFT ∨ w_SENT = w_SENT ∨ w_SENT = w_VIEWED then (1 : Int32) else 0) = 1 from by simp []] at hv10
      subst hv10
      have pre11 : ∀ t_, Go p e below T10 (mkF m 131 #[iv p1, iv k, rv w_SENT, iv 1, iv 0, iv 1] [(.int 1)]) t_ → Go p e below s₁ (entryFrame m #[(.int p1)] maxLocals) t_ := fun t_ kt => pre7 _ (by
          show Go p e below s₁ (mkF m 26 #[iv p1, iv k, .unset, .unset, .unset, .unset] [(.int 1), (.int k)]) _
          refine XS.icmpNo X0.here hx rfl (hb hby at_26) rfl (teq hc26_8).2 ?_
          show Go p e below s₁ (mkF m 29 #[iv p1, iv k, .unset, .unset, .unset, .unset] []) _
          refine st9 _ ?_
          show Go p e below T9 (mkF m 32 #[iv p1, iv k, .unset, .unset, .unset, .unset] [(.ref w_SENT)]) _
          refine XS.astoreN X9.here hx rfl (hb hby at_32) rfl rfl (l' := #[iv p1, iv k, rv w_SENT, .unset, .unset, .unset]) rfl ?_
          show Go p e below T9 (mkF m 33 #[iv p1, iv k, rv w_SENT, .unset, .unset, .unset] []) _
          refine XS.iconst X9.here hx rfl (hb hby at_33) ?_
          show Go p e below T9 (mkF m 34 #[iv p1, iv k, rv w_SENT, .unset, .unset, .unset] [(.int 1)]) _
          refine XS.istoreN X9.here hx rfl (hb hby at_34) rfl (l' := #[iv p1, iv k, rv w_SENT, iv 1, .unset, .unset]) rfl ?_
          show Go p e below T9 (mkF m 35 #[iv p1, iv k, rv w_SENT, iv 1, .unset, .unset] []) _
          refine XS.iconst X9.here hx rfl (hb hby at_35) ?_
          show Go p e below T9 (mkF m 36 #[iv p1, iv k, rv w_SENT, iv 1, .unset, .unset] [(.int 0)]) _
          refine XS.istore X9.here hx rfl (hb hby at_36) rfl (l' := #[iv p1, iv k, rv w_SENT, iv 1, iv 0, .unset]) rfl ?_
          show Go p e below T9 (mkF m 38 #[iv p1, iv k, rv w_SENT, iv 1, iv 0, .unset] []) _
          refine XS.goto X9.here hx rfl (pc0 := 38) (pc' := 101) rfl (hb hby at_38) (by decide) (by decide) ?_
          show Go p e below T9 (mkF m 101 #[iv p1, iv k, rv w_SENT, iv 1, iv 0, .unset] []) _
          refine XS.iloadN X9.here hx rfl (hb hby at_101) rfl ?_
          show Go p e below T9 (mkF m 102 #[iv p1, iv k, rv w_SENT, iv 1, iv 0, .unset] [(.int 1)]) _
          refine XS.ifNo X9.here hx rfl (hb hby at_102) rfl ((if0 _ _).trans (feq ((by decide) : ¬ ((1 : Int32) = (0 : Int32)))).1) ?_
          show Go p e below T9 (mkF m 105 #[iv p1, iv k, rv w_SENT, iv 1, iv 0, .unset] []) _
          refine XS.iload X9.here hx rfl (hb hby at_105) rfl ?_
          show Go p e below T9 (mkF m 107 #[iv p1, iv k, rv w_SENT, iv 1, iv 0, .unset] [(.int 0)]) _
          refine XS.ifNo X9.here hx rfl (hb hby at_107) rfl ((if0 _ _).trans (teq ((by decide) : (0 : Int32) = (0 : Int32))).2) ?_
          show Go p e below T9 (mkF m 110 #[iv p1, iv k, rv w_SENT, iv 1, iv 0, .unset] []) _
          refine XS.iconst X9.here hx rfl (hb hby at_110) ?_
          show Go p e below T9 (mkF m 111 #[iv p1, iv k, rv w_SENT, iv 1, iv 0, .unset] [(.int 1)]) _
          refine XS.goto X9.here hx rfl (pc0 := 111) (pc' := 115) rfl (hb hby at_111) (by decide) (by decide) ?_
          show Go p e below T9 (mkF m 115 #[iv p1, iv k, rv w_SENT, iv 1, iv 0, .unset] [(.int 1)]) _
          refine XS.istore X9.here hx rfl (hb hby at_115) rfl (l' := #[iv p1, iv k, rv w_SENT, iv 1, iv 0, iv 1]) rfl ?_
          show Go p e below T9 (mkF m 117 #[iv p1, iv k, rv w_SENT, iv 1, iv 0, iv 1] []) _
          refine XS.aloadN X9.here hx rfl (hb hby at_117) rfl rfl ?_
          show Go p e below T9 (mkF m 118 #[iv p1, iv k, rv w_SENT, iv 1, iv 0, iv 1] [(.ref w_SENT)]) _
          refine st10.trans ?_
          show Go p e below T10 (mkF m 121 #[iv p1, iv k, rv w_SENT, iv 1, iv 0, iv 1] [(.int 1)]) _
          refine XS.iload X10.here hx rfl (hb hby at_121) rfl ?_
          show Go p e below T10 (mkF m 123 #[iv p1, iv k, rv w_SENT, iv 1, iv 0, iv 1] [(.int 1), (.int 1)]) _
          refine XS.icmpNo X10.here hx rfl (hb hby at_123) rfl (teq ((by decide) : (1 : Int32) = (1 : Int32))).2 ?_
          show Go p e below T10 (mkF m 126 #[iv p1, iv k, rv w_SENT, iv 1, iv 0, iv 1] []) _
          refine XS.iconst X10.here hx rfl (hb hby at_126) ?_
          show Go p e below T10 (mkF m 127 #[iv p1, iv k, rv w_SENT, iv 1, iv 0, iv 1] [(.int 1)]) _
          refine XS.goto X10.here hx rfl (pc0 := 127) (pc' := 131) rfl (hb hby at_127) (by decide) (by decide) ?_
          show Go p e below T10 (mkF m 131 #[iv p1, iv k, rv w_SENT, iv 1, iv 0, iv 1] [(.int 1)]) _
          exact kt)
      obtain ⟨fs, hr, hrun, hended, hW, hsame⟩ := X10.leave (v := some (.int 1)) (fun h => by rw [Bd.returns] at h; cases h)
      refine ⟨_, _, pre11 _ ?_, hrun, hended, _, _, rfl, ?_, ⟨_, rfl⟩, hW, hsame.mono (by decide) (by decide)⟩
      · show Steps p.tables e below (T10.setTop (mkF m 131 #[iv p1, iv k, rv w_SENT, iv 1, iv 0, iv 1] [(.int 1)])) _
        exact retN X10 hx (t := .boolean) Bd.returns (by simp) (hb hby at_131) hr
      · show Q_rmL Z p1 w_DRAFT w_SENT w_VIEWED w_PARTLY_PAID w_PAID w_CANCELLED h0 n0 _ T10.heap _
        rw [e10q]
        exact ⟨rfl, N10⟩
    · have pre12 : ∀ t_, Go p e below s₁ (mkF m 43 #[iv p1, iv k, .unset, .unset, .unset, .unset] [(.int 2), (.int k)]) t_ → Go p e below s₁ (entryFrame m #[(.int p1)] maxLocals) t_ := fun t_ kt => pre7 _ (by
          show Go p e below s₁ (mkF m 26 #[iv p1, iv k, .unset, .unset, .unset, .unset] [(.int 1), (.int k)]) _
          refine XS.icmpYes X0.here hx rfl (pc0 := 26) (pc' := 41) rfl (hb hby at_26) rfl (feq hc26_8).2 (by decide) (by decide) ?_
          show Go p e below s₁ (mkF m 41 #[iv p1, iv k, .unset, .unset, .unset, .unset] []) _
          refine XS.iloadN X0.here hx rfl (hb hby at_41) rfl ?_
          show Go p e below s₁ (mkF m 42 #[iv p1, iv k, .unset, .unset, .unset, .unset] [(.int k)]) _
          refine XS.iconst X0.here hx rfl (hb hby at_42) ?_
          show Go p e below s₁ (mkF m 43 #[iv p1, iv k, .unset, .unset, .unset, .unset] [(.int 2), (.int k)]) _
          exact kt)
      by_cases hc43_13 : k = (2 : Int32)
      · obtain ⟨T14, X14, e14, st14⟩ := getS2 X0 hx hZ hown (host := "") (Or.inl (hwi hw 16 rfl)) Via.refl e0 S_VIEWED (g := (mkF m 46 #[iv p1, iv k, .unset, .unset, .unset, .unset] [])) rfl (hb hby at_46)
        obtain ⟨cq15, kq15, q15a, q15b, q15c⟩ := isOf hZ e14 E_VIEWED
        obtain ⟨_, _, ⟨T15, L15, k15, n15⟩, -, X15, ⟨Lc15, hQ15, l15, y15, z15⟩, st15⟩ := X14.virtualBack hx (y := (⟨"com/example/owed_to_paid/owedtopaid/model/InvoiceStatus", "canBeCancelled", "()Z"⟩ : MethodName)) (z := (⟨"com/example/owed_to_paid/owedtopaid/model/InvoiceStatus", "canBeCancelled", "()Z"⟩ : MethodName)) hown (mvT hZ (hwi hw 4 rfl)) (mvT hZ (hwi hw 5 rfl)) (notFace_of_selects (args := #[]) (mvT hZ (hwi hw 7 rfl))) (mvT hZ (hwi hw 7 rfl)) (mvT hZ (hwi hw 6 rfl)) (by decide) (backOf (W := 0) (rmC l Z a0 hw [] w_VIEWED w_DRAFT w_SENT w_VIEWED w_PARTLY_PAID w_PAID w_CANCELLED h0 n0 Z0 hWd0) hZ (hwi hw 8 rfl) (hwi hw 2 rfl) (by decide) (by decide)) q15a q15c (g := (mkF m 118 #[iv p1, iv k, rv w_VIEWED, iv 1, iv 0, iv 1] [(.ref w_VIEWED)])) rfl (by rw [hml]; rfl) (Steps.refl _) (argsL := []) (rest := []) (lenOf pd_0 rfl) rfl (by show 2 * 0 + _ ≤ _; exact Nat.le_of_eq rfl) (hb hby at_118) (fun _ _ => ⟨rfl, e14, (by decide : 0 + 0 ≤ _), (by decide : 0 + 0 ≤ _)⟩)
        dsimp only [Pt.U, Pt.locs, Pt.cells, Pt.slots] at X15 l15 y15 z15 st15 hQ15
        subst l15 y15 z15
        obtain ⟨hv15, N15q, e15q⟩ := hQ15
        have N15 := Fr.app N0 N15q
        rw [show (if w_VIEWED = w_DRAFT ∨ w_VIEWED = w_SENT ∨ w_VIEWED = w_VIEWED then (1 : Int32) else 0) = 1 from by simp []] at hv15
        subst hv15
        have pre16 : ∀ t_, Go p e below T15 (mkF m 131 #[iv p1, iv k, rv w_VIEWED, iv 1, iv 0, iv 1] [(.int 1)]) t_ → Go p e below s₁ (entryFrame m #[(.int p1)] maxLocals) t_ := fun t_ kt => pre12 _ (by
            show Go p e below s₁ (mkF m 43 #[iv p1, iv k, .unset, .unset, .unset, .unset] [(.int 2), (.int k)]) _
            refine XS.icmpNo X0.here hx rfl (hb hby at_43) rfl (teq hc43_13).2 ?_
            show Go p e below s₁ (mkF m 46 #[iv p1, iv k, .unset, .unset, .unset, .unset] []) _
            refine st14 _ ?_
            show Go p e below T14 (mkF m 49 #[iv p1, iv k, .unset, .unset, .unset, .unset] [(.ref w_VIEWED)]) _
            refine XS.astoreN X14.here hx rfl (hb hby at_49) rfl rfl (l' := #[iv p1, iv k, rv w_VIEWED, .unset, .unset, .unset]) rfl ?_
            show Go p e below T14 (mkF m 50 #[iv p1, iv k, rv w_VIEWED, .unset, .unset, .unset] []) _
            refine XS.iconst X14.here hx rfl (hb hby at_50) ?_
            show Go p e below T14 (mkF m 51 #[iv p1, iv k, rv w_VIEWED, .unset, .unset, .unset] [(.int 1)]) _
            refine XS.istoreN X14.here hx rfl (hb hby at_51) rfl (l' := #[iv p1, iv k, rv w_VIEWED, iv 1, .unset, .unset]) rfl ?_
            show Go p e below T14 (mkF m 52 #[iv p1, iv k, rv w_VIEWED, iv 1, .unset, .unset] []) _
            refine XS.iconst X14.here hx rfl (hb hby at_52) ?_
            show Go p e below T14 (mkF m 53 #[iv p1, iv k, rv w_VIEWED, iv 1, .unset, .unset] [(.int 0)]) _
            refine XS.istore X14.here hx rfl (hb hby at_53) rfl (l' := #[iv p1, iv k, rv w_VIEWED, iv 1, iv 0, .unset]) rfl ?_
            show Go p e below T14 (mkF m 55 #[iv p1, iv k, rv w_VIEWED, iv 1, iv 0, .unset] []) _
            refine XS.goto X14.here hx rfl (pc0 := 55) (pc' := 101) rfl (hb hby at_55) (by decide) (by decide) ?_
            show Go p e below T14 (mkF m 101 #[iv p1, iv k, rv w_VIEWED, iv 1, iv 0, .unset] []) _
            refine XS.iloadN X14.here hx rfl (hb hby at_101) rfl ?_
            show Go p e below T14 (mkF m 102 #[iv p1, iv k, rv w_VIEWED, iv 1, iv 0, .unset] [(.int 1)]) _
            refine XS.ifNo X14.here hx rfl (hb hby at_102) rfl ((if0 _ _).trans (feq ((by decide) : ¬ ((1 : Int32) = (0 : Int32)))).1) ?_
            show Go p e below T14 (mkF m 105 #[iv p1, iv k, rv w_VIEWED, iv 1, iv 0, .unset] []) _
            refine XS.iload X14.here hx rfl (hb hby at_105) rfl ?_
            show Go p e below T14 (mkF m 107 #[iv p1, iv k, rv w_VIEWED, iv 1, iv 0, .unset] [(.int 0)]) _
            refine XS.ifNo X14.here hx rfl (hb hby at_107) rfl ((if0 _ _).trans (teq ((by decide) : (0 : Int32) = (0 : Int32))).2) ?_
            show Go p e below T14 (mkF m 110 #[iv p1, iv k, rv w_VIEWED, iv 1, iv 0, .unset] []) _
            refine XS.iconst X14.here hx rfl (hb hby at_110) ?_
            show Go p e below T14 (mkF m 111 #[iv p1, iv k, rv w_VIEWED, iv 1, iv 0, .unset] [(.int 1)]) _
            refine XS.goto X14.here hx rfl (pc0 := 111) (pc' := 115) rfl (hb hby at_111) (by decide) (by decide) ?_
            show Go p e below T14 (mkF m 115 #[iv p1, iv k, rv w_VIEWED, iv 1, iv 0, .unset] [(.int 1)]) _
            refine XS.istore X14.here hx rfl (hb hby at_115) rfl (l' := #[iv p1, iv k, rv w_VIEWED, iv 1, iv 0, iv 1]) rfl ?_
            show Go p e below T14 (mkF m 117 #[iv p1, iv k, rv w_VIEWED, iv 1, iv 0, iv 1] []) _
            refine XS.aloadN X14.here hx rfl (hb hby at_117) rfl rfl ?_
            show Go p e below T14 (mkF m 118 #[iv p1, iv k, rv w_VIEWED, iv 1, iv 0, iv 1] [(.ref w_VIEWED)]) _
            refine st15.trans ?_
            show Go p e below T15 (mkF m 121 #[iv p1, iv k, rv w_VIEWED, iv 1, iv 0, iv 1] [(.int 1)]) _
            refine XS.iload X15.here hx rfl (hb hby at_121) rfl ?_
            show Go p e below T15 (mkF m 123 #[iv p1, iv k, rv w_VIEWED, iv 1, iv 0, iv 1] [(.int 1), (.int 1)]) _
            refine XS.icmpNo X15.here hx rfl (hb hby at_123) rfl (teq ((by decide) : (1 : Int32) = (1 : Int32))).2 ?_
            show Go p e below T15 (mkF m 126 #[iv p1, iv k, rv w_VIEWED, iv 1, iv 0, iv 1] []) _
            refine XS.iconst X15.here hx rfl (hb hby at_126) ?_
            show Go p e below T15 (mkF m 127 #[iv p1, iv k, rv w_VIEWED, iv 1, iv 0, iv 1] [(.int 1)]) _
            refine XS.goto X15.here hx rfl (pc0 := 127) (pc' := 131) rfl (hb hby at_127) (by decide) (by decide) ?_
            show Go p e below T15 (mkF m 131 #[iv p1, iv k, rv w_VIEWED, iv 1, iv 0, iv 1] [(.int 1)]) _
            exact kt)
        obtain ⟨fs, hr, hrun, hended, hW, hsame⟩ := X15.leave (v := some (.int 1)) (fun h => by rw [Bd.returns] at h; cases h)
        refine ⟨_, _, pre16 _ ?_, hrun, hended, _, _, rfl, ?_, ⟨_, rfl⟩, hW, hsame.mono (by decide) (by decide)⟩
        · show Steps p.tables e below (T15.setTop (mkF m 131 #[iv p1, iv k, rv w_VIEWED, iv 1, iv 0, iv 1] [(.int 1)])) _
          exact retN X15 hx (t := .boolean) Bd.returns (by simp) (hb hby at_131) hr
        · show Q_rmL Z p1 w_DRAFT w_SENT w_VIEWED w_PARTLY_PAID w_PAID w_CANCELLED h0 n0 _ T15.heap _
          rw [e15q]
          exact ⟨rfl, N15⟩
      · have pre17 : ∀ t_, Go p e below s₁ (mkF m 60 #[iv p1, iv k, .unset, .unset, .unset, .unset] [(.int 3), (.int k)]) t_ → Go p e below s₁ (entryFrame m #[(.int p1)] maxLocals) t_ := fun t_ kt => pre12 _ (by
            show Go p e below s₁ (mkF m 43 #[iv p1, iv k, .unset, .unset, .unset, .unset] [(.int 2), (.int k)]) _
            refine XS.icmpYes X0.here hx rfl (pc0 := 43) (pc' := 58) rfl (hb hby at_43) rfl (feq hc43_13).2 (by decide) (by decide) ?_
            show Go p e below s₁ (mkF m 58 #[iv p1, iv k, .unset, .unset, .unset, .unset] []) _
            refine XS.iloadN X0.here hx rfl (hb hby at_58) rfl ?_
            show Go p e below s₁ (mkF m 59 #[iv p1, iv k, .unset, .unset, .unset, .unset] [(.int k)]) _
            refine XS.iconst X0.here hx rfl (hb hby at_59) ?_
            show Go p e below s₁ (mkF m 60 #[iv p1, iv k, .unset, .unset, .unset, .unset] [(.int 3), (.int k)]) _
            exact kt)
        by_cases hc60_18 : k = (3 : Int32)
        · obtain ⟨T19, X19, e19, st19⟩ := getS2 X0 hx hZ hown (host := "") (Or.inl (hwi hw 10 rfl)) Via.refl e0 S_PARTLY_PAID (g := (mkF m 63 #[iv p1, iv k, .unset, .unset, .unset, .unset] [])) rfl (hb hby at_63)
          obtain ⟨cq20, kq20, q20a, q20b, q20c⟩ := isOf hZ e19 E_PARTLY_PAID
          obtain ⟨_, _, ⟨T20, L20, k20, n20⟩, -, X20, ⟨Lc20, hQ20, l20, y20, z20⟩, st20⟩ := X19.virtualBack hx (y := (⟨"com/example/owed_to_paid/owedtopaid/model/InvoiceStatus", "canBeCancelled", "()Z"⟩ : MethodName)) (z := (⟨"com/example/owed_to_paid/owedtopaid/model/InvoiceStatus", "canBeCancelled", "()Z"⟩ : MethodName)) hown (mvT hZ (hwi hw 4 rfl)) (mvT hZ (hwi hw 5 rfl)) (notFace_of_selects (args := #[]) (mvT hZ (hwi hw 7 rfl))) (mvT hZ (hwi hw 7 rfl)) (mvT hZ (hwi hw 6 rfl)) (by decide) (backOf (W := 0) (rmC l Z a0 hw [] w_PARTLY_PAID w_DRAFT w_SENT w_VIEWED w_PARTLY_PAID w_PAID w_CANCELLED h0 n0 Z0 hWd0) hZ (hwi hw 8 rfl) (hwi hw 2 rfl) (by decide) (by decide)) q20a q20c (g := (mkF m 118 #[iv p1, iv k, rv w_PARTLY_PAID, iv 0, iv 0, iv 0] [(.ref w_PARTLY_PAID)])) rfl (by rw [hml]; rfl) (Steps.refl _) (argsL := []) (rest := []) (lenOf pd_0 rfl) rfl (by show 2 * 0 + _ ≤ _; exact Nat.le_of_eq rfl) (hb hby at_118) (fun _ _ => ⟨rfl, e19, (by decide : 0 + 0 ≤ _), (by decide : 0 + 0 ≤ _)⟩)
          dsimp only [Pt.U, Pt.locs, Pt.cells, Pt.slots] at X20 l20 y20 z20 st20 hQ20
          subst l20 y20 z20
          obtain ⟨hv20, N20q, e20q⟩ := hQ20
          have N20 := Fr.app N0 N20q
          rw [show (if w_PARTLY_PAID = w_DRAFT ∨ w_PARTLY_PAID = w_SENT ∨ w_PARTLY_PAID = w_VIEWED then (1 : Int32) else 0) = 0 from by simp [(Fld.ne F_PARTLY_PAID F_DRAFT (by decide)), (Fld.ne F_PARTLY_PAID F_SENT (by decide)), (Fld.ne F_PARTLY_PAID F_VIEWED (by decide))]] at hv20
          subst hv20
          have pre21 : ∀ t_, Go p e below T20 (mkF m 131 #[iv p1, iv k, rv w_PARTLY_PAID, iv 0, iv 0, iv 0] [(.int 1)]) t_ → Go p e below s₁ (entryFrame m #[(.int p1)] maxLocals) t_ := fun t_ kt => pre17 _ (by
              show Go p e below s₁ (mkF m 60 #[iv p1, iv k, .unset, .unset, .unset, .unset] [(.int 3), (.int k)]) _
              refine XS.icmpNo X0.here hx rfl (hb hby at_60) rfl (teq hc60_18).2 ?_
              show Go p e below s₁ (mkF m 63 #[iv p1, iv k, .unset, .unset, .unset, .unset] []) _
              refine st19 _ ?_
              show Go p e below T19 (mkF m 66 #[iv p1, iv k, .unset, .unset, .unset, .unset] [(.ref w_PARTLY_PAID)]) _
              refine XS.astoreN X19.here hx rfl (hb hby at_66) rfl rfl (l' := #[iv p1, iv k, rv w_PARTLY_PAID, .unset, .unset, .unset]) rfl ?_
              show Go p e below T19 (mkF m 67 #[iv p1, iv k, rv w_PARTLY_PAID, .unset, .unset, .unset] []) _
              refine XS.iconst X19.here hx rfl (hb hby at_67) ?_
              show Go p e below T19 (mkF m 68 #[iv p1, iv k, rv w_PARTLY_PAID, .unset, .unset, .unset] [(.int 0)]) _
              refine XS.istoreN X19.here hx rfl (hb hby at_68) rfl (l' := #[iv p1, iv k, rv w_PARTLY_PAID, iv 0, .unset, .unset]) rfl ?_
              show Go p e below T19 (mkF m 69 #[iv p1, iv k, rv w_PARTLY_PAID, iv 0, .unset, .unset] []) _
              refine XS.iconst X19.here hx rfl (hb hby at_69) ?_
              show Go p e below T19 (mkF m 70 #[iv p1, iv k, rv w_PARTLY_PAID, iv 0, .unset, .unset] [(.int 0)]) _
              refine XS.istore X19.here hx rfl (hb hby at_70) rfl (l' := #[iv p1, iv k, rv w_PARTLY_PAID, iv 0, iv 0, .unset]) rfl ?_
              show Go p e below T19 (mkF m 72 #[iv p1, iv k, rv w_PARTLY_PAID, iv 0, iv 0, .unset] []) _
              refine XS.goto X19.here hx rfl (pc0 := 72) (pc' := 101) rfl (hb hby at_72) (by decide) (by decide) ?_
              show Go p e below T19 (mkF m 101 #[iv p1, iv k, rv w_PARTLY_PAID, iv 0, iv 0, .unset] []) _
              refine XS.iloadN X19.here hx rfl (hb hby at_101) rfl ?_
              show Go p e below T19 (mkF m 102 #[iv p1, iv k, rv w_PARTLY_PAID, iv 0, iv 0, .unset] [(.int 0)]) _
              refine XS.ifYes X19.here hx rfl (pc0 := 102) (pc' := 114) rfl (hb hby at_102) rfl ((if0 _ _).trans (teq ((by decide) : (0 : Int32) = (0 : Int32))).1) (by decide) (by decide) ?_
              show Go p e below T19 (mkF m 114 #[iv p1, iv k, rv w_PARTLY_PAID, iv 0, iv 0, .unset] []) _
              refine XS.iconst X19.here hx rfl (hb hby at_114) ?_
              show Go p e below T19 (mkF m 115 #[iv p1, iv k, rv w_PARTLY_PAID, iv 0, iv 0, .unset] [(.int 0)]) _
              refine XS.istore X19.here hx rfl (hb hby at_115) rfl (l' := #[iv p1, iv k, rv w_PARTLY_PAID, iv 0, iv 0, iv 0]) rfl ?_
              show Go p e below T19 (mkF m 117 #[iv p1, iv k, rv w_PARTLY_PAID, iv 0, iv 0, iv 0] []) _
              refine XS.aloadN X19.here hx rfl (hb hby at_117) rfl rfl ?_
              show Go p e below T19 (mkF m 118 #[iv p1, iv k, rv w_PARTLY_PAID, iv 0, iv 0, iv 0] [(.ref w_PARTLY_PAID)]) _
              refine st20.trans ?_
              show Go p e below T20 (mkF m 121 #[iv p1, iv k, rv w_PARTLY_PAID, iv 0, iv 0, iv 0] [(.int 0)]) _
              refine XS.iload X20.here hx rfl (hb hby at_121) rfl ?_
              show Go p e below T20 (mkF m 123 #[iv p1, iv k, rv w_PARTLY_PAID, iv 0, iv 0, iv 0] [(.int 0), (.int 0)]) _
              refine XS.icmpNo X20.here hx rfl (hb hby at_123) rfl (teq ((by decide) : (0 : Int32) = (0 : Int32))).2 ?_
              show Go p e below T20 (mkF m 126 #[iv p1, iv k, rv w_PARTLY_PAID, iv 0, iv 0, iv 0] []) _
              refine XS.iconst X20.here hx rfl (hb hby at_126) ?_
              show Go p e below T20 (mkF m 127 #[iv p1, iv k, rv w_PARTLY_PAID, iv 0, iv 0, iv 0] [(.int 1)]) _
              refine XS.goto X20.here hx rfl (pc0 := 127) (pc' := 131) rfl (hb hby at_127) (by decide) (by decide) ?_
              show Go p e below T20 (mkF m 131 #[iv p1, iv k, rv w_PARTLY_PAID, iv 0, iv 0, iv 0] [(.int 1)]) _
              exact kt)
          obtain ⟨fs, hr, hrun, hended, hW, hsame⟩ := X20.leave (v := some (.int 1)) (fun h => by rw [Bd.returns] at h; cases h)
          refine ⟨_, _, pre21 _ ?_, hrun, hended, _, _, rfl, ?_, ⟨_, rfl⟩, hW, hsame.mono (by decide) (by decide)⟩
          · show Steps p.tables e below (T20.setTop (mkF m 131 #[iv p1, iv k, rv w_PARTLY_PAID, iv 0, iv 0, iv 0] [(.int 1)])) _
            exact retN X20 hx (t := .boolean) Bd.returns (by simp) (hb hby at_131) hr
          · show Q_rmL Z p1 w_DRAFT w_SENT w_VIEWED w_PARTLY_PAID w_PAID w_CANCELLED h0 n0 _ T20.heap _
            rw [e20q]
            exact ⟨rfl, N20⟩
        · have pre22 : ∀ t_, Go p e below s₁ (mkF m 77 #[iv p1, iv k, .unset, .unset, .unset, .unset] [(.int 4), (.int k)]) t_ → Go p e below s₁ (entryFrame m #[(.int p1)] maxLocals) t_ := fun t_ kt => pre17 _ (by
              show Go p e below s₁ (mkF m 60 #[iv p1, iv k, .unset, .unset, .unset, .unset] [(.int 3), (.int k)]) _
              refine XS.icmpYes X0.here hx rfl (pc0 := 60) (pc' := 75) rfl (hb hby at_60) rfl (feq hc60_18).2 (by decide) (by decide) ?_
              show Go p e below s₁ (mkF m 75 #[iv p1, iv k, .unset, .unset, .unset, .unset] []) _
              refine XS.iloadN X0.here hx rfl (hb hby at_75) rfl ?_
              show Go p e below s₁ (mkF m 76 #[iv p1, iv k, .unset, .unset, .unset, .unset] [(.int k)]) _
              refine XS.iconst X0.here hx rfl (hb hby at_76) ?_
              show Go p e below s₁ (mkF m 77 #[iv p1, iv k, .unset, .unset, .unset, .unset] [(.int 4), (.int k)]) _
              exact kt)
          by_cases hc77_23 : k = (4 : Int32)
          · obtain ⟨T24, X24, e24, st24⟩ := getS2 X0 hx hZ hown (host := "") (Or.inl (hwi hw 20 rfl)) Via.refl e0 S_PAID (g := (mkF m 80 #[iv p1, iv k, .unset, .unset, .unset, .unset] [])) rfl (hb hby at_80)
            obtain ⟨cq25, kq25, q25a, q25b, q25c⟩ := isOf hZ e24 E_PAID
            obtain ⟨_, _, ⟨T25, L25, k25, n25⟩, -, X25, ⟨Lc25, hQ25, l25, y25, z25⟩, st25⟩ := X24.virtualBack hx (y := (⟨"com/example/owed_to_paid/owedtopaid/model/InvoiceStatus", "canBeCancelled", "()Z"⟩ : MethodName)) (z := (⟨"com/example/owed_to_paid/owedtopaid/model/InvoiceStatus", "canBeCancelled", "()Z"⟩ : MethodName)) hown (mvT hZ (hwi hw 4 rfl)) (mvT hZ (hwi hw 5 rfl)) (notFace_of_selects (args := #[]) (mvT hZ (hwi hw 7 rfl))) (mvT hZ (hwi hw 7 rfl)) (mvT hZ (hwi hw 6 rfl)) (by decide) (backOf (W := 0) (rmC l Z a0 hw [] w_PAID w_DRAFT w_SENT w_VIEWED w_PARTLY_PAID w_PAID w_CANCELLED h0 n0 Z0 hWd0) hZ (hwi hw 8 rfl) (hwi hw 2 rfl) (by decide) (by decide)) q25a q25c (g := (mkF m 118 #[iv p1, iv k, rv w_PAID, iv 0, iv 0, iv 0] [(.ref w_PAID)])) rfl (by rw [hml]; rfl) (Steps.refl _) (argsL := []) (rest := []) (lenOf pd_0 rfl) rfl (by show 2 * 0 + _ ≤ _; exact Nat.le_of_eq rfl) (hb hby at_118) (fun _ _ => ⟨rfl, e24, (by decide : 0 + 0 ≤ _), (by decide : 0 + 0 ≤ _)⟩)
            dsimp only [Pt.U, Pt.locs, Pt.cells, Pt.slots] at X25 l25 y25 z25 st25 hQ25
            subst l25 y25 z25
            obtain ⟨hv25, N25q, e25q⟩ := hQ25
            have N25 := Fr.app N0 N25q
            rw [show (if w_PAID = w_DRAFT ∨ w_PAID = w_SENT ∨ w_PAID = w_VIEWED then (1 : Int32) else 0) = 0 from by simp [(Fld.ne F_PAID F_DRAFT (by decide)), (Fld.ne F_PAID F_SENT (by decide)), (Fld.ne F_PAID F_VIEWED (by decide))]] at hv25
            subst hv25
            have pre26 : ∀ t_, Go p e below T25 (mkF m 131 #[iv p1, iv k, rv w_PAID, iv 0, iv 0, iv 0] [(.int 1)]) t_ → Go p e below s₁ (entryFrame m #[(.int p1)] maxLocals) t_ := fun t_ kt => pre22 _ (by
                show Go p e below s₁ (mkF m 77 #[iv p1, iv k, .unset, .unset, .unset, .unset] [(.int 4), (.int k)]) _
                refine XS.icmpNo X0.here hx rfl (hb hby at_77) rfl (teq hc77_23).2 ?_
                show Go p e below s₁ (mkF m 80 #[iv p1, iv k, .unset, .unset, .unset, .unset] []) _
                refine st24 _ ?_
                show Go p e below T24 (mkF m 83 #[iv p1, iv k, .unset, .unset, .unset, .unset] [(.ref w_PAID)]) _
                refine XS.astoreN X24.here hx rfl (hb hby at_83) rfl rfl (l' := #[iv p1, iv k, rv w_PAID, .unset, .unset, .unset]) rfl ?_
                show Go p e below T24 (mkF m 84 #[iv p1, iv k, rv w_PAID, .unset, .unset, .unset] []) _
                refine XS.iconst X24.here hx rfl (hb hby at_84) ?_
                show Go p e below T24 (mkF m 85 #[iv p1, iv k, rv w_PAID, .unset, .unset, .unset] [(.int 0)]) _
                refine XS.istoreN X24.here hx rfl (hb hby at_85) rfl (l' := #[iv p1, iv k, rv w_PAID, iv 0, .unset, .unset]) rfl ?_
                show Go p e below T24 (mkF m 86 #[iv p1, iv k, rv w_PAID, iv 0, .unset, .unset] []) _
                refine XS.iconst X24.here hx rfl (hb hby at_86) ?_
                show Go p e below T24 (mkF m 87 #[iv p1, iv k, rv w_PAID, iv 0, .unset, .unset] [(.int 0)]) _
                refine XS.istore X24.here hx rfl (hb hby at_87) rfl (l' := #[iv p1, iv k, rv w_PAID, iv 0, iv 0, .unset]) rfl ?_
                show Go p e below T24 (mkF m 89 #[iv p1, iv k, rv w_PAID, iv 0, iv 0, .unset] []) _
                refine XS.goto X24.here hx rfl (pc0 := 89) (pc' := 101) rfl (hb hby at_89) (by decide) (by decide) ?_
                show Go p e below T24 (mkF m 101 #[iv p1, iv k, rv w_PAID, iv 0, iv 0, .unset] []) _
                refine XS.iloadN X24.here hx rfl (hb hby at_101) rfl ?_
                show Go p e below T24 (mkF m 102 #[iv p1, iv k, rv w_PAID, iv 0, iv 0, .unset] [(.int 0)]) _
                refine XS.ifYes X24.here hx rfl (pc0 := 102) (pc' := 114) rfl (hb hby at_102) rfl ((if0 _ _).trans (teq ((by decide) : (0 : Int32) = (0 : Int32))).1) (by decide) (by decide) ?_
                show Go p e below T24 (mkF m 114 #[iv p1, iv k, rv w_PAID, iv 0, iv 0, .unset] []) _
                refine XS.iconst X24.here hx rfl (hb hby at_114) ?_
                show Go p e below T24 (mkF m 115 #[iv p1, iv k, rv w_PAID, iv 0, iv 0, .unset] [(.int 0)]) _
                refine XS.istore X24.here hx rfl (hb hby at_115) rfl (l' := #[iv p1, iv k, rv w_PAID, iv 0, iv 0, iv 0]) rfl ?_
                show Go p e below T24 (mkF m 117 #[iv p1, iv k, rv w_PAID, iv 0, iv 0, iv 0] []) _
                refine XS.aloadN X24.here hx rfl (hb hby at_117) rfl rfl ?_
                show Go p e below T24 (mkF m 118 #[iv p1, iv k, rv w_PAID, iv 0, iv 0, iv 0] [(.ref w_PAID)]) _
                refine st25.trans ?_
                show Go p e below T25 (mkF m 121 #[iv p1, iv k, rv w_PAID, iv 0, iv 0, iv 0] [(.int 0)]) _
                refine XS.iload X25.here hx rfl (hb hby at_121) rfl ?_
                show Go p e below T25 (mkF m 123 #[iv p1, iv k, rv w_PAID, iv 0, iv 0, iv 0] [(.int 0), (.int 0)]) _
                refine XS.icmpNo X25.here hx rfl (hb hby at_123) rfl (teq ((by decide) : (0 : Int32) = (0 : Int32))).2 ?_
                show Go p e below T25 (mkF m 126 #[iv p1, iv k, rv w_PAID, iv 0, iv 0, iv 0] []) _
                refine XS.iconst X25.here hx rfl (hb hby at_126) ?_
                show Go p e below T25 (mkF m 127 #[iv p1, iv k, rv w_PAID, iv 0, iv 0, iv 0] [(.int 1)]) _
                refine XS.goto X25.here hx rfl (pc0 := 127) (pc' := 131) rfl (hb hby at_127) (by decide) (by decide) ?_
                show Go p e below T25 (mkF m 131 #[iv p1, iv k, rv w_PAID, iv 0, iv 0, iv 0] [(.int 1)]) _
                exact kt)
            obtain ⟨fs, hr, hrun, hended, hW, hsame⟩ := X25.leave (v := some (.int 1)) (fun h => by rw [Bd.returns] at h; cases h)
            refine ⟨_, _, pre26 _ ?_, hrun, hended, _, _, rfl, ?_, ⟨_, rfl⟩, hW, hsame.mono (by decide) (by decide)⟩
            · show Steps p.tables e below (T25.setTop (mkF m 131 #[iv p1, iv k, rv w_PAID, iv 0, iv 0, iv 0] [(.int 1)])) _
              exact retN X25 hx (t := .boolean) Bd.returns (by simp) (hb hby at_131) hr
            · show Q_rmL Z p1 w_DRAFT w_SENT w_VIEWED w_PARTLY_PAID w_PAID w_CANCELLED h0 n0 _ T25.heap _
              rw [e25q]
              exact ⟨rfl, N25⟩
          · obtain ⟨T27, X27, e27, st27⟩ := getS2 X0 hx hZ hown (host := "") (Or.inl (hwi hw 18 rfl)) Via.refl e0 S_CANCELLED (g := (mkF m 92 #[iv p1, iv k, .unset, .unset, .unset, .unset] [])) rfl (hb hby at_92)
            obtain ⟨cq28, kq28, q28a, q28b, q28c⟩ := isOf hZ e27 E_CANCELLED
            obtain ⟨_, _, ⟨T28, L28, k28, n28⟩, -, X28, ⟨Lc28, hQ28, l28, y28, z28⟩, st28⟩ := X27.virtualBack hx (y := (⟨"com/example/owed_to_paid/owedtopaid/model/InvoiceStatus", "canBeCancelled", "()Z"⟩ : MethodName)) (z := (⟨"com/example/owed_to_paid/owedtopaid/model/InvoiceStatus", "canBeCancelled", "()Z"⟩ : MethodName)) hown (mvT hZ (hwi hw 4 rfl)) (mvT hZ (hwi hw 5 rfl)) (notFace_of_selects (args := #[]) (mvT hZ (hwi hw 7 rfl))) (mvT hZ (hwi hw 7 rfl)) (mvT hZ (hwi hw 6 rfl)) (by decide) (backOf (W := 0) (rmC l Z a0 hw [] w_CANCELLED w_DRAFT w_SENT w_VIEWED w_PARTLY_PAID w_PAID w_CANCELLED h0 n0 Z0 hWd0) hZ (hwi hw 8 rfl) (hwi hw 2 rfl) (by decide) (by decide)) q28a q28c (g := (mkF m 118 #[iv p1, iv k, rv w_CANCELLED, iv 1, iv 1, iv 0] [(.ref w_CANCELLED)])) rfl (by rw [hml]; rfl) (Steps.refl _) (argsL := []) (rest := []) (lenOf pd_0 rfl) rfl (by show 2 * 0 + _ ≤ _; exact Nat.le_of_eq rfl) (hb hby at_118) (fun _ _ => ⟨rfl, e27, (by decide : 0 + 0 ≤ _), (by decide : 0 + 0 ≤ _)⟩)
            dsimp only [Pt.U, Pt.locs, Pt.cells, Pt.slots] at X28 l28 y28 z28 st28 hQ28
            subst l28 y28 z28
            obtain ⟨hv28, N28q, e28q⟩ := hQ28
            have N28 := Fr.app N0 N28q
            rw [show (if w_CANCELLED = w_DRAFT ∨ w_CANCELLED = w_SENT ∨ w_CANCELLED = w_VIEWED then (1 : Int32) else 0) = 0 from by simp [(Fld.ne F_CANCELLED F_DRAFT (by decide)), (Fld.ne F_CANCELLED F_SENT (by decide)), (Fld.ne F_CANCELLED F_VIEWED (by decide))]] at hv28
            subst hv28
            have pre29 : ∀ t_, Go p e below T28 (mkF m 131 #[iv p1, iv k, rv w_CANCELLED, iv 1, iv 1, iv 0] [(.int 1)]) t_ → Go p e below s₁ (entryFrame m #[(.int p1)] maxLocals) t_ := fun t_ kt => pre22 _ (by
                show Go p e below s₁ (mkF m 77 #[iv p1, iv k, .unset, .unset, .unset, .unset] [(.int 4), (.int k)]) _
                refine XS.icmpYes X0.here hx rfl (pc0 := 77) (pc' := 92) rfl (hb hby at_77) rfl (feq hc77_23).2 (by decide) (by decide) ?_
                show Go p e below s₁ (mkF m 92 #[iv p1, iv k, .unset, .unset, .unset, .unset] []) _
                refine st27 _ ?_
                show Go p e below T27 (mkF m 95 #[iv p1, iv k, .unset, .unset, .unset, .unset] [(.ref w_CANCELLED)]) _
                refine XS.astoreN X27.here hx rfl (hb hby at_95) rfl rfl (l' := #[iv p1, iv k, rv w_CANCELLED, .unset, .unset, .unset]) rfl ?_
                show Go p e below T27 (mkF m 96 #[iv p1, iv k, rv w_CANCELLED, .unset, .unset, .unset] []) _
                refine XS.iconst X27.here hx rfl (hb hby at_96) ?_
                show Go p e below T27 (mkF m 97 #[iv p1, iv k, rv w_CANCELLED, .unset, .unset, .unset] [(.int 1)]) _
                refine XS.istoreN X27.here hx rfl (hb hby at_97) rfl (l' := #[iv p1, iv k, rv w_CANCELLED, iv 1, .unset, .unset]) rfl ?_
                show Go p e below T27 (mkF m 98 #[iv p1, iv k, rv w_CANCELLED, iv 1, .unset, .unset] []) _
                refine XS.iconst X27.here hx rfl (hb hby at_98) ?_
                show Go p e below T27 (mkF m 99 #[iv p1, iv k, rv w_CANCELLED, iv 1, .unset, .unset] [(.int 1)]) _
                refine XS.istore X27.here hx rfl (hb hby at_99) rfl (l' := #[iv p1, iv k, rv w_CANCELLED, iv 1, iv 1, .unset]) rfl ?_
                show Go p e below T27 (mkF m 101 #[iv p1, iv k, rv w_CANCELLED, iv 1, iv 1, .unset] []) _
                refine XS.iloadN X27.here hx rfl (hb hby at_101) rfl ?_
                show Go p e below T27 (mkF m 102 #[iv p1, iv k, rv w_CANCELLED, iv 1, iv 1, .unset] [(.int 1)]) _
                refine XS.ifNo X27.here hx rfl (hb hby at_102) rfl ((if0 _ _).trans (feq ((by decide) : ¬ ((1 : Int32) = (0 : Int32)))).1) ?_
                show Go p e below T27 (mkF m 105 #[iv p1, iv k, rv w_CANCELLED, iv 1, iv 1, .unset] []) _
                refine XS.iload X27.here hx rfl (hb hby at_105) rfl ?_
                show Go p e below T27 (mkF m 107 #[iv p1, iv k, rv w_CANCELLED, iv 1, iv 1, .unset] [(.int 1)]) _
                refine XS.ifYes X27.here hx rfl (pc0 := 107) (pc' := 114) rfl (hb hby at_107) rfl ((if0 _ _).trans (feq ((by decide) : ¬ ((1 : Int32) = (0 : Int32)))).2) (by decide) (by decide) ?_
                show Go p e below T27 (mkF m 114 #[iv p1, iv k, rv w_CANCELLED, iv 1, iv 1, .unset] []) _
                refine XS.iconst X27.here hx rfl (hb hby at_114) ?_
                show Go p e below T27 (mkF m 115 #[iv p1, iv k, rv w_CANCELLED, iv 1, iv 1, .unset] [(.int 0)]) _
                refine XS.istore X27.here hx rfl (hb hby at_115) rfl (l' := #[iv p1, iv k, rv w_CANCELLED, iv 1, iv 1, iv 0]) rfl ?_
                show Go p e below T27 (mkF m 117 #[iv p1, iv k, rv w_CANCELLED, iv 1, iv 1, iv 0] []) _
                refine XS.aloadN X27.here hx rfl (hb hby at_117) rfl rfl ?_
                show Go p e below T27 (mkF m 118 #[iv p1, iv k, rv w_CANCELLED, iv 1, iv 1, iv 0] [(.ref w_CANCELLED)]) _
                refine st28.trans ?_
                show Go p e below T28 (mkF m 121 #[iv p1, iv k, rv w_CANCELLED, iv 1, iv 1, iv 0] [(.int 0)]) _
                refine XS.iload X28.here hx rfl (hb hby at_121) rfl ?_
                show Go p e below T28 (mkF m 123 #[iv p1, iv k, rv w_CANCELLED, iv 1, iv 1, iv 0] [(.int 0), (.int 0)]) _
                refine XS.icmpNo X28.here hx rfl (hb hby at_123) rfl (teq ((by decide) : (0 : Int32) = (0 : Int32))).2 ?_
                show Go p e below T28 (mkF m 126 #[iv p1, iv k, rv w_CANCELLED, iv 1, iv 1, iv 0] []) _
                refine XS.iconst X28.here hx rfl (hb hby at_126) ?_
                show Go p e below T28 (mkF m 127 #[iv p1, iv k, rv w_CANCELLED, iv 1, iv 1, iv 0] [(.int 1)]) _
                refine XS.goto X28.here hx rfl (pc0 := 127) (pc' := 131) rfl (hb hby at_127) (by decide) (by decide) ?_
                show Go p e below T28 (mkF m 131 #[iv p1, iv k, rv w_CANCELLED, iv 1, iv 1, iv 0] [(.int 1)]) _
                exact kt)
            obtain ⟨fs, hr, hrun, hended, hW, hsame⟩ := X28.leave (v := some (.int 1)) (fun h => by rw [Bd.returns] at h; cases h)
            refine ⟨_, _, pre29 _ ?_, hrun, hended, _, _, rfl, ?_, ⟨_, rfl⟩, hW, hsame.mono (by decide) (by decide)⟩
            · show Steps p.tables e below (T28.setTop (mkF m 131 #[iv p1, iv k, rv w_CANCELLED, iv 1, iv 1, iv 0] [(.int 1)])) _
              exact retN X28 hx (t := .boolean) Bd.returns (by simp) (hb hby at_131) hr
            · show Q_rmL Z p1 w_DRAFT w_SENT w_VIEWED w_PARTLY_PAID w_PAID w_CANCELLED h0 n0 _ T28.heap _
              rw [e28q]
              exact ⟨rfl, N28⟩
set_option maxRecDepth 65536 in
set_option maxHeartbeats 40000000 in
theorem comes_1 {Post : Tables → Env → Array Value → State → Outcome → State → Prop} (hpost : ∀ tb e args s v u, (limb_1_1.after args s (.returned v) u = true ∧ limb_1_2.after args s (.returned v) u = true ∧ True) → FrameEnd s (.returned v) u (Jvm.fieldLocs frame_1_writes args s ++ Jvm.arrayLocs frame_1_arrays args s ++ Jvm.staticLocs frame_1_statics s) 0 0 → Post tb e args s (.returned v) u) :
    ArmFor flags0 classFile x code maxLocals ret World_1 tables_1 room_1 Calls_1 rest_1 Pre_1 Post := by
  intro l hfl _ _ p e ha hc hk s m args below hf hA hF happ hP
  obtain ⟨hcalls, hrest, hpre⟩ := hP
  obtain ⟨-, -, -, hnamed, -, -, -, hat⟩ := (Spec.applies_iff hf).mp happ
  obtain ⟨hg, hn⟩ := and_e (Cond.before_iff.mp (show (Jvm.Cond.and given_1 narrow_1).before args s = true from hpre))
  obtain ⟨g1, g2⟩ := and_e hg
  obtain ⟨w0, rfl⟩ : ∃ w0 : Value, args = #[w0] := by
    have hs : args.size = 1 := by simpa [Cond.value, given_1] using g1
    obtain ⟨L⟩ := args
    match L, hs with
    | [w0], _ => exact ⟨w0, rfl⟩
  have hw := fun d (hd : d ∈ tables_1) => atoms_spec (ws := Jvm.Cond.code x code maxLocals ret :: tables_1) hat d (List.mem_cons_of_mem _ hd)
  have hfit : Fit s := fun {y c} hc i hi => by
    obtain ⟨ha, rfl⟩ := Array.getElem?_eq_some_iff.mp hc
    have q := List.all_eq_true.mp ((Array.all_eq_true_iff_forall_mem.mp hF) _ (Array.getElem_mem ha)) i (List.mem_range.mpr hi)
    simpa [Array.getElem?_eq_getElem hi] using q
  obtain ⟨i0, ei0⟩ := is_v g2
  obtain rfl : w0 = (.int i0) := Option.some.inj ei0
  obtain ⟨g3, g4⟩ := and_e hn
  obtain ⟨g5, g6⟩ := and_e g4
  obtain ⟨g7, g8⟩ := and_e g6
  obtain ⟨g9, g10⟩ := and_e g8
  obtain ⟨g11, g12⟩ := and_e g10
  obtain ⟨g13, g14⟩ := and_e g12
  obtain ⟨g15, g16⟩ := and_e g14
  obtain ⟨g17, g18⟩ := and_e g16
  obtain ⟨g19, g20⟩ := and_e g18
  obtain ⟨g21, g22⟩ := and_e g20
  obtain ⟨g23, g24⟩ := and_e g22
  obtain ⟨w_DRAFT, ev_DRAFT⟩ := exa_v g3
  have E_DRAFT : Exa s s.heap w_DRAFT "com/example/owed_to_paid/owedtopaid/model/InvoiceStatus" := Exa.start ev_DRAFT g3
  have S_DRAFT : Sta s s.heap "com/example/owed_to_paid/owedtopaid/model/InvoiceStatus" "DRAFT" "Lcom/example/owed_to_paid/owedtopaid/model/InvoiceStatus;" (.ref w_DRAFT) := Sta.start ev_DRAFT (Or.inr ⟨(hwi hw 2 rfl), (hwi hw 3 rfl)⟩)
  obtain ⟨w_PARTLY_PAID, ev_PARTLY_PAID⟩ := exa_v g5
  have E_PARTLY_PAID : Exa s s.heap w_PARTLY_PAID "com/example/owed_to_paid/owedtopaid/model/InvoiceStatus" := Exa.start ev_PARTLY_PAID g5
  have S_PARTLY_PAID : Sta s s.heap "com/example/owed_to_paid/owedtopaid/model/InvoiceStatus" "PARTLY_PAID" "Lcom/example/owed_to_paid/owedtopaid/model/InvoiceStatus;" (.ref w_PARTLY_PAID) := Sta.start ev_PARTLY_PAID (Or.inr ⟨(hwi hw 2 rfl), (hwi hw 11 rfl)⟩)
  obtain ⟨w_SENT, ev_SENT⟩ := exa_v g11
  have E_SENT : Exa s s.heap w_SENT "com/example/owed_to_paid/owedtopaid/model/InvoiceStatus" := Exa.start ev_SENT g11
  have S_SENT : Sta s s.heap "com/example/owed_to_paid/owedtopaid/model/InvoiceStatus" "SENT" "Lcom/example/owed_to_paid/owedtopaid/model/InvoiceStatus;" (.ref w_SENT) := Sta.start ev_SENT (Or.inr ⟨(hwi hw 2 rfl), (hwi hw 13 rfl)⟩)
  obtain ⟨w_VIEWED, ev_VIEWED⟩ := exa_v g15
  have E_VIEWED : Exa s s.heap w_VIEWED "com/example/owed_to_paid/owedtopaid/model/InvoiceStatus" := Exa.start ev_VIEWED g15
  have S_VIEWED : Sta s s.heap "com/example/owed_to_paid/owedtopaid/model/InvoiceStatus" "VIEWED" "Lcom/example/owed_to_paid/owedtopaid/model/InvoiceStatus;" (.ref w_VIEWED) := Sta.start ev_VIEWED (Or.inr ⟨(hwi hw 2 rfl), (hwi hw 15 rfl)⟩)
  obtain ⟨w_CANCELLED, ev_CANCELLED⟩ := exa_v g19
  have E_CANCELLED : Exa s s.heap w_CANCELLED "com/example/owed_to_paid/owedtopaid/model/InvoiceStatus" := Exa.start ev_CANCELLED g19
  have S_CANCELLED : Sta s s.heap "com/example/owed_to_paid/owedtopaid/model/InvoiceStatus" "CANCELLED" "Lcom/example/owed_to_paid/owedtopaid/model/InvoiceStatus;" (.ref w_CANCELLED) := Sta.start ev_CANCELLED (Or.inr ⟨(hwi hw 2 rfl), (hwi hw 19 rfl)⟩)
  obtain ⟨w_PAID, ev_PAID⟩ := exa_v g23
  have E_PAID : Exa s s.heap w_PAID "com/example/owed_to_paid/owedtopaid/model/InvoiceStatus" := Exa.start ev_PAID g23
  have S_PAID : Sta s s.heap "com/example/owed_to_paid/owedtopaid/model/InvoiceStatus" "PAID" "Lcom/example/owed_to_paid/owedtopaid/model/InvoiceStatus;" (.ref w_PAID) := Sta.start ev_PAID (Or.inr ⟨(hwi hw 2 rfl), (hwi hw 21 rfl)⟩)
  have F_PARTLY_PAID : Fld s s.heap w_PARTLY_PAID "java/lang/Enum" "ordinal" "I" (.int (3 : Int32)) := Fld.start ((fld_at ev_PARTLY_PAID).symm.trans (eqv_i (Term.int_eval _) g7))
  have F_DRAFT : Fld s s.heap w_DRAFT "java/lang/Enum" "ordinal" "I" (.int (0 : Int32)) := Fld.start ((fld_at ev_DRAFT).symm.trans (eqv_i (Term.int_eval _) g9))
  have F_SENT : Fld s s.heap w_SENT "java/lang/Enum" "ordinal" "I" (.int (1 : Int32)) := Fld.start ((fld_at ev_SENT).symm.trans (eqv_i (Term.int_eval _) g13))
  have F_VIEWED : Fld s s.heap w_VIEWED "java/lang/Enum" "ordinal" "I" (.int (2 : Int32)) := Fld.start ((fld_at ev_VIEWED).symm.trans (eqv_i (Term.int_eval _) g17))
  have F_CANCELLED : Fld s s.heap w_CANCELLED "java/lang/Enum" "ordinal" "I" (.int (5 : Int32)) := Fld.start ((fld_at ev_CANCELLED).symm.trans (eqv_i (Term.int_eval _) g21))
  have F_PAID : Fld s s.heap w_PAID "java/lang/Enum" "ordinal" "I" (.int (4 : Int32)) := Fld.start ((fld_at ev_PAID).symm.trans (eqv_i (Term.int_eval _) g24))
  obtain ⟨n, o, h1, h2, h3, _, L, rfl, ⟨rfl, N⟩, hq⟩ := rmL l s _ hw tables_1 i0 w_DRAFT w_SENT w_VIEWED w_PARTLY_PAID w_PAID w_CANCELLED s.heap s.heap.size (Nat.le_refl _) ⟨⟨S_DRAFT, E_DRAFT, F_DRAFT⟩, ⟨S_SENT, E_SENT, F_SENT⟩, ⟨S_VIEWED, E_VIEWED, F_VIEWED⟩, ⟨S_PARTLY_PAID, E_PARTLY_PAID, F_PARTLY_PAID⟩, ⟨S_PAID, E_PAID, F_PAID⟩, ⟨S_CANCELLED, E_CANCELLED, F_CANCELLED⟩⟩ p e ha hc hk s m _ below hf ((Spec.applies_iff_loose hf).mp happ).1 ⟨rfl, State.Warmed39.refl s, rfl⟩ trivial
  refine ⟨n, _, h1, h2, h3, hpost _ _ _ _ _ _ ⟨Cond.after_iff.mpr rfl, Cond.after_iff.mpr (eq_i res_at (Term.int_eval (1)) rfl), trivial⟩ ⟨hq.1, hq.2.1, (hq.2.2.sift fun y hy => Or.inr (N y hy)).mono (by decide) (by decide)⟩⟩
theorem main_1_1 : Claimed_1_1 := comes_1 fun _ _ _ _ _ _ h hF => ⟨h.1, hF⟩
theorem main_1_2 : Claimed_1_2 := comes_1 fun _ _ _ _ _ _ h hF => ⟨h.2.1, hF⟩
end Jvm.Pilot.@@N@@
namespace Jvm.Pilot.@@N@@
open Jvm Jvm.ClassFile Sem Op Lib Jvm.Free Jvm.Stand Jvm.Pilot.@@N@@.Jvm.D
/-! MADE BY PROGRAM (witnessworld.py) out of the Statement's table words and the real class files: 13 classes; the members and pool entries that the words name. The judged class is class 1, her method 1. -/
namespace start1
open Jvm.ClassFile
def u (s : String) : CpInfo := .utf8 (stringToUtf16 s)
/-- a pool by its gaps: so many unusable entries, then the entry; so many at the end -/
def gap : Nat → List CpInfo → List CpInfo
  | 0, r => r
  | n + 1, r => .unusable :: gap n r
def poolList (es : List (Nat × CpInfo)) (last : Nat) : List CpInfo := es.foldr (fun e r => gap e.1 (e.2 :: r)) (gap last [])
def pool (es : List (Nat × CpInfo)) (last : Nat) : Array CpInfo := ⟨poolList es last⟩
def fileOf (pool : Array CpInfo) (this : Nat) (attrs : Array Attribute := #[]) (ms : Array MethodInfo := #[]) (fl : Nat := 33) (sup : Nat := 0) (ifs : Array Nat := #[]) (fds : Array FieldInfo := #[]) : ClassFile where
  minorVersion := 0
  majorVersion := 65
  constantPool := pool
  accessFlags := fl
  thisClass := this
  superClass := sup
  interfaces := ifs
  fields := fds
  methods := ms
  attributes := attrs
def plain (name : String) (sup : Option ClassId) : Class where
  name := name
  kind := .ordinary
  loader := none
  accessFlags := 33
  super := sup
  interfaces := #[]
  cf := none
  fields := #[]
  methods := #[]
  instanceTypes := #[]
  staticTypes := #[]
  resolved := #[]
  callSites := []
  init := .initialized
  statics := none
  mirror := none

def pool0 : Array CpInfo := pool [(5, u "<init>"), (0, u "()V"), (1, .class_ 10), (1, u "java/lang/Object")] 113

def k0m0 : Method := { name := "<init>", desc := "()V", sig := { parameters := [], returnType := none }, accessFlags := 1, code := none }
/-- java/lang/Object -/
def k0 : Class := { plain "java/lang/Object" none with
  accessFlags := 33
  interfaces := #[]
  cf := some (fileOf pool0 8 #[] #[{ accessFlags := 1, nameIndex := 5, descriptorIndex := 6, attributes := #[] }] 33 0 #[] #[])
  fields := #[]
  methods := #[k0m0]
  instanceTypes := #[]
  staticTypes := #[]
  resolved := Array.replicate 124 none
  statics := none }

def pool1 : Array CpInfo := pool [(2, .class_ 4), (1, u "java/lang/Object"), (0, u "<init>"), (0, u "()V"), (0, .integer 2147483647), (0, .fieldref 9 10), (0, .class_ 11), (0, .nameAndType 12 13), (0, u "com/example/owed_to_paid/owedtopaid/model/InvoiceStatus"), (0, u "DRAFT"), (0, u "Lcom/example/owed_to_paid/owedtopaid/model/InvoiceStatus;"), (0, .fieldref 9 15), (0, .nameAndType 16 13), (0, u "SENT"), (0, .fieldref 9 18), (0, .nameAndType 19 13), (0, u "VIEWED"), (0, .fieldref 9 21), (0, .nameAndType 22 13), (0, u "PARTLY_PAID"), (0, .fieldref 9 24), (0, .nameAndType 25 13), (0, u "PAID"), (0, .fieldref 9 27), (0, .nameAndType 28 13), (0, u "CANCELLED"), (0, .methodref 9 30), (0, .nameAndType 31 32), (0, u "canBeCancelled"), (0, u "()Z"), (0, .class_ 34), (0, u "com/example/owed_to_paid/owedtopaid/model/InvoiceStatusCanBeCancelledPinLaw"), (2, u "law"), (0, u "(I)Z")] 3

def k1m0 : Method := { name := "<init>", desc := "()V", sig := { parameters := [], returnType := none }, accessFlags := 2, code := none }
def k1c1 : Code := { maxStack := 2, maxLocals := 6, code := code, exceptionTable := #[], attributes := #[] }
def k1m1 : Method := { name := "law", desc := "(I)Z", sig := { parameters := [.int], returnType := some .boolean }, accessFlags := 9, code := some k1c1 }
/-- com/example/owed_to_paid/owedtopaid/model/InvoiceStatusCanBeCancelledPinLaw -/
def k1 : Class := { plain "com/example/owed_to_paid/owedtopaid/model/InvoiceStatusCanBeCancelledPinLaw" (some 0) with
  accessFlags := 49
  interfaces := #[]
  cf := some (fileOf pool1 33 #[] #[{ accessFlags := 2, nameIndex := 5, descriptorIndex := 6, attributes := #[] }, { accessFlags := 9, nameIndex := 37, descriptorIndex := 38, attributes := #[] }] 49 2 #[] #[])
  fields := #[]
  methods := #[k1m0, k1m1]
  instanceTypes := #[]
  staticTypes := #[]
  resolved := Array.replicate 42 none
  statics := none }

def pool2 : Array CpInfo := pool [(1, .class_ 2), (0, u "java/lang/constant/Constable"), (0, .class_ 4), (0, u "java/lang/Object")] 6

/-- java/lang/constant/Constable -/
def k2 : Class := { plain "java/lang/constant/Constable" (some 0) with
  accessFlags := 1537
  interfaces := #[]
  cf := some (fileOf pool2 1 #[] #[] 1537 3 #[] #[])
  fields := #[]
  methods := #[]
  instanceTypes := #[]
  staticTypes := #[]
  resolved := Array.replicate 11 none
  statics := none }

def pool3 : Array CpInfo := pool [(1, .class_ 2), (0, u "java/lang/Comparable"), (0, .class_ 4), (0, u "java/lang/Object")] 7

/-- java/lang/Comparable -/
def k3 : Class := { plain "java/lang/Comparable" (some 0) with
  accessFlags := 1537
  interfaces := #[]
  cf := some (fileOf pool3 1 #[] #[] 1537 3 #[] #[])
  fields := #[]
  methods := #[]
  instanceTypes := #[]
  staticTypes := #[]
  resolved := Array.replicate 12 none
  statics := none }

def pool4 : Array CpInfo := pool [(1, .class_ 2), (0, u "java/io/Serializable"), (0, .class_ 4), (0, u "java/lang/Object")] 2

/-- java/io/Serializable -/
def k4 : Class := { plain "java/io/Serializable" (some 0) with
  accessFlags := 1537
  interfaces := #[]
  cf := some (fileOf pool4 1 #[] #[] 1537 3 #[] #[])
  fields := #[]
  methods := #[]
  instanceTypes := #[]
  staticTypes := #[]
  resolved := Array.replicate 7 none
  statics := none }

def pool5 : Array CpInfo := pool [(2, .class_ 4), (1, u "java/lang/Enum"), (0, u "name"), (0, u "Ljava/lang/String;"), (2, u "ordinal"), (0, u "I"), (1, .class_ 14), (1, u "java/lang/Object"), (4, u "hash"), (86, .class_ 108), (1, u "java/lang/Enum$EnumDesc"), (2, .class_ 112), (0, u "java/lang/constant/Constable"), (0, .class_ 114), (0, u "java/lang/Comparable"), (0, .class_ 116), (0, u "java/io/Serializable")] 87

/-- java/lang/Enum -/
def k5 : Class := { plain "java/lang/Enum" (some 0) with
  accessFlags := 1057
  interfaces := #[2, 3, 4]
  cf := some (fileOf pool5 2 #[.nestMembers #[106]] #[] 1057 12 #[111, 113, 115] #[{ accessFlags := 18, nameIndex := 5, descriptorIndex := 6, attributes := #[] }, { accessFlags := 18, nameIndex := 9, descriptorIndex := 10, attributes := #[] }, { accessFlags := 2, nameIndex := 19, descriptorIndex := 10, attributes := #[] }])
  fields := #[{ name := "name", type := (.object "java/lang/String"), accessFlags := 18, slot := 0, constantValue := 0 }, { name := "ordinal", type := .int, accessFlags := 18, slot := 1, constantValue := 0 }, { name := "hash", type := .int, accessFlags := 2, slot := 2, constantValue := 0 }]
  methods := #[]
  instanceTypes := #[(.object "java/lang/String"), .int, .int]
  staticTypes := #[]
  resolved := Array.replicate 204 none
  statics := none }

def pool6 : Array CpInfo := pool [(8, .class_ 10), (1, u "com/example/owed_to_paid/owedtopaid/model/Coded"), (28, .class_ 40), (0, u "java/lang/Object")] 26

/-- com/example/owed_to_paid/owedtopaid/model/Coded -/
def k6 : Class := { plain "com/example/owed_to_paid/owedtopaid/model/Coded" (some 0) with
  accessFlags := 1537
  interfaces := #[]
  cf := some (fileOf pool6 8 #[] #[] 1537 39 #[] #[])
  fields := #[]
  methods := #[]
  instanceTypes := #[]
  staticTypes := #[]
  resolved := Array.replicate 67 none
  statics := none }

def pool7 : Array CpInfo := pool [(1, .class_ 2), (0, u "com/example/owed_to_paid/owedtopaid/model/InvoiceStatus"), (0, .fieldref 1 4), (0, .nameAndType 5 6), (0, u "DRAFT"), (0, u "Lcom/example/owed_to_paid/owedtopaid/model/InvoiceStatus;"), (0, .fieldref 1 8), (0, .nameAndType 9 6), (0, u "SENT"), (0, .fieldref 1 11), (0, .nameAndType 12 6), (0, u "VIEWED"), (2, u "PARTLY_PAID"), (2, u "PAID"), (2, u "CANCELLED"), (2, u "$VALUES"), (0, u "[Lcom/example/owed_to_paid/owedtopaid/model/InvoiceStatus;"), (6, .class_ 34), (1, u "java/lang/Enum"), (8, u "title"), (0, u "Ljava/lang/String;"), (19, u "()Z"), (25, .class_ 92), (1, u "com/example/owed_to_paid/owedtopaid/model/Coded"), (35, u "canBeCancelled")] 8

def k7c0 : Code := { maxStack := 2, maxLocals := 1, code := prog_17_method_8_code, exceptionTable := #[], attributes := #[] }
def k7m0 : Method := { name := "canBeCancelled", desc := "()Z", sig := { parameters := [], returnType := some .boolean }, accessFlags := 1, code := some k7c0 }
/-- com/example/owed_to_paid/owedtopaid/model/InvoiceStatus -/
def k7 : Class := { plain "com/example/owed_to_paid/owedtopaid/model/InvoiceStatus" (some 5) with
  accessFlags := 16433
  interfaces := #[6]
  cf := some (fileOf pool7 1 #[] #[{ accessFlags := 1, nameIndex := 128, descriptorIndex := 64, attributes := #[] }] 16433 32 #[90] #[{ accessFlags := 16409, nameIndex := 5, descriptorIndex := 6, attributes := #[] }, { accessFlags := 16409, nameIndex := 9, descriptorIndex := 6, attributes := #[] }, { accessFlags := 16409, nameIndex := 12, descriptorIndex := 6, attributes := #[] }, { accessFlags := 16409, nameIndex := 15, descriptorIndex := 6, attributes := #[] }, { accessFlags := 16409, nameIndex := 18, descriptorIndex := 6, attributes := #[] }, { accessFlags := 16409, nameIndex := 21, descriptorIndex := 6, attributes := #[] }, { accessFlags := 18, nameIndex := 43, descriptorIndex := 44, attributes := #[] }, { accessFlags := 4122, nameIndex := 24, descriptorIndex := 25, attributes := #[] }])
  fields := #[{ name := "DRAFT", type := (.object "com/example/owed_to_paid/owedtopaid/model/InvoiceStatus"), accessFlags := 16409, slot := 0, constantValue := 0 }, { name := "SENT", type := (.object "com/example/owed_to_paid/owedtopaid/model/InvoiceStatus"), accessFlags := 16409, slot := 1, constantValue := 0 }, { name := "VIEWED", type := (.object "com/example/owed_to_paid/owedtopaid/model/InvoiceStatus"), accessFlags := 16409, slot := 2, constantValue := 0 }, { name := "PARTLY_PAID", type := (.object "com/example/owed_to_paid/owedtopaid/model/InvoiceStatus"), accessFlags := 16409, slot := 3, constantValue := 0 }, { name := "PAID", type := (.object "com/example/owed_to_paid/owedtopaid/model/InvoiceStatus"), accessFlags := 16409, slot := 4, constantValue := 0 }, { name := "CANCELLED", type := (.object "com/example/owed_to_paid/owedtopaid/model/InvoiceStatus"), accessFlags := 16409, slot := 5, constantValue := 0 }, { name := "title", type := (.object "java/lang/String"), accessFlags := 18, slot := 3, constantValue := 0 }, { name := "$VALUES", type := (.array (.object "com/example/owed_to_paid/owedtopaid/model/InvoiceStatus")), accessFlags := 4122, slot := 6, constantValue := 0 }]
  methods := #[k7m0]
  instanceTypes := #[(.object "java/lang/String"), .int, .int, (.object "java/lang/String")]
  staticTypes := #[(.object "com/example/owed_to_paid/owedtopaid/model/InvoiceStatus"), (.object "com/example/owed_to_paid/owedtopaid/model/InvoiceStatus"), (.object "com/example/owed_to_paid/owedtopaid/model/InvoiceStatus"), (.object "com/example/owed_to_paid/owedtopaid/model/InvoiceStatus"), (.object "com/example/owed_to_paid/owedtopaid/model/InvoiceStatus"), (.object "com/example/owed_to_paid/owedtopaid/model/InvoiceStatus"), (.array (.object "com/example/owed_to_paid/owedtopaid/model/InvoiceStatus"))]
  resolved := Array.replicate 137 none
  statics := some 0 }

def pool8 : Array CpInfo := pool [(1, u "java/lang/Cloneable"), (0, .class_ 1), (0, u "java/lang/Object"), (0, .class_ 3)] 3

/-- java/lang/Cloneable -/
def k8 : Class := { plain "java/lang/Cloneable" (some 0) with
  accessFlags := 1537
  interfaces := #[]
  cf := some (fileOf pool8 2 #[] #[] 1537 4 #[] #[])
  fields := #[]
  methods := #[]
  instanceTypes := #[]
  staticTypes := #[]
  resolved := Array.replicate 8 none
  statics := none }

/-- the primitive byte -/
def k9 : Class := { plain "byte" none with kind := .primitive 'B', accessFlags := 0x411 }
/-- [B -/
def k10 : Class := { plain "[B" (some 0) with kind := .array 9 .byte, interfaces := #[8, 4], accessFlags := 1041 }

/-- the primitive int -/
def k11 : Class := { plain "int" none with kind := .primitive 'I', accessFlags := 0x411 }
/-- [I -/
def k12 : Class := { plain "[I" (some 0) with kind := .array 11 .int, interfaces := #[8, 4], accessFlags := 1041 }

def heap : Heap := #[{ cls := 7, slots := #[.ref 1, .ref 2, .ref 3, .ref 4, .ref 5, .ref 6, .null], vm := .statics 7 },
  { cls := 7, slots := #[.null, .int 0, .int 0, .null], vm := .none },
  { cls := 7, slots := #[.null, .int 1, .int 0, .null], vm := .none },
  { cls := 7, slots := #[.null, .int 2, .int 0, .null], vm := .none },
  { cls := 7, slots := #[.null, .int 3, .int 0, .null], vm := .none },
  { cls := 7, slots := #[.null, .int 4, .int 0, .null], vm := .none },
  { cls := 7, slots := #[.null, .int 5, .int 0, .null], vm := .none }]
def classes : Array Class := #[k0, k1, k2, k3, k4, k5, k6, k7, k8, k9, k10, k11, k12]
def interned : List (Array UInt16 × Addr) := []
def slotsUsed : Nat := 31
def theMethod : MethodId := ⟨1, 1⟩
def args0 : Array Value := #[.int 5]
def aboutOver (below : List Frame) : State where
  vm := { classes := classes, interned := interned.toArray }
  heap := heap
  slotsUsed := slotsUsed
  threads := #[{ frames := .invoking theMethod args0 :: below }]
def below0 : List Frame := [.native { method := ⟨0, 0⟩, args := #[] }]
def about1 : State := aboutOver below0
def p0 : Program := .bare "" "" ""
def e0 : Env := launch0.env 0 0 0
theorem w_frames : about1.frames = Frame.invoking theMethod args0 :: below0 := rfl
set_option maxRecDepth 65536 in
theorem w_args : argsFit about1.vm theMethod args0 = true := by decide +kernel
set_option maxRecDepth 65536 in
theorem w_heap : heapFits about1 = true := by decide +kernel
set_option maxRecDepth 65536 in
theorem w_runnable : about1.curStatus? = some .runnable := by decide +kernel
set_option maxRecDepth 65536 in
theorem w_alone : about1.alone = true := by decide +kernel
set_option maxRecDepth 65536 in
theorem w_named : about1.methodNamed? x = some theMethod := by decide +kernel
set_option maxRecDepth 65536 in
theorem w_hears : about1.hears theMethod below0 = true := by decide +kernel
set_option maxRecDepth 65536 in
theorem w_ripe : about1.ripe theMethod args0 below0 = true := by decide +kernel
theorem w_running : about1.status = .running := rfl
set_option maxRecDepth 65536 in
theorem w_room : about1.hasRoom e0.platform room_1 = true :=
  launch0.hasRoom_least _ room_1 (by decide +kernel) (by decide +kernel) (by decide +kernel) (by decide +kernel) (by decide +kernel) (by decide +kernel)
theorem allAtoms_all (ts : List Jvm.Cond) (a : Array Jvm.Value) (st : Jvm.State) : (allAtoms ts).before a st = ts.all (fun c => c.before a st) := by
  induction ts with
  | nil => rfl
  | cons c t ih =>
    show (Jvm.Cond.and c (allAtoms t)).before a st = _
    rw [Jvm.Cond.before_and, ih, List.all_cons]
def words1 : List Jvm.Cond := Jvm.Cond.code x code maxLocals ret :: tables_1
/-- a 'code' word, met by the world's own term for the bytes: nothing is compared byte by byte -/
theorem code_word {y : MethodName} {bytes : ByteArray} {mx : Nat} {rt : Option FieldType} {a : Array Value} {s : State} {m : MethodId} {meth : Method} {c : Code} (h1 : s.methodNamed? y = some m) (h2 : s.vm.method? m = some meth) (h3 : meth.code = some c) (h4 : c.code = bytes)
    (h5 : (c.maxLocals == mx && c.exceptionTable.isEmpty && decide (c.maxStack ≤ mostOperands) && decide (meth.sig.returnType = rt) && !meth.locks && decide (parseMethodDescriptor y.desc = some meth.sig)) = true) : (Jvm.Cond.code y bytes mx rt).before a s = true := by
  simp only [Bool.and_eq_true, beq_iff_eq, Bool.not_eq_true', decide_eq_true_eq] at h5
  obtain ⟨⟨⟨⟨⟨g1, g2⟩, g3⟩, g4⟩, g5⟩, g6⟩ := h5
  simp [Cond.before, Cond.holds, Cond.value, h1, h2, h3, h4, g1, g2, g3, g4, g5, g6]
def isCode : Jvm.Cond → Bool
  | .code _ _ _ _ => true
  | _ => false
theorem all_split {L : List Jvm.Cond} {P : Jvm.Cond → Bool} (h1 : L.all (fun c => isCode c || P c) = true) (h2 : ∀ c ∈ L.filter isCode, P c = true) : L.all P = true := by
  refine List.all_eq_true.mpr fun c hc => ?_
  have h := List.all_eq_true.mp h1 c hc
  rcases Bool.eq_false_or_eq_true (isCode c) with hi | hi
  · exact h2 c (List.mem_filter.mpr ⟨hc, hi⟩)
  · simpa [hi] using h
set_option maxRecDepth 65536 in
theorem w_c0 : (Jvm.Cond.code x code maxLocals ret).before args0 about1 = true := code_word (m := ⟨1, 1⟩) (meth := k1m1) (c := k1c1) (by decide +kernel) rfl rfl rfl (by decide +kernel)
set_option maxRecDepth 65536 in
theorem w_c1 : (Jvm.Cond.code ({ cls := "com/example/owed_to_paid/owedtopaid/model/InvoiceStatus", name := "canBeCancelled", desc := "()Z" } : Jvm.MethodName) prog_17_method_8_code (1 : Nat) (Option.some Jvm.ClassFile.FieldType.boolean)).before args0 about1 = true := code_word (m := ⟨7, 0⟩) (meth := k7m0) (c := k7c0) (by decide +kernel) rfl rfl rfl (by decide +kernel)
def codes1 : List Jvm.Cond := [Jvm.Cond.code x code maxLocals ret, Jvm.Cond.code ({ cls := "com/example/owed_to_paid/owedtopaid/model/InvoiceStatus", name := "canBeCancelled", desc := "()Z" } : Jvm.MethodName) prog_17_method_8_code (1 : Nat) (Option.some Jvm.ClassFile.FieldType.boolean)]
set_option maxRecDepth 65536 in
theorem codes_eq : words1.filter isCode = codes1 := rfl
theorem w_codes : ∀ c ∈ words1.filter isCode, c.before args0 about1 = true := by
  rw [codes_eq]
  intro c hc
  simp only [codes1, List.mem_cons, List.not_mem_nil, or_false] at hc
  rcases hc with rfl | rfl
  · exact w_c0
  · exact w_c1
set_option maxRecDepth 65536 in
theorem w_t1 : words1.all (fun c => isCode c || c.before args0 about1) = true := by decide +kernel
theorem w_tables : (allAtoms (Jvm.Cond.code x code maxLocals ret :: tables_1)).before args0 about1 = true := by
  rw [allAtoms_all]
  show words1.all (fun c => c.before args0 about1) = true
  refine all_split ?_ w_codes
  rw [w_t1]
set_option maxRecDepth 65536 in
theorem w_case : (Jvm.Cond.and given_1 narrow_1).before args0 about1 = true := by decide +kernel
theorem w_applies : (headSpec (Jvm.Cond.code x code maxLocals ret :: tables_1) room_1).applies x e0.platform about1 = true :=
  (Spec.applies_iff w_frames).mpr ⟨w_running, w_runnable, w_alone, w_named, w_hears, w_ripe, w_room, w_tables⟩
theorem atStart : AtStart classFile x code maxLocals ret World_1 tables_1 room_1 Calls_1 rest_1 Pre_1 launch0 p0 e0 about1 theMethod args0 below0 :=
  ⟨lists_1, trivial, launch0.admits_env _ _ _, launch0.least_env, fairChoices_fair.cas, fairChoices_fair.clock, w_frames, w_args, w_heap, w_applies, trivial, trivial, w_case⟩
end start1
theorem witness_1 : WitnessClaimed_1 := ⟨start1.p0, start1.e0, start1.about1, start1.theMethod, start1.args0, start1.below0, start1.atStart⟩
end Jvm.Pilot.@@N@@
