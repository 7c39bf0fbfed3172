import JvmDerived
import JvmDerived.Pilot.@@N@@Statement
import JvmDerived.Pilot.@@N@@Code
set_option linter.unusedVariables false
set_option linter.unusedSimpArgs false
namespace Jvm.RoadKit
open Sem ClassFile Op Lib Jvm.Stand Jvm.Free Jvm.LawKit
section New
variable {p : Program} {l : Launch} {e : Env} {R : Room} {s : State} {m : MethodId} {args : Array Value} {below : List Frame} {meth : Method} {c : Code} {T : State} {locs : List Loc} {cells slots : Nat}
theorem retI (X : Stand p l e R s m args below meth c T locs cells slots) (hx : p.tables.exec = Jvm.exec) {pc : Nat} {Ls : Array Slot} {z : Int32} {rest : List Value} (hret : meth.sig.returnType = some .int) (hd : decode c.code pc = .ok (.ireturn, 1)) {fs : List Frame}
    (hl : ∀ (f : JFrame) (acts : List Action), f.method = m → f.locked = none → f.entered = [] → (doReturn e (T.setTop f) acts (some (.int z))).1 = T.setFrames fs) : Steps p.tables e below (T.setTop (mkF m pc Ls (.int z :: rest))) (T.setFrames fs) := by
  have hm' : T.vm.method? m = some meth := X.method'
  have hn : narrow .int (.int z) = .int z := rfl
  show Steps p.tables e below (T.setTop { method := m, pc := pc, locals := Ls, stack := _ :: rest, locked := none }) _
  jvm_step X.here [X.here.top, hx, hd, hm', hret, hn]
  first | (intro acts; rw [hl _ acts rfl rfl rfl]) | rw [hl _ _ rfl rfl rfl]
  exact Steps.refl _
end New
end Jvm.RoadKit
namespace Jvm.Pilot.@@N@@
open Jvm Jvm.ClassFile Sem Op Lib Jvm.Free Jvm.Stand Jvm.LawKit Jvm.RoadKit Bundle Jvm.Pilot.@@N@@.Jvm.D
abbrev Go (p : Program) (e : Env) (below : List Frame) (T : State) (g : JFrame) (t : State) : Prop := Steps p.tables e below (T.setTop g) t
theorem hwi {Z : State} {a0 : Array Value} (hw : ∀ d ∈ tables_1, d.before a0 Z = true) {d : Jvm.Cond} (i : Nat) (q : tables_1[i]? = some d) : d.before a0 Z = true := hw _ (List.mem_of_getElem? q)

def Wd (Z : State) (h : Heap) (w_DRAFT w_SENT w_VIEWED w_PARTLY_PAID w_PAID w_CANCELLED : Addr) : Prop := (Sta Z h "com/example/owed_to_paid/owedtopaid/model/InvoiceStatus" "DRAFT" "Lcom/example/owed_to_paid/owedtopaid/model/InvoiceStatus;" (.ref w_DRAFT) ∧ Exa Z h w_DRAFT "com/example/owed_to_paid/owedtopaid/model/InvoiceStatus" ∧ Fld Z h w_DRAFT "java/lang/Enum" "ordinal" "I" (.int (0 : Int32))) ∧ (Sta Z h "com/example/owed_to_paid/owedtopaid/model/InvoiceStatus" "SENT" "Lcom/example/owed_to_paid/owedtopaid/model/InvoiceStatus;" (.ref w_SENT) ∧ Exa Z h w_SENT "com/example/owed_to_paid/owedtopaid/model/InvoiceStatus" ∧ Fld Z h w_SENT "java/lang/Enum" "ordinal" "I" (.int (1 : Int32))) ∧ (Sta Z h "com/example/owed_to_paid/owedtopaid/model/InvoiceStatus" "VIEWED" "Lcom/example/owed_to_paid/owedtopaid/model/InvoiceStatus;" (.ref w_VIEWED) ∧ Exa Z h w_VIEWED "com/example/owed_to_paid/owedtopaid/model/InvoiceStatus" ∧ Fld Z h w_VIEWED "java/lang/Enum" "ordinal" "I" (.int (2 : Int32))) ∧ (Sta Z h "com/example/owed_to_paid/owedtopaid/model/InvoiceStatus" "PARTLY_PAID" "Lcom/example/owed_to_paid/owedtopaid/model/InvoiceStatus;" (.ref w_PARTLY_PAID) ∧ Exa Z h w_PARTLY_PAID "com/example/owed_to_paid/owedtopaid/model/InvoiceStatus" ∧ Fld Z h w_PARTLY_PAID "java/lang/Enum" "ordinal" "I" (.int (3 : Int32))) ∧ (Sta Z h "com/example/owed_to_paid/owedtopaid/model/InvoiceStatus" "PAID" "Lcom/example/owed_to_paid/owedtopaid/model/InvoiceStatus;" (.ref w_PAID) ∧ Exa Z h w_PAID "com/example/owed_to_paid/owedtopaid/model/InvoiceStatus" ∧ Fld Z h w_PAID "java/lang/Enum" "ordinal" "I" (.int (4 : Int32))) ∧ (Sta Z h "com/example/owed_to_paid/owedtopaid/model/InvoiceStatus" "CANCELLED" "Lcom/example/owed_to_paid/owedtopaid/model/InvoiceStatus;" (.ref w_CANCELLED) ∧ Exa Z h w_CANCELLED "com/example/owed_to_paid/owedtopaid/model/InvoiceStatus" ∧ Fld Z h w_CANCELLED "java/lang/Enum" "ordinal" "I" (.int (5 : Int32)))
theorem Wd_ext {Z : State} {h h' : Heap} {w_DRAFT w_SENT w_VIEWED w_PARTLY_PAID w_PAID w_CANCELLED : Addr} (W : Wd Z h w_DRAFT w_SENT w_VIEWED w_PARTLY_PAID w_PAID w_CANCELLED) (E : Ext h h') : Wd Z h' w_DRAFT w_SENT w_VIEWED w_PARTLY_PAID w_PAID w_CANCELLED := by
  obtain ⟨⟨S_DRAFT, E_DRAFT, F_DRAFT⟩, ⟨S_SENT, E_SENT, F_SENT⟩, ⟨S_VIEWED, E_VIEWED, F_VIEWED⟩, ⟨S_PARTLY_PAID, E_PARTLY_PAID, F_PARTLY_PAID⟩, ⟨S_PAID, E_PAID, F_PAID⟩, ⟨S_CANCELLED, E_CANCELLED, F_CANCELLED⟩⟩ := W
  exact ⟨⟨S_DRAFT.ext E, E_DRAFT.ext E, F_DRAFT.ext E⟩, ⟨S_SENT.ext E, E_SENT.ext E, F_SENT.ext E⟩, ⟨S_VIEWED.ext E, E_VIEWED.ext E, F_VIEWED.ext E⟩, ⟨S_PARTLY_PAID.ext E, E_PARTLY_PAID.ext E, F_PARTLY_PAID.ext E⟩, ⟨S_PAID.ext E, E_PAID.ext E, F_PAID.ext E⟩, ⟨S_CANCELLED.ext E, E_CANCELLED.ext E, F_CANCELLED.ext E⟩⟩
theorem ef_2 (m : MethodId) (x0 : Addr) : entryFrame m #[(.ref x0)] 1 = mkF m 0 #[.val (.ref x0)] [] := by first | (simp [entryFrame, mkF, argsToLocals, Value.category]; done) | rfl
theorem pn_com_example_owed_to_paid_owedtopaid_model_InvoiceStatus : plainName "com/example/owed_to_paid/owedtopaid/model/InvoiceStatus" = true := by first | (simp [plainName, overriddenIn]; done) | decide +kernel
theorem d2_0 : decode prog_17_method_6_code 0 = .ok (.aload_n 0, 1) := by decide +kernel
theorem d2_1 : decode prog_17_method_6_code 1 = .ok (.getstatic 7, 3) := by decide +kernel
theorem d2_4 : decode prog_17_method_6_code 4 = .ok (.if_acmp .eq 17, 3) := by decide +kernel
theorem d2_21 : decode prog_17_method_6_code 21 = .ok (.iconst 1, 1) := by decide +kernel
theorem d2_22 : decode prog_17_method_6_code 22 = .ok (.goto 4, 3) := by decide +kernel
theorem d2_26 : decode prog_17_method_6_code 26 = .ok (.ireturn, 1) := by decide +kernel
theorem d2_7 : decode prog_17_method_6_code 7 = .ok (.aload_n 0, 1) := by decide +kernel
theorem d2_8 : decode prog_17_method_6_code 8 = .ok (.getstatic 10, 3) := by decide +kernel
theorem d2_11 : decode prog_17_method_6_code 11 = .ok (.if_acmp .eq 10, 3) := by decide +kernel
theorem d2_14 : decode prog_17_method_6_code 14 = .ok (.aload_n 0, 1) := by decide +kernel
theorem d2_15 : decode prog_17_method_6_code 15 = .ok (.getstatic 13, 3) := by decide +kernel
theorem d2_18 : decode prog_17_method_6_code 18 = .ok (.if_acmp .ne 7, 3) := by decide +kernel
theorem d2_25 : decode prog_17_method_6_code 25 = .ok (.iconst 0, 1) := by decide +kernel
def Q_rmT (Z : State) (a1 : Addr) (w_DRAFT : Addr) (w_SENT : Addr) (w_VIEWED : Addr) (w_PARTLY_PAID : Addr) (w_PAID : Addr) (w_CANCELLED : Addr) (h0 : Heap) (n0 : Nat) (v : Option Value) (h : Heap) (L : List Loc) : Prop := v = some (.int (if a1 = w_SENT ∨ a1 = w_VIEWED ∨ a1 = w_PARTLY_PAID then 1 else 0)) ∧ Fr n0 L ∧ h = h0
set_option maxRecDepth 65536 in
set_option maxHeartbeats 40000000 in
theorem rmT (l : Launch) (Z : State) (a0 : Array Value) (hw : ∀ d ∈ tables_1, d.before a0 Z = true) (ws : List Jvm.Cond) (a1 : Addr) (w_DRAFT : Addr) (w_SENT : Addr) (w_VIEWED : Addr) (w_PARTLY_PAID : Addr) (w_PAID : Addr) (w_CANCELLED : Addr) (h0 : Heap) (n0 : Nat) (Z0 : n0 ≤ h0.size) (hWd : Wd Z h0 w_DRAFT w_SENT w_VIEWED w_PARTLY_PAID w_PAID w_CANCELLED) :
    MetFree l (⟨"com/example/owed_to_paid/owedtopaid/model/InvoiceStatus", "takesPayments", "()Z"⟩ : MethodName) (head1 (Jvm.Cond.code (⟨"com/example/owed_to_paid/owedtopaid/model/InvoiceStatus", "takesPayments", "()Z"⟩ : MethodName) prog_17_method_6_code 1 (some .boolean) :: ws) ({ frames := 0, cells := 0, slots := 0, locals := 0 } : Room)) (fun av_ U_ => av_ = #[(.ref a1)] ∧ Z.Warmed39 U_.vm ∧ U_.heap = h0) (fun _ _ _ _ _ => True) (fun _ U_ o_ V_ => ∃ v_ L_, o_ = .returned v_ ∧ Q_rmT Z a1 w_DRAFT w_SENT w_VIEWED w_PARTLY_PAID w_PAID w_CANCELLED h0 n0 v_ V_.heap L_ ∧ FrameEnd U_ o_ V_ L_ ({ frames := 0, cells := 0, slots := 0, locals := 0 } : Room).cells ({ frames := 0, cells := 0, slots := 0, locals := 0 } : Room).slots) := by
  refine MetFree.of_bodySF (plainFor_of_name pn_com_example_owed_to_paid_owedtopaid_model_InvoiceStatus) hisR ?_
  intro p e s m args below meth c s₁ Bd hml0 hP hK
  obtain ⟨rfl, hZ, hh⟩ := hP
  have hx := Bd.exec
  have hby := Bd.bytes
  have hml : c.maxLocals = 1 := hml0
  have hown : s.vm.findClass "com/example/owed_to_paid/owedtopaid/model/InvoiceStatus" = some m.cls := findClass_of_methodNamed Bd.named
  have hnm := (name_of_methodNamed Bd.named Bd.method).1
  have X0 : Stand p l e ({ frames := 0, cells := 0, slots := 0, locals := 0 } : Room) s m #[(.ref a1)] below meth c s₁ [] 0 0 := Stand.of_body Bd
  have e0 : s₁.heap = h0 := by rw [← hh, Bd.state]; rfl
  have N0 := Fr.nil n0
  have pre0 : ∀ t_, Go p e below s₁ (mkF m 0 #[rv a1] []) t_ → Go p e below s₁ (entryFrame m #[(.ref a1)] 1) t_ := fun t_ kt => castTop (ef_2 m a1) kt
  have hWd0 := hWd
  obtain ⟨⟨S_DRAFT, E_DRAFT, F_DRAFT⟩, ⟨S_SENT, E_SENT, F_SENT⟩, ⟨S_VIEWED, E_VIEWED, F_VIEWED⟩, ⟨S_PARTLY_PAID, E_PARTLY_PAID, F_PARTLY_PAID⟩, ⟨S_PAID, E_PAID, F_PAID⟩, ⟨S_CANCELLED, E_CANCELLED, F_CANCELLED⟩⟩ := hWd
  obtain ⟨T1, X1, e1, st1⟩ := getS2 X0 hx hZ hown (host := "") (Or.inl (hwi hw 17 rfl)) Via.refl e0 S_SENT (g := (mkF m 1 #[rv a1] [(.ref a1)])) rfl (hb hby d2_1)
  have pre2 : ∀ t_, Go p e below T1 (mkF m 4 #[rv a1] [(.ref w_SENT), (.ref a1)]) t_ → Go p e below s₁ (entryFrame m #[(.ref a1)] 1) t_ := fun t_ kt => pre0 _ (by
      show Go p e below s₁ (mkF m 0 #[rv a1] []) _
      refine XS.aloadN X0.here hx rfl (hb hby d2_0) rfl rfl ?_
      show Go p e below s₁ (mkF m 1 #[rv a1] [(.ref a1)]) _
      refine st1 _ ?_
      show Go p e below T1 (mkF m 4 #[rv a1] [(.ref w_SENT), (.ref a1)]) _
      exact kt)
  by_cases hc4_3 : a1 = w_SENT
  · have pre4 : ∀ t_, Go p e below T1 (mkF m 26 #[rv a1] [(.int 1)]) t_ → Go p e below s₁ (entryFrame m #[(.ref a1)] 1) t_ := fun t_ kt => pre2 _ (by
        show Go p e below T1 (mkF m 4 #[rv a1] [(.ref w_SENT), (.ref a1)]) _
        refine Jvm.RoadKit.acmp (g := (mkF m 4 #[rv a1] [(.ref w_SENT), (.ref a1)])) X1 hx rfl rfl rfl (pc0 := 4) (pc' := 21) (same := true) rfl (hb hby d2_4) rfl (decide_eq_true (congrArg Value.ref hc4_3)) (by decide) (by decide) ?_
        show Go p e below T1 (mkF m 21 #[rv a1] []) _
        refine XS.iconst X1.here hx rfl (hb hby d2_21) ?_
        show Go p e below T1 (mkF m 22 #[rv a1] [(.int 1)]) _
        refine XS.goto X1.here hx rfl (pc0 := 22) (pc' := 26) rfl (hb hby d2_22) (by decide) (by decide) ?_
        show Go p e below T1 (mkF m 26 #[rv a1] [(.int 1)]) _
        exact kt)
    obtain ⟨fs, hr, hrun, hended, hW, hsame⟩ := X1.leave (v := some (.int 1)) (fun h => by rw [Bd.returns] at h; cases h)
    refine ⟨_, _, pre4 _ ?_, hrun, hended, _, _, rfl, ?_, ⟨_, rfl⟩, hW, hsame.mono (by decide) (by decide)⟩
    · show Steps p.tables e below (T1.setTop (mkF m 26 #[rv a1] [(.int 1)])) _
      exact retN X1 hx (t := .boolean) Bd.returns (by simp) (hb hby d2_26) hr
    · show Q_rmT Z a1 w_DRAFT w_SENT w_VIEWED w_PARTLY_PAID w_PAID w_CANCELLED h0 n0 _ T1.heap _
      rw [e1]
      exact ⟨by simp [hc4_3], N0, rfl⟩
  · obtain ⟨T5, X5, e5, st5⟩ := getS2 X1 hx hZ hown (host := "") (Or.inl (hwi hw 19 rfl)) Via.refl e1 S_VIEWED (g := (mkF m 8 #[rv a1] [(.ref a1)])) rfl (hb hby d2_8)
    have pre6 : ∀ t_, Go p e below T5 (mkF m 11 #[rv a1] [(.ref w_VIEWED), (.ref a1)]) t_ → Go p e below s₁ (entryFrame m #[(.ref a1)] 1) t_ := fun t_ kt => pre2 _ (by
        show Go p e below T1 (mkF m 4 #[rv a1] [(.ref w_SENT), (.ref a1)]) _
        refine Jvm.RoadKit.acmp (g := (mkF m 4 #[rv a1] [(.ref w_SENT), (.ref a1)])) X1 hx rfl rfl rfl (pc0 := 4) (pc' := 7) (same := false) rfl (hb hby d2_4) rfl (decide_eq_false fun q => hc4_3 (Value.ref.inj q)) (by decide) (by decide) ?_
        show Go p e below T1 (mkF m 7 #[rv a1] []) _
        refine XS.aloadN X1.here hx rfl (hb hby d2_7) rfl rfl ?_
        show Go p e below T1 (mkF m 8 #[rv a1] [(.ref a1)]) _
        refine st5 _ ?_
        show Go p e below T5 (mkF m 11 #[rv a1] [(.ref w_VIEWED), (.ref a1)]) _
        exact kt)
    by_cases hc11_7 : a1 = w_VIEWED
    · have pre8 : ∀ t_, Go p e below T5 (mkF m 26 #[rv a1] [(.int 1)]) t_ → Go p e below s₁ (entryFrame m #[(.ref a1)] 1) t_ := fun t_ kt => pre6 _ (by
          show Go p e below T5 (mkF m 11 #[rv a1] [(.ref w_VIEWED), (.ref a1)]) _
          refine Jvm.RoadKit.acmp (g := (mkF m 11 #[rv a1] [(.ref w_VIEWED), (.ref a1)])) X5 hx rfl rfl rfl (pc0 := 11) (pc' := 21) (same := true) rfl (hb hby d2_11) rfl (decide_eq_true (congrArg Value.ref hc11_7)) (by decide) (by decide) ?_
          show Go p e below T5 (mkF m 21 #[rv a1] []) _
          refine XS.iconst X5.here hx rfl (hb hby d2_21) ?_
          show Go p e below T5 (mkF m 22 #[rv a1] [(.int 1)]) _
          refine XS.goto X5.here hx rfl (pc0 := 22) (pc' := 26) rfl (hb hby d2_22) (by decide) (by decide) ?_
          show Go p e below T5 (mkF m 26 #[rv a1] [(.int 1)]) _
          exact kt)
      obtain ⟨fs, hr, hrun, hended, hW, hsame⟩ := X5.leave (v := some (.int 1)) (fun h => by rw [Bd.returns] at h; cases h)
      refine ⟨_, _, pre8 _ ?_, hrun, hended, _, _, rfl, ?_, ⟨_, rfl⟩, hW, hsame.mono (by decide) (by decide)⟩
      · show Steps p.tables e below (T5.setTop (mkF m 26 #[rv a1] [(.int 1)])) _
        exact retN X5 hx (t := .boolean) Bd.returns (by simp) (hb hby d2_26) hr
      · show Q_rmT Z a1 w_DRAFT w_SENT w_VIEWED w_PARTLY_PAID w_PAID w_CANCELLED h0 n0 _ T5.heap _
        rw [e5]
        exact ⟨by simp [hc4_3, hc11_7], N0, rfl⟩
    · obtain ⟨T9, X9, e9, st9⟩ := getS2 X5 hx hZ hown (host := "") (Or.inl (hwi hw 21 rfl)) Via.refl e5 S_PARTLY_PAID (g := (mkF m 15 #[rv a1] [(.ref a1)])) rfl (hb hby d2_15)
      have pre10 : ∀ t_, Go p e below T9 (mkF m 18 #[rv a1] [(.ref w_PARTLY_PAID), (.ref a1)]) t_ → Go p e below s₁ (entryFrame m #[(.ref a1)] 1) t_ := fun t_ kt => pre6 _ (by
          show Go p e below T5 (mkF m 11 #[rv a1] [(.ref w_VIEWED), (.ref a1)]) _
          refine Jvm.RoadKit.acmp (g := (mkF m 11 #[rv a1] [(.ref w_VIEWED), (.ref a1)])) X5 hx rfl rfl rfl (pc0 := 11) (pc' := 14) (same := false) rfl (hb hby d2_11) rfl (decide_eq_false fun q => hc11_7 (Value.ref.inj q)) (by decide) (by decide) ?_
          show Go p e below T5 (mkF m 14 #[rv a1] []) _
          refine XS.aloadN X5.here hx rfl (hb hby d2_14) rfl rfl ?_
          show Go p e below T5 (mkF m 15 #[rv a1] [(.ref a1)]) _
          refine st9 _ ?_
          show Go p e below T9 (mkF m 18 #[rv a1] [(.ref w_PARTLY_PAID), (.ref a1)]) _
          exact kt)
      by_cases hc18_11 : a1 = w_PARTLY_PAID
      · have pre12 : ∀ t_, Go p e below T9 (mkF m 26 #[rv a1] [(.int 1)]) t_ → Go p e below s₁ (entryFrame m #[(.ref a1)] 1) t_ := fun t_ kt => pre10 _ (by
            show Go p e below T9 (mkF m 18 #[rv a1] [(.ref w_PARTLY_PAID), (.ref a1)]) _
            refine Jvm.RoadKit.acmp (g := (mkF m 18 #[rv a1] [(.ref w_PARTLY_PAID), (.ref a1)])) X9 hx rfl rfl rfl (pc0 := 18) (pc' := 21) (same := true) rfl (hb hby d2_18) rfl (decide_eq_true (congrArg Value.ref hc18_11)) (by decide) (by decide) ?_
            show Go p e below T9 (mkF m 21 #[rv a1] []) _
            refine XS.iconst X9.here hx rfl (hb hby d2_21) ?_
            show Go p e below T9 (mkF m 22 #[rv a1] [(.int 1)]) _
            refine XS.goto X9.here hx rfl (pc0 := 22) (pc' := 26) rfl (hb hby d2_22) (by decide) (by decide) ?_
            show Go p e below T9 (mkF m 26 #[rv a1] [(.int 1)]) _
            exact kt)
        obtain ⟨fs, hr, hrun, hended, hW, hsame⟩ := X9.leave (v := some (.int 1)) (fun h => by rw [Bd.returns] at h; cases h)
        refine ⟨_, _, pre12 _ ?_, hrun, hended, _, _, rfl, ?_, ⟨_, rfl⟩, hW, hsame.mono (by decide) (by decide)⟩
        · show Steps p.tables e below (T9.setTop (mkF m 26 #[rv a1] [(.int 1)])) _
          exact retN X9 hx (t := .boolean) Bd.returns (by simp) (hb hby d2_26) hr
        · show Q_rmT Z a1 w_DRAFT w_SENT w_VIEWED w_PARTLY_PAID w_PAID w_CANCELLED h0 n0 _ T9.heap _
          rw [e9]
          exact ⟨by simp [hc4_3, hc11_7, hc18_11], N0, rfl⟩
      · have pre13 : ∀ t_, Go p e below T9 (mkF m 26 #[rv a1] [(.int 0)]) t_ → Go p e below s₁ (entryFrame m #[(.ref a1)] 1) t_ := fun t_ kt => pre10 _ (by
            show Go p e below T9 (mkF m 18 #[rv a1] [(.ref w_PARTLY_PAID), (.ref a1)]) _
            refine Jvm.RoadKit.acmp (g := (mkF m 18 #[rv a1] [(.ref w_PARTLY_PAID), (.ref a1)])) X9 hx rfl rfl rfl (pc0 := 18) (pc' := 25) (same := false) rfl (hb hby d2_18) rfl (decide_eq_false fun q => hc18_11 (Value.ref.inj q)) (by decide) (by decide) ?_
            show Go p e below T9 (mkF m 25 #[rv a1] []) _
            refine XS.iconst X9.here hx rfl (hb hby d2_25) ?_
            show Go p e below T9 (mkF m 26 #[rv a1] [(.int 0)]) _
            exact kt)
        obtain ⟨fs, hr, hrun, hended, hW, hsame⟩ := X9.leave (v := some (.int 0)) (fun h => by rw [Bd.returns] at h; cases h)
        refine ⟨_, _, pre13 _ ?_, hrun, hended, _, _, rfl, ?_, ⟨_, rfl⟩, hW, hsame.mono (by decide) (by decide)⟩
        · show Steps p.tables e below (T9.setTop (mkF m 26 #[rv a1] [(.int 0)])) _
          exact retN X9 hx (t := .boolean) Bd.returns (by simp) (hb hby d2_26) hr
        · show Q_rmT Z a1 w_DRAFT w_SENT w_VIEWED w_PARTLY_PAID w_PAID w_CANCELLED h0 n0 _ T9.heap _
          rw [e9]
          exact ⟨by simp [hc4_3, hc11_7, hc18_11], N0, rfl⟩
theorem ef_1 (m : MethodId) (x0 : Int32) : entryFrame m #[(.int x0)] 1 = mkF m 0 #[.val (.int x0)] [] := by first | (simp [entryFrame, mkF, argsToLocals, Value.category]; done) | rfl
theorem pn_com_example_owed_to_paid_owedtopaid_model_InvoiceStatusTakesPaymentsPinLaw : plainName "com/example/owed_to_paid/owedtopaid/model/InvoiceStatusTakesPaymentsPinLaw" = true := by first | (simp [plainName, overriddenIn]; done) | decide +kernel
theorem d1_0 : decode method_2_code 0 = .ok (.iload_n 0, 1) := by decide +kernel
theorem d1_1 : decode method_2_code 1 = .ok (.ifCond .ne 7, 3) := by decide +kernel
theorem d1_4 : decode method_2_code 4 = .ok (.getstatic 7, 3) := by decide +kernel
theorem d1_7 : decode method_2_code 7 = .ok (.areturn, 1) := by decide +kernel
theorem d1_8 : decode method_2_code 8 = .ok (.iload_n 0, 1) := by decide +kernel
theorem d1_9 : decode method_2_code 9 = .ok (.iconst 1, 1) := by decide +kernel
theorem d1_10 : decode method_2_code 10 = .ok (.if_icmp .ne 7, 3) := by decide +kernel
theorem d1_13 : decode method_2_code 13 = .ok (.getstatic 13, 3) := by decide +kernel
theorem d1_16 : decode method_2_code 16 = .ok (.areturn, 1) := by decide +kernel
theorem d1_17 : decode method_2_code 17 = .ok (.iload_n 0, 1) := by decide +kernel
theorem d1_18 : decode method_2_code 18 = .ok (.iconst 2, 1) := by decide +kernel
theorem d1_19 : decode method_2_code 19 = .ok (.if_icmp .ne 7, 3) := by decide +kernel
theorem d1_22 : decode method_2_code 22 = .ok (.getstatic 16, 3) := by decide +kernel
theorem d1_25 : decode method_2_code 25 = .ok (.areturn, 1) := by decide +kernel
theorem d1_26 : decode method_2_code 26 = .ok (.iload_n 0, 1) := by decide +kernel
theorem d1_27 : decode method_2_code 27 = .ok (.iconst 3, 1) := by decide +kernel
theorem d1_28 : decode method_2_code 28 = .ok (.if_icmp .ne 7, 3) := by decide +kernel
theorem d1_31 : decode method_2_code 31 = .ok (.getstatic 19, 3) := by decide +kernel
theorem d1_34 : decode method_2_code 34 = .ok (.areturn, 1) := by decide +kernel
theorem d1_35 : decode method_2_code 35 = .ok (.iload_n 0, 1) := by decide +kernel
theorem d1_36 : decode method_2_code 36 = .ok (.iconst 4, 1) := by decide +kernel
theorem d1_37 : decode method_2_code 37 = .ok (.if_icmp .ne 7, 3) := by decide +kernel
theorem d1_40 : decode method_2_code 40 = .ok (.getstatic 22, 3) := by decide +kernel
theorem d1_43 : decode method_2_code 43 = .ok (.areturn, 1) := by decide +kernel
theorem d1_44 : decode method_2_code 44 = .ok (.getstatic 25, 3) := by decide +kernel
theorem d1_47 : decode method_2_code 47 = .ok (.areturn, 1) := by decide +kernel
def Q_rmP (Z : State) (k : Int32) (w_DRAFT : Addr) (w_SENT : Addr) (w_VIEWED : Addr) (w_PARTLY_PAID : Addr) (w_PAID : Addr) (w_CANCELLED : Addr) (h0 : Heap) (n0 : Nat) (v : Option Value) (h : Heap) (L : List Loc) : Prop := v = some (.ref (if k = 0 then w_DRAFT else if k = 1 then w_SENT else if k = 2 then w_VIEWED else if k = 3 then w_PARTLY_PAID else if k = 4 then w_PAID else w_CANCELLED)) ∧ Fr n0 L ∧ h = h0
set_option maxRecDepth 65536 in
set_option maxHeartbeats 40000000 in
theorem rmP (l : Launch) (Z : State) (a0 : Array Value) (hw : ∀ d ∈ tables_1, d.before a0 Z = true) (ws : List Jvm.Cond) (k : Int32) (w_DRAFT : Addr) (w_SENT : Addr) (w_VIEWED : Addr) (w_PARTLY_PAID : Addr) (w_PAID : Addr) (w_CANCELLED : Addr) (h0 : Heap) (n0 : Nat) (Z0 : n0 ≤ h0.size) (hWd : Wd Z h0 w_DRAFT w_SENT w_VIEWED w_PARTLY_PAID w_PAID w_CANCELLED) :
    MetFree l (⟨"com/example/owed_to_paid/owedtopaid/model/InvoiceStatusTakesPaymentsPinLaw", "pick", "(I)Lcom/example/owed_to_paid/owedtopaid/model/InvoiceStatus;"⟩ : MethodName) (head1 (Jvm.Cond.code (⟨"com/example/owed_to_paid/owedtopaid/model/InvoiceStatusTakesPaymentsPinLaw", "pick", "(I)Lcom/example/owed_to_paid/owedtopaid/model/InvoiceStatus;"⟩ : MethodName) method_2_code 1 (some (.object "com/example/owed_to_paid/owedtopaid/model/InvoiceStatus")) :: ws) ({ frames := 0, cells := 0, slots := 0, locals := 0 } : Room)) (fun av_ U_ => av_ = #[(.int k)] ∧ Z.Warmed39 U_.vm ∧ U_.heap = h0) (fun _ _ _ _ _ => True) (fun _ U_ o_ V_ => ∃ v_ L_, o_ = .returned v_ ∧ Q_rmP Z k w_DRAFT w_SENT w_VIEWED w_PARTLY_PAID w_PAID w_CANCELLED h0 n0 v_ V_.heap L_ ∧ FrameEnd U_ o_ V_ L_ ({ frames := 0, cells := 0, slots := 0, locals := 0 } : Room).cells ({ frames := 0, cells := 0, slots := 0, locals := 0 } : Room).slots) := by
  refine MetFree.of_bodySF (plainFor_of_name pn_com_example_owed_to_paid_owedtopaid_model_InvoiceStatusTakesPaymentsPinLaw) hisR ?_
  intro p e s m args below meth c s₁ Bd hml0 hP hK
  obtain ⟨rfl, hZ, hh⟩ := hP
  have hx := Bd.exec
  have hby := Bd.bytes
  have hml : c.maxLocals = 1 := hml0
  have hown : s.vm.findClass "com/example/owed_to_paid/owedtopaid/model/InvoiceStatusTakesPaymentsPinLaw" = some m.cls := findClass_of_methodNamed Bd.named
  have hnm := (name_of_methodNamed Bd.named Bd.method).1
  have X0 : Stand p l e ({ frames := 0, cells := 0, slots := 0, locals := 0 } : Room) s m #[(.int k)] below meth c s₁ [] 0 0 := Stand.of_body Bd
  have e0 : s₁.heap = h0 := by rw [← hh, Bd.state]; rfl
  have N0 := Fr.nil n0
  have pre0 : ∀ t_, Go p e below s₁ (mkF m 0 #[iv k] []) t_ → Go p e below s₁ (entryFrame m #[(.int k)] 1) t_ := fun t_ kt => castTop (ef_1 m k) kt
  have hWd0 := hWd
  obtain ⟨⟨S_DRAFT, E_DRAFT, F_DRAFT⟩, ⟨S_SENT, E_SENT, F_SENT⟩, ⟨S_VIEWED, E_VIEWED, F_VIEWED⟩, ⟨S_PARTLY_PAID, E_PARTLY_PAID, F_PARTLY_PAID⟩, ⟨S_PAID, E_PAID, F_PAID⟩, ⟨S_CANCELLED, E_CANCELLED, F_CANCELLED⟩⟩ := hWd
  have pre1 : ∀ t_, Go p e below s₁ (mkF m 1 #[iv k] [(.int k)]) t_ → Go p e below s₁ (entryFrame m #[(.int k)] 1) t_ := fun t_ kt => pre0 _ (by
      show Go p e below s₁ (mkF m 0 #[iv k] []) _
      refine XS.iloadN X0.here hx rfl (hb hby d1_0) rfl ?_
      show Go p e below s₁ (mkF m 1 #[iv k] [(.int k)]) _
      exact kt)
  by_cases hc1_2 : k = (0 : Int32)
  · obtain ⟨T3, X3, e3, st3⟩ := getS2 X0 hx hZ hown (host := "") (Or.inl (hwi hw 5 rfl)) Via.refl e0 S_DRAFT (g := (mkF m 4 #[iv k] [])) rfl (hb hby d1_4)
    have pre4 : ∀ t_, Go p e below T3 (mkF m 7 #[iv k] [(.ref w_DRAFT)]) t_ → Go p e below s₁ (entryFrame m #[(.int k)] 1) t_ := fun t_ kt => pre1 _ (by
        show Go p e below s₁ (mkF m 1 #[iv k] [(.int k)]) _
        refine XS.ifNo X0.here hx rfl (hb hby d1_1) rfl ((if0 _ _).trans (teq hc1_2).2) ?_
        show Go p e below s₁ (mkF m 4 #[iv k] []) _
        refine st3 _ ?_
        show Go p e below T3 (mkF m 7 #[iv k] [(.ref w_DRAFT)]) _
        exact kt)
    obtain ⟨fs, hr, hrun, hended, hW, hsame⟩ := X3.leave (v := some (.ref w_DRAFT)) (fun h => by rw [Bd.returns] at h; cases h)
    refine ⟨_, _, pre4 _ ?_, hrun, hended, _, _, rfl, ?_, ⟨_, rfl⟩, hW, hsame.mono (by decide) (by decide)⟩
    · show Steps p.tables e below (T3.setTop (mkF m 7 #[iv k] [(.ref w_DRAFT)])) _
      jvm_step X3.here [X3.here.top, hx, (hb hby d1_7), X3.method', Bd.returns, Value.isRef, FieldType.isReference]
      first | (intro acts; rw [hr _ acts rfl rfl rfl]) | rw [hr _ _ rfl rfl rfl]
      exact Steps.refl _
    · show Q_rmP Z k w_DRAFT w_SENT w_VIEWED w_PARTLY_PAID w_PAID w_CANCELLED h0 n0 _ T3.heap _
      rw [e3]
      exact ⟨by simp [hc1_2], N0, rfl⟩
  · have pre5 : ∀ t_, Go p e below s₁ (mkF m 10 #[iv k] [(.int 1), (.int k)]) t_ → Go p e below s₁ (entryFrame m #[(.int k)] 1) t_ := fun t_ kt => pre1 _ (by
        show Go p e below s₁ (mkF m 1 #[iv k] [(.int k)]) _
        refine XS.ifYes X0.here hx rfl (pc0 := 1) (pc' := 8) rfl (hb hby d1_1) rfl ((if0 _ _).trans (feq hc1_2).2) (by decide) (by decide) ?_
        show Go p e below s₁ (mkF m 8 #[iv k] []) _
        refine XS.iloadN X0.here hx rfl (hb hby d1_8) rfl ?_
        show Go p e below s₁ (mkF m 9 #[iv k] [(.int k)]) _
        refine XS.iconst X0.here hx rfl (hb hby d1_9) ?_
        show Go p e below s₁ (mkF m 10 #[iv k] [(.int 1), (.int k)]) _
        exact kt)
    by_cases hc10_6 : k = (1 : Int32)
    · obtain ⟨T7, X7, e7, st7⟩ := getS2 X0 hx hZ hown (host := "") (Or.inl (hwi hw 25 rfl)) Via.refl e0 S_SENT (g := (mkF m 13 #[iv k] [])) rfl (hb hby d1_13)
      have pre8 : ∀ t_, Go p e below T7 (mkF m 16 #[iv k] [(.ref w_SENT)]) t_ → Go p e below s₁ (entryFrame m #[(.int k)] 1) t_ := fun t_ kt => pre5 _ (by
          show Go p e below s₁ (mkF m 10 #[iv k] [(.int 1), (.int k)]) _
          refine XS.icmpNo X0.here hx rfl (hb hby d1_10) rfl (teq hc10_6).2 ?_
          show Go p e below s₁ (mkF m 13 #[iv k] []) _
          refine st7 _ ?_
          show Go p e below T7 (mkF m 16 #[iv k] [(.ref w_SENT)]) _
          exact kt)
      obtain ⟨fs, hr, hrun, hended, hW, hsame⟩ := X7.leave (v := some (.ref w_SENT)) (fun h => by rw [Bd.returns] at h; cases h)
      refine ⟨_, _, pre8 _ ?_, hrun, hended, _, _, rfl, ?_, ⟨_, rfl⟩, hW, hsame.mono (by decide) (by decide)⟩
      · show Steps p.tables e below (T7.setTop (mkF m 16 #[iv k] [(.ref w_SENT)])) _
        jvm_step X7.here [X7.here.top, hx, (hb hby d1_16), X7.method', Bd.returns, Value.isRef, FieldType.isReference]
        first | (intro acts; rw [hr _ acts rfl rfl rfl]) | rw [hr _ _ rfl rfl rfl]
        exact Steps.refl _
      · show Q_rmP Z k w_DRAFT w_SENT w_VIEWED w_PARTLY_PAID w_PAID w_CANCELLED h0 n0 _ T7.heap _
        rw [e7]
        exact ⟨by simp [hc1_2, hc10_6], N0, rfl⟩
    · have pre9 : ∀ t_, Go p e below s₁ (mkF m 19 #[iv k] [(.int 2), (.int k)]) t_ → Go p e below s₁ (entryFrame m #[(.int k)] 1) t_ := fun t_ kt => pre5 _ (by
          show Go p e below s₁ (mkF m 10 #[iv k] [(.int 1), (.int k)]) _
          refine XS.icmpYes X0.here hx rfl (pc0 := 10) (pc' := 17) rfl (hb hby d1_10) rfl (feq hc10_6).2 (by decide) (by decide) ?_
          show Go p e below s₁ (mkF m 17 #[iv k] []) _
          refine XS.iloadN X0.here hx rfl (hb hby d1_17) rfl ?_
          show Go p e below s₁ (mkF m 18 #[iv k] [(.int k)]) _
          refine XS.iconst X0.here hx rfl (hb hby d1_18) ?_
          show Go p e below s₁ (mkF m 19 #[iv k] [(.int 2), (.int k)]) _
          exact kt)
      by_cases hc19_10 : k = (2 : Int32)
      · obtain ⟨T11, X11, e11, st11⟩ := getS2 X0 hx hZ hown (host := "") (Or.inl (hwi hw 24 rfl)) Via.refl e0 S_VIEWED (g := (mkF m 22 #[iv k] [])) rfl (hb hby d1_22)
        have pre12 : ∀ t_, Go p e below T11 (mkF m 25 #[iv k] [(.ref w_VIEWED)]) t_ → Go p e below s₁ (entryFrame m #[(.int k)] 1) t_ := fun t_ kt => pre9 _ (by
            show Go p e below s₁ (mkF m 19 #[iv k] [(.int 2), (.int k)]) _
            refine XS.icmpNo X0.here hx rfl (hb hby d1_19) rfl (teq hc19_10).2 ?_
            show Go p e below s₁ (mkF m 22 #[iv k] []) _
            refine st11 _ ?_
            show Go p e below T11 (mkF m 25 #[iv k] [(.ref w_VIEWED)]) _
            exact kt)
        obtain ⟨fs, hr, hrun, hended, hW, hsame⟩ := X11.leave (v := some (.ref w_VIEWED)) (fun h => by rw [Bd.returns] at h; cases h)
        refine ⟨_, _, pre12 _ ?_, hrun, hended, _, _, rfl, ?_, ⟨_, rfl⟩, hW, hsame.mono (by decide) (by decide)⟩
        · show Steps p.tables e below (T11.setTop (mkF m 25 #[iv k] [(.ref w_VIEWED)])) _
          jvm_step X11.here [X11.here.top, hx, (hb hby d1_25), X11.method', Bd.returns, Value.isRef, FieldType.isReference]
          first | (intro acts; rw [hr _ acts rfl rfl rfl]) | rw [hr _ _ rfl rfl rfl]
          exact Steps.refl _
        · show Q_rmP Z k w_DRAFT w_SENT w_VIEWED w_PARTLY_PAID w_PAID w_CANCELLED h0 n0 _ T11.heap _
          rw [e11]
          exact ⟨by simp [hc1_2, hc10_6, hc19_10], N0, rfl⟩
      · have pre13 : ∀ t_, Go p e below s₁ (mkF m 28 #[iv k] [(.int 3), (.int k)]) t_ → Go p e below s₁ (entryFrame m #[(.int k)] 1) t_ := fun t_ kt => pre9 _ (by
            show Go p e below s₁ (mkF m 19 #[iv k] [(.int 2), (.int k)]) _
            refine XS.icmpYes X0.here hx rfl (pc0 := 19) (pc' := 26) rfl (hb hby d1_19) rfl (feq hc19_10).2 (by decide) (by decide) ?_
            show Go p e below s₁ (mkF m 26 #[iv k] []) _
            refine XS.iloadN X0.here hx rfl (hb hby d1_26) rfl ?_
            show Go p e below s₁ (mkF m 27 #[iv k] [(.int k)]) _
            refine XS.iconst X0.here hx rfl (hb hby d1_27) ?_
            show Go p e below s₁ (mkF m 28 #[iv k] [(.int 3), (.int k)]) _
            exact kt)
        by_cases hc28_14 : k = (3 : Int32)
        · obtain ⟨T15, X15, e15, st15⟩ := getS2 X0 hx hZ hown (host := "") (Or.inl (hwi hw 23 rfl)) Via.refl e0 S_PARTLY_PAID (g := (mkF m 31 #[iv k] [])) rfl (hb hby d1_31)
          have pre16 : ∀ t_, Go p e below T15 (mkF m 34 #[iv k] [(.ref w_PARTLY_PAID)]) t_ → Go p e below s₁ (entryFrame m #[(.int k)] 1) t_ := fun t_ kt => pre13 _ (by
              show Go p e below s₁ (mkF m 28 #[iv k] [(.int 3), (.int k)]) _
              refine XS.icmpNo X0.here hx rfl (hb hby d1_28) rfl (teq hc28_14).2 ?_
              show Go p e below s₁ (mkF m 31 #[iv k] []) _
              refine st15 _ ?_
              show Go p e below T15 (mkF m 34 #[iv k] [(.ref w_PARTLY_PAID)]) _
              exact kt)
          obtain ⟨fs, hr, hrun, hended, hW, hsame⟩ := X15.leave (v := some (.ref w_PARTLY_PAID)) (fun h => by rw [Bd.returns] at h; cases h)
          refine ⟨_, _, pre16 _ ?_, hrun, hended, _, _, rfl, ?_, ⟨_, rfl⟩, hW, hsame.mono (by decide) (by decide)⟩
          · show Steps p.tables e below (T15.setTop (mkF m 34 #[iv k] [(.ref w_PARTLY_PAID)])) _
            jvm_step X15.here [X15.here.top, hx, (hb hby d1_34), X15.method', Bd.returns, Value.isRef, FieldType.isReference]
            first | (intro acts; rw [hr _ acts rfl rfl rfl]) | rw [hr _ _ rfl rfl rfl]
            exact Steps.refl _
          · show Q_rmP Z k w_DRAFT w_SENT w_VIEWED w_PARTLY_PAID w_PAID w_CANCELLED h0 n0 _ T15.heap _
            rw [e15]
            exact ⟨by simp [hc1_2, hc10_6, hc19_10, hc28_14], N0, rfl⟩
        · have pre17 : ∀ t_, Go p e below s₁ (mkF m 37 #[iv k] [(.int 4), (.int k)]) t_ → Go p e below s₁ (entryFrame m #[(.int k)] 1) t_ := fun t_ kt => pre13 _ (by
              show Go p e below s₁ (mkF m 28 #[iv k] [(.int 3), (.int k)]) _
              refine XS.icmpYes X0.here hx rfl (pc0 := 28) (pc' := 35) rfl (hb hby d1_28) rfl (feq hc28_14).2 (by decide) (by decide) ?_
              show Go p e below s₁ (mkF m 35 #[iv k] []) _
              refine XS.iloadN X0.here hx rfl (hb hby d1_35) rfl ?_
              show Go p e below s₁ (mkF m 36 #[iv k] [(.int k)]) _
              refine XS.iconst X0.here hx rfl (hb hby d1_36) ?_
              show Go p e below s₁ (mkF m 37 #[iv k] [(.int 4), (.int k)]) _
              exact kt)
          by_cases hc37_18 : k = (4 : Int32)
          · obtain ⟨T19, X19, e19, st19⟩ := getS2 X0 hx hZ hown (host := "") (Or.inl (hwi hw 8 rfl)) Via.refl e0 S_PAID (g := (mkF m 40 #[iv k] [])) rfl (hb hby d1_40)
            have pre20 : ∀ t_, Go p e below T19 (mkF m 43 #[iv k] [(.ref w_PAID)]) t_ → Go p e below s₁ (entryFrame m #[(.int k)] 1) t_ := fun t_ kt => pre17 _ (by
                show Go p e below s₁ (mkF m 37 #[iv k] [(.int 4), (.int k)]) _
                refine XS.icmpNo X0.here hx rfl (hb hby d1_37) rfl (teq hc37_18).2 ?_
                show Go p e below s₁ (mkF m 40 #[iv k] []) _
                refine st19 _ ?_
                show Go p e below T19 (mkF m 43 #[iv k] [(.ref w_PAID)]) _
                exact kt)
            obtain ⟨fs, hr, hrun, hended, hW, hsame⟩ := X19.leave (v := some (.ref w_PAID)) (fun h => by rw [Bd.returns] at h; cases h)
            refine ⟨_, _, pre20 _ ?_, hrun, hended, _, _, rfl, ?_, ⟨_, rfl⟩, hW, hsame.mono (by decide) (by decide)⟩
            · show Steps p.tables e below (T19.setTop (mkF m 43 #[iv k] [(.ref w_PAID)])) _
              jvm_step X19.here [X19.here.top, hx, (hb hby d1_43), X19.method', Bd.returns, Value.isRef, FieldType.isReference]
              first | (intro acts; rw [hr _ acts rfl rfl rfl]) | rw [hr _ _ rfl rfl rfl]
              exact Steps.refl _
            · show Q_rmP Z k w_DRAFT w_SENT w_VIEWED w_PARTLY_PAID w_PAID w_CANCELLED h0 n0 _ T19.heap _
              rw [e19]
              exact ⟨by simp [hc1_2, hc10_6, hc19_10, hc28_14, hc37_18], N0, rfl⟩
          · obtain ⟨T21, X21, e21, st21⟩ := getS2 X0 hx hZ hown (host := "") (Or.inl (hwi hw 10 rfl)) Via.refl e0 S_CANCELLED (g := (mkF m 44 #[iv k] [])) rfl (hb hby d1_44)
            have pre22 : ∀ t_, Go p e below T21 (mkF m 47 #[iv k] [(.ref w_CANCELLED)]) t_ → Go p e below s₁ (entryFrame m #[(.int k)] 1) t_ := fun t_ kt => pre17 _ (by
                show Go p e below s₁ (mkF m 37 #[iv k] [(.int 4), (.int k)]) _
                refine XS.icmpYes X0.here hx rfl (pc0 := 37) (pc' := 44) rfl (hb hby d1_37) rfl (feq hc37_18).2 (by decide) (by decide) ?_
                show Go p e below s₁ (mkF m 44 #[iv k] []) _
                refine st21 _ ?_
                show Go p e below T21 (mkF m 47 #[iv k] [(.ref w_CANCELLED)]) _
                exact kt)
            obtain ⟨fs, hr, hrun, hended, hW, hsame⟩ := X21.leave (v := some (.ref w_CANCELLED)) (fun h => by rw [Bd.returns] at h; cases h)
            refine ⟨_, _, pre22 _ ?_, hrun, hended, _, _, rfl, ?_, ⟨_, rfl⟩, hW, hsame.mono (by decide) (by decide)⟩
            · show Steps p.tables e below (T21.setTop (mkF m 47 #[iv k] [(.ref w_CANCELLED)])) _
              jvm_step X21.here [X21.here.top, hx, (hb hby d1_47), X21.method', Bd.returns, Value.isRef, FieldType.isReference]
              first | (intro acts; rw [hr _ acts rfl rfl rfl]) | rw [hr _ _ rfl rfl rfl]
              exact Steps.refl _
            · show Q_rmP Z k w_DRAFT w_SENT w_VIEWED w_PARTLY_PAID w_PAID w_CANCELLED h0 n0 _ T21.heap _
              rw [e21]
              exact ⟨by simp [hc1_2, hc10_6, hc19_10, hc28_14, hc37_18], N0, rfl⟩
theorem ef_0 (m : MethodId) (x0 : Int32) : entryFrame m #[(.int x0)] maxLocals = mkF m 0 #[.val (.int x0), .unset, .unset, .unset, .unset, .unset, .unset] [] := by first | (simp [entryFrame, mkF, argsToLocals, Value.category, maxLocals]; done) | rfl
theorem pd_0 : parseMethodDescriptor "(I)Lcom/example/owed_to_paid/owedtopaid/model/InvoiceStatus;" = some ⟨[.int], some (.object "com/example/owed_to_paid/owedtopaid/model/InvoiceStatus")⟩ := by decide +kernel
theorem pd_1 : parseMethodDescriptor "()Z" = some ⟨[], some .boolean⟩ := by decide +kernel
def Q_rmL (Z : State) (p1 : Int32) (w_DRAFT : Addr) (w_SENT : Addr) (w_VIEWED : Addr) (w_PARTLY_PAID : Addr) (w_PAID : Addr) (w_CANCELLED : Addr) (h0 : Heap) (n0 : Nat) (v : Option Value) (h : Heap) (L : List Loc) : Prop := v = some (.int 1) ∧ Fr n0 L
set_option maxRecDepth 65536 in
set_option maxHeartbeats 40000000 in
theorem rmL (l : Launch) (Z : State) (a0 : Array Value) (hw : ∀ d ∈ tables_1, d.before a0 Z = true) (ws : List Jvm.Cond) (p1 : Int32) (w_DRAFT : Addr) (w_SENT : Addr) (w_VIEWED : Addr) (w_PARTLY_PAID : Addr) (w_PAID : Addr) (w_CANCELLED : Addr) (h0 : Heap) (n0 : Nat) (Z0 : n0 ≤ h0.size) (hWd : Wd Z h0 w_DRAFT w_SENT w_VIEWED w_PARTLY_PAID w_PAID w_CANCELLED) :
    MetFree l x (head1 (Jvm.Cond.code x code maxLocals ret :: ws) room_1) (fun av_ U_ => av_ = #[(.int p1)] ∧ Z.Warmed39 U_.vm ∧ U_.heap = h0) (fun _ _ _ _ _ => True) (fun _ U_ o_ V_ => ∃ v_ L_, o_ = .returned v_ ∧ Q_rmL Z p1 w_DRAFT w_SENT w_VIEWED w_PARTLY_PAID w_PAID w_CANCELLED h0 n0 v_ V_.heap L_ ∧ FrameEnd U_ o_ V_ L_ room_1.cells room_1.slots) := by
  refine MetFree.of_bodySF (plainFor_of_name pn_com_example_owed_to_paid_owedtopaid_model_InvoiceStatusTakesPaymentsPinLaw) hisR ?_
  intro p e s m args below meth c s₁ Bd hml0 hP hK
  obtain ⟨rfl, hZ, hh⟩ := hP
  have hx := Bd.exec
  have hby := Bd.bytes
  have hml : c.maxLocals = 7 := hml0
  have hown : s.vm.findClass "com/example/owed_to_paid/owedtopaid/model/InvoiceStatusTakesPaymentsPinLaw" = some m.cls := findClass_of_methodNamed Bd.named
  have hnm := (name_of_methodNamed Bd.named Bd.method).1
  have X0 : Stand p l e room_1 s m #[(.int p1)] below meth c s₁ [] 0 0 := Stand.of_body Bd
  have e0 : s₁.heap = h0 := by rw [← hh, Bd.state]; rfl
  have N0 := Fr.nil n0
  have pre0 : ∀ t_, Go p e below s₁ (mkF m 0 #[iv p1, .unset, .unset, .unset, .unset, .unset, .unset] []) t_ → Go p e below s₁ (entryFrame m #[(.int p1)] maxLocals) t_ := fun t_ kt => castTop (ef_0 m p1) kt
  have hWd0 := hWd
  obtain ⟨⟨S_DRAFT, E_DRAFT, F_DRAFT⟩, ⟨S_SENT, E_SENT, F_SENT⟩, ⟨S_VIEWED, E_VIEWED, F_VIEWED⟩, ⟨S_PARTLY_PAID, E_PARTLY_PAID, F_PARTLY_PAID⟩, ⟨S_PAID, E_PAID, F_PAID⟩, ⟨S_CANCELLED, E_CANCELLED, F_CANCELLED⟩⟩ := hWd
  obtain ⟨k, e_k⟩ : ∃ z : Int32, z = ((p1 &&& (2147483647 : Int32)) % (6 : Int32)) := ⟨_, rfl⟩
  have pre1 : ∀ t_, Go p e below s₁ (mkF m 8 #[iv p1, iv k, .unset, .unset, .unset, .unset, .unset] []) t_ → Go p e below s₁ (entryFrame m #[(.int p1)] maxLocals) t_ := fun t_ kt => pre0 _ (by
      subst e_k
      show Go p e below s₁ (mkF m 0 #[iv p1, .unset, .unset, .unset, .unset, .unset, .unset] []) _
      refine XS.iloadN X0.here hx rfl (hb hby at_0) rfl ?_
      show Go p e below s₁ (mkF m 1 #[iv p1, .unset, .unset, .unset, .unset, .unset, .unset] [(.int p1)]) _
      refine X0.ldcInt hx hown (mvT hZ (hwi hw 0 rfl)) (g := (mkF m 1 #[iv p1, .unset, .unset, .unset, .unset, .unset, .unset] [(.int p1)])) rfl (hb hby at_1) _ ?_
      show Go p e below s₁ (mkF m 3 #[iv p1, .unset, .unset, .unset, .unset, .unset, .unset] [(.int 2147483647), (.int p1)]) _
      refine XS.iand X0.here hx rfl (hb hby at_3) rfl ?_
      show Go p e below s₁ (mkF m 4 #[iv p1, .unset, .unset, .unset, .unset, .unset, .unset] [(.int (p1 &&& (2147483647 : Int32)))]) _
      refine XS.bipush X0.here hx rfl (hb hby at_4) ?_
      show Go p e below s₁ (mkF m 6 #[iv p1, .unset, .unset, .unset, .unset, .unset, .unset] [(.int 6), (.int (p1 &&& (2147483647 : Int32)))]) _
      refine iremM X0 hx rfl (hb hby at_6) rfl (by decide) ?_
      show Go p e below s₁ (mkF m 7 #[iv p1, .unset, .unset, .unset, .unset, .unset, .unset] [(.int ((p1 &&& (2147483647 : Int32)) % (6 : Int32)))]) _
      refine XS.istoreN X0.here hx rfl (hb hby at_7) rfl (l' := #[iv p1, iv ((p1 &&& (2147483647 : Int32)) % (6 : Int32)), .unset, .unset, .unset, .unset, .unset]) rfl ?_
      show Go p e below s₁ (mkF m 8 #[iv p1, iv ((p1 &&& (2147483647 : Int32)) % (6 : Int32)), .unset, .unset, .unset, .unset, .unset] []) _
      exact kt)
  by_cases hk0 : k = 0
  · obtain ⟨_, _, ⟨T2, L2, k2, n2⟩, -, X2, ⟨Lc2, hQ2, l2, y2, z2⟩, st2⟩ := Jvm.LawKit.callS X0 hx (y := (⟨"com/example/owed_to_paid/owedtopaid/model/InvoiceStatusTakesPaymentsPinLaw", "pick", "(I)Lcom/example/owed_to_paid/owedtopaid/model/InvoiceStatus;"⟩ : MethodName)) hown (mvT hZ (hwi hw 1 rfl)) (mvT hZ (hwi hw 2 rfl)) (mvT hZ (hwi hw 3 rfl)) (mvT hZ (hwi hw 4 rfl)) (by decide) (backOf (W := 0) (rmP l Z a0 hw [] k w_DRAFT w_SENT w_VIEWED w_PARTLY_PAID w_PAID w_CANCELLED h0 n0 Z0 hWd0) hZ (hwi hw 4 rfl) (hwi hw 3 rfl) (by decide) (by decide)) (g := (mkF m 9 #[iv p1, iv k, .unset, .unset, .unset, .unset, .unset] [(.int k)])) rfl (by rw [hml]; rfl) (argsL := [(.int k)]) (rest := []) (lenOf pd_0 rfl) rfl (by show 2 * 0 + _ ≤ _; exact Nat.le_of_eq rfl) (hb hby at_9) (fun _ _ => ⟨rfl, e0, (by decide : 0 + 0 ≤ _), (by decide : 0 + 0 ≤ _)⟩)
    dsimp only [Pt.U, Pt.locs, Pt.cells, Pt.slots] at X2 l2 y2 z2 st2 hQ2
    subst l2 y2 z2
    obtain ⟨hv2, N2q, e2q⟩ := hQ2
    have N2 := Fr.app N0 N2q
    rw [show (if k = 0 then w_DRAFT else if k = 1 then w_SENT else if k = 2 then w_VIEWED else if k = 3 then w_PARTLY_PAID else if k = 4 then w_PAID else w_CANCELLED) = w_DRAFT from by simp [hk0]] at hv2
    subst hv2
    obtain ⟨T3, X3, e3, st3⟩ := getS2 X2 hx hZ hown (host := "") (Or.inl (hwi hw 5 rfl)) Via.refl e2q S_DRAFT (g := (mkF m 14 #[iv p1, iv k, rv w_DRAFT, .unset, .unset, .unset, .unset] [(.ref w_DRAFT)])) rfl (hb hby at_14)
    obtain ⟨T4, X4, e4, st4⟩ := getS2 X3 hx hZ hown (host := "") (Or.inl (hwi hw 8 rfl)) Via.refl e3 S_PAID (g := (mkF m 27 #[iv p1, iv k, rv w_DRAFT, iv 0, .unset, .unset, .unset] [(.ref w_DRAFT)])) rfl (hb hby at_27)
    obtain ⟨T5, X5, e5, st5⟩ := getS2 X4 hx hZ hown (host := "") (Or.inl (hwi hw 10 rfl)) Via.refl e4 S_CANCELLED (g := (mkF m 41 #[iv p1, iv k, rv w_DRAFT, iv 0, iv 0, .unset, .unset] [(.ref w_DRAFT)])) rfl (hb hby at_41)
    obtain ⟨cq6, kq6, q6a, q6b, q6c⟩ := isOf hZ e5 E_DRAFT
    obtain ⟨_, _, ⟨T6, L6, k6, n6⟩, -, X6, ⟨Lc6, hQ6, l6, y6, z6⟩, st6⟩ := X5.virtualBack hx (y := (⟨"com/example/owed_to_paid/owedtopaid/model/InvoiceStatus", "takesPayments", "()Z"⟩ : MethodName)) (z := (⟨"com/example/owed_to_paid/owedtopaid/model/InvoiceStatus", "takesPayments", "()Z"⟩ : MethodName)) hown (mvT hZ (hwi hw 12 rfl)) (mvT hZ (hwi hw 13 rfl)) (notFace_of_selects (args := #[]) (mvT hZ (hwi hw 15 rfl))) (mvT hZ (hwi hw 15 rfl)) (mvT hZ (hwi hw 14 rfl)) (by decide) (backOf (W := 0) (rmT l Z a0 hw [] w_DRAFT w_DRAFT w_SENT w_VIEWED w_PARTLY_PAID w_PAID w_CANCELLED h0 n0 Z0 hWd0) hZ (hwi hw 16 rfl) (hwi hw 6 rfl) (by decide) (by decide)) q6a q6c (g := (mkF m 76 #[iv p1, iv k, rv w_DRAFT, iv 0, iv 0, iv 0, iv 0] [(.ref w_DRAFT)])) rfl (by rw [hml]; rfl) (Steps.refl _) (argsL := []) (rest := []) (lenOf pd_1 rfl) rfl (by show 2 * 0 + _ ≤ _; exact Nat.le_of_eq rfl) (hb hby at_76) (fun _ _ => ⟨rfl, e5, (by decide : 0 + 0 ≤ _), (by decide : 0 + 0 ≤ _)⟩)
    dsimp only [Pt.U, Pt.locs, Pt.cells, Pt.slots] at X6 l6 y6 z6 st6 hQ6
    subst l6 y6 z6
    obtain ⟨hv6, N6q, e6q⟩ := hQ6
    have N6 := Fr.app N2 N6q
    rw [show (if w_DRAFT = w_SENT ∨ w_DRAFT = w_VIEWED ∨ w_DRAFT = w_PARTLY_PAID then (1 : Int32) else 0) = 0 from by simp [(Fld.ne F_DRAFT F_SENT (by decide)), (Fld.ne F_DRAFT F_VIEWED (by decide)), (Fld.ne F_DRAFT F_PARTLY_PAID (by decide))]] at hv6
    subst hv6
    have pre7 : ∀ t_, Go p e below T6 (mkF m 89 #[iv p1, iv k, rv w_DRAFT, iv 0, iv 0, iv 0, iv 0] [(.int 1)]) t_ → Go p e below s₁ (entryFrame m #[(.int p1)] maxLocals) t_ := fun t_ kt => pre1 _ (by
        show Go p e below s₁ (mkF m 8 #[iv p1, iv k, .unset, .unset, .unset, .unset, .unset] []) _
        refine XS.iloadN X0.here hx rfl (hb hby at_8) rfl ?_
        show Go p e below s₁ (mkF m 9 #[iv p1, iv k, .unset, .unset, .unset, .unset, .unset] [(.int k)]) _
        refine st2 _ ?_
        show Go p e below T2 (mkF m 12 #[iv p1, iv k, .unset, .unset, .unset, .unset, .unset] [(.ref w_DRAFT)]) _
        refine XS.astoreN X2.here hx rfl (hb hby at_12) rfl rfl (l' := #[iv p1, iv k, rv w_DRAFT, .unset, .unset, .unset, .unset]) rfl ?_
        show Go p e below T2 (mkF m 13 #[iv p1, iv k, rv w_DRAFT, .unset, .unset, .unset, .unset] []) _
        refine XS.aloadN X2.here hx rfl (hb hby at_13) rfl rfl ?_
        show Go p e below T2 (mkF m 14 #[iv p1, iv k, rv w_DRAFT, .unset, .unset, .unset, .unset] [(.ref w_DRAFT)]) _
        refine st3 _ ?_
        show Go p e below T3 (mkF m 17 #[iv p1, iv k, rv w_DRAFT, .unset, .unset, .unset, .unset] [(.ref w_DRAFT), (.ref w_DRAFT)]) _
        refine Jvm.RoadKit.acmp (g := (mkF m 17 #[iv p1, iv k, rv w_DRAFT, .unset, .unset, .unset, .unset] [(.ref w_DRAFT), (.ref w_DRAFT)])) X3 hx rfl rfl rfl (pc0 := 17) (pc' := 24) (same := true) rfl (hb hby at_17) rfl (decide_eq_true rfl) (by decide) (by decide) ?_
        show Go p e below T3 (mkF m 24 #[iv p1, iv k, rv w_DRAFT, .unset, .unset, .unset, .unset] []) _
        refine XS.iconst X3.here hx rfl (hb hby at_24) ?_
        show Go p e below T3 (mkF m 25 #[iv p1, iv k, rv w_DRAFT, .unset, .unset, .unset, .unset] [(.int 0)]) _
        refine XS.istoreN X3.here hx rfl (hb hby at_25) rfl (l' := #[iv p1, iv k, rv w_DRAFT, iv 0, .unset, .unset, .unset]) rfl ?_
        show Go p e below T3 (mkF m 26 #[iv p1, iv k, rv w_DRAFT, iv 0, .unset, .unset, .unset] []) _
        refine XS.aloadN X3.here hx rfl (hb hby at_26) rfl rfl ?_
        show Go p e below T3 (mkF m 27 #[iv p1, iv k, rv w_DRAFT, iv 0, .unset, .unset, .unset] [(.ref w_DRAFT)]) _
        refine st4 _ ?_
        show Go p e below T4 (mkF m 30 #[iv p1, iv k, rv w_DRAFT, iv 0, .unset, .unset, .unset] [(.ref w_PAID), (.ref w_DRAFT)]) _
        refine Jvm.RoadKit.acmp (g := (mkF m 30 #[iv p1, iv k, rv w_DRAFT, iv 0, .unset, .unset, .unset] [(.ref w_PAID), (.ref w_DRAFT)])) X4 hx rfl rfl rfl (pc0 := 30) (pc' := 37) (same := false) rfl (hb hby at_30) rfl (decide_eq_false fun q => (Fld.ne F_DRAFT F_PAID (by decide)) (Value.ref.inj q)) (by decide) (by decide) ?_
        show Go p e below T4 (mkF m 37 #[iv p1, iv k, rv w_DRAFT, iv 0, .unset, .unset, .unset] []) _
        refine XS.iconst X4.here hx rfl (hb hby at_37) ?_
        show Go p e below T4 (mkF m 38 #[iv p1, iv k, rv w_DRAFT, iv 0, .unset, .unset, .unset] [(.int 0)]) _
        refine XS.istore X4.here hx rfl (hb hby at_38) rfl (l' := #[iv p1, iv k, rv w_DRAFT, iv 0, iv 0, .unset, .unset]) rfl ?_
        show Go p e below T4 (mkF m 40 #[iv p1, iv k, rv w_DRAFT, iv 0, iv 0, .unset, .unset] []) _
        refine XS.aloadN X4.here hx rfl (hb hby at_40) rfl rfl ?_
        show Go p e below T4 (mkF m 41 #[iv p1, iv k, rv w_DRAFT, iv 0, iv 0, .unset, .unset] [(.ref w_DRAFT)]) _
        refine st5 _ ?_
        show Go p e below T5 (mkF m 44 #[iv p1, iv k, rv w_DRAFT, iv 0, iv 0, .unset, .unset] [(.ref w_CANCELLED), (.ref w_DRAFT)]) _
        refine Jvm.RoadKit.acmp (g := (mkF m 44 #[iv p1, iv k, rv w_DRAFT, iv 0, iv 0, .unset, .unset] [(.ref w_CANCELLED), (.ref w_DRAFT)])) X5 hx rfl rfl rfl (pc0 := 44) (pc' := 51) (same := false) rfl (hb hby at_44) rfl (decide_eq_false fun q => (Fld.ne F_DRAFT F_CANCELLED (by decide)) (Value.ref.inj q)) (by decide) (by decide) ?_
        show Go p e below T5 (mkF m 51 #[iv p1, iv k, rv w_DRAFT, iv 0, iv 0, .unset, .unset] []) _
        refine XS.iconst X5.here hx rfl (hb hby at_51) ?_
        show Go p e below T5 (mkF m 52 #[iv p1, iv k, rv w_DRAFT, iv 0, iv 0, .unset, .unset] [(.int 0)]) _
        refine XS.istore X5.here hx rfl (hb hby at_52) rfl (l' := #[iv p1, iv k, rv w_DRAFT, iv 0, iv 0, iv 0, .unset]) rfl ?_
        show Go p e below T5 (mkF m 54 #[iv p1, iv k, rv w_DRAFT, iv 0, iv 0, iv 0, .unset] []) _
        refine XS.iloadN X5.here hx rfl (hb hby at_54) rfl ?_
        show Go p e below T5 (mkF m 55 #[iv p1, iv k, rv w_DRAFT, iv 0, iv 0, iv 0, .unset] [(.int 0)]) _
        refine XS.ifYes X5.here hx rfl (pc0 := 55) (pc' := 72) rfl (hb hby at_55) rfl ((if0 _ _).trans (teq ((by decide) : (0 : Int32) = (0 : Int32))).1) (by decide) (by decide) ?_
        show Go p e below T5 (mkF m 72 #[iv p1, iv k, rv w_DRAFT, iv 0, iv 0, iv 0, .unset] []) _
        refine XS.iconst X5.here hx rfl (hb hby at_72) ?_
        show Go p e below T5 (mkF m 73 #[iv p1, iv k, rv w_DRAFT, iv 0, iv 0, iv 0, .unset] [(.int 0)]) _
        refine XS.istore X5.here hx rfl (hb hby at_73) rfl (l' := #[iv p1, iv k, rv w_DRAFT, iv 0, iv 0, iv 0, iv 0]) rfl ?_
        show Go p e below T5 (mkF m 75 #[iv p1, iv k, rv w_DRAFT, iv 0, iv 0, iv 0, iv 0] []) _
        refine XS.aloadN X5.here hx rfl (hb hby at_75) rfl rfl ?_
        show Go p e below T5 (mkF m 76 #[iv p1, iv k, rv w_DRAFT, iv 0, iv 0, iv 0, iv 0] [(.ref w_DRAFT)]) _
        refine st6.trans ?_
        show Go p e below T6 (mkF m 79 #[iv p1, iv k, rv w_DRAFT, iv 0, iv 0, iv 0, iv 0] [(.int 0)]) _
        refine XS.iload X6.here hx rfl (hb hby at_79) rfl ?_
        show Go p e below T6 (mkF m 81 #[iv p1, iv k, rv w_DRAFT, iv 0, iv 0, iv 0, iv 0] [(.int 0), (.int 0)]) _
        refine XS.icmpNo X6.here hx rfl (hb hby at_81) rfl (teq ((by decide) : (0 : Int32) = (0 : Int32))).2 ?_
        show Go p e below T6 (mkF m 84 #[iv p1, iv k, rv w_DRAFT, iv 0, iv 0, iv 0, iv 0] []) _
        refine XS.iconst X6.here hx rfl (hb hby at_84) ?_
        show Go p e below T6 (mkF m 85 #[iv p1, iv k, rv w_DRAFT, iv 0, iv 0, iv 0, iv 0] [(.int 1)]) _
        refine XS.goto X6.here hx rfl (pc0 := 85) (pc' := 89) rfl (hb hby at_85) (by decide) (by decide) ?_
        show Go p e below T6 (mkF m 89 #[iv p1, iv k, rv w_DRAFT, iv 0, iv 0, iv 0, iv 0] [(.int 1)]) _
        exact kt)
    obtain ⟨fs, hr, hrun, hended, hW, hsame⟩ := X6.leave (v := some (.int 1)) (fun h => by rw [Bd.returns] at h; cases h)
    refine ⟨_, _, pre7 _ ?_, hrun, hended, _, _, rfl, ?_, ⟨_, rfl⟩, hW, hsame.mono (by decide) (by decide)⟩
    · show Steps p.tables e below (T6.setTop (mkF m 89 #[iv p1, iv k, rv w_DRAFT, iv 0, iv 0, iv 0, iv 0] [(.int 1)])) _
      exact retN X6 hx (t := .boolean) Bd.returns (by simp) (hb hby at_89) hr
    · show Q_rmL Z p1 w_DRAFT w_SENT w_VIEWED w_PARTLY_PAID w_PAID w_CANCELLED h0 n0 _ T6.heap _
      rw [e6q]
      exact ⟨rfl, N6⟩
  · by_cases hk1 : k = 1
    · obtain ⟨_, _, ⟨T8, L8, k8, n8⟩, -, X8, ⟨Lc8, hQ8, l8, y8, z8⟩, st8⟩ := Jvm.LawKit.callS X0 hx (y := (⟨"com/example/owed_to_paid/owedtopaid/model/InvoiceStatusTakesPaymentsPinLaw", "pick", "(I)Lcom/example/owed_to_paid/owedtopaid/model/InvoiceStatus;"⟩ : MethodName)) hown (mvT hZ (hwi hw 1 rfl)) (mvT hZ (hwi hw 2 rfl)) (mvT hZ (hwi hw 3 rfl)) (mvT hZ (hwi hw 4 rfl)) (by decide) (backOf (W := 0) (rmP l Z a0 hw [] k w_DRAFT w_SENT w_VIEWED w_PARTLY_PAID w_PAID w_CANCELLED h0 n0 Z0 hWd0) hZ (hwi hw 4 rfl) (hwi hw 3 rfl) (by decide) (by decide)) (g := (mkF m 9 #[iv p1, iv k, .unset, .unset, .unset, .unset, .unset] [(.int k)])) rfl (by rw [hml]; rfl) (argsL := [(.int k)]) (rest := []) (lenOf pd_0 rfl) rfl (by show 2 * 0 + _ ≤ _; exact Nat.le_of_eq rfl) (hb hby at_9) (fun _ _ => ⟨rfl, e0, (by decide : 0 + 0 ≤ _), (by decide : 0 + 0 ≤ _)⟩)
      dsimp only [Pt.U, Pt.locs, Pt.cells, Pt.slots] at X8 l8 y8 z8 st8 hQ8
      subst l8 y8 z8
      obtain ⟨hv8, N8q, e8q⟩ := hQ8
      have N8 := Fr.app N0 N8q
      rw [show (if k = 0 then w_DRAFT else if k = 1 then w_SENT else if k = 2 then w_VIEWED else if k = 3 then w_PARTLY_PAID else if k = 4 then w_PAID else w_CANCELLED) = w_SENT from by simp [hk0, hk1]] at hv8
      subst hv8
      obtain ⟨T9, X9, e9, st9⟩ := getS2 X8 hx hZ hown (host := "") (Or.inl (hwi hw 5 rfl)) Via.refl e8q S_DRAFT (g := (mkF m 14 #[iv p1, iv k, rv w_SENT, .unset, .unset, .unset, .unset] [(.ref w_SENT)])) rfl (hb hby at_14)
      obtain ⟨T10, X10, e10, st10⟩ := getS2 X9 hx hZ hown (host := "") (Or.inl (hwi hw 8 rfl)) Via.refl e9 S_PAID (g := (mkF m 27 #[iv p1, iv k, rv w_SENT, iv 1, .unset, .unset, .unset] [(.ref w_SENT)])) rfl (hb hby at_27)
      obtain ⟨T11, X11, e11, st11⟩ := getS2 X10 hx hZ hown (host := "") (Or.inl (hwi hw 10 rfl)) Via.refl e10 S_CANCELLED (g := (mkF m 41 #[iv p1, iv k, rv w_SENT, iv 1, iv 0, .unset, .unset] [(.ref w_SENT)])) rfl (hb hby at_41)
      obtain ⟨cq12, kq12, q12a, q12b, q12c⟩ := isOf hZ e11 E_SENT
      obtain ⟨_, _, ⟨T12, L12, k12, n12⟩, -, X12, ⟨Lc12, hQ12, l12, y12, z12⟩, st12⟩ := X11.virtualBack hx (y := (⟨"com/example/owed_to_paid/owedtopaid/model/InvoiceStatus", "takesPayments", "()Z"⟩ : MethodName)) (z := (⟨"com/example/owed_to_paid/owedtopaid/model/InvoiceStatus", "takesPayments", "()Z"⟩ : MethodName)) hown (mvT hZ (hwi hw 12 rfl)) (mvT hZ (hwi hw 13 rfl)) (notFace_of_selects (args := #[]) (mvT hZ (hwi hw 15 rfl))) (mvT hZ (hwi hw 15 rfl)) (mvT hZ (hwi hw 14 rfl)) (by decide) (backOf (W := 0) (rmT l Z a0 hw [] w_SENT w_DRAFT w_SENT w_VIEWED w_PARTLY_PAID w_PAID w_CANCELLED h0 n0 Z0 hWd0) hZ (hwi hw 16 rfl) (hwi hw 6 rfl) (by decide) (by decide)) q12a q12c (g := (mkF m 76 #[iv p1, iv k, rv w_SENT, iv 1, iv 0, iv 0, iv 1] [(.ref w_SENT)])) rfl (by rw [hml]; rfl) (Steps.refl _) (argsL := []) (rest := []) (lenOf pd_1 rfl) rfl (by show 2 * 0 + _ ≤ _; exact Nat.le_of_eq rfl) (hb hby at_76) (fun _ _ => ⟨rfl, e11, (by decide : 0 + 0 ≤ _), (by decide : 0 + 0 ≤ _)⟩)
      dsimp only [Pt.U, Pt.locs, Pt.cells, Pt.slots] at X12 l12 y12 z12 st12 hQ12
      subst l12 y12 z12
      obtain ⟨hv12, N12q, e12q⟩ := hQ12
      have N12 := Fr.app N8 N12q
      rw [show (if w_SENT = w_SENT ∨ w_SENT = w_VIEWED ∨ w_SENT = w_PARTLY_PAID then (1 : Int32) else 0) = 1 from by simp []] at hv12
      subst hv12
      have pre13 : ∀ t_, Go p e below T12 (mkF m 89 #[iv p1, iv k, rv w_SENT, iv 1, iv 0, iv 0, iv 1] [(.int 1)]) t_ → Go p e below s₁ (entryFrame m #[(.int p1)] maxLocals) t_ := fun t_ kt => pre1 _ (by
          show Go p e below s₁ (mkF m 8 #[iv p1, iv k, .unset, .unset, .unset, .unset, .unset] []) _
          refine XS.iloadN X0.here hx rfl (hb hby at_8) rfl ?_
          show Go p e below s₁ (mkF m 9 #[iv p1, iv k, .unset, .unset, .unset, .unset, .unset] [(.int k)]) _
          refine st8 _ ?_
          show Go p e below T8 (mkF m 12 #[iv p1, iv k, .unset, .unset, .unset, .unset, .unset] [(.ref w_SENT)]) _
          refine XS.astoreN X8.here hx rfl (hb hby at_12) rfl rfl (l' := #[iv p1, iv k, rv w_SENT, .unset, .unset, .unset, .unset]) rfl ?_
          show Go p e below T8 (mkF m 13 #[iv p1, iv k, rv w_SENT, .unset, .unset, .unset, .unset] []) _
          refine XS.aloadN X8.here hx rfl (hb hby at_13) rfl rfl ?_
          show Go p e below T8 (mkF m 14 #[iv p1, iv k, rv w_SENT, .unset, .unset, .unset, .unset] [(.ref w_SENT)]) _
          refine st9 _ ?_
          show Go p e below T9 (mkF m 17 #[iv p1, iv k, rv w_SENT, .unset, .unset, .unset, .unset] [(.ref w_DRAFT), (.ref w_SENT)]) _
          refine Jvm.RoadKit.acmp (g := (mkF m 17 #[iv p1, iv k, rv w_SENT, .unset, .unset, .unset, .unset] [(.ref w_DRAFT), (.ref w_SENT)])) X9 hx rfl rfl rfl (pc0 := 17) (pc' := 20) (same := false) rfl (hb hby at_17) rfl (decide_eq_false fun q => (Fld.ne F_SENT F_DRAFT (by decide)) (Value.ref.inj q)) (by decide) (by decide) ?_
          show Go p e below T9 (mkF m 20 #[iv p1, iv k, rv w_SENT, .unset, .unset, .unset, .unset] []) _
          refine XS.iconst X9.here hx rfl (hb hby at_20) ?_
          show Go p e below T9 (mkF m 21 #[iv p1, iv k, rv w_SENT, .unset, .unset, .unset, .unset] [(.int 1)]) _
          refine XS.goto X9.here hx rfl (pc0 := 21) (pc' := 25) rfl (hb hby at_21) (by decide) (by decide) ?_
          show Go p e below T9 (mkF m 25 #[iv p1, iv k, rv w_SENT, .unset, .unset, .unset, .unset] [(.int 1)]) _
          refine XS.istoreN X9.here hx rfl (hb hby at_25) rfl (l' := #[iv p1, iv k, rv w_SENT, iv 1, .unset, .unset, .unset]) rfl ?_
          show Go p e below T9 (mkF m 26 #[iv p1, iv k, rv w_SENT, iv 1, .unset, .unset, .unset] []) _
          refine XS.aloadN X9.here hx rfl (hb hby at_26) rfl rfl ?_
          show Go p e below T9 (mkF m 27 #[iv p1, iv k, rv w_SENT, iv 1, .unset, .unset, .unset] [(.ref w_SENT)]) _
          refine st10 _ ?_
          show Go p e below T10 (mkF m 30 #[iv p1, iv k, rv w_SENT, iv 1, .unset, .unset, .unset] [(.ref w_PAID), (.ref w_SENT)]) _
          refine Jvm.RoadKit.acmp (g := (mkF m 30 #[iv p1, iv k, rv w_SENT, iv 1, .unset, .unset, .unset] [(.ref w_PAID), (.ref w_SENT)])) X10 hx rfl rfl rfl (pc0 := 30) (pc' := 37) (same := false) rfl (hb hby at_30) rfl (decide_eq_false fun q => (Fld.ne F_SENT F_PAID (by decide)) (Value.ref.inj q)) (by decide) (by decide) ?_
          show Go p e below T10 (mkF m 37 #[iv p1, iv k, rv w_SENT, iv 1, .unset, .unset, .unset] []) _
          refine XS.iconst X10.here hx rfl (hb hby at_37) ?_
          show Go p e below T10 (mkF m 38 #[iv p1, iv k, rv w_SENT, iv 1, .unset, .unset, .unset] [(.int 0)]) _
          refine XS.istore X10.here hx rfl (hb hby at_38) rfl (l' := #[iv p1, iv k, rv w_SENT, iv 1, iv 0, .unset, .unset]) rfl ?_
          show Go p e below T10 (mkF m 40 #[iv p1, iv k, rv w_SENT, iv 1, iv 0, .unset, .unset] []) _
          refine XS.aloadN X10.here hx rfl (hb hby at_40) rfl rfl ?_
          show Go p e below T10 (mkF m 41 #[iv p1, iv k, rv w_SENT, iv 1, iv 0, .unset, .unset] [(.ref w_SENT)]) _
          refine st11 _ ?_
          show Go p e below T11 (mkF m 44 #[iv p1, iv k, rv w_SENT, iv 1, iv 0, .unset, .unset] [(.ref w_CANCELLED), (.ref w_SENT)]) _
          refine Jvm.RoadKit.acmp (g := (mkF m 44 #[iv p1, iv k, rv w_SENT, iv 1, iv 0, .unset, .unset] [(.ref w_CANCELLED), (.ref w_SENT)])) X11 hx rfl rfl rfl (pc0 := 44) (pc' := 51) (same := false) rfl (hb hby at_44) rfl (decide_eq_false fun q => (Fld.ne F_SENT F_CANCELLED (by decide)) (Value.ref.inj q)) (by decide) (by decide) ?_
          show Go p e below T11 (mkF m 51 #[iv p1, iv k, rv w_SENT, iv 1, iv 0, .unset, .unset] []) _
          refine XS.iconst X11.here hx rfl (hb hby at_51) ?_
          show Go p e below T11 (mkF m 52 #[iv p1, iv k, rv w_SENT, iv 1, iv 0, .unset, .unset] [(.int 0)]) _
          refine XS.istore X11.here hx rfl (hb hby at_52) rfl (l' := #[iv p1, iv k, rv w_SENT, iv 1, iv 0, iv 0, .unset]) rfl ?_
          show Go p e below T11 (mkF m 54 #[iv p1, iv k, rv w_SENT, iv 1, iv 0, iv 0, .unset] []) _
          refine XS.iloadN X11.here hx rfl (hb hby at_54) rfl ?_
          show Go p e below T11 (mkF m 55 #[iv p1, iv k, rv w_SENT, iv 1, iv 0, iv 0, .unset] [(.int 1)]) _
          refine XS.ifNo X11.here hx rfl (hb hby at_55) rfl ((if0 _ _).trans (feq ((by decide) : ¬ ((1 : Int32) = (0 : Int32)))).1) ?_
          show Go p e below T11 (mkF m 58 #[iv p1, iv k, rv w_SENT, iv 1, iv 0, iv 0, .unset] []) _
          refine XS.iload X11.here hx rfl (hb hby at_58) rfl ?_
          show Go p e below T11 (mkF m 60 #[iv p1, iv k, rv w_SENT, iv 1, iv 0, iv 0, .unset] [(.int 0)]) _
          refine XS.ifNo X11.here hx rfl (hb hby at_60) rfl ((if0 _ _).trans (teq ((by decide) : (0 : Int32) = (0 : Int32))).2) ?_
          show Go p e below T11 (mkF m 63 #[iv p1, iv k, rv w_SENT, iv 1, iv 0, iv 0, .unset] []) _
          refine XS.iload X11.here hx rfl (hb hby at_63) rfl ?_
          show Go p e below T11 (mkF m 65 #[iv p1, iv k, rv w_SENT, iv 1, iv 0, iv 0, .unset] [(.int 0)]) _
          refine XS.ifNo X11.here hx rfl (hb hby at_65) rfl ((if0 _ _).trans (teq ((by decide) : (0 : Int32) = (0 : Int32))).2) ?_
          show Go p e below T11 (mkF m 68 #[iv p1, iv k, rv w_SENT, iv 1, iv 0, iv 0, .unset] []) _
          refine XS.iconst X11.here hx rfl (hb hby at_68) ?_
          show Go p e below T11 (mkF m 69 #[iv p1, iv k, rv w_SENT, iv 1, iv 0, iv 0, .unset] [(.int 1)]) _
          refine XS.goto X11.here hx rfl (pc0 := 69) (pc' := 73) rfl (hb hby at_69) (by decide) (by decide) ?_
          show Go p e below T11 (mkF m 73 #[iv p1, iv k, rv w_SENT, iv 1, iv 0, iv 0, .unset] [(.int 1)]) _
          refine XS.istore X11.here hx rfl (hb hby at_73) rfl (l' := #[iv p1, iv k, rv w_SENT, iv 1, iv 0, iv 0, iv 1]) rfl ?_
          show Go p e below T11 (mkF m 75 #[iv p1, iv k, rv w_SENT, iv 1, iv 0, iv 0, iv 1] []) _
          refine XS.aloadN X11.here hx rfl (hb hby at_75) rfl rfl ?_
          show Go p e below T11 (mkF m 76 #[iv p1, iv k, rv w_SENT, iv 1, iv 0, iv 0, iv 1] [(.ref w_SENT)]) _
          refine st12.trans ?_
          show Go p e below T12 (mkF m 79 #[iv p1, iv k, rv w_SENT, iv 1, iv 0, iv 0, iv 1] [(.int 1)]) _
          refine XS.iload X12.here hx rfl (hb hby at_79) rfl ?_
          show Go p e below T12 (mkF m 81 #[iv p1, iv k, rv w_SENT, iv 1, iv 0, iv 0, iv 1] [(.int 1), (.int 1)]) _
          refine XS.icmpNo X12.here hx rfl (hb hby at_81) rfl (teq ((by decide) : (1 : Int32) = (1 : Int32))).2 ?_
          show Go p e below T12 (mkF m 84 #[iv p1, iv k, rv w_SENT, iv 1, iv 0, iv 0, iv 1] []) _
          refine XS.iconst X12.here hx rfl (hb hby at_84) ?_
          show Go p e below T12 (mkF m 85 #[iv p1, iv k, rv w_SENT, iv 1, iv 0, iv 0, iv 1] [(.int 1)]) _
          refine XS.goto X12.here hx rfl (pc0 := 85) (pc' := 89) rfl (hb hby at_85) (by decide) (by decide) ?_
          show Go p e below T12 (mkF m 89 #[iv p1, iv k, rv w_SENT, iv 1, iv 0, iv 0, iv 1] [(.int 1)]) _
          exact kt)
      obtain ⟨fs, hr, hrun, hended, hW, hsame⟩ := X12.leave (v := some (.int 1)) (fun h => by rw [Bd.returns] at h; cases h)
      refine ⟨_, _, pre13 _ ?_, hrun, hended, _, _, rfl, ?_, ⟨_, rfl⟩, hW, hsame.mono (by decide) (by decide)⟩
      · show Steps p.tables e below (T12.setTop (mkF m 89 #[iv p1, iv k, rv w_SENT, iv 1, iv 0, iv 0, iv 1] [(.int 1)])) _
        exact retN X12 hx (t := .boolean) Bd.returns (by simp) (hb hby at_89) hr
      · show Q_rmL Z p1 w_DRAFT w_SENT w_VIEWED w_PARTLY_PAID w_PAID w_CANCELLED h0 n0 _ T12.heap _
        rw [e12q]
        exact ⟨rfl, N12⟩
    · by_cases hk2 : k = 2
      · obtain ⟨_, _, ⟨T14, L14, k14, n14⟩, -, X14, ⟨Lc14, hQ14, l14, y14, z14⟩, st14⟩ := Jvm.LawKit.callS X0 hx (y := (⟨"com/example/owed_to_paid/owedtopaid/model/InvoiceStatusTakesPaymentsPinLaw", "pick", "(I)Lcom/example/owed_to_paid/owedtopaid/model/InvoiceStatus;"⟩ : MethodName)) hown (mvT hZ (hwi hw 1 rfl)) (mvT hZ (hwi hw 2 rfl)) (mvT hZ (hwi hw 3 rfl)) (mvT hZ (hwi hw 4 rfl)) (by decide) (backOf (W := 0) (rmP l Z a0 hw [] k w_DRAFT w_SENT w_VIEWED w_PARTLY_PAID w_PAID w_CANCELLED h0 n0 Z0 hWd0) hZ (hwi hw 4 rfl) (hwi hw 3 rfl) (by decide) (by decide)) (g := (mkF m 9 #[iv p1, iv k, .unset, .unset, .unset, .unset, .unset] [(.int k)])) rfl (by rw [hml]; rfl) (argsL := [(.int k)]) (rest := []) (lenOf pd_0 rfl) rfl (by show 2 * 0 + _ ≤ _; exact Nat.le_of_eq rfl) (hb hby at_9) (fun _ _ => ⟨rfl, e0, (by decide : 0 + 0 ≤ _), (by decide : 0 + 0 ≤ _)⟩)
        dsimp only [Pt.U, Pt.locs, Pt.cells, Pt.slots] at X14 l14 y14 z14 st14 hQ14
        subst l14 y14 z14
        obtain ⟨hv14, N14q, e14q⟩ := hQ14
        have N14 := Fr.app N0 N14q
        rw [show (if k = 0 then w_DRAFT else if k = 1 then w_SENT else if k = 2 then w_VIEWED else if k = 3 then w_PARTLY_PAID else if k = 4 then w_PAID else w_CANCELLED) = w_VIEWED from by simp [hk0, hk1, hk2]] at hv14
        subst hv14
        obtain ⟨T15, X15, e15, st15⟩ := getS2 X14 hx hZ hown (host := "") (Or.inl (hwi hw 5 rfl)) Via.refl e14q S_DRAFT (g := (mkF m 14 #[iv p1, iv k, rv w_VIEWED, .unset, .unset, .unset, .unset] [(.ref w_VIEWED)])) rfl (hb hby at_14)
        obtain ⟨T16, X16, e16, st16⟩ := getS2 X15 hx hZ hown (host := "") (Or.inl (hwi hw 8 rfl)) Via.refl e15 S_PAID (g := (mkF m 27 #[iv p1, iv k, rv w_VIEWED, iv 1, .unset, .unset, .unset] [(.ref w_VIEWED)])) rfl (hb hby at_27)
        obtain ⟨T17, X17, e17, st17⟩ := getS2 X16 hx hZ hown (host := "") (Or.inl (hwi hw 10 rfl)) Via.refl e16 S_CANCELLED (g := (mkF m 41 #[iv p1, iv k, rv w_VIEWED, iv 1, iv 0, .unset, .unset] [(.ref w_VIEWED)])) rfl (hb hby at_41)
        obtain ⟨cq18, kq18, q18a, q18b, q18c⟩ := isOf hZ e17 E_VIEWED
        obtain ⟨_, _, ⟨T18, L18, k18, n18⟩, -, X18, ⟨Lc18, hQ18, l18, y18, z18⟩, st18⟩ := X17.virtualBack hx (y := (⟨"com/example/owed_to_paid/owedtopaid/model/InvoiceStatus", "takesPayments", "()Z"⟩ : MethodName)) (z := (⟨"com/example/owed_to_paid/owedtopaid/model/InvoiceStatus", "takesPayments", "()Z"⟩ : MethodName)) hown (mvT hZ (hwi hw 12 rfl)) (mvT hZ (hwi hw 13 rfl)) (notFace_of_selects (args := #[]) (mvT hZ (hwi hw 15 rfl))) (mvT hZ (hwi hw 15 rfl)) (mvT hZ (hwi hw 14 rfl)) (by decide) (backOf (W := 0) (rmT l Z a0 hw [] w_VIEWED w_DRAFT w_SENT w_VIEWED w_PARTLY_PAID w_PAID w_CANCELLED h0 n0 Z0 hWd0) hZ (hwi hw 16 rfl) (hwi hw 6 rfl) (by decide) (by decide)) q18a q18c (g := (mkF m 76 #[iv p1, iv k, rv w_VIEWED, iv 1, iv 0, iv 0, iv 1] [(.ref w_VIEWED)])) rfl (by rw [hml]; rfl) (Steps.refl _) (argsL := []) (rest := []) (lenOf pd_1 rfl) rfl (by show 2 * 0 + _ ≤ _; exact Nat.le_of_eq rfl) (hb hby at_76) (fun _ _ => ⟨rfl, e17, (by decide : 0 + 0 ≤ _), (by decide : 0 + 0 ≤ _)⟩)
        dsimp only [Pt.U, Pt.locs, Pt.cells, Pt.slots] at X18 l18 y18 z18 st18 hQ18
        subst l18 y18 z18
        obtain ⟨hv18, N18q, e18q⟩ := hQ18
        have N18 := Fr.app N14 N18q
        rw [show (if w_VIEWED = w_SENT ∨ w_VIEWED = w_VIEWED ∨ w_VIEWED = w_PARTLY_PAID then (1 : Int32) else 0) = 1 from by simp []] at hv18
        subst hv18
        have pre19 : ∀ t_, Go p e below T18 (mkF m 89 #[iv p1, iv k, rv w_VIEWED, iv 1, iv 0, iv 0, iv 1] [(.int 1)]) t_ → Go p e below s₁ (entryFrame m #[(.int p1)] maxLocals) t_ := fun t_ kt => pre1 _ (by
            show Go p e below s₁ (mkF m 8 #[iv p1, iv k, .unset, .unset, .unset, .unset, .unset] []) _
            refine XS.iloadN X0.here hx rfl (hb hby at_8) rfl ?_
            show Go p e below s₁ (mkF m 9 #[iv p1, iv k, .unset, .unset, .unset, .unset, .unset] [(.int k)]) _
            refine st14 _ ?_
            show Go p e below T14 (mkF m 12 #[iv p1, iv k, .unset, .unset, .unset, .unset, .unset] [(.ref w_VIEWED)]) _
            refine XS.astoreN X14.here hx rfl (hb hby at_12) rfl rfl (l' := #[iv p1, iv k, rv w_VIEWED, .unset, .unset, .unset, .unset]) rfl ?_
            show Go p e below T14 (mkF m 13 #[iv p1, iv k, rv w_VIEWED, .unset, .unset, .unset, .unset] []) _
            refine XS.aloadN X14.here hx rfl (hb hby at_13) rfl rfl ?_
            show Go p e below T14 (mkF m 14 #[iv p1, iv k, rv w_VIEWED, .unset, .unset, .unset, .unset] [(.ref w_VIEWED)]) _
            refine st15 _ ?_
            show Go p e below T15 (mkF m 17 #[iv p1, iv k, rv w_VIEWED, .unset, .unset, .unset, .unset] [(.ref w_DRAFT), (.ref w_VIEWED)]) _
            refine Jvm.RoadKit.acmp (g := (mkF m 17 #[iv p1, iv k, rv w_VIEWED, .unset, .unset, .unset, .unset] [(.ref w_DRAFT), (.ref w_VIEWED)])) X15 hx rfl rfl rfl (pc0 := 17) (pc' := 20) (same := false) rfl (hb hby at_17) rfl (decide_eq_false fun q => (Fld.ne F_VIEWED F_DRAFT (by decide)) (Value.ref.inj q)) (by decide) (by decide) ?_
            show Go p e below T15 (mkF m 20 #[iv p1, iv k, rv w_VIEWED, .unset, .unset, .unset, .unset] []) _
            refine XS.iconst X15.here hx rfl (hb hby at_20) ?_
            show Go p e below T15 (mkF m 21 #[iv p1, iv k, rv w_VIEWED, .unset, .unset, .unset, .unset] [(.int 1)]) _
            refine XS.goto X15.here hx rfl (pc0 := 21) (pc' := 25) rfl (hb hby at_21) (by decide) (by decide) ?_
            show Go p e below T15 (mkF m 25 #[iv p1, iv k, rv w_VIEWED, .unset, .unset, .unset, .unset] [(.int 1)]) _
            refine XS.istoreN X15.here hx rfl (hb hby at_25) rfl (l' := #[iv p1, iv k, rv w_VIEWED, iv 1, .unset, .unset, .unset]) rfl ?_
            show Go p e below T15 (mkF m 26 #[iv p1, iv k, rv w_VIEWED, iv 1, .unset, .unset, .unset] []) _
            refine XS.aloadN X15.here hx rfl (hb hby at_26) rfl rfl ?_
            show Go p e below T15 (mkF m 27 #[iv p1, iv k, rv w_VIEWED, iv 1, .unset, .unset, .unset] [(.ref w_VIEWED)]) _
            refine st16 _ ?_
            show Go p e below T16 (mkF m 30 #[iv p1, iv k, rv w_VIEWED, iv 1, .unset, .unset, .unset] [(.ref w_PAID), (.ref w_VIEWED)]) _
            refine Jvm.RoadKit.acmp (g := (mkF m 30 #[iv p1, iv k, rv w_VIEWED, iv 1, .unset, .unset, .unset] [(.ref w_PAID), (.ref w_VIEWED)])) X16 hx rfl rfl rfl (pc0 := 30) (pc' := 37) (same := false) rfl (hb hby at_30) rfl (decide_eq_false fun q => (Fld.ne F_VIEWED F_PAID (by decide)) (Value.ref.inj q)) (by decide) (by decide) ?_
            show Go p e below T16 (mkF m 37 #[iv p1, iv k, rv w_VIEWED, iv 1, .unset, .unset, .unset] []) _
            refine XS.iconst X16.here hx rfl (hb hby at_37) ?_
            show Go p e below T16 (mkF m 38 #[iv p1, iv k, rv w_VIEWED, iv 1, .unset, .unset, .unset] [(.int 0)]) _
            refine XS.istore X16.here hx rfl (hb hby at_38) rfl (l' := #[iv p1, iv k, rv w_VIEWED, iv 1, iv 0, .unset, .unset]) rfl ?_
            show Go p e below T16 (mkF m 40 #[iv p1, iv k, rv w_VIEWED, iv 1, iv 0, .unset, .unset] []) _
            refine XS.aloadN X16.here hx rfl (hb hby at_40) rfl rfl ?_
            show Go p e below T16 (mkF m 41 #[iv p1, iv k, rv w_VIEWED, iv 1, iv 0, .unset, .unset] [(.ref w_VIEWED)]) _
            refine st17 _ ?_
            show Go p e below T17 (mkF m 44 #[iv p1, iv k, rv w_VIEWED, iv 1, iv 0, .unset, .unset] [(.ref w_CANCELLED), (.ref w_VIEWED)]) _
            refine Jvm.RoadKit.acmp (g := (mkF m 44 #[iv p1, iv k, rv w_VIEWED, iv 1, iv 0, .unset, .unset] [(.ref w_CANCELLED), (.ref w_VIEWED)])) X17 hx rfl rfl rfl (pc0 := 44) (pc' := 51) (same := false) rfl (hb hby at_44) rfl (decide_eq_false fun q => (Fld.ne F_VIEWED F_CANCELLED (by decide)) (Value.ref.inj q)) (by decide) (by decide) ?_
            show Go p e below T17 (mkF m 51 #[iv p1, iv k, rv w_VIEWED, iv 1, iv 0, .unset, .unset] []) _
            refine XS.iconst X17.here hx rfl (hb hby at_51) ?_
            show Go p e below T17 (mkF m 52 #[iv p1, iv k, rv w_VIEWED, iv 1, iv 0, .unset, .unset] [(.int 0)]) _
            refine XS.istore X17.here hx rfl (hb hby at_52) rfl (l' := #[iv p1, iv k, rv w_VIEWED, iv 1, iv 0, iv 0, .unset]) rfl ?_
            show Go p e below T17 (mkF m 54 #[iv p1, iv k, rv w_VIEWED, iv 1, iv 0, iv 0, .unset] []) _
            refine XS.iloadN X17.here hx rfl (hb hby at_54) rfl ?_
            show Go p e below T17 (mkF m 55 #[iv p1, iv k, rv w_VIEWED, iv 1, iv 0, iv 0, .unset] [(.int 1)]) _
            refine XS.ifNo X17.here hx rfl (hb hby at_55) rfl ((if0 _ _).trans (feq ((by decide) : ¬ ((1 : Int32) = (0 : Int32)))).1) ?_
            show Go p e below T17 (mkF m 58 #[iv p1, iv k, rv w_VIEWED, iv 1, iv 0, iv 0, .unset] []) _
            refine XS.iload X17.here hx rfl (hb hby at_58) rfl ?_
            show Go p e below T17 (mkF m 60 #[iv p1, iv k, rv w_VIEWED, iv 1, iv 0, iv 0, .unset] [(.int 0)]) _
            refine XS.ifNo X17.here hx rfl (hb hby at_60) rfl ((if0 _ _).trans (teq ((by decide) : (0 : Int32) = (0 : Int32))).2) ?_
            show Go p e below T17 (mkF m 63 #[iv p1, iv k, rv w_VIEWED, iv 1, iv 0, iv 0, .unset] []) _
            refine XS.iload X17.here hx rfl (hb hby at_63) rfl ?_
            show Go p e below T17 (mkF m 65 #[iv p1, iv k, rv w_VIEWED, iv 1, iv 0, iv 0, .unset] [(.int 0)]) _
            refine XS.ifNo X17.here hx rfl (hb hby at_65) rfl ((if0 _ _).trans (teq ((by decide) : (0 : Int32) = (0 : Int32))).2) ?_
            show Go p e below T17 (mkF m 68 #[iv p1, iv k, rv w_VIEWED, iv 1, iv 0, iv 0, .unset] []) _
            refine XS.iconst X17.here hx rfl (hb hby at_68) ?_
            show Go p e below T17 (mkF m 69 #[iv p1, iv k, rv w_VIEWED, iv 1, iv 0, iv 0, .unset] [(.int 1)]) _
            refine XS.goto X17.here hx rfl (pc0 := 69) (pc' := 73) rfl (hb hby at_69) (by decide) (by decide) ?_
            show Go p e below T17 (mkF m 73 #[iv p1, iv k, rv w_VIEWED, iv 1, iv 0, iv 0, .unset] [(.int 1)]) _
            refine XS.istore X17.here hx rfl (hb hby at_73) rfl (l' := #[iv p1, iv k, rv w_VIEWED, iv 1, iv 0, iv 0, iv 1]) rfl ?_
            show Go p e below T17 (mkF m 75 #[iv p1, iv k, rv w_VIEWED, iv 1, iv 0, iv 0, iv 1] []) _
            refine XS.aloadN X17.here hx rfl (hb hby at_75) rfl rfl ?_
            show Go p e below T17 (mkF m 76 #[iv p1, iv k, rv w_VIEWED, iv 1, iv 0, iv 0, iv 1] [(.ref w_VIEWED)]) _
            refine st18.trans ?_
            show Go p e below T18 (mkF m 79 #[iv p1, iv k, rv w_VIEWED, iv 1, iv 0, iv 0, iv 1] [(.int 1)]) _
            refine XS.iload X18.here hx rfl (hb hby at_79) rfl ?_
            show Go p e below T18 (mkF m 81 #[iv p1, iv k, rv w_VIEWED, iv 1, iv 0, iv 0, iv 1] [(.int 1), (.int 1)]) _
            refine XS.icmpNo X18.here hx rfl (hb hby at_81) rfl (teq ((by decide) : (1 : Int32) = (1 : Int32))).2 ?_
            show Go p e below T18 (mkF m 84 #[iv p1, iv k, rv w_VIEWED, iv 1, iv 0, iv 0, iv 1] []) _
            refine XS.iconst X18.here hx rfl (hb hby at_84) ?_
            show Go p e below T18 (mkF m 85 #[iv p1, iv k, rv w_VIEWED, iv 1, iv 0, iv 0, iv 1] [(.int 1)]) _
            refine XS.goto X18.here hx rfl (pc0 := 85) (pc' := 89) rfl (hb hby at_85) (by decide) (by decide) ?_
            show Go p e below T18 (mkF m 89 #[iv p1, iv k, rv w_VIEWED, iv 1, iv 0, iv 0, iv 1] [(.int 1)]) _
            exact kt)
        obtain ⟨fs, hr, hrun, hended, hW, hsame⟩ := X18.leave (v := some (.int 1)) (fun h => by rw [Bd.returns] at h; cases h)
        refine ⟨_, _, pre19 _ ?_, hrun, hended, _, _, rfl, ?_, ⟨_, rfl⟩, hW, hsame.mono (by decide) (by decide)⟩
        · show Steps p.tables e below (T18.setTop (mkF m 89 #[iv p1, iv k, rv w_VIEWED, iv 1, iv 0, iv 0, iv 1] [(.int 1)])) _
          exact retN X18 hx (t := .boolean) Bd.returns (by simp) (hb hby at_89) hr
        · show Q_rmL Z p1 w_DRAFT w_SENT w_VIEWED w_PARTLY_PAID w_PAID w_CANCELLED h0 n0 _ T18.heap _
          rw [e18q]
          exact ⟨rfl, N18⟩
      · by_cases hk3 : k = 3
        · obtain ⟨_, _, ⟨T20, L20, k20, n20⟩, -, X20, ⟨Lc20, hQ20, l20, y20, z20⟩, st20⟩ := Jvm.LawKit.callS X0 hx (y := (⟨"com/example/owed_to_paid/owedtopaid/model/InvoiceStatusTakesPaymentsPinLaw", "pick", "(I)Lcom/example/owed_to_paid/owedtopaid/model/InvoiceStatus;"⟩ : MethodName)) hown (mvT hZ (hwi hw 1 rfl)) (mvT hZ (hwi hw 2 rfl)) (mvT hZ (hwi hw 3 rfl)) (mvT hZ (hwi hw 4 rfl)) (by decide) (backOf (W := 0) (rmP l Z a0 hw [] k w_DRAFT w_SENT w_VIEWED w_PARTLY_PAID w_PAID w_CANCELLED h0 n0 Z0 hWd0) hZ (hwi hw 4 rfl) (hwi hw 3 rfl) (by decide) (by decide)) (g := (mkF m 9 #[iv p1, iv k, .unset, .unset, .unset, .unset, .unset] [(.int k)])) rfl (by rw [hml]; rfl) (argsL := [(.int k)]) (rest := []) (lenOf pd_0 rfl) rfl (by show 2 * 0 + _ ≤ _; exact Nat.le_of_eq rfl) (hb hby at_9) (fun _ _ => ⟨rfl, e0, (by decide : 0 + 0 ≤ _), (by decide : 0 + 0 ≤ _)⟩)
          dsimp only [Pt.U, Pt.locs, Pt.cells, Pt.slots] at X20 l20 y20 z20 st20 hQ20
          subst l20 y20 z20
          obtain ⟨hv20, N20q, e20q⟩ := hQ20
          have N20 := Fr.app N0 N20q
          rw [show (if k = 0 then w_DRAFT else if k = 1 then w_SENT else if k = 2 then w_VIEWED else if k = 3 then w_PARTLY_PAID else if k = 4 then w_PAID else w_CANCELLED) = w_PARTLY_PAID from by simp [hk0, hk1, hk2, hk3]] at hv20
          subst hv20
          obtain ⟨T21, X21, e21, st21⟩ := getS2 X20 hx hZ hown (host := "") (Or.inl (hwi hw 5 rfl)) Via.refl e20q S_DRAFT (g := (mkF m 14 #[iv p1, iv k, rv w_PARTLY_PAID, .unset, .unset, .unset, .unset] [(.ref w_PARTLY_PAID)])) rfl (hb hby at_14)
          obtain ⟨T22, X22, e22, st22⟩ := getS2 X21 hx hZ hown (host := "") (Or.inl (hwi hw 8 rfl)) Via.refl e21 S_PAID (g := (mkF m 27 #[iv p1, iv k, rv w_PARTLY_PAID, iv 1, .unset, .unset, .unset] [(.ref w_PARTLY_PAID)])) rfl (hb hby at_27)
          obtain ⟨T23, X23, e23, st23⟩ := getS2 X22 hx hZ hown (host := "") (Or.inl (hwi hw 10 rfl)) Via.refl e22 S_CANCELLED (g := (mkF m 41 #[iv p1, iv k, rv w_PARTLY_PAID, iv 1, iv 0, .unset, .unset] [(.ref w_PARTLY_PAID)])) rfl (hb hby at_41)
          obtain ⟨cq24, kq24, q24a, q24b, q24c⟩ := isOf hZ e23 E_PARTLY_PAID
          obtain ⟨_, _, ⟨T24, L24, k24, n24⟩, -, X24, ⟨Lc24, hQ24, l24, y24, z24⟩, st24⟩ := X23.virtualBack hx (y := (⟨"com/example/owed_to_paid/owedtopaid/model/InvoiceStatus", "takesPayments", "()Z"⟩ : MethodName)) (z := (⟨"com/example/owed_to_paid/owedtopaid/model/InvoiceStatus", "takesPayments", "()Z"⟩ : MethodName)) hown (mvT hZ (hwi hw 12 rfl)) (mvT hZ (hwi hw 13 rfl)) (notFace_of_selects (args := #[]) (mvT hZ (hwi hw 15 rfl))) (mvT hZ (hwi hw 15 rfl)) (mvT hZ (hwi hw 14 rfl)) (by decide) (backOf (W := 0) (rmT l Z a0 hw [] w_PARTLY_PAID w_DRAFT w_SENT w_VIEWED w_PARTLY_PAID w_PAID w_CANCELLED h0 n0 Z0 hWd0) hZ (hwi hw 16 rfl) (hwi hw 6 rfl) (by decide) (by decide)) q24a q24c (g := (mkF m 76 #[iv p1, iv k, rv w_PARTLY_PAID, iv 1, iv 0, iv 0, iv 1] [(.ref w_PARTLY_PAID)])) rfl (by rw [hml]; rfl) (Steps.refl _) (argsL := []) (rest := []) (lenOf pd_1 rfl) rfl (by show 2 * 0 + _ ≤ _; exact Nat.le_of_eq rfl) (hb hby at_76) (fun _ _ => ⟨rfl, e23, (by decide : 0 + 0 ≤ _), (by decide : 0 + 0 ≤ _)⟩)
          dsimp only [Pt.U, Pt.locs, Pt.cells, Pt.slots] at X24 l24 y24 z24 st24 hQ24
          subst l24 y24 z24
          obtain ⟨hv24, N24q, e24q⟩ := hQ24
          have N24 := Fr.app N20 N24q
          rw [show (if w_PARTLY_PAID = w_SENT ∨ w_PARTLY_PAID = w_VIEWED ∨ w_PARTLY_PAID = w_PARTLY_PAID then (1 : Int32) else 0) = 1 from by simp []] at hv24
          subst hv24
          have pre25 : ∀ t_, Go p e below T24 (mkF m 89 #[iv p1, iv k, rv w_PARTLY_PAID, iv 1, iv 0, iv 0, iv 1] [(.int 1)]) t_ → Go p e below s₁ (entryFrame m #[(.int p1)] maxLocals) t_ := fun t_ kt => pre1 _ (by
              show Go p e below s₁ (mkF m 8 #[iv p1, iv k, .unset, .unset, .unset, .unset, .unset] []) _
              refine XS.iloadN X0.here hx rfl (hb hby at_8) rfl ?_
              show Go p e below s₁ (mkF m 9 #[iv p1, iv k, .unset, .unset, .unset, .unset, .unset] [(.int k)]) _
              refine st20 _ ?_
              show Go p e below T20 (mkF m 12 #[iv p1, iv k, .unset, .unset, .unset, .unset, .unset] [(.ref w_PARTLY_PAID)]) _
              refine XS.astoreN X20.here hx rfl (hb hby at_12) rfl rfl (l' := #[iv p1, iv k, rv w_PARTLY_PAID, .unset, .unset, .unset, .unset]) rfl ?_
              show Go p e below T20 (mkF m 13 #[iv p1, iv k, rv w_PARTLY_PAID, .unset, .unset, .unset, .unset] []) _
              refine XS.aloadN X20.here hx rfl (hb hby at_13) rfl rfl ?_
              show Go p e below T20 (mkF m 14 #[iv p1, iv k, rv w_PARTLY_PAID, .unset, .unset, .unset, .unset] [(.ref w_PARTLY_PAID)]) _
              refine st21 _ ?_
              show Go p e below T21 (mkF m 17 #[iv p1, iv k, rv w_PARTLY_PAID, .unset, .unset, .unset, .unset] [(.ref w_DRAFT), (.ref w_PARTLY_PAID)]) _
              refine Jvm.RoadKit.acmp (g := (mkF m 17 #[iv p1, iv k, rv w_PARTLY_PAID, .unset, .unset, .unset, .unset] [(.ref w_DRAFT), (.ref w_PARTLY_PAID)])) X21 hx rfl rfl rfl (pc0 := 17) (pc' := 20) (same := false) rfl (hb hby at_17) rfl (decide_eq_false fun q => (Fld.ne F_PARTLY_PAID F_DRAFT (by decide)) (Value.ref.inj q)) (by decide) (by decide) ?_
              show Go p e below T21 (mkF m 20 #[iv p1, iv k, rv w_PARTLY_PAID, .unset, .unset, .unset, .unset] []) _
              refine XS.iconst X21.here hx rfl (hb hby at_20) ?_
              show Go p e below T21 (mkF m 21 #[iv p1, iv k, rv w_PARTLY_PAID, .unset, .unset, .unset, .unset] [(.int 1)]) _
              refine XS.goto X21.here hx rfl (pc0 := 21) (pc' := 25) rfl (hb hby at_21) (by decide) (by decide) ?_
              show Go p e below T21 (mkF m 25 #[iv p1, iv k, rv w_PARTLY_PAID, .unset, .unset, .unset, .unset] [(.int 1)]) _
              refine XS.istoreN X21.here hx rfl (hb hby at_25) rfl (l' := #[iv p1, iv k, rv w_PARTLY_PAID, iv 1, .unset, .unset, .unset]) rfl ?_
              show Go p e below T21 (mkF m 26 #[iv p1, iv k, rv w_PARTLY_PAID, iv 1, .unset, .unset, .unset] []) _
              refine XS.aloadN X21.here hx rfl (hb hby at_26) rfl rfl ?_
              show Go p e below T21 (mkF m 27 #[iv p1, iv k, rv w_PARTLY_PAID, iv 1, .unset, .unset, .unset] [(.ref w_PARTLY_PAID)]) _
              refine st22 _ ?_
              show Go p e below T22 (mkF m 30 #[iv p1, iv k, rv w_PARTLY_PAID, iv 1, .unset, .unset, .unset] [(.ref w_PAID), (.ref w_PARTLY_PAID)]) _
              refine Jvm.RoadKit.acmp (g := (mkF m 30 #[iv p1, iv k, rv w_PARTLY_PAID, iv 1, .unset, .unset, .unset] [(.ref w_PAID), (.ref w_PARTLY_PAID)])) X22 hx rfl rfl rfl (pc0 := 30) (pc' := 37) (same := false) rfl (hb hby at_30) rfl (decide_eq_false fun q => (Fld.ne F_PARTLY_PAID F_PAID (by decide)) (Value.ref.inj q)) (by decide) (by decide) ?_
              show Go p e below T22 (mkF m 37 #[iv p1, iv k, rv w_PARTLY_PAID, iv 1, .unset, .unset, .unset] []) _
              refine XS.iconst X22.here hx rfl (hb hby at_37) ?_
              show Go p e below T22 (mkF m 38 #[iv p1, iv k, rv w_PARTLY_PAID, iv 1, .unset, .unset, .unset] [(.int 0)]) _
              refine XS.istore X22.here hx rfl (hb hby at_38) rfl (l' := #[iv p1, iv k, rv w_PARTLY_PAID, iv 1, iv 0, .unset, .unset]) rfl ?_
              show Go p e below T22 (mkF m 40 #[iv p1, iv k, rv w_PARTLY_PAID, iv 1, iv 0, .unset, .unset] []) _
              refine XS.aloadN X22.here hx rfl (hb hby at_40) rfl rfl ?_
              show Go p e below T22 (mkF m 41 #[iv p1, iv k, rv w_PARTLY_PAID, iv 1, iv 0, .unset, .unset] [(.ref w_PARTLY_PAID)]) _
              refine st23 _ ?_
              show Go p e below T23 (mkF m 44 #[iv p1, iv k, rv w_PARTLY_PAID, iv 1, iv 0, .unset, .unset] [(.ref w_CANCELLED), (.ref w_PARTLY_PAID)]) _
              refine Jvm.RoadKit.acmp (g := (mkF m 44 #[iv p1, iv k, rv w_PARTLY_PAID, iv 1, iv 0, .unset, .unset] [(.ref w_CANCELLED), (.ref w_PARTLY_PAID)])) X23 hx rfl rfl rfl (pc0 := 44) (pc' := 51) (same := false) rfl (hb hby at_44) rfl (decide_eq_false fun q => (Fld.ne F_PARTLY_PAID F_CANCELLED (by decide)) (Value.ref.inj q)) (by decide) (by decide) ?_
              show Go p e below T23 (mkF m 51 #[iv p1, iv k, rv w_PARTLY_PAID, iv 1, iv 0, .unset, .unset] []) _
              refine XS.iconst X23.here hx rfl (hb hby at_51) ?_
              show Go p e below T23 (mkF m 52 #[iv p1, iv k, rv w_PARTLY_PAID, iv 1, iv 0, .unset, .unset] [(.int 0)]) _
              refine XS.istore X23.here hx rfl (hb hby at_52) rfl (l' := #[iv p1, iv k, rv w_PARTLY_PAID, iv 1, iv 0, iv 0, .unset]) rfl ?_
              show Go p e below T23 (mkF m 54 #[iv p1, iv k, rv w_PARTLY_PAID, iv 1, iv 0, iv 0, .unset] []) _
              refine XS.iloadN X23.here hx rfl (hb hby at_54) rfl ?_
              show Go p e below T23 (mkF m 55 #[iv p1, iv k, rv w_PARTLY_PAID, iv 1, iv 0, iv 0, .unset] [(.int 1)]) _
              refine XS.ifNo X23.here hx rfl (hb hby at_55) rfl ((if0 _ _).trans (feq ((by decide) : ¬ ((1 : Int32) = (0 : Int32)))).1) ?_
              show Go p e below T23 (mkF m 58 #[iv p1, iv k, rv w_PARTLY_PAID, iv 1, iv 0, iv 0, .unset] []) _
              refine XS.iload X23.here hx rfl (hb hby at_58) rfl ?_
              show Go p e below T23 (mkF m 60 #[iv p1, iv k, rv w_PARTLY_PAID, iv 1, iv 0, iv 0, .unset] [(.int 0)]) _
              refine XS.ifNo X23.here hx rfl (hb hby at_60) rfl ((if0 _ _).trans (teq ((by decide) : (0 : Int32) = (0 : Int32))).2) ?_
              show Go p e below T23 (mkF m 63 #[iv p1, iv k, rv w_PARTLY_PAID, iv 1, iv 0, iv 0, .unset] []) _
              refine XS.iload X23.here hx rfl (hb hby at_63) rfl ?_
              show Go p e below T23 (mkF m 65 #[iv p1, iv k, rv w_PARTLY_PAID, iv 1, iv 0, iv 0, .unset] [(.int 0)]) _
              refine XS.ifNo X23.here hx rfl (hb hby at_65) rfl ((if0 _ _).trans (teq ((by decide) : (0 : Int32) = (0 : Int32))).2) ?_
              show Go p e below T23 (mkF m 68 #[iv p1, iv k, rv w_PARTLY_PAID, iv 1, iv 0, iv 0, .unset] []) _
              refine XS.iconst X23.here hx rfl (hb hby at_68) ?_
              show Go p e below T23 (mkF m 69 #[iv p1, iv k, rv w_PARTLY_PAID, iv 1, iv 0, iv 0, .unset] [(.int 1)]) _
              refine XS.goto X23.here hx rfl (pc0 := 69) (pc' := 73) rfl (hb hby at_69) (by decide) (by decide) ?_
              show Go p e below T23 (mkF m 73 #[iv p1, iv k, rv w_PARTLY_PAID, iv 1, iv 0, iv 0, .unset] [(.int 1)]) _
              refine XS.istore X23.here hx rfl (hb hby at_73) rfl (l' := #[iv p1, iv k, rv w_PARTLY_PAID, iv 1, iv 0, iv 0, iv 1]) rfl ?_
              show Go p e below T23 (mkF m 75 #[iv p1, iv k, rv w_PARTLY_PAID, iv 1, iv 0, iv 0, iv 1] []) _
              refine XS.aloadN X23.here hx rfl (hb hby at_75) rfl rfl ?_
              show Go p e below T23 (mkF m 76 #[iv p1, iv k, rv w_PARTLY_PAID, iv 1, iv 0, iv 0, iv 1] [(.ref w_PARTLY_PAID)]) _
              refine st24.trans ?_
              show Go p e below T24 (mkF m 79 #[iv p1, iv k, rv w_PARTLY_PAID, iv 1, iv 0, iv 0, iv 1] [(.int 1)]) _
              refine XS.iload X24.here hx rfl (hb hby at_79) rfl ?_
              show Go p e below T24 (mkF m 81 #[iv p1, iv k, rv w_PARTLY_PAID, iv 1, iv 0, iv 0, iv 1] [(.int 1), (.int 1)]) _
              refine XS.icmpNo X24.here hx rfl (hb hby at_81) rfl (teq ((by decide) : (1 : Int32) = (1 : Int32))).2 ?_
              show Go p e below T24 (mkF m 84 #[iv p1, iv k, rv w_PARTLY_PAID, iv 1, iv 0, iv 0, iv 1] []) _
              refine XS.iconst X24.here hx rfl (hb hby at_84) ?_
              show Go p e below T24 (mkF m 85 #[iv p1, iv k, rv w_PARTLY_PAID, iv 1, iv 0, iv 0, iv 1] [(.int 1)]) _
              refine XS.goto X24.here hx rfl (pc0 := 85) (pc' := 89) rfl (hb hby at_85) (by decide) (by decide) ?_
              show Go p e below T24 (mkF m 89 #[iv p1, iv k, rv w_PARTLY_PAID, iv 1, iv 0, iv 0, iv 1] [(.int 1)]) _
              exact kt)
          obtain ⟨fs, hr, hrun, hended, hW, hsame⟩ := X24.leave (v := some (.int 1)) (fun h => by rw [Bd.returns] at h; cases h)
          refine ⟨_, _, pre25 _ ?_, hrun, hended, _, _, rfl, ?_, ⟨_, rfl⟩, hW, hsame.mono (by decide) (by decide)⟩
          · show Steps p.tables e below (T24.setTop (mkF m 89 #[iv p1, iv k, rv w_PARTLY_PAID, iv 1, iv 0, iv 0, iv 1] [(.int 1)])) _
            exact retN X24 hx (t := .boolean) Bd.returns (by simp) (hb hby at_89) hr
          · show Q_rmL Z p1 w_DRAFT w_SENT w_VIEWED w_PARTLY_PAID w_PAID w_CANCELLED h0 n0 _ T24.heap _
            rw [e24q]
            exact ⟨rfl, N24⟩
        · by_cases hk4 : k = 4
          · obtain ⟨_, _, ⟨T26, L26, k26, n26⟩, -, X26, ⟨Lc26, hQ26, l26, y26, z26⟩, st26⟩ := Jvm.LawKit.callS X0 hx (y := (⟨"com/example/owed_to_paid/owedtopaid/model/InvoiceStatusTakesPaymentsPinLaw", "pick", "(I)Lcom/example/owed_to_paid/owedtopaid/model/InvoiceStatus;"⟩ : MethodName)) hown (mvT hZ (hwi hw 1 rfl)) (mvT hZ (hwi hw 2 rfl)) (mvT hZ (hwi hw 3 rfl)) (mvT hZ (hwi hw 4 rfl)) (by decide) (backOf (W := 0) (rmP l Z a0 hw [] k w_DRAFT w_SENT w_VIEWED w_PARTLY_PAID w_PAID w_CANCELLED h0 n0 Z0 hWd0) hZ (hwi hw 4 rfl) (hwi hw 3 rfl) (by decide) (by decide)) (g := (mkF m 9 #[iv p1, iv k, .unset, .unset, .unset, .unset, .unset] [(.int k)])) rfl (by rw [hml]; rfl) (argsL := [(.int k)]) (rest := []) (lenOf pd_0 rfl) rfl (by show 2 * 0 + _ ≤ _; exact Nat.le_of_eq rfl) (hb hby at_9) (fun _ _ => ⟨rfl, e0, (by decide : 0 + 0 ≤ _), (by decide : 0 + 0 ≤ _)⟩)
            dsimp only [Pt.U, Pt.locs, Pt.cells, Pt.slots] at X26 l26 y26 z26 st26 hQ26
            subst l26 y26 z26
            obtain ⟨hv26, N26q, e26q⟩ := hQ26
            have N26 := Fr.app N0 N26q
            rw [show (if k = 0 then w_DRAFT else if k = 1 then w_SENT else if k = 2 then w_VIEWED else if k = 3 then w_PARTLY_PAID else if k = 4 then w_PAID else w_CANCELLED) = w_PAID from by simp [hk0, hk1, hk2, hk3, hk4]] at hv26
            subst hv26
            obtain ⟨T27, X27, e27, st27⟩ := getS2 X26 hx hZ hown (host := "") (Or.inl (hwi hw 5 rfl)) Via.refl e26q S_DRAFT (g := (mkF m 14 #[iv p1, iv k, rv w_PAID, .unset, .unset, .unset, .unset] [(.ref w_PAID)])) rfl (hb hby at_14)
            obtain ⟨T28, X28, e28, st28⟩ := getS2 X27 hx hZ hown (host := "") (Or.inl (hwi hw 8 rfl)) Via.refl e27 S_PAID (g := (mkF m 27 #[iv p1, iv k, rv w_PAID, iv 1, .unset, .unset, .unset] [(.ref w_PAID)])) rfl (hb hby at_27)
            obtain ⟨T29, X29, e29, st29⟩ := getS2 X28 hx hZ hown (host := "") (Or.inl (hwi hw 10 rfl)) Via.refl e28 S_CANCELLED (g := (mkF m 41 #[iv p1, iv k, rv w_PAID, iv 1, iv 1, .unset, .unset] [(.ref w_PAID)])) rfl (hb hby at_41)
            obtain ⟨cq30, kq30, q30a, q30b, q30c⟩ := isOf hZ e29 E_PAID
            obtain ⟨_, _, ⟨T30, L30, k30, n30⟩, -, X30, ⟨Lc30, hQ30, l30, y30, z30⟩, st30⟩ := X29.virtualBack hx (y := (⟨"com/example/owed_to_paid/owedtopaid/model/InvoiceStatus", "takesPayments", "()Z"⟩ : MethodName)) (z := (⟨"com/example/owed_to_paid/owedtopaid/model/InvoiceStatus", "takesPayments", "()Z"⟩ : MethodName)) hown (mvT hZ (hwi hw 12 rfl)) (mvT hZ (hwi hw 13 rfl)) (notFace_of_selects (args := #[]) (mvT hZ (hwi hw 15 rfl))) (mvT hZ (hwi hw 15 rfl)) (mvT hZ (hwi hw 14 rfl)) (by decide) (backOf (W := 0) (rmT l Z a0 hw [] w_PAID w_DRAFT w_SENT w_VIEWED w_PARTLY_PAID w_PAID w_CANCELLED h0 n0 Z0 hWd0) hZ (hwi hw 16 rfl) (hwi hw 6 rfl) (by decide) (by decide)) q30a q30c (g := (mkF m 76 #[iv p1, iv k, rv w_PAID, iv 1, iv 1, iv 0, iv 0] [(.ref w_PAID)])) rfl (by rw [hml]; rfl) (Steps.refl _) (argsL := []) (rest := []) (lenOf pd_1 rfl) rfl (by show 2 * 0 + _ ≤ _; exact Nat.le_of_eq rfl) (hb hby at_76) (fun _ _ => ⟨rfl, e29, (by decide : 0 + 0 ≤ _), (by decide : 0 + 0 ≤ _)⟩)
            dsimp only [Pt.U, Pt.locs, Pt.cells, Pt.slots] at X30 l30 y30 z30 st30 hQ30
            subst l30 y30 z30
            obtain ⟨hv30, N30q, e30q⟩ := hQ30
            have N30 := Fr.app N26 N30q
            rw [show (if w_PAID = w_SENT ∨ w_PAID = w_VIEWED ∨ w_PAID = w_PARTLY_PAID then (1 : Int32) else 0) = 0 from by simp [(Fld.ne F_PAID F_SENT (by decide)), (Fld.ne F_PAID F_VIEWED (by decide)), (Fld.ne F_PAID F_PARTLY_PAID (by decide))]] at hv30
            subst hv30
            have pre31 : ∀ t_, Go p e below T30 (mkF m 89 #[iv p1, iv k, rv w_PAID, iv 1, iv 1, iv 0, iv 0] [(.int 1)]) t_ → Go p e below s₁ (entryFrame m #[(.int p1)] maxLocals) t_ := fun t_ kt => pre1 _ (by
                show Go p e below s₁ (mkF m 8 #[iv p1, iv k, .unset, .unset, .unset, .unset, .unset] []) _
                refine XS.iloadN X0.here hx rfl (hb hby at_8) rfl ?_
                show Go p e below s₁ (mkF m 9 #[iv p1, iv k, .unset, .unset, .unset, .unset, .unset] [(.int k)]) _
                refine st26 _ ?_
                show Go p e below T26 (mkF m 12 #[iv p1, iv k, .unset, .unset, .unset, .unset, .unset] [(.ref w_PAID)]) _
                refine XS.astoreN X26.here hx rfl (hb hby at_12) rfl rfl (l' := #[iv p1, iv k, rv w_PAID, .unset, .unset, .unset, .unset]) rfl ?_
                show Go p e below T26 (mkF m 13 #[iv p1, iv k, rv w_PAID, .unset, .unset, .unset, .unset] []) _
                refine XS.aloadN X26.here hx rfl (hb hby at_13) rfl rfl ?_
                show Go p e below T26 (mkF m 14 #[iv p1, iv k, rv w_PAID, .unset, .unset, .unset, .unset] [(.ref w_PAID)]) _
                refine st27 _ ?_
                show Go p e below T27 (mkF m 17 #[iv p1, iv k, rv w_PAID, .unset, .unset, .unset, .unset] [(.ref w_DRAFT), (.ref w_PAID)]) _
                refine Jvm.RoadKit.acmp (g := (mkF m 17 #[iv p1, iv k, rv w_PAID, .unset, .unset, .unset, .unset] [(.ref w_DRAFT), (.ref w_PAID)])) X27 hx rfl rfl rfl (pc0 := 17) (pc' := 20) (same := false) rfl (hb hby at_17) rfl (decide_eq_false fun q => (Fld.ne F_PAID F_DRAFT (by decide)) (Value.ref.inj q)) (by decide) (by decide) ?_
                show Go p e below T27 (mkF m 20 #[iv p1, iv k, rv w_PAID, .unset, .unset, .unset, .unset] []) _
                refine XS.iconst X27.here hx rfl (hb hby at_20) ?_
                show Go p e below T27 (mkF m 21 #[iv p1, iv k, rv w_PAID, .unset, .unset, .unset, .unset] [(.int 1)]) _
                refine XS.goto X27.here hx rfl (pc0 := 21) (pc' := 25) rfl (hb hby at_21) (by decide) (by decide) ?_
                show Go p e below T27 (mkF m 25 #[iv p1, iv k, rv w_PAID, .unset, .unset, .unset, .unset] [(.int 1)]) _
                refine XS.istoreN X27.here hx rfl (hb hby at_25) rfl (l' := #[iv p1, iv k, rv w_PAID, iv 1, .unset, .unset, .unset]) rfl ?_
                show Go p e below T27 (mkF m 26 #[iv p1, iv k, rv w_PAID, iv 1, .unset, .unset, .unset] []) _
                refine XS.aloadN X27.here hx rfl (hb hby at_26) rfl rfl ?_
                show Go p e below T27 (mkF m 27 #[iv p1, iv k, rv w_PAID, iv 1, .unset, .unset, .unset] [(.ref w_PAID)]) _
                refine st28 _ ?_
                show Go p e below T28 (mkF m 30 #[iv p1, iv k, rv w_PAID, iv 1, .unset, .unset, .unset] [(.ref w_PAID), (.ref w_PAID)]) _
                refine Jvm.RoadKit.acmp (g := (mkF m 30 #[iv p1, iv k, rv w_PAID, iv 1, .unset, .unset, .unset] [(.ref w_PAID), (.ref w_PAID)])) X28 hx rfl rfl rfl (pc0 := 30) (pc' := 33) (same := true) rfl (hb hby at_30) rfl (decide_eq_true rfl) (by decide) (by decide) ?_
                show Go p e below T28 (mkF m 33 #[iv p1, iv k, rv w_PAID, iv 1, .unset, .unset, .unset] []) _
                refine XS.iconst X28.here hx rfl (hb hby at_33) ?_
                show Go p e below T28 (mkF m 34 #[iv p1, iv k, rv w_PAID, iv 1, .unset, .unset, .unset] [(.int 1)]) _
                refine XS.goto X28.here hx rfl (pc0 := 34) (pc' := 38) rfl (hb hby at_34) (by decide) (by decide) ?_
                show Go p e below T28 (mkF m 38 #[iv p1, iv k, rv w_PAID, iv 1, .unset, .unset, .unset] [(.int 1)]) _
                refine XS.istore X28.here hx rfl (hb hby at_38) rfl (l' := #[iv p1, iv k, rv w_PAID, iv 1, iv 1, .unset, .unset]) rfl ?_
                show Go p e below T28 (mkF m 40 #[iv p1, iv k, rv w_PAID, iv 1, iv 1, .unset, .unset] []) _
                refine XS.aloadN X28.here hx rfl (hb hby at_40) rfl rfl ?_
                show Go p e below T28 (mkF m 41 #[iv p1, iv k, rv w_PAID, iv 1, iv 1, .unset, .unset] [(.ref w_PAID)]) _
                refine st29 _ ?_
                show Go p e below T29 (mkF m 44 #[iv p1, iv k, rv w_PAID, iv 1, iv 1, .unset, .unset] [(.ref w_CANCELLED), (.ref w_PAID)]) _
                refine Jvm.RoadKit.acmp (g := (mkF m 44 #[iv p1, iv k, rv w_PAID, iv 1, iv 1, .unset, .unset] [(.ref w_CANCELLED), (.ref w_PAID)])) X29 hx rfl rfl rfl (pc0 := 44) (pc' := 51) (same := false) rfl (hb hby at_44) rfl (decide_eq_false fun q => (Fld.ne F_PAID F_CANCELLED (by decide)) (Value.ref.inj q)) (by decide) (by decide) ?_
                show Go p e below T29 (mkF m 51 #[iv p1, iv k, rv w_PAID, iv 1, iv 1, .unset, .unset] []) _
                refine XS.iconst X29.here hx rfl (hb hby at_51) ?_
                show Go p e below T29 (mkF m 52 #[iv p1, iv k, rv w_PAID, iv 1, iv 1, .unset, .unset] [(.int 0)]) _
                refine XS.istore X29.here hx rfl (hb hby at_52) rfl (l' := #[iv p1, iv k, rv w_PAID, iv 1, iv 1, iv 0, .unset]) rfl ?_
                show Go p e below T29 (mkF m 54 #[iv p1, iv k, rv w_PAID, iv 1, iv 1, iv 0, .unset] []) _
                refine XS.iloadN X29.here hx rfl (hb hby at_54) rfl ?_
                show Go p e below T29 (mkF m 55 #[iv p1, iv k, rv w_PAID, iv 1, iv 1, iv 0, .unset] [(.int 1)]) _
                refine XS.ifNo X29.here hx rfl (hb hby at_55) rfl ((if0 _ _).trans (feq ((by decide) : ¬ ((1 : Int32) = (0 : Int32)))).1) ?_
                show Go p e below T29 (mkF m 58 #[iv p1, iv k, rv w_PAID, iv 1, iv 1, iv 0, .unset] []) _
                refine XS.iload X29.here hx rfl (hb hby at_58) rfl ?_
                show Go p e below T29 (mkF m 60 #[iv p1, iv k, rv w_PAID, iv 1, iv 1, iv 0, .unset] [(.int 1)]) _
                refine XS.ifYes X29.here hx rfl (pc0 := 60) (pc' := 72) rfl (hb hby at_60) rfl ((if0 _ _).trans (feq ((by decide) : ¬ ((1 : Int32) = (0 : Int32)))).2) (by decide) (by decide) ?_
                show Go p e below T29 (mkF m 72 #[iv p1, iv k, rv w_PAID, iv 1, iv 1, iv 0, .unset] []) _
                refine XS.iconst X29.here hx rfl (hb hby at_72) ?_
                show Go p e below T29 (mkF m 73 #[iv p1, iv k, rv w_PAID, iv 1, iv 1, iv 0, .unset] [(.int 0)]) _
                refine XS.istore X29.here hx rfl (hb hby at_73) rfl (l' := #[iv p1, iv k, rv w_PAID, iv 1, iv 1, iv 0, iv 0]) rfl ?_
                show Go p e below T29 (mkF m 75 #[iv p1, iv k, rv w_PAID, iv 1, iv 1, iv 0, iv 0] []) _
                refine XS.aloadN X29.here hx rfl (hb hby at_75) rfl rfl ?_
                show Go p e below T29 (mkF m 76 #[iv p1, iv k, rv w_PAID, iv 1, iv 1, iv 0, iv 0] [(.ref w_PAID)]) _
                refine st30.trans ?_
                show Go p e below T30 (mkF m 79 #[iv p1, iv k, rv w_PAID, iv 1, iv 1, iv 0, iv 0] [(.int 0)]) _
                refine XS.iload X30.here hx rfl (hb hby at_79) rfl ?_
                show Go p e below T30 (mkF m 81 #[iv p1, iv k, rv w_PAID, iv 1, iv 1, iv 0, iv 0] [(.int 0), (.int 0)]) _
                refine XS.icmpNo X30.here hx rfl (hb hby at_81) rfl (teq ((by decide) : (0 : Int32) = (0 : Int32))).2 ?_
                show Go p e below T30 (mkF m 84 #[iv p1, iv k, rv w_PAID, iv 1, iv 1, iv 0, iv 0] []) _
                refine XS.iconst X30.here hx rfl (hb hby at_84) ?_
                show Go p e below T30 (mkF m 85 #[iv p1, iv k, rv w_PAID, iv 1, iv 1, iv 0, iv 0] [(.int 1)]) _
                refine XS.goto X30.here hx rfl (pc0 := 85) (pc' := 89) rfl (hb hby at_85) (by decide) (by decide) ?_
                show Go p e below T30 (mkF m 89 #[iv p1, iv k, rv w_PAID, iv 1, iv 1, iv 0, iv 0] [(.int 1)]) _
                exact kt)
            obtain ⟨fs, hr, hrun, hended, hW, hsame⟩ := X30.leave (v := some (.int 1)) (fun h => by rw [Bd.returns] at h; cases h)
            refine ⟨_, _, pre31 _ ?_, hrun, hended, _, _, rfl, ?_, ⟨_, rfl⟩, hW, hsame.mono (by decide) (by decide)⟩
            · show Steps p.tables e below (T30.setTop (mkF m 89 #[iv p1, iv k, rv w_PAID, iv 1, iv 1, iv 0, iv 0] [(.int 1)])) _
              exact retN X30 hx (t := .boolean) Bd.returns (by simp) (hb hby at_89) hr
            · show Q_rmL Z p1 w_DRAFT w_SENT w_VIEWED w_PARTLY_PAID w_PAID w_CANCELLED h0 n0 _ T30.heap _
              rw [e30q]
              exact ⟨rfl, N30⟩
          · obtain ⟨_, _, ⟨T32, L32, k32, n32⟩, -, X32, ⟨Lc32, hQ32, l32, y32, z32⟩, st32⟩ := Jvm.LawKit.callS X0 hx (y := (⟨"com/example/owed_to_paid/owedtopaid/model/InvoiceStatusTakesPaymentsPinLaw", "pick", "(I)Lcom/example/owed_to_paid/owedtopaid/model/InvoiceStatus;"⟩ : MethodName)) hown (mvT hZ (hwi hw 1 rfl)) (mvT hZ (hwi hw 2 rfl)) (mvT hZ (hwi hw 3 rfl)) (mvT hZ (hwi hw 4 rfl)) (by decide) (backOf (W := 0) (rmP l Z a0 hw [] k w_DRAFT w_SENT w_VIEWED w_PARTLY_PAID w_PAID w_CANCELLED h0 n0 Z0 hWd0) hZ (hwi hw 4 rfl) (hwi hw 3 rfl) (by decide) (by decide)) (g := (mkF m 9 #[iv p1, iv k, .unset, .unset, .unset, .unset, .unset] [(.int k)])) rfl (by rw [hml]; rfl) (argsL := [(.int k)]) (rest := []) (lenOf pd_0 rfl) rfl (by show 2 * 0 + _ ≤ _; exact Nat.le_of_eq rfl) (hb hby at_9) (fun _ _ => ⟨rfl, e0, (by decide : 0 + 0 ≤ _), (by decide : 0 + 0 ≤ _)⟩)
            dsimp only [Pt.U, Pt.locs, Pt.cells, Pt.slots] at X32 l32 y32 z32 st32 hQ32
            subst l32 y32 z32
            obtain ⟨hv32, N32q, e32q⟩ := hQ32
            have N32 := Fr.app N0 N32q
            rw [show (if k = 0 then w_DRAFT else if k = 1 then w_SENT else if k = 2 then w_VIEWED else if k = 3 then w_PARTLY_PAID else if k = 4 then w_PAID else w_CANCELLED) = w_CANCELLED from by simp [hk0, hk1, hk2, hk3, hk4]] at hv32
            subst hv32
            obtain ⟨T33, X33, e33, st33⟩ := getS2 X32 hx hZ hown (host := "") (Or.inl (hwi hw 5 rfl)) Via.refl e32q S_DRAFT (g := (mkF m 14 #[iv p1, iv k, rv w_CANCELLED, .unset, .unset, .unset, .unset] [(.ref w_CANCELLED)])) rfl (hb hby at_14)
            obtain ⟨T34, X34, e34, st34⟩ := getS2 X33 hx hZ hown (host := "") (Or.inl (hwi hw 8 rfl)) Via.refl e33 S_PAID (g := (mkF m 27 #[iv p1, iv k, rv w_CANCELLED, iv 1, .unset, .unset, .unset] [(.ref w_CANCELLED)])) rfl (hb hby at_27)
            obtain ⟨T35, X35, e35, st35⟩ := getS2 X34 hx hZ hown (host := "") (Or.inl (hwi hw 10 rfl)) Via.refl e34 S_CANCELLED (g := (mkF m 41 #[iv p1, iv k, rv w_CANCELLED, iv 1, iv 0, .unset, .unset] [(.ref w_CANCELLED)])) rfl (hb hby at_41)
            obtain ⟨cq36, kq36, q36a, q36b, q36c⟩ := isOf hZ e35 E_CANCELLED
            obtain ⟨_, _, ⟨T36, L36, k36, n36⟩, -, X36, ⟨Lc36, hQ36, l36, y36, z36⟩, st36⟩ := X35.virtualBack hx (y := (⟨"com/example/owed_to_paid/owedtopaid/model/InvoiceStatus", "takesPayments", "()Z"⟩ : MethodName)) (z := (⟨"com/example/owed_to_paid/owedtopaid/model/InvoiceStatus", "takesPayments", "()Z"⟩ : MethodName)) hown (mvT hZ (hwi hw 12 rfl)) (mvT hZ (hwi hw 13 rfl)) (notFace_of_selects (args := #[]) (mvT hZ (hwi hw 15 rfl))) (mvT hZ (hwi hw 15 rfl)) (mvT hZ (hwi hw 14 rfl)) (by decide) (backOf (W := 0) (rmT l Z a0 hw [] w_CANCELLED w_DRAFT w_SENT w_VIEWED w_PARTLY_PAID w_PAID w_CANCELLED h0 n0 Z0 hWd0) hZ (hwi hw 16 rfl) (hwi hw 6 rfl) (by decide) (by decide)) q36a q36c (g := (mkF m 76 #[iv p1, iv k, rv w_CANCELLED, iv 1, iv 0, iv 1, iv 0] [(.ref w_CANCELLED)])) rfl (by rw [hml]; rfl) (Steps.refl _) (argsL := []) (rest := []) (lenOf pd_1 rfl) rfl (by show 2 * 0 + _ ≤ _; exact Nat.le_of_eq rfl) (hb hby at_76) (fun _ _ => ⟨rfl, e35, (by decide : 0 + 0 ≤ _), (by decide : 0 + 0 ≤ _)⟩)
            dsimp only [Pt.U, Pt.locs, Pt.cells, Pt.slots] at X36 l36 y36 z36 st36 hQ36
            subst l36 y36 z36
            obtain ⟨hv36, N36q, e36q⟩ := hQ36
            have N36 := Fr.app N32 N36q
            rw [show (if w_CANCELLED = w_SENT ∨ w_CANCELLED = w_VIEWED ∨ w_CANCELLED = w_PARTLY_PAID then (1 : Int32) else 0) = 0 from by simp [(Fld.ne F_CANCELLED F_SENT (by decide)), (Fld.ne F_CANCELLED F_VIEWED (by decide)), (Fld.ne F_CANCELLED F_PARTLY_PAID (by decide))]] at hv36
            subst hv36
            have pre37 : ∀ t_, Go p e below T36 (mkF m 89 #[iv p1, iv k, rv w_CANCELLED, iv 1, iv 0, iv 1, iv 0] [(.int 1)]) t_ → Go p e below s₁ (entryFrame m #[(.int p1)] maxLocals) t_ := fun t_ kt => pre1 _ (by
                show Go p e below s₁ (mkF m 8 #[iv p1, iv k, .unset, .unset, .unset, .unset, .unset] []) _
                refine XS.iloadN X0.here hx rfl (hb hby at_8) rfl ?_
                show Go p e below s₁ (mkF m 9 #[iv p1, iv k, .unset, .unset, .unset, .unset, .unset] [(.int k)]) _
                refine st32 _ ?_
                show Go p e below T32 (mkF m 12 #[iv p1, iv k, .unset, .unset, .unset, .unset, .unset] [(.ref w_CANCELLED)]) _
                refine XS.astoreN X32.here hx rfl (hb hby at_12) rfl rfl (l' := #[iv p1, iv k, rv w_CANCELLED, .unset, .unset, .unset, .unset]) rfl ?_
                show Go p e below T32 (mkF m 13 #[iv p1, iv k, rv w_CANCELLED, .unset, .unset, .unset, .unset] []) _
                refine XS.aloadN X32.here hx rfl (hb hby at_13) rfl rfl ?_
                show Go p e below T32 (mkF m 14 #[iv p1, iv k, rv w_CANCELLED, .unset, .unset, .unset, .unset] [(.ref w_CANCELLED)]) _
                refine st33 _ ?_
                show Go p e below T33 (mkF m 17 #[iv p1, iv k, rv w_CANCELLED, .unset, .unset, .unset, .unset] [(.ref w_DRAFT), (.ref w_CANCELLED)]) _
                refine Jvm.RoadKit.acmp (g := (mkF m 17 #[iv p1, iv k, rv w_CANCELLED, .unset, .unset, .unset, .unset] [(.ref w_DRAFT), (.ref w_CANCELLED)])) X33 hx rfl rfl rfl (pc0 := 17) (pc' := 20) (same := false) rfl (hb hby at_17) rfl (decide_eq_false fun q => (Fld.ne F_CANCELLED F_DRAFT (by decide)) (Value.ref.inj q)) (by decide) (by decide) ?_
                show Go p e below T33 (mkF m 20 #[iv p1, iv k, rv w_CANCELLED, .unset, .unset, .unset, .unset] []) _
                refine XS.iconst X33.here hx rfl (hb hby at_20) ?_
                show Go p e below T33 (mkF m 21 #[iv p1, iv k, rv w_CANCELLED, .unset, .unset, .unset, .unset] [(.int 1)]) _
                refine XS.goto X33.here hx rfl (pc0 := 21) (pc' := 25) rfl (hb hby at_21) (by decide) (by decide) ?_
                show Go p e below T33 (mkF m 25 #[iv p1, iv k, rv w_CANCELLED, .unset, .unset, .unset, .unset] [(.int 1)]) _
                refine XS.istoreN X33.here hx rfl (hb hby at_25) rfl (l' := #[iv p1, iv k, rv w_CANCELLED, iv 1, .unset, .unset, .unset]) rfl ?_
                show Go p e below T33 (mkF m 26 #[iv p1, iv k, rv w_CANCELLED, iv 1, .unset, .unset, .unset] []) _
                refine XS.aloadN X33.here hx rfl (hb hby at_26) rfl rfl ?_
                show Go p e below T33 (mkF m 27 #[iv p1, iv k, rv w_CANCELLED, iv 1, .unset, .unset, .unset] [(.ref w_CANCELLED)]) _
                refine st34 _ ?_
                show Go p e below T34 (mkF m 30 #[iv p1, iv k, rv w_CANCELLED, iv 1, .unset, .unset, .unset] [(.ref w_PAID), (.ref w_CANCELLED)]) _
                refine Jvm.RoadKit.acmp (g := (mkF m 30 #[iv p1, iv k, rv w_CANCELLED, iv 1, .unset, .unset, .unset] [(.ref w_PAID), (.ref w_CANCELLED)])) X34 hx rfl rfl rfl (pc0 := 30) (pc' := 37) (same := false) rfl (hb hby at_30) rfl (decide_eq_false fun q => (Fld.ne F_CANCELLED F_PAID (by decide)) (Value.ref.inj q)) (by decide) (by decide) ?_
                show Go p e below T34 (mkF m 37 #[iv p1, iv k, rv w_CANCELLED, iv 1, .unset, .unset, .unset] []) _
                refine XS.iconst X34.here hx rfl (hb hby at_37) ?_
                show Go p e below T34 (mkF m 38 #[iv p1, iv k, rv w_CANCELLED, iv 1, .unset, .unset, .unset] [(.int 0)]) _
                refine XS.istore X34.here hx rfl (hb hby at_38) rfl (l' := #[iv p1, iv k, rv w_CANCELLED, iv 1, iv 0, .unset, .unset]) rfl ?_
                show Go p e below T34 (mkF m 40 #[iv p1, iv k, rv w_CANCELLED, iv 1, iv 0, .unset, .unset] []) _
                refine XS.aloadN X34.here hx rfl (hb hby at_40) rfl rfl ?_
                show Go p e below T34 (mkF m 41 #[iv p1, iv k, rv w_CANCELLED, iv 1, iv 0, .unset, .unset] [(.ref w_CANCELLED)]) _
                refine st35 _ ?_
                show Go p e below T35 (mkF m 44 #[iv p1, iv k, rv w_CANCELLED, iv 1, iv 0, .unset, .unset] [(.ref w_CANCELLED), (.ref w_CANCELLED)]) _
                refine Jvm.RoadKit.acmp (g := (mkF m 44 #[iv p1, iv k, rv w_CANCELLED, iv 1, iv 0, .unset, .unset] [(.ref w_CANCELLED), (.ref w_CANCELLED)])) X35 hx rfl rfl rfl (pc0 := 44) (pc' := 47) (same := true) rfl (hb hby at_44) rfl (decide_eq_true rfl) (by decide) (by decide) ?_
                show Go p e below T35 (mkF m 47 #[iv p1, iv k, rv w_CANCELLED, iv 1, iv 0, .unset, .unset] []) _
                refine XS.iconst X35.here hx rfl (hb hby at_47) ?_
                show Go p e below T35 (mkF m 48 #[iv p1, iv k, rv w_CANCELLED, iv 1, iv 0, .unset, .unset] [(.int 1)]) _
                refine XS.goto X35.here hx rfl (pc0 := 48) (pc' := 52) rfl (hb hby at_48) (by decide) (by decide) ?_
                show Go p e below T35 (mkF m 52 #[iv p1, iv k, rv w_CANCELLED, iv 1, iv 0, .unset, .unset] [(.int 1)]) _
                refine XS.istore X35.here hx rfl (hb hby at_52) rfl (l' := #[iv p1, iv k, rv w_CANCELLED, iv 1, iv 0, iv 1, .unset]) rfl ?_
                show Go p e below T35 (mkF m 54 #[iv p1, iv k, rv w_CANCELLED, iv 1, iv 0, iv 1, .unset] []) _
                refine XS.iloadN X35.here hx rfl (hb hby at_54) rfl ?_
                show Go p e below T35 (mkF m 55 #[iv p1, iv k, rv w_CANCELLED, iv 1, iv 0, iv 1, .unset] [(.int 1)]) _
                refine XS.ifNo X35.here hx rfl (hb hby at_55) rfl ((if0 _ _).trans (feq ((by decide) : ¬ ((1 : Int32) = (0 : Int32)))).1) ?_
                show Go p e below T35 (mkF m 58 #[iv p1, iv k, rv w_CANCELLED, iv 1, iv 0, iv 1, .unset] []) _
                refine XS.iload X35.here hx rfl (hb hby at_58) rfl ?_
                show Go p e below T35 (mkF m 60 #[iv p1, iv k, rv w_CANCELLED, iv 1, iv 0, iv 1, .unset] [(.int 0)]) _
                refine XS.ifNo X35.here hx rfl (hb hby at_60) rfl ((if0 _ _).trans (teq ((by decide) : (0 : Int32) = (0 : Int32))).2) ?_
                show Go p e below T35 (mkF m 63 #[iv p1, iv k, rv w_CANCELLED, iv 1, iv 0, iv 1, .unset] []) _
                refine XS.iload X35.here hx rfl (hb hby at_63) rfl ?_
                show Go p e below T35 (mkF m 65 #[iv p1, iv k, rv w_CANCELLED, iv 1, iv 0, iv 1, .unset] [(.int 1)]) _
                refine XS.ifYes X35.here hx rfl (pc0 := 65) (pc' := 72) rfl (hb hby at_65) rfl ((if0 _ _).trans (feq ((by decide) : ¬ ((1 : Int32) = (0 : Int32)))).2) (by decide) (by decide) ?_
                show Go p e below T35 (mkF m 72 #[iv p1, iv k, rv w_CANCELLED, iv 1, iv 0, iv 1, .unset] []) _
                refine XS.iconst X35.here hx rfl (hb hby at_72) ?_
                show Go p e below T35 (mkF m 73 #[iv p1, iv k, rv w_CANCELLED, iv 1, iv 0, iv 1, .unset] [(.int 0)]) _
                refine XS.istore X35.here hx rfl (hb hby at_73) rfl (l' := #[iv p1, iv k, rv w_CANCELLED, iv 1, iv 0, iv 1, iv 0]) rfl ?_
                show Go p e below T35 (mkF m 75 #[iv p1, iv k, rv w_CANCELLED, iv 1, iv 0, iv 1, iv 0] []) _
                refine XS.aloadN X35.here hx rfl (hb hby at_75) rfl rfl ?_
                show Go p e below T35 (mkF m 76 #[iv p1, iv k, rv w_CANCELLED, iv 1, iv 0, iv 1, iv 0] [(.ref w_CANCELLED)]) _
                refine st36.trans ?_
                show Go p e below T36 (mkF m 79 #[iv p1, iv k, rv w_CANCELLED, iv 1, iv 0, iv 1, iv 0] [(.int 0)]) _
                refine XS.iload X36.here hx rfl (hb hby at_79) rfl ?_
                show Go p e below T36 (mkF m 81 #[iv p1, iv k, rv w_CANCELLED, iv 1, iv 0, iv 1, iv 0] [(.int 0), (.int 0)]) _
                refine XS.icmpNo X36.here hx rfl (hb hby at_81) rfl (teq ((by decide) : (0 : Int32) = (0 : Int32))).2 ?_
                show Go p e below T36 (mkF m 84 #[iv p1, iv k, rv w_CANCELLED, iv 1, iv 0, iv 1, iv 0] []) _
                refine XS.iconst X36.here hx rfl (hb hby at_84) ?_
                show Go p e below T36 (mkF m 85 #[iv p1, iv k, rv w_CANCELLED, iv 1, iv 0, iv 1, iv 0] [(.int 1)]) _
                refine XS.goto X36.here hx rfl (pc0 := 85) (pc' := 89) rfl (hb hby at_85) (by decide) (by decide) ?_
                show Go p e below T36 (mkF m 89 #[iv p1, iv k, rv w_CANCELLED, iv 1, iv 0, iv 1, iv 0] [(.int 1)]) _
                exact kt)
            obtain ⟨fs, hr, hrun, hended, hW, hsame⟩ := X36.leave (v := some (.int 1)) (fun h => by rw [Bd.returns] at h; cases h)
            refine ⟨_, _, pre37 _ ?_, hrun, hended, _, _, rfl, ?_, ⟨_, rfl⟩, hW, hsame.mono (by decide) (by decide)⟩
            · show Steps p.tables e below (T36.setTop (mkF m 89 #[iv p1, iv k, rv w_CANCELLED, iv 1, iv 0, iv 1, iv 0] [(.int 1)])) _
              exact retN X36 hx (t := .boolean) Bd.returns (by simp) (hb hby at_89) hr
            · show Q_rmL Z p1 w_DRAFT w_SENT w_VIEWED w_PARTLY_PAID w_PAID w_CANCELLED h0 n0 _ T36.heap _
              rw [e36q]
              exact ⟨rfl, N36⟩
set_option maxRecDepth 65536 in
set_option maxHeartbeats 40000000 in
theorem comes_1 {Post : Tables → Env → Array Value → State → Outcome → State → Prop} (hpost : ∀ tb e args s v u, (limb_1_1.after args s (.returned v) u = true ∧ limb_1_2.after args s (.returned v) u = true ∧ True) → FrameEnd s (.returned v) u (Jvm.fieldLocs frame_1_writes args s ++ Jvm.arrayLocs frame_1_arrays args s ++ Jvm.staticLocs frame_1_statics s) 0 0 → Post tb e args s (.returned v) u) :
    ArmFor flags0 classFile x code maxLocals ret World_1 tables_1 room_1 Calls_1 rest_1 Pre_1 Post := by
  intro l hfl _ _ p e ha hc hk s m args below hf hA hF happ hP
  obtain ⟨hcalls, hrest, hpre⟩ := hP
  obtain ⟨-, -, -, hnamed, -, -, -, hat⟩ := (Spec.applies_iff hf).mp happ
  obtain ⟨hg, hn⟩ := and_e (Cond.before_iff.mp (show (Jvm.Cond.and given_1 narrow_1).before args s = true from hpre))
  obtain ⟨g1, g2⟩ := and_e hg
  obtain ⟨w0, rfl⟩ : ∃ w0 : Value, args = #[w0] := by
    have hs : args.size = 1 := by simpa [Cond.value, given_1] using g1
    obtain ⟨L⟩ := args
    match L, hs with
    | [w0], _ => exact ⟨w0, rfl⟩
  have hw := fun d (hd : d ∈ tables_1) => atoms_spec (ws := Jvm.Cond.code x code maxLocals ret :: tables_1) hat d (List.mem_cons_of_mem _ hd)
  have hfit : Fit s := fun {y c} hc i hi => by
    obtain ⟨ha, rfl⟩ := Array.getElem?_eq_some_iff.mp hc
    have q := List.all_eq_true.mp ((Array.all_eq_true_iff_forall_mem.mp hF) _ (Array.getElem_mem ha)) i (List.mem_range.mpr hi)
    simpa [Array.getElem?_eq_getElem hi] using q
  obtain ⟨i0, ei0⟩ := is_v g2
  obtain rfl : w0 = (.int i0) := Option.some.inj ei0
  obtain ⟨g3, g4⟩ := and_e hn
  obtain ⟨g5, g6⟩ := and_e g4
  obtain ⟨g7, g8⟩ := and_e g6
  obtain ⟨g9, g10⟩ := and_e g8
  obtain ⟨g11, g12⟩ := and_e g10
  obtain ⟨g13, g14⟩ := and_e g12
  obtain ⟨g15, g16⟩ := and_e g14
  obtain ⟨g17, g18⟩ := and_e g16
  obtain ⟨g19, g20⟩ := and_e g18
  obtain ⟨g21, g22⟩ := and_e g20
  obtain ⟨g23, g24⟩ := and_e g22
  obtain ⟨w_DRAFT, ev_DRAFT⟩ := exa_v g3
  have E_DRAFT : Exa s s.heap w_DRAFT "com/example/owed_to_paid/owedtopaid/model/InvoiceStatus" := Exa.start ev_DRAFT g3
  have S_DRAFT : Sta s s.heap "com/example/owed_to_paid/owedtopaid/model/InvoiceStatus" "DRAFT" "Lcom/example/owed_to_paid/owedtopaid/model/InvoiceStatus;" (.ref w_DRAFT) := Sta.start ev_DRAFT (Or.inr ⟨(hwi hw 6 rfl), (hwi hw 7 rfl)⟩)
  obtain ⟨w_PAID, ev_PAID⟩ := exa_v g5
  have E_PAID : Exa s s.heap w_PAID "com/example/owed_to_paid/owedtopaid/model/InvoiceStatus" := Exa.start ev_PAID g5
  have S_PAID : Sta s s.heap "com/example/owed_to_paid/owedtopaid/model/InvoiceStatus" "PAID" "Lcom/example/owed_to_paid/owedtopaid/model/InvoiceStatus;" (.ref w_PAID) := Sta.start ev_PAID (Or.inr ⟨(hwi hw 6 rfl), (hwi hw 9 rfl)⟩)
  obtain ⟨w_CANCELLED, ev_CANCELLED⟩ := exa_v g11
  have E_CANCELLED : Exa s s.heap w_CANCELLED "com/example/owed_to_paid/owedtopaid/model/InvoiceStatus" := Exa.start ev_CANCELLED g11
  have S_CANCELLED : Sta s s.heap "com/example/owed_to_paid/owedtopaid/model/InvoiceStatus" "CANCELLED" "Lcom/example/owed_to_paid/owedtopaid/model/InvoiceStatus;" (.ref w_CANCELLED) := Sta.start ev_CANCELLED (Or.inr ⟨(hwi hw 6 rfl), (hwi hw 11 rfl)⟩)
  obtain ⟨w_SENT, ev_SENT⟩ := exa_v g15
  have E_SENT : Exa s s.heap w_SENT "com/example/owed_to_paid/owedtopaid/model/InvoiceStatus" := Exa.start ev_SENT g15
  have S_SENT : Sta s s.heap "com/example/owed_to_paid/owedtopaid/model/InvoiceStatus" "SENT" "Lcom/example/owed_to_paid/owedtopaid/model/InvoiceStatus;" (.ref w_SENT) := Sta.start ev_SENT (Or.inr ⟨(hwi hw 6 rfl), (hwi hw 18 rfl)⟩)
  obtain ⟨w_VIEWED, ev_VIEWED⟩ := exa_v g19
  have E_VIEWED : Exa s s.heap w_VIEWED "com/example/owed_to_paid/owedtopaid/model/InvoiceStatus" := Exa.start ev_VIEWED g19
  have S_VIEWED : Sta s s.heap "com/example/owed_to_paid/owedtopaid/model/InvoiceStatus" "VIEWED" "Lcom/example/owed_to_paid/owedtopaid/model/InvoiceStatus;" (.ref w_VIEWED) := Sta.start ev_VIEWED (Or.inr ⟨(hwi hw 6 rfl), (hwi hw 20 rfl)⟩)
  obtain ⟨w_PARTLY_PAID, ev_PARTLY_PAID⟩ := exa_v g23
  have E_PARTLY_PAID : Exa s s.heap w_PARTLY_PAID "com/example/owed_to_paid/owedtopaid/model/InvoiceStatus" := Exa.start ev_PARTLY_PAID g23
  have S_PARTLY_PAID : Sta s s.heap "com/example/owed_to_paid/owedtopaid/model/InvoiceStatus" "PARTLY_PAID" "Lcom/example/owed_to_paid/owedtopaid/model/InvoiceStatus;" (.ref w_PARTLY_PAID) := Sta.start ev_PARTLY_PAID (Or.inr ⟨(hwi hw 6 rfl), (hwi hw 22 rfl)⟩)
  have F_DRAFT : Fld s s.heap w_DRAFT "java/lang/Enum" "ordinal" "I" (.int (0 : Int32)) := Fld.start ((fld_at ev_DRAFT).symm.trans (eqv_i (Term.int_eval _) g7))
  have F_PAID : Fld s s.heap w_PAID "java/lang/Enum" "ordinal" "I" (.int (4 : Int32)) := Fld.start ((fld_at ev_PAID).symm.trans (eqv_i (Term.int_eval _) g9))
  have F_CANCELLED : Fld s s.heap w_CANCELLED "java/lang/Enum" "ordinal" "I" (.int (5 : Int32)) := Fld.start ((fld_at ev_CANCELLED).symm.trans (eqv_i (Term.int_eval _) g13))
  have F_SENT : Fld s s.heap w_SENT "java/lang/Enum" "ordinal" "I" (.int (1 : Int32)) := Fld.start ((fld_at ev_SENT).symm.trans (eqv_i (Term.int_eval _) g17))
  have F_VIEWED : Fld s s.heap w_VIEWED "java/lang/Enum" "ordinal" "I" (.int (2 : Int32)) := Fld.start ((fld_at ev_VIEWED).symm.trans (eqv_i (Term.int_eval _) g21))
  have F_PARTLY_PAID : Fld s s.heap w_PARTLY_PAID "java/lang/Enum" "ordinal" "I" (.int (3 : Int32)) := Fld.start ((fld_at ev_PARTLY_PAID).symm.trans (eqv_i (Term.int_eval _) g24))
  obtain ⟨n, o, h1, h2, h3, _, L, rfl, ⟨rfl, N⟩, hq⟩ := rmL l s _ hw tables_1 i0 w_DRAFT w_SENT w_VIEWED w_PARTLY_PAID w_PAID w_CANCELLED s.heap s.heap.size (Nat.le_refl _) ⟨⟨S_DRAFT, E_DRAFT, F_DRAFT⟩, ⟨S_SENT, E_SENT, F_SENT⟩, ⟨S_VIEWED, E_VIEWED, F_VIEWED⟩, ⟨S_PARTLY_PAID, E_PARTLY_PAID, F_PARTLY_PAID⟩, ⟨S_PAID, E_PAID, F_PAID⟩, ⟨S_CANCELLED, E_CANCELLED, F_CANCELLED⟩⟩ p e ha hc hk s m _ below hf ((Spec.applies_iff_loose hf).mp happ).1 ⟨rfl, State.Warmed39.refl s, rfl⟩ trivial
  refine ⟨n, _, h1, h2, h3, hpost _ _ _ _ _ _ ⟨Cond.after_iff.mpr rfl, Cond.after_iff.mpr (eq_i res_at (Term.int_eval (1)) rfl), trivial⟩ ⟨hq.1, hq.2.1, (hq.2.2.sift fun y hy => Or.inr (N y hy)).mono (by decide) (by decide)⟩⟩
theorem main_1_1 : Claimed_1_1 := comes_1 fun _ _ _ _ _ _ h hF => ⟨h.1, hF⟩
theorem main_1_2 : Claimed_1_2 := comes_1 fun _ _ _ _ _ _ h hF => ⟨h.2.1, hF⟩
end Jvm.Pilot.@@N@@
namespace Jvm.Pilot.@@N@@
open Jvm Jvm.ClassFile Sem Op Lib Jvm.Free Jvm.Stand Jvm.Pilot.@@N@@.Jvm.D
/-! MADE BY PROGRAM (witnessworld.py) out of the Statement's table words and the real class files: 13 classes; the members and pool entries that the words name. The judged class is class 1, her method 2. -/
namespace start1
open Jvm.ClassFile
def u (s : String) : CpInfo := .utf8 (stringToUtf16 s)
/-- a pool by its gaps: so many unusable entries, then the entry; so many at the end -/
def gap : Nat → List CpInfo → List CpInfo
  | 0, r => r
  | n + 1, r => .unusable :: gap n r
def poolList (es : List (Nat × CpInfo)) (last : Nat) : List CpInfo := es.foldr (fun e r => gap e.1 (e.2 :: r)) (gap last [])
def pool (es : List (Nat × CpInfo)) (last : Nat) : Array CpInfo := ⟨poolList es last⟩
def fileOf (pool : Array CpInfo) (this : Nat) (attrs : Array Attribute := #[]) (ms : Array MethodInfo := #[]) (fl : Nat := 33) (sup : Nat := 0) (ifs : Array Nat := #[]) (fds : Array FieldInfo := #[]) : ClassFile where
  minorVersion := 0
  majorVersion := 65
  constantPool := pool
  accessFlags := fl
  thisClass := this
  superClass := sup
  interfaces := ifs
  fields := fds
  methods := ms
  attributes := attrs
def plain (name : String) (sup : Option ClassId) : Class where
  name := name
  kind := .ordinary
  loader := none
  accessFlags := 33
  super := sup
  interfaces := #[]
  cf := none
  fields := #[]
  methods := #[]
  instanceTypes := #[]
  staticTypes := #[]
  resolved := #[]
  callSites := []
  init := .initialized
  statics := none
  mirror := none

def pool0 : Array CpInfo := pool [(5, u "<init>"), (0, u "()V"), (1, .class_ 10), (1, u "java/lang/Object")] 113

def k0m0 : Method := { name := "<init>", desc := "()V", sig := { parameters := [], returnType := none }, accessFlags := 1, code := none }
/-- java/lang/Object -/
def k0 : Class := { plain "java/lang/Object" none with
  accessFlags := 33
  interfaces := #[]
  cf := some (fileOf pool0 8 #[] #[{ accessFlags := 1, nameIndex := 5, descriptorIndex := 6, attributes := #[] }] 33 0 #[] #[])
  fields := #[]
  methods := #[k0m0]
  instanceTypes := #[]
  staticTypes := #[]
  resolved := Array.replicate 124 none
  statics := none }

def pool1 : Array CpInfo := pool [(2, .class_ 4), (1, u "java/lang/Object"), (0, u "<init>"), (0, u "()V"), (0, .fieldref 8 9), (0, .class_ 10), (0, .nameAndType 11 12), (0, u "com/example/owed_to_paid/owedtopaid/model/InvoiceStatus"), (0, u "DRAFT"), (0, u "Lcom/example/owed_to_paid/owedtopaid/model/InvoiceStatus;"), (0, .fieldref 8 14), (0, .nameAndType 15 12), (0, u "SENT"), (0, .fieldref 8 17), (0, .nameAndType 18 12), (0, u "VIEWED"), (0, .fieldref 8 20), (0, .nameAndType 21 12), (0, u "PARTLY_PAID"), (0, .fieldref 8 23), (0, .nameAndType 24 12), (0, u "PAID"), (0, .fieldref 8 26), (0, .nameAndType 27 12), (0, u "CANCELLED"), (0, .integer 2147483647), (0, .methodref 30 31), (0, .class_ 32), (0, .nameAndType 33 34), (0, u "com/example/owed_to_paid/owedtopaid/model/InvoiceStatusTakesPaymentsPinLaw"), (0, u "pick"), (0, u "(I)Lcom/example/owed_to_paid/owedtopaid/model/InvoiceStatus;"), (0, .methodref 8 36), (0, .nameAndType 37 38), (0, u "takesPayments"), (0, u "()Z"), (3, u "law"), (0, u "(I)Z")] 2

def k1m0 : Method := { name := "<init>", desc := "()V", sig := { parameters := [], returnType := none }, accessFlags := 2, code := none }
def k1c1 : Code := { maxStack := 2, maxLocals := 1, code := method_2_code, exceptionTable := #[], attributes := #[] }
def k1m1 : Method := { name := "pick", desc := "(I)Lcom/example/owed_to_paid/owedtopaid/model/InvoiceStatus;", sig := { parameters := [.int], returnType := some (.object "com/example/owed_to_paid/owedtopaid/model/InvoiceStatus") }, accessFlags := 10, code := some k1c1 }
def k1c2 : Code := { maxStack := 2, maxLocals := 7, code := code, exceptionTable := #[], attributes := #[] }
def k1m2 : Method := { name := "law", desc := "(I)Z", sig := { parameters := [.int], returnType := some .boolean }, accessFlags := 9, code := some k1c2 }
/-- com/example/owed_to_paid/owedtopaid/model/InvoiceStatusTakesPaymentsPinLaw -/
def k1 : Class := { plain "com/example/owed_to_paid/owedtopaid/model/InvoiceStatusTakesPaymentsPinLaw" (some 0) with
  accessFlags := 49
  interfaces := #[]
  cf := some (fileOf pool1 30 #[] #[{ accessFlags := 2, nameIndex := 5, descriptorIndex := 6, attributes := #[] }, { accessFlags := 10, nameIndex := 33, descriptorIndex := 34, attributes := #[] }, { accessFlags := 9, nameIndex := 42, descriptorIndex := 43, attributes := #[] }] 49 2 #[] #[])
  fields := #[]
  methods := #[k1m0, k1m1, k1m2]
  instanceTypes := #[]
  staticTypes := #[]
  resolved := Array.replicate 46 none
  statics := none }

def pool2 : Array CpInfo := pool [(1, .class_ 2), (0, u "java/lang/constant/Constable"), (0, .class_ 4), (0, u "java/lang/Object")] 6

/-- java/lang/constant/Constable -/
def k2 : Class := { plain "java/lang/constant/Constable" (some 0) with
  accessFlags := 1537
  interfaces := #[]
  cf := some (fileOf pool2 1 #[] #[] 1537 3 #[] #[])
  fields := #[]
  methods := #[]
  instanceTypes := #[]
  staticTypes := #[]
  resolved := Array.replicate 11 none
  statics := none }

def pool3 : Array CpInfo := pool [(1, .class_ 2), (0, u "java/lang/Comparable"), (0, .class_ 4), (0, u "java/lang/Object")] 7

/-- java/lang/Comparable -/
def k3 : Class := { plain "java/lang/Comparable" (some 0) with
  accessFlags := 1537
  interfaces := #[]
  cf := some (fileOf pool3 1 #[] #[] 1537 3 #[] #[])
  fields := #[]
  methods := #[]
  instanceTypes := #[]
  staticTypes := #[]
  resolved := Array.replicate 12 none
  statics := none }

def pool4 : Array CpInfo := pool [(1, .class_ 2), (0, u "java/io/Serializable"), (0, .class_ 4), (0, u "java/lang/Object")] 2

/-- java/io/Serializable -/
def k4 : Class := { plain "java/io/Serializable" (some 0) with
  accessFlags := 1537
  interfaces := #[]
  cf := some (fileOf pool4 1 #[] #[] 1537 3 #[] #[])
  fields := #[]
  methods := #[]
  instanceTypes := #[]
  staticTypes := #[]
  resolved := Array.replicate 7 none
  statics := none }

def pool5 : Array CpInfo := pool [(2, .class_ 4), (1, u "java/lang/Enum"), (0, u "name"), (0, u "Ljava/lang/String;"), (2, u "ordinal"), (0, u "I"), (1, .class_ 14), (1, u "java/lang/Object"), (4, u "hash"), (86, .class_ 108), (1, u "java/lang/Enum$EnumDesc"), (2, .class_ 112), (0, u "java/lang/constant/Constable"), (0, .class_ 114), (0, u "java/lang/Comparable"), (0, .class_ 116), (0, u "java/io/Serializable")] 87

/-- java/lang/Enum -/
def k5 : Class := { plain "java/lang/Enum" (some 0) with
  accessFlags := 1057
  interfaces := #[2, 3, 4]
  cf := some (fileOf pool5 2 #[.nestMembers #[106]] #[] 1057 12 #[111, 113, 115] #[{ accessFlags := 18, nameIndex := 5, descriptorIndex := 6, attributes := #[] }, { accessFlags := 18, nameIndex := 9, descriptorIndex := 10, attributes := #[] }, { accessFlags := 2, nameIndex := 19, descriptorIndex := 10, attributes := #[] }])
  fields := #[{ name := "name", type := (.object "java/lang/String"), accessFlags := 18, slot := 0, constantValue := 0 }, { name := "ordinal", type := .int, accessFlags := 18, slot := 1, constantValue := 0 }, { name := "hash", type := .int, accessFlags := 2, slot := 2, constantValue := 0 }]
  methods := #[]
  instanceTypes := #[(.object "java/lang/String"), .int, .int]
  staticTypes := #[]
  resolved := Array.replicate 204 none
  statics := none }

def pool6 : Array CpInfo := pool [(8, .class_ 10), (1, u "com/example/owed_to_paid/owedtopaid/model/Coded"), (28, .class_ 40), (0, u "java/lang/Object")] 26

/-- com/example/owed_to_paid/owedtopaid/model/Coded -/
def k6 : Class := { plain "com/example/owed_to_paid/owedtopaid/model/Coded" (some 0) with
  accessFlags := 1537
  interfaces := #[]
  cf := some (fileOf pool6 8 #[] #[] 1537 39 #[] #[])
  fields := #[]
  methods := #[]
  instanceTypes := #[]
  staticTypes := #[]
  resolved := Array.replicate 67 none
  statics := none }

def pool7 : Array CpInfo := pool [(1, .class_ 2), (0, u "com/example/owed_to_paid/owedtopaid/model/InvoiceStatus"), (2, u "DRAFT"), (0, u "Lcom/example/owed_to_paid/owedtopaid/model/InvoiceStatus;"), (0, .fieldref 1 8), (0, .nameAndType 9 6), (0, u "SENT"), (0, .fieldref 1 11), (0, .nameAndType 12 6), (0, u "VIEWED"), (0, .fieldref 1 14), (0, .nameAndType 15 6), (0, u "PARTLY_PAID"), (2, u "PAID"), (2, u "CANCELLED"), (2, u "$VALUES"), (0, u "[Lcom/example/owed_to_paid/owedtopaid/model/InvoiceStatus;"), (6, .class_ 34), (1, u "java/lang/Enum"), (8, u "title"), (0, u "Ljava/lang/String;"), (18, u "takesPayments"), (0, u "()Z"), (25, .class_ 92), (1, u "com/example/owed_to_paid/owedtopaid/model/Coded")] 44

def k7c0 : Code := { maxStack := 2, maxLocals := 1, code := prog_17_method_6_code, exceptionTable := #[], attributes := #[] }
def k7m0 : Method := { name := "takesPayments", desc := "()Z", sig := { parameters := [], returnType := some .boolean }, accessFlags := 1, code := some k7c0 }
/-- com/example/owed_to_paid/owedtopaid/model/InvoiceStatus -/
def k7 : Class := { plain "com/example/owed_to_paid/owedtopaid/model/InvoiceStatus" (some 5) with
  accessFlags := 16433
  interfaces := #[6]
  cf := some (fileOf pool7 1 #[] #[{ accessFlags := 1, nameIndex := 63, descriptorIndex := 64, attributes := #[] }] 16433 32 #[90] #[{ accessFlags := 16409, nameIndex := 5, descriptorIndex := 6, attributes := #[] }, { accessFlags := 16409, nameIndex := 9, descriptorIndex := 6, attributes := #[] }, { accessFlags := 16409, nameIndex := 12, descriptorIndex := 6, attributes := #[] }, { accessFlags := 16409, nameIndex := 15, descriptorIndex := 6, attributes := #[] }, { accessFlags := 16409, nameIndex := 18, descriptorIndex := 6, attributes := #[] }, { accessFlags := 16409, nameIndex := 21, descriptorIndex := 6, attributes := #[] }, { accessFlags := 18, nameIndex := 43, descriptorIndex := 44, attributes := #[] }, { accessFlags := 4122, nameIndex := 24, descriptorIndex := 25, attributes := #[] }])
  fields := #[{ name := "DRAFT", type := (.object "com/example/owed_to_paid/owedtopaid/model/InvoiceStatus"), accessFlags := 16409, slot := 0, constantValue := 0 }, { name := "SENT", type := (.object "com/example/owed_to_paid/owedtopaid/model/InvoiceStatus"), accessFlags := 16409, slot := 1, constantValue := 0 }, { name := "VIEWED", type := (.object "com/example/owed_to_paid/owedtopaid/model/InvoiceStatus"), accessFlags := 16409, slot := 2, constantValue := 0 }, { name := "PARTLY_PAID", type := (.object "com/example/owed_to_paid/owedtopaid/model/InvoiceStatus"), accessFlags := 16409, slot := 3, constantValue := 0 }, { name := "PAID", type := (.object "com/example/owed_to_paid/owedtopaid/model/InvoiceStatus"), accessFlags := 16409, slot := 4, constantValue := 0 }, { name := "CANCELLED", type := (.object "com/example/owed_to_paid/owedtopaid/model/InvoiceStatus"), accessFlags := 16409, slot := 5, constantValue := 0 }, { name := "title", type := (.object "java/lang/String"), accessFlags := 18, slot := 3, constantValue := 0 }, { name := "$VALUES", type := (.array (.object "com/example/owed_to_paid/owedtopaid/model/InvoiceStatus")), accessFlags := 4122, slot := 6, constantValue := 0 }]
  methods := #[k7m0]
  instanceTypes := #[(.object "java/lang/String"), .int, .int, (.object "java/lang/String")]
  staticTypes := #[(.object "com/example/owed_to_paid/owedtopaid/model/InvoiceStatus"), (.object "com/example/owed_to_paid/owedtopaid/model/InvoiceStatus"), (.object "com/example/owed_to_paid/owedtopaid/model/InvoiceStatus"), (.object "com/example/owed_to_paid/owedtopaid/model/InvoiceStatus"), (.object "com/example/owed_to_paid/owedtopaid/model/InvoiceStatus"), (.object "com/example/owed_to_paid/owedtopaid/model/InvoiceStatus"), (.array (.object "com/example/owed_to_paid/owedtopaid/model/InvoiceStatus"))]
  resolved := Array.replicate 137 none
  statics := some 0 }

def pool8 : Array CpInfo := pool [(1, u "java/lang/Cloneable"), (0, .class_ 1), (0, u "java/lang/Object"), (0, .class_ 3)] 3

/-- java/lang/Cloneable -/
def k8 : Class := { plain "java/lang/Cloneable" (some 0) with
  accessFlags := 1537
  interfaces := #[]
  cf := some (fileOf pool8 2 #[] #[] 1537 4 #[] #[])
  fields := #[]
  methods := #[]
  instanceTypes := #[]
  staticTypes := #[]
  resolved := Array.replicate 8 none
  statics := none }

/-- the primitive byte -/
def k9 : Class := { plain "byte" none with kind := .primitive 'B', accessFlags := 0x411 }
/-- [B -/
def k10 : Class := { plain "[B" (some 0) with kind := .array 9 .byte, interfaces := #[8, 4], accessFlags := 1041 }

/-- the primitive int -/
def k11 : Class := { plain "int" none with kind := .primitive 'I', accessFlags := 0x411 }
/-- [I -/
def k12 : Class := { plain "[I" (some 0) with kind := .array 11 .int, interfaces := #[8, 4], accessFlags := 1041 }

def heap : Heap := #[{ cls := 7, slots := #[.ref 1, .ref 2, .ref 3, .ref 4, .ref 5, .ref 6, .null], vm := .statics 7 },
  { cls := 7, slots := #[.null, .int 0, .int 0, .null], vm := .none },
  { cls := 7, slots := #[.null, .int 1, .int 0, .null], vm := .none },
  { cls := 7, slots := #[.null, .int 2, .int 0, .null], vm := .none },
  { cls := 7, slots := #[.null, .int 3, .int 0, .null], vm := .none },
  { cls := 7, slots := #[.null, .int 4, .int 0, .null], vm := .none },
  { cls := 7, slots := #[.null, .int 5, .int 0, .null], vm := .none }]
def classes : Array Class := #[k0, k1, k2, k3, k4, k5, k6, k7, k8, k9, k10, k11, k12]
def interned : List (Array UInt16 × Addr) := []
def slotsUsed : Nat := 31
def theMethod : MethodId := ⟨1, 2⟩
def args0 : Array Value := #[.int 5]
def aboutOver (below : List Frame) : State where
  vm := { classes := classes, interned := interned.toArray }
  heap := heap
  slotsUsed := slotsUsed
  threads := #[{ frames := .invoking theMethod args0 :: below }]
def below0 : List Frame := [.native { method := ⟨0, 0⟩, args := #[] }]
def about1 : State := aboutOver below0
def p0 : Program := .bare "" "" ""
def e0 : Env := launch0.env 0 0 0
theorem w_frames : about1.frames = Frame.invoking theMethod args0 :: below0 := rfl
set_option maxRecDepth 65536 in
theorem w_args : argsFit about1.vm theMethod args0 = true := by decide +kernel
set_option maxRecDepth 65536 in
theorem w_heap : heapFits about1 = true := by decide +kernel
set_option maxRecDepth 65536 in
theorem w_runnable : about1.curStatus? = some .runnable := by decide +kernel
set_option maxRecDepth 65536 in
theorem w_alone : about1.alone = true := by decide +kernel
set_option maxRecDepth 65536 in
theorem w_named : about1.methodNamed? x = some theMethod := by decide +kernel
set_option maxRecDepth 65536 in
theorem w_hears : about1.hears theMethod below0 = true := by decide +kernel
set_option maxRecDepth 65536 in
theorem w_ripe : about1.ripe theMethod args0 below0 = true := by decide +kernel
theorem w_running : about1.status = .running := rfl
set_option maxRecDepth 65536 in
theorem w_room : about1.hasRoom e0.platform room_1 = true :=
  launch0.hasRoom_least _ room_1 (by decide +kernel) (by decide +kernel) (by decide +kernel) (by decide +kernel) (by decide +kernel) (by decide +kernel)
theorem allAtoms_all (ts : List Jvm.Cond) (a : Array Jvm.Value) (st : Jvm.State) : (allAtoms ts).before a st = ts.all (fun c => c.before a st) := by
  induction ts with
  | nil => rfl
  | cons c t ih =>
    show (Jvm.Cond.and c (allAtoms t)).before a st = _
    rw [Jvm.Cond.before_and, ih, List.all_cons]
def words1 : List Jvm.Cond := Jvm.Cond.code x code maxLocals ret :: tables_1
/-- a 'code' word, met by the world's own term for the bytes: nothing is compared byte by byte -/
theorem code_word {y : MethodName} {bytes : ByteArray} {mx : Nat} {rt : Option FieldType} {a : Array Value} {s : State} {m : MethodId} {meth : Method} {c : Code} (h1 : s.methodNamed? y = some m) (h2 : s.vm.method? m = some meth) (h3 : meth.code = some c) (h4 : c.code = bytes)
    (h5 : (c.maxLocals == mx && c.exceptionTable.isEmpty && decide (c.maxStack ≤ mostOperands) && decide (meth.sig.returnType = rt) && !meth.locks && decide (parseMethodDescriptor y.desc = some meth.sig)) = true) : (Jvm.Cond.code y bytes mx rt).before a s = true := by
  simp only [Bool.and_eq_true, beq_iff_eq, Bool.not_eq_true', decide_eq_true_eq] at h5
  obtain ⟨⟨⟨⟨⟨g1, g2⟩, g3⟩, g4⟩, g5⟩, g6⟩ := h5
  simp [Cond.before, Cond.holds, Cond.value, h1, h2, h3, h4, g1, g2, g3, g4, g5, g6]
def isCode : Jvm.Cond → Bool
  | .code _ _ _ _ => true
  | _ => false
theorem all_split {L : List Jvm.Cond} {P : Jvm.Cond → Bool} (h1 : L.all (fun c => isCode c || P c) = true) (h2 : ∀ c ∈ L.filter isCode, P c = true) : L.all P = true := by
  refine List.all_eq_true.mpr fun c hc => ?_
  have h := List.all_eq_true.mp h1 c hc
  rcases Bool.eq_false_or_eq_true (isCode c) with hi | hi
  · exact h2 c (List.mem_filter.mpr ⟨hc, hi⟩)
  · simpa [hi] using h
set_option maxRecDepth 65536 in
theorem w_c0 : (Jvm.Cond.code x code maxLocals ret).before args0 about1 = true := code_word (m := ⟨1, 2⟩) (meth := k1m2) (c := k1c2) (by decide +kernel) rfl rfl rfl (by decide +kernel)
set_option maxRecDepth 65536 in
theorem w_c1 : (Jvm.Cond.code ({ cls := "com/example/owed_to_paid/owedtopaid/model/InvoiceStatusTakesPaymentsPinLaw", name := "pick", desc := "(I)Lcom/example/owed_to_paid/owedtopaid/model/InvoiceStatus;" } : Jvm.MethodName) method_2_code (1 : Nat) (Option.some (Jvm.ClassFile.FieldType.object "com/example/owed_to_paid/owedtopaid/model/InvoiceStatus"))).before args0 about1 = true := code_word (m := ⟨1, 1⟩) (meth := k1m1) (c := k1c1) (by decide +kernel) rfl rfl rfl (by decide +kernel)
set_option maxRecDepth 65536 in
theorem w_c2 : (Jvm.Cond.code ({ cls := "com/example/owed_to_paid/owedtopaid/model/InvoiceStatus", name := "takesPayments", desc := "()Z" } : Jvm.MethodName) prog_17_method_6_code (1 : Nat) (Option.some Jvm.ClassFile.FieldType.boolean)).before args0 about1 = true := code_word (m := ⟨7, 0⟩) (meth := k7m0) (c := k7c0) (by decide +kernel) rfl rfl rfl (by decide +kernel)
def codes1 : List Jvm.Cond := [Jvm.Cond.code x code maxLocals ret, Jvm.Cond.code ({ cls := "com/example/owed_to_paid/owedtopaid/model/InvoiceStatusTakesPaymentsPinLaw", name := "pick", desc := "(I)Lcom/example/owed_to_paid/owedtopaid/model/InvoiceStatus;" } : Jvm.MethodName) method_2_code (1 : Nat) (Option.some (Jvm.ClassFile.FieldType.object "com/example/owed_to_paid/owedtopaid/model/InvoiceStatus")), Jvm.Cond.code ({ cls := "com/example/owed_to_paid/owedtopaid/model/InvoiceStatus", name := "takesPayments", desc := "()Z" } : Jvm.MethodName) prog_17_method_6_code (1 : Nat) (Option.some Jvm.ClassFile.FieldType.boolean)]
set_option maxRecDepth 65536 in
theorem codes_eq : words1.filter isCode = codes1 := rfl
theorem w_codes : ∀ c ∈ words1.filter isCode, c.before args0 about1 = true := by
  rw [codes_eq]
  intro c hc
  simp only [codes1, List.mem_cons, List.not_mem_nil, or_false] at hc
  rcases hc with rfl | rfl | rfl
  · exact w_c0
  · exact w_c1
  · exact w_c2
set_option maxRecDepth 65536 in
theorem w_t1 : (words1.take 24).all (fun c => isCode c || c.before args0 about1) = true := by decide +kernel
set_option maxRecDepth 65536 in
theorem w_t2 : (words1.drop 24).all (fun c => isCode c || c.before args0 about1) = true := by decide +kernel
theorem w_tables : (allAtoms (Jvm.Cond.code x code maxLocals ret :: tables_1)).before args0 about1 = true := by
  rw [allAtoms_all]
  show words1.all (fun c => c.before args0 about1) = true
  refine all_split ?_ w_codes
  rw [← List.take_append_drop 24 words1, List.all_append, w_t1, w_t2]
  rfl
set_option maxRecDepth 65536 in
theorem w_case : (Jvm.Cond.and given_1 narrow_1).before args0 about1 = true := by decide +kernel
theorem w_applies : (headSpec (Jvm.Cond.code x code maxLocals ret :: tables_1) room_1).applies x e0.platform about1 = true :=
  (Spec.applies_iff w_frames).mpr ⟨w_running, w_runnable, w_alone, w_named, w_hears, w_ripe, w_room, w_tables⟩
theorem atStart : AtStart classFile x code maxLocals ret World_1 tables_1 room_1 Calls_1 rest_1 Pre_1 launch0 p0 e0 about1 theMethod args0 below0 :=
  ⟨lists_1, trivial, launch0.admits_env _ _ _, launch0.least_env, fairChoices_fair.cas, fairChoices_fair.clock, w_frames, w_args, w_heap, w_applies, trivial, trivial, w_case⟩
end start1
theorem witness_1 : WitnessClaimed_1 := ⟨start1.p0, start1.e0, start1.about1, start1.theMethod, start1.args0, start1.below0, start1.atStart⟩
end Jvm.Pilot.@@N@@
