import JvmDerived
import JvmDerived.Pilot.@@N@@Statement
import JvmDerived.Pilot.@@N@@Code
set_option linter.unusedVariables false
set_option linter.unusedSimpArgs false
namespace Jvm.RoadKit
open Sem ClassFile Op Lib Jvm.Stand Jvm.Free Jvm.LawKit
section New
variable {p : Program} {l : Launch} {e : Env} {R : Room} {s : State} {m : MethodId} {args : Array Value} {below : List Frame} {meth : Method} {c : Code} {T : State} {locs : List Loc} {cells slots : Nat}
theorem retI (X : Stand p l e R s m args below meth c T locs cells slots) (hx : p.tables.exec = Jvm.exec) {pc : Nat} {Ls : Array Slot} {z : Int32} {rest : List Value} (hret : meth.sig.returnType = some .int) (hd : decode c.code pc = .ok (.ireturn, 1)) {fs : List Frame}
    (hl : ∀ (f : JFrame) (acts : List Action), f.method = m → f.locked = none → f.entered = [] → (doReturn e (T.setTop f) acts (some (.int z))).1 = T.setFrames fs) : Steps p.tables e below (T.setTop (mkF m pc Ls (.int z :: rest))) (T.setFrames fs) := by
  have hm' : T.vm.method? m = some meth := X.method'
  have hn : narrow .int (.int z) = .int z := rfl
  show Steps p.tables e below (T.setTop { method := m, pc := pc, locals := Ls, stack := _ :: rest, locked := none }) _
  jvm_step X.here [X.here.top, hx, hd, hm', hret, hn]
  first | (intro acts; rw [hl _ acts rfl rfl rfl]) | rw [hl _ _ rfl rfl rfl]
  exact Steps.refl _
end New
end Jvm.RoadKit
namespace Jvm.Pilot.@@N@@
open Jvm Jvm.ClassFile Sem Op Lib Jvm.Free Jvm.Stand Jvm.LawKit Jvm.RoadKit Bundle Jvm.Pilot.@@N@@.Jvm.D
abbrev Go (p : Program) (e : Env) (below : List Frame) (T : State) (g : JFrame) (t : State) : Prop := Steps p.tables e below (T.setTop g) t
theorem hwi {Z : State} {a0 : Array Value} (hw : ∀ d ∈ tables_1, d.before a0 Z = true) {d : Jvm.Cond} (i : Nat) (q : tables_1[i]? = some d) : d.before a0 Z = true := hw _ (List.mem_of_getElem? q)

def Wd (Z : State) (h : Heap) (w_GRANTED w_EXERCISED w_EXERCISABLE w_UNVESTED w_FORFEITED w_TANDEM : Addr) : Prop := (Sta Z h "com/example/vestry/vestry/Position$Count" "GRANTED" "Lcom/example/vestry/vestry/Position$Count;" (.ref w_GRANTED) ∧ Exa Z h w_GRANTED "com/example/vestry/vestry/Position$Count" ∧ Fld Z h w_GRANTED "java/lang/Enum" "ordinal" "I" (.int (0 : Int32))) ∧ (Sta Z h "com/example/vestry/vestry/Position$Count" "EXERCISED" "Lcom/example/vestry/vestry/Position$Count;" (.ref w_EXERCISED) ∧ Exa Z h w_EXERCISED "com/example/vestry/vestry/Position$Count" ∧ Fld Z h w_EXERCISED "java/lang/Enum" "ordinal" "I" (.int (1 : Int32))) ∧ (Sta Z h "com/example/vestry/vestry/Position$Count" "EXERCISABLE" "Lcom/example/vestry/vestry/Position$Count;" (.ref w_EXERCISABLE) ∧ Exa Z h w_EXERCISABLE "com/example/vestry/vestry/Position$Count" ∧ Fld Z h w_EXERCISABLE "java/lang/Enum" "ordinal" "I" (.int (2 : Int32))) ∧ (Sta Z h "com/example/vestry/vestry/Position$Count" "UNVESTED" "Lcom/example/vestry/vestry/Position$Count;" (.ref w_UNVESTED) ∧ Exa Z h w_UNVESTED "com/example/vestry/vestry/Position$Count" ∧ Fld Z h w_UNVESTED "java/lang/Enum" "ordinal" "I" (.int (3 : Int32))) ∧ (Sta Z h "com/example/vestry/vestry/Position$Count" "FORFEITED" "Lcom/example/vestry/vestry/Position$Count;" (.ref w_FORFEITED) ∧ Exa Z h w_FORFEITED "com/example/vestry/vestry/Position$Count" ∧ Fld Z h w_FORFEITED "java/lang/Enum" "ordinal" "I" (.int (4 : Int32))) ∧ (Sta Z h "com/example/vestry/vestry/Position$Count" "TANDEM" "Lcom/example/vestry/vestry/Position$Count;" (.ref w_TANDEM) ∧ Exa Z h w_TANDEM "com/example/vestry/vestry/Position$Count" ∧ Fld Z h w_TANDEM "java/lang/Enum" "ordinal" "I" (.int (5 : Int32)))
theorem Wd_ext {Z : State} {h h' : Heap} {w_GRANTED w_EXERCISED w_EXERCISABLE w_UNVESTED w_FORFEITED w_TANDEM : Addr} (W : Wd Z h w_GRANTED w_EXERCISED w_EXERCISABLE w_UNVESTED w_FORFEITED w_TANDEM) (E : Ext h h') : Wd Z h' w_GRANTED w_EXERCISED w_EXERCISABLE w_UNVESTED w_FORFEITED w_TANDEM := by
  obtain ⟨⟨S_GRANTED, E_GRANTED, F_GRANTED⟩, ⟨S_EXERCISED, E_EXERCISED, F_EXERCISED⟩, ⟨S_EXERCISABLE, E_EXERCISABLE, F_EXERCISABLE⟩, ⟨S_UNVESTED, E_UNVESTED, F_UNVESTED⟩, ⟨S_FORFEITED, E_FORFEITED, F_FORFEITED⟩, ⟨S_TANDEM, E_TANDEM, F_TANDEM⟩⟩ := W
  exact ⟨⟨S_GRANTED.ext E, E_GRANTED.ext E, F_GRANTED.ext E⟩, ⟨S_EXERCISED.ext E, E_EXERCISED.ext E, F_EXERCISED.ext E⟩, ⟨S_EXERCISABLE.ext E, E_EXERCISABLE.ext E, F_EXERCISABLE.ext E⟩, ⟨S_UNVESTED.ext E, E_UNVESTED.ext E, F_UNVESTED.ext E⟩, ⟨S_FORFEITED.ext E, E_FORFEITED.ext E, F_FORFEITED.ext E⟩, ⟨S_TANDEM.ext E, E_TANDEM.ext E, F_TANDEM.ext E⟩⟩
theorem own_ext {h0 h : Heap} (K : Keep h0 h []) : Ext h0 h := ⟨K.1, fun a c q => K.2.1 a c q nin0⟩
theorem ef_1 (m : MethodId) (x0 : Addr) (x1 : Int64) (x2 : Int64) (x3 : Int64) (x4 : Int64) (x5 : Int64) (x6 : Int64) : entryFrame m #[(.ref x0), (.long x1), (.long x2), (.long x3), (.long x4), (.long x5), (.long x6)] 13 = mkF m 0 #[.val (.ref x0), .val (.long x1), .second, .val (.long x2), .second, .val (.long x3), .second, .val (.long x4), .second, .val (.long x5), .second, .val (.long x6), .second] [] := by first | (simp [entryFrame, mkF, argsToLocals, Value.category]; done) | rfl
theorem pn_com_example_vestry_vestry_Position : plainName "com/example/vestry/vestry/Position" = true := by first | (simp [plainName, overriddenIn]; done) | decide +kernel
theorem d1_0 : decode prog_17_method_1_code 0 = .ok (.aload_n 0, 1) := by decide +kernel
theorem d1_1 : decode prog_17_method_1_code 1 = .ok (.invokespecial 1, 3) := by decide +kernel
theorem d1_4 : decode prog_17_method_1_code 4 = .ok (.aload_n 0, 1) := by decide +kernel
theorem d1_5 : decode prog_17_method_1_code 5 = .ok (.lload_n 1, 1) := by decide +kernel
theorem d1_6 : decode prog_17_method_1_code 6 = .ok (.putfield 7, 3) := by decide +kernel
theorem d1_9 : decode prog_17_method_1_code 9 = .ok (.aload_n 0, 1) := by decide +kernel
theorem d1_10 : decode prog_17_method_1_code 10 = .ok (.lload_n 3, 1) := by decide +kernel
theorem d1_11 : decode prog_17_method_1_code 11 = .ok (.putfield 13, 3) := by decide +kernel
theorem d1_14 : decode prog_17_method_1_code 14 = .ok (.aload_n 0, 1) := by decide +kernel
theorem d1_15 : decode prog_17_method_1_code 15 = .ok (.lload 5, 2) := by decide +kernel
theorem d1_17 : decode prog_17_method_1_code 17 = .ok (.putfield 16, 3) := by decide +kernel
theorem d1_20 : decode prog_17_method_1_code 20 = .ok (.aload_n 0, 1) := by decide +kernel
theorem d1_21 : decode prog_17_method_1_code 21 = .ok (.lload 7, 2) := by decide +kernel
theorem d1_23 : decode prog_17_method_1_code 23 = .ok (.putfield 19, 3) := by decide +kernel
theorem d1_26 : decode prog_17_method_1_code 26 = .ok (.aload_n 0, 1) := by decide +kernel
theorem d1_27 : decode prog_17_method_1_code 27 = .ok (.lload 9, 2) := by decide +kernel
theorem d1_29 : decode prog_17_method_1_code 29 = .ok (.putfield 22, 3) := by decide +kernel
theorem d1_32 : decode prog_17_method_1_code 32 = .ok (.aload_n 0, 1) := by decide +kernel
theorem d1_33 : decode prog_17_method_1_code 33 = .ok (.lload 11, 2) := by decide +kernel
theorem d1_35 : decode prog_17_method_1_code 35 = .ok (.putfield 25, 3) := by decide +kernel
theorem d1_38 : decode prog_17_method_1_code 38 = .ok (.return_, 1) := by decide +kernel
def Q_rmI (Z : State) (a : Addr) (q0 : Int64) (q1 : Int64) (q2 : Int64) (q3 : Int64) (q4 : Int64) (q5 : Int64) (h0 : Heap) (n0 : Nat) (v : Option Value) (h : Heap) (L : List Loc) : Prop := v = none ∧ Fr n0 L ∧ Keep h0 h [a] ∧ Exa Z h a "com/example/vestry/vestry/Position" ∧ Fld Z h a "com/example/vestry/vestry/Position" "granted" "J" (.long q0) ∧ Fld Z h a "com/example/vestry/vestry/Position" "exercised" "J" (.long q1) ∧ Fld Z h a "com/example/vestry/vestry/Position" "exercisable" "J" (.long q2) ∧ Fld Z h a "com/example/vestry/vestry/Position" "unvested" "J" (.long q3) ∧ Fld Z h a "com/example/vestry/vestry/Position" "forfeited" "J" (.long q4) ∧ Fld Z h a "com/example/vestry/vestry/Position" "tandem" "J" (.long q5)
set_option maxRecDepth 65536 in
set_option maxHeartbeats 40000000 in
theorem rmI (l : Launch) (Z : State) (a0 : Array Value) (hw : ∀ d ∈ tables_1, d.before a0 Z = true) (ws : List Jvm.Cond) (a : Addr) (q0 : Int64) (q1 : Int64) (q2 : Int64) (q3 : Int64) (q4 : Int64) (q5 : Int64) (h0 : Heap) (n0 : Nat) (Z0 : n0 ≤ h0.size) (E_a : Exa Z h0 a "com/example/vestry/vestry/Position") (g_a : n0 ≤ a) (F_granted : Fld Z h0 a "com/example/vestry/vestry/Position" "granted" "J" (.long 0)) (F_exercised : Fld Z h0 a "com/example/vestry/vestry/Position" "exercised" "J" (.long 0)) (F_exercisable : Fld Z h0 a "com/example/vestry/vestry/Position" "exercisable" "J" (.long 0)) (F_unvested : Fld Z h0 a "com/example/vestry/vestry/Position" "unvested" "J" (.long 0)) (F_forfeited : Fld Z h0 a "com/example/vestry/vestry/Position" "forfeited" "J" (.long 0)) (F_tandem : Fld Z h0 a "com/example/vestry/vestry/Position" "tandem" "J" (.long 0)) :
    MetFree l (⟨"com/example/vestry/vestry/Position", "<init>", "(JJJJJJ)V"⟩ : MethodName) (head1 (Jvm.Cond.code (⟨"com/example/vestry/vestry/Position", "<init>", "(JJJJJJ)V"⟩ : MethodName) prog_17_method_1_code 13 none :: ws) ({ frames := 1, cells := 0, slots := 0, locals := 12 } : Room)) (fun av_ U_ => av_ = #[(.ref a), (.long q0), (.long q1), (.long q2), (.long q3), (.long q4), (.long q5)] ∧ Z.Warmed39 U_.vm ∧ U_.heap = h0) (fun _ _ _ _ _ => True) (fun _ U_ o_ V_ => ∃ v_ L_, o_ = .returned v_ ∧ Q_rmI Z a q0 q1 q2 q3 q4 q5 h0 n0 v_ V_.heap L_ ∧ FrameEnd U_ o_ V_ L_ ({ frames := 1, cells := 0, slots := 0, locals := 12 } : Room).cells ({ frames := 1, cells := 0, slots := 0, locals := 12 } : Room).slots) := by
  refine MetFree.of_bodySF (plainFor_of_name pn_com_example_vestry_vestry_Position) hisR ?_
  intro p e s m args below meth c s₁ Bd hml0 hP hK
  obtain ⟨rfl, hZ, hh⟩ := hP
  have hx := Bd.exec
  have hby := Bd.bytes
  have hml : c.maxLocals = 13 := hml0
  have hown : s.vm.findClass "com/example/vestry/vestry/Position" = some m.cls := findClass_of_methodNamed Bd.named
  have hnm := (name_of_methodNamed Bd.named Bd.method).1
  have X0 : Stand p l e ({ frames := 1, cells := 0, slots := 0, locals := 12 } : Room) s m #[(.ref a), (.long q0), (.long q1), (.long q2), (.long q3), (.long q4), (.long q5)] below meth c s₁ [] 0 0 := Stand.of_body Bd
  have e0 : s₁.heap = h0 := by rw [← hh, Bd.state]; rfl
  have N0 := Fr.nil n0
  have pre0 : ∀ t_, Go p e below s₁ (mkF m 0 #[rv a, .val (.long q0), .second, .val (.long q1), .second, .val (.long q2), .second, .val (.long q3), .second, .val (.long q4), .second, .val (.long q5), .second] []) t_ → Go p e below s₁ (entryFrame m #[(.ref a), (.long q0), (.long q1), (.long q2), (.long q3), (.long q4), (.long q5)] 13) t_ := fun t_ kt => castTop (ef_1 m a q0 q1 q2 q3 q4 q5) kt
  obtain ⟨T1, X1, e1, st1⟩ := initO X0 hx hZ hown (hwi hw 6 rfl) (hwi hw 7 rfl) (hwi hw 8 rfl) e0 (g := (mkF m 1 #[rv a, .val (.long q0), .second, .val (.long q1), .second, .val (.long q2), .second, .val (.long q3), .second, .val (.long q4), .second, .val (.long q5), .second] [(.ref a)])) rfl (by rw [hml]; rfl) rfl (hb hby d1_1) (by decide) (W := 0) (by show 2 * 0 + _ ≤ _; exact Nat.le_of_eq rfl) (by decide)
  obtain ⟨T2, h2, X2, e2, W2, st2⟩ := putF X1 hx hZ hown (host := "") (Or.inl (hwi hw 9 rfl)) Via.refl e1 F_granted E_a (Or.inr ⟨(hwi hw 10 rfl), rfl, hnm⟩) (hwi hw 1 rfl) (ty := .long) (by decide) rfl rfl (g := (mkF m 6 #[rv a, .val (.long q0), .second, .val (.long q1), .second, .val (.long q2), .second, .val (.long q3), .second, .val (.long q4), .second, .val (.long q5), .second] [(.long q0), (.ref a)])) rfl rfl (hb hby d1_6)
  have f3 := E_a.wr W2
  have f5 := F_exercised.other W2 (Or.inr (slot_ne (Or.inr (hwi hw 12 rfl)) (Or.inr (hwi hw 10 rfl)) (by decide) (t := .long) (t' := .long) (by decide) (by decide)))
  have f6 := F_exercisable.other W2 (Or.inr (slot_ne (Or.inr (hwi hw 14 rfl)) (Or.inr (hwi hw 10 rfl)) (by decide) (t := .long) (t' := .long) (by decide) (by decide)))
  have f7 := F_unvested.other W2 (Or.inr (slot_ne (Or.inr (hwi hw 16 rfl)) (Or.inr (hwi hw 10 rfl)) (by decide) (t := .long) (t' := .long) (by decide) (by decide)))
  have f8 := F_forfeited.other W2 (Or.inr (slot_ne (Or.inr (hwi hw 18 rfl)) (Or.inr (hwi hw 10 rfl)) (by decide) (t := .long) (t' := .long) (by decide) (by decide)))
  have f9 := F_tandem.other W2 (Or.inr (slot_ne (Or.inr (hwi hw 20 rfl)) (Or.inr (hwi hw 10 rfl)) (by decide) (t := .long) (t' := .long) (by decide) (by decide)))
  have K2 : Keep h0 h2 [a] := (Keep.refl h0 [a]).wr W2 (Or.inl (List.mem_of_getElem? (i := 0) rfl))
  have N2 := Fr.snoc X2 N0 g_a
  have f10 : Fld Z h2 a "com/example/vestry/vestry/Position" "granted" "J" (.long q0) := F_granted.same W2
  obtain ⟨T11, h11, X11, e11, W11, st11⟩ := putF X2 hx hZ hown (host := "") (Or.inl (hwi hw 11 rfl)) Via.refl e2 f5 f3 (Or.inr ⟨(hwi hw 12 rfl), rfl, hnm⟩) (hwi hw 1 rfl) (ty := .long) (by decide) rfl rfl (g := (mkF m 11 #[rv a, .val (.long q0), .second, .val (.long q1), .second, .val (.long q2), .second, .val (.long q3), .second, .val (.long q4), .second, .val (.long q5), .second] [(.long q1), (.ref a)])) rfl rfl (hb hby d1_11)
  have f12 := f3.wr W11
  have f13 := f10.other W11 (Or.inr (slot_ne (Or.inr (hwi hw 10 rfl)) (Or.inr (hwi hw 12 rfl)) (by decide) (t := .long) (t' := .long) (by decide) (by decide)))
  have f15 := f6.other W11 (Or.inr (slot_ne (Or.inr (hwi hw 14 rfl)) (Or.inr (hwi hw 12 rfl)) (by decide) (t := .long) (t' := .long) (by decide) (by decide)))
  have f16 := f7.other W11 (Or.inr (slot_ne (Or.inr (hwi hw 16 rfl)) (Or.inr (hwi hw 12 rfl)) (by decide) (t := .long) (t' := .long) (by decide) (by decide)))
  have f17 := f8.other W11 (Or.inr (slot_ne (Or.inr (hwi hw 18 rfl)) (Or.inr (hwi hw 12 rfl)) (by decide) (t := .long) (t' := .long) (by decide) (by decide)))
  have f18 := f9.other W11 (Or.inr (slot_ne (Or.inr (hwi hw 20 rfl)) (Or.inr (hwi hw 12 rfl)) (by decide) (t := .long) (t' := .long) (by decide) (by decide)))
  have K11 : Keep h0 h11 [a] := K2.wr W11 (Or.inl (List.mem_of_getElem? (i := 0) rfl))
  have N11 := Fr.snoc X11 N2 g_a
  have f19 : Fld Z h11 a "com/example/vestry/vestry/Position" "exercised" "J" (.long q1) := f5.same W11
  obtain ⟨T20, h20, X20, e20, W20, st20⟩ := putF X11 hx hZ hown (host := "") (Or.inl (hwi hw 13 rfl)) Via.refl e11 f15 f12 (Or.inr ⟨(hwi hw 14 rfl), rfl, hnm⟩) (hwi hw 1 rfl) (ty := .long) (by decide) rfl rfl (g := (mkF m 17 #[rv a, .val (.long q0), .second, .val (.long q1), .second, .val (.long q2), .second, .val (.long q3), .second, .val (.long q4), .second, .val (.long q5), .second] [(.long q2), (.ref a)])) rfl rfl (hb hby d1_17)
  have f21 := f12.wr W20
  have f22 := f13.other W20 (Or.inr (slot_ne (Or.inr (hwi hw 10 rfl)) (Or.inr (hwi hw 14 rfl)) (by decide) (t := .long) (t' := .long) (by decide) (by decide)))
  have f23 := f19.other W20 (Or.inr (slot_ne (Or.inr (hwi hw 12 rfl)) (Or.inr (hwi hw 14 rfl)) (by decide) (t := .long) (t' := .long) (by decide) (by decide)))
  have f25 := f16.other W20 (Or.inr (slot_ne (Or.inr (hwi hw 16 rfl)) (Or.inr (hwi hw 14 rfl)) (by decide) (t := .long) (t' := .long) (by decide) (by decide)))
  have f26 := f17.other W20 (Or.inr (slot_ne (Or.inr (hwi hw 18 rfl)) (Or.inr (hwi hw 14 rfl)) (by decide) (t := .long) (t' := .long) (by decide) (by decide)))
  have f27 := f18.other W20 (Or.inr (slot_ne (Or.inr (hwi hw 20 rfl)) (Or.inr (hwi hw 14 rfl)) (by decide) (t := .long) (t' := .long) (by decide) (by decide)))
  have K20 : Keep h0 h20 [a] := K11.wr W20 (Or.inl (List.mem_of_getElem? (i := 0) rfl))
  have N20 := Fr.snoc X20 N11 g_a
  have f28 : Fld Z h20 a "com/example/vestry/vestry/Position" "exercisable" "J" (.long q2) := f15.same W20
  obtain ⟨T29, h29, X29, e29, W29, st29⟩ := putF X20 hx hZ hown (host := "") (Or.inl (hwi hw 15 rfl)) Via.refl e20 f25 f21 (Or.inr ⟨(hwi hw 16 rfl), rfl, hnm⟩) (hwi hw 1 rfl) (ty := .long) (by decide) rfl rfl (g := (mkF m 23 #[rv a, .val (.long q0), .second, .val (.long q1), .second, .val (.long q2), .second, .val (.long q3), .second, .val (.long q4), .second, .val (.long q5), .second] [(.long q3), (.ref a)])) rfl rfl (hb hby d1_23)
  have f30 := f21.wr W29
  have f31 := f22.other W29 (Or.inr (slot_ne (Or.inr (hwi hw 10 rfl)) (Or.inr (hwi hw 16 rfl)) (by decide) (t := .long) (t' := .long) (by decide) (by decide)))
  have f32 := f23.other W29 (Or.inr (slot_ne (Or.inr (hwi hw 12 rfl)) (Or.inr (hwi hw 16 rfl)) (by decide) (t := .long) (t' := .long) (by decide) (by decide)))
  have f33 := f28.other W29 (Or.inr (slot_ne (Or.inr (hwi hw 14 rfl)) (Or.inr (hwi hw 16 rfl)) (by decide) (t := .long) (t' := .long) (by decide) (by decide)))
  have f35 := f26.other W29 (Or.inr (slot_ne (Or.inr (hwi hw 18 rfl)) (Or.inr (hwi hw 16 rfl)) (by decide) (t := .long) (t' := .long) (by decide) (by decide)))
  have f36 := f27.other W29 (Or.inr (slot_ne (Or.inr (hwi hw 20 rfl)) (Or.inr (hwi hw 16 rfl)) (by decide) (t := .long) (t' := .long) (by decide) (by decide)))
  have K29 : Keep h0 h29 [a] := K20.wr W29 (Or.inl (List.mem_of_getElem? (i := 0) rfl))
  have N29 := Fr.snoc X29 N20 g_a
  have f37 : Fld Z h29 a "com/example/vestry/vestry/Position" "unvested" "J" (.long q3) := f25.same W29
  obtain ⟨T38, h38, X38, e38, W38, st38⟩ := putF X29 hx hZ hown (host := "") (Or.inl (hwi hw 17 rfl)) Via.refl e29 f35 f30 (Or.inr ⟨(hwi hw 18 rfl), rfl, hnm⟩) (hwi hw 1 rfl) (ty := .long) (by decide) rfl rfl (g := (mkF m 29 #[rv a, .val (.long q0), .second, .val (.long q1), .second, .val (.long q2), .second, .val (.long q3), .second, .val (.long q4), .second, .val (.long q5), .second] [(.long q4), (.ref a)])) rfl rfl (hb hby d1_29)
  have f39 := f30.wr W38
  have f40 := f31.other W38 (Or.inr (slot_ne (Or.inr (hwi hw 10 rfl)) (Or.inr (hwi hw 18 rfl)) (by decide) (t := .long) (t' := .long) (by decide) (by decide)))
  have f41 := f32.other W38 (Or.inr (slot_ne (Or.inr (hwi hw 12 rfl)) (Or.inr (hwi hw 18 rfl)) (by decide) (t := .long) (t' := .long) (by decide) (by decide)))
  have f42 := f33.other W38 (Or.inr (slot_ne (Or.inr (hwi hw 14 rfl)) (Or.inr (hwi hw 18 rfl)) (by decide) (t := .long) (t' := .long) (by decide) (by decide)))
  have f43 := f37.other W38 (Or.inr (slot_ne (Or.inr (hwi hw 16 rfl)) (Or.inr (hwi hw 18 rfl)) (by decide) (t := .long) (t' := .long) (by decide) (by decide)))
  have f45 := f36.other W38 (Or.inr (slot_ne (Or.inr (hwi hw 20 rfl)) (Or.inr (hwi hw 18 rfl)) (by decide) (t := .long) (t' := .long) (by decide) (by decide)))
  have K38 : Keep h0 h38 [a] := K29.wr W38 (Or.inl (List.mem_of_getElem? (i := 0) rfl))
  have N38 := Fr.snoc X38 N29 g_a
  have f46 : Fld Z h38 a "com/example/vestry/vestry/Position" "forfeited" "J" (.long q4) := f35.same W38
  obtain ⟨T47, h47, X47, e47, W47, st47⟩ := putF X38 hx hZ hown (host := "") (Or.inl (hwi hw 19 rfl)) Via.refl e38 f45 f39 (Or.inr ⟨(hwi hw 20 rfl), rfl, hnm⟩) (hwi hw 1 rfl) (ty := .long) (by decide) rfl rfl (g := (mkF m 35 #[rv a, .val (.long q0), .second, .val (.long q1), .second, .val (.long q2), .second, .val (.long q3), .second, .val (.long q4), .second, .val (.long q5), .second] [(.long q5), (.ref a)])) rfl rfl (hb hby d1_35)
  have f48 := f39.wr W47
  have f49 := f40.other W47 (Or.inr (slot_ne (Or.inr (hwi hw 10 rfl)) (Or.inr (hwi hw 20 rfl)) (by decide) (t := .long) (t' := .long) (by decide) (by decide)))
  have f50 := f41.other W47 (Or.inr (slot_ne (Or.inr (hwi hw 12 rfl)) (Or.inr (hwi hw 20 rfl)) (by decide) (t := .long) (t' := .long) (by decide) (by decide)))
  have f51 := f42.other W47 (Or.inr (slot_ne (Or.inr (hwi hw 14 rfl)) (Or.inr (hwi hw 20 rfl)) (by decide) (t := .long) (t' := .long) (by decide) (by decide)))
  have f52 := f43.other W47 (Or.inr (slot_ne (Or.inr (hwi hw 16 rfl)) (Or.inr (hwi hw 20 rfl)) (by decide) (t := .long) (t' := .long) (by decide) (by decide)))
  have f53 := f46.other W47 (Or.inr (slot_ne (Or.inr (hwi hw 18 rfl)) (Or.inr (hwi hw 20 rfl)) (by decide) (t := .long) (t' := .long) (by decide) (by decide)))
  have K47 : Keep h0 h47 [a] := K38.wr W47 (Or.inl (List.mem_of_getElem? (i := 0) rfl))
  have N47 := Fr.snoc X47 N38 g_a
  have f55 : Fld Z h47 a "com/example/vestry/vestry/Position" "tandem" "J" (.long q5) := f45.same W47
  have pre56 : ∀ t_, Go p e below T47 (mkF m 38 #[rv a, .val (.long q0), .second, .val (.long q1), .second, .val (.long q2), .second, .val (.long q3), .second, .val (.long q4), .second, .val (.long q5), .second] []) t_ → Go p e below s₁ (entryFrame m #[(.ref a), (.long q0), (.long q1), (.long q2), (.long q3), (.long q4), (.long q5)] 13) t_ := fun t_ kt => pre0 _ (by
      show Go p e below s₁ (mkF m 0 #[rv a, .val (.long q0), .second, .val (.long q1), .second, .val (.long q2), .second, .val (.long q3), .second, .val (.long q4), .second, .val (.long q5), .second] []) _
      refine XS.aloadN X0.here hx rfl (hb hby d1_0) rfl rfl ?_
      show Go p e below s₁ (mkF m 1 #[rv a, .val (.long q0), .second, .val (.long q1), .second, .val (.long q2), .second, .val (.long q3), .second, .val (.long q4), .second, .val (.long q5), .second] [(.ref a)]) _
      refine st1 _ ?_
      show Go p e below T1 (mkF m 4 #[rv a, .val (.long q0), .second, .val (.long q1), .second, .val (.long q2), .second, .val (.long q3), .second, .val (.long q4), .second, .val (.long q5), .second] []) _
      refine XS.aloadN X1.here hx rfl (hb hby d1_4) rfl rfl ?_
      show Go p e below T1 (mkF m 5 #[rv a, .val (.long q0), .second, .val (.long q1), .second, .val (.long q2), .second, .val (.long q3), .second, .val (.long q4), .second, .val (.long q5), .second] [(.ref a)]) _
      refine XS.lloadN X1.here hx rfl (hb hby d1_5) rfl ?_
      show Go p e below T1 (mkF m 6 #[rv a, .val (.long q0), .second, .val (.long q1), .second, .val (.long q2), .second, .val (.long q3), .second, .val (.long q4), .second, .val (.long q5), .second] [(.long q0), (.ref a)]) _
      refine st2 _ ?_
      show Go p e below T2 (mkF m 9 #[rv a, .val (.long q0), .second, .val (.long q1), .second, .val (.long q2), .second, .val (.long q3), .second, .val (.long q4), .second, .val (.long q5), .second] []) _
      refine XS.aloadN X2.here hx rfl (hb hby d1_9) rfl rfl ?_
      show Go p e below T2 (mkF m 10 #[rv a, .val (.long q0), .second, .val (.long q1), .second, .val (.long q2), .second, .val (.long q3), .second, .val (.long q4), .second, .val (.long q5), .second] [(.ref a)]) _
      refine XS.lloadN X2.here hx rfl (hb hby d1_10) rfl ?_
      show Go p e below T2 (mkF m 11 #[rv a, .val (.long q0), .second, .val (.long q1), .second, .val (.long q2), .second, .val (.long q3), .second, .val (.long q4), .second, .val (.long q5), .second] [(.long q1), (.ref a)]) _
      refine st11 _ ?_
      show Go p e below T11 (mkF m 14 #[rv a, .val (.long q0), .second, .val (.long q1), .second, .val (.long q2), .second, .val (.long q3), .second, .val (.long q4), .second, .val (.long q5), .second] []) _
      refine XS.aloadN X11.here hx rfl (hb hby d1_14) rfl rfl ?_
      show Go p e below T11 (mkF m 15 #[rv a, .val (.long q0), .second, .val (.long q1), .second, .val (.long q2), .second, .val (.long q3), .second, .val (.long q4), .second, .val (.long q5), .second] [(.ref a)]) _
      refine XS.lload X11.here hx rfl (hb hby d1_15) rfl ?_
      show Go p e below T11 (mkF m 17 #[rv a, .val (.long q0), .second, .val (.long q1), .second, .val (.long q2), .second, .val (.long q3), .second, .val (.long q4), .second, .val (.long q5), .second] [(.long q2), (.ref a)]) _
      refine st20 _ ?_
      show Go p e below T20 (mkF m 20 #[rv a, .val (.long q0), .second, .val (.long q1), .second, .val (.long q2), .second, .val (.long q3), .second, .val (.long q4), .second, .val (.long q5), .second] []) _
      refine XS.aloadN X20.here hx rfl (hb hby d1_20) rfl rfl ?_
      show Go p e below T20 (mkF m 21 #[rv a, .val (.long q0), .second, .val (.long q1), .second, .val (.long q2), .second, .val (.long q3), .second, .val (.long q4), .second, .val (.long q5), .second] [(.ref a)]) _
      refine XS.lload X20.here hx rfl (hb hby d1_21) rfl ?_
      show Go p e below T20 (mkF m 23 #[rv a, .val (.long q0), .second, .val (.long q1), .second, .val (.long q2), .second, .val (.long q3), .second, .val (.long q4), .second, .val (.long q5), .second] [(.long q3), (.ref a)]) _
      refine st29 _ ?_
      show Go p e below T29 (mkF m 26 #[rv a, .val (.long q0), .second, .val (.long q1), .second, .val (.long q2), .second, .val (.long q3), .second, .val (.long q4), .second, .val (.long q5), .second] []) _
      refine XS.aloadN X29.here hx rfl (hb hby d1_26) rfl rfl ?_
      show Go p e below T29 (mkF m 27 #[rv a, .val (.long q0), .second, .val (.long q1), .second, .val (.long q2), .second, .val (.long q3), .second, .val (.long q4), .second, .val (.long q5), .second] [(.ref a)]) _
      refine XS.lload X29.here hx rfl (hb hby d1_27) rfl ?_
      show Go p e below T29 (mkF m 29 #[rv a, .val (.long q0), .second, .val (.long q1), .second, .val (.long q2), .second, .val (.long q3), .second, .val (.long q4), .second, .val (.long q5), .second] [(.long q4), (.ref a)]) _
      refine st38 _ ?_
      show Go p e below T38 (mkF m 32 #[rv a, .val (.long q0), .second, .val (.long q1), .second, .val (.long q2), .second, .val (.long q3), .second, .val (.long q4), .second, .val (.long q5), .second] []) _
      refine XS.aloadN X38.here hx rfl (hb hby d1_32) rfl rfl ?_
      show Go p e below T38 (mkF m 33 #[rv a, .val (.long q0), .second, .val (.long q1), .second, .val (.long q2), .second, .val (.long q3), .second, .val (.long q4), .second, .val (.long q5), .second] [(.ref a)]) _
      refine XS.lload X38.here hx rfl (hb hby d1_33) rfl ?_
      show Go p e below T38 (mkF m 35 #[rv a, .val (.long q0), .second, .val (.long q1), .second, .val (.long q2), .second, .val (.long q3), .second, .val (.long q4), .second, .val (.long q5), .second] [(.long q5), (.ref a)]) _
      refine st47 _ ?_
      show Go p e below T47 (mkF m 38 #[rv a, .val (.long q0), .second, .val (.long q1), .second, .val (.long q2), .second, .val (.long q3), .second, .val (.long q4), .second, .val (.long q5), .second] []) _
      exact kt)
  obtain ⟨fs, hr, hrun, hended, hW, hsame⟩ := X47.leave (v := none) (fun _ => rfl)
  refine ⟨_, _, pre56 _ ?_, hrun, hended, _, _, rfl, ?_, ⟨_, rfl⟩, hW, hsame.mono (by decide) (by decide)⟩
  · show Steps p.tables e below (T47.setTop (mkF m 38 #[rv a, .val (.long q0), .second, .val (.long q1), .second, .val (.long q2), .second, .val (.long q3), .second, .val (.long q4), .second, .val (.long q5), .second] [])) _
    exact X47.returnOut hx Bd.returns (hb hby d1_38) hr
  · show Q_rmI Z a q0 q1 q2 q3 q4 q5 h0 n0 _ T47.heap _
    rw [e47]
    exact ⟨rfl, N47, K47, f48, f49, f50, f51, f52, f53, f55⟩
theorem ef_4 (m : MethodId) (x0 : Addr) : entryFrame m #[(.ref x0)] 1 = mkF m 0 #[.val (.ref x0)] [] := by first | (simp [entryFrame, mkF, argsToLocals, Value.category]; done) | rfl
theorem pn_java_lang_Enum : plainName "java/lang/Enum" = true := by first | (simp [plainName, overriddenIn]; done) | decide +kernel
theorem d4_0 : decode jdk_37_method_2_code 0 = .ok (.aload_n 0, 1) := by decide +kernel
theorem d4_1 : decode jdk_37_method_2_code 1 = .ok (.getfield 7, 3) := by decide +kernel
theorem d4_4 : decode jdk_37_method_2_code 4 = .ok (.ireturn, 1) := by decide +kernel
def Q_rmO (Z : State) (a1 : Addr) (o : Int32) (h0 : Heap) (n0 : Nat) (v : Option Value) (h : Heap) (L : List Loc) : Prop := v = some (.int o) ∧ Fr n0 L ∧ h = h0
set_option maxRecDepth 65536 in
set_option maxHeartbeats 40000000 in
theorem rmO (l : Launch) (Z : State) (a0 : Array Value) (hw : ∀ d ∈ tables_1, d.before a0 Z = true) (ws : List Jvm.Cond) (a1 : Addr) (o : Int32) (h0 : Heap) (n0 : Nat) (Z0 : n0 ≤ h0.size) (Fo : Fld Z h0 a1 "java/lang/Enum" "ordinal" "I" (.int o)) :
    MetFree l (⟨"java/lang/Enum", "ordinal", "()I"⟩ : MethodName) (head1 (Jvm.Cond.code (⟨"java/lang/Enum", "ordinal", "()I"⟩ : MethodName) jdk_37_method_2_code 1 (some .int) :: ws) ({ frames := 0, cells := 0, slots := 0, locals := 0 } : Room)) (fun av_ U_ => av_ = #[(.ref a1)] ∧ Z.Warmed39 U_.vm ∧ U_.heap = h0) (fun _ _ _ _ _ => True) (fun _ U_ o_ V_ => ∃ v_ L_, o_ = .returned v_ ∧ Q_rmO Z a1 o h0 n0 v_ V_.heap L_ ∧ FrameEnd U_ o_ V_ L_ ({ frames := 0, cells := 0, slots := 0, locals := 0 } : Room).cells ({ frames := 0, cells := 0, slots := 0, locals := 0 } : Room).slots) := by
  refine MetFree.of_bodySF (plainFor_of_name pn_java_lang_Enum) hisR ?_
  intro p e s m args below meth c s₁ Bd hml0 hP hK
  obtain ⟨rfl, hZ, hh⟩ := hP
  have hx := Bd.exec
  have hby := Bd.bytes
  have hml : c.maxLocals = 1 := hml0
  have hown : s.vm.findClass "java/lang/Enum" = some m.cls := findClass_of_methodNamed Bd.named
  have hnm := (name_of_methodNamed Bd.named Bd.method).1
  have X0 : Stand p l e ({ frames := 0, cells := 0, slots := 0, locals := 0 } : Room) s m #[(.ref a1)] below meth c s₁ [] 0 0 := Stand.of_body Bd
  have e0 : s₁.heap = h0 := by rw [← hh, Bd.state]; rfl
  have N0 := Fr.nil n0
  have pre0 : ∀ t_, Go p e below s₁ (mkF m 0 #[rv a1] []) t_ → Go p e below s₁ (entryFrame m #[(.ref a1)] 1) t_ := fun t_ kt => castTop (ef_4 m a1) kt
  obtain ⟨T1, X1, e1, st1⟩ := getF X0 hx hZ hown (host := "") (Or.inl (hwi hw 36 rfl)) Via.refl e0 Fo (g := (mkF m 1 #[rv a1] [(.ref a1)])) rfl rfl (hb hby d4_1)
  have pre2 : ∀ t_, Go p e below T1 (mkF m 4 #[rv a1] [(.int o)]) t_ → Go p e below s₁ (entryFrame m #[(.ref a1)] 1) t_ := fun t_ kt => pre0 _ (by
      show Go p e below s₁ (mkF m 0 #[rv a1] []) _
      refine XS.aloadN X0.here hx rfl (hb hby d4_0) rfl rfl ?_
      show Go p e below s₁ (mkF m 1 #[rv a1] [(.ref a1)]) _
      refine st1 _ ?_
      show Go p e below T1 (mkF m 4 #[rv a1] [(.int o)]) _
      exact kt)
  obtain ⟨fs, hr, hrun, hended, hW, hsame⟩ := X1.leave (v := some (.int o)) (fun h => by rw [Bd.returns] at h; cases h)
  refine ⟨_, _, pre2 _ ?_, hrun, hended, _, _, rfl, ?_, ⟨_, rfl⟩, hW, hsame.mono (by decide) (by decide)⟩
  · show Steps p.tables e below (T1.setTop (mkF m 4 #[rv a1] [(.int o)])) _
    exact retI X1 hx Bd.returns (hb hby d4_4) hr
  · show Q_rmO Z a1 o h0 n0 _ T1.heap _
    rw [e1]
    exact ⟨rfl, N0, rfl⟩
theorem ef_3 (m : MethodId) (x0 : Addr) (x1 : Addr) : entryFrame m #[(.ref x0), (.ref x1)] 2 = mkF m 0 #[.val (.ref x0), .val (.ref x1)] [] := by first | (simp [entryFrame, mkF, argsToLocals, Value.category]; done) | rfl
theorem pn_com_example_vestry_vestry_Position_Count : plainName "com/example/vestry/vestry/Position$Count" = true := by first | (simp [plainName, overriddenIn]; done) | decide +kernel
theorem d3_0 : decode prog_18_method_6_code 0 = .ok (.aload_n 0, 1) := by decide +kernel
theorem d3_1 : decode prog_18_method_6_code 1 = .ok (.invokevirtual 68, 3) := by decide +kernel
theorem pd_3 : parseMethodDescriptor "()I" = some ⟨[], some .int⟩ := by decide +kernel
theorem d3_4 : decode prog_18_method_6_code 4 = .ok (.tableswitch 40 0 5 #[50, 57, 64, 71, 78, 85], 40) := by decide +kernel
theorem d3_54 : decode prog_18_method_6_code 54 = .ok (.aload_n 1, 1) := by decide +kernel
theorem d3_55 : decode prog_18_method_6_code 55 = .ok (.getfield 77, 3) := by decide +kernel
theorem d3_58 : decode prog_18_method_6_code 58 = .ok (.goto 35, 3) := by decide +kernel
theorem d3_93 : decode prog_18_method_6_code 93 = .ok (.lreturn, 1) := by decide +kernel
def Q_rmN0 (Z : State) (a1 : Addr) (a : Addr) (q : Int64) (h0 : Heap) (n0 : Nat) (v : Option Value) (h : Heap) (L : List Loc) : Prop := v = some (.long q) ∧ Fr n0 L ∧ h = h0
set_option maxRecDepth 65536 in
set_option maxHeartbeats 40000000 in
theorem rmN0 (l : Launch) (Z : State) (a0 : Array Value) (hw : ∀ d ∈ tables_1, d.before a0 Z = true) (ws : List Jvm.Cond) (a1 : Addr) (a : Addr) (q : Int64) (h0 : Heap) (n0 : Nat) (Z0 : n0 ≤ h0.size) (Ea : Exa Z h0 a1 "com/example/vestry/vestry/Position$Count") (Fa : Fld Z h0 a1 "java/lang/Enum" "ordinal" "I" (.int (0 : Int32))) (Fb : Fld Z h0 a "com/example/vestry/vestry/Position" "granted" "J" (.long q)) :
    MetFree l (⟨"com/example/vestry/vestry/Position$Count", "in", "(Lcom/example/vestry/vestry/Position;)J"⟩ : MethodName) (head1 (Jvm.Cond.code (⟨"com/example/vestry/vestry/Position$Count", "in", "(Lcom/example/vestry/vestry/Position;)J"⟩ : MethodName) prog_18_method_6_code 2 (some .long) :: ws) ({ frames := 1, cells := 0, slots := 0, locals := 12 } : Room)) (fun av_ U_ => av_ = #[(.ref a1), (.ref a)] ∧ Z.Warmed39 U_.vm ∧ U_.heap = h0) (fun _ _ _ _ _ => True) (fun _ U_ o_ V_ => ∃ v_ L_, o_ = .returned v_ ∧ Q_rmN0 Z a1 a q h0 n0 v_ V_.heap L_ ∧ FrameEnd U_ o_ V_ L_ ({ frames := 1, cells := 0, slots := 0, locals := 12 } : Room).cells ({ frames := 1, cells := 0, slots := 0, locals := 12 } : Room).slots) := by
  refine MetFree.of_bodySF (plainFor_of_name pn_com_example_vestry_vestry_Position_Count) hisR ?_
  intro p e s m args below meth c s₁ Bd hml0 hP hK
  obtain ⟨rfl, hZ, hh⟩ := hP
  have hx := Bd.exec
  have hby := Bd.bytes
  have hml : c.maxLocals = 2 := hml0
  have hown : s.vm.findClass "com/example/vestry/vestry/Position$Count" = some m.cls := findClass_of_methodNamed Bd.named
  have hnm := (name_of_methodNamed Bd.named Bd.method).1
  have X0 : Stand p l e ({ frames := 1, cells := 0, slots := 0, locals := 12 } : Room) s m #[(.ref a1), (.ref a)] below meth c s₁ [] 0 0 := Stand.of_body Bd
  have e0 : s₁.heap = h0 := by rw [← hh, Bd.state]; rfl
  have N0 := Fr.nil n0
  have pre0 : ∀ t_, Go p e below s₁ (mkF m 0 #[rv a1, rv a] []) t_ → Go p e below s₁ (entryFrame m #[(.ref a1), (.ref a)] 2) t_ := fun t_ kt => castTop (ef_3 m a1 a) kt
  obtain ⟨cq1, kq1, q1a, q1b, q1c⟩ := isOf hZ e0 Ea
  obtain ⟨_, _, ⟨T1, L1, k1, n1⟩, -, X1, ⟨Lc1, hQ1, l1, y1, z1⟩, st1⟩ := X0.virtualBackUp hx (owner := "java/lang/Enum") (x := (⟨"com/example/vestry/vestry/Position$Count", "ordinal", "()I"⟩ : MethodName)) (y := (⟨"java/lang/Enum", "ordinal", "()I"⟩ : MethodName)) hown (mvT hZ (hwi hw 29 rfl)) (mvT hZ (hwi hw 30 rfl)) (mvT hZ (hwi hw 31 rfl)) (by decide) (mvT hZ (hwi hw 33 rfl)) (mvT hZ (hwi hw 32 rfl)) (backOf (W := 0) (rmO l Z a0 hw [] a1 0 h0 n0 Z0 Fa) hZ (hwi hw 35 rfl) (hwi hw 34 rfl) (by decide) (by decide)) q1a q1c (g := (mkF m 1 #[rv a1, rv a] [(.ref a1)])) rfl (by rw [hml]; rfl) (Steps.refl _) (argsL := []) (rest := []) (lenOf pd_3 rfl) rfl (by show 2 * 0 + _ ≤ _; exact Nat.le_of_eq rfl) (hb hby d3_1) (fun _ _ => ⟨rfl, e0, (by decide : 0 + 0 ≤ _), (by decide : 0 + 0 ≤ _)⟩)
  dsimp only [Pt.U, Pt.locs, Pt.cells, Pt.slots] at X1 l1 y1 z1 st1 hQ1
  subst l1 y1 z1
  obtain ⟨rfl, N1q, e1q⟩ := hQ1
  have N1 := Fr.app N0 N1q
  obtain ⟨T2, X2, e2, st2⟩ := getF X1 hx hZ hown (Or.inr (hwi hw 38 rfl)) Via.refl e1q Fb (g := (mkF m 55 #[rv a1, rv a] [(.ref a)])) rfl rfl (hb hby d3_55)
  have pre3 : ∀ t_, Go p e below T2 (mkF m 93 #[rv a1, rv a] [(.long q)]) t_ → Go p e below s₁ (entryFrame m #[(.ref a1), (.ref a)] 2) t_ := fun t_ kt => pre0 _ (by
      show Go p e below s₁ (mkF m 0 #[rv a1, rv a] []) _
      refine XS.aloadN X0.here hx rfl (hb hby d3_0) rfl rfl ?_
      show Go p e below s₁ (mkF m 1 #[rv a1, rv a] [(.ref a1)]) _
      refine st1.trans ?_
      show Go p e below T1 (mkF m 4 #[rv a1, rv a] [(.int 0)]) _
      refine XS.tswIn X1.here hx rfl (pc0 := 4) (pc' := 54) rfl (hb hby d3_4) rfl (by decide) (o := 50) (by first | rfl | decide) (by decide) (by decide) ?_
      show Go p e below T1 (mkF m 54 #[rv a1, rv a] []) _
      refine XS.aloadN X1.here hx rfl (hb hby d3_54) rfl rfl ?_
      show Go p e below T1 (mkF m 55 #[rv a1, rv a] [(.ref a)]) _
      refine st2 _ ?_
      show Go p e below T2 (mkF m 58 #[rv a1, rv a] [(.long q)]) _
      refine XS.goto X2.here hx rfl (pc0 := 58) (pc' := 93) rfl (hb hby d3_58) (by decide) (by decide) ?_
      show Go p e below T2 (mkF m 93 #[rv a1, rv a] [(.long q)]) _
      exact kt)
  obtain ⟨fs, hr, hrun, hended, hW, hsame⟩ := X2.leave (v := some (.long q)) (fun h => by rw [Bd.returns] at h; cases h)
  refine ⟨_, _, pre3 _ ?_, hrun, hended, _, _, rfl, ?_, ⟨_, rfl⟩, hW, hsame.mono (by decide) (by decide)⟩
  · show Steps p.tables e below (T2.setTop (mkF m 93 #[rv a1, rv a] [(.long q)])) _
    jvm_step X2.here [X2.here.top, hx, (hb hby d3_93), X2.method', Bd.returns, narrow]
    first | (intro acts; rw [hr _ acts rfl rfl rfl]) | rw [hr _ _ rfl rfl rfl]
    exact Steps.refl _
  · show Q_rmN0 Z a1 a q h0 n0 _ T2.heap _
    rw [e2]
    exact ⟨rfl, N1, rfl⟩
theorem d3_61 : decode prog_18_method_6_code 61 = .ok (.aload_n 1, 1) := by decide +kernel
theorem d3_62 : decode prog_18_method_6_code 62 = .ok (.getfield 83, 3) := by decide +kernel
theorem d3_65 : decode prog_18_method_6_code 65 = .ok (.goto 28, 3) := by decide +kernel
def Q_rmN1 (Z : State) (a1 : Addr) (a : Addr) (q : Int64) (h0 : Heap) (n0 : Nat) (v : Option Value) (h : Heap) (L : List Loc) : Prop := v = some (.long q) ∧ Fr n0 L ∧ h = h0
set_option maxRecDepth 65536 in
set_option maxHeartbeats 40000000 in
theorem rmN1 (l : Launch) (Z : State) (a0 : Array Value) (hw : ∀ d ∈ tables_1, d.before a0 Z = true) (ws : List Jvm.Cond) (a1 : Addr) (a : Addr) (q : Int64) (h0 : Heap) (n0 : Nat) (Z0 : n0 ≤ h0.size) (Ea : Exa Z h0 a1 "com/example/vestry/vestry/Position$Count") (Fa : Fld Z h0 a1 "java/lang/Enum" "ordinal" "I" (.int (1 : Int32))) (Fb : Fld Z h0 a "com/example/vestry/vestry/Position" "exercised" "J" (.long q)) :
    MetFree l (⟨"com/example/vestry/vestry/Position$Count", "in", "(Lcom/example/vestry/vestry/Position;)J"⟩ : MethodName) (head1 (Jvm.Cond.code (⟨"com/example/vestry/vestry/Position$Count", "in", "(Lcom/example/vestry/vestry/Position;)J"⟩ : MethodName) prog_18_method_6_code 2 (some .long) :: ws) ({ frames := 1, cells := 0, slots := 0, locals := 12 } : Room)) (fun av_ U_ => av_ = #[(.ref a1), (.ref a)] ∧ Z.Warmed39 U_.vm ∧ U_.heap = h0) (fun _ _ _ _ _ => True) (fun _ U_ o_ V_ => ∃ v_ L_, o_ = .returned v_ ∧ Q_rmN1 Z a1 a q h0 n0 v_ V_.heap L_ ∧ FrameEnd U_ o_ V_ L_ ({ frames := 1, cells := 0, slots := 0, locals := 12 } : Room).cells ({ frames := 1, cells := 0, slots := 0, locals := 12 } : Room).slots) := by
  refine MetFree.of_bodySF (plainFor_of_name pn_com_example_vestry_vestry_Position_Count) hisR ?_
  intro p e s m args below meth c s₁ Bd hml0 hP hK
  obtain ⟨rfl, hZ, hh⟩ := hP
  have hx := Bd.exec
  have hby := Bd.bytes
  have hml : c.maxLocals = 2 := hml0
  have hown : s.vm.findClass "com/example/vestry/vestry/Position$Count" = some m.cls := findClass_of_methodNamed Bd.named
  have hnm := (name_of_methodNamed Bd.named Bd.method).1
  have X0 : Stand p l e ({ frames := 1, cells := 0, slots := 0, locals := 12 } : Room) s m #[(.ref a1), (.ref a)] below meth c s₁ [] 0 0 := Stand.of_body Bd
  have e0 : s₁.heap = h0 := by rw [← hh, Bd.state]; rfl
  have N0 := Fr.nil n0
  have pre0 : ∀ t_, Go p e below s₁ (mkF m 0 #[rv a1, rv a] []) t_ → Go p e below s₁ (entryFrame m #[(.ref a1), (.ref a)] 2) t_ := fun t_ kt => castTop (ef_3 m a1 a) kt
  obtain ⟨cq1, kq1, q1a, q1b, q1c⟩ := isOf hZ e0 Ea
  obtain ⟨_, _, ⟨T1, L1, k1, n1⟩, -, X1, ⟨Lc1, hQ1, l1, y1, z1⟩, st1⟩ := X0.virtualBackUp hx (owner := "java/lang/Enum") (x := (⟨"com/example/vestry/vestry/Position$Count", "ordinal", "()I"⟩ : MethodName)) (y := (⟨"java/lang/Enum", "ordinal", "()I"⟩ : MethodName)) hown (mvT hZ (hwi hw 29 rfl)) (mvT hZ (hwi hw 30 rfl)) (mvT hZ (hwi hw 31 rfl)) (by decide) (mvT hZ (hwi hw 33 rfl)) (mvT hZ (hwi hw 32 rfl)) (backOf (W := 0) (rmO l Z a0 hw [] a1 1 h0 n0 Z0 Fa) hZ (hwi hw 35 rfl) (hwi hw 34 rfl) (by decide) (by decide)) q1a q1c (g := (mkF m 1 #[rv a1, rv a] [(.ref a1)])) rfl (by rw [hml]; rfl) (Steps.refl _) (argsL := []) (rest := []) (lenOf pd_3 rfl) rfl (by show 2 * 0 + _ ≤ _; exact Nat.le_of_eq rfl) (hb hby d3_1) (fun _ _ => ⟨rfl, e0, (by decide : 0 + 0 ≤ _), (by decide : 0 + 0 ≤ _)⟩)
  dsimp only [Pt.U, Pt.locs, Pt.cells, Pt.slots] at X1 l1 y1 z1 st1 hQ1
  subst l1 y1 z1
  obtain ⟨rfl, N1q, e1q⟩ := hQ1
  have N1 := Fr.app N0 N1q
  obtain ⟨T2, X2, e2, st2⟩ := getF X1 hx hZ hown (Or.inr (hwi hw 41 rfl)) Via.refl e1q Fb (g := (mkF m 62 #[rv a1, rv a] [(.ref a)])) rfl rfl (hb hby d3_62)
  have pre3 : ∀ t_, Go p e below T2 (mkF m 93 #[rv a1, rv a] [(.long q)]) t_ → Go p e below s₁ (entryFrame m #[(.ref a1), (.ref a)] 2) t_ := fun t_ kt => pre0 _ (by
      show Go p e below s₁ (mkF m 0 #[rv a1, rv a] []) _
      refine XS.aloadN X0.here hx rfl (hb hby d3_0) rfl rfl ?_
      show Go p e below s₁ (mkF m 1 #[rv a1, rv a] [(.ref a1)]) _
      refine st1.trans ?_
      show Go p e below T1 (mkF m 4 #[rv a1, rv a] [(.int 1)]) _
      refine XS.tswIn X1.here hx rfl (pc0 := 4) (pc' := 61) rfl (hb hby d3_4) rfl (by decide) (o := 57) (by first | rfl | decide) (by decide) (by decide) ?_
      show Go p e below T1 (mkF m 61 #[rv a1, rv a] []) _
      refine XS.aloadN X1.here hx rfl (hb hby d3_61) rfl rfl ?_
      show Go p e below T1 (mkF m 62 #[rv a1, rv a] [(.ref a)]) _
      refine st2 _ ?_
      show Go p e below T2 (mkF m 65 #[rv a1, rv a] [(.long q)]) _
      refine XS.goto X2.here hx rfl (pc0 := 65) (pc' := 93) rfl (hb hby d3_65) (by decide) (by decide) ?_
      show Go p e below T2 (mkF m 93 #[rv a1, rv a] [(.long q)]) _
      exact kt)
  obtain ⟨fs, hr, hrun, hended, hW, hsame⟩ := X2.leave (v := some (.long q)) (fun h => by rw [Bd.returns] at h; cases h)
  refine ⟨_, _, pre3 _ ?_, hrun, hended, _, _, rfl, ?_, ⟨_, rfl⟩, hW, hsame.mono (by decide) (by decide)⟩
  · show Steps p.tables e below (T2.setTop (mkF m 93 #[rv a1, rv a] [(.long q)])) _
    jvm_step X2.here [X2.here.top, hx, (hb hby d3_93), X2.method', Bd.returns, narrow]
    first | (intro acts; rw [hr _ acts rfl rfl rfl]) | rw [hr _ _ rfl rfl rfl]
    exact Steps.refl _
  · show Q_rmN1 Z a1 a q h0 n0 _ T2.heap _
    rw [e2]
    exact ⟨rfl, N1, rfl⟩
theorem d3_68 : decode prog_18_method_6_code 68 = .ok (.aload_n 1, 1) := by decide +kernel
theorem d3_69 : decode prog_18_method_6_code 69 = .ok (.getfield 86, 3) := by decide +kernel
theorem d3_72 : decode prog_18_method_6_code 72 = .ok (.goto 21, 3) := by decide +kernel
def Q_rmN2 (Z : State) (a1 : Addr) (a : Addr) (q : Int64) (h0 : Heap) (n0 : Nat) (v : Option Value) (h : Heap) (L : List Loc) : Prop := v = some (.long q) ∧ Fr n0 L ∧ h = h0
set_option maxRecDepth 65536 in
set_option maxHeartbeats 40000000 in
theorem rmN2 (l : Launch) (Z : State) (a0 : Array Value) (hw : ∀ d ∈ tables_1, d.before a0 Z = true) (ws : List Jvm.Cond) (a1 : Addr) (a : Addr) (q : Int64) (h0 : Heap) (n0 : Nat) (Z0 : n0 ≤ h0.size) (Ea : Exa Z h0 a1 "com/example/vestry/vestry/Position$Count") (Fa : Fld Z h0 a1 "java/lang/Enum" "ordinal" "I" (.int (2 : Int32))) (Fb : Fld Z h0 a "com/example/vestry/vestry/Position" "exercisable" "J" (.long q)) :
    MetFree l (⟨"com/example/vestry/vestry/Position$Count", "in", "(Lcom/example/vestry/vestry/Position;)J"⟩ : MethodName) (head1 (Jvm.Cond.code (⟨"com/example/vestry/vestry/Position$Count", "in", "(Lcom/example/vestry/vestry/Position;)J"⟩ : MethodName) prog_18_method_6_code 2 (some .long) :: ws) ({ frames := 1, cells := 0, slots := 0, locals := 12 } : Room)) (fun av_ U_ => av_ = #[(.ref a1), (.ref a)] ∧ Z.Warmed39 U_.vm ∧ U_.heap = h0) (fun _ _ _ _ _ => True) (fun _ U_ o_ V_ => ∃ v_ L_, o_ = .returned v_ ∧ Q_rmN2 Z a1 a q h0 n0 v_ V_.heap L_ ∧ FrameEnd U_ o_ V_ L_ ({ frames := 1, cells := 0, slots := 0, locals := 12 } : Room).cells ({ frames := 1, cells := 0, slots := 0, locals := 12 } : Room).slots) := by
  refine MetFree.of_bodySF (plainFor_of_name pn_com_example_vestry_vestry_Position_Count) hisR ?_
  intro p e s m args below meth c s₁ Bd hml0 hP hK
  obtain ⟨rfl, hZ, hh⟩ := hP
  have hx := Bd.exec
  have hby := Bd.bytes
  have hml : c.maxLocals = 2 := hml0
  have hown : s.vm.findClass "com/example/vestry/vestry/Position$Count" = some m.cls := findClass_of_methodNamed Bd.named
  have hnm := (name_of_methodNamed Bd.named Bd.method).1
  have X0 : Stand p l e ({ frames := 1, cells := 0, slots := 0, locals := 12 } : Room) s m #[(.ref a1), (.ref a)] below meth c s₁ [] 0 0 := Stand.of_body Bd
  have e0 : s₁.heap = h0 := by rw [← hh, Bd.state]; rfl
  have N0 := Fr.nil n0
  have pre0 : ∀ t_, Go p e below s₁ (mkF m 0 #[rv a1, rv a] []) t_ → Go p e below s₁ (entryFrame m #[(.ref a1), (.ref a)] 2) t_ := fun t_ kt => castTop (ef_3 m a1 a) kt
  obtain ⟨cq1, kq1, q1a, q1b, q1c⟩ := isOf hZ e0 Ea
  obtain ⟨_, _, ⟨T1, L1, k1, n1⟩, -, X1, ⟨Lc1, hQ1, l1, y1, z1⟩, st1⟩ := X0.virtualBackUp hx (owner := "java/lang/Enum") (x := (⟨"com/example/vestry/vestry/Position$Count", "ordinal", "()I"⟩ : MethodName)) (y := (⟨"java/lang/Enum", "ordinal", "()I"⟩ : MethodName)) hown (mvT hZ (hwi hw 29 rfl)) (mvT hZ (hwi hw 30 rfl)) (mvT hZ (hwi hw 31 rfl)) (by decide) (mvT hZ (hwi hw 33 rfl)) (mvT hZ (hwi hw 32 rfl)) (backOf (W := 0) (rmO l Z a0 hw [] a1 2 h0 n0 Z0 Fa) hZ (hwi hw 35 rfl) (hwi hw 34 rfl) (by decide) (by decide)) q1a q1c (g := (mkF m 1 #[rv a1, rv a] [(.ref a1)])) rfl (by rw [hml]; rfl) (Steps.refl _) (argsL := []) (rest := []) (lenOf pd_3 rfl) rfl (by show 2 * 0 + _ ≤ _; exact Nat.le_of_eq rfl) (hb hby d3_1) (fun _ _ => ⟨rfl, e0, (by decide : 0 + 0 ≤ _), (by decide : 0 + 0 ≤ _)⟩)
  dsimp only [Pt.U, Pt.locs, Pt.cells, Pt.slots] at X1 l1 y1 z1 st1 hQ1
  subst l1 y1 z1
  obtain ⟨rfl, N1q, e1q⟩ := hQ1
  have N1 := Fr.app N0 N1q
  obtain ⟨T2, X2, e2, st2⟩ := getF X1 hx hZ hown (Or.inr (hwi hw 44 rfl)) Via.refl e1q Fb (g := (mkF m 69 #[rv a1, rv a] [(.ref a)])) rfl rfl (hb hby d3_69)
  have pre3 : ∀ t_, Go p e below T2 (mkF m 93 #[rv a1, rv a] [(.long q)]) t_ → Go p e below s₁ (entryFrame m #[(.ref a1), (.ref a)] 2) t_ := fun t_ kt => pre0 _ (by
      show Go p e below s₁ (mkF m 0 #[rv a1, rv a] []) _
      refine XS.aloadN X0.here hx rfl (hb hby d3_0) rfl rfl ?_
      show Go p e below s₁ (mkF m 1 #[rv a1, rv a] [(.ref a1)]) _
      refine st1.trans ?_
      show Go p e below T1 (mkF m 4 #[rv a1, rv a] [(.int 2)]) _
      refine XS.tswIn X1.here hx rfl (pc0 := 4) (pc' := 68) rfl (hb hby d3_4) rfl (by decide) (o := 64) (by first | rfl | decide) (by decide) (by decide) ?_
      show Go p e below T1 (mkF m 68 #[rv a1, rv a] []) _
      refine XS.aloadN X1.here hx rfl (hb hby d3_68) rfl rfl ?_
      show Go p e below T1 (mkF m 69 #[rv a1, rv a] [(.ref a)]) _
      refine st2 _ ?_
      show Go p e below T2 (mkF m 72 #[rv a1, rv a] [(.long q)]) _
      refine XS.goto X2.here hx rfl (pc0 := 72) (pc' := 93) rfl (hb hby d3_72) (by decide) (by decide) ?_
      show Go p e below T2 (mkF m 93 #[rv a1, rv a] [(.long q)]) _
      exact kt)
  obtain ⟨fs, hr, hrun, hended, hW, hsame⟩ := X2.leave (v := some (.long q)) (fun h => by rw [Bd.returns] at h; cases h)
  refine ⟨_, _, pre3 _ ?_, hrun, hended, _, _, rfl, ?_, ⟨_, rfl⟩, hW, hsame.mono (by decide) (by decide)⟩
  · show Steps p.tables e below (T2.setTop (mkF m 93 #[rv a1, rv a] [(.long q)])) _
    jvm_step X2.here [X2.here.top, hx, (hb hby d3_93), X2.method', Bd.returns, narrow]
    first | (intro acts; rw [hr _ acts rfl rfl rfl]) | rw [hr _ _ rfl rfl rfl]
    exact Steps.refl _
  · show Q_rmN2 Z a1 a q h0 n0 _ T2.heap _
    rw [e2]
    exact ⟨rfl, N1, rfl⟩
theorem d3_75 : decode prog_18_method_6_code 75 = .ok (.aload_n 1, 1) := by decide +kernel
theorem d3_76 : decode prog_18_method_6_code 76 = .ok (.getfield 89, 3) := by decide +kernel
theorem d3_79 : decode prog_18_method_6_code 79 = .ok (.goto 14, 3) := by decide +kernel
def Q_rmN3 (Z : State) (a1 : Addr) (a : Addr) (q : Int64) (h0 : Heap) (n0 : Nat) (v : Option Value) (h : Heap) (L : List Loc) : Prop := v = some (.long q) ∧ Fr n0 L ∧ h = h0
set_option maxRecDepth 65536 in
set_option maxHeartbeats 40000000 in
theorem rmN3 (l : Launch) (Z : State) (a0 : Array Value) (hw : ∀ d ∈ tables_1, d.before a0 Z = true) (ws : List Jvm.Cond) (a1 : Addr) (a : Addr) (q : Int64) (h0 : Heap) (n0 : Nat) (Z0 : n0 ≤ h0.size) (Ea : Exa Z h0 a1 "com/example/vestry/vestry/Position$Count") (Fa : Fld Z h0 a1 "java/lang/Enum" "ordinal" "I" (.int (3 : Int32))) (Fb : Fld Z h0 a "com/example/vestry/vestry/Position" "unvested" "J" (.long q)) :
    MetFree l (⟨"com/example/vestry/vestry/Position$Count", "in", "(Lcom/example/vestry/vestry/Position;)J"⟩ : MethodName) (head1 (Jvm.Cond.code (⟨"com/example/vestry/vestry/Position$Count", "in", "(Lcom/example/vestry/vestry/Position;)J"⟩ : MethodName) prog_18_method_6_code 2 (some .long) :: ws) ({ frames := 1, cells := 0, slots := 0, locals := 12 } : Room)) (fun av_ U_ => av_ = #[(.ref a1), (.ref a)] ∧ Z.Warmed39 U_.vm ∧ U_.heap = h0) (fun _ _ _ _ _ => True) (fun _ U_ o_ V_ => ∃ v_ L_, o_ = .returned v_ ∧ Q_rmN3 Z a1 a q h0 n0 v_ V_.heap L_ ∧ FrameEnd U_ o_ V_ L_ ({ frames := 1, cells := 0, slots := 0, locals := 12 } : Room).cells ({ frames := 1, cells := 0, slots := 0, locals := 12 } : Room).slots) := by
  refine MetFree.of_bodySF (plainFor_of_name pn_com_example_vestry_vestry_Position_Count) hisR ?_
  intro p e s m args below meth c s₁ Bd hml0 hP hK
  obtain ⟨rfl, hZ, hh⟩ := hP
  have hx := Bd.exec
  have hby := Bd.bytes
  have hml : c.maxLocals = 2 := hml0
  have hown : s.vm.findClass "com/example/vestry/vestry/Position$Count" = some m.cls := findClass_of_methodNamed Bd.named
  have hnm := (name_of_methodNamed Bd.named Bd.method).1
  have X0 : Stand p l e ({ frames := 1, cells := 0, slots := 0, locals := 12 } : Room) s m #[(.ref a1), (.ref a)] below meth c s₁ [] 0 0 := Stand.of_body Bd
  have e0 : s₁.heap = h0 := by rw [← hh, Bd.state]; rfl
  have N0 := Fr.nil n0
  have pre0 : ∀ t_, Go p e below s₁ (mkF m 0 #[rv a1, rv a] []) t_ → Go p e below s₁ (entryFrame m #[(.ref a1), (.ref a)] 2) t_ := fun t_ kt => castTop (ef_3 m a1 a) kt
  obtain ⟨cq1, kq1, q1a, q1b, q1c⟩ := isOf hZ e0 Ea
  obtain ⟨_, _, ⟨T1, L1, k1, n1⟩, -, X1, ⟨Lc1, hQ1, l1, y1, z1⟩, st1⟩ := X0.virtualBackUp hx (owner := "java/lang/Enum") (x := (⟨"com/example/vestry/vestry/Position$Count", "ordinal", "()I"⟩ : MethodName)) (y := (⟨"java/lang/Enum", "ordinal", "()I"⟩ : MethodName)) hown (mvT hZ (hwi hw 29 rfl)) (mvT hZ (hwi hw 30 rfl)) (mvT hZ (hwi hw 31 rfl)) (by decide) (mvT hZ (hwi hw 33 rfl)) (mvT hZ (hwi hw 32 rfl)) (backOf (W := 0) (rmO l Z a0 hw [] a1 3 h0 n0 Z0 Fa) hZ (hwi hw 35 rfl) (hwi hw 34 rfl) (by decide) (by decide)) q1a q1c (g := (mkF m 1 #[rv a1, rv a] [(.ref a1)])) rfl (by rw [hml]; rfl) (Steps.refl _) (argsL := []) (rest := []) (lenOf pd_3 rfl) rfl (by show 2 * 0 + _ ≤ _; exact Nat.le_of_eq rfl) (hb hby d3_1) (fun _ _ => ⟨rfl, e0, (by decide : 0 + 0 ≤ _), (by decide : 0 + 0 ≤ _)⟩)
  dsimp only [Pt.U, Pt.locs, Pt.cells, Pt.slots] at X1 l1 y1 z1 st1 hQ1
  subst l1 y1 z1
  obtain ⟨rfl, N1q, e1q⟩ := hQ1
  have N1 := Fr.app N0 N1q
  obtain ⟨T2, X2, e2, st2⟩ := getF X1 hx hZ hown (Or.inr (hwi hw 47 rfl)) Via.refl e1q Fb (g := (mkF m 76 #[rv a1, rv a] [(.ref a)])) rfl rfl (hb hby d3_76)
  have pre3 : ∀ t_, Go p e below T2 (mkF m 93 #[rv a1, rv a] [(.long q)]) t_ → Go p e below s₁ (entryFrame m #[(.ref a1), (.ref a)] 2) t_ := fun t_ kt => pre0 _ (by
      show Go p e below s₁ (mkF m 0 #[rv a1, rv a] []) _
      refine XS.aloadN X0.here hx rfl (hb hby d3_0) rfl rfl ?_
      show Go p e below s₁ (mkF m 1 #[rv a1, rv a] [(.ref a1)]) _
      refine st1.trans ?_
      show Go p e below T1 (mkF m 4 #[rv a1, rv a] [(.int 3)]) _
      refine XS.tswIn X1.here hx rfl (pc0 := 4) (pc' := 75) rfl (hb hby d3_4) rfl (by decide) (o := 71) (by first | rfl | decide) (by decide) (by decide) ?_
      show Go p e below T1 (mkF m 75 #[rv a1, rv a] []) _
      refine XS.aloadN X1.here hx rfl (hb hby d3_75) rfl rfl ?_
      show Go p e below T1 (mkF m 76 #[rv a1, rv a] [(.ref a)]) _
      refine st2 _ ?_
      show Go p e below T2 (mkF m 79 #[rv a1, rv a] [(.long q)]) _
      refine XS.goto X2.here hx rfl (pc0 := 79) (pc' := 93) rfl (hb hby d3_79) (by decide) (by decide) ?_
      show Go p e below T2 (mkF m 93 #[rv a1, rv a] [(.long q)]) _
      exact kt)
  obtain ⟨fs, hr, hrun, hended, hW, hsame⟩ := X2.leave (v := some (.long q)) (fun h => by rw [Bd.returns] at h; cases h)
  refine ⟨_, _, pre3 _ ?_, hrun, hended, _, _, rfl, ?_, ⟨_, rfl⟩, hW, hsame.mono (by decide) (by decide)⟩
  · show Steps p.tables e below (T2.setTop (mkF m 93 #[rv a1, rv a] [(.long q)])) _
    jvm_step X2.here [X2.here.top, hx, (hb hby d3_93), X2.method', Bd.returns, narrow]
    first | (intro acts; rw [hr _ acts rfl rfl rfl]) | rw [hr _ _ rfl rfl rfl]
    exact Steps.refl _
  · show Q_rmN3 Z a1 a q h0 n0 _ T2.heap _
    rw [e2]
    exact ⟨rfl, N1, rfl⟩
theorem d3_82 : decode prog_18_method_6_code 82 = .ok (.aload_n 1, 1) := by decide +kernel
theorem d3_83 : decode prog_18_method_6_code 83 = .ok (.getfield 92, 3) := by decide +kernel
theorem d3_86 : decode prog_18_method_6_code 86 = .ok (.goto 7, 3) := by decide +kernel
def Q_rmN4 (Z : State) (a1 : Addr) (a : Addr) (q : Int64) (h0 : Heap) (n0 : Nat) (v : Option Value) (h : Heap) (L : List Loc) : Prop := v = some (.long q) ∧ Fr n0 L ∧ h = h0
set_option maxRecDepth 65536 in
set_option maxHeartbeats 40000000 in
theorem rmN4 (l : Launch) (Z : State) (a0 : Array Value) (hw : ∀ d ∈ tables_1, d.before a0 Z = true) (ws : List Jvm.Cond) (a1 : Addr) (a : Addr) (q : Int64) (h0 : Heap) (n0 : Nat) (Z0 : n0 ≤ h0.size) (Ea : Exa Z h0 a1 "com/example/vestry/vestry/Position$Count") (Fa : Fld Z h0 a1 "java/lang/Enum" "ordinal" "I" (.int (4 : Int32))) (Fb : Fld Z h0 a "com/example/vestry/vestry/Position" "forfeited" "J" (.long q)) :
    MetFree l (⟨"com/example/vestry/vestry/Position$Count", "in", "(Lcom/example/vestry/vestry/Position;)J"⟩ : MethodName) (head1 (Jvm.Cond.code (⟨"com/example/vestry/vestry/Position$Count", "in", "(Lcom/example/vestry/vestry/Position;)J"⟩ : MethodName) prog_18_method_6_code 2 (some .long) :: ws) ({ frames := 1, cells := 0, slots := 0, locals := 12 } : Room)) (fun av_ U_ => av_ = #[(.ref a1), (.ref a)] ∧ Z.Warmed39 U_.vm ∧ U_.heap = h0) (fun _ _ _ _ _ => True) (fun _ U_ o_ V_ => ∃ v_ L_, o_ = .returned v_ ∧ Q_rmN4 Z a1 a q h0 n0 v_ V_.heap L_ ∧ FrameEnd U_ o_ V_ L_ ({ frames := 1, cells := 0, slots := 0, locals := 12 } : Room).cells ({ frames := 1, cells := 0, slots := 0, locals := 12 } : Room).slots) := by
  refine MetFree.of_bodySF (plainFor_of_name pn_com_example_vestry_vestry_Position_Count) hisR ?_
  intro p e s m args below meth c s₁ Bd hml0 hP hK
  obtain ⟨rfl, hZ, hh⟩ := hP
  have hx := Bd.exec
  have hby := Bd.bytes
  have hml : c.maxLocals = 2 := hml0
  have hown : s.vm.findClass "com/example/vestry/vestry/Position$Count" = some m.cls := findClass_of_methodNamed Bd.named
  have hnm := (name_of_methodNamed Bd.named Bd.method).1
  have X0 : Stand p l e ({ frames := 1, cells := 0, slots := 0, locals := 12 } : Room) s m #[(.ref a1), (.ref a)] below meth c s₁ [] 0 0 := Stand.of_body Bd
  have e0 : s₁.heap = h0 := by rw [← hh, Bd.state]; rfl
  have N0 := Fr.nil n0
  have pre0 : ∀ t_, Go p e below s₁ (mkF m 0 #[rv a1, rv a] []) t_ → Go p e below s₁ (entryFrame m #[(.ref a1), (.ref a)] 2) t_ := fun t_ kt => castTop (ef_3 m a1 a) kt
  obtain ⟨cq1, kq1, q1a, q1b, q1c⟩ := isOf hZ e0 Ea
  obtain ⟨_, _, ⟨T1, L1, k1, n1⟩, -, X1, ⟨Lc1, hQ1, l1, y1, z1⟩, st1⟩ := X0.virtualBackUp hx (owner := "java/lang/Enum") (x := (⟨"com/example/vestry/vestry/Position$Count", "ordinal", "()I"⟩ : MethodName)) (y := (⟨"java/lang/Enum", "ordinal", "()I"⟩ : MethodName)) hown (mvT hZ (hwi hw 29 rfl)) (mvT hZ (hwi hw 30 rfl)) (mvT hZ (hwi hw 31 rfl)) (by decide) (mvT hZ (hwi hw 33 rfl)) (mvT hZ (hwi hw 32 rfl)) (backOf (W := 0) (rmO l Z a0 hw [] a1 4 h0 n0 Z0 Fa) hZ (hwi hw 35 rfl) (hwi hw 34 rfl) (by decide) (by decide)) q1a q1c (g := (mkF m 1 #[rv a1, rv a] [(.ref a1)])) rfl (by rw [hml]; rfl) (Steps.refl _) (argsL := []) (rest := []) (lenOf pd_3 rfl) rfl (by show 2 * 0 + _ ≤ _; exact Nat.le_of_eq rfl) (hb hby d3_1) (fun _ _ => ⟨rfl, e0, (by decide : 0 + 0 ≤ _), (by decide : 0 + 0 ≤ _)⟩)
  dsimp only [Pt.U, Pt.locs, Pt.cells, Pt.slots] at X1 l1 y1 z1 st1 hQ1
  subst l1 y1 z1
  obtain ⟨rfl, N1q, e1q⟩ := hQ1
  have N1 := Fr.app N0 N1q
  obtain ⟨T2, X2, e2, st2⟩ := getF X1 hx hZ hown (Or.inr (hwi hw 50 rfl)) Via.refl e1q Fb (g := (mkF m 83 #[rv a1, rv a] [(.ref a)])) rfl rfl (hb hby d3_83)
  have pre3 : ∀ t_, Go p e below T2 (mkF m 93 #[rv a1, rv a] [(.long q)]) t_ → Go p e below s₁ (entryFrame m #[(.ref a1), (.ref a)] 2) t_ := fun t_ kt => pre0 _ (by
      show Go p e below s₁ (mkF m 0 #[rv a1, rv a] []) _
      refine XS.aloadN X0.here hx rfl (hb hby d3_0) rfl rfl ?_
      show Go p e below s₁ (mkF m 1 #[rv a1, rv a] [(.ref a1)]) _
      refine st1.trans ?_
      show Go p e below T1 (mkF m 4 #[rv a1, rv a] [(.int 4)]) _
      refine XS.tswIn X1.here hx rfl (pc0 := 4) (pc' := 82) rfl (hb hby d3_4) rfl (by decide) (o := 78) (by first | rfl | decide) (by decide) (by decide) ?_
      show Go p e below T1 (mkF m 82 #[rv a1, rv a] []) _
      refine XS.aloadN X1.here hx rfl (hb hby d3_82) rfl rfl ?_
      show Go p e below T1 (mkF m 83 #[rv a1, rv a] [(.ref a)]) _
      refine st2 _ ?_
      show Go p e below T2 (mkF m 86 #[rv a1, rv a] [(.long q)]) _
      refine XS.goto X2.here hx rfl (pc0 := 86) (pc' := 93) rfl (hb hby d3_86) (by decide) (by decide) ?_
      show Go p e below T2 (mkF m 93 #[rv a1, rv a] [(.long q)]) _
      exact kt)
  obtain ⟨fs, hr, hrun, hended, hW, hsame⟩ := X2.leave (v := some (.long q)) (fun h => by rw [Bd.returns] at h; cases h)
  refine ⟨_, _, pre3 _ ?_, hrun, hended, _, _, rfl, ?_, ⟨_, rfl⟩, hW, hsame.mono (by decide) (by decide)⟩
  · show Steps p.tables e below (T2.setTop (mkF m 93 #[rv a1, rv a] [(.long q)])) _
    jvm_step X2.here [X2.here.top, hx, (hb hby d3_93), X2.method', Bd.returns, narrow]
    first | (intro acts; rw [hr _ acts rfl rfl rfl]) | rw [hr _ _ rfl rfl rfl]
    exact Steps.refl _
  · show Q_rmN4 Z a1 a q h0 n0 _ T2.heap _
    rw [e2]
    exact ⟨rfl, N1, rfl⟩
theorem d3_89 : decode prog_18_method_6_code 89 = .ok (.aload_n 1, 1) := by decide +kernel
theorem d3_90 : decode prog_18_method_6_code 90 = .ok (.getfield 95, 3) := by decide +kernel
def Q_rmN5 (Z : State) (a1 : Addr) (a : Addr) (q : Int64) (h0 : Heap) (n0 : Nat) (v : Option Value) (h : Heap) (L : List Loc) : Prop := v = some (.long q) ∧ Fr n0 L ∧ h = h0
set_option maxRecDepth 65536 in
set_option maxHeartbeats 40000000 in
theorem rmN5 (l : Launch) (Z : State) (a0 : Array Value) (hw : ∀ d ∈ tables_1, d.before a0 Z = true) (ws : List Jvm.Cond) (a1 : Addr) (a : Addr) (q : Int64) (h0 : Heap) (n0 : Nat) (Z0 : n0 ≤ h0.size) (Ea : Exa Z h0 a1 "com/example/vestry/vestry/Position$Count") (Fa : Fld Z h0 a1 "java/lang/Enum" "ordinal" "I" (.int (5 : Int32))) (Fb : Fld Z h0 a "com/example/vestry/vestry/Position" "tandem" "J" (.long q)) :
    MetFree l (⟨"com/example/vestry/vestry/Position$Count", "in", "(Lcom/example/vestry/vestry/Position;)J"⟩ : MethodName) (head1 (Jvm.Cond.code (⟨"com/example/vestry/vestry/Position$Count", "in", "(Lcom/example/vestry/vestry/Position;)J"⟩ : MethodName) prog_18_method_6_code 2 (some .long) :: ws) ({ frames := 1, cells := 0, slots := 0, locals := 12 } : Room)) (fun av_ U_ => av_ = #[(.ref a1), (.ref a)] ∧ Z.Warmed39 U_.vm ∧ U_.heap = h0) (fun _ _ _ _ _ => True) (fun _ U_ o_ V_ => ∃ v_ L_, o_ = .returned v_ ∧ Q_rmN5 Z a1 a q h0 n0 v_ V_.heap L_ ∧ FrameEnd U_ o_ V_ L_ ({ frames := 1, cells := 0, slots := 0, locals := 12 } : Room).cells ({ frames := 1, cells := 0, slots := 0, locals := 12 } : Room).slots) := by
  refine MetFree.of_bodySF (plainFor_of_name pn_com_example_vestry_vestry_Position_Count) hisR ?_
  intro p e s m args below meth c s₁ Bd hml0 hP hK
  obtain ⟨rfl, hZ, hh⟩ := hP
  have hx := Bd.exec
  have hby := Bd.bytes
  have hml : c.maxLocals = 2 := hml0
  have hown : s.vm.findClass "com/example/vestry/vestry/Position$Count" = some m.cls := findClass_of_methodNamed Bd.named
  have hnm := (name_of_methodNamed Bd.named Bd.method).1
  have X0 : Stand p l e ({ frames := 1, cells := 0, slots := 0, locals := 12 } : Room) s m #[(.ref a1), (.ref a)] below meth c s₁ [] 0 0 := Stand.of_body Bd
  have e0 : s₁.heap = h0 := by rw [← hh, Bd.state]; rfl
  have N0 := Fr.nil n0
  have pre0 : ∀ t_, Go p e below s₁ (mkF m 0 #[rv a1, rv a] []) t_ → Go p e below s₁ (entryFrame m #[(.ref a1), (.ref a)] 2) t_ := fun t_ kt => castTop (ef_3 m a1 a) kt
  obtain ⟨cq1, kq1, q1a, q1b, q1c⟩ := isOf hZ e0 Ea
  obtain ⟨_, _, ⟨T1, L1, k1, n1⟩, -, X1, ⟨Lc1, hQ1, l1, y1, z1⟩, st1⟩ := X0.virtualBackUp hx (owner := "java/lang/Enum") (x := (⟨"com/example/vestry/vestry/Position$Count", "ordinal", "()I"⟩ : MethodName)) (y := (⟨"java/lang/Enum", "ordinal", "()I"⟩ : MethodName)) hown (mvT hZ (hwi hw 29 rfl)) (mvT hZ (hwi hw 30 rfl)) (mvT hZ (hwi hw 31 rfl)) (by decide) (mvT hZ (hwi hw 33 rfl)) (mvT hZ (hwi hw 32 rfl)) (backOf (W := 0) (rmO l Z a0 hw [] a1 5 h0 n0 Z0 Fa) hZ (hwi hw 35 rfl) (hwi hw 34 rfl) (by decide) (by decide)) q1a q1c (g := (mkF m 1 #[rv a1, rv a] [(.ref a1)])) rfl (by rw [hml]; rfl) (Steps.refl _) (argsL := []) (rest := []) (lenOf pd_3 rfl) rfl (by show 2 * 0 + _ ≤ _; exact Nat.le_of_eq rfl) (hb hby d3_1) (fun _ _ => ⟨rfl, e0, (by decide : 0 + 0 ≤ _), (by decide : 0 + 0 ≤ _)⟩)
  dsimp only [Pt.U, Pt.locs, Pt.cells, Pt.slots] at X1 l1 y1 z1 st1 hQ1
  subst l1 y1 z1
  obtain ⟨rfl, N1q, e1q⟩ := hQ1
  have N1 := Fr.app N0 N1q
  obtain ⟨T2, X2, e2, st2⟩ := getF X1 hx hZ hown (Or.inr (hwi hw 53 rfl)) Via.refl e1q Fb (g := (mkF m 90 #[rv a1, rv a] [(.ref a)])) rfl rfl (hb hby d3_90)
  have pre3 : ∀ t_, Go p e below T2 (mkF m 93 #[rv a1, rv a] [(.long q)]) t_ → Go p e below s₁ (entryFrame m #[(.ref a1), (.ref a)] 2) t_ := fun t_ kt => pre0 _ (by
      show Go p e below s₁ (mkF m 0 #[rv a1, rv a] []) _
      refine XS.aloadN X0.here hx rfl (hb hby d3_0) rfl rfl ?_
      show Go p e below s₁ (mkF m 1 #[rv a1, rv a] [(.ref a1)]) _
      refine st1.trans ?_
      show Go p e below T1 (mkF m 4 #[rv a1, rv a] [(.int 5)]) _
      refine XS.tswIn X1.here hx rfl (pc0 := 4) (pc' := 89) rfl (hb hby d3_4) rfl (by decide) (o := 85) (by first | rfl | decide) (by decide) (by decide) ?_
      show Go p e below T1 (mkF m 89 #[rv a1, rv a] []) _
      refine XS.aloadN X1.here hx rfl (hb hby d3_89) rfl rfl ?_
      show Go p e below T1 (mkF m 90 #[rv a1, rv a] [(.ref a)]) _
      refine st2 _ ?_
      show Go p e below T2 (mkF m 93 #[rv a1, rv a] [(.long q)]) _
      exact kt)
  obtain ⟨fs, hr, hrun, hended, hW, hsame⟩ := X2.leave (v := some (.long q)) (fun h => by rw [Bd.returns] at h; cases h)
  refine ⟨_, _, pre3 _ ?_, hrun, hended, _, _, rfl, ?_, ⟨_, rfl⟩, hW, hsame.mono (by decide) (by decide)⟩
  · show Steps p.tables e below (T2.setTop (mkF m 93 #[rv a1, rv a] [(.long q)])) _
    jvm_step X2.here [X2.here.top, hx, (hb hby d3_93), X2.method', Bd.returns, narrow]
    first | (intro acts; rw [hr _ acts rfl rfl rfl]) | rw [hr _ _ rfl rfl rfl]
    exact Steps.refl _
  · show Q_rmN5 Z a1 a q h0 n0 _ T2.heap _
    rw [e2]
    exact ⟨rfl, N1, rfl⟩
theorem ef_0 (m : MethodId) (x0 : Int64) (x1 : Int64) (x2 : Int64) (x3 : Int64) (x4 : Int64) (x5 : Int64) : entryFrame m #[(.long x0), (.long x1), (.long x2), (.long x3), (.long x4), (.long x5)] maxLocals = mkF m 0 #[.val (.long x0), .second, .val (.long x1), .second, .val (.long x2), .second, .val (.long x3), .second, .val (.long x4), .second, .val (.long x5), .second, .unset] [] := by first | (simp [entryFrame, mkF, argsToLocals, Value.category, maxLocals]; done) | rfl
theorem pn_com_example_vestry_vestry_CountInPinLaw : plainName "com/example/vestry/vestry/CountInPinLaw" = true := by first | (simp [plainName, overriddenIn]; done) | decide +kernel
theorem pd_0 : parseMethodDescriptor "(JJJJJJ)V" = some ⟨[.long, .long, .long, .long, .long, .long], none⟩ := by decide +kernel
theorem pd_2 : parseMethodDescriptor "(Lcom/example/vestry/vestry/Position;)J" = some ⟨[(.object "com/example/vestry/vestry/Position")], some .long⟩ := by decide +kernel
def Q_rmL (Z : State) (q0 : Int64) (q1 : Int64) (q2 : Int64) (q3 : Int64) (q4 : Int64) (q5 : Int64) (w_GRANTED : Addr) (w_EXERCISED : Addr) (w_EXERCISABLE : Addr) (w_UNVESTED : Addr) (w_FORFEITED : Addr) (w_TANDEM : Addr) (h0 : Heap) (n0 : Nat) (v : Option Value) (h : Heap) (L : List Loc) : Prop := v = some (.int 1) ∧ Fr n0 L
set_option maxRecDepth 65536 in
set_option maxHeartbeats 40000000 in
theorem rmL (l : Launch) (Z : State) (a0 : Array Value) (hw : ∀ d ∈ tables_1, d.before a0 Z = true) (ws : List Jvm.Cond) (q0 : Int64) (q1 : Int64) (q2 : Int64) (q3 : Int64) (q4 : Int64) (q5 : Int64) (w_GRANTED : Addr) (w_EXERCISED : Addr) (w_EXERCISABLE : Addr) (w_UNVESTED : Addr) (w_FORFEITED : Addr) (w_TANDEM : Addr) (h0 : Heap) (n0 : Nat) (Z0 : n0 ≤ h0.size) (hWd : Wd Z h0 w_GRANTED w_EXERCISED w_EXERCISABLE w_UNVESTED w_FORFEITED w_TANDEM) :
    MetFree l x (head1 (Jvm.Cond.code x code maxLocals ret :: ws) room_1) (fun av_ U_ => av_ = #[(.long q0), (.long q1), (.long q2), (.long q3), (.long q4), (.long q5)] ∧ Z.Warmed39 U_.vm ∧ U_.heap = h0) (fun _ _ _ _ _ => True) (fun _ U_ o_ V_ => ∃ v_ L_, o_ = .returned v_ ∧ Q_rmL Z q0 q1 q2 q3 q4 q5 w_GRANTED w_EXERCISED w_EXERCISABLE w_UNVESTED w_FORFEITED w_TANDEM h0 n0 v_ V_.heap L_ ∧ FrameEnd U_ o_ V_ L_ room_1.cells room_1.slots) := by
  refine MetFree.of_bodySF (plainFor_of_name pn_com_example_vestry_vestry_CountInPinLaw) hisR ?_
  intro p e s m args below meth c s₁ Bd hml0 hP hK
  obtain ⟨rfl, hZ, hh⟩ := hP
  have hx := Bd.exec
  have hby := Bd.bytes
  have hml : c.maxLocals = 13 := hml0
  have hown : s.vm.findClass "com/example/vestry/vestry/CountInPinLaw" = some m.cls := findClass_of_methodNamed Bd.named
  have hnm := (name_of_methodNamed Bd.named Bd.method).1
  have X0 : Stand p l e room_1 s m #[(.long q0), (.long q1), (.long q2), (.long q3), (.long q4), (.long q5)] below meth c s₁ [] 0 0 := Stand.of_body Bd
  have e0 : s₁.heap = h0 := by rw [← hh, Bd.state]; rfl
  have N0 := Fr.nil n0
  have pre0 : ∀ t_, Go p e below s₁ (mkF m 0 #[.val (.long q0), .second, .val (.long q1), .second, .val (.long q2), .second, .val (.long q3), .second, .val (.long q4), .second, .val (.long q5), .second, .unset] []) t_ → Go p e below s₁ (entryFrame m #[(.long q0), (.long q1), (.long q2), (.long q3), (.long q4), (.long q5)] maxLocals) t_ := fun t_ kt => castTop (ef_0 m q0 q1 q2 q3 q4 q5) kt
  obtain ⟨⟨S_GRANTED, E_GRANTED, F_GRANTED⟩, ⟨S_EXERCISED, E_EXERCISED, F_EXERCISED⟩, ⟨S_EXERCISABLE, E_EXERCISABLE, F_EXERCISABLE⟩, ⟨S_UNVESTED, E_UNVESTED, F_UNVESTED⟩, ⟨S_FORFEITED, E_FORFEITED, F_FORFEITED⟩, ⟨S_TANDEM, E_TANDEM, F_TANDEM⟩⟩ := hWd
  obtain ⟨T1, h1, X1, e1, E1, A1, D1, -, st1⟩ := newO X0 hx hZ hown (hwi hw 0 rfl) (hwi hw 1 rfl) (hwi hw 2 rfl) e0 (g := (mkF m 0 #[.val (.long q0), .second, .val (.long q1), .second, .val (.long q2), .second, .val (.long q3), .second, .val (.long q4), .second, .val (.long q5), .second, .unset] [])) rfl (hb hby at_0) (by decide) (by decide)
  obtain ⟨b1, g1⟩ : ∃ z, z = h0.size := ⟨_, rfl⟩
  rw [← g1] at A1 D1 st1
  have sz_b1 : h0.size ≤ b1 := Nat.le_trans (Keep.refl h0 []).1 (Nat.le_of_eq g1.symm)
  have g_b1 : n0 ≤ b1 := Nat.le_trans Z0 sz_b1
  have K1 : Keep h0 h1 [] := (Keep.refl h0 []).ext E1
  have F_granted_b1 : Fld Z h1 b1 "com/example/vestry/vestry/Position" "granted" "J" (.long 0) := D1 (Or.inr (hwi hw 10 rfl)) (ty := .long) (by decide)
  have F_exercised_b1 : Fld Z h1 b1 "com/example/vestry/vestry/Position" "exercised" "J" (.long 0) := D1 (Or.inr (hwi hw 12 rfl)) (ty := .long) (by decide)
  have F_exercisable_b1 : Fld Z h1 b1 "com/example/vestry/vestry/Position" "exercisable" "J" (.long 0) := D1 (Or.inr (hwi hw 14 rfl)) (ty := .long) (by decide)
  have F_unvested_b1 : Fld Z h1 b1 "com/example/vestry/vestry/Position" "unvested" "J" (.long 0) := D1 (Or.inr (hwi hw 16 rfl)) (ty := .long) (by decide)
  have F_forfeited_b1 : Fld Z h1 b1 "com/example/vestry/vestry/Position" "forfeited" "J" (.long 0) := D1 (Or.inr (hwi hw 18 rfl)) (ty := .long) (by decide)
  have F_tandem_b1 : Fld Z h1 b1 "com/example/vestry/vestry/Position" "tandem" "J" (.long 0) := D1 (Or.inr (hwi hw 20 rfl)) (ty := .long) (by decide)
  obtain ⟨_, _, ⟨T2, L2, k2, n2⟩, -, X2, ⟨Lc2, hQ2, l2, y2, z2⟩, st2⟩ := X1.specialBack hx (y := (⟨"com/example/vestry/vestry/Position", "<init>", "(JJJJJJ)V"⟩ : MethodName)) rfl hown (mvT hZ (hwi hw 3 rfl)) (mvT hZ (hwi hw 4 rfl)) (mvT hZ (hwi hw 5 rfl)) (by decide) (backOf (W := 1) (rmI l Z a0 hw [] b1 q0 q1 q2 q3 q4 q5 h1 n0 (Nat.le_trans Z0 K1.1) A1 g_b1 F_granted_b1 F_exercised_b1 F_exercisable_b1 F_unvested_b1 F_forfeited_b1 F_tandem_b1) hZ (hwi hw 5 rfl) (hwi hw 2 rfl) (by decide) (by decide)) (g := (mkF m 14 #[.val (.long q0), .second, .val (.long q1), .second, .val (.long q2), .second, .val (.long q3), .second, .val (.long q4), .second, .val (.long q5), .second, .unset] [(.long q5), (.long q4), (.long q3), (.long q2), (.long q1), (.long q0), (.ref b1), (.ref b1)])) rfl (by rw [hml]; rfl) (Steps.refl _) (a := b1) (argsL := [(.long q0), (.long q1), (.long q2), (.long q3), (.long q4), (.long q5)]) (rest := [(.ref b1)]) (lenOf pd_0 rfl) rfl (by show 2 * 0 + _ ≤ _; exact Nat.le_of_eq rfl) (hb hby at_14) (fun _ _ => ⟨rfl, e1, (by decide : 1 + 0 ≤ _), (by decide : 6 + 0 ≤ _)⟩)
  dsimp only [Pt.U, Pt.locs, Pt.cells, Pt.slots] at X2 l2 y2 z2 st2 hQ2
  subst l2 y2 z2
  obtain ⟨rfl, N2q, kc2, -, Fc2_0, Fc2_1, Fc2_2, Fc2_3, Fc2_4, Fc2_5⟩ := hQ2
  have N2 := Fr.app N0 N2q
  have f3 := A1.keep kc2
  have K10 : Keep h0 T2.heap [] := K1.trans kc2 (allS (Or.inr sz_b1) all0)
  obtain ⟨T11, X11, e11, st11⟩ := getS2 X2 hx hZ hown (host := "") (Or.inl (hwi hw 21 rfl)) Via.refl rfl (S_GRANTED.ext (own_ext K10)) (g := (mkF m 19 #[.val (.long q0), .second, .val (.long q1), .second, .val (.long q2), .second, .val (.long q3), .second, .val (.long q4), .second, .val (.long q5), .second, rv b1] [])) rfl (hb hby at_19)
  obtain ⟨cq12, kq12, q12a, q12b, q12c⟩ := isOf hZ e11 (E_GRANTED.ext (own_ext K10))
  obtain ⟨_, _, ⟨T12, L12, k12, n12⟩, -, X12, ⟨Lc12, hQ12, l12, y12, z12⟩, st12⟩ := X11.virtualBack hx (y := (⟨"com/example/vestry/vestry/Position$Count", "in", "(Lcom/example/vestry/vestry/Position;)J"⟩ : MethodName)) (z := (⟨"com/example/vestry/vestry/Position$Count", "in", "(Lcom/example/vestry/vestry/Position;)J"⟩ : MethodName)) hown (mvT hZ (hwi hw 24 rfl)) (mvT hZ (hwi hw 25 rfl)) (notFace_of_selects (args := #[]) (mvT hZ (hwi hw 27 rfl))) (mvT hZ (hwi hw 27 rfl)) (mvT hZ (hwi hw 26 rfl)) (by decide) (backOf (W := 0) (rmN0 l Z a0 hw [] w_GRANTED b1 q0 T2.heap n0 (Nat.le_trans Z0 K10.1) (E_GRANTED.ext (own_ext K10)) (F_GRANTED.ext (own_ext K10)) Fc2_0) hZ (hwi hw 28 rfl) (hwi hw 22 rfl) (by decide) (by decide)) q12a q12c (g := (mkF m 24 #[.val (.long q0), .second, .val (.long q1), .second, .val (.long q2), .second, .val (.long q3), .second, .val (.long q4), .second, .val (.long q5), .second, rv b1] [(.ref b1), (.ref w_GRANTED)])) rfl (by rw [hml]; rfl) (Steps.refl _) (argsL := [(.ref b1)]) (rest := []) (lenOf pd_2 rfl) rfl (by show 2 * 0 + _ ≤ _; exact Nat.le_of_eq rfl) (hb hby at_24) (fun _ _ => ⟨rfl, e11, (by decide : 1 + 0 ≤ _), (by decide : 6 + 0 ≤ _)⟩)
  dsimp only [Pt.U, Pt.locs, Pt.cells, Pt.slots] at X12 l12 y12 z12 st12 hQ12
  subst l12 y12 z12
  obtain ⟨rfl, N12q, e12q⟩ := hQ12
  have N12 := Fr.app N2 N12q
  obtain ⟨T13, X13, e13, st13⟩ := getS2 X12 hx hZ hown (host := "") (Or.inl (hwi hw 39 rfl)) Via.refl e12q (S_EXERCISED.ext (own_ext K10)) (g := (mkF m 32 #[.val (.long q0), .second, .val (.long q1), .second, .val (.long q2), .second, .val (.long q3), .second, .val (.long q4), .second, .val (.long q5), .second, rv b1] [])) rfl (hb hby at_32)
  obtain ⟨cq14, kq14, q14a, q14b, q14c⟩ := isOf hZ e13 (E_EXERCISED.ext (own_ext K10))
  obtain ⟨_, _, ⟨T14, L14, k14, n14⟩, -, X14, ⟨Lc14, hQ14, l14, y14, z14⟩, st14⟩ := X13.virtualBack hx (y := (⟨"com/example/vestry/vestry/Position$Count", "in", "(Lcom/example/vestry/vestry/Position;)J"⟩ : MethodName)) (z := (⟨"com/example/vestry/vestry/Position$Count", "in", "(Lcom/example/vestry/vestry/Position;)J"⟩ : MethodName)) hown (mvT hZ (hwi hw 24 rfl)) (mvT hZ (hwi hw 25 rfl)) (notFace_of_selects (args := #[]) (mvT hZ (hwi hw 27 rfl))) (mvT hZ (hwi hw 27 rfl)) (mvT hZ (hwi hw 26 rfl)) (by decide) (backOf (W := 0) (rmN1 l Z a0 hw [] w_EXERCISED b1 q1 T2.heap n0 (Nat.le_trans Z0 K10.1) (E_EXERCISED.ext (own_ext K10)) (F_EXERCISED.ext (own_ext K10)) Fc2_1) hZ (hwi hw 28 rfl) (hwi hw 22 rfl) (by decide) (by decide)) q14a q14c (g := (mkF m 37 #[.val (.long q0), .second, .val (.long q1), .second, .val (.long q2), .second, .val (.long q3), .second, .val (.long q4), .second, .val (.long q5), .second, rv b1] [(.ref b1), (.ref w_EXERCISED)])) rfl (by rw [hml]; rfl) (Steps.refl _) (argsL := [(.ref b1)]) (rest := []) (lenOf pd_2 rfl) rfl (by show 2 * 0 + _ ≤ _; exact Nat.le_of_eq rfl) (hb hby at_37) (fun _ _ => ⟨rfl, e13, (by decide : 1 + 0 ≤ _), (by decide : 6 + 0 ≤ _)⟩)
  dsimp only [Pt.U, Pt.locs, Pt.cells, Pt.slots] at X14 l14 y14 z14 st14 hQ14
  subst l14 y14 z14
  obtain ⟨rfl, N14q, e14q⟩ := hQ14
  have N14 := Fr.app N12 N14q
  obtain ⟨T15, X15, e15, st15⟩ := getS2 X14 hx hZ hown (host := "") (Or.inl (hwi hw 42 rfl)) Via.refl e14q (S_EXERCISABLE.ext (own_ext K10)) (g := (mkF m 45 #[.val (.long q0), .second, .val (.long q1), .second, .val (.long q2), .second, .val (.long q3), .second, .val (.long q4), .second, .val (.long q5), .second, rv b1] [])) rfl (hb hby at_45)
  obtain ⟨cq16, kq16, q16a, q16b, q16c⟩ := isOf hZ e15 (E_EXERCISABLE.ext (own_ext K10))
  obtain ⟨_, _, ⟨T16, L16, k16, n16⟩, -, X16, ⟨Lc16, hQ16, l16, y16, z16⟩, st16⟩ := X15.virtualBack hx (y := (⟨"com/example/vestry/vestry/Position$Count", "in", "(Lcom/example/vestry/vestry/Position;)J"⟩ : MethodName)) (z := (⟨"com/example/vestry/vestry/Position$Count", "in", "(Lcom/example/vestry/vestry/Position;)J"⟩ : MethodName)) hown (mvT hZ (hwi hw 24 rfl)) (mvT hZ (hwi hw 25 rfl)) (notFace_of_selects (args := #[]) (mvT hZ (hwi hw 27 rfl))) (mvT hZ (hwi hw 27 rfl)) (mvT hZ (hwi hw 26 rfl)) (by decide) (backOf (W := 0) (rmN2 l Z a0 hw [] w_EXERCISABLE b1 q2 T2.heap n0 (Nat.le_trans Z0 K10.1) (E_EXERCISABLE.ext (own_ext K10)) (F_EXERCISABLE.ext (own_ext K10)) Fc2_2) hZ (hwi hw 28 rfl) (hwi hw 22 rfl) (by decide) (by decide)) q16a q16c (g := (mkF m 50 #[.val (.long q0), .second, .val (.long q1), .second, .val (.long q2), .second, .val (.long q3), .second, .val (.long q4), .second, .val (.long q5), .second, rv b1] [(.ref b1), (.ref w_EXERCISABLE)])) rfl (by rw [hml]; rfl) (Steps.refl _) (argsL := [(.ref b1)]) (rest := []) (lenOf pd_2 rfl) rfl (by show 2 * 0 + _ ≤ _; exact Nat.le_of_eq rfl) (hb hby at_50) (fun _ _ => ⟨rfl, e15, (by decide : 1 + 0 ≤ _), (by decide : 6 + 0 ≤ _)⟩)
  dsimp only [Pt.U, Pt.locs, Pt.cells, Pt.slots] at X16 l16 y16 z16 st16 hQ16
  subst l16 y16 z16
  obtain ⟨rfl, N16q, e16q⟩ := hQ16
  have N16 := Fr.app N14 N16q
  obtain ⟨T17, X17, e17, st17⟩ := getS2 X16 hx hZ hown (host := "") (Or.inl (hwi hw 45 rfl)) Via.refl e16q (S_UNVESTED.ext (own_ext K10)) (g := (mkF m 59 #[.val (.long q0), .second, .val (.long q1), .second, .val (.long q2), .second, .val (.long q3), .second, .val (.long q4), .second, .val (.long q5), .second, rv b1] [])) rfl (hb hby at_59)
  obtain ⟨cq18, kq18, q18a, q18b, q18c⟩ := isOf hZ e17 (E_UNVESTED.ext (own_ext K10))
  obtain ⟨_, _, ⟨T18, L18, k18, n18⟩, -, X18, ⟨Lc18, hQ18, l18, y18, z18⟩, st18⟩ := X17.virtualBack hx (y := (⟨"com/example/vestry/vestry/Position$Count", "in", "(Lcom/example/vestry/vestry/Position;)J"⟩ : MethodName)) (z := (⟨"com/example/vestry/vestry/Position$Count", "in", "(Lcom/example/vestry/vestry/Position;)J"⟩ : MethodName)) hown (mvT hZ (hwi hw 24 rfl)) (mvT hZ (hwi hw 25 rfl)) (notFace_of_selects (args := #[]) (mvT hZ (hwi hw 27 rfl))) (mvT hZ (hwi hw 27 rfl)) (mvT hZ (hwi hw 26 rfl)) (by decide) (backOf (W := 0) (rmN3 l Z a0 hw [] w_UNVESTED b1 q3 T2.heap n0 (Nat.le_trans Z0 K10.1) (E_UNVESTED.ext (own_ext K10)) (F_UNVESTED.ext (own_ext K10)) Fc2_3) hZ (hwi hw 28 rfl) (hwi hw 22 rfl) (by decide) (by decide)) q18a q18c (g := (mkF m 64 #[.val (.long q0), .second, .val (.long q1), .second, .val (.long q2), .second, .val (.long q3), .second, .val (.long q4), .second, .val (.long q5), .second, rv b1] [(.ref b1), (.ref w_UNVESTED)])) rfl (by rw [hml]; rfl) (Steps.refl _) (argsL := [(.ref b1)]) (rest := []) (lenOf pd_2 rfl) rfl (by show 2 * 0 + _ ≤ _; exact Nat.le_of_eq rfl) (hb hby at_64) (fun _ _ => ⟨rfl, e17, (by decide : 1 + 0 ≤ _), (by decide : 6 + 0 ≤ _)⟩)
  dsimp only [Pt.U, Pt.locs, Pt.cells, Pt.slots] at X18 l18 y18 z18 st18 hQ18
  subst l18 y18 z18
  obtain ⟨rfl, N18q, e18q⟩ := hQ18
  have N18 := Fr.app N16 N18q
  obtain ⟨T19, X19, e19, st19⟩ := getS2 X18 hx hZ hown (host := "") (Or.inl (hwi hw 48 rfl)) Via.refl e18q (S_FORFEITED.ext (own_ext K10)) (g := (mkF m 73 #[.val (.long q0), .second, .val (.long q1), .second, .val (.long q2), .second, .val (.long q3), .second, .val (.long q4), .second, .val (.long q5), .second, rv b1] [])) rfl (hb hby at_73)
  obtain ⟨cq20, kq20, q20a, q20b, q20c⟩ := isOf hZ e19 (E_FORFEITED.ext (own_ext K10))
  obtain ⟨_, _, ⟨T20, L20, k20, n20⟩, -, X20, ⟨Lc20, hQ20, l20, y20, z20⟩, st20⟩ := X19.virtualBack hx (y := (⟨"com/example/vestry/vestry/Position$Count", "in", "(Lcom/example/vestry/vestry/Position;)J"⟩ : MethodName)) (z := (⟨"com/example/vestry/vestry/Position$Count", "in", "(Lcom/example/vestry/vestry/Position;)J"⟩ : MethodName)) hown (mvT hZ (hwi hw 24 rfl)) (mvT hZ (hwi hw 25 rfl)) (notFace_of_selects (args := #[]) (mvT hZ (hwi hw 27 rfl))) (mvT hZ (hwi hw 27 rfl)) (mvT hZ (hwi hw 26 rfl)) (by decide) (backOf (W := 0) (rmN4 l Z a0 hw [] w_FORFEITED b1 q4 T2.heap n0 (Nat.le_trans Z0 K10.1) (E_FORFEITED.ext (own_ext K10)) (F_FORFEITED.ext (own_ext K10)) Fc2_4) hZ (hwi hw 28 rfl) (hwi hw 22 rfl) (by decide) (by decide)) q20a q20c (g := (mkF m 78 #[.val (.long q0), .second, .val (.long q1), .second, .val (.long q2), .second, .val (.long q3), .second, .val (.long q4), .second, .val (.long q5), .second, rv b1] [(.ref b1), (.ref w_FORFEITED)])) rfl (by rw [hml]; rfl) (Steps.refl _) (argsL := [(.ref b1)]) (rest := []) (lenOf pd_2 rfl) rfl (by show 2 * 0 + _ ≤ _; exact Nat.le_of_eq rfl) (hb hby at_78) (fun _ _ => ⟨rfl, e19, (by decide : 1 + 0 ≤ _), (by decide : 6 + 0 ≤ _)⟩)
  dsimp only [Pt.U, Pt.locs, Pt.cells, Pt.slots] at X20 l20 y20 z20 st20 hQ20
  subst l20 y20 z20
  obtain ⟨rfl, N20q, e20q⟩ := hQ20
  have N20 := Fr.app N18 N20q
  obtain ⟨T21, X21, e21, st21⟩ := getS2 X20 hx hZ hown (host := "") (Or.inl (hwi hw 51 rfl)) Via.refl e20q (S_TANDEM.ext (own_ext K10)) (g := (mkF m 87 #[.val (.long q0), .second, .val (.long q1), .second, .val (.long q2), .second, .val (.long q3), .second, .val (.long q4), .second, .val (.long q5), .second, rv b1] [])) rfl (hb hby at_87)
  obtain ⟨cq22, kq22, q22a, q22b, q22c⟩ := isOf hZ e21 (E_TANDEM.ext (own_ext K10))
  obtain ⟨_, _, ⟨T22, L22, k22, n22⟩, -, X22, ⟨Lc22, hQ22, l22, y22, z22⟩, st22⟩ := X21.virtualBack hx (y := (⟨"com/example/vestry/vestry/Position$Count", "in", "(Lcom/example/vestry/vestry/Position;)J"⟩ : MethodName)) (z := (⟨"com/example/vestry/vestry/Position$Count", "in", "(Lcom/example/vestry/vestry/Position;)J"⟩ : MethodName)) hown (mvT hZ (hwi hw 24 rfl)) (mvT hZ (hwi hw 25 rfl)) (notFace_of_selects (args := #[]) (mvT hZ (hwi hw 27 rfl))) (mvT hZ (hwi hw 27 rfl)) (mvT hZ (hwi hw 26 rfl)) (by decide) (backOf (W := 0) (rmN5 l Z a0 hw [] w_TANDEM b1 q5 T2.heap n0 (Nat.le_trans Z0 K10.1) (E_TANDEM.ext (own_ext K10)) (F_TANDEM.ext (own_ext K10)) Fc2_5) hZ (hwi hw 28 rfl) (hwi hw 22 rfl) (by decide) (by decide)) q22a q22c (g := (mkF m 92 #[.val (.long q0), .second, .val (.long q1), .second, .val (.long q2), .second, .val (.long q3), .second, .val (.long q4), .second, .val (.long q5), .second, rv b1] [(.ref b1), (.ref w_TANDEM)])) rfl (by rw [hml]; rfl) (Steps.refl _) (argsL := [(.ref b1)]) (rest := []) (lenOf pd_2 rfl) rfl (by show 2 * 0 + _ ≤ _; exact Nat.le_of_eq rfl) (hb hby at_92) (fun _ _ => ⟨rfl, e21, (by decide : 1 + 0 ≤ _), (by decide : 6 + 0 ≤ _)⟩)
  dsimp only [Pt.U, Pt.locs, Pt.cells, Pt.slots] at X22 l22 y22 z22 st22 hQ22
  subst l22 y22 z22
  obtain ⟨rfl, N22q, e22q⟩ := hQ22
  have N22 := Fr.app N20 N22q
  have pre23 : ∀ t_, Go p e below T22 (mkF m 106 #[.val (.long q0), .second, .val (.long q1), .second, .val (.long q2), .second, .val (.long q3), .second, .val (.long q4), .second, .val (.long q5), .second, rv b1] [(.int 1)]) t_ → Go p e below s₁ (entryFrame m #[(.long q0), (.long q1), (.long q2), (.long q3), (.long q4), (.long q5)] maxLocals) t_ := fun t_ kt => pre0 _ (by
      show Go p e below s₁ (mkF m 0 #[.val (.long q0), .second, .val (.long q1), .second, .val (.long q2), .second, .val (.long q3), .second, .val (.long q4), .second, .val (.long q5), .second, .unset] []) _
      refine st1 _ ?_
      show Go p e below T1 (mkF m 3 #[.val (.long q0), .second, .val (.long q1), .second, .val (.long q2), .second, .val (.long q3), .second, .val (.long q4), .second, .val (.long q5), .second, .unset] [(.ref b1)]) _
      refine XS.dup X1.here hx rfl (hb hby at_3) rfl rfl ?_
      show Go p e below T1 (mkF m 4 #[.val (.long q0), .second, .val (.long q1), .second, .val (.long q2), .second, .val (.long q3), .second, .val (.long q4), .second, .val (.long q5), .second, .unset] [(.ref b1), (.ref b1)]) _
      refine XS.lloadN X1.here hx rfl (hb hby at_4) rfl ?_
      show Go p e below T1 (mkF m 5 #[.val (.long q0), .second, .val (.long q1), .second, .val (.long q2), .second, .val (.long q3), .second, .val (.long q4), .second, .val (.long q5), .second, .unset] [(.long q0), (.ref b1), (.ref b1)]) _
      refine XS.lloadN X1.here hx rfl (hb hby at_5) rfl ?_
      show Go p e below T1 (mkF m 6 #[.val (.long q0), .second, .val (.long q1), .second, .val (.long q2), .second, .val (.long q3), .second, .val (.long q4), .second, .val (.long q5), .second, .unset] [(.long q1), (.long q0), (.ref b1), (.ref b1)]) _
      refine XS.lload X1.here hx rfl (hb hby at_6) rfl ?_
      show Go p e below T1 (mkF m 8 #[.val (.long q0), .second, .val (.long q1), .second, .val (.long q2), .second, .val (.long q3), .second, .val (.long q4), .second, .val (.long q5), .second, .unset] [(.long q2), (.long q1), (.long q0), (.ref b1), (.ref b1)]) _
      refine XS.lload X1.here hx rfl (hb hby at_8) rfl ?_
      show Go p e below T1 (mkF m 10 #[.val (.long q0), .second, .val (.long q1), .second, .val (.long q2), .second, .val (.long q3), .second, .val (.long q4), .second, .val (.long q5), .second, .unset] [(.long q3), (.long q2), (.long q1), (.long q0), (.ref b1), (.ref b1)]) _
      refine XS.lload X1.here hx rfl (hb hby at_10) rfl ?_
      show Go p e below T1 (mkF m 12 #[.val (.long q0), .second, .val (.long q1), .second, .val (.long q2), .second, .val (.long q3), .second, .val (.long q4), .second, .val (.long q5), .second, .unset] [(.long q4), (.long q3), (.long q2), (.long q1), (.long q0), (.ref b1), (.ref b1)]) _
      refine XS.lload X1.here hx rfl (hb hby at_12) rfl ?_
      show Go p e below T1 (mkF m 14 #[.val (.long q0), .second, .val (.long q1), .second, .val (.long q2), .second, .val (.long q3), .second, .val (.long q4), .second, .val (.long q5), .second, .unset] [(.long q5), (.long q4), (.long q3), (.long q2), (.long q1), (.long q0), (.ref b1), (.ref b1)]) _
      refine st2.trans ?_
      show Go p e below T2 (mkF m 17 #[.val (.long q0), .second, .val (.long q1), .second, .val (.long q2), .second, .val (.long q3), .second, .val (.long q4), .second, .val (.long q5), .second, .unset] [(.ref b1)]) _
      refine XS.astore X2.here hx rfl (hb hby at_17) rfl rfl (l' := #[.val (.long q0), .second, .val (.long q1), .second, .val (.long q2), .second, .val (.long q3), .second, .val (.long q4), .second, .val (.long q5), .second, rv b1]) rfl ?_
      show Go p e below T2 (mkF m 19 #[.val (.long q0), .second, .val (.long q1), .second, .val (.long q2), .second, .val (.long q3), .second, .val (.long q4), .second, .val (.long q5), .second, rv b1] []) _
      refine st11 _ ?_
      show Go p e below T11 (mkF m 22 #[.val (.long q0), .second, .val (.long q1), .second, .val (.long q2), .second, .val (.long q3), .second, .val (.long q4), .second, .val (.long q5), .second, rv b1] [(.ref w_GRANTED)]) _
      refine XS.aload X11.here hx rfl (hb hby at_22) rfl rfl ?_
      show Go p e below T11 (mkF m 24 #[.val (.long q0), .second, .val (.long q1), .second, .val (.long q2), .second, .val (.long q3), .second, .val (.long q4), .second, .val (.long q5), .second, rv b1] [(.ref b1), (.ref w_GRANTED)]) _
      refine st12.trans ?_
      show Go p e below T12 (mkF m 27 #[.val (.long q0), .second, .val (.long q1), .second, .val (.long q2), .second, .val (.long q3), .second, .val (.long q4), .second, .val (.long q5), .second, rv b1] [(.long q0)]) _
      refine XS.lloadN X12.here hx rfl (hb hby at_27) rfl ?_
      show Go p e below T12 (mkF m 28 #[.val (.long q0), .second, .val (.long q1), .second, .val (.long q2), .second, .val (.long q3), .second, .val (.long q4), .second, .val (.long q5), .second, rv b1] [(.long q0), (.long q0)]) _
      refine XS.lcmp X12.here hx rfl (hb hby at_28) rfl ?_
      show Go p e below T12 (mkF m 29 #[.val (.long q0), .second, .val (.long q1), .second, .val (.long q2), .second, .val (.long q3), .second, .val (.long q4), .second, .val (.long q5), .second, rv b1] [(.int (lcmpW q0 q0))]) _
      refine XS.ifNo X12.here hx rfl (hb hby at_29) rfl ((if0 _ _).trans (teq ((lw_eq _ _).mpr rfl)).2) ?_
      show Go p e below T12 (mkF m 32 #[.val (.long q0), .second, .val (.long q1), .second, .val (.long q2), .second, .val (.long q3), .second, .val (.long q4), .second, .val (.long q5), .second, rv b1] []) _
      refine st13 _ ?_
      show Go p e below T13 (mkF m 35 #[.val (.long q0), .second, .val (.long q1), .second, .val (.long q2), .second, .val (.long q3), .second, .val (.long q4), .second, .val (.long q5), .second, rv b1] [(.ref w_EXERCISED)]) _
      refine XS.aload X13.here hx rfl (hb hby at_35) rfl rfl ?_
      show Go p e below T13 (mkF m 37 #[.val (.long q0), .second, .val (.long q1), .second, .val (.long q2), .second, .val (.long q3), .second, .val (.long q4), .second, .val (.long q5), .second, rv b1] [(.ref b1), (.ref w_EXERCISED)]) _
      refine st14.trans ?_
      show Go p e below T14 (mkF m 40 #[.val (.long q0), .second, .val (.long q1), .second, .val (.long q2), .second, .val (.long q3), .second, .val (.long q4), .second, .val (.long q5), .second, rv b1] [(.long q1)]) _
      refine XS.lloadN X14.here hx rfl (hb hby at_40) rfl ?_
      show Go p e below T14 (mkF m 41 #[.val (.long q0), .second, .val (.long q1), .second, .val (.long q2), .second, .val (.long q3), .second, .val (.long q4), .second, .val (.long q5), .second, rv b1] [(.long q1), (.long q1)]) _
      refine XS.lcmp X14.here hx rfl (hb hby at_41) rfl ?_
      show Go p e below T14 (mkF m 42 #[.val (.long q0), .second, .val (.long q1), .second, .val (.long q2), .second, .val (.long q3), .second, .val (.long q4), .second, .val (.long q5), .second, rv b1] [(.int (lcmpW q1 q1))]) _
      refine XS.ifNo X14.here hx rfl (hb hby at_42) rfl ((if0 _ _).trans (teq ((lw_eq _ _).mpr rfl)).2) ?_
      show Go p e below T14 (mkF m 45 #[.val (.long q0), .second, .val (.long q1), .second, .val (.long q2), .second, .val (.long q3), .second, .val (.long q4), .second, .val (.long q5), .second, rv b1] []) _
      refine st15 _ ?_
      show Go p e below T15 (mkF m 48 #[.val (.long q0), .second, .val (.long q1), .second, .val (.long q2), .second, .val (.long q3), .second, .val (.long q4), .second, .val (.long q5), .second, rv b1] [(.ref w_EXERCISABLE)]) _
      refine XS.aload X15.here hx rfl (hb hby at_48) rfl rfl ?_
      show Go p e below T15 (mkF m 50 #[.val (.long q0), .second, .val (.long q1), .second, .val (.long q2), .second, .val (.long q3), .second, .val (.long q4), .second, .val (.long q5), .second, rv b1] [(.ref b1), (.ref w_EXERCISABLE)]) _
      refine st16.trans ?_
      show Go p e below T16 (mkF m 53 #[.val (.long q0), .second, .val (.long q1), .second, .val (.long q2), .second, .val (.long q3), .second, .val (.long q4), .second, .val (.long q5), .second, rv b1] [(.long q2)]) _
      refine XS.lload X16.here hx rfl (hb hby at_53) rfl ?_
      show Go p e below T16 (mkF m 55 #[.val (.long q0), .second, .val (.long q1), .second, .val (.long q2), .second, .val (.long q3), .second, .val (.long q4), .second, .val (.long q5), .second, rv b1] [(.long q2), (.long q2)]) _
      refine XS.lcmp X16.here hx rfl (hb hby at_55) rfl ?_
      show Go p e below T16 (mkF m 56 #[.val (.long q0), .second, .val (.long q1), .second, .val (.long q2), .second, .val (.long q3), .second, .val (.long q4), .second, .val (.long q5), .second, rv b1] [(.int (lcmpW q2 q2))]) _
      refine XS.ifNo X16.here hx rfl (hb hby at_56) rfl ((if0 _ _).trans (teq ((lw_eq _ _).mpr rfl)).2) ?_
      show Go p e below T16 (mkF m 59 #[.val (.long q0), .second, .val (.long q1), .second, .val (.long q2), .second, .val (.long q3), .second, .val (.long q4), .second, .val (.long q5), .second, rv b1] []) _
      refine st17 _ ?_
      show Go p e below T17 (mkF m 62 #[.val (.long q0), .second, .val (.long q1), .second, .val (.long q2), .second, .val (.long q3), .second, .val (.long q4), .second, .val (.long q5), .second, rv b1] [(.ref w_UNVESTED)]) _
      refine XS.aload X17.here hx rfl (hb hby at_62) rfl rfl ?_
      show Go p e below T17 (mkF m 64 #[.val (.long q0), .second, .val (.long q1), .second, .val (.long q2), .second, .val (.long q3), .second, .val (.long q4), .second, .val (.long q5), .second, rv b1] [(.ref b1), (.ref w_UNVESTED)]) _
      refine st18.trans ?_
      show Go p e below T18 (mkF m 67 #[.val (.long q0), .second, .val (.long q1), .second, .val (.long q2), .second, .val (.long q3), .second, .val (.long q4), .second, .val (.long q5), .second, rv b1] [(.long q3)]) _
      refine XS.lload X18.here hx rfl (hb hby at_67) rfl ?_
      show Go p e below T18 (mkF m 69 #[.val (.long q0), .second, .val (.long q1), .second, .val (.long q2), .second, .val (.long q3), .second, .val (.long q4), .second, .val (.long q5), .second, rv b1] [(.long q3), (.long q3)]) _
      refine XS.lcmp X18.here hx rfl (hb hby at_69) rfl ?_
      show Go p e below T18 (mkF m 70 #[.val (.long q0), .second, .val (.long q1), .second, .val (.long q2), .second, .val (.long q3), .second, .val (.long q4), .second, .val (.long q5), .second, rv b1] [(.int (lcmpW q3 q3))]) _
      refine XS.ifNo X18.here hx rfl (hb hby at_70) rfl ((if0 _ _).trans (teq ((lw_eq _ _).mpr rfl)).2) ?_
      show Go p e below T18 (mkF m 73 #[.val (.long q0), .second, .val (.long q1), .second, .val (.long q2), .second, .val (.long q3), .second, .val (.long q4), .second, .val (.long q5), .second, rv b1] []) _
      refine st19 _ ?_
      show Go p e below T19 (mkF m 76 #[.val (.long q0), .second, .val (.long q1), .second, .val (.long q2), .second, .val (.long q3), .second, .val (.long q4), .second, .val (.long q5), .second, rv b1] [(.ref w_FORFEITED)]) _
      refine XS.aload X19.here hx rfl (hb hby at_76) rfl rfl ?_
      show Go p e below T19 (mkF m 78 #[.val (.long q0), .second, .val (.long q1), .second, .val (.long q2), .second, .val (.long q3), .second, .val (.long q4), .second, .val (.long q5), .second, rv b1] [(.ref b1), (.ref w_FORFEITED)]) _
      refine st20.trans ?_
      show Go p e below T20 (mkF m 81 #[.val (.long q0), .second, .val (.long q1), .second, .val (.long q2), .second, .val (.long q3), .second, .val (.long q4), .second, .val (.long q5), .second, rv b1] [(.long q4)]) _
      refine XS.lload X20.here hx rfl (hb hby at_81) rfl ?_
      show Go p e below T20 (mkF m 83 #[.val (.long q0), .second, .val (.long q1), .second, .val (.long q2), .second, .val (.long q3), .second, .val (.long q4), .second, .val (.long q5), .second, rv b1] [(.long q4), (.long q4)]) _
      refine XS.lcmp X20.here hx rfl (hb hby at_83) rfl ?_
      show Go p e below T20 (mkF m 84 #[.val (.long q0), .second, .val (.long q1), .second, .val (.long q2), .second, .val (.long q3), .second, .val (.long q4), .second, .val (.long q5), .second, rv b1] [(.int (lcmpW q4 q4))]) _
      refine XS.ifNo X20.here hx rfl (hb hby at_84) rfl ((if0 _ _).trans (teq ((lw_eq _ _).mpr rfl)).2) ?_
      show Go p e below T20 (mkF m 87 #[.val (.long q0), .second, .val (.long q1), .second, .val (.long q2), .second, .val (.long q3), .second, .val (.long q4), .second, .val (.long q5), .second, rv b1] []) _
      refine st21 _ ?_
      show Go p e below T21 (mkF m 90 #[.val (.long q0), .second, .val (.long q1), .second, .val (.long q2), .second, .val (.long q3), .second, .val (.long q4), .second, .val (.long q5), .second, rv b1] [(.ref w_TANDEM)]) _
      refine XS.aload X21.here hx rfl (hb hby at_90) rfl rfl ?_
      show Go p e below T21 (mkF m 92 #[.val (.long q0), .second, .val (.long q1), .second, .val (.long q2), .second, .val (.long q3), .second, .val (.long q4), .second, .val (.long q5), .second, rv b1] [(.ref b1), (.ref w_TANDEM)]) _
      refine st22.trans ?_
      show Go p e below T22 (mkF m 95 #[.val (.long q0), .second, .val (.long q1), .second, .val (.long q2), .second, .val (.long q3), .second, .val (.long q4), .second, .val (.long q5), .second, rv b1] [(.long q5)]) _
      refine XS.lload X22.here hx rfl (hb hby at_95) rfl ?_
      show Go p e below T22 (mkF m 97 #[.val (.long q0), .second, .val (.long q1), .second, .val (.long q2), .second, .val (.long q3), .second, .val (.long q4), .second, .val (.long q5), .second, rv b1] [(.long q5), (.long q5)]) _
      refine XS.lcmp X22.here hx rfl (hb hby at_97) rfl ?_
      show Go p e below T22 (mkF m 98 #[.val (.long q0), .second, .val (.long q1), .second, .val (.long q2), .second, .val (.long q3), .second, .val (.long q4), .second, .val (.long q5), .second, rv b1] [(.int (lcmpW q5 q5))]) _
      refine XS.ifNo X22.here hx rfl (hb hby at_98) rfl ((if0 _ _).trans (teq ((lw_eq _ _).mpr rfl)).2) ?_
      show Go p e below T22 (mkF m 101 #[.val (.long q0), .second, .val (.long q1), .second, .val (.long q2), .second, .val (.long q3), .second, .val (.long q4), .second, .val (.long q5), .second, rv b1] []) _
      refine XS.iconst X22.here hx rfl (hb hby at_101) ?_
      show Go p e below T22 (mkF m 102 #[.val (.long q0), .second, .val (.long q1), .second, .val (.long q2), .second, .val (.long q3), .second, .val (.long q4), .second, .val (.long q5), .second, rv b1] [(.int 1)]) _
      refine XS.goto X22.here hx rfl (pc0 := 102) (pc' := 106) rfl (hb hby at_102) (by decide) (by decide) ?_
      show Go p e below T22 (mkF m 106 #[.val (.long q0), .second, .val (.long q1), .second, .val (.long q2), .second, .val (.long q3), .second, .val (.long q4), .second, .val (.long q5), .second, rv b1] [(.int 1)]) _
      exact kt)
  obtain ⟨fs, hr, hrun, hended, hW, hsame⟩ := X22.leave (v := some (.int 1)) (fun h => by rw [Bd.returns] at h; cases h)
  refine ⟨_, _, pre23 _ ?_, hrun, hended, _, _, rfl, ?_, ⟨_, rfl⟩, hW, hsame.mono (by decide) (by decide)⟩
  · show Steps p.tables e below (T22.setTop (mkF m 106 #[.val (.long q0), .second, .val (.long q1), .second, .val (.long q2), .second, .val (.long q3), .second, .val (.long q4), .second, .val (.long q5), .second, rv b1] [(.int 1)])) _
    exact retN X22 hx (t := .boolean) Bd.returns (by simp) (hb hby at_106) hr
  · show Q_rmL Z q0 q1 q2 q3 q4 q5 w_GRANTED w_EXERCISED w_EXERCISABLE w_UNVESTED w_FORFEITED w_TANDEM h0 n0 _ T22.heap _
    rw [e22q]
    exact ⟨rfl, N22⟩
set_option maxRecDepth 65536 in
set_option maxHeartbeats 40000000 in
theorem comes_1 {Post : Tables → Env → Array Value → State → Outcome → State → Prop} (hpost : ∀ tb e args s v u, (limb_1_1.after args s (.returned v) u = true ∧ limb_1_2.after args s (.returned v) u = true ∧ True) → FrameEnd s (.returned v) u (Jvm.fieldLocs frame_1_writes args s ++ Jvm.arrayLocs frame_1_arrays args s ++ Jvm.staticLocs frame_1_statics s) 16 128 → Post tb e args s (.returned v) u) :
    ArmFor flags0 classFile x code maxLocals ret World_1 tables_1 room_1 Calls_1 rest_1 Pre_1 Post := by
  intro l hfl _ _ p e ha hc hk s m args below hf hA hF happ hP
  obtain ⟨hcalls, hrest, hpre⟩ := hP
  obtain ⟨-, -, -, hnamed, -, -, -, hat⟩ := (Spec.applies_iff hf).mp happ
  obtain ⟨hg, hn⟩ := and_e (Cond.before_iff.mp (show (Jvm.Cond.and given_1 narrow_1).before args s = true from hpre))
  obtain ⟨g1, g2⟩ := and_e hg
  obtain ⟨g3, g4⟩ := and_e g2
  obtain ⟨g5, g6⟩ := and_e g4
  obtain ⟨g7, g8⟩ := and_e g6
  obtain ⟨g9, g10⟩ := and_e g8
  obtain ⟨g11, g12⟩ := and_e g10
  obtain ⟨w0, w1, w2, w3, w4, w5, rfl⟩ : ∃ w0 w1 w2 w3 w4 w5 : Value, args = #[w0, w1, w2, w3, w4, w5] := by
    have hs : args.size = 6 := by simpa [Cond.value, given_1] using g1
    obtain ⟨L⟩ := args
    match L, hs with
    | [w0, w1, w2, w3, w4, w5], _ => exact ⟨w0, w1, w2, w3, w4, w5, rfl⟩
  have hw := fun d (hd : d ∈ tables_1) => atoms_spec (ws := Jvm.Cond.code x code maxLocals ret :: tables_1) hat d (List.mem_cons_of_mem _ hd)
  have hfit : Fit s := fun {y c} hc i hi => by
    obtain ⟨ha, rfl⟩ := Array.getElem?_eq_some_iff.mp hc
    have q := List.all_eq_true.mp ((Array.all_eq_true_iff_forall_mem.mp hF) _ (Array.getElem_mem ha)) i (List.mem_range.mpr hi)
    simpa [Array.getElem?_eq_getElem hi] using q
  obtain ⟨i0, ei0⟩ := isL_v g3
  obtain rfl : w0 = (.long i0) := Option.some.inj ei0
  obtain ⟨i1, ei1⟩ := isL_v g5
  obtain rfl : w1 = (.long i1) := Option.some.inj ei1
  obtain ⟨i2, ei2⟩ := isL_v g7
  obtain rfl : w2 = (.long i2) := Option.some.inj ei2
  obtain ⟨i3, ei3⟩ := isL_v g9
  obtain rfl : w3 = (.long i3) := Option.some.inj ei3
  obtain ⟨i4, ei4⟩ := isL_v g11
  obtain rfl : w4 = (.long i4) := Option.some.inj ei4
  obtain ⟨i5, ei5⟩ := isL_v g12
  obtain rfl : w5 = (.long i5) := Option.some.inj ei5
  obtain ⟨g13, g14⟩ := and_e hn
  obtain ⟨g15, g16⟩ := and_e g14
  obtain ⟨g17, g18⟩ := and_e g16
  obtain ⟨g19, g20⟩ := and_e g18
  obtain ⟨g21, g22⟩ := and_e g20
  obtain ⟨g23, g24⟩ := and_e g22
  obtain ⟨g25, g26⟩ := and_e g24
  obtain ⟨g27, g28⟩ := and_e g26
  obtain ⟨g29, g30⟩ := and_e g28
  obtain ⟨g31, g32⟩ := and_e g30
  obtain ⟨g33, g34⟩ := and_e g32
  obtain ⟨w_GRANTED, ev_GRANTED⟩ := exa_v g13
  have E_GRANTED : Exa s s.heap w_GRANTED "com/example/vestry/vestry/Position$Count" := Exa.start ev_GRANTED g13
  have S_GRANTED : Sta s s.heap "com/example/vestry/vestry/Position$Count" "GRANTED" "Lcom/example/vestry/vestry/Position$Count;" (.ref w_GRANTED) := Sta.start ev_GRANTED (Or.inr ⟨(hwi hw 22 rfl), (hwi hw 23 rfl)⟩)
  obtain ⟨w_EXERCISED, ev_EXERCISED⟩ := exa_v g17
  have E_EXERCISED : Exa s s.heap w_EXERCISED "com/example/vestry/vestry/Position$Count" := Exa.start ev_EXERCISED g17
  have S_EXERCISED : Sta s s.heap "com/example/vestry/vestry/Position$Count" "EXERCISED" "Lcom/example/vestry/vestry/Position$Count;" (.ref w_EXERCISED) := Sta.start ev_EXERCISED (Or.inr ⟨(hwi hw 22 rfl), (hwi hw 40 rfl)⟩)
  obtain ⟨w_EXERCISABLE, ev_EXERCISABLE⟩ := exa_v g21
  have E_EXERCISABLE : Exa s s.heap w_EXERCISABLE "com/example/vestry/vestry/Position$Count" := Exa.start ev_EXERCISABLE g21
  have S_EXERCISABLE : Sta s s.heap "com/example/vestry/vestry/Position$Count" "EXERCISABLE" "Lcom/example/vestry/vestry/Position$Count;" (.ref w_EXERCISABLE) := Sta.start ev_EXERCISABLE (Or.inr ⟨(hwi hw 22 rfl), (hwi hw 43 rfl)⟩)
  obtain ⟨w_UNVESTED, ev_UNVESTED⟩ := exa_v g25
  have E_UNVESTED : Exa s s.heap w_UNVESTED "com/example/vestry/vestry/Position$Count" := Exa.start ev_UNVESTED g25
  have S_UNVESTED : Sta s s.heap "com/example/vestry/vestry/Position$Count" "UNVESTED" "Lcom/example/vestry/vestry/Position$Count;" (.ref w_UNVESTED) := Sta.start ev_UNVESTED (Or.inr ⟨(hwi hw 22 rfl), (hwi hw 46 rfl)⟩)
  obtain ⟨w_FORFEITED, ev_FORFEITED⟩ := exa_v g29
  have E_FORFEITED : Exa s s.heap w_FORFEITED "com/example/vestry/vestry/Position$Count" := Exa.start ev_FORFEITED g29
  have S_FORFEITED : Sta s s.heap "com/example/vestry/vestry/Position$Count" "FORFEITED" "Lcom/example/vestry/vestry/Position$Count;" (.ref w_FORFEITED) := Sta.start ev_FORFEITED (Or.inr ⟨(hwi hw 22 rfl), (hwi hw 49 rfl)⟩)
  obtain ⟨w_TANDEM, ev_TANDEM⟩ := exa_v g33
  have E_TANDEM : Exa s s.heap w_TANDEM "com/example/vestry/vestry/Position$Count" := Exa.start ev_TANDEM g33
  have S_TANDEM : Sta s s.heap "com/example/vestry/vestry/Position$Count" "TANDEM" "Lcom/example/vestry/vestry/Position$Count;" (.ref w_TANDEM) := Sta.start ev_TANDEM (Or.inr ⟨(hwi hw 22 rfl), (hwi hw 52 rfl)⟩)
  have F_GRANTED : Fld s s.heap w_GRANTED "java/lang/Enum" "ordinal" "I" (.int (0 : Int32)) := Fld.start ((fld_at ev_GRANTED).symm.trans (eqv_i (Term.int_eval _) g15))
  have F_EXERCISED : Fld s s.heap w_EXERCISED "java/lang/Enum" "ordinal" "I" (.int (1 : Int32)) := Fld.start ((fld_at ev_EXERCISED).symm.trans (eqv_i (Term.int_eval _) g19))
  have F_EXERCISABLE : Fld s s.heap w_EXERCISABLE "java/lang/Enum" "ordinal" "I" (.int (2 : Int32)) := Fld.start ((fld_at ev_EXERCISABLE).symm.trans (eqv_i (Term.int_eval _) g23))
  have F_UNVESTED : Fld s s.heap w_UNVESTED "java/lang/Enum" "ordinal" "I" (.int (3 : Int32)) := Fld.start ((fld_at ev_UNVESTED).symm.trans (eqv_i (Term.int_eval _) g27))
  have F_FORFEITED : Fld s s.heap w_FORFEITED "java/lang/Enum" "ordinal" "I" (.int (4 : Int32)) := Fld.start ((fld_at ev_FORFEITED).symm.trans (eqv_i (Term.int_eval _) g31))
  have F_TANDEM : Fld s s.heap w_TANDEM "java/lang/Enum" "ordinal" "I" (.int (5 : Int32)) := Fld.start ((fld_at ev_TANDEM).symm.trans (eqv_i (Term.int_eval _) g34))
  obtain ⟨n, o, h1, h2, h3, _, L, rfl, ⟨rfl, N⟩, hq⟩ := rmL l s _ hw tables_1 i0 i1 i2 i3 i4 i5 w_GRANTED w_EXERCISED w_EXERCISABLE w_UNVESTED w_FORFEITED w_TANDEM s.heap s.heap.size (Nat.le_refl _) ⟨⟨S_GRANTED, E_GRANTED, F_GRANTED⟩, ⟨S_EXERCISED, E_EXERCISED, F_EXERCISED⟩, ⟨S_EXERCISABLE, E_EXERCISABLE, F_EXERCISABLE⟩, ⟨S_UNVESTED, E_UNVESTED, F_UNVESTED⟩, ⟨S_FORFEITED, E_FORFEITED, F_FORFEITED⟩, ⟨S_TANDEM, E_TANDEM, F_TANDEM⟩⟩ p e ha hc hk s m _ below hf ((Spec.applies_iff_loose hf).mp happ).1 ⟨rfl, State.Warmed39.refl s, rfl⟩ trivial
  refine ⟨n, _, h1, h2, h3, hpost _ _ _ _ _ _ ⟨Cond.after_iff.mpr rfl, Cond.after_iff.mpr (eq_i res_at (Term.int_eval (1)) rfl), trivial⟩ ⟨hq.1, hq.2.1, (hq.2.2.sift fun y hy => Or.inr (N y hy)).mono (by decide) (by decide)⟩⟩
theorem main_1_1 : Claimed_1_1 := comes_1 fun _ _ _ _ _ _ h hF => ⟨h.1, hF⟩
theorem main_1_2 : Claimed_1_2 := comes_1 fun _ _ _ _ _ _ h hF => ⟨h.2.1, hF⟩
end Jvm.Pilot.@@N@@
namespace Jvm.Pilot.@@N@@
open Jvm Jvm.ClassFile Sem Op Lib Jvm.Free Jvm.Stand Jvm.Pilot.@@N@@.Jvm.D
/-! MADE BY PROGRAM (witnessworld.py) out of the Statement's table words and the real class files: 13 classes; the members and pool entries that the words name. The judged class is class 1, her method 1. -/
namespace start1
open Jvm.ClassFile
def u (s : String) : CpInfo := .utf8 (stringToUtf16 s)
/-- a pool by its gaps: so many unusable entries, then the entry; so many at the end -/
def gap : Nat → List CpInfo → List CpInfo
  | 0, r => r
  | n + 1, r => .unusable :: gap n r
def poolList (es : List (Nat × CpInfo)) (last : Nat) : List CpInfo := es.foldr (fun e r => gap e.1 (e.2 :: r)) (gap last [])
def pool (es : List (Nat × CpInfo)) (last : Nat) : Array CpInfo := ⟨poolList es last⟩
def fileOf (pool : Array CpInfo) (this : Nat) (attrs : Array Attribute := #[]) (ms : Array MethodInfo := #[]) (fl : Nat := 33) (sup : Nat := 0) (ifs : Array Nat := #[]) (fds : Array FieldInfo := #[]) : ClassFile where
  minorVersion := 0
  majorVersion := 65
  constantPool := pool
  accessFlags := fl
  thisClass := this
  superClass := sup
  interfaces := ifs
  fields := fds
  methods := ms
  attributes := attrs
def plain (name : String) (sup : Option ClassId) : Class where
  name := name
  kind := .ordinary
  loader := none
  accessFlags := 33
  super := sup
  interfaces := #[]
  cf := none
  fields := #[]
  methods := #[]
  instanceTypes := #[]
  staticTypes := #[]
  resolved := #[]
  callSites := []
  init := .initialized
  statics := none
  mirror := none

def pool0 : Array CpInfo := pool [(5, u "<init>"), (0, u "()V"), (1, .class_ 10), (1, u "java/lang/Object")] 113

def k0c0 : Code := { maxStack := 0, maxLocals := 1, code := object_method_1_code, exceptionTable := #[], attributes := #[] }
def k0m0 : Method := { name := "<init>", desc := "()V", sig := { parameters := [], returnType := none }, accessFlags := 1, code := some k0c0 }
/-- java/lang/Object -/
def k0 : Class := { plain "java/lang/Object" none with
  accessFlags := 33
  interfaces := #[]
  cf := some (fileOf pool0 8 #[] #[{ accessFlags := 1, nameIndex := 5, descriptorIndex := 6, attributes := #[] }] 33 0 #[] #[])
  fields := #[]
  methods := #[k0m0]
  instanceTypes := #[]
  staticTypes := #[]
  resolved := Array.replicate 124 none
  statics := none }

def pool1 : Array CpInfo := pool [(2, .class_ 4), (1, u "java/lang/Object"), (0, u "<init>"), (0, u "()V"), (0, .class_ 8), (0, u "com/example/vestry/vestry/Position"), (0, .methodref 7 10), (0, .nameAndType 5 11), (0, u "(JJJJJJ)V"), (0, .fieldref 13 14), (0, .class_ 15), (0, .nameAndType 16 17), (0, u "com/example/vestry/vestry/Position$Count"), (0, u "GRANTED"), (0, u "Lcom/example/vestry/vestry/Position$Count;"), (0, .methodref 13 19), (0, .nameAndType 20 21), (0, u "in"), (0, u "(Lcom/example/vestry/vestry/Position;)J"), (0, .fieldref 13 23), (0, .nameAndType 24 17), (0, u "EXERCISED"), (0, .fieldref 13 26), (0, .nameAndType 27 17), (0, u "EXERCISABLE"), (0, .fieldref 13 29), (0, .nameAndType 30 17), (0, u "UNVESTED"), (0, .fieldref 13 32), (0, .nameAndType 33 17), (0, u "FORFEITED"), (0, .fieldref 13 35), (0, .nameAndType 36 17), (0, u "TANDEM"), (0, .class_ 38), (0, u "com/example/vestry/vestry/CountInPinLaw"), (2, u "law"), (0, u "(JJJJJJ)Z")] 5

def k1m0 : Method := { name := "<init>", desc := "()V", sig := { parameters := [], returnType := none }, accessFlags := 1, code := none }
def k1c1 : Code := { maxStack := 14, maxLocals := 13, code := code, exceptionTable := #[], attributes := #[] }
def k1m1 : Method := { name := "law", desc := "(JJJJJJ)Z", sig := { parameters := [.long, .long, .long, .long, .long, .long], returnType := some .boolean }, accessFlags := 9, code := some k1c1 }
/-- com/example/vestry/vestry/CountInPinLaw -/
def k1 : Class := { plain "com/example/vestry/vestry/CountInPinLaw" (some 0) with
  accessFlags := 49
  interfaces := #[]
  cf := some (fileOf pool1 37 #[] #[{ accessFlags := 1, nameIndex := 5, descriptorIndex := 6, attributes := #[] }, { accessFlags := 9, nameIndex := 41, descriptorIndex := 42, attributes := #[] }] 49 2 #[] #[])
  fields := #[]
  methods := #[k1m0, k1m1]
  instanceTypes := #[]
  staticTypes := #[]
  resolved := Array.replicate 48 none
  statics := none }

def pool2 : Array CpInfo := pool [(1, .methodref 2 3), (0, .class_ 4), (0, .nameAndType 5 6), (0, u "java/lang/Object"), (0, u "<init>"), (0, u "()V"), (0, .fieldref 8 9), (0, .class_ 10), (0, .nameAndType 11 12), (0, u "com/example/vestry/vestry/Position"), (0, u "granted"), (0, u "J"), (0, .fieldref 8 14), (0, .nameAndType 15 12), (0, u "exercised"), (0, .fieldref 8 17), (0, .nameAndType 18 12), (0, u "exercisable"), (0, .fieldref 8 20), (0, .nameAndType 21 12), (0, u "unvested"), (0, .fieldref 8 23), (0, .nameAndType 24 12), (0, u "forfeited"), (0, .fieldref 8 26), (0, .nameAndType 27 12), (0, u "tandem"), (0, u "(JJJJJJ)V"), (6, .class_ 36), (0, u "com/example/vestry/vestry/Position$Count")] 2

def k2c0 : Code := { maxStack := 3, maxLocals := 13, code := prog_17_method_1_code, exceptionTable := #[], attributes := #[] }
def k2m0 : Method := { name := "<init>", desc := "(JJJJJJ)V", sig := { parameters := [.long, .long, .long, .long, .long, .long], returnType := none }, accessFlags := 0, code := some k2c0 }
/-- com/example/vestry/vestry/Position -/
def k2 : Class := { plain "com/example/vestry/vestry/Position" (some 0) with
  accessFlags := 33
  interfaces := #[]
  cf := some (fileOf pool2 8 #[.nestMembers #[35]] #[{ accessFlags := 0, nameIndex := 5, descriptorIndex := 28, attributes := #[] }] 33 2 #[] #[{ accessFlags := 18, nameIndex := 11, descriptorIndex := 12, attributes := #[] }, { accessFlags := 18, nameIndex := 15, descriptorIndex := 12, attributes := #[] }, { accessFlags := 18, nameIndex := 18, descriptorIndex := 12, attributes := #[] }, { accessFlags := 18, nameIndex := 21, descriptorIndex := 12, attributes := #[] }, { accessFlags := 18, nameIndex := 24, descriptorIndex := 12, attributes := #[] }, { accessFlags := 18, nameIndex := 27, descriptorIndex := 12, attributes := #[] }])
  fields := #[{ name := "granted", type := .long, accessFlags := 18, slot := 0, constantValue := 0 }, { name := "exercised", type := .long, accessFlags := 18, slot := 1, constantValue := 0 }, { name := "exercisable", type := .long, accessFlags := 18, slot := 2, constantValue := 0 }, { name := "unvested", type := .long, accessFlags := 18, slot := 3, constantValue := 0 }, { name := "forfeited", type := .long, accessFlags := 18, slot := 4, constantValue := 0 }, { name := "tandem", type := .long, accessFlags := 18, slot := 5, constantValue := 0 }]
  methods := #[k2m0]
  instanceTypes := #[.long, .long, .long, .long, .long, .long]
  staticTypes := #[]
  resolved := Array.replicate 39 none
  statics := none }

def pool3 : Array CpInfo := pool [(1, .class_ 2), (0, u "java/lang/constant/Constable"), (0, .class_ 4), (0, u "java/lang/Object")] 6

/-- java/lang/constant/Constable -/
def k3 : Class := { plain "java/lang/constant/Constable" (some 0) with
  accessFlags := 1537
  interfaces := #[]
  cf := some (fileOf pool3 1 #[] #[] 1537 3 #[] #[])
  fields := #[]
  methods := #[]
  instanceTypes := #[]
  staticTypes := #[]
  resolved := Array.replicate 11 none
  statics := none }

def pool4 : Array CpInfo := pool [(1, .class_ 2), (0, u "java/lang/Comparable"), (0, .class_ 4), (0, u "java/lang/Object")] 7

/-- java/lang/Comparable -/
def k4 : Class := { plain "java/lang/Comparable" (some 0) with
  accessFlags := 1537
  interfaces := #[]
  cf := some (fileOf pool4 1 #[] #[] 1537 3 #[] #[])
  fields := #[]
  methods := #[]
  instanceTypes := #[]
  staticTypes := #[]
  resolved := Array.replicate 12 none
  statics := none }

def pool5 : Array CpInfo := pool [(1, .class_ 2), (0, u "java/io/Serializable"), (0, .class_ 4), (0, u "java/lang/Object")] 2

/-- java/io/Serializable -/
def k5 : Class := { plain "java/io/Serializable" (some 0) with
  accessFlags := 1537
  interfaces := #[]
  cf := some (fileOf pool5 1 #[] #[] 1537 3 #[] #[])
  fields := #[]
  methods := #[]
  instanceTypes := #[]
  staticTypes := #[]
  resolved := Array.replicate 7 none
  statics := none }

def pool6 : Array CpInfo := pool [(2, .class_ 4), (1, u "java/lang/Enum"), (0, u "name"), (0, u "Ljava/lang/String;"), (0, .fieldref 2 8), (0, .nameAndType 9 10), (0, u "ordinal"), (0, u "I"), (1, .class_ 14), (1, u "java/lang/Object"), (4, u "hash"), (86, .class_ 108), (1, u "java/lang/Enum$EnumDesc"), (2, .class_ 112), (0, u "java/lang/constant/Constable"), (0, .class_ 114), (0, u "java/lang/Comparable"), (0, .class_ 116), (0, u "java/io/Serializable"), (9, u "()I")] 77

def k6c0 : Code := { maxStack := 1, maxLocals := 1, code := jdk_37_method_2_code, exceptionTable := #[], attributes := #[] }
def k6m0 : Method := { name := "ordinal", desc := "()I", sig := { parameters := [], returnType := some .int }, accessFlags := 17, code := some k6c0 }
/-- java/lang/Enum -/
def k6 : Class := { plain "java/lang/Enum" (some 0) with
  accessFlags := 1057
  interfaces := #[3, 4, 5]
  cf := some (fileOf pool6 2 #[.nestMembers #[106]] #[{ accessFlags := 17, nameIndex := 9, descriptorIndex := 126, attributes := #[] }] 1057 12 #[111, 113, 115] #[{ accessFlags := 18, nameIndex := 5, descriptorIndex := 6, attributes := #[] }, { accessFlags := 18, nameIndex := 9, descriptorIndex := 10, attributes := #[] }, { accessFlags := 2, nameIndex := 19, descriptorIndex := 10, attributes := #[] }])
  fields := #[{ name := "name", type := (.object "java/lang/String"), accessFlags := 18, slot := 0, constantValue := 0 }, { name := "ordinal", type := .int, accessFlags := 18, slot := 1, constantValue := 0 }, { name := "hash", type := .int, accessFlags := 2, slot := 2, constantValue := 0 }]
  methods := #[k6m0]
  instanceTypes := #[(.object "java/lang/String"), .int, .int]
  staticTypes := #[]
  resolved := Array.replicate 204 none
  statics := none }

def pool7 : Array CpInfo := pool [(1, .class_ 2), (0, u "com/example/vestry/vestry/Position$Count"), (2, u "GRANTED"), (0, u "Lcom/example/vestry/vestry/Position$Count;"), (2, u "EXERCISED"), (2, u "EXERCISABLE"), (2, u "UNVESTED"), (2, u "FORFEITED"), (2, u "TANDEM"), (2, u "$VALUES"), (0, u "[Lcom/example/vestry/vestry/Position$Count;"), (6, .class_ 34), (1, u "java/lang/Enum"), (8, u "label"), (0, u "Ljava/lang/String;"), (23, .methodref 1 69), (0, .nameAndType 70 71), (0, u "ordinal"), (0, u "()I"), (5, .fieldref 78 79), (0, .class_ 80), (0, .nameAndType 81 82), (0, u "com/example/vestry/vestry/Position"), (0, u "granted"), (0, u "J"), (0, .fieldref 78 84), (0, .nameAndType 85 82), (0, u "exercised"), (0, .fieldref 78 87), (0, .nameAndType 88 82), (0, u "exercisable"), (0, .fieldref 78 90), (0, .nameAndType 91 82), (0, u "unvested"), (0, .fieldref 78 93), (0, .nameAndType 94 82), (0, u "forfeited"), (0, .fieldref 78 96), (0, .nameAndType 97 82), (0, u "tandem"), (28, u "in"), (0, u "(Lcom/example/vestry/vestry/Position;)J")] 23

def k7c0 : Code := { maxStack := 4, maxLocals := 2, code := prog_18_method_6_code, exceptionTable := #[], attributes := #[] }
def k7m0 : Method := { name := "in", desc := "(Lcom/example/vestry/vestry/Position;)J", sig := { parameters := [(.object "com/example/vestry/vestry/Position")], returnType := some .long }, accessFlags := 1, code := some k7c0 }
/-- com/example/vestry/vestry/Position$Count -/
def k7 : Class := { plain "com/example/vestry/vestry/Position$Count" (some 6) with
  accessFlags := 16433
  interfaces := #[]
  cf := some (fileOf pool7 1 #[.nestHost 78] #[{ accessFlags := 1, nameIndex := 126, descriptorIndex := 127, attributes := #[] }] 16433 32 #[] #[{ accessFlags := 16409, nameIndex := 5, descriptorIndex := 6, attributes := #[] }, { accessFlags := 16409, nameIndex := 9, descriptorIndex := 6, attributes := #[] }, { accessFlags := 16409, nameIndex := 12, descriptorIndex := 6, attributes := #[] }, { accessFlags := 16409, nameIndex := 15, descriptorIndex := 6, attributes := #[] }, { accessFlags := 16409, nameIndex := 18, descriptorIndex := 6, attributes := #[] }, { accessFlags := 16409, nameIndex := 21, descriptorIndex := 6, attributes := #[] }, { accessFlags := 18, nameIndex := 43, descriptorIndex := 44, attributes := #[] }, { accessFlags := 4122, nameIndex := 24, descriptorIndex := 25, attributes := #[] }])
  fields := #[{ name := "GRANTED", type := (.object "com/example/vestry/vestry/Position$Count"), accessFlags := 16409, slot := 0, constantValue := 0 }, { name := "EXERCISED", type := (.object "com/example/vestry/vestry/Position$Count"), accessFlags := 16409, slot := 1, constantValue := 0 }, { name := "EXERCISABLE", type := (.object "com/example/vestry/vestry/Position$Count"), accessFlags := 16409, slot := 2, constantValue := 0 }, { name := "UNVESTED", type := (.object "com/example/vestry/vestry/Position$Count"), accessFlags := 16409, slot := 3, constantValue := 0 }, { name := "FORFEITED", type := (.object "com/example/vestry/vestry/Position$Count"), accessFlags := 16409, slot := 4, constantValue := 0 }, { name := "TANDEM", type := (.object "com/example/vestry/vestry/Position$Count"), accessFlags := 16409, slot := 5, constantValue := 0 }, { name := "label", type := (.object "java/lang/String"), accessFlags := 18, slot := 3, constantValue := 0 }, { name := "$VALUES", type := (.array (.object "com/example/vestry/vestry/Position$Count")), accessFlags := 4122, slot := 6, constantValue := 0 }]
  methods := #[k7m0]
  instanceTypes := #[(.object "java/lang/String"), .int, .int, (.object "java/lang/String")]
  staticTypes := #[(.object "com/example/vestry/vestry/Position$Count"), (.object "com/example/vestry/vestry/Position$Count"), (.object "com/example/vestry/vestry/Position$Count"), (.object "com/example/vestry/vestry/Position$Count"), (.object "com/example/vestry/vestry/Position$Count"), (.object "com/example/vestry/vestry/Position$Count"), (.array (.object "com/example/vestry/vestry/Position$Count"))]
  resolved := Array.replicate 151 none
  statics := some 0 }

def pool8 : Array CpInfo := pool [(1, u "java/lang/Cloneable"), (0, .class_ 1), (0, u "java/lang/Object"), (0, .class_ 3)] 3

/-- java/lang/Cloneable -/
def k8 : Class := { plain "java/lang/Cloneable" (some 0) with
  accessFlags := 1537
  interfaces := #[]
  cf := some (fileOf pool8 2 #[] #[] 1537 4 #[] #[])
  fields := #[]
  methods := #[]
  instanceTypes := #[]
  staticTypes := #[]
  resolved := Array.replicate 8 none
  statics := none }

/-- the primitive byte -/
def k9 : Class := { plain "byte" none with kind := .primitive 'B', accessFlags := 0x411 }
/-- [B -/
def k10 : Class := { plain "[B" (some 0) with kind := .array 9 .byte, interfaces := #[8, 5], accessFlags := 1041 }

/-- the primitive int -/
def k11 : Class := { plain "int" none with kind := .primitive 'I', accessFlags := 0x411 }
/-- [I -/
def k12 : Class := { plain "[I" (some 0) with kind := .array 11 .int, interfaces := #[8, 5], accessFlags := 1041 }

def heap : Heap := #[{ cls := 7, slots := #[.ref 1, .ref 2, .ref 3, .ref 4, .ref 5, .ref 6, .null], vm := .statics 7 },
  { cls := 7, slots := #[.null, .int 0, .int 0, .null], vm := .none },
  { cls := 7, slots := #[.null, .int 1, .int 0, .null], vm := .none },
  { cls := 7, slots := #[.null, .int 2, .int 0, .null], vm := .none },
  { cls := 7, slots := #[.null, .int 3, .int 0, .null], vm := .none },
  { cls := 7, slots := #[.null, .int 4, .int 0, .null], vm := .none },
  { cls := 7, slots := #[.null, .int 5, .int 0, .null], vm := .none }]
def classes : Array Class := #[k0, k1, k2, k3, k4, k5, k6, k7, k8, k9, k10, k11, k12]
def interned : List (Array UInt16 × Addr) := []
def slotsUsed : Nat := 31
def theMethod : MethodId := ⟨1, 1⟩
def args0 : Array Value := #[.long 5, .long 5, .long 5, .long 5, .long 5, .long 5]
def aboutOver (below : List Frame) : State where
  vm := { classes := classes, interned := interned.toArray }
  heap := heap
  slotsUsed := slotsUsed
  threads := #[{ frames := .invoking theMethod args0 :: below }]
def below0 : List Frame := [.native { method := ⟨0, 0⟩, args := #[] }]
def about1 : State := aboutOver below0
def p0 : Program := .bare "" "" ""
def e0 : Env := launch0.env 0 0 0
theorem w_frames : about1.frames = Frame.invoking theMethod args0 :: below0 := rfl
set_option maxRecDepth 65536 in
theorem w_args : argsFit about1.vm theMethod args0 = true := by decide +kernel
set_option maxRecDepth 65536 in
theorem w_heap : heapFits about1 = true := by decide +kernel
set_option maxRecDepth 65536 in
theorem w_runnable : about1.curStatus? = some .runnable := by decide +kernel
set_option maxRecDepth 65536 in
theorem w_alone : about1.alone = true := by decide +kernel
set_option maxRecDepth 65536 in
theorem w_named : about1.methodNamed? x = some theMethod := by decide +kernel
set_option maxRecDepth 65536 in
theorem w_hears : about1.hears theMethod below0 = true := by decide +kernel
set_option maxRecDepth 65536 in
theorem w_ripe : about1.ripe theMethod args0 below0 = true := by decide +kernel
theorem w_running : about1.status = .running := rfl
set_option maxRecDepth 65536 in
theorem w_room : about1.hasRoom e0.platform room_1 = true :=
  launch0.hasRoom_least _ room_1 (by decide +kernel) (by decide +kernel) (by decide +kernel) (by decide +kernel) (by decide +kernel) (by decide +kernel)
theorem allAtoms_all (ts : List Jvm.Cond) (a : Array Jvm.Value) (st : Jvm.State) : (allAtoms ts).before a st = ts.all (fun c => c.before a st) := by
  induction ts with
  | nil => rfl
  | cons c t ih =>
    show (Jvm.Cond.and c (allAtoms t)).before a st = _
    rw [Jvm.Cond.before_and, ih, List.all_cons]
def words1 : List Jvm.Cond := Jvm.Cond.code x code maxLocals ret :: tables_1
/-- a 'code' word, met by the world's own term for the bytes: nothing is compared byte by byte -/
theorem code_word {y : MethodName} {bytes : ByteArray} {mx : Nat} {rt : Option FieldType} {a : Array Value} {s : State} {m : MethodId} {meth : Method} {c : Code} (h1 : s.methodNamed? y = some m) (h2 : s.vm.method? m = some meth) (h3 : meth.code = some c) (h4 : c.code = bytes)
    (h5 : (c.maxLocals == mx && c.exceptionTable.isEmpty && decide (c.maxStack ≤ mostOperands) && decide (meth.sig.returnType = rt) && !meth.locks && decide (parseMethodDescriptor y.desc = some meth.sig)) = true) : (Jvm.Cond.code y bytes mx rt).before a s = true := by
  simp only [Bool.and_eq_true, beq_iff_eq, Bool.not_eq_true', decide_eq_true_eq] at h5
  obtain ⟨⟨⟨⟨⟨g1, g2⟩, g3⟩, g4⟩, g5⟩, g6⟩ := h5
  simp [Cond.before, Cond.holds, Cond.value, h1, h2, h3, h4, g1, g2, g3, g4, g5, g6]
def isCode : Jvm.Cond → Bool
  | .code _ _ _ _ => true
  | _ => false
theorem all_split {L : List Jvm.Cond} {P : Jvm.Cond → Bool} (h1 : L.all (fun c => isCode c || P c) = true) (h2 : ∀ c ∈ L.filter isCode, P c = true) : L.all P = true := by
  refine List.all_eq_true.mpr fun c hc => ?_
  have h := List.all_eq_true.mp h1 c hc
  rcases Bool.eq_false_or_eq_true (isCode c) with hi | hi
  · exact h2 c (List.mem_filter.mpr ⟨hc, hi⟩)
  · simpa [hi] using h
set_option maxRecDepth 65536 in
theorem w_c0 : (Jvm.Cond.code x code maxLocals ret).before args0 about1 = true := code_word (m := ⟨1, 1⟩) (meth := k1m1) (c := k1c1) (by decide +kernel) rfl rfl rfl (by decide +kernel)
set_option maxRecDepth 65536 in
theorem w_c1 : (Jvm.Cond.code ({ cls := "com/example/vestry/vestry/Position", name := "<init>", desc := "(JJJJJJ)V" } : Jvm.MethodName) prog_17_method_1_code (13 : Nat) (Option.none : Option Jvm.ClassFile.FieldType)).before args0 about1 = true := code_word (m := ⟨2, 0⟩) (meth := k2m0) (c := k2c0) (by decide +kernel) rfl rfl rfl (by decide +kernel)
set_option maxRecDepth 65536 in
theorem w_c2 : (Jvm.Cond.code ({ cls := "java/lang/Object", name := "<init>", desc := "()V" } : Jvm.MethodName) object_method_1_code (1 : Nat) (Option.none : Option Jvm.ClassFile.FieldType)).before args0 about1 = true := code_word (m := ⟨0, 0⟩) (meth := k0m0) (c := k0c0) (by decide +kernel) rfl rfl rfl (by decide +kernel)
set_option maxRecDepth 65536 in
theorem w_c3 : (Jvm.Cond.code ({ cls := "com/example/vestry/vestry/Position$Count", name := "in", desc := "(Lcom/example/vestry/vestry/Position;)J" } : Jvm.MethodName) prog_18_method_6_code (2 : Nat) (Option.some Jvm.ClassFile.FieldType.long)).before args0 about1 = true := code_word (m := ⟨7, 0⟩) (meth := k7m0) (c := k7c0) (by decide +kernel) rfl rfl rfl (by decide +kernel)
set_option maxRecDepth 65536 in
theorem w_c4 : (Jvm.Cond.code ({ cls := "java/lang/Enum", name := "ordinal", desc := "()I" } : Jvm.MethodName) jdk_37_method_2_code (1 : Nat) (Option.some Jvm.ClassFile.FieldType.int)).before args0 about1 = true := code_word (m := ⟨6, 0⟩) (meth := k6m0) (c := k6c0) (by decide +kernel) rfl rfl rfl (by decide +kernel)
def codes1 : List Jvm.Cond := [Jvm.Cond.code x code maxLocals ret, Jvm.Cond.code ({ cls := "com/example/vestry/vestry/Position", name := "<init>", desc := "(JJJJJJ)V" } : Jvm.MethodName) prog_17_method_1_code (13 : Nat) (Option.none : Option Jvm.ClassFile.FieldType), Jvm.Cond.code ({ cls := "java/lang/Object", name := "<init>", desc := "()V" } : Jvm.MethodName) object_method_1_code (1 : Nat) (Option.none : Option Jvm.ClassFile.FieldType), Jvm.Cond.code ({ cls := "com/example/vestry/vestry/Position$Count", name := "in", desc := "(Lcom/example/vestry/vestry/Position;)J" } : Jvm.MethodName) prog_18_method_6_code (2 : Nat) (Option.some Jvm.ClassFile.FieldType.long), Jvm.Cond.code ({ cls := "java/lang/Enum", name := "ordinal", desc := "()I" } : Jvm.MethodName) jdk_37_method_2_code (1 : Nat) (Option.some Jvm.ClassFile.FieldType.int)]
set_option maxRecDepth 65536 in
theorem codes_eq : words1.filter isCode = codes1 := rfl
theorem w_codes : ∀ c ∈ words1.filter isCode, c.before args0 about1 = true := by
  rw [codes_eq]
  intro c hc
  simp only [codes1, List.mem_cons, List.not_mem_nil, or_false] at hc
  rcases hc with rfl | rfl | rfl | rfl | rfl
  · exact w_c0
  · exact w_c1
  · exact w_c2
  · exact w_c3
  · exact w_c4
set_option maxRecDepth 65536 in
theorem w_t1 : (words1.take 24).all (fun c => isCode c || c.before args0 about1) = true := by decide +kernel
set_option maxRecDepth 65536 in
theorem w_t2 : ((words1.drop 24).take 24).all (fun c => isCode c || c.before args0 about1) = true := by decide +kernel
set_option maxRecDepth 65536 in
theorem w_t3 : ((words1.drop 24).drop 24).all (fun c => isCode c || c.before args0 about1) = true := by decide +kernel
theorem w_tables : (allAtoms (Jvm.Cond.code x code maxLocals ret :: tables_1)).before args0 about1 = true := by
  rw [allAtoms_all]
  show words1.all (fun c => c.before args0 about1) = true
  refine all_split ?_ w_codes
  rw [← List.take_append_drop 24 words1, List.all_append, w_t1, ← List.take_append_drop 24 (words1.drop 24), List.all_append, w_t2, w_t3]
  rfl
set_option maxRecDepth 65536 in
theorem w_case : (Jvm.Cond.and given_1 narrow_1).before args0 about1 = true := by decide +kernel
theorem w_applies : (headSpec (Jvm.Cond.code x code maxLocals ret :: tables_1) room_1).applies x e0.platform about1 = true :=
  (Spec.applies_iff w_frames).mpr ⟨w_running, w_runnable, w_alone, w_named, w_hears, w_ripe, w_room, w_tables⟩
theorem atStart : AtStart classFile x code maxLocals ret World_1 tables_1 room_1 Calls_1 rest_1 Pre_1 launch0 p0 e0 about1 theMethod args0 below0 :=
  ⟨lists_1, trivial, launch0.admits_env _ _ _, launch0.least_env, fairChoices_fair.cas, fairChoices_fair.clock, w_frames, w_args, w_heap, w_applies, trivial, trivial, w_case⟩
end start1
theorem witness_1 : WitnessClaimed_1 := ⟨start1.p0, start1.e0, start1.about1, start1.theMethod, start1.args0, start1.below0, start1.atStart⟩
end Jvm.Pilot.@@N@@
