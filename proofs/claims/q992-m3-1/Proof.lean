import JvmDerived
import JvmDerived.Pilot.@@N@@Statement
import JvmDerived.Pilot.@@N@@Code
set_option linter.unusedVariables false
set_option linter.unusedSimpArgs false
namespace Jvm.RoadKit
open Sem ClassFile Op Lib Jvm.Stand Jvm.Free Jvm.LawKit
section New
variable {p : Program} {l : Launch} {e : Env} {R : Room} {s : State} {m : MethodId} {args : Array Value} {below : List Frame} {meth : Method} {c : Code} {T : State} {locs : List Loc} {cells slots : Nat}
theorem retI (X : Stand p l e R s m args below meth c T locs cells slots) (hx : p.tables.exec = Jvm.exec) {pc : Nat} {Ls : Array Slot} {z : Int32} {rest : List Value} (hret : meth.sig.returnType = some .int) (hd : decode c.code pc = .ok (.ireturn, 1)) {fs : List Frame}
    (hl : ∀ (f : JFrame) (acts : List Action), f.method = m → f.locked = none → f.entered = [] → (doReturn e (T.setTop f) acts (some (.int z))).1 = T.setFrames fs) : Steps p.tables e below (T.setTop (mkF m pc Ls (.int z :: rest))) (T.setFrames fs) := by
  have hm' : T.vm.method? m = some meth := X.method'
  have hn : narrow .int (.int z) = .int z := rfl
  show Steps p.tables e below (T.setTop { method := m, pc := pc, locals := Ls, stack := _ :: rest, locked := none }) _
  jvm_step X.here [X.here.top, hx, hd, hm', hret, hn]
  first | (intro acts; rw [hl _ acts rfl rfl rfl]) | rw [hl _ _ rfl rfl rfl]
  exact Steps.refl _
end New
end Jvm.RoadKit
namespace Jvm.Pilot.@@N@@
open Jvm Jvm.ClassFile Sem Op Lib Jvm.Free Jvm.Stand Jvm.LawKit Jvm.RoadKit Bundle Jvm.Pilot.@@N@@.Jvm.D
abbrev Go (p : Program) (e : Env) (below : List Frame) (T : State) (g : JFrame) (t : State) : Prop := Steps p.tables e below (T.setTop g) t
theorem hwi {Z : State} {a0 : Array Value} (hw : ∀ d ∈ tables_1, d.before a0 Z = true) {d : Jvm.Cond} (i : Nat) (q : tables_1[i]? = some d) : d.before a0 Z = true := hw _ (List.mem_of_getElem? q)
theorem own_ext {h0 h : Heap} (K : Keep h0 h []) : Ext h0 h := ⟨K.1, fun a c q => K.2.1 a c q nin0⟩
theorem own_mod (x m : Int32) (d : Int) (hm : m.toInt = d) (hd : 0 < d) : 0 ≤ ((x &&& (2147483647 : Int32)) % m).toInt ∧ ((x &&& (2147483647 : Int32)) % m).toInt < d := by
  have h1 := c_mask x 2147483647 31 (by decide) (by decide)
  have h2 := (c_irem (x &&& 2147483647) m d hm).1 (by omega)
  rw [h2]; exact ⟨Int.emod_nonneg _ (by omega), Int.emod_lt_of_pos _ hd⟩
theorem own_rng (k : Int32) (h : 0 ≤ k.toInt ∧ k.toInt < 3) : k = (0 : Int32) ∨ k = (1 : Int32) ∨ k = (2 : Int32) := by
  have q : k.toInt = 0 ∨ k.toInt = 1 ∨ k.toInt = 2 := by omega
  rcases q with q | q | q
  · exact Or.inl (Int32.toInt_inj.mp (by rw [q]; decide))
  · exact Or.inr (Or.inl (Int32.toInt_inj.mp (by rw [q]; decide)))
  · exact Or.inr (Or.inr (Int32.toInt_inj.mp (by rw [q]; decide)))
def Col (Z : State) (h : Heap) (a blk dat : Addr) (kb kd : ClassId) (n x y z : Int32) : Prop := Exa Z h a "com/example/guarded_graph/guardedgraph/IntColumn" ∧ Fld Z h a "com/example/guarded_graph/guardedgraph/IntColumn" "blocks" "[[I" (.ref blk) ∧ Fld Z h a "com/example/guarded_graph/guardedgraph/IntColumn" "size" "I" (.int n) ∧ Arv Z h blk kb (.array .int) (16 : Int32) [(.ref dat)] .null ∧ OvrA Z kb .int "[I" ∧ Arv Z h dat kd .int (65536 : Int32) [(.int x), (.int y), (.int z)] (.int (0 : Int32)) ∧ a ≠ blk ∧ a ≠ dat ∧ blk ≠ dat
theorem ef_1 (m : MethodId) (x0 : Addr) : entryFrame m #[(.ref x0)] 1 = mkF m 0 #[.val (.ref x0)] [] := by first | (simp [entryFrame, mkF, argsToLocals, Value.category]; done) | rfl
theorem pn_com_example_guarded_graph_guardedgraph_IntColumn : plainName "com/example/guarded_graph/guardedgraph/IntColumn" = true := by first | (simp [plainName, overriddenIn]; done) | decide +kernel
theorem d1_0 : decode prog_8_method_1_code 0 = .ok (.aload_n 0, 1) := by decide +kernel
theorem d1_1 : decode prog_8_method_1_code 1 = .ok (.invokespecial 3, 3) := by decide +kernel
theorem d1_4 : decode prog_8_method_1_code 4 = .ok (.aload_n 0, 1) := by decide +kernel
theorem d1_5 : decode prog_8_method_1_code 5 = .ok (.bipush 16, 2) := by decide +kernel
theorem d1_7 : decode prog_8_method_1_code 7 = .ok (.anewarray 9, 3) := by decide +kernel
theorem d1_10 : decode prog_8_method_1_code 10 = .ok (.putfield 11, 3) := by decide +kernel
theorem d1_13 : decode prog_8_method_1_code 13 = .ok (.return_, 1) := by decide +kernel
def Q_rmI (Z : State) (a : Addr) (h0 : Heap) (n0 : Nat) (v : Option Value) (h : Heap) (L : List Loc) : Prop := ∃ (blk : Addr) (kb : ClassId), v = none ∧ Fr n0 L ∧ Keep h0 h [a] ∧ Exa Z h a "com/example/guarded_graph/guardedgraph/IntColumn" ∧ Fld Z h a "com/example/guarded_graph/guardedgraph/IntColumn" "blocks" "[[I" (.ref blk) ∧ Fld Z h a "com/example/guarded_graph/guardedgraph/IntColumn" "size" "I" (.int 0) ∧ Arv Z h blk kb (.array .int) (16 : Int32) [.null] .null ∧ OvrA Z kb .int "[I" ∧ n0 ≤ blk ∧ h0.size ≤ blk
set_option maxRecDepth 65536 in
set_option maxHeartbeats 40000000 in
theorem rmI (l : Launch) (Z : State) (a0 : Array Value) (hw : ∀ d ∈ tables_1, d.before a0 Z = true) (ws : List Jvm.Cond) (a : Addr) (h0 : Heap) (n0 : Nat) (Z0 : n0 ≤ h0.size) (E_a : Exa Z h0 a "com/example/guarded_graph/guardedgraph/IntColumn") (g_a : n0 ≤ a) (F_b : Fld Z h0 a "com/example/guarded_graph/guardedgraph/IntColumn" "blocks" "[[I" .null) (F_s : Fld Z h0 a "com/example/guarded_graph/guardedgraph/IntColumn" "size" "I" (.int 0)) :
    MetFree l (⟨"com/example/guarded_graph/guardedgraph/IntColumn", "<init>", "()V"⟩ : MethodName) (head1 (Jvm.Cond.code (⟨"com/example/guarded_graph/guardedgraph/IntColumn", "<init>", "()V"⟩ : MethodName) prog_8_method_1_code 1 none :: ws) ({ frames := 1, cells := 1, slots := 16, locals := 12 } : Room)) (fun av_ U_ => av_ = #[(.ref a)] ∧ Z.Warmed39 U_.vm ∧ U_.heap = h0) (fun _ _ _ _ _ => True) (fun _ U_ o_ V_ => ∃ v_ L_, o_ = .returned v_ ∧ Q_rmI Z a h0 n0 v_ V_.heap L_ ∧ FrameEnd U_ o_ V_ L_ ({ frames := 1, cells := 1, slots := 16, locals := 12 } : Room).cells ({ frames := 1, cells := 1, slots := 16, locals := 12 } : Room).slots) := by
  refine MetFree.of_bodySF (plainFor_of_name pn_com_example_guarded_graph_guardedgraph_IntColumn) hisR ?_
  intro p e s m args below meth c s₁ Bd hml0 hP hK
  obtain ⟨rfl, hZ, hh⟩ := hP
  have hx := Bd.exec
  have hby := Bd.bytes
  have hml : c.maxLocals = 1 := hml0
  have hown : s.vm.findClass "com/example/guarded_graph/guardedgraph/IntColumn" = some m.cls := findClass_of_methodNamed Bd.named
  have hnm := (name_of_methodNamed Bd.named Bd.method).1
  have X0 : Stand p l e ({ frames := 1, cells := 1, slots := 16, locals := 12 } : Room) s m #[(.ref a)] below meth c s₁ [] 0 0 := Stand.of_body Bd
  have e0 : s₁.heap = h0 := by rw [← hh, Bd.state]; rfl
  have N0 := Fr.nil n0
  have pre0 : ∀ t_, Go p e below s₁ (mkF m 0 #[rv a] []) t_ → Go p e below s₁ (entryFrame m #[(.ref a)] 1) t_ := fun t_ kt => castTop (ef_1 m a) kt
  obtain ⟨T1, X1, e1, st1⟩ := initO X0 hx hZ hown (hwi hw 6 rfl) (hwi hw 7 rfl) (hwi hw 8 rfl) e0 (g := (mkF m 1 #[rv a] [(.ref a)])) rfl (by rw [hml]; rfl) rfl (hb hby d1_1) (by decide) (W := 0) (by show 2 * 0 + _ ≤ _; exact Nat.le_of_eq rfl) (by decide)
  obtain ⟨T2, h2, k2, X2, e2, E2, A2, Ex2, O2, st2⟩ := newRA X1 hx hZ (ty := .int) hown (by first | rfl | decide +kernel) (hwi hw 9 rfl) (hwi hw 10 rfl) e1 (g := (mkF m 7 #[rv a] [(.int 16), (.ref a)])) rfl (hb hby d1_7) rfl (by decide) (cap := 16) (by decide) (by decide) (by decide) (by decide) (ad := "[[I") (by first | rfl | decide +kernel)
  obtain ⟨b2, g2⟩ : ∃ z, z = h0.size := ⟨_, rfl⟩
  rw [← g2] at A2 Ex2 st2
  have ne_a_b2 : a ≠ b2 := Nat.ne_of_lt (Nat.lt_of_lt_of_le E_a.lt (Nat.le_of_eq g2.symm))
  have sz_b2 : h0.size ≤ b2 := Nat.le_trans (Keep.refl h0 [a]).1 (Nat.le_of_eq g2.symm)
  have g_b2 : n0 ≤ b2 := Nat.le_trans Z0 sz_b2
  have f3 := E_a.ext E2
  have f4 := F_b.ext E2
  have f5 := F_s.ext E2
  have K2 : Keep h0 h2 [a] := (Keep.refl h0 [a]).ext E2
  have V2 : Arv Z h2 b2 k2 (.array .int) (16 : Int32) [.null] .null := (Arv.new A2 (by decide)).pad (pad_rep [] .null 1)
  obtain ⟨T6, h6, X6, e6, W6, st6⟩ := putF X2 hx hZ hown (host := "") (Or.inl (hwi hw 11 rfl)) Via.refl e2 f4 f3 (Or.inl (hwi hw 12 rfl)) (hwi hw 1 rfl) (ty := (.array (.array .int))) (by decide) rfl rfl (g := (mkF m 10 #[rv a] [(.ref b2), (.ref a)])) rfl rfl (hb hby d1_10)
  have f7 := f3.wr W6
  have f9 := f5.other W6 (Or.inr (slot_ne (Or.inl (hwi hw 19 rfl)) (Or.inl (hwi hw 12 rfl)) (by decide) (t := .int) (t' := (.array (.array .int))) (by decide) (by decide)))
  have f10 := Ex2.wr W6
  have f11 := V2.other W6 (Ne.symm ne_a_b2)
  have K6 : Keep h0 h6 [a] := K2.wr W6 (Or.inl (List.mem_of_getElem? (i := 0) rfl))
  have N6 := Fr.snoc X6 N0 g_a
  have f12 : Fld Z h6 a "com/example/guarded_graph/guardedgraph/IntColumn" "blocks" "[[I" (.ref b2) := f4.same W6
  have pre13 : ∀ t_, Go p e below T6 (mkF m 13 #[rv a] []) t_ → Go p e below s₁ (entryFrame m #[(.ref a)] 1) t_ := fun t_ kt => pre0 _ (by
      show Go p e below s₁ (mkF m 0 #[rv a] []) _
      refine XS.aloadN X0.here hx rfl (hb hby d1_0) rfl rfl ?_
      show Go p e below s₁ (mkF m 1 #[rv a] [(.ref a)]) _
      refine st1 _ ?_
      show Go p e below T1 (mkF m 4 #[rv a] []) _
      refine XS.aloadN X1.here hx rfl (hb hby d1_4) rfl rfl ?_
      show Go p e below T1 (mkF m 5 #[rv a] [(.ref a)]) _
      refine XS.bipush X1.here hx rfl (hb hby d1_5) ?_
      show Go p e below T1 (mkF m 7 #[rv a] [(.int 16), (.ref a)]) _
      refine st2 _ ?_
      show Go p e below T2 (mkF m 10 #[rv a] [(.ref b2), (.ref a)]) _
      refine st6 _ ?_
      show Go p e below T6 (mkF m 13 #[rv a] []) _
      exact kt)
  obtain ⟨fs, hr, hrun, hended, hW, hsame⟩ := X6.leave (v := none) (fun _ => rfl)
  refine ⟨_, _, pre13 _ ?_, hrun, hended, _, _, rfl, ?_, ⟨_, rfl⟩, hW, hsame.mono (by decide) (by decide)⟩
  · show Steps p.tables e below (T6.setTop (mkF m 13 #[rv a] [])) _
    exact X6.returnOut hx Bd.returns (hb hby d1_13) hr
  · show Q_rmI Z a h0 n0 _ T6.heap _
    rw [e6]
    exact ⟨b2, k2, rfl, N6, K6, f7, f12, f9, f11, O2, g_b2, sz_b2⟩
theorem ef_3 (m : MethodId) (x0 : Addr) (x1 : Int32) : entryFrame m #[(.ref x0), (.int x1)] 3 = mkF m 0 #[.val (.ref x0), .val (.int x1), .unset] [] := by first | (simp [entryFrame, mkF, argsToLocals, Value.category]; done) | rfl
theorem d3_0 : decode prog_8_method_2_code 0 = .ok (.aload_n 0, 1) := by decide +kernel
theorem d3_1 : decode prog_8_method_2_code 1 = .ok (.getfield 15, 3) := by decide +kernel
theorem d3_4 : decode prog_8_method_2_code 4 = .ok (.ldc 21, 2) := by decide +kernel
theorem d3_6 : decode prog_8_method_2_code 6 = .ok (.if_icmp .ne 13, 3) := by decide +kernel
theorem d3_19 : decode prog_8_method_2_code 19 = .ok (.aload_n 0, 1) := by decide +kernel
theorem d3_20 : decode prog_8_method_2_code 20 = .ok (.getfield 15, 3) := by decide +kernel
theorem d3_23 : decode prog_8_method_2_code 23 = .ok (.bipush 16, 2) := by decide +kernel
theorem d3_25 : decode prog_8_method_2_code 25 = .ok (.iushr, 1) := by decide +kernel
theorem d3_26 : decode prog_8_method_2_code 26 = .ok (.istore_n 2, 1) := by decide +kernel
theorem d3_27 : decode prog_8_method_2_code 27 = .ok (.iload_n 2, 1) := by decide +kernel
theorem d3_28 : decode prog_8_method_2_code 28 = .ok (.aload_n 0, 1) := by decide +kernel
theorem d3_29 : decode prog_8_method_2_code 29 = .ok (.getfield 11, 3) := by decide +kernel
theorem d3_32 : decode prog_8_method_2_code 32 = .ok (.arraylength, 1) := by decide +kernel
theorem d3_33 : decode prog_8_method_2_code 33 = .ok (.if_icmp .ne 20, 3) := by decide +kernel
theorem d3_53 : decode prog_8_method_2_code 53 = .ok (.aload_n 0, 1) := by decide +kernel
theorem d3_54 : decode prog_8_method_2_code 54 = .ok (.getfield 11, 3) := by decide +kernel
theorem d3_57 : decode prog_8_method_2_code 57 = .ok (.iload_n 2, 1) := by decide +kernel
theorem d3_58 : decode prog_8_method_2_code 58 = .ok (.aaload, 1) := by decide +kernel
theorem d3_59 : decode prog_8_method_2_code 59 = .ok (.ifnonnull 13, 3) := by decide +kernel
theorem d3_62 : decode prog_8_method_2_code 62 = .ok (.aload_n 0, 1) := by decide +kernel
theorem d3_63 : decode prog_8_method_2_code 63 = .ok (.getfield 11, 3) := by decide +kernel
theorem d3_66 : decode prog_8_method_2_code 66 = .ok (.iload_n 2, 1) := by decide +kernel
theorem d3_67 : decode prog_8_method_2_code 67 = .ok (.ldc 36, 2) := by decide +kernel
theorem d3_69 : decode prog_8_method_2_code 69 = .ok (.newarray .int, 2) := by decide +kernel
theorem d3_71 : decode prog_8_method_2_code 71 = .ok (.aastore, 1) := by decide +kernel
theorem d3_72 : decode prog_8_method_2_code 72 = .ok (.aload_n 0, 1) := by decide +kernel
theorem d3_73 : decode prog_8_method_2_code 73 = .ok (.getfield 11, 3) := by decide +kernel
theorem d3_76 : decode prog_8_method_2_code 76 = .ok (.iload_n 2, 1) := by decide +kernel
theorem d3_77 : decode prog_8_method_2_code 77 = .ok (.aaload, 1) := by decide +kernel
theorem d3_78 : decode prog_8_method_2_code 78 = .ok (.aload_n 0, 1) := by decide +kernel
theorem d3_79 : decode prog_8_method_2_code 79 = .ok (.getfield 15, 3) := by decide +kernel
theorem d3_82 : decode prog_8_method_2_code 82 = .ok (.ldc 37, 2) := by decide +kernel
theorem d3_84 : decode prog_8_method_2_code 84 = .ok (.iand, 1) := by decide +kernel
theorem d3_85 : decode prog_8_method_2_code 85 = .ok (.iload_n 1, 1) := by decide +kernel
theorem d3_86 : decode prog_8_method_2_code 86 = .ok (.iastore, 1) := by decide +kernel
theorem d3_87 : decode prog_8_method_2_code 87 = .ok (.aload_n 0, 1) := by decide +kernel
theorem d3_88 : decode prog_8_method_2_code 88 = .ok (.dup, 1) := by decide +kernel
theorem d3_89 : decode prog_8_method_2_code 89 = .ok (.getfield 15, 3) := by decide +kernel
theorem d3_92 : decode prog_8_method_2_code 92 = .ok (.iconst 1, 1) := by decide +kernel
theorem d3_93 : decode prog_8_method_2_code 93 = .ok (.iadd, 1) := by decide +kernel
theorem d3_94 : decode prog_8_method_2_code 94 = .ok (.putfield 15, 3) := by decide +kernel
theorem d3_97 : decode prog_8_method_2_code 97 = .ok (.return_, 1) := by decide +kernel
def Q_rmA0 (Z : State) (a : Addr) (p1 : Int32) (blk : Addr) (kb : ClassId) (h0 : Heap) (n0 : Nat) (v : Option Value) (h : Heap) (L : List Loc) : Prop := ∃ (dat : Addr) (kd : ClassId), v = none ∧ Fr n0 L ∧ Keep h0 h [a, blk] ∧ n0 ≤ dat ∧ h0.size ≤ dat ∧ Col Z h a blk dat kb kd 1 p1 0 0
set_option maxRecDepth 65536 in
set_option maxHeartbeats 40000000 in
theorem rmA0 (l : Launch) (Z : State) (a0 : Array Value) (hw : ∀ d ∈ tables_1, d.before a0 Z = true) (ws : List Jvm.Cond) (a : Addr) (p1 : Int32) (blk : Addr) (kb : ClassId) (h0 : Heap) (n0 : Nat) (Z0 : n0 ≤ h0.size) (E_a : Exa Z h0 a "com/example/guarded_graph/guardedgraph/IntColumn") (F_b : Fld Z h0 a "com/example/guarded_graph/guardedgraph/IntColumn" "blocks" "[[I" (.ref blk)) (F_s : Fld Z h0 a "com/example/guarded_graph/guardedgraph/IntColumn" "size" "I" (.int 0)) (V_b : Arv Z h0 blk kb (.array .int) (16 : Int32) [.null] .null) (O_b : OvrA Z kb .int "[I") (n_ab : a ≠ blk) (g_a : n0 ≤ a) (g_b : n0 ≤ blk) :
    MetFree l (⟨"com/example/guarded_graph/guardedgraph/IntColumn", "add", "(I)V"⟩ : MethodName) (head1 (Jvm.Cond.code (⟨"com/example/guarded_graph/guardedgraph/IntColumn", "add", "(I)V"⟩ : MethodName) prog_8_method_2_code 3 none :: ws) ({ frames := 0, cells := 1, slots := 65536, locals := 0 } : Room)) (fun av_ U_ => av_ = #[(.ref a), (.int p1)] ∧ Z.Warmed39 U_.vm ∧ U_.heap = h0) (fun _ _ _ _ _ => True) (fun _ U_ o_ V_ => ∃ v_ L_, o_ = .returned v_ ∧ Q_rmA0 Z a p1 blk kb h0 n0 v_ V_.heap L_ ∧ FrameEnd U_ o_ V_ L_ ({ frames := 0, cells := 1, slots := 65536, locals := 0 } : Room).cells ({ frames := 0, cells := 1, slots := 65536, locals := 0 } : Room).slots) := by
  refine MetFree.of_bodySF (plainFor_of_name pn_com_example_guarded_graph_guardedgraph_IntColumn) hisR ?_
  intro p e s m args below meth c s₁ Bd hml0 hP hK
  obtain ⟨rfl, hZ, hh⟩ := hP
  have hx := Bd.exec
  have hby := Bd.bytes
  have hml : c.maxLocals = 3 := hml0
  have hown : s.vm.findClass "com/example/guarded_graph/guardedgraph/IntColumn" = some m.cls := findClass_of_methodNamed Bd.named
  have hnm := (name_of_methodNamed Bd.named Bd.method).1
  have X0 : Stand p l e ({ frames := 0, cells := 1, slots := 65536, locals := 0 } : Room) s m #[(.ref a), (.int p1)] below meth c s₁ [] 0 0 := Stand.of_body Bd
  have e0 : s₁.heap = h0 := by rw [← hh, Bd.state]; rfl
  have N0 := Fr.nil n0
  have pre0 : ∀ t_, Go p e below s₁ (mkF m 0 #[rv a, iv p1, .unset] []) t_ → Go p e below s₁ (entryFrame m #[(.ref a), (.int p1)] 3) t_ := fun t_ kt => castTop (ef_3 m a p1) kt
  obtain ⟨T1, X1, e1, st1⟩ := getF X0 hx hZ hown (host := "") (Or.inl (hwi hw 18 rfl)) Via.refl e0 F_s (g := (mkF m 1 #[rv a, iv p1, .unset] [(.ref a)])) rfl rfl (hb hby d3_1)
  obtain ⟨T2, X2, e2, st2⟩ := getF X1 hx hZ hown (host := "") (Or.inl (hwi hw 18 rfl)) Via.refl e1 F_s (g := (mkF m 20 #[rv a, iv p1, .unset] [(.ref a)])) rfl rfl (hb hby d3_20)
  obtain ⟨T3, X3, e3, st3⟩ := getF X2 hx hZ hown (host := "") (Or.inl (hwi hw 11 rfl)) Via.refl e2 F_b (g := (mkF m 29 #[rv a, iv p1, iv 0] [(.ref a), (.int 0)])) rfl rfl (hb hby d3_29)
  obtain ⟨cl4, Ar4, qa4, Sa4, Na4, Ha4, Ga4⟩ := V_b
  have V4 : Arv Z h0 blk kb (.array .int) (16 : Int32) [.null] .null := ⟨cl4, Ar4, qa4, Sa4, Na4, Ha4, Ga4⟩
  obtain ⟨T5, X5, e5, st5⟩ := getF X3 hx hZ hown (host := "") (Or.inl (hwi hw 11 rfl)) Via.refl e3 F_b (g := (mkF m 54 #[rv a, iv p1, iv 0] [(.ref a)])) rfl rfl (hb hby d3_54)
  obtain ⟨cl6, Ar6, qa6, Sa6, Na6, Ha6, Ga6⟩ := V4
  have hin6 : ¬ ((0 : Int32) < 0 ∨ cl6.slots.size ≤ ((0 : Int32)).toNatClampNeg) := inb_of Sa6 ⟨by decide, by decide⟩
  have V6 : Arv Z h0 blk kb (.array .int) (16 : Int32) [.null] .null := ⟨cl6, Ar6, qa6, Sa6, Na6, Ha6, Ga6⟩
  obtain ⟨T7, X7, e7, st7⟩ := getF X5 hx hZ hown (host := "") (Or.inl (hwi hw 11 rfl)) Via.refl e5 F_b (g := (mkF m 63 #[rv a, iv p1, iv 0] [(.ref a)])) rfl rfl (hb hby d3_63)
  obtain ⟨T8, h8, k8, X8, e8, E8, A8, Ex8, st8⟩ := newPE X7 hx hZ (hwi hw 22 rfl) e7 (g := (mkF m 69 #[rv a, iv p1, iv 0] [(.int 65536), (.int 0), (.ref blk)])) rfl (hb hby d3_69) rfl (by decide) (cap := 65536) (by decide) (by decide) (by decide) (by decide) (ad := "[I") (by first | rfl | decide +kernel)
  obtain ⟨b8, g8⟩ : ∃ z, z = h0.size := ⟨_, rfl⟩
  rw [← g8] at A8 Ex8 st8
  have ne_a_b8 : a ≠ b8 := Nat.ne_of_lt (Nat.lt_of_lt_of_le E_a.lt (Nat.le_of_eq g8.symm))
  have ne_blk_b8 : blk ≠ b8 := Nat.ne_of_lt (Nat.lt_of_lt_of_le V6.lt (Nat.le_of_eq g8.symm))
  have sz_b8 : h0.size ≤ b8 := Nat.le_trans (Keep.refl h0 [a, blk]).1 (Nat.le_of_eq g8.symm)
  have g_b8 : n0 ≤ b8 := Nat.le_trans Z0 sz_b8
  have f9 := E_a.ext E8
  have f10 := F_b.ext E8
  have f11 := F_s.ext E8
  have f12 := V6.ext E8
  have K8 : Keep h0 h8 [a, blk] := (Keep.refl h0 [a, blk]).ext E8
  have V8 : Arv Z h8 b8 k8 .int (65536 : Int32) [(.int 0), (.int 0), (.int 0)] (.int 0) := (Arv.new A8 (by decide)).pad (pad_rep [] (.int 0) 3)
  obtain ⟨cl13, Ar13, qa13, Sa13, Na13, Ha13, Ga13⟩ := f12
  have hin13 : ¬ ((0 : Int32) < 0 ∨ cl13.slots.size ≤ ((0 : Int32)).toNatClampNeg) := inb_of Sa13 ⟨by decide, by decide⟩
  obtain ⟨T14, h14, X14, e14, W14, st14⟩ := stR X8 hx hZ e8 Ar13 (j := (0 : Int32)) hin13 rfl (Sto.ofVA Ar13 qa13 O_b (Ins.self Ex8)) (g := (mkF m 71 #[rv a, iv p1, iv 0] [(.ref b8), (.int 0), (.ref blk)])) rfl rfl (hb hby d3_71)
  have f15 := f9.wr W14
  have f16 := f10.other W14 (Or.inl n_ab)
  have f17 := f11.other W14 (Or.inl n_ab)
  have f19 := Ex8.wr W14
  have f20 := V8.other W14 (Ne.symm ne_blk_b8)
  have K14 : Keep h0 h14 [a, blk] := K8.wr W14 (Or.inl (List.mem_of_getElem? (i := 1) rfl))
  have N14 := Fr.snoc X14 N0 g_b
  have V14 : Arv Z h14 blk kb (.array .int) (16 : Int32) [(.ref b8)] .null := Arv.set Ar13 qa13 Sa13 Na13 Ha13 Ga13 rfl W14 0 rfl (Nat.le_of_ble_eq_true rfl)
  obtain ⟨T21, X21, e21, st21⟩ := getF X14 hx hZ hown (host := "") (Or.inl (hwi hw 11 rfl)) Via.refl e14 f16 (g := (mkF m 73 #[rv a, iv p1, iv 0] [(.ref a)])) rfl rfl (hb hby d3_73)
  obtain ⟨cl22, Ar22, qa22, Sa22, Na22, Ha22, Ga22⟩ := V14
  have hin22 : ¬ ((0 : Int32) < 0 ∨ cl22.slots.size ≤ ((0 : Int32)).toNatClampNeg) := inb_of Sa22 ⟨by decide, by decide⟩
  have V22 : Arv Z h14 blk kb (.array .int) (16 : Int32) [(.ref b8)] .null := ⟨cl22, Ar22, qa22, Sa22, Na22, Ha22, Ga22⟩
  obtain ⟨T23, X23, e23, st23⟩ := getF X21 hx hZ hown (host := "") (Or.inl (hwi hw 18 rfl)) Via.refl e21 f17 (g := (mkF m 79 #[rv a, iv p1, iv 0] [(.ref a), (.ref b8)])) rfl rfl (hb hby d3_79)
  obtain ⟨cl24, Ar24, qa24, Sa24, Na24, Ha24, Ga24⟩ := f20
  have hin24 : ¬ ((0 : Int32) < 0 ∨ cl24.slots.size ≤ ((0 : Int32)).toNatClampNeg) := inb_of Sa24 ⟨by decide, by decide⟩
  obtain ⟨T25, h25, X25, e25, W25, st25⟩ := stI X23 hx hZ e23 Ar24 (j := (0 : Int32)) hin24 (g := (mkF m 86 #[rv a, iv p1, iv 0] [(.int p1), (.int 0), (.ref b8)])) rfl rfl (hb hby d3_86)
  have f26 := f15.wr W25
  have f27 := f16.other W25 (Or.inl ne_a_b8)
  have f28 := f17.other W25 (Or.inl ne_a_b8)
  have f29 := V22.other W25 ne_blk_b8
  have f30 := f19.wr W25
  have K25 : Keep h0 h25 [a, blk] := K14.wr W25 (Or.inr sz_b8)
  have N25 := Fr.snoc X25 N14 g_b8
  have V25 : Arv Z h25 b8 k8 .int (65536 : Int32) [(.int p1), (.int 0), (.int 0)] (.int 0) := Arv.set Ar24 qa24 Sa24 Na24 Ha24 Ga24 rfl W25 0 rfl (Nat.le_of_ble_eq_true rfl)
  obtain ⟨T32, X32, e32, st32⟩ := getF X25 hx hZ hown (host := "") (Or.inl (hwi hw 18 rfl)) Via.refl e25 f28 (g := (mkF m 89 #[rv a, iv p1, iv 0] [(.ref a), (.ref a)])) rfl rfl (hb hby d3_89)
  obtain ⟨T33, h33, X33, e33, W33, st33⟩ := putF X32 hx hZ hown (host := "") (Or.inl (hwi hw 18 rfl)) Via.refl e32 f28 f26 (Or.inl (hwi hw 19 rfl)) (hwi hw 1 rfl) (ty := .int) (by decide) rfl rfl (g := (mkF m 94 #[rv a, iv p1, iv 0] [(.int 1), (.ref a)])) rfl rfl (hb hby d3_94)
  have f34 := f26.wr W33
  have f35 := f27.other W33 (Or.inr (slot_ne (Or.inl (hwi hw 12 rfl)) (Or.inl (hwi hw 19 rfl)) (by decide) (t := (.array (.array .int))) (t' := .int) (by decide) (by decide)))
  have f37 := f29.other W33 (Ne.symm n_ab)
  have f38 := f30.wr W33
  have f39 := V25.other W33 (Ne.symm ne_a_b8)
  have K33 : Keep h0 h33 [a, blk] := K25.wr W33 (Or.inl (List.mem_of_getElem? (i := 0) rfl))
  have N33 := Fr.snoc X33 N25 g_a
  have f40 : Fld Z h33 a "com/example/guarded_graph/guardedgraph/IntColumn" "size" "I" (.int 1) := f28.same W33
  have pre41 : ∀ t_, Go p e below T33 (mkF m 97 #[rv a, iv p1, iv 0] []) t_ → Go p e below s₁ (entryFrame m #[(.ref a), (.int p1)] 3) t_ := fun t_ kt => pre0 _ (by
      show Go p e below s₁ (mkF m 0 #[rv a, iv p1, .unset] []) _
      refine XS.aloadN X0.here hx rfl (hb hby d3_0) rfl rfl ?_
      show Go p e below s₁ (mkF m 1 #[rv a, iv p1, .unset] [(.ref a)]) _
      refine st1 _ ?_
      show Go p e below T1 (mkF m 4 #[rv a, iv p1, .unset] [(.int 0)]) _
      refine X1.ldcInt hx hown (mvT hZ (hwi hw 20 rfl)) (g := (mkF m 4 #[rv a, iv p1, .unset] [(.int 0)])) rfl (hb hby d3_4) _ ?_
      show Go p e below T1 (mkF m 6 #[rv a, iv p1, .unset] [(.int 2147483647), (.int 0)]) _
      refine XS.icmpYes X1.here hx rfl (pc0 := 6) (pc' := 19) rfl (hb hby d3_6) rfl (feq ((by decide) : ¬ ((0 : Int32) = (2147483647 : Int32)))).2 (by decide) (by decide) ?_
      show Go p e below T1 (mkF m 19 #[rv a, iv p1, .unset] []) _
      refine XS.aloadN X1.here hx rfl (hb hby d3_19) rfl rfl ?_
      show Go p e below T1 (mkF m 20 #[rv a, iv p1, .unset] [(.ref a)]) _
      refine st2 _ ?_
      show Go p e below T2 (mkF m 23 #[rv a, iv p1, .unset] [(.int 0)]) _
      refine XS.bipush X2.here hx rfl (hb hby d3_23) ?_
      show Go p e below T2 (mkF m 25 #[rv a, iv p1, .unset] [(.int 16), (.int 0)]) _
      refine XS.iushr X2.here hx rfl (hb hby d3_25) rfl ?_
      show Go p e below T2 (mkF m 26 #[rv a, iv p1, .unset] [(.int 0)]) _
      refine XS.istoreN X2.here hx rfl (hb hby d3_26) rfl (l' := #[rv a, iv p1, iv 0]) rfl ?_
      show Go p e below T2 (mkF m 27 #[rv a, iv p1, iv 0] []) _
      refine XS.iloadN X2.here hx rfl (hb hby d3_27) rfl ?_
      show Go p e below T2 (mkF m 28 #[rv a, iv p1, iv 0] [(.int 0)]) _
      refine XS.aloadN X2.here hx rfl (hb hby d3_28) rfl rfl ?_
      show Go p e below T2 (mkF m 29 #[rv a, iv p1, iv 0] [(.ref a), (.int 0)]) _
      refine st3 _ ?_
      show Go p e below T3 (mkF m 32 #[rv a, iv p1, iv 0] [(.ref blk), (.int 0)]) _
      refine X3.arraylength hx (by rw [e3]; exact Ar4.1) (State.isArrayOf_alike hZ.alike Ar4.2.1) (g := (mkF m 32 #[rv a, iv p1, iv 0] [(.ref blk), (.int 0)])) rfl rfl (hb hby d3_32) _ ?_
      rw [len_of Sa4 Na4]
      show Go p e below T3 (mkF m 33 #[rv a, iv p1, iv 0] [(.int 16), (.int 0)]) _
      refine XS.icmpYes X3.here hx rfl (pc0 := 33) (pc' := 53) rfl (hb hby d3_33) rfl (feq ((by decide) : ¬ ((0 : Int32) = (16 : Int32)))).2 (by decide) (by decide) ?_
      show Go p e below T3 (mkF m 53 #[rv a, iv p1, iv 0] []) _
      refine XS.aloadN X3.here hx rfl (hb hby d3_53) rfl rfl ?_
      show Go p e below T3 (mkF m 54 #[rv a, iv p1, iv 0] [(.ref a)]) _
      refine st5 _ ?_
      show Go p e below T5 (mkF m 57 #[rv a, iv p1, iv 0] [(.ref blk)]) _
      refine XS.iloadN X5.here hx rfl (hb hby d3_57) rfl ?_
      show Go p e below T5 (mkF m 58 #[rv a, iv p1, iv 0] [(.int 0), (.ref blk)]) _
      refine X5.aaload hx (j := (0 : Int32)) (v := .null) (by rw [e5]; exact Ar6.1) (State.isArrayOf_alike hZ.alike Ar6.2.1) rfl Ar6.2.2 hin6 (Has.at Ha6 hin6 rfl) (g := (mkF m 58 #[rv a, iv p1, iv 0] [(.int 0), (.ref blk)])) rfl rfl (hb hby d3_58) _ ?_
      show Go p e below T5 (mkF m 59 #[rv a, iv p1, iv 0] [.null]) _
      refine XS.ifnonnullNo X5.here hx rfl (hb hby d3_59) rfl ?_
      show Go p e below T5 (mkF m 62 #[rv a, iv p1, iv 0] []) _
      refine XS.aloadN X5.here hx rfl (hb hby d3_62) rfl rfl ?_
      show Go p e below T5 (mkF m 63 #[rv a, iv p1, iv 0] [(.ref a)]) _
      refine st7 _ ?_
      show Go p e below T7 (mkF m 66 #[rv a, iv p1, iv 0] [(.ref blk)]) _
      refine XS.iloadN X7.here hx rfl (hb hby d3_66) rfl ?_
      show Go p e below T7 (mkF m 67 #[rv a, iv p1, iv 0] [(.int 0), (.ref blk)]) _
      refine X7.ldcInt hx hown (mvT hZ (hwi hw 21 rfl)) (g := (mkF m 67 #[rv a, iv p1, iv 0] [(.int 0), (.ref blk)])) rfl (hb hby d3_67) _ ?_
      show Go p e below T7 (mkF m 69 #[rv a, iv p1, iv 0] [(.int 65536), (.int 0), (.ref blk)]) _
      refine st8 _ ?_
      show Go p e below T8 (mkF m 71 #[rv a, iv p1, iv 0] [(.ref b8), (.int 0), (.ref blk)]) _
      refine st14 _ ?_
      show Go p e below T14 (mkF m 72 #[rv a, iv p1, iv 0] []) _
      refine XS.aloadN X14.here hx rfl (hb hby d3_72) rfl rfl ?_
      show Go p e below T14 (mkF m 73 #[rv a, iv p1, iv 0] [(.ref a)]) _
      refine st21 _ ?_
      show Go p e below T21 (mkF m 76 #[rv a, iv p1, iv 0] [(.ref blk)]) _
      refine XS.iloadN X21.here hx rfl (hb hby d3_76) rfl ?_
      show Go p e below T21 (mkF m 77 #[rv a, iv p1, iv 0] [(.int 0), (.ref blk)]) _
      refine X21.aaload hx (j := (0 : Int32)) (v := (.ref b8)) (by rw [e21]; exact Ar22.1) (State.isArrayOf_alike hZ.alike Ar22.2.1) rfl Ar22.2.2 hin22 (Has.at Ha22 hin22 rfl) (g := (mkF m 77 #[rv a, iv p1, iv 0] [(.int 0), (.ref blk)])) rfl rfl (hb hby d3_77) _ ?_
      show Go p e below T21 (mkF m 78 #[rv a, iv p1, iv 0] [(.ref b8)]) _
      refine XS.aloadN X21.here hx rfl (hb hby d3_78) rfl rfl ?_
      show Go p e below T21 (mkF m 79 #[rv a, iv p1, iv 0] [(.ref a), (.ref b8)]) _
      refine st23 _ ?_
      show Go p e below T23 (mkF m 82 #[rv a, iv p1, iv 0] [(.int 0), (.ref b8)]) _
      refine X23.ldcInt hx hown (mvT hZ (hwi hw 24 rfl)) (g := (mkF m 82 #[rv a, iv p1, iv 0] [(.int 0), (.ref b8)])) rfl (hb hby d3_82) _ ?_
      show Go p e below T23 (mkF m 84 #[rv a, iv p1, iv 0] [(.int 65535), (.int 0), (.ref b8)]) _
      refine XS.iand X23.here hx rfl (hb hby d3_84) rfl ?_
      show Go p e below T23 (mkF m 85 #[rv a, iv p1, iv 0] [(.int 0), (.ref b8)]) _
      refine XS.iloadN X23.here hx rfl (hb hby d3_85) rfl ?_
      show Go p e below T23 (mkF m 86 #[rv a, iv p1, iv 0] [(.int p1), (.int 0), (.ref b8)]) _
      refine st25 _ ?_
      show Go p e below T25 (mkF m 87 #[rv a, iv p1, iv 0] []) _
      refine XS.aloadN X25.here hx rfl (hb hby d3_87) rfl rfl ?_
      show Go p e below T25 (mkF m 88 #[rv a, iv p1, iv 0] [(.ref a)]) _
      refine XS.dup X25.here hx rfl (hb hby d3_88) rfl rfl ?_
      show Go p e below T25 (mkF m 89 #[rv a, iv p1, iv 0] [(.ref a), (.ref a)]) _
      refine st32 _ ?_
      show Go p e below T32 (mkF m 92 #[rv a, iv p1, iv 0] [(.int 0), (.ref a)]) _
      refine XS.iconst X32.here hx rfl (hb hby d3_92) ?_
      show Go p e below T32 (mkF m 93 #[rv a, iv p1, iv 0] [(.int 1), (.int 0), (.ref a)]) _
      refine XS.iadd X32.here hx rfl (hb hby d3_93) rfl ?_
      show Go p e below T32 (mkF m 94 #[rv a, iv p1, iv 0] [(.int 1), (.ref a)]) _
      refine st33 _ ?_
      show Go p e below T33 (mkF m 97 #[rv a, iv p1, iv 0] []) _
      exact kt)
  obtain ⟨fs, hr, hrun, hended, hW, hsame⟩ := X33.leave (v := none) (fun _ => rfl)
  refine ⟨_, _, pre41 _ ?_, hrun, hended, _, _, rfl, ?_, ⟨_, rfl⟩, hW, hsame.mono (by decide) (by decide)⟩
  · show Steps p.tables e below (T33.setTop (mkF m 97 #[rv a, iv p1, iv 0] [])) _
    exact X33.returnOut hx Bd.returns (hb hby d3_97) hr
  · show Q_rmA0 Z a p1 blk kb h0 n0 _ T33.heap _
    rw [e33]
    exact ⟨b8, k8, rfl, N33, K33, g_b8, sz_b8, ⟨f34, f35, f40, f37, O_b, f39, n_ab, ne_a_b8, ne_blk_b8⟩⟩
def Q_rmA1 (Z : State) (a : Addr) (p1 : Int32) (blk : Addr) (dat : Addr) (kb : ClassId) (kd : ClassId) (x : Int32) (y : Int32) (z : Int32) (h0 : Heap) (n0 : Nat) (v : Option Value) (h : Heap) (L : List Loc) : Prop := v = none ∧ Fr n0 L ∧ Keep h0 h [a, dat] ∧ Col Z h a blk dat kb kd 2 x p1 z
set_option maxRecDepth 65536 in
set_option maxHeartbeats 40000000 in
theorem rmA1 (l : Launch) (Z : State) (a0 : Array Value) (hw : ∀ d ∈ tables_1, d.before a0 Z = true) (ws : List Jvm.Cond) (a : Addr) (p1 : Int32) (blk : Addr) (dat : Addr) (kb : ClassId) (kd : ClassId) (x : Int32) (y : Int32) (z : Int32) (h0 : Heap) (n0 : Nat) (Z0 : n0 ≤ h0.size) (hC : Col Z h0 a blk dat kb kd 1 x y z) (g_a : n0 ≤ a) (g_d : n0 ≤ dat) :
    MetFree l (⟨"com/example/guarded_graph/guardedgraph/IntColumn", "add", "(I)V"⟩ : MethodName) (head1 (Jvm.Cond.code (⟨"com/example/guarded_graph/guardedgraph/IntColumn", "add", "(I)V"⟩ : MethodName) prog_8_method_2_code 3 none :: ws) ({ frames := 0, cells := 0, slots := 0, locals := 0 } : Room)) (fun av_ U_ => av_ = #[(.ref a), (.int p1)] ∧ Z.Warmed39 U_.vm ∧ U_.heap = h0) (fun _ _ _ _ _ => True) (fun _ U_ o_ V_ => ∃ v_ L_, o_ = .returned v_ ∧ Q_rmA1 Z a p1 blk dat kb kd x y z h0 n0 v_ V_.heap L_ ∧ FrameEnd U_ o_ V_ L_ ({ frames := 0, cells := 0, slots := 0, locals := 0 } : Room).cells ({ frames := 0, cells := 0, slots := 0, locals := 0 } : Room).slots) := by
  refine MetFree.of_bodySF (plainFor_of_name pn_com_example_guarded_graph_guardedgraph_IntColumn) hisR ?_
  intro p e s m args below meth c s₁ Bd hml0 hP hK
  obtain ⟨rfl, hZ, hh⟩ := hP
  have hx := Bd.exec
  have hby := Bd.bytes
  have hml : c.maxLocals = 3 := hml0
  have hown : s.vm.findClass "com/example/guarded_graph/guardedgraph/IntColumn" = some m.cls := findClass_of_methodNamed Bd.named
  have hnm := (name_of_methodNamed Bd.named Bd.method).1
  have X0 : Stand p l e ({ frames := 0, cells := 0, slots := 0, locals := 0 } : Room) s m #[(.ref a), (.int p1)] below meth c s₁ [] 0 0 := Stand.of_body Bd
  have e0 : s₁.heap = h0 := by rw [← hh, Bd.state]; rfl
  have N0 := Fr.nil n0
  have pre0 : ∀ t_, Go p e below s₁ (mkF m 0 #[rv a, iv p1, .unset] []) t_ → Go p e below s₁ (entryFrame m #[(.ref a), (.int p1)] 3) t_ := fun t_ kt => castTop (ef_3 m a p1) kt
  obtain ⟨E_a, F_b, F_s, V_b, O_b, V_d, n_ab, n_ad, n_bd⟩ := hC
  obtain ⟨T1, X1, e1, st1⟩ := getF X0 hx hZ hown (host := "") (Or.inl (hwi hw 18 rfl)) Via.refl e0 F_s (g := (mkF m 1 #[rv a, iv p1, .unset] [(.ref a)])) rfl rfl (hb hby d3_1)
  obtain ⟨T2, X2, e2, st2⟩ := getF X1 hx hZ hown (host := "") (Or.inl (hwi hw 18 rfl)) Via.refl e1 F_s (g := (mkF m 20 #[rv a, iv p1, .unset] [(.ref a)])) rfl rfl (hb hby d3_20)
  obtain ⟨T3, X3, e3, st3⟩ := getF X2 hx hZ hown (host := "") (Or.inl (hwi hw 11 rfl)) Via.refl e2 F_b (g := (mkF m 29 #[rv a, iv p1, iv 0] [(.ref a), (.int 0)])) rfl rfl (hb hby d3_29)
  obtain ⟨cl4, Ar4, qa4, Sa4, Na4, Ha4, Ga4⟩ := V_b
  have V4 : Arv Z h0 blk kb (.array .int) (16 : Int32) [(.ref dat)] .null := ⟨cl4, Ar4, qa4, Sa4, Na4, Ha4, Ga4⟩
  obtain ⟨T5, X5, e5, st5⟩ := getF X3 hx hZ hown (host := "") (Or.inl (hwi hw 11 rfl)) Via.refl e3 F_b (g := (mkF m 54 #[rv a, iv p1, iv 0] [(.ref a)])) rfl rfl (hb hby d3_54)
  obtain ⟨cl6, Ar6, qa6, Sa6, Na6, Ha6, Ga6⟩ := V4
  have hin6 : ¬ ((0 : Int32) < 0 ∨ cl6.slots.size ≤ ((0 : Int32)).toNatClampNeg) := inb_of Sa6 ⟨by decide, by decide⟩
  have V6 : Arv Z h0 blk kb (.array .int) (16 : Int32) [(.ref dat)] .null := ⟨cl6, Ar6, qa6, Sa6, Na6, Ha6, Ga6⟩
  obtain ⟨T7, X7, e7, st7⟩ := getF X5 hx hZ hown (host := "") (Or.inl (hwi hw 11 rfl)) Via.refl e5 F_b (g := (mkF m 73 #[rv a, iv p1, iv 0] [(.ref a)])) rfl rfl (hb hby d3_73)
  obtain ⟨cl8, Ar8, qa8, Sa8, Na8, Ha8, Ga8⟩ := V6
  have hin8 : ¬ ((0 : Int32) < 0 ∨ cl8.slots.size ≤ ((0 : Int32)).toNatClampNeg) := inb_of Sa8 ⟨by decide, by decide⟩
  have V8 : Arv Z h0 blk kb (.array .int) (16 : Int32) [(.ref dat)] .null := ⟨cl8, Ar8, qa8, Sa8, Na8, Ha8, Ga8⟩
  obtain ⟨T9, X9, e9, st9⟩ := getF X7 hx hZ hown (host := "") (Or.inl (hwi hw 18 rfl)) Via.refl e7 F_s (g := (mkF m 79 #[rv a, iv p1, iv 0] [(.ref a), (.ref dat)])) rfl rfl (hb hby d3_79)
  obtain ⟨cl10, Ar10, qa10, Sa10, Na10, Ha10, Ga10⟩ := V_d
  have hin10 : ¬ ((1 : Int32) < 0 ∨ cl10.slots.size ≤ ((1 : Int32)).toNatClampNeg) := inb_of Sa10 ⟨by decide, by decide⟩
  obtain ⟨T11, h11, X11, e11, W11, st11⟩ := stI X9 hx hZ e9 Ar10 (j := (1 : Int32)) hin10 (g := (mkF m 86 #[rv a, iv p1, iv 0] [(.int p1), (.int 1), (.ref dat)])) rfl rfl (hb hby d3_86)
  have f12 := E_a.wr W11
  have f13 := F_b.other W11 (Or.inl n_ad)
  have f14 := F_s.other W11 (Or.inl n_ad)
  have f15 := V8.other W11 n_bd
  have K11 : Keep h0 h11 [a, dat] := (Keep.refl h0 [a, dat]).wr W11 (Or.inl (List.mem_of_getElem? (i := 1) rfl))
  have N11 := Fr.snoc X11 N0 g_d
  have V11 : Arv Z h11 dat kd .int (65536 : Int32) [(.int x), (.int p1), (.int z)] (.int 0) := Arv.set Ar10 qa10 Sa10 Na10 Ha10 Ga10 rfl W11 1 rfl (Nat.le_of_ble_eq_true rfl)
  obtain ⟨T17, X17, e17, st17⟩ := getF X11 hx hZ hown (host := "") (Or.inl (hwi hw 18 rfl)) Via.refl e11 f14 (g := (mkF m 89 #[rv a, iv p1, iv 0] [(.ref a), (.ref a)])) rfl rfl (hb hby d3_89)
  obtain ⟨T18, h18, X18, e18, W18, st18⟩ := putF X17 hx hZ hown (host := "") (Or.inl (hwi hw 18 rfl)) Via.refl e17 f14 f12 (Or.inl (hwi hw 19 rfl)) (hwi hw 1 rfl) (ty := .int) (by decide) rfl rfl (g := (mkF m 94 #[rv a, iv p1, iv 0] [(.int 2), (.ref a)])) rfl rfl (hb hby d3_94)
  have f19 := f12.wr W18
  have f20 := f13.other W18 (Or.inr (slot_ne (Or.inl (hwi hw 12 rfl)) (Or.inl (hwi hw 19 rfl)) (by decide) (t := (.array (.array .int))) (t' := .int) (by decide) (by decide)))
  have f22 := f15.other W18 (Ne.symm n_ab)
  have f23 := V11.other W18 (Ne.symm n_ad)
  have K18 : Keep h0 h18 [a, dat] := K11.wr W18 (Or.inl (List.mem_of_getElem? (i := 0) rfl))
  have N18 := Fr.snoc X18 N11 g_a
  have f24 : Fld Z h18 a "com/example/guarded_graph/guardedgraph/IntColumn" "size" "I" (.int 2) := f14.same W18
  have pre25 : ∀ t_, Go p e below T18 (mkF m 97 #[rv a, iv p1, iv 0] []) t_ → Go p e below s₁ (entryFrame m #[(.ref a), (.int p1)] 3) t_ := fun t_ kt => pre0 _ (by
      show Go p e below s₁ (mkF m 0 #[rv a, iv p1, .unset] []) _
      refine XS.aloadN X0.here hx rfl (hb hby d3_0) rfl rfl ?_
      show Go p e below s₁ (mkF m 1 #[rv a, iv p1, .unset] [(.ref a)]) _
      refine st1 _ ?_
      show Go p e below T1 (mkF m 4 #[rv a, iv p1, .unset] [(.int 1)]) _
      refine X1.ldcInt hx hown (mvT hZ (hwi hw 20 rfl)) (g := (mkF m 4 #[rv a, iv p1, .unset] [(.int 1)])) rfl (hb hby d3_4) _ ?_
      show Go p e below T1 (mkF m 6 #[rv a, iv p1, .unset] [(.int 2147483647), (.int 1)]) _
      refine XS.icmpYes X1.here hx rfl (pc0 := 6) (pc' := 19) rfl (hb hby d3_6) rfl (feq ((by decide) : ¬ ((1 : Int32) = (2147483647 : Int32)))).2 (by decide) (by decide) ?_
      show Go p e below T1 (mkF m 19 #[rv a, iv p1, .unset] []) _
      refine XS.aloadN X1.here hx rfl (hb hby d3_19) rfl rfl ?_
      show Go p e below T1 (mkF m 20 #[rv a, iv p1, .unset] [(.ref a)]) _
      refine st2 _ ?_
      show Go p e below T2 (mkF m 23 #[rv a, iv p1, .unset] [(.int 1)]) _
      refine XS.bipush X2.here hx rfl (hb hby d3_23) ?_
      show Go p e below T2 (mkF m 25 #[rv a, iv p1, .unset] [(.int 16), (.int 1)]) _
      refine XS.iushr X2.here hx rfl (hb hby d3_25) rfl ?_
      show Go p e below T2 (mkF m 26 #[rv a, iv p1, .unset] [(.int 0)]) _
      refine XS.istoreN X2.here hx rfl (hb hby d3_26) rfl (l' := #[rv a, iv p1, iv 0]) rfl ?_
      show Go p e below T2 (mkF m 27 #[rv a, iv p1, iv 0] []) _
      refine XS.iloadN X2.here hx rfl (hb hby d3_27) rfl ?_
      show Go p e below T2 (mkF m 28 #[rv a, iv p1, iv 0] [(.int 0)]) _
      refine XS.aloadN X2.here hx rfl (hb hby d3_28) rfl rfl ?_
      show Go p e below T2 (mkF m 29 #[rv a, iv p1, iv 0] [(.ref a), (.int 0)]) _
      refine st3 _ ?_
      show Go p e below T3 (mkF m 32 #[rv a, iv p1, iv 0] [(.ref blk), (.int 0)]) _
      refine X3.arraylength hx (by rw [e3]; exact Ar4.1) (State.isArrayOf_alike hZ.alike Ar4.2.1) (g := (mkF m 32 #[rv a, iv p1, iv 0] [(.ref blk), (.int 0)])) rfl rfl (hb hby d3_32) _ ?_
      rw [len_of Sa4 Na4]
      show Go p e below T3 (mkF m 33 #[rv a, iv p1, iv 0] [(.int 16), (.int 0)]) _
      refine XS.icmpYes X3.here hx rfl (pc0 := 33) (pc' := 53) rfl (hb hby d3_33) rfl (feq ((by decide) : ¬ ((0 : Int32) = (16 : Int32)))).2 (by decide) (by decide) ?_
      show Go p e below T3 (mkF m 53 #[rv a, iv p1, iv 0] []) _
      refine XS.aloadN X3.here hx rfl (hb hby d3_53) rfl rfl ?_
      show Go p e below T3 (mkF m 54 #[rv a, iv p1, iv 0] [(.ref a)]) _
      refine st5 _ ?_
      show Go p e below T5 (mkF m 57 #[rv a, iv p1, iv 0] [(.ref blk)]) _
      refine XS.iloadN X5.here hx rfl (hb hby d3_57) rfl ?_
      show Go p e below T5 (mkF m 58 #[rv a, iv p1, iv 0] [(.int 0), (.ref blk)]) _
      refine X5.aaload hx (j := (0 : Int32)) (v := (.ref dat)) (by rw [e5]; exact Ar6.1) (State.isArrayOf_alike hZ.alike Ar6.2.1) rfl Ar6.2.2 hin6 (Has.at Ha6 hin6 rfl) (g := (mkF m 58 #[rv a, iv p1, iv 0] [(.int 0), (.ref blk)])) rfl rfl (hb hby d3_58) _ ?_
      show Go p e below T5 (mkF m 59 #[rv a, iv p1, iv 0] [(.ref dat)]) _
      refine XS.ifnonnullYes X5.here hx rfl (pc0 := 59) (pc' := 72) rfl (hb hby d3_59) rfl (by decide) (by decide) ?_
      show Go p e below T5 (mkF m 72 #[rv a, iv p1, iv 0] []) _
      refine XS.aloadN X5.here hx rfl (hb hby d3_72) rfl rfl ?_
      show Go p e below T5 (mkF m 73 #[rv a, iv p1, iv 0] [(.ref a)]) _
      refine st7 _ ?_
      show Go p e below T7 (mkF m 76 #[rv a, iv p1, iv 0] [(.ref blk)]) _
      refine XS.iloadN X7.here hx rfl (hb hby d3_76) rfl ?_
      show Go p e below T7 (mkF m 77 #[rv a, iv p1, iv 0] [(.int 0), (.ref blk)]) _
      refine X7.aaload hx (j := (0 : Int32)) (v := (.ref dat)) (by rw [e7]; exact Ar8.1) (State.isArrayOf_alike hZ.alike Ar8.2.1) rfl Ar8.2.2 hin8 (Has.at Ha8 hin8 rfl) (g := (mkF m 77 #[rv a, iv p1, iv 0] [(.int 0), (.ref blk)])) rfl rfl (hb hby d3_77) _ ?_
      show Go p e below T7 (mkF m 78 #[rv a, iv p1, iv 0] [(.ref dat)]) _
      refine XS.aloadN X7.here hx rfl (hb hby d3_78) rfl rfl ?_
      show Go p e below T7 (mkF m 79 #[rv a, iv p1, iv 0] [(.ref a), (.ref dat)]) _
      refine st9 _ ?_
      show Go p e below T9 (mkF m 82 #[rv a, iv p1, iv 0] [(.int 1), (.ref dat)]) _
      refine X9.ldcInt hx hown (mvT hZ (hwi hw 24 rfl)) (g := (mkF m 82 #[rv a, iv p1, iv 0] [(.int 1), (.ref dat)])) rfl (hb hby d3_82) _ ?_
      show Go p e below T9 (mkF m 84 #[rv a, iv p1, iv 0] [(.int 65535), (.int 1), (.ref dat)]) _
      refine XS.iand X9.here hx rfl (hb hby d3_84) rfl ?_
      show Go p e below T9 (mkF m 85 #[rv a, iv p1, iv 0] [(.int 1), (.ref dat)]) _
      refine XS.iloadN X9.here hx rfl (hb hby d3_85) rfl ?_
      show Go p e below T9 (mkF m 86 #[rv a, iv p1, iv 0] [(.int p1), (.int 1), (.ref dat)]) _
      refine st11 _ ?_
      show Go p e below T11 (mkF m 87 #[rv a, iv p1, iv 0] []) _
      refine XS.aloadN X11.here hx rfl (hb hby d3_87) rfl rfl ?_
      show Go p e below T11 (mkF m 88 #[rv a, iv p1, iv 0] [(.ref a)]) _
      refine XS.dup X11.here hx rfl (hb hby d3_88) rfl rfl ?_
      show Go p e below T11 (mkF m 89 #[rv a, iv p1, iv 0] [(.ref a), (.ref a)]) _
      refine st17 _ ?_
      show Go p e below T17 (mkF m 92 #[rv a, iv p1, iv 0] [(.int 1), (.ref a)]) _
      refine XS.iconst X17.here hx rfl (hb hby d3_92) ?_
      show Go p e below T17 (mkF m 93 #[rv a, iv p1, iv 0] [(.int 1), (.int 1), (.ref a)]) _
      refine XS.iadd X17.here hx rfl (hb hby d3_93) rfl ?_
      show Go p e below T17 (mkF m 94 #[rv a, iv p1, iv 0] [(.int 2), (.ref a)]) _
      refine st18 _ ?_
      show Go p e below T18 (mkF m 97 #[rv a, iv p1, iv 0] []) _
      exact kt)
  obtain ⟨fs, hr, hrun, hended, hW, hsame⟩ := X18.leave (v := none) (fun _ => rfl)
  refine ⟨_, _, pre25 _ ?_, hrun, hended, _, _, rfl, ?_, ⟨_, rfl⟩, hW, hsame.mono (by decide) (by decide)⟩
  · show Steps p.tables e below (T18.setTop (mkF m 97 #[rv a, iv p1, iv 0] [])) _
    exact X18.returnOut hx Bd.returns (hb hby d3_97) hr
  · show Q_rmA1 Z a p1 blk dat kb kd x y z h0 n0 _ T18.heap _
    rw [e18]
    exact ⟨rfl, N18, K18, ⟨f19, f20, f24, f22, O_b, f23, n_ab, n_ad, n_bd⟩⟩
def Q_rmA2 (Z : State) (a : Addr) (p1 : Int32) (blk : Addr) (dat : Addr) (kb : ClassId) (kd : ClassId) (x : Int32) (y : Int32) (z : Int32) (h0 : Heap) (n0 : Nat) (v : Option Value) (h : Heap) (L : List Loc) : Prop := v = none ∧ Fr n0 L ∧ Keep h0 h [a, dat] ∧ Col Z h a blk dat kb kd 3 x y p1
set_option maxRecDepth 65536 in
set_option maxHeartbeats 40000000 in
theorem rmA2 (l : Launch) (Z : State) (a0 : Array Value) (hw : ∀ d ∈ tables_1, d.before a0 Z = true) (ws : List Jvm.Cond) (a : Addr) (p1 : Int32) (blk : Addr) (dat : Addr) (kb : ClassId) (kd : ClassId) (x : Int32) (y : Int32) (z : Int32) (h0 : Heap) (n0 : Nat) (Z0 : n0 ≤ h0.size) (hC : Col Z h0 a blk dat kb kd 2 x y z) (g_a : n0 ≤ a) (g_d : n0 ≤ dat) :
    MetFree l (⟨"com/example/guarded_graph/guardedgraph/IntColumn", "add", "(I)V"⟩ : MethodName) (head1 (Jvm.Cond.code (⟨"com/example/guarded_graph/guardedgraph/IntColumn", "add", "(I)V"⟩ : MethodName) prog_8_method_2_code 3 none :: ws) ({ frames := 0, cells := 0, slots := 0, locals := 0 } : Room)) (fun av_ U_ => av_ = #[(.ref a), (.int p1)] ∧ Z.Warmed39 U_.vm ∧ U_.heap = h0) (fun _ _ _ _ _ => True) (fun _ U_ o_ V_ => ∃ v_ L_, o_ = .returned v_ ∧ Q_rmA2 Z a p1 blk dat kb kd x y z h0 n0 v_ V_.heap L_ ∧ FrameEnd U_ o_ V_ L_ ({ frames := 0, cells := 0, slots := 0, locals := 0 } : Room).cells ({ frames := 0, cells := 0, slots := 0, locals := 0 } : Room).slots) := by
  refine MetFree.of_bodySF (plainFor_of_name pn_com_example_guarded_graph_guardedgraph_IntColumn) hisR ?_
  intro p e s m args below meth c s₁ Bd hml0 hP hK
  obtain ⟨rfl, hZ, hh⟩ := hP
  have hx := Bd.exec
  have hby := Bd.bytes
  have hml : c.maxLocals = 3 := hml0
  have hown : s.vm.findClass "com/example/guarded_graph/guardedgraph/IntColumn" = some m.cls := findClass_of_methodNamed Bd.named
  have hnm := (name_of_methodNamed Bd.named Bd.method).1
  have X0 : Stand p l e ({ frames := 0, cells := 0, slots := 0, locals := 0 } : Room) s m #[(.ref a), (.int p1)] below meth c s₁ [] 0 0 := Stand.of_body Bd
  have e0 : s₁.heap = h0 := by rw [← hh, Bd.state]; rfl
  have N0 := Fr.nil n0
  have pre0 : ∀ t_, Go p e below s₁ (mkF m 0 #[rv a, iv p1, .unset] []) t_ → Go p e below s₁ (entryFrame m #[(.ref a), (.int p1)] 3) t_ := fun t_ kt => castTop (ef_3 m a p1) kt
  obtain ⟨E_a, F_b, F_s, V_b, O_b, V_d, n_ab, n_ad, n_bd⟩ := hC
  obtain ⟨T1, X1, e1, st1⟩ := getF X0 hx hZ hown (host := "") (Or.inl (hwi hw 18 rfl)) Via.refl e0 F_s (g := (mkF m 1 #[rv a, iv p1, .unset] [(.ref a)])) rfl rfl (hb hby d3_1)
  obtain ⟨T2, X2, e2, st2⟩ := getF X1 hx hZ hown (host := "") (Or.inl (hwi hw 18 rfl)) Via.refl e1 F_s (g := (mkF m 20 #[rv a, iv p1, .unset] [(.ref a)])) rfl rfl (hb hby d3_20)
  obtain ⟨T3, X3, e3, st3⟩ := getF X2 hx hZ hown (host := "") (Or.inl (hwi hw 11 rfl)) Via.refl e2 F_b (g := (mkF m 29 #[rv a, iv p1, iv 0] [(.ref a), (.int 0)])) rfl rfl (hb hby d3_29)
  obtain ⟨cl4, Ar4, qa4, Sa4, Na4, Ha4, Ga4⟩ := V_b
  have V4 : Arv Z h0 blk kb (.array .int) (16 : Int32) [(.ref dat)] .null := ⟨cl4, Ar4, qa4, Sa4, Na4, Ha4, Ga4⟩
  obtain ⟨T5, X5, e5, st5⟩ := getF X3 hx hZ hown (host := "") (Or.inl (hwi hw 11 rfl)) Via.refl e3 F_b (g := (mkF m 54 #[rv a, iv p1, iv 0] [(.ref a)])) rfl rfl (hb hby d3_54)
  obtain ⟨cl6, Ar6, qa6, Sa6, Na6, Ha6, Ga6⟩ := V4
  have hin6 : ¬ ((0 : Int32) < 0 ∨ cl6.slots.size ≤ ((0 : Int32)).toNatClampNeg) := inb_of Sa6 ⟨by decide, by decide⟩
  have V6 : Arv Z h0 blk kb (.array .int) (16 : Int32) [(.ref dat)] .null := ⟨cl6, Ar6, qa6, Sa6, Na6, Ha6, Ga6⟩
  obtain ⟨T7, X7, e7, st7⟩ := getF X5 hx hZ hown (host := "") (Or.inl (hwi hw 11 rfl)) Via.refl e5 F_b (g := (mkF m 73 #[rv a, iv p1, iv 0] [(.ref a)])) rfl rfl (hb hby d3_73)
  obtain ⟨cl8, Ar8, qa8, Sa8, Na8, Ha8, Ga8⟩ := V6
  have hin8 : ¬ ((0 : Int32) < 0 ∨ cl8.slots.size ≤ ((0 : Int32)).toNatClampNeg) := inb_of Sa8 ⟨by decide, by decide⟩
  have V8 : Arv Z h0 blk kb (.array .int) (16 : Int32) [(.ref dat)] .null := ⟨cl8, Ar8, qa8, Sa8, Na8, Ha8, Ga8⟩
  obtain ⟨T9, X9, e9, st9⟩ := getF X7 hx hZ hown (host := "") (Or.inl (hwi hw 18 rfl)) Via.refl e7 F_s (g := (mkF m 79 #[rv a, iv p1, iv 0] [(.ref a), (.ref dat)])) rfl rfl (hb hby d3_79)
  obtain ⟨cl10, Ar10, qa10, Sa10, Na10, Ha10, Ga10⟩ := V_d
  have hin10 : ¬ ((2 : Int32) < 0 ∨ cl10.slots.size ≤ ((2 : Int32)).toNatClampNeg) := inb_of Sa10 ⟨by decide, by decide⟩
  obtain ⟨T11, h11, X11, e11, W11, st11⟩ := stI X9 hx hZ e9 Ar10 (j := (2 : Int32)) hin10 (g := (mkF m 86 #[rv a, iv p1, iv 0] [(.int p1), (.int 2), (.ref dat)])) rfl rfl (hb hby d3_86)
  have f12 := E_a.wr W11
  have f13 := F_b.other W11 (Or.inl n_ad)
  have f14 := F_s.other W11 (Or.inl n_ad)
  have f15 := V8.other W11 n_bd
  have K11 : Keep h0 h11 [a, dat] := (Keep.refl h0 [a, dat]).wr W11 (Or.inl (List.mem_of_getElem? (i := 1) rfl))
  have N11 := Fr.snoc X11 N0 g_d
  have V11 : Arv Z h11 dat kd .int (65536 : Int32) [(.int x), (.int y), (.int p1)] (.int 0) := Arv.set Ar10 qa10 Sa10 Na10 Ha10 Ga10 rfl W11 2 rfl (Nat.le_of_ble_eq_true rfl)
  obtain ⟨T17, X17, e17, st17⟩ := getF X11 hx hZ hown (host := "") (Or.inl (hwi hw 18 rfl)) Via.refl e11 f14 (g := (mkF m 89 #[rv a, iv p1, iv 0] [(.ref a), (.ref a)])) rfl rfl (hb hby d3_89)
  obtain ⟨T18, h18, X18, e18, W18, st18⟩ := putF X17 hx hZ hown (host := "") (Or.inl (hwi hw 18 rfl)) Via.refl e17 f14 f12 (Or.inl (hwi hw 19 rfl)) (hwi hw 1 rfl) (ty := .int) (by decide) rfl rfl (g := (mkF m 94 #[rv a, iv p1, iv 0] [(.int 3), (.ref a)])) rfl rfl (hb hby d3_94)
  have f19 := f12.wr W18
  have f20 := f13.other W18 (Or.inr (slot_ne (Or.inl (hwi hw 12 rfl)) (Or.inl (hwi hw 19 rfl)) (by decide) (t := (.array (.array .int))) (t' := .int) (by decide) (by decide)))
  have f22 := f15.other W18 (Ne.symm n_ab)
  have f23 := V11.other W18 (Ne.symm n_ad)
  have K18 : Keep h0 h18 [a, dat] := K11.wr W18 (Or.inl (List.mem_of_getElem? (i := 0) rfl))
  have N18 := Fr.snoc X18 N11 g_a
  have f24 : Fld Z h18 a "com/example/guarded_graph/guardedgraph/IntColumn" "size" "I" (.int 3) := f14.same W18
  have pre25 : ∀ t_, Go p e below T18 (mkF m 97 #[rv a, iv p1, iv 0] []) t_ → Go p e below s₁ (entryFrame m #[(.ref a), (.int p1)] 3) t_ := fun t_ kt => pre0 _ (by
      show Go p e below s₁ (mkF m 0 #[rv a, iv p1, .unset] []) _
      refine XS.aloadN X0.here hx rfl (hb hby d3_0) rfl rfl ?_
      show Go p e below s₁ (mkF m 1 #[rv a, iv p1, .unset] [(.ref a)]) _
      refine st1 _ ?_
      show Go p e below T1 (mkF m 4 #[rv a, iv p1, .unset] [(.int 2)]) _
      refine X1.ldcInt hx hown (mvT hZ (hwi hw 20 rfl)) (g := (mkF m 4 #[rv a, iv p1, .unset] [(.int 2)])) rfl (hb hby d3_4) _ ?_
      show Go p e below T1 (mkF m 6 #[rv a, iv p1, .unset] [(.int 2147483647), (.int 2)]) _
      refine XS.icmpYes X1.here hx rfl (pc0 := 6) (pc' := 19) rfl (hb hby d3_6) rfl (feq ((by decide) : ¬ ((2 : Int32) = (2147483647 : Int32)))).2 (by decide) (by decide) ?_
      show Go p e below T1 (mkF m 19 #[rv a, iv p1, .unset] []) _
      refine XS.aloadN X1.here hx rfl (hb hby d3_19) rfl rfl ?_
      show Go p e below T1 (mkF m 20 #[rv a, iv p1, .unset] [(.ref a)]) _
      refine st2 _ ?_
      show Go p e below T2 (mkF m 23 #[rv a, iv p1, .unset] [(.int 2)]) _
      refine XS.bipush X2.here hx rfl (hb hby d3_23) ?_
      show Go p e below T2 (mkF m 25 #[rv a, iv p1, .unset] [(.int 16), (.int 2)]) _
      refine XS.iushr X2.here hx rfl (hb hby d3_25) rfl ?_
      show Go p e below T2 (mkF m 26 #[rv a, iv p1, .unset] [(.int 0)]) _
      refine XS.istoreN X2.here hx rfl (hb hby d3_26) rfl (l' := #[rv a, iv p1, iv 0]) rfl ?_
      show Go p e below T2 (mkF m 27 #[rv a, iv p1, iv 0] []) _
      refine XS.iloadN X2.here hx rfl (hb hby d3_27) rfl ?_
      show Go p e below T2 (mkF m 28 #[rv a, iv p1, iv 0] [(.int 0)]) _
      refine XS.aloadN X2.here hx rfl (hb hby d3_28) rfl rfl ?_
      show Go p e below T2 (mkF m 29 #[rv a, iv p1, iv 0] [(.ref a), (.int 0)]) _
      refine st3 _ ?_
      show Go p e below T3 (mkF m 32 #[rv a, iv p1, iv 0] [(.ref blk), (.int 0)]) _
      refine X3.arraylength hx (by rw [e3]; exact Ar4.1) (State.isArrayOf_alike hZ.alike Ar4.2.1) (g := (mkF m 32 #[rv a, iv p1, iv 0] [(.ref blk), (.int 0)])) rfl rfl (hb hby d3_32) _ ?_
      rw [len_of Sa4 Na4]
      show Go p e below T3 (mkF m 33 #[rv a, iv p1, iv 0] [(.int 16), (.int 0)]) _
      refine XS.icmpYes X3.here hx rfl (pc0 := 33) (pc' := 53) rfl (hb hby d3_33) rfl (feq ((by decide) : ¬ ((0 : Int32) = (16 : Int32)))).2 (by decide) (by decide) ?_
      show Go p e below T3 (mkF m 53 #[rv a, iv p1, iv 0] []) _
      refine XS.aloadN X3.here hx rfl (hb hby d3_53) rfl rfl ?_
      show Go p e below T3 (mkF m 54 #[rv a, iv p1, iv 0] [(.ref a)]) _
      refine st5 _ ?_
      show Go p e below T5 (mkF m 57 #[rv a, iv p1, iv 0] [(.ref blk)]) _
      refine XS.iloadN X5.here hx rfl (hb hby d3_57) rfl ?_
      show Go p e below T5 (mkF m 58 #[rv a, iv p1, iv 0] [(.int 0), (.ref blk)]) _
      refine X5.aaload hx (j := (0 : Int32)) (v := (.ref dat)) (by rw [e5]; exact Ar6.1) (State.isArrayOf_alike hZ.alike Ar6.2.1) rfl Ar6.2.2 hin6 (Has.at Ha6 hin6 rfl) (g := (mkF m 58 #[rv a, iv p1, iv 0] [(.int 0), (.ref blk)])) rfl rfl (hb hby d3_58) _ ?_
      show Go p e below T5 (mkF m 59 #[rv a, iv p1, iv 0] [(.ref dat)]) _
      refine XS.ifnonnullYes X5.here hx rfl (pc0 := 59) (pc' := 72) rfl (hb hby d3_59) rfl (by decide) (by decide) ?_
      show Go p e below T5 (mkF m 72 #[rv a, iv p1, iv 0] []) _
      refine XS.aloadN X5.here hx rfl (hb hby d3_72) rfl rfl ?_
      show Go p e below T5 (mkF m 73 #[rv a, iv p1, iv 0] [(.ref a)]) _
      refine st7 _ ?_
      show Go p e below T7 (mkF m 76 #[rv a, iv p1, iv 0] [(.ref blk)]) _
      refine XS.iloadN X7.here hx rfl (hb hby d3_76) rfl ?_
      show Go p e below T7 (mkF m 77 #[rv a, iv p1, iv 0] [(.int 0), (.ref blk)]) _
      refine X7.aaload hx (j := (0 : Int32)) (v := (.ref dat)) (by rw [e7]; exact Ar8.1) (State.isArrayOf_alike hZ.alike Ar8.2.1) rfl Ar8.2.2 hin8 (Has.at Ha8 hin8 rfl) (g := (mkF m 77 #[rv a, iv p1, iv 0] [(.int 0), (.ref blk)])) rfl rfl (hb hby d3_77) _ ?_
      show Go p e below T7 (mkF m 78 #[rv a, iv p1, iv 0] [(.ref dat)]) _
      refine XS.aloadN X7.here hx rfl (hb hby d3_78) rfl rfl ?_
      show Go p e below T7 (mkF m 79 #[rv a, iv p1, iv 0] [(.ref a), (.ref dat)]) _
      refine st9 _ ?_
      show Go p e below T9 (mkF m 82 #[rv a, iv p1, iv 0] [(.int 2), (.ref dat)]) _
      refine X9.ldcInt hx hown (mvT hZ (hwi hw 24 rfl)) (g := (mkF m 82 #[rv a, iv p1, iv 0] [(.int 2), (.ref dat)])) rfl (hb hby d3_82) _ ?_
      show Go p e below T9 (mkF m 84 #[rv a, iv p1, iv 0] [(.int 65535), (.int 2), (.ref dat)]) _
      refine XS.iand X9.here hx rfl (hb hby d3_84) rfl ?_
      show Go p e below T9 (mkF m 85 #[rv a, iv p1, iv 0] [(.int 2), (.ref dat)]) _
      refine XS.iloadN X9.here hx rfl (hb hby d3_85) rfl ?_
      show Go p e below T9 (mkF m 86 #[rv a, iv p1, iv 0] [(.int p1), (.int 2), (.ref dat)]) _
      refine st11 _ ?_
      show Go p e below T11 (mkF m 87 #[rv a, iv p1, iv 0] []) _
      refine XS.aloadN X11.here hx rfl (hb hby d3_87) rfl rfl ?_
      show Go p e below T11 (mkF m 88 #[rv a, iv p1, iv 0] [(.ref a)]) _
      refine XS.dup X11.here hx rfl (hb hby d3_88) rfl rfl ?_
      show Go p e below T11 (mkF m 89 #[rv a, iv p1, iv 0] [(.ref a), (.ref a)]) _
      refine st17 _ ?_
      show Go p e below T17 (mkF m 92 #[rv a, iv p1, iv 0] [(.int 2), (.ref a)]) _
      refine XS.iconst X17.here hx rfl (hb hby d3_92) ?_
      show Go p e below T17 (mkF m 93 #[rv a, iv p1, iv 0] [(.int 1), (.int 2), (.ref a)]) _
      refine XS.iadd X17.here hx rfl (hb hby d3_93) rfl ?_
      show Go p e below T17 (mkF m 94 #[rv a, iv p1, iv 0] [(.int 3), (.ref a)]) _
      refine st18 _ ?_
      show Go p e below T18 (mkF m 97 #[rv a, iv p1, iv 0] []) _
      exact kt)
  obtain ⟨fs, hr, hrun, hended, hW, hsame⟩ := X18.leave (v := none) (fun _ => rfl)
  refine ⟨_, _, pre25 _ ?_, hrun, hended, _, _, rfl, ?_, ⟨_, rfl⟩, hW, hsame.mono (by decide) (by decide)⟩
  · show Steps p.tables e below (T18.setTop (mkF m 97 #[rv a, iv p1, iv 0] [])) _
    exact X18.returnOut hx Bd.returns (hb hby d3_97) hr
  · show Q_rmA2 Z a p1 blk dat kb kd x y z h0 n0 _ T18.heap _
    rw [e18]
    exact ⟨rfl, N18, K18, ⟨f19, f20, f24, f22, O_b, f23, n_ab, n_ad, n_bd⟩⟩
theorem ef_4 (m : MethodId) (x0 : Addr) (x1 : Int32) (x2 : Int32) : entryFrame m #[(.ref x0), (.int x1), (.int x2)] 3 = mkF m 0 #[.val (.ref x0), .val (.int x1), .val (.int x2)] [] := by first | (simp [entryFrame, mkF, argsToLocals, Value.category]; done) | rfl
theorem d4_0 : decode prog_8_method_4_code 0 = .ok (.aload_n 0, 1) := by decide +kernel
theorem d4_1 : decode prog_8_method_4_code 1 = .ok (.getfield 11, 3) := by decide +kernel
theorem d4_4 : decode prog_8_method_4_code 4 = .ok (.iload_n 1, 1) := by decide +kernel
theorem d4_5 : decode prog_8_method_4_code 5 = .ok (.bipush 16, 2) := by decide +kernel
theorem d4_7 : decode prog_8_method_4_code 7 = .ok (.iushr, 1) := by decide +kernel
theorem d4_8 : decode prog_8_method_4_code 8 = .ok (.aaload, 1) := by decide +kernel
theorem d4_9 : decode prog_8_method_4_code 9 = .ok (.iload_n 1, 1) := by decide +kernel
theorem d4_10 : decode prog_8_method_4_code 10 = .ok (.ldc 37, 2) := by decide +kernel
theorem d4_12 : decode prog_8_method_4_code 12 = .ok (.iand, 1) := by decide +kernel
theorem d4_13 : decode prog_8_method_4_code 13 = .ok (.iload_n 2, 1) := by decide +kernel
theorem d4_14 : decode prog_8_method_4_code 14 = .ok (.iastore, 1) := by decide +kernel
theorem d4_15 : decode prog_8_method_4_code 15 = .ok (.return_, 1) := by decide +kernel
def Q_rmS0 (Z : State) (a : Addr) (p2 : Int32) (blk : Addr) (dat : Addr) (kb : ClassId) (kd : ClassId) (x : Int32) (y : Int32) (z : Int32) (h0 : Heap) (n0 : Nat) (v : Option Value) (h : Heap) (L : List Loc) : Prop := v = none ∧ Fr n0 L ∧ Keep h0 h [dat] ∧ Col Z h a blk dat kb kd 3 p2 y z
set_option maxRecDepth 65536 in
set_option maxHeartbeats 40000000 in
theorem rmS0 (l : Launch) (Z : State) (a0 : Array Value) (hw : ∀ d ∈ tables_1, d.before a0 Z = true) (ws : List Jvm.Cond) (a : Addr) (p2 : Int32) (blk : Addr) (dat : Addr) (kb : ClassId) (kd : ClassId) (x : Int32) (y : Int32) (z : Int32) (h0 : Heap) (n0 : Nat) (Z0 : n0 ≤ h0.size) (hC : Col Z h0 a blk dat kb kd 3 x y z) (g_d : n0 ≤ dat) :
    MetFree l (⟨"com/example/guarded_graph/guardedgraph/IntColumn", "set", "(II)V"⟩ : MethodName) (head1 (Jvm.Cond.code (⟨"com/example/guarded_graph/guardedgraph/IntColumn", "set", "(II)V"⟩ : MethodName) prog_8_method_4_code 3 none :: ws) ({ frames := 0, cells := 0, slots := 0, locals := 0 } : Room)) (fun av_ U_ => av_ = #[(.ref a), (.int 0), (.int p2)] ∧ Z.Warmed39 U_.vm ∧ U_.heap = h0) (fun _ _ _ _ _ => True) (fun _ U_ o_ V_ => ∃ v_ L_, o_ = .returned v_ ∧ Q_rmS0 Z a p2 blk dat kb kd x y z h0 n0 v_ V_.heap L_ ∧ FrameEnd U_ o_ V_ L_ ({ frames := 0, cells := 0, slots := 0, locals := 0 } : Room).cells ({ frames := 0, cells := 0, slots := 0, locals := 0 } : Room).slots) := by
  refine MetFree.of_bodySF (plainFor_of_name pn_com_example_guarded_graph_guardedgraph_IntColumn) hisR ?_
  intro p e s m args below meth c s₁ Bd hml0 hP hK
  obtain ⟨rfl, hZ, hh⟩ := hP
  have hx := Bd.exec
  have hby := Bd.bytes
  have hml : c.maxLocals = 3 := hml0
  have hown : s.vm.findClass "com/example/guarded_graph/guardedgraph/IntColumn" = some m.cls := findClass_of_methodNamed Bd.named
  have hnm := (name_of_methodNamed Bd.named Bd.method).1
  have X0 : Stand p l e ({ frames := 0, cells := 0, slots := 0, locals := 0 } : Room) s m #[(.ref a), (.int 0), (.int p2)] below meth c s₁ [] 0 0 := Stand.of_body Bd
  have e0 : s₁.heap = h0 := by rw [← hh, Bd.state]; rfl
  have N0 := Fr.nil n0
  have pre0 : ∀ t_, Go p e below s₁ (mkF m 0 #[rv a, iv 0, iv p2] []) t_ → Go p e below s₁ (entryFrame m #[(.ref a), (.int 0), (.int p2)] 3) t_ := fun t_ kt => castTop (ef_4 m a (0 : Int32) p2) kt
  obtain ⟨E_a, F_b, F_s, V_b, O_b, V_d, n_ab, n_ad, n_bd⟩ := hC
  obtain ⟨T1, X1, e1, st1⟩ := getF X0 hx hZ hown (host := "") (Or.inl (hwi hw 11 rfl)) Via.refl e0 F_b (g := (mkF m 1 #[rv a, iv 0, iv p2] [(.ref a)])) rfl rfl (hb hby d4_1)
  obtain ⟨cl2, Ar2, qa2, Sa2, Na2, Ha2, Ga2⟩ := V_b
  have hin2 : ¬ ((0 : Int32) < 0 ∨ cl2.slots.size ≤ ((0 : Int32)).toNatClampNeg) := inb_of Sa2 ⟨by decide, by decide⟩
  have V2 : Arv Z h0 blk kb (.array .int) (16 : Int32) [(.ref dat)] .null := ⟨cl2, Ar2, qa2, Sa2, Na2, Ha2, Ga2⟩
  obtain ⟨cl3, Ar3, qa3, Sa3, Na3, Ha3, Ga3⟩ := V_d
  have hin3 : ¬ ((0 : Int32) < 0 ∨ cl3.slots.size ≤ ((0 : Int32)).toNatClampNeg) := inb_of Sa3 ⟨by decide, by decide⟩
  obtain ⟨T4, h4, X4, e4, W4, st4⟩ := stI X1 hx hZ e1 Ar3 (j := (0 : Int32)) hin3 (g := (mkF m 14 #[rv a, iv 0, iv p2] [(.int p2), (.int 0), (.ref dat)])) rfl rfl (hb hby d4_14)
  have f5 := E_a.wr W4
  have f6 := F_b.other W4 (Or.inl n_ad)
  have f7 := F_s.other W4 (Or.inl n_ad)
  have f8 := V2.other W4 n_bd
  have K4 : Keep h0 h4 [dat] := (Keep.refl h0 [dat]).wr W4 (Or.inl (List.mem_of_getElem? (i := 0) rfl))
  have N4 := Fr.snoc X4 N0 g_d
  have V4 : Arv Z h4 dat kd .int (65536 : Int32) [(.int p2), (.int y), (.int z)] (.int 0) := Arv.set Ar3 qa3 Sa3 Na3 Ha3 Ga3 rfl W4 0 rfl (Nat.le_of_ble_eq_true rfl)
  have pre10 : ∀ t_, Go p e below T4 (mkF m 15 #[rv a, iv 0, iv p2] []) t_ → Go p e below s₁ (entryFrame m #[(.ref a), (.int 0), (.int p2)] 3) t_ := fun t_ kt => pre0 _ (by
      show Go p e below s₁ (mkF m 0 #[rv a, iv 0, iv p2] []) _
      refine XS.aloadN X0.here hx rfl (hb hby d4_0) rfl rfl ?_
      show Go p e below s₁ (mkF m 1 #[rv a, iv 0, iv p2] [(.ref a)]) _
      refine st1 _ ?_
      show Go p e below T1 (mkF m 4 #[rv a, iv 0, iv p2] [(.ref blk)]) _
      refine XS.iloadN X1.here hx rfl (hb hby d4_4) rfl ?_
      show Go p e below T1 (mkF m 5 #[rv a, iv 0, iv p2] [(.int 0), (.ref blk)]) _
      refine XS.bipush X1.here hx rfl (hb hby d4_5) ?_
      show Go p e below T1 (mkF m 7 #[rv a, iv 0, iv p2] [(.int 16), (.int 0), (.ref blk)]) _
      refine XS.iushr X1.here hx rfl (hb hby d4_7) rfl ?_
      show Go p e below T1 (mkF m 8 #[rv a, iv 0, iv p2] [(.int 0), (.ref blk)]) _
      refine X1.aaload hx (j := (0 : Int32)) (v := (.ref dat)) (by rw [e1]; exact Ar2.1) (State.isArrayOf_alike hZ.alike Ar2.2.1) rfl Ar2.2.2 hin2 (Has.at Ha2 hin2 rfl) (g := (mkF m 8 #[rv a, iv 0, iv p2] [(.int 0), (.ref blk)])) rfl rfl (hb hby d4_8) _ ?_
      show Go p e below T1 (mkF m 9 #[rv a, iv 0, iv p2] [(.ref dat)]) _
      refine XS.iloadN X1.here hx rfl (hb hby d4_9) rfl ?_
      show Go p e below T1 (mkF m 10 #[rv a, iv 0, iv p2] [(.int 0), (.ref dat)]) _
      refine X1.ldcInt hx hown (mvT hZ (hwi hw 24 rfl)) (g := (mkF m 10 #[rv a, iv 0, iv p2] [(.int 0), (.ref dat)])) rfl (hb hby d4_10) _ ?_
      show Go p e below T1 (mkF m 12 #[rv a, iv 0, iv p2] [(.int 65535), (.int 0), (.ref dat)]) _
      refine XS.iand X1.here hx rfl (hb hby d4_12) rfl ?_
      show Go p e below T1 (mkF m 13 #[rv a, iv 0, iv p2] [(.int 0), (.ref dat)]) _
      refine XS.iloadN X1.here hx rfl (hb hby d4_13) rfl ?_
      show Go p e below T1 (mkF m 14 #[rv a, iv 0, iv p2] [(.int p2), (.int 0), (.ref dat)]) _
      refine st4 _ ?_
      show Go p e below T4 (mkF m 15 #[rv a, iv 0, iv p2] []) _
      exact kt)
  obtain ⟨fs, hr, hrun, hended, hW, hsame⟩ := X4.leave (v := none) (fun _ => rfl)
  refine ⟨_, _, pre10 _ ?_, hrun, hended, _, _, rfl, ?_, ⟨_, rfl⟩, hW, hsame.mono (by decide) (by decide)⟩
  · show Steps p.tables e below (T4.setTop (mkF m 15 #[rv a, iv 0, iv p2] [])) _
    exact X4.returnOut hx Bd.returns (hb hby d4_15) hr
  · show Q_rmS0 Z a p2 blk dat kb kd x y z h0 n0 _ T4.heap _
    rw [e4]
    exact ⟨rfl, N4, K4, ⟨f5, f6, f7, f8, O_b, V4, n_ab, n_ad, n_bd⟩⟩
theorem ef_6 (m : MethodId) (x0 : Addr) (x1 : Int32) : entryFrame m #[(.ref x0), (.int x1)] 2 = mkF m 0 #[.val (.ref x0), .val (.int x1)] [] := by first | (simp [entryFrame, mkF, argsToLocals, Value.category]; done) | rfl
theorem d6_0 : decode prog_8_method_3_code 0 = .ok (.aload_n 0, 1) := by decide +kernel
theorem d6_1 : decode prog_8_method_3_code 1 = .ok (.getfield 11, 3) := by decide +kernel
theorem d6_4 : decode prog_8_method_3_code 4 = .ok (.iload_n 1, 1) := by decide +kernel
theorem d6_5 : decode prog_8_method_3_code 5 = .ok (.bipush 16, 2) := by decide +kernel
theorem d6_7 : decode prog_8_method_3_code 7 = .ok (.iushr, 1) := by decide +kernel
theorem d6_8 : decode prog_8_method_3_code 8 = .ok (.aaload, 1) := by decide +kernel
theorem d6_9 : decode prog_8_method_3_code 9 = .ok (.iload_n 1, 1) := by decide +kernel
theorem d6_10 : decode prog_8_method_3_code 10 = .ok (.ldc 37, 2) := by decide +kernel
theorem d6_12 : decode prog_8_method_3_code 12 = .ok (.iand, 1) := by decide +kernel
theorem d6_13 : decode prog_8_method_3_code 13 = .ok (.iaload, 1) := by decide +kernel
theorem d6_14 : decode prog_8_method_3_code 14 = .ok (.ireturn, 1) := by decide +kernel
def Q_rmG0 (Z : State) (a : Addr) (blk : Addr) (dat : Addr) (kb : ClassId) (kd : ClassId) (x : Int32) (y : Int32) (z : Int32) (h0 : Heap) (n0 : Nat) (v : Option Value) (h : Heap) (L : List Loc) : Prop := v = some (.int x) ∧ Fr n0 L ∧ h = h0
set_option maxRecDepth 65536 in
set_option maxHeartbeats 40000000 in
theorem rmG0 (l : Launch) (Z : State) (a0 : Array Value) (hw : ∀ d ∈ tables_1, d.before a0 Z = true) (ws : List Jvm.Cond) (a : Addr) (blk : Addr) (dat : Addr) (kb : ClassId) (kd : ClassId) (x : Int32) (y : Int32) (z : Int32) (h0 : Heap) (n0 : Nat) (Z0 : n0 ≤ h0.size) (hC : Col Z h0 a blk dat kb kd 3 x y z) :
    MetFree l (⟨"com/example/guarded_graph/guardedgraph/IntColumn", "get", "(I)I"⟩ : MethodName) (head1 (Jvm.Cond.code (⟨"com/example/guarded_graph/guardedgraph/IntColumn", "get", "(I)I"⟩ : MethodName) prog_8_method_3_code 2 (some .int) :: ws) ({ frames := 0, cells := 0, slots := 0, locals := 0 } : Room)) (fun av_ U_ => av_ = #[(.ref a), (.int 0)] ∧ Z.Warmed39 U_.vm ∧ U_.heap = h0) (fun _ _ _ _ _ => True) (fun _ U_ o_ V_ => ∃ v_ L_, o_ = .returned v_ ∧ Q_rmG0 Z a blk dat kb kd x y z h0 n0 v_ V_.heap L_ ∧ FrameEnd U_ o_ V_ L_ ({ frames := 0, cells := 0, slots := 0, locals := 0 } : Room).cells ({ frames := 0, cells := 0, slots := 0, locals := 0 } : Room).slots) := by
  refine MetFree.of_bodySF (plainFor_of_name pn_com_example_guarded_graph_guardedgraph_IntColumn) hisR ?_
  intro p e s m args below meth c s₁ Bd hml0 hP hK
  obtain ⟨rfl, hZ, hh⟩ := hP
  have hx := Bd.exec
  have hby := Bd.bytes
  have hml : c.maxLocals = 2 := hml0
  have hown : s.vm.findClass "com/example/guarded_graph/guardedgraph/IntColumn" = some m.cls := findClass_of_methodNamed Bd.named
  have hnm := (name_of_methodNamed Bd.named Bd.method).1
  have X0 : Stand p l e ({ frames := 0, cells := 0, slots := 0, locals := 0 } : Room) s m #[(.ref a), (.int 0)] below meth c s₁ [] 0 0 := Stand.of_body Bd
  have e0 : s₁.heap = h0 := by rw [← hh, Bd.state]; rfl
  have N0 := Fr.nil n0
  have pre0 : ∀ t_, Go p e below s₁ (mkF m 0 #[rv a, iv 0] []) t_ → Go p e below s₁ (entryFrame m #[(.ref a), (.int 0)] 2) t_ := fun t_ kt => castTop (ef_6 m a (0 : Int32)) kt
  obtain ⟨E_a, F_b, F_s, V_b, O_b, V_d, n_ab, n_ad, n_bd⟩ := hC
  obtain ⟨T1, X1, e1, st1⟩ := getF X0 hx hZ hown (host := "") (Or.inl (hwi hw 11 rfl)) Via.refl e0 F_b (g := (mkF m 1 #[rv a, iv 0] [(.ref a)])) rfl rfl (hb hby d6_1)
  obtain ⟨cl2, Ar2, qa2, Sa2, Na2, Ha2, Ga2⟩ := V_b
  have hin2 : ¬ ((0 : Int32) < 0 ∨ cl2.slots.size ≤ ((0 : Int32)).toNatClampNeg) := inb_of Sa2 ⟨by decide, by decide⟩
  have V2 : Arv Z h0 blk kb (.array .int) (16 : Int32) [(.ref dat)] .null := ⟨cl2, Ar2, qa2, Sa2, Na2, Ha2, Ga2⟩
  obtain ⟨cl3, Ar3, qa3, Sa3, Na3, Ha3, Ga3⟩ := V_d
  have hin3 : ¬ ((0 : Int32) < 0 ∨ cl3.slots.size ≤ ((0 : Int32)).toNatClampNeg) := inb_of Sa3 ⟨by decide, by decide⟩
  have V3 : Arv Z h0 dat kd .int (65536 : Int32) [(.int x), (.int y), (.int z)] (.int 0) := ⟨cl3, Ar3, qa3, Sa3, Na3, Ha3, Ga3⟩
  have pre4 : ∀ t_, Go p e below T1 (mkF m 14 #[rv a, iv 0] [(.int x)]) t_ → Go p e below s₁ (entryFrame m #[(.ref a), (.int 0)] 2) t_ := fun t_ kt => pre0 _ (by
      show Go p e below s₁ (mkF m 0 #[rv a, iv 0] []) _
      refine XS.aloadN X0.here hx rfl (hb hby d6_0) rfl rfl ?_
      show Go p e below s₁ (mkF m 1 #[rv a, iv 0] [(.ref a)]) _
      refine st1 _ ?_
      show Go p e below T1 (mkF m 4 #[rv a, iv 0] [(.ref blk)]) _
      refine XS.iloadN X1.here hx rfl (hb hby d6_4) rfl ?_
      show Go p e below T1 (mkF m 5 #[rv a, iv 0] [(.int 0), (.ref blk)]) _
      refine XS.bipush X1.here hx rfl (hb hby d6_5) ?_
      show Go p e below T1 (mkF m 7 #[rv a, iv 0] [(.int 16), (.int 0), (.ref blk)]) _
      refine XS.iushr X1.here hx rfl (hb hby d6_7) rfl ?_
      show Go p e below T1 (mkF m 8 #[rv a, iv 0] [(.int 0), (.ref blk)]) _
      refine X1.aaload hx (j := (0 : Int32)) (v := (.ref dat)) (by rw [e1]; exact Ar2.1) (State.isArrayOf_alike hZ.alike Ar2.2.1) rfl Ar2.2.2 hin2 (Has.at Ha2 hin2 rfl) (g := (mkF m 8 #[rv a, iv 0] [(.int 0), (.ref blk)])) rfl rfl (hb hby d6_8) _ ?_
      show Go p e below T1 (mkF m 9 #[rv a, iv 0] [(.ref dat)]) _
      refine XS.iloadN X1.here hx rfl (hb hby d6_9) rfl ?_
      show Go p e below T1 (mkF m 10 #[rv a, iv 0] [(.int 0), (.ref dat)]) _
      refine X1.ldcInt hx hown (mvT hZ (hwi hw 24 rfl)) (g := (mkF m 10 #[rv a, iv 0] [(.int 0), (.ref dat)])) rfl (hb hby d6_10) _ ?_
      show Go p e below T1 (mkF m 12 #[rv a, iv 0] [(.int 65535), (.int 0), (.ref dat)]) _
      refine XS.iand X1.here hx rfl (hb hby d6_12) rfl ?_
      show Go p e below T1 (mkF m 13 #[rv a, iv 0] [(.int 0), (.ref dat)]) _
      refine X1.iaload hx (j := (0 : Int32)) (v := (.int x)) (by rw [e1]; exact Ar3.1) (State.isArrayOf_alike hZ.alike Ar3.2.1) Ar3.2.2 hin3 (Has.at Ha3 hin3 rfl) (g := (mkF m 13 #[rv a, iv 0] [(.int 0), (.ref dat)])) rfl rfl (hb hby d6_13) _ ?_
      show Go p e below T1 (mkF m 14 #[rv a, iv 0] [(.int x)]) _
      exact kt)
  obtain ⟨fs, hr, hrun, hended, hW, hsame⟩ := X1.leave (v := some (.int x)) (fun h => by rw [Bd.returns] at h; cases h)
  refine ⟨_, _, pre4 _ ?_, hrun, hended, _, _, rfl, ?_, ⟨_, rfl⟩, hW, hsame.mono (by decide) (by decide)⟩
  · show Steps p.tables e below (T1.setTop (mkF m 14 #[rv a, iv 0] [(.int x)])) _
    exact retI X1 hx Bd.returns (hb hby d6_14) hr
  · show Q_rmG0 Z a blk dat kb kd x y z h0 n0 _ T1.heap _
    rw [e1]
    exact ⟨rfl, N0, rfl⟩
def Q_rmS1 (Z : State) (a : Addr) (p2 : Int32) (blk : Addr) (dat : Addr) (kb : ClassId) (kd : ClassId) (x : Int32) (y : Int32) (z : Int32) (h0 : Heap) (n0 : Nat) (v : Option Value) (h : Heap) (L : List Loc) : Prop := v = none ∧ Fr n0 L ∧ Keep h0 h [dat] ∧ Col Z h a blk dat kb kd 3 x p2 z
set_option maxRecDepth 65536 in
set_option maxHeartbeats 40000000 in
theorem rmS1 (l : Launch) (Z : State) (a0 : Array Value) (hw : ∀ d ∈ tables_1, d.before a0 Z = true) (ws : List Jvm.Cond) (a : Addr) (p2 : Int32) (blk : Addr) (dat : Addr) (kb : ClassId) (kd : ClassId) (x : Int32) (y : Int32) (z : Int32) (h0 : Heap) (n0 : Nat) (Z0 : n0 ≤ h0.size) (hC : Col Z h0 a blk dat kb kd 3 x y z) (g_d : n0 ≤ dat) :
    MetFree l (⟨"com/example/guarded_graph/guardedgraph/IntColumn", "set", "(II)V"⟩ : MethodName) (head1 (Jvm.Cond.code (⟨"com/example/guarded_graph/guardedgraph/IntColumn", "set", "(II)V"⟩ : MethodName) prog_8_method_4_code 3 none :: ws) ({ frames := 0, cells := 0, slots := 0, locals := 0 } : Room)) (fun av_ U_ => av_ = #[(.ref a), (.int 1), (.int p2)] ∧ Z.Warmed39 U_.vm ∧ U_.heap = h0) (fun _ _ _ _ _ => True) (fun _ U_ o_ V_ => ∃ v_ L_, o_ = .returned v_ ∧ Q_rmS1 Z a p2 blk dat kb kd x y z h0 n0 v_ V_.heap L_ ∧ FrameEnd U_ o_ V_ L_ ({ frames := 0, cells := 0, slots := 0, locals := 0 } : Room).cells ({ frames := 0, cells := 0, slots := 0, locals := 0 } : Room).slots) := by
  refine MetFree.of_bodySF (plainFor_of_name pn_com_example_guarded_graph_guardedgraph_IntColumn) hisR ?_
  intro p e s m args below meth c s₁ Bd hml0 hP hK
  obtain ⟨rfl, hZ, hh⟩ := hP
  have hx := Bd.exec
  have hby := Bd.bytes
  have hml : c.maxLocals = 3 := hml0
  have hown : s.vm.findClass "com/example/guarded_graph/guardedgraph/IntColumn" = some m.cls := findClass_of_methodNamed Bd.named
  have hnm := (name_of_methodNamed Bd.named Bd.method).1
  have X0 : Stand p l e ({ frames := 0, cells := 0, slots := 0, locals := 0 } : Room) s m #[(.ref a), (.int 1), (.int p2)] below meth c s₁ [] 0 0 := Stand.of_body Bd
  have e0 : s₁.heap = h0 := by rw [← hh, Bd.state]; rfl
  have N0 := Fr.nil n0
  have pre0 : ∀ t_, Go p e below s₁ (mkF m 0 #[rv a, iv 1, iv p2] []) t_ → Go p e below s₁ (entryFrame m #[(.ref a), (.int 1), (.int p2)] 3) t_ := fun t_ kt => castTop (ef_4 m a (1 : Int32) p2) kt
  obtain ⟨E_a, F_b, F_s, V_b, O_b, V_d, n_ab, n_ad, n_bd⟩ := hC
  obtain ⟨T1, X1, e1, st1⟩ := getF X0 hx hZ hown (host := "") (Or.inl (hwi hw 11 rfl)) Via.refl e0 F_b (g := (mkF m 1 #[rv a, iv 1, iv p2] [(.ref a)])) rfl rfl (hb hby d4_1)
  obtain ⟨cl2, Ar2, qa2, Sa2, Na2, Ha2, Ga2⟩ := V_b
  have hin2 : ¬ ((0 : Int32) < 0 ∨ cl2.slots.size ≤ ((0 : Int32)).toNatClampNeg) := inb_of Sa2 ⟨by decide, by decide⟩
  have V2 : Arv Z h0 blk kb (.array .int) (16 : Int32) [(.ref dat)] .null := ⟨cl2, Ar2, qa2, Sa2, Na2, Ha2, Ga2⟩
  obtain ⟨cl3, Ar3, qa3, Sa3, Na3, Ha3, Ga3⟩ := V_d
  have hin3 : ¬ ((1 : Int32) < 0 ∨ cl3.slots.size ≤ ((1 : Int32)).toNatClampNeg) := inb_of Sa3 ⟨by decide, by decide⟩
  obtain ⟨T4, h4, X4, e4, W4, st4⟩ := stI X1 hx hZ e1 Ar3 (j := (1 : Int32)) hin3 (g := (mkF m 14 #[rv a, iv 1, iv p2] [(.int p2), (.int 1), (.ref dat)])) rfl rfl (hb hby d4_14)
  have f5 := E_a.wr W4
  have f6 := F_b.other W4 (Or.inl n_ad)
  have f7 := F_s.other W4 (Or.inl n_ad)
  have f8 := V2.other W4 n_bd
  have K4 : Keep h0 h4 [dat] := (Keep.refl h0 [dat]).wr W4 (Or.inl (List.mem_of_getElem? (i := 0) rfl))
  have N4 := Fr.snoc X4 N0 g_d
  have V4 : Arv Z h4 dat kd .int (65536 : Int32) [(.int x), (.int p2), (.int z)] (.int 0) := Arv.set Ar3 qa3 Sa3 Na3 Ha3 Ga3 rfl W4 1 rfl (Nat.le_of_ble_eq_true rfl)
  have pre10 : ∀ t_, Go p e below T4 (mkF m 15 #[rv a, iv 1, iv p2] []) t_ → Go p e below s₁ (entryFrame m #[(.ref a), (.int 1), (.int p2)] 3) t_ := fun t_ kt => pre0 _ (by
      show Go p e below s₁ (mkF m 0 #[rv a, iv 1, iv p2] []) _
      refine XS.aloadN X0.here hx rfl (hb hby d4_0) rfl rfl ?_
      show Go p e below s₁ (mkF m 1 #[rv a, iv 1, iv p2] [(.ref a)]) _
      refine st1 _ ?_
      show Go p e below T1 (mkF m 4 #[rv a, iv 1, iv p2] [(.ref blk)]) _
      refine XS.iloadN X1.here hx rfl (hb hby d4_4) rfl ?_
      show Go p e below T1 (mkF m 5 #[rv a, iv 1, iv p2] [(.int 1), (.ref blk)]) _
      refine XS.bipush X1.here hx rfl (hb hby d4_5) ?_
      show Go p e below T1 (mkF m 7 #[rv a, iv 1, iv p2] [(.int 16), (.int 1), (.ref blk)]) _
      refine XS.iushr X1.here hx rfl (hb hby d4_7) rfl ?_
      show Go p e below T1 (mkF m 8 #[rv a, iv 1, iv p2] [(.int 0), (.ref blk)]) _
      refine X1.aaload hx (j := (0 : Int32)) (v := (.ref dat)) (by rw [e1]; exact Ar2.1) (State.isArrayOf_alike hZ.alike Ar2.2.1) rfl Ar2.2.2 hin2 (Has.at Ha2 hin2 rfl) (g := (mkF m 8 #[rv a, iv 1, iv p2] [(.int 0), (.ref blk)])) rfl rfl (hb hby d4_8) _ ?_
      show Go p e below T1 (mkF m 9 #[rv a, iv 1, iv p2] [(.ref dat)]) _
      refine XS.iloadN X1.here hx rfl (hb hby d4_9) rfl ?_
      show Go p e below T1 (mkF m 10 #[rv a, iv 1, iv p2] [(.int 1), (.ref dat)]) _
      refine X1.ldcInt hx hown (mvT hZ (hwi hw 24 rfl)) (g := (mkF m 10 #[rv a, iv 1, iv p2] [(.int 1), (.ref dat)])) rfl (hb hby d4_10) _ ?_
      show Go p e below T1 (mkF m 12 #[rv a, iv 1, iv p2] [(.int 65535), (.int 1), (.ref dat)]) _
      refine XS.iand X1.here hx rfl (hb hby d4_12) rfl ?_
      show Go p e below T1 (mkF m 13 #[rv a, iv 1, iv p2] [(.int 1), (.ref dat)]) _
      refine XS.iloadN X1.here hx rfl (hb hby d4_13) rfl ?_
      show Go p e below T1 (mkF m 14 #[rv a, iv 1, iv p2] [(.int p2), (.int 1), (.ref dat)]) _
      refine st4 _ ?_
      show Go p e below T4 (mkF m 15 #[rv a, iv 1, iv p2] []) _
      exact kt)
  obtain ⟨fs, hr, hrun, hended, hW, hsame⟩ := X4.leave (v := none) (fun _ => rfl)
  refine ⟨_, _, pre10 _ ?_, hrun, hended, _, _, rfl, ?_, ⟨_, rfl⟩, hW, hsame.mono (by decide) (by decide)⟩
  · show Steps p.tables e below (T4.setTop (mkF m 15 #[rv a, iv 1, iv p2] [])) _
    exact X4.returnOut hx Bd.returns (hb hby d4_15) hr
  · show Q_rmS1 Z a p2 blk dat kb kd x y z h0 n0 _ T4.heap _
    rw [e4]
    exact ⟨rfl, N4, K4, ⟨f5, f6, f7, f8, O_b, V4, n_ab, n_ad, n_bd⟩⟩
def Q_rmG1 (Z : State) (a : Addr) (blk : Addr) (dat : Addr) (kb : ClassId) (kd : ClassId) (x : Int32) (y : Int32) (z : Int32) (h0 : Heap) (n0 : Nat) (v : Option Value) (h : Heap) (L : List Loc) : Prop := v = some (.int y) ∧ Fr n0 L ∧ h = h0
set_option maxRecDepth 65536 in
set_option maxHeartbeats 40000000 in
theorem rmG1 (l : Launch) (Z : State) (a0 : Array Value) (hw : ∀ d ∈ tables_1, d.before a0 Z = true) (ws : List Jvm.Cond) (a : Addr) (blk : Addr) (dat : Addr) (kb : ClassId) (kd : ClassId) (x : Int32) (y : Int32) (z : Int32) (h0 : Heap) (n0 : Nat) (Z0 : n0 ≤ h0.size) (hC : Col Z h0 a blk dat kb kd 3 x y z) :
    MetFree l (⟨"com/example/guarded_graph/guardedgraph/IntColumn", "get", "(I)I"⟩ : MethodName) (head1 (Jvm.Cond.code (⟨"com/example/guarded_graph/guardedgraph/IntColumn", "get", "(I)I"⟩ : MethodName) prog_8_method_3_code 2 (some .int) :: ws) ({ frames := 0, cells := 0, slots := 0, locals := 0 } : Room)) (fun av_ U_ => av_ = #[(.ref a), (.int 1)] ∧ Z.Warmed39 U_.vm ∧ U_.heap = h0) (fun _ _ _ _ _ => True) (fun _ U_ o_ V_ => ∃ v_ L_, o_ = .returned v_ ∧ Q_rmG1 Z a blk dat kb kd x y z h0 n0 v_ V_.heap L_ ∧ FrameEnd U_ o_ V_ L_ ({ frames := 0, cells := 0, slots := 0, locals := 0 } : Room).cells ({ frames := 0, cells := 0, slots := 0, locals := 0 } : Room).slots) := by
  refine MetFree.of_bodySF (plainFor_of_name pn_com_example_guarded_graph_guardedgraph_IntColumn) hisR ?_
  intro p e s m args below meth c s₁ Bd hml0 hP hK
  obtain ⟨rfl, hZ, hh⟩ := hP
  have hx := Bd.exec
  have hby := Bd.bytes
  have hml : c.maxLocals = 2 := hml0
  have hown : s.vm.findClass "com/example/guarded_graph/guardedgraph/IntColumn" = some m.cls := findClass_of_methodNamed Bd.named
  have hnm := (name_of_methodNamed Bd.named Bd.method).1
  have X0 : Stand p l e ({ frames := 0, cells := 0, slots := 0, locals := 0 } : Room) s m #[(.ref a), (.int 1)] below meth c s₁ [] 0 0 := Stand.of_body Bd
  have e0 : s₁.heap = h0 := by rw [← hh, Bd.state]; rfl
  have N0 := Fr.nil n0
  have pre0 : ∀ t_, Go p e below s₁ (mkF m 0 #[rv a, iv 1] []) t_ → Go p e below s₁ (entryFrame m #[(.ref a), (.int 1)] 2) t_ := fun t_ kt => castTop (ef_6 m a (1 : Int32)) kt
  obtain ⟨E_a, F_b, F_s, V_b, O_b, V_d, n_ab, n_ad, n_bd⟩ := hC
  obtain ⟨T1, X1, e1, st1⟩ := getF X0 hx hZ hown (host := "") (Or.inl (hwi hw 11 rfl)) Via.refl e0 F_b (g := (mkF m 1 #[rv a, iv 1] [(.ref a)])) rfl rfl (hb hby d6_1)
  obtain ⟨cl2, Ar2, qa2, Sa2, Na2, Ha2, Ga2⟩ := V_b
  have hin2 : ¬ ((0 : Int32) < 0 ∨ cl2.slots.size ≤ ((0 : Int32)).toNatClampNeg) := inb_of Sa2 ⟨by decide, by decide⟩
  have V2 : Arv Z h0 blk kb (.array .int) (16 : Int32) [(.ref dat)] .null := ⟨cl2, Ar2, qa2, Sa2, Na2, Ha2, Ga2⟩
  obtain ⟨cl3, Ar3, qa3, Sa3, Na3, Ha3, Ga3⟩ := V_d
  have hin3 : ¬ ((1 : Int32) < 0 ∨ cl3.slots.size ≤ ((1 : Int32)).toNatClampNeg) := inb_of Sa3 ⟨by decide, by decide⟩
  have V3 : Arv Z h0 dat kd .int (65536 : Int32) [(.int x), (.int y), (.int z)] (.int 0) := ⟨cl3, Ar3, qa3, Sa3, Na3, Ha3, Ga3⟩
  have pre4 : ∀ t_, Go p e below T1 (mkF m 14 #[rv a, iv 1] [(.int y)]) t_ → Go p e below s₁ (entryFrame m #[(.ref a), (.int 1)] 2) t_ := fun t_ kt => pre0 _ (by
      show Go p e below s₁ (mkF m 0 #[rv a, iv 1] []) _
      refine XS.aloadN X0.here hx rfl (hb hby d6_0) rfl rfl ?_
      show Go p e below s₁ (mkF m 1 #[rv a, iv 1] [(.ref a)]) _
      refine st1 _ ?_
      show Go p e below T1 (mkF m 4 #[rv a, iv 1] [(.ref blk)]) _
      refine XS.iloadN X1.here hx rfl (hb hby d6_4) rfl ?_
      show Go p e below T1 (mkF m 5 #[rv a, iv 1] [(.int 1), (.ref blk)]) _
      refine XS.bipush X1.here hx rfl (hb hby d6_5) ?_
      show Go p e below T1 (mkF m 7 #[rv a, iv 1] [(.int 16), (.int 1), (.ref blk)]) _
      refine XS.iushr X1.here hx rfl (hb hby d6_7) rfl ?_
      show Go p e below T1 (mkF m 8 #[rv a, iv 1] [(.int 0), (.ref blk)]) _
      refine X1.aaload hx (j := (0 : Int32)) (v := (.ref dat)) (by rw [e1]; exact Ar2.1) (State.isArrayOf_alike hZ.alike Ar2.2.1) rfl Ar2.2.2 hin2 (Has.at Ha2 hin2 rfl) (g := (mkF m 8 #[rv a, iv 1] [(.int 0), (.ref blk)])) rfl rfl (hb hby d6_8) _ ?_
      show Go p e below T1 (mkF m 9 #[rv a, iv 1] [(.ref dat)]) _
      refine XS.iloadN X1.here hx rfl (hb hby d6_9) rfl ?_
      show Go p e below T1 (mkF m 10 #[rv a, iv 1] [(.int 1), (.ref dat)]) _
      refine X1.ldcInt hx hown (mvT hZ (hwi hw 24 rfl)) (g := (mkF m 10 #[rv a, iv 1] [(.int 1), (.ref dat)])) rfl (hb hby d6_10) _ ?_
      show Go p e below T1 (mkF m 12 #[rv a, iv 1] [(.int 65535), (.int 1), (.ref dat)]) _
      refine XS.iand X1.here hx rfl (hb hby d6_12) rfl ?_
      show Go p e below T1 (mkF m 13 #[rv a, iv 1] [(.int 1), (.ref dat)]) _
      refine X1.iaload hx (j := (1 : Int32)) (v := (.int y)) (by rw [e1]; exact Ar3.1) (State.isArrayOf_alike hZ.alike Ar3.2.1) Ar3.2.2 hin3 (Has.at Ha3 hin3 rfl) (g := (mkF m 13 #[rv a, iv 1] [(.int 1), (.ref dat)])) rfl rfl (hb hby d6_13) _ ?_
      show Go p e below T1 (mkF m 14 #[rv a, iv 1] [(.int y)]) _
      exact kt)
  obtain ⟨fs, hr, hrun, hended, hW, hsame⟩ := X1.leave (v := some (.int y)) (fun h => by rw [Bd.returns] at h; cases h)
  refine ⟨_, _, pre4 _ ?_, hrun, hended, _, _, rfl, ?_, ⟨_, rfl⟩, hW, hsame.mono (by decide) (by decide)⟩
  · show Steps p.tables e below (T1.setTop (mkF m 14 #[rv a, iv 1] [(.int y)])) _
    exact retI X1 hx Bd.returns (hb hby d6_14) hr
  · show Q_rmG1 Z a blk dat kb kd x y z h0 n0 _ T1.heap _
    rw [e1]
    exact ⟨rfl, N0, rfl⟩
def Q_rmS2 (Z : State) (a : Addr) (p2 : Int32) (blk : Addr) (dat : Addr) (kb : ClassId) (kd : ClassId) (x : Int32) (y : Int32) (z : Int32) (h0 : Heap) (n0 : Nat) (v : Option Value) (h : Heap) (L : List Loc) : Prop := v = none ∧ Fr n0 L ∧ Keep h0 h [dat] ∧ Col Z h a blk dat kb kd 3 x y p2
set_option maxRecDepth 65536 in
set_option maxHeartbeats 40000000 in
theorem rmS2 (l : Launch) (Z : State) (a0 : Array Value) (hw : ∀ d ∈ tables_1, d.before a0 Z = true) (ws : List Jvm.Cond) (a : Addr) (p2 : Int32) (blk : Addr) (dat : Addr) (kb : ClassId) (kd : ClassId) (x : Int32) (y : Int32) (z : Int32) (h0 : Heap) (n0 : Nat) (Z0 : n0 ≤ h0.size) (hC : Col Z h0 a blk dat kb kd 3 x y z) (g_d : n0 ≤ dat) :
    MetFree l (⟨"com/example/guarded_graph/guardedgraph/IntColumn", "set", "(II)V"⟩ : MethodName) (head1 (Jvm.Cond.code (⟨"com/example/guarded_graph/guardedgraph/IntColumn", "set", "(II)V"⟩ : MethodName) prog_8_method_4_code 3 none :: ws) ({ frames := 0, cells := 0, slots := 0, locals := 0 } : Room)) (fun av_ U_ => av_ = #[(.ref a), (.int 2), (.int p2)] ∧ Z.Warmed39 U_.vm ∧ U_.heap = h0) (fun _ _ _ _ _ => True) (fun _ U_ o_ V_ => ∃ v_ L_, o_ = .returned v_ ∧ Q_rmS2 Z a p2 blk dat kb kd x y z h0 n0 v_ V_.heap L_ ∧ FrameEnd U_ o_ V_ L_ ({ frames := 0, cells := 0, slots := 0, locals := 0 } : Room).cells ({ frames := 0, cells := 0, slots := 0, locals := 0 } : Room).slots) := by
  refine MetFree.of_bodySF (plainFor_of_name pn_com_example_guarded_graph_guardedgraph_IntColumn) hisR ?_
  intro p e s m args below meth c s₁ Bd hml0 hP hK
  obtain ⟨rfl, hZ, hh⟩ := hP
  have hx := Bd.exec
  have hby := Bd.bytes
  have hml : c.maxLocals = 3 := hml0
  have hown : s.vm.findClass "com/example/guarded_graph/guardedgraph/IntColumn" = some m.cls := findClass_of_methodNamed Bd.named
  have hnm := (name_of_methodNamed Bd.named Bd.method).1
  have X0 : Stand p l e ({ frames := 0, cells := 0, slots := 0, locals := 0 } : Room) s m #[(.ref a), (.int 2), (.int p2)] below meth c s₁ [] 0 0 := Stand.of_body Bd
  have e0 : s₁.heap = h0 := by rw [← hh, Bd.state]; rfl
  have N0 := Fr.nil n0
  have pre0 : ∀ t_, Go p e below s₁ (mkF m 0 #[rv a, iv 2, iv p2] []) t_ → Go p e below s₁ (entryFrame m #[(.ref a), (.int 2), (.int p2)] 3) t_ := fun t_ kt => castTop (ef_4 m a (2 : Int32) p2) kt
  obtain ⟨E_a, F_b, F_s, V_b, O_b, V_d, n_ab, n_ad, n_bd⟩ := hC
  obtain ⟨T1, X1, e1, st1⟩ := getF X0 hx hZ hown (host := "") (Or.inl (hwi hw 11 rfl)) Via.refl e0 F_b (g := (mkF m 1 #[rv a, iv 2, iv p2] [(.ref a)])) rfl rfl (hb hby d4_1)
  obtain ⟨cl2, Ar2, qa2, Sa2, Na2, Ha2, Ga2⟩ := V_b
  have hin2 : ¬ ((0 : Int32) < 0 ∨ cl2.slots.size ≤ ((0 : Int32)).toNatClampNeg) := inb_of Sa2 ⟨by decide, by decide⟩
  have V2 : Arv Z h0 blk kb (.array .int) (16 : Int32) [(.ref dat)] .null := ⟨cl2, Ar2, qa2, Sa2, Na2, Ha2, Ga2⟩
  obtain ⟨cl3, Ar3, qa3, Sa3, Na3, Ha3, Ga3⟩ := V_d
  have hin3 : ¬ ((2 : Int32) < 0 ∨ cl3.slots.size ≤ ((2 : Int32)).toNatClampNeg) := inb_of Sa3 ⟨by decide, by decide⟩
  obtain ⟨T4, h4, X4, e4, W4, st4⟩ := stI X1 hx hZ e1 Ar3 (j := (2 : Int32)) hin3 (g := (mkF m 14 #[rv a, iv 2, iv p2] [(.int p2), (.int 2), (.ref dat)])) rfl rfl (hb hby d4_14)
  have f5 := E_a.wr W4
  have f6 := F_b.other W4 (Or.inl n_ad)
  have f7 := F_s.other W4 (Or.inl n_ad)
  have f8 := V2.other W4 n_bd
  have K4 : Keep h0 h4 [dat] := (Keep.refl h0 [dat]).wr W4 (Or.inl (List.mem_of_getElem? (i := 0) rfl))
  have N4 := Fr.snoc X4 N0 g_d
  have V4 : Arv Z h4 dat kd .int (65536 : Int32) [(.int x), (.int y), (.int p2)] (.int 0) := Arv.set Ar3 qa3 Sa3 Na3 Ha3 Ga3 rfl W4 2 rfl (Nat.le_of_ble_eq_true rfl)
  have pre10 : ∀ t_, Go p e below T4 (mkF m 15 #[rv a, iv 2, iv p2] []) t_ → Go p e below s₁ (entryFrame m #[(.ref a), (.int 2), (.int p2)] 3) t_ := fun t_ kt => pre0 _ (by
      show Go p e below s₁ (mkF m 0 #[rv a, iv 2, iv p2] []) _
      refine XS.aloadN X0.here hx rfl (hb hby d4_0) rfl rfl ?_
      show Go p e below s₁ (mkF m 1 #[rv a, iv 2, iv p2] [(.ref a)]) _
      refine st1 _ ?_
      show Go p e below T1 (mkF m 4 #[rv a, iv 2, iv p2] [(.ref blk)]) _
      refine XS.iloadN X1.here hx rfl (hb hby d4_4) rfl ?_
      show Go p e below T1 (mkF m 5 #[rv a, iv 2, iv p2] [(.int 2), (.ref blk)]) _
      refine XS.bipush X1.here hx rfl (hb hby d4_5) ?_
      show Go p e below T1 (mkF m 7 #[rv a, iv 2, iv p2] [(.int 16), (.int 2), (.ref blk)]) _
      refine XS.iushr X1.here hx rfl (hb hby d4_7) rfl ?_
      show Go p e below T1 (mkF m 8 #[rv a, iv 2, iv p2] [(.int 0), (.ref blk)]) _
      refine X1.aaload hx (j := (0 : Int32)) (v := (.ref dat)) (by rw [e1]; exact Ar2.1) (State.isArrayOf_alike hZ.alike Ar2.2.1) rfl Ar2.2.2 hin2 (Has.at Ha2 hin2 rfl) (g := (mkF m 8 #[rv a, iv 2, iv p2] [(.int 0), (.ref blk)])) rfl rfl (hb hby d4_8) _ ?_
      show Go p e below T1 (mkF m 9 #[rv a, iv 2, iv p2] [(.ref dat)]) _
      refine XS.iloadN X1.here hx rfl (hb hby d4_9) rfl ?_
      show Go p e below T1 (mkF m 10 #[rv a, iv 2, iv p2] [(.int 2), (.ref dat)]) _
      refine X1.ldcInt hx hown (mvT hZ (hwi hw 24 rfl)) (g := (mkF m 10 #[rv a, iv 2, iv p2] [(.int 2), (.ref dat)])) rfl (hb hby d4_10) _ ?_
      show Go p e below T1 (mkF m 12 #[rv a, iv 2, iv p2] [(.int 65535), (.int 2), (.ref dat)]) _
      refine XS.iand X1.here hx rfl (hb hby d4_12) rfl ?_
      show Go p e below T1 (mkF m 13 #[rv a, iv 2, iv p2] [(.int 2), (.ref dat)]) _
      refine XS.iloadN X1.here hx rfl (hb hby d4_13) rfl ?_
      show Go p e below T1 (mkF m 14 #[rv a, iv 2, iv p2] [(.int p2), (.int 2), (.ref dat)]) _
      refine st4 _ ?_
      show Go p e below T4 (mkF m 15 #[rv a, iv 2, iv p2] []) _
      exact kt)
  obtain ⟨fs, hr, hrun, hended, hW, hsame⟩ := X4.leave (v := none) (fun _ => rfl)
  refine ⟨_, _, pre10 _ ?_, hrun, hended, _, _, rfl, ?_, ⟨_, rfl⟩, hW, hsame.mono (by decide) (by decide)⟩
  · show Steps p.tables e below (T4.setTop (mkF m 15 #[rv a, iv 2, iv p2] [])) _
    exact X4.returnOut hx Bd.returns (hb hby d4_15) hr
  · show Q_rmS2 Z a p2 blk dat kb kd x y z h0 n0 _ T4.heap _
    rw [e4]
    exact ⟨rfl, N4, K4, ⟨f5, f6, f7, f8, O_b, V4, n_ab, n_ad, n_bd⟩⟩
def Q_rmG2 (Z : State) (a : Addr) (blk : Addr) (dat : Addr) (kb : ClassId) (kd : ClassId) (x : Int32) (y : Int32) (z : Int32) (h0 : Heap) (n0 : Nat) (v : Option Value) (h : Heap) (L : List Loc) : Prop := v = some (.int z) ∧ Fr n0 L ∧ h = h0
set_option maxRecDepth 65536 in
set_option maxHeartbeats 40000000 in
theorem rmG2 (l : Launch) (Z : State) (a0 : Array Value) (hw : ∀ d ∈ tables_1, d.before a0 Z = true) (ws : List Jvm.Cond) (a : Addr) (blk : Addr) (dat : Addr) (kb : ClassId) (kd : ClassId) (x : Int32) (y : Int32) (z : Int32) (h0 : Heap) (n0 : Nat) (Z0 : n0 ≤ h0.size) (hC : Col Z h0 a blk dat kb kd 3 x y z) :
    MetFree l (⟨"com/example/guarded_graph/guardedgraph/IntColumn", "get", "(I)I"⟩ : MethodName) (head1 (Jvm.Cond.code (⟨"com/example/guarded_graph/guardedgraph/IntColumn", "get", "(I)I"⟩ : MethodName) prog_8_method_3_code 2 (some .int) :: ws) ({ frames := 0, cells := 0, slots := 0, locals := 0 } : Room)) (fun av_ U_ => av_ = #[(.ref a), (.int 2)] ∧ Z.Warmed39 U_.vm ∧ U_.heap = h0) (fun _ _ _ _ _ => True) (fun _ U_ o_ V_ => ∃ v_ L_, o_ = .returned v_ ∧ Q_rmG2 Z a blk dat kb kd x y z h0 n0 v_ V_.heap L_ ∧ FrameEnd U_ o_ V_ L_ ({ frames := 0, cells := 0, slots := 0, locals := 0 } : Room).cells ({ frames := 0, cells := 0, slots := 0, locals := 0 } : Room).slots) := by
  refine MetFree.of_bodySF (plainFor_of_name pn_com_example_guarded_graph_guardedgraph_IntColumn) hisR ?_
  intro p e s m args below meth c s₁ Bd hml0 hP hK
  obtain ⟨rfl, hZ, hh⟩ := hP
  have hx := Bd.exec
  have hby := Bd.bytes
  have hml : c.maxLocals = 2 := hml0
  have hown : s.vm.findClass "com/example/guarded_graph/guardedgraph/IntColumn" = some m.cls := findClass_of_methodNamed Bd.named
  have hnm := (name_of_methodNamed Bd.named Bd.method).1
  have X0 : Stand p l e ({ frames := 0, cells := 0, slots := 0, locals := 0 } : Room) s m #[(.ref a), (.int 2)] below meth c s₁ [] 0 0 := Stand.of_body Bd
  have e0 : s₁.heap = h0 := by rw [← hh, Bd.state]; rfl
  have N0 := Fr.nil n0
  have pre0 : ∀ t_, Go p e below s₁ (mkF m 0 #[rv a, iv 2] []) t_ → Go p e below s₁ (entryFrame m #[(.ref a), (.int 2)] 2) t_ := fun t_ kt => castTop (ef_6 m a (2 : Int32)) kt
  obtain ⟨E_a, F_b, F_s, V_b, O_b, V_d, n_ab, n_ad, n_bd⟩ := hC
  obtain ⟨T1, X1, e1, st1⟩ := getF X0 hx hZ hown (host := "") (Or.inl (hwi hw 11 rfl)) Via.refl e0 F_b (g := (mkF m 1 #[rv a, iv 2] [(.ref a)])) rfl rfl (hb hby d6_1)
  obtain ⟨cl2, Ar2, qa2, Sa2, Na2, Ha2, Ga2⟩ := V_b
  have hin2 : ¬ ((0 : Int32) < 0 ∨ cl2.slots.size ≤ ((0 : Int32)).toNatClampNeg) := inb_of Sa2 ⟨by decide, by decide⟩
  have V2 : Arv Z h0 blk kb (.array .int) (16 : Int32) [(.ref dat)] .null := ⟨cl2, Ar2, qa2, Sa2, Na2, Ha2, Ga2⟩
  obtain ⟨cl3, Ar3, qa3, Sa3, Na3, Ha3, Ga3⟩ := V_d
  have hin3 : ¬ ((2 : Int32) < 0 ∨ cl3.slots.size ≤ ((2 : Int32)).toNatClampNeg) := inb_of Sa3 ⟨by decide, by decide⟩
  have V3 : Arv Z h0 dat kd .int (65536 : Int32) [(.int x), (.int y), (.int z)] (.int 0) := ⟨cl3, Ar3, qa3, Sa3, Na3, Ha3, Ga3⟩
  have pre4 : ∀ t_, Go p e below T1 (mkF m 14 #[rv a, iv 2] [(.int z)]) t_ → Go p e below s₁ (entryFrame m #[(.ref a), (.int 2)] 2) t_ := fun t_ kt => pre0 _ (by
      show Go p e below s₁ (mkF m 0 #[rv a, iv 2] []) _
      refine XS.aloadN X0.here hx rfl (hb hby d6_0) rfl rfl ?_
      show Go p e below s₁ (mkF m 1 #[rv a, iv 2] [(.ref a)]) _
      refine st1 _ ?_
      show Go p e below T1 (mkF m 4 #[rv a, iv 2] [(.ref blk)]) _
      refine XS.iloadN X1.here hx rfl (hb hby d6_4) rfl ?_
      show Go p e below T1 (mkF m 5 #[rv a, iv 2] [(.int 2), (.ref blk)]) _
      refine XS.bipush X1.here hx rfl (hb hby d6_5) ?_
      show Go p e below T1 (mkF m 7 #[rv a, iv 2] [(.int 16), (.int 2), (.ref blk)]) _
      refine XS.iushr X1.here hx rfl (hb hby d6_7) rfl ?_
      show Go p e below T1 (mkF m 8 #[rv a, iv 2] [(.int 0), (.ref blk)]) _
      refine X1.aaload hx (j := (0 : Int32)) (v := (.ref dat)) (by rw [e1]; exact Ar2.1) (State.isArrayOf_alike hZ.alike Ar2.2.1) rfl Ar2.2.2 hin2 (Has.at Ha2 hin2 rfl) (g := (mkF m 8 #[rv a, iv 2] [(.int 0), (.ref blk)])) rfl rfl (hb hby d6_8) _ ?_
      show Go p e below T1 (mkF m 9 #[rv a, iv 2] [(.ref dat)]) _
      refine XS.iloadN X1.here hx rfl (hb hby d6_9) rfl ?_
      show Go p e below T1 (mkF m 10 #[rv a, iv 2] [(.int 2), (.ref dat)]) _
      refine X1.ldcInt hx hown (mvT hZ (hwi hw 24 rfl)) (g := (mkF m 10 #[rv a, iv 2] [(.int 2), (.ref dat)])) rfl (hb hby d6_10) _ ?_
      show Go p e below T1 (mkF m 12 #[rv a, iv 2] [(.int 65535), (.int 2), (.ref dat)]) _
      refine XS.iand X1.here hx rfl (hb hby d6_12) rfl ?_
      show Go p e below T1 (mkF m 13 #[rv a, iv 2] [(.int 2), (.ref dat)]) _
      refine X1.iaload hx (j := (2 : Int32)) (v := (.int z)) (by rw [e1]; exact Ar3.1) (State.isArrayOf_alike hZ.alike Ar3.2.1) Ar3.2.2 hin3 (Has.at Ha3 hin3 rfl) (g := (mkF m 13 #[rv a, iv 2] [(.int 2), (.ref dat)])) rfl rfl (hb hby d6_13) _ ?_
      show Go p e below T1 (mkF m 14 #[rv a, iv 2] [(.int z)]) _
      exact kt)
  obtain ⟨fs, hr, hrun, hended, hW, hsame⟩ := X1.leave (v := some (.int z)) (fun h => by rw [Bd.returns] at h; cases h)
  refine ⟨_, _, pre4 _ ?_, hrun, hended, _, _, rfl, ?_, ⟨_, rfl⟩, hW, hsame.mono (by decide) (by decide)⟩
  · show Steps p.tables e below (T1.setTop (mkF m 14 #[rv a, iv 2] [(.int z)])) _
    exact retI X1 hx Bd.returns (hb hby d6_14) hr
  · show Q_rmG2 Z a blk dat kb kd x y z h0 n0 _ T1.heap _
    rw [e1]
    exact ⟨rfl, N0, rfl⟩
theorem ef_5 (m : MethodId) (x0 : Addr) : entryFrame m #[(.ref x0)] 1 = mkF m 0 #[.val (.ref x0)] [] := by first | (simp [entryFrame, mkF, argsToLocals, Value.category]; done) | rfl
theorem d5_0 : decode prog_8_method_5_code 0 = .ok (.aload_n 0, 1) := by decide +kernel
theorem d5_1 : decode prog_8_method_5_code 1 = .ok (.getfield 15, 3) := by decide +kernel
theorem d5_4 : decode prog_8_method_5_code 4 = .ok (.ireturn, 1) := by decide +kernel
def Q_rmZ (Z : State) (a : Addr) (blk : Addr) (dat : Addr) (kb : ClassId) (kd : ClassId) (x : Int32) (y : Int32) (z : Int32) (h0 : Heap) (n0 : Nat) (v : Option Value) (h : Heap) (L : List Loc) : Prop := v = some (.int 3) ∧ Fr n0 L ∧ h = h0
set_option maxRecDepth 65536 in
set_option maxHeartbeats 40000000 in
theorem rmZ (l : Launch) (Z : State) (a0 : Array Value) (hw : ∀ d ∈ tables_1, d.before a0 Z = true) (ws : List Jvm.Cond) (a : Addr) (blk : Addr) (dat : Addr) (kb : ClassId) (kd : ClassId) (x : Int32) (y : Int32) (z : Int32) (h0 : Heap) (n0 : Nat) (Z0 : n0 ≤ h0.size) (hC : Col Z h0 a blk dat kb kd 3 x y z) :
    MetFree l (⟨"com/example/guarded_graph/guardedgraph/IntColumn", "size", "()I"⟩ : MethodName) (head1 (Jvm.Cond.code (⟨"com/example/guarded_graph/guardedgraph/IntColumn", "size", "()I"⟩ : MethodName) prog_8_method_5_code 1 (some .int) :: ws) ({ frames := 0, cells := 0, slots := 0, locals := 0 } : Room)) (fun av_ U_ => av_ = #[(.ref a)] ∧ Z.Warmed39 U_.vm ∧ U_.heap = h0) (fun _ _ _ _ _ => True) (fun _ U_ o_ V_ => ∃ v_ L_, o_ = .returned v_ ∧ Q_rmZ Z a blk dat kb kd x y z h0 n0 v_ V_.heap L_ ∧ FrameEnd U_ o_ V_ L_ ({ frames := 0, cells := 0, slots := 0, locals := 0 } : Room).cells ({ frames := 0, cells := 0, slots := 0, locals := 0 } : Room).slots) := by
  refine MetFree.of_bodySF (plainFor_of_name pn_com_example_guarded_graph_guardedgraph_IntColumn) hisR ?_
  intro p e s m args below meth c s₁ Bd hml0 hP hK
  obtain ⟨rfl, hZ, hh⟩ := hP
  have hx := Bd.exec
  have hby := Bd.bytes
  have hml : c.maxLocals = 1 := hml0
  have hown : s.vm.findClass "com/example/guarded_graph/guardedgraph/IntColumn" = some m.cls := findClass_of_methodNamed Bd.named
  have hnm := (name_of_methodNamed Bd.named Bd.method).1
  have X0 : Stand p l e ({ frames := 0, cells := 0, slots := 0, locals := 0 } : Room) s m #[(.ref a)] below meth c s₁ [] 0 0 := Stand.of_body Bd
  have e0 : s₁.heap = h0 := by rw [← hh, Bd.state]; rfl
  have N0 := Fr.nil n0
  have pre0 : ∀ t_, Go p e below s₁ (mkF m 0 #[rv a] []) t_ → Go p e below s₁ (entryFrame m #[(.ref a)] 1) t_ := fun t_ kt => castTop (ef_5 m a) kt
  obtain ⟨E_a, F_b, F_s, V_b, O_b, V_d, n_ab, n_ad, n_bd⟩ := hC
  obtain ⟨T1, X1, e1, st1⟩ := getF X0 hx hZ hown (host := "") (Or.inl (hwi hw 18 rfl)) Via.refl e0 F_s (g := (mkF m 1 #[rv a] [(.ref a)])) rfl rfl (hb hby d5_1)
  have pre2 : ∀ t_, Go p e below T1 (mkF m 4 #[rv a] [(.int 3)]) t_ → Go p e below s₁ (entryFrame m #[(.ref a)] 1) t_ := fun t_ kt => pre0 _ (by
      show Go p e below s₁ (mkF m 0 #[rv a] []) _
      refine XS.aloadN X0.here hx rfl (hb hby d5_0) rfl rfl ?_
      show Go p e below s₁ (mkF m 1 #[rv a] [(.ref a)]) _
      refine st1 _ ?_
      show Go p e below T1 (mkF m 4 #[rv a] [(.int 3)]) _
      exact kt)
  obtain ⟨fs, hr, hrun, hended, hW, hsame⟩ := X1.leave (v := some (.int 3)) (fun h => by rw [Bd.returns] at h; cases h)
  refine ⟨_, _, pre2 _ ?_, hrun, hended, _, _, rfl, ?_, ⟨_, rfl⟩, hW, hsame.mono (by decide) (by decide)⟩
  · show Steps p.tables e below (T1.setTop (mkF m 4 #[rv a] [(.int 3)])) _
    exact retI X1 hx Bd.returns (hb hby d5_4) hr
  · show Q_rmZ Z a blk dat kb kd x y z h0 n0 _ T1.heap _
    rw [e1]
    exact ⟨rfl, N0, rfl⟩
theorem ef_0 (m : MethodId) (x0 : Int32) (x1 : Int32) (x2 : Int32) (x3 : Int32) (x4 : Int32) : entryFrame m #[(.int x0), (.int x1), (.int x2), (.int x3), (.int x4)] maxLocals = mkF m 0 #[.val (.int x0), .val (.int x1), .val (.int x2), .val (.int x3), .val (.int x4), .unset, .unset, .unset, .unset, .unset] [] := by first | (simp [entryFrame, mkF, argsToLocals, Value.category, maxLocals]; done) | rfl
theorem pn_com_example_guarded_graph_guardedgraph_IntColumnGetPinLaw : plainName "com/example/guarded_graph/guardedgraph/IntColumnGetPinLaw" = true := by first | (simp [plainName, overriddenIn]; done) | decide +kernel
theorem pd_0 : parseMethodDescriptor "()V" = some ⟨[], none⟩ := by decide +kernel
theorem pd_1 : parseMethodDescriptor "(I)V" = some ⟨[.int], none⟩ := by decide +kernel
theorem pd_2 : parseMethodDescriptor "(II)V" = some ⟨[.int, .int], none⟩ := by decide +kernel
theorem pd_3 : parseMethodDescriptor "()I" = some ⟨[], some .int⟩ := by decide +kernel
theorem pd_4 : parseMethodDescriptor "(I)I" = some ⟨[.int], some .int⟩ := by decide +kernel
def Q_rmL (Z : State) (p1 : Int32) (p2 : Int32) (p3 : Int32) (p4 : Int32) (p5 : Int32) (h0 : Heap) (n0 : Nat) (v : Option Value) (h : Heap) (L : List Loc) : Prop := v = some (.int 1) ∧ Fr n0 L
set_option maxRecDepth 65536 in
set_option maxHeartbeats 40000000 in
theorem rmL (l : Launch) (Z : State) (a0 : Array Value) (hw : ∀ d ∈ tables_1, d.before a0 Z = true) (ws : List Jvm.Cond) (p1 : Int32) (p2 : Int32) (p3 : Int32) (p4 : Int32) (p5 : Int32) (h0 : Heap) (n0 : Nat) (Z0 : n0 ≤ h0.size) :
    MetFree l x (head1 (Jvm.Cond.code x code maxLocals ret :: ws) room_1) (fun av_ U_ => av_ = #[(.int p1), (.int p2), (.int p3), (.int p4), (.int p5)] ∧ Z.Warmed39 U_.vm ∧ U_.heap = h0) (fun _ _ _ _ _ => True) (fun _ U_ o_ V_ => ∃ v_ L_, o_ = .returned v_ ∧ Q_rmL Z p1 p2 p3 p4 p5 h0 n0 v_ V_.heap L_ ∧ FrameEnd U_ o_ V_ L_ room_1.cells room_1.slots) := by
  refine MetFree.of_bodySF (plainFor_of_name pn_com_example_guarded_graph_guardedgraph_IntColumnGetPinLaw) hisR ?_
  intro p e s m args below meth c s₁ Bd hml0 hP hK
  obtain ⟨rfl, hZ, hh⟩ := hP
  have hx := Bd.exec
  have hby := Bd.bytes
  have hml : c.maxLocals = 10 := hml0
  have hown : s.vm.findClass "com/example/guarded_graph/guardedgraph/IntColumnGetPinLaw" = some m.cls := findClass_of_methodNamed Bd.named
  have hnm := (name_of_methodNamed Bd.named Bd.method).1
  have X0 : Stand p l e room_1 s m #[(.int p1), (.int p2), (.int p3), (.int p4), (.int p5)] below meth c s₁ [] 0 0 := Stand.of_body Bd
  have e0 : s₁.heap = h0 := by rw [← hh, Bd.state]; rfl
  have N0 := Fr.nil n0
  have pre0 : ∀ t_, Go p e below s₁ (mkF m 0 #[iv p1, iv p2, iv p3, iv p4, iv p5, .unset, .unset, .unset, .unset, .unset] []) t_ → Go p e below s₁ (entryFrame m #[(.int p1), (.int p2), (.int p3), (.int p4), (.int p5)] maxLocals) t_ := fun t_ kt => castTop (ef_0 m p1 p2 p3 p4 p5) kt
  obtain ⟨T1, h1, X1, e1, E1, A1, D1, -, st1⟩ := newO X0 hx hZ hown (hwi hw 0 rfl) (hwi hw 1 rfl) (hwi hw 2 rfl) e0 (g := (mkF m 0 #[iv p1, iv p2, iv p3, iv p4, iv p5, .unset, .unset, .unset, .unset, .unset] [])) rfl (hb hby at_0) (by decide) (by decide)
  obtain ⟨b1, g1⟩ : ∃ z, z = h0.size := ⟨_, rfl⟩
  rw [← g1] at A1 D1 st1
  have sz_b1 : h0.size ≤ b1 := Nat.le_trans (Keep.refl h0 []).1 (Nat.le_of_eq g1.symm)
  have g_b1 : n0 ≤ b1 := Nat.le_trans Z0 sz_b1
  have K1 : Keep h0 h1 [] := (Keep.refl h0 []).ext E1
  have F_blocks_b1 : Fld Z h1 b1 "com/example/guarded_graph/guardedgraph/IntColumn" "blocks" "[[I" .null := D1 (Or.inl (hwi hw 12 rfl)) (ty := (.array (.array .int))) (by decide)
  have F_size_b1 : Fld Z h1 b1 "com/example/guarded_graph/guardedgraph/IntColumn" "size" "I" (.int 0) := D1 (Or.inl (hwi hw 19 rfl)) (ty := .int) (by decide)
  obtain ⟨_, _, ⟨T2, L2, k2, n2⟩, -, X2, ⟨Lc2, hQ2, l2, y2, z2⟩, st2⟩ := X1.specialBack hx (y := (⟨"com/example/guarded_graph/guardedgraph/IntColumn", "<init>", "()V"⟩ : MethodName)) rfl hown (mvT hZ (hwi hw 3 rfl)) (mvT hZ (hwi hw 4 rfl)) (mvT hZ (hwi hw 5 rfl)) (by decide) (backOf (W := 1) (rmI l Z a0 hw [] b1 h1 n0 (Nat.le_trans Z0 K1.1) A1 g_b1 F_blocks_b1 F_size_b1) hZ (hwi hw 5 rfl) (hwi hw 2 rfl) (by decide) (by decide)) (g := (mkF m 4 #[iv p1, iv p2, iv p3, iv p4, iv p5, .unset, .unset, .unset, .unset, .unset] [(.ref b1), (.ref b1)])) rfl (by rw [hml]; rfl) (Steps.refl _) (a := b1) (argsL := []) (rest := [(.ref b1)]) (lenOf pd_0 rfl) rfl (by show 2 * 0 + _ ≤ _; exact Nat.le_of_eq rfl) (hb hby at_4) (fun _ _ => ⟨rfl, e1, (by decide : 1 + 1 ≤ _), (by decide : 2 + 16 ≤ _)⟩)
  dsimp only [Pt.U, Pt.locs, Pt.cells, Pt.slots] at X2 l2 y2 z2 st2 hQ2
  subst l2 y2 z2
  obtain ⟨bk2, kb2, rfl, N2q, kc2, -, Fb2, Fs2, Vb2, Ob2, gk2, sz2⟩ := hQ2
  have N2 := Fr.app N0 N2q
  have f3 := A1.keep kc2
  have K6 : Keep h0 T2.heap [] := K1.trans kc2 (allS (Or.inr sz_b1) all0)
  have nbk : b1 ≠ bk2 := Nat.ne_of_lt (Nat.lt_of_lt_of_le A1.lt sz2)
  have szk : h0.size ≤ bk2 := Nat.le_trans K1.1 sz2
  obtain ⟨cq7, kq7, q7a, q7b, q7c⟩ := isOf hZ rfl f3
  obtain ⟨_, _, ⟨T7, L7, k7, n7⟩, -, X7, ⟨Lc7, hQ7, l7, y7, z7⟩, st7⟩ := X2.virtualBack hx (y := (⟨"com/example/guarded_graph/guardedgraph/IntColumn", "add", "(I)V"⟩ : MethodName)) (z := (⟨"com/example/guarded_graph/guardedgraph/IntColumn", "add", "(I)V"⟩ : MethodName)) hown (mvT hZ (hwi hw 13 rfl)) (mvT hZ (hwi hw 14 rfl)) (notFace_of_selects (args := #[]) (mvT hZ (hwi hw 16 rfl))) (mvT hZ (hwi hw 16 rfl)) (mvT hZ (hwi hw 15 rfl)) (by decide) (backOf (W := 0) (rmA0 l Z a0 hw [] b1 p1 bk2 kb2 T2.heap n0 (Nat.le_trans Z0 K6.1) f3 Fb2 Fs2 Vb2 Ob2 nbk g_b1 gk2) hZ (hwi hw 17 rfl) (hwi hw 2 rfl) (by decide) (by decide)) q7a q7c (g := (mkF m 12 #[iv p1, iv p2, iv p3, iv p4, iv p5, rv b1, .unset, .unset, .unset, .unset] [(.int p1), (.ref b1)])) rfl (by rw [hml]; rfl) (Steps.refl _) (argsL := [(.int p1)]) (rest := []) (lenOf pd_1 rfl) rfl (by show 2 * 0 + _ ≤ _; exact Nat.le_of_eq rfl) (hb hby at_12) (fun _ _ => ⟨rfl, rfl, (by decide : 2 + 1 ≤ _), (by decide : 18 + 65536 ≤ _)⟩)
  dsimp only [Pt.U, Pt.locs, Pt.cells, Pt.slots] at X7 l7 y7 z7 st7 hQ7
  subst l7 y7 z7
  obtain ⟨dt7, kd7, rfl, N7q, kc7, gd7, sz7, Cl7⟩ := hQ7
  have N7 := Fr.app N2 N7q
  have K8 : Keep h0 T7.heap [] := K6.trans kc7 (allS (Or.inr sz_b1) (allS (Or.inr szk) all0))
  have szd : h0.size ≤ dt7 := Nat.le_trans K6.1 sz7
  have Ee7 := Cl7.1
  obtain ⟨cq9, kq9, q9a, q9b, q9c⟩ := isOf hZ rfl Ee7
  obtain ⟨_, _, ⟨T9, L9, k9, n9⟩, -, X9, ⟨Lc9, hQ9, l9, y9, z9⟩, st9⟩ := X7.virtualBack hx (y := (⟨"com/example/guarded_graph/guardedgraph/IntColumn", "add", "(I)V"⟩ : MethodName)) (z := (⟨"com/example/guarded_graph/guardedgraph/IntColumn", "add", "(I)V"⟩ : MethodName)) hown (mvT hZ (hwi hw 13 rfl)) (mvT hZ (hwi hw 14 rfl)) (notFace_of_selects (args := #[]) (mvT hZ (hwi hw 16 rfl))) (mvT hZ (hwi hw 16 rfl)) (mvT hZ (hwi hw 15 rfl)) (by decide) (backOf (W := 0) (rmA1 l Z a0 hw [] b1 p2 bk2 dt7 kb2 kd7 p1 0 0 T7.heap n0 (Nat.le_trans Z0 K8.1) Cl7 g_b1 gd7) hZ (hwi hw 17 rfl) (hwi hw 2 rfl) (by decide) (by decide)) q9a q9c (g := (mkF m 18 #[iv p1, iv p2, iv p3, iv p4, iv p5, rv b1, .unset, .unset, .unset, .unset] [(.int p2), (.ref b1)])) rfl (by rw [hml]; rfl) (Steps.refl _) (argsL := [(.int p2)]) (rest := []) (lenOf pd_1 rfl) rfl (by show 2 * 0 + _ ≤ _; exact Nat.le_of_eq rfl) (hb hby at_18) (fun _ _ => ⟨rfl, rfl, (by decide : 3 + 0 ≤ _), (by decide : 65554 + 0 ≤ _)⟩)
  dsimp only [Pt.U, Pt.locs, Pt.cells, Pt.slots] at X9 l9 y9 z9 st9 hQ9
  subst l9 y9 z9
  obtain ⟨rfl, N9q, kc9, Cl9⟩ := hQ9
  have N9 := Fr.app N7 N9q
  have K10 : Keep h0 T9.heap [] := K8.trans kc9 (allS (Or.inr sz_b1) (allS (Or.inr szd) all0))
  have Ee9 := Cl9.1
  obtain ⟨cq11, kq11, q11a, q11b, q11c⟩ := isOf hZ rfl Ee9
  obtain ⟨_, _, ⟨T11, L11, k11, n11⟩, -, X11, ⟨Lc11, hQ11, l11, y11, z11⟩, st11⟩ := X9.virtualBack hx (y := (⟨"com/example/guarded_graph/guardedgraph/IntColumn", "add", "(I)V"⟩ : MethodName)) (z := (⟨"com/example/guarded_graph/guardedgraph/IntColumn", "add", "(I)V"⟩ : MethodName)) hown (mvT hZ (hwi hw 13 rfl)) (mvT hZ (hwi hw 14 rfl)) (notFace_of_selects (args := #[]) (mvT hZ (hwi hw 16 rfl))) (mvT hZ (hwi hw 16 rfl)) (mvT hZ (hwi hw 15 rfl)) (by decide) (backOf (W := 0) (rmA2 l Z a0 hw [] b1 p3 bk2 dt7 kb2 kd7 p1 p2 0 T9.heap n0 (Nat.le_trans Z0 K10.1) Cl9 g_b1 gd7) hZ (hwi hw 17 rfl) (hwi hw 2 rfl) (by decide) (by decide)) q11a q11c (g := (mkF m 24 #[iv p1, iv p2, iv p3, iv p4, iv p5, rv b1, .unset, .unset, .unset, .unset] [(.int p3), (.ref b1)])) rfl (by rw [hml]; rfl) (Steps.refl _) (argsL := [(.int p3)]) (rest := []) (lenOf pd_1 rfl) rfl (by show 2 * 0 + _ ≤ _; exact Nat.le_of_eq rfl) (hb hby at_24) (fun _ _ => ⟨rfl, rfl, (by decide : 3 + 0 ≤ _), (by decide : 65554 + 0 ≤ _)⟩)
  dsimp only [Pt.U, Pt.locs, Pt.cells, Pt.slots] at X11 l11 y11 z11 st11 hQ11
  subst l11 y11 z11
  obtain ⟨rfl, N11q, kc11, Cl11⟩ := hQ11
  have N11 := Fr.app N9 N11q
  have K12 : Keep h0 T11.heap [] := K10.trans kc11 (allS (Or.inr sz_b1) (allS (Or.inr szd) all0))
  have Ee11 := Cl11.1
  have hkr := own_rng _ (own_mod p4 3 3 (by decide) (by decide))
  obtain ⟨k, e_k⟩ : ∃ z : Int32, z = ((p4 &&& (2147483647 : Int32)) % (3 : Int32)) := ⟨_, rfl⟩
  have pre13 : ∀ t_, Go p e below T11 (mkF m 35 #[iv p1, iv p2, iv p3, iv p4, iv p5, rv b1, iv k, .unset, .unset, .unset] []) t_ → Go p e below s₁ (entryFrame m #[(.int p1), (.int p2), (.int p3), (.int p4), (.int p5)] maxLocals) t_ := fun t_ kt => pre0 _ (by
      subst e_k
      show Go p e below s₁ (mkF m 0 #[iv p1, iv p2, iv p3, iv p4, iv p5, .unset, .unset, .unset, .unset, .unset] []) _
      refine st1 _ ?_
      show Go p e below T1 (mkF m 3 #[iv p1, iv p2, iv p3, iv p4, iv p5, .unset, .unset, .unset, .unset, .unset] [(.ref b1)]) _
      refine XS.dup X1.here hx rfl (hb hby at_3) rfl rfl ?_
      show Go p e below T1 (mkF m 4 #[iv p1, iv p2, iv p3, iv p4, iv p5, .unset, .unset, .unset, .unset, .unset] [(.ref b1), (.ref b1)]) _
      refine st2.trans ?_
      show Go p e below T2 (mkF m 7 #[iv p1, iv p2, iv p3, iv p4, iv p5, .unset, .unset, .unset, .unset, .unset] [(.ref b1)]) _
      refine XS.astore X2.here hx rfl (hb hby at_7) rfl rfl (l' := #[iv p1, iv p2, iv p3, iv p4, iv p5, rv b1, .unset, .unset, .unset, .unset]) rfl ?_
      show Go p e below T2 (mkF m 9 #[iv p1, iv p2, iv p3, iv p4, iv p5, rv b1, .unset, .unset, .unset, .unset] []) _
      refine XS.aload X2.here hx rfl (hb hby at_9) rfl rfl ?_
      show Go p e below T2 (mkF m 11 #[iv p1, iv p2, iv p3, iv p4, iv p5, rv b1, .unset, .unset, .unset, .unset] [(.ref b1)]) _
      refine XS.iloadN X2.here hx rfl (hb hby at_11) rfl ?_
      show Go p e below T2 (mkF m 12 #[iv p1, iv p2, iv p3, iv p4, iv p5, rv b1, .unset, .unset, .unset, .unset] [(.int p1), (.ref b1)]) _
      refine st7.trans ?_
      show Go p e below T7 (mkF m 15 #[iv p1, iv p2, iv p3, iv p4, iv p5, rv b1, .unset, .unset, .unset, .unset] []) _
      refine XS.aload X7.here hx rfl (hb hby at_15) rfl rfl ?_
      show Go p e below T7 (mkF m 17 #[iv p1, iv p2, iv p3, iv p4, iv p5, rv b1, .unset, .unset, .unset, .unset] [(.ref b1)]) _
      refine XS.iloadN X7.here hx rfl (hb hby at_17) rfl ?_
      show Go p e below T7 (mkF m 18 #[iv p1, iv p2, iv p3, iv p4, iv p5, rv b1, .unset, .unset, .unset, .unset] [(.int p2), (.ref b1)]) _
      refine st9.trans ?_
      show Go p e below T9 (mkF m 21 #[iv p1, iv p2, iv p3, iv p4, iv p5, rv b1, .unset, .unset, .unset, .unset] []) _
      refine XS.aload X9.here hx rfl (hb hby at_21) rfl rfl ?_
      show Go p e below T9 (mkF m 23 #[iv p1, iv p2, iv p3, iv p4, iv p5, rv b1, .unset, .unset, .unset, .unset] [(.ref b1)]) _
      refine XS.iloadN X9.here hx rfl (hb hby at_23) rfl ?_
      show Go p e below T9 (mkF m 24 #[iv p1, iv p2, iv p3, iv p4, iv p5, rv b1, .unset, .unset, .unset, .unset] [(.int p3), (.ref b1)]) _
      refine st11.trans ?_
      show Go p e below T11 (mkF m 27 #[iv p1, iv p2, iv p3, iv p4, iv p5, rv b1, .unset, .unset, .unset, .unset] []) _
      refine XS.iloadN X11.here hx rfl (hb hby at_27) rfl ?_
      show Go p e below T11 (mkF m 28 #[iv p1, iv p2, iv p3, iv p4, iv p5, rv b1, .unset, .unset, .unset, .unset] [(.int p4)]) _
      refine X11.ldcInt hx hown (mvT hZ (hwi hw 25 rfl)) (g := (mkF m 28 #[iv p1, iv p2, iv p3, iv p4, iv p5, rv b1, .unset, .unset, .unset, .unset] [(.int p4)])) rfl (hb hby at_28) _ ?_
      show Go p e below T11 (mkF m 30 #[iv p1, iv p2, iv p3, iv p4, iv p5, rv b1, .unset, .unset, .unset, .unset] [(.int 2147483647), (.int p4)]) _
      refine XS.iand X11.here hx rfl (hb hby at_30) rfl ?_
      show Go p e below T11 (mkF m 31 #[iv p1, iv p2, iv p3, iv p4, iv p5, rv b1, .unset, .unset, .unset, .unset] [(.int (p4 &&& (2147483647 : Int32)))]) _
      refine XS.iconst X11.here hx rfl (hb hby at_31) ?_
      show Go p e below T11 (mkF m 32 #[iv p1, iv p2, iv p3, iv p4, iv p5, rv b1, .unset, .unset, .unset, .unset] [(.int 3), (.int (p4 &&& (2147483647 : Int32)))]) _
      refine iremM X11 hx rfl (hb hby at_32) rfl (by decide) ?_
      show Go p e below T11 (mkF m 33 #[iv p1, iv p2, iv p3, iv p4, iv p5, rv b1, .unset, .unset, .unset, .unset] [(.int ((p4 &&& (2147483647 : Int32)) % (3 : Int32)))]) _
      refine XS.istore X11.here hx rfl (hb hby at_33) rfl (l' := #[iv p1, iv p2, iv p3, iv p4, iv p5, rv b1, iv ((p4 &&& (2147483647 : Int32)) % (3 : Int32)), .unset, .unset, .unset]) rfl ?_
      show Go p e below T11 (mkF m 35 #[iv p1, iv p2, iv p3, iv p4, iv p5, rv b1, iv ((p4 &&& (2147483647 : Int32)) % (3 : Int32)), .unset, .unset, .unset] []) _
      exact kt)
  rw [← e_k] at hkr
  clear e_k
  rcases hkr with rfl | rfl | rfl
  · obtain ⟨cq14, kq14, q14a, q14b, q14c⟩ := isOf hZ rfl Ee11
    obtain ⟨_, _, ⟨T14, L14, k14, n14⟩, -, X14, ⟨Lc14, hQ14, l14, y14, z14⟩, st14⟩ := X11.virtualBack hx (y := (⟨"com/example/guarded_graph/guardedgraph/IntColumn", "set", "(II)V"⟩ : MethodName)) (z := (⟨"com/example/guarded_graph/guardedgraph/IntColumn", "set", "(II)V"⟩ : MethodName)) hown (mvT hZ (hwi hw 26 rfl)) (mvT hZ (hwi hw 27 rfl)) (notFace_of_selects (args := #[]) (mvT hZ (hwi hw 29 rfl))) (mvT hZ (hwi hw 29 rfl)) (mvT hZ (hwi hw 28 rfl)) (by decide) (backOf (W := 0) (rmS0 l Z a0 hw [] b1 p5 bk2 dt7 kb2 kd7 p1 p2 p3 T11.heap n0 (Nat.le_trans Z0 K12.1) Cl11 gd7) hZ (hwi hw 30 rfl) (hwi hw 2 rfl) (by decide) (by decide)) q14a q14c (g := (mkF m 41 #[iv p1, iv p2, iv p3, iv p4, iv p5, rv b1, iv 0, .unset, .unset, .unset] [(.int p5), (.int 0), (.ref b1)])) rfl (by rw [hml]; rfl) (Steps.refl _) (argsL := [(.int 0), (.int p5)]) (rest := []) (lenOf pd_2 rfl) rfl (by show 2 * 0 + _ ≤ _; exact Nat.le_of_eq rfl) (hb hby at_41) (fun _ _ => ⟨rfl, rfl, (by decide : 3 + 0 ≤ _), (by decide : 65554 + 0 ≤ _)⟩)
    dsimp only [Pt.U, Pt.locs, Pt.cells, Pt.slots] at X14 l14 y14 z14 st14 hQ14
    subst l14 y14 z14
    obtain ⟨rfl, N14q, kc14, Cl14⟩ := hQ14
    have N14 := Fr.app N11 N14q
    have K15 : Keep h0 T14.heap [] := K12.trans kc14 (allS (Or.inr szd) all0)
    have Ee14 := Cl14.1
    obtain ⟨cq16, kq16, q16a, q16b, q16c⟩ := isOf hZ rfl Ee14
    obtain ⟨_, _, ⟨T16, L16, k16, n16⟩, -, X16, ⟨Lc16, hQ16, l16, y16, z16⟩, st16⟩ := X14.virtualBack hx (y := (⟨"com/example/guarded_graph/guardedgraph/IntColumn", "size", "()I"⟩ : MethodName)) (z := (⟨"com/example/guarded_graph/guardedgraph/IntColumn", "size", "()I"⟩ : MethodName)) hown (mvT hZ (hwi hw 31 rfl)) (mvT hZ (hwi hw 32 rfl)) (notFace_of_selects (args := #[]) (mvT hZ (hwi hw 34 rfl))) (mvT hZ (hwi hw 34 rfl)) (mvT hZ (hwi hw 33 rfl)) (by decide) (backOf (W := 0) (rmZ l Z a0 hw [] b1 bk2 dt7 kb2 kd7 p5 p2 p3 T14.heap n0 (Nat.le_trans Z0 K15.1) Cl14) hZ (hwi hw 35 rfl) (hwi hw 2 rfl) (by decide) (by decide)) q16a q16c (g := (mkF m 87 #[iv p1, iv p2, iv p3, iv p4, iv p5, rv b1, iv 0, iv p5, iv p2, iv p3] [(.ref b1)])) rfl (by rw [hml]; rfl) (Steps.refl _) (argsL := []) (rest := []) (lenOf pd_3 rfl) rfl (by show 2 * 0 + _ ≤ _; exact Nat.le_of_eq rfl) (hb hby at_87) (fun _ _ => ⟨rfl, rfl, (by decide : 3 + 0 ≤ _), (by decide : 65554 + 0 ≤ _)⟩)
    dsimp only [Pt.U, Pt.locs, Pt.cells, Pt.slots] at X16 l16 y16 z16 st16 hQ16
    subst l16 y16 z16
    obtain ⟨rfl, N16q, e16q⟩ := hQ16
    have N16 := Fr.app N14 N16q
    obtain ⟨cq17, kq17, q17a, q17b, q17c⟩ := isOf hZ e16q Ee14
    obtain ⟨_, _, ⟨T17, L17, k17, n17⟩, -, X17, ⟨Lc17, hQ17, l17, y17, z17⟩, st17⟩ := X16.virtualBack hx (y := (⟨"com/example/guarded_graph/guardedgraph/IntColumn", "get", "(I)I"⟩ : MethodName)) (z := (⟨"com/example/guarded_graph/guardedgraph/IntColumn", "get", "(I)I"⟩ : MethodName)) hown (mvT hZ (hwi hw 36 rfl)) (mvT hZ (hwi hw 37 rfl)) (notFace_of_selects (args := #[]) (mvT hZ (hwi hw 39 rfl))) (mvT hZ (hwi hw 39 rfl)) (mvT hZ (hwi hw 38 rfl)) (by decide) (backOf (W := 0) (rmG0 l Z a0 hw [] b1 bk2 dt7 kb2 kd7 p5 p2 p3 T14.heap n0 (Nat.le_trans Z0 K15.1) Cl14) hZ (hwi hw 40 rfl) (hwi hw 2 rfl) (by decide) (by decide)) q17a q17c (g := (mkF m 97 #[iv p1, iv p2, iv p3, iv p4, iv p5, rv b1, iv 0, iv p5, iv p2, iv p3] [(.int 0), (.ref b1)])) rfl (by rw [hml]; rfl) (Steps.refl _) (argsL := [(.int 0)]) (rest := []) (lenOf pd_4 rfl) rfl (by show 2 * 0 + _ ≤ _; exact Nat.le_of_eq rfl) (hb hby at_97) (fun _ _ => ⟨rfl, e16q, (by decide : 3 + 0 ≤ _), (by decide : 65554 + 0 ≤ _)⟩)
    dsimp only [Pt.U, Pt.locs, Pt.cells, Pt.slots] at X17 l17 y17 z17 st17 hQ17
    subst l17 y17 z17
    obtain ⟨rfl, N17q, e17q⟩ := hQ17
    have N17 := Fr.app N16 N17q
    obtain ⟨cq18, kq18, q18a, q18b, q18c⟩ := isOf hZ e17q Ee14
    obtain ⟨_, _, ⟨T18, L18, k18, n18⟩, -, X18, ⟨Lc18, hQ18, l18, y18, z18⟩, st18⟩ := X17.virtualBack hx (y := (⟨"com/example/guarded_graph/guardedgraph/IntColumn", "get", "(I)I"⟩ : MethodName)) (z := (⟨"com/example/guarded_graph/guardedgraph/IntColumn", "get", "(I)I"⟩ : MethodName)) hown (mvT hZ (hwi hw 36 rfl)) (mvT hZ (hwi hw 37 rfl)) (notFace_of_selects (args := #[]) (mvT hZ (hwi hw 39 rfl))) (mvT hZ (hwi hw 39 rfl)) (mvT hZ (hwi hw 38 rfl)) (by decide) (backOf (W := 0) (rmG1 l Z a0 hw [] b1 bk2 dt7 kb2 kd7 p5 p2 p3 T14.heap n0 (Nat.le_trans Z0 K15.1) Cl14) hZ (hwi hw 40 rfl) (hwi hw 2 rfl) (by decide) (by decide)) q18a q18c (g := (mkF m 108 #[iv p1, iv p2, iv p3, iv p4, iv p5, rv b1, iv 0, iv p5, iv p2, iv p3] [(.int 1), (.ref b1)])) rfl (by rw [hml]; rfl) (Steps.refl _) (argsL := [(.int 1)]) (rest := []) (lenOf pd_4 rfl) rfl (by show 2 * 0 + _ ≤ _; exact Nat.le_of_eq rfl) (hb hby at_108) (fun _ _ => ⟨rfl, e17q, (by decide : 3 + 0 ≤ _), (by decide : 65554 + 0 ≤ _)⟩)
    dsimp only [Pt.U, Pt.locs, Pt.cells, Pt.slots] at X18 l18 y18 z18 st18 hQ18
    subst l18 y18 z18
    obtain ⟨rfl, N18q, e18q⟩ := hQ18
    have N18 := Fr.app N17 N18q
    obtain ⟨cq19, kq19, q19a, q19b, q19c⟩ := isOf hZ e18q Ee14
    obtain ⟨_, _, ⟨T19, L19, k19, n19⟩, -, X19, ⟨Lc19, hQ19, l19, y19, z19⟩, st19⟩ := X18.virtualBack hx (y := (⟨"com/example/guarded_graph/guardedgraph/IntColumn", "get", "(I)I"⟩ : MethodName)) (z := (⟨"com/example/guarded_graph/guardedgraph/IntColumn", "get", "(I)I"⟩ : MethodName)) hown (mvT hZ (hwi hw 36 rfl)) (mvT hZ (hwi hw 37 rfl)) (notFace_of_selects (args := #[]) (mvT hZ (hwi hw 39 rfl))) (mvT hZ (hwi hw 39 rfl)) (mvT hZ (hwi hw 38 rfl)) (by decide) (backOf (W := 0) (rmG2 l Z a0 hw [] b1 bk2 dt7 kb2 kd7 p5 p2 p3 T14.heap n0 (Nat.le_trans Z0 K15.1) Cl14) hZ (hwi hw 40 rfl) (hwi hw 2 rfl) (by decide) (by decide)) q19a q19c (g := (mkF m 119 #[iv p1, iv p2, iv p3, iv p4, iv p5, rv b1, iv 0, iv p5, iv p2, iv p3] [(.int 2), (.ref b1)])) rfl (by rw [hml]; rfl) (Steps.refl _) (argsL := [(.int 2)]) (rest := []) (lenOf pd_4 rfl) rfl (by show 2 * 0 + _ ≤ _; exact Nat.le_of_eq rfl) (hb hby at_119) (fun _ _ => ⟨rfl, e18q, (by decide : 3 + 0 ≤ _), (by decide : 65554 + 0 ≤ _)⟩)
    dsimp only [Pt.U, Pt.locs, Pt.cells, Pt.slots] at X19 l19 y19 z19 st19 hQ19
    subst l19 y19 z19
    obtain ⟨rfl, N19q, e19q⟩ := hQ19
    have N19 := Fr.app N18 N19q
    have pre20 : ∀ t_, Go p e below T19 (mkF m 132 #[iv p1, iv p2, iv p3, iv p4, iv p5, rv b1, iv 0, iv p5, iv p2, iv p3] [(.int 1)]) t_ → Go p e below s₁ (entryFrame m #[(.int p1), (.int p2), (.int p3), (.int p4), (.int p5)] maxLocals) t_ := fun t_ kt => pre13 _ (by
        show Go p e below T11 (mkF m 35 #[iv p1, iv p2, iv p3, iv p4, iv p5, rv b1, iv 0, .unset, .unset, .unset] []) _
        refine XS.aload X11.here hx rfl (hb hby at_35) rfl rfl ?_
        show Go p e below T11 (mkF m 37 #[iv p1, iv p2, iv p3, iv p4, iv p5, rv b1, iv 0, .unset, .unset, .unset] [(.ref b1)]) _
        refine XS.iload X11.here hx rfl (hb hby at_37) rfl ?_
        show Go p e below T11 (mkF m 39 #[iv p1, iv p2, iv p3, iv p4, iv p5, rv b1, iv 0, .unset, .unset, .unset] [(.int 0), (.ref b1)]) _
        refine XS.iload X11.here hx rfl (hb hby at_39) rfl ?_
        show Go p e below T11 (mkF m 41 #[iv p1, iv p2, iv p3, iv p4, iv p5, rv b1, iv 0, .unset, .unset, .unset] [(.int p5), (.int 0), (.ref b1)]) _
        refine st14.trans ?_
        show Go p e below T14 (mkF m 44 #[iv p1, iv p2, iv p3, iv p4, iv p5, rv b1, iv 0, .unset, .unset, .unset] []) _
        refine XS.iload X14.here hx rfl (hb hby at_44) rfl ?_
        show Go p e below T14 (mkF m 46 #[iv p1, iv p2, iv p3, iv p4, iv p5, rv b1, iv 0, .unset, .unset, .unset] [(.int 0)]) _
        refine XS.ifNo X14.here hx rfl (hb hby at_46) rfl ((if0 _ _).trans (teq ((by decide) : (0 : Int32) = (0 : Int32))).2) ?_
        show Go p e below T14 (mkF m 49 #[iv p1, iv p2, iv p3, iv p4, iv p5, rv b1, iv 0, .unset, .unset, .unset] []) _
        refine XS.iload X14.here hx rfl (hb hby at_49) rfl ?_
        show Go p e below T14 (mkF m 51 #[iv p1, iv p2, iv p3, iv p4, iv p5, rv b1, iv 0, .unset, .unset, .unset] [(.int p5)]) _
        refine XS.goto X14.here hx rfl (pc0 := 51) (pc' := 55) rfl (hb hby at_51) (by decide) (by decide) ?_
        show Go p e below T14 (mkF m 55 #[iv p1, iv p2, iv p3, iv p4, iv p5, rv b1, iv 0, .unset, .unset, .unset] [(.int p5)]) _
        refine XS.istore X14.here hx rfl (hb hby at_55) rfl (l' := #[iv p1, iv p2, iv p3, iv p4, iv p5, rv b1, iv 0, iv p5, .unset, .unset]) rfl ?_
        show Go p e below T14 (mkF m 57 #[iv p1, iv p2, iv p3, iv p4, iv p5, rv b1, iv 0, iv p5, .unset, .unset] []) _
        refine XS.iload X14.here hx rfl (hb hby at_57) rfl ?_
        show Go p e below T14 (mkF m 59 #[iv p1, iv p2, iv p3, iv p4, iv p5, rv b1, iv 0, iv p5, .unset, .unset] [(.int 0)]) _
        refine XS.iconst X14.here hx rfl (hb hby at_59) ?_
        show Go p e below T14 (mkF m 60 #[iv p1, iv p2, iv p3, iv p4, iv p5, rv b1, iv 0, iv p5, .unset, .unset] [(.int 1), (.int 0)]) _
        refine XS.icmpYes X14.here hx rfl (pc0 := 60) (pc' := 68) rfl (hb hby at_60) rfl (feq ((by decide) : ¬ ((0 : Int32) = (1 : Int32)))).2 (by decide) (by decide) ?_
        show Go p e below T14 (mkF m 68 #[iv p1, iv p2, iv p3, iv p4, iv p5, rv b1, iv 0, iv p5, .unset, .unset] []) _
        refine XS.iloadN X14.here hx rfl (hb hby at_68) rfl ?_
        show Go p e below T14 (mkF m 69 #[iv p1, iv p2, iv p3, iv p4, iv p5, rv b1, iv 0, iv p5, .unset, .unset] [(.int p2)]) _
        refine XS.istore X14.here hx rfl (hb hby at_69) rfl (l' := #[iv p1, iv p2, iv p3, iv p4, iv p5, rv b1, iv 0, iv p5, iv p2, .unset]) rfl ?_
        show Go p e below T14 (mkF m 71 #[iv p1, iv p2, iv p3, iv p4, iv p5, rv b1, iv 0, iv p5, iv p2, .unset] []) _
        refine XS.iload X14.here hx rfl (hb hby at_71) rfl ?_
        show Go p e below T14 (mkF m 73 #[iv p1, iv p2, iv p3, iv p4, iv p5, rv b1, iv 0, iv p5, iv p2, .unset] [(.int 0)]) _
        refine XS.iconst X14.here hx rfl (hb hby at_73) ?_
        show Go p e below T14 (mkF m 74 #[iv p1, iv p2, iv p3, iv p4, iv p5, rv b1, iv 0, iv p5, iv p2, .unset] [(.int 2), (.int 0)]) _
        refine XS.icmpYes X14.here hx rfl (pc0 := 74) (pc' := 82) rfl (hb hby at_74) rfl (feq ((by decide) : ¬ ((0 : Int32) = (2 : Int32)))).2 (by decide) (by decide) ?_
        show Go p e below T14 (mkF m 82 #[iv p1, iv p2, iv p3, iv p4, iv p5, rv b1, iv 0, iv p5, iv p2, .unset] []) _
        refine XS.iloadN X14.here hx rfl (hb hby at_82) rfl ?_
        show Go p e below T14 (mkF m 83 #[iv p1, iv p2, iv p3, iv p4, iv p5, rv b1, iv 0, iv p5, iv p2, .unset] [(.int p3)]) _
        refine XS.istore X14.here hx rfl (hb hby at_83) rfl (l' := #[iv p1, iv p2, iv p3, iv p4, iv p5, rv b1, iv 0, iv p5, iv p2, iv p3]) rfl ?_
        show Go p e below T14 (mkF m 85 #[iv p1, iv p2, iv p3, iv p4, iv p5, rv b1, iv 0, iv p5, iv p2, iv p3] []) _
        refine XS.aload X14.here hx rfl (hb hby at_85) rfl rfl ?_
        show Go p e below T14 (mkF m 87 #[iv p1, iv p2, iv p3, iv p4, iv p5, rv b1, iv 0, iv p5, iv p2, iv p3] [(.ref b1)]) _
        refine st16.trans ?_
        show Go p e below T16 (mkF m 90 #[iv p1, iv p2, iv p3, iv p4, iv p5, rv b1, iv 0, iv p5, iv p2, iv p3] [(.int 3)]) _
        refine XS.iconst X16.here hx rfl (hb hby at_90) ?_
        show Go p e below T16 (mkF m 91 #[iv p1, iv p2, iv p3, iv p4, iv p5, rv b1, iv 0, iv p5, iv p2, iv p3] [(.int 3), (.int 3)]) _
        refine XS.icmpNo X16.here hx rfl (hb hby at_91) rfl (teq ((by decide) : (3 : Int32) = (3 : Int32))).2 ?_
        show Go p e below T16 (mkF m 94 #[iv p1, iv p2, iv p3, iv p4, iv p5, rv b1, iv 0, iv p5, iv p2, iv p3] []) _
        refine XS.aload X16.here hx rfl (hb hby at_94) rfl rfl ?_
        show Go p e below T16 (mkF m 96 #[iv p1, iv p2, iv p3, iv p4, iv p5, rv b1, iv 0, iv p5, iv p2, iv p3] [(.ref b1)]) _
        refine XS.iconst X16.here hx rfl (hb hby at_96) ?_
        show Go p e below T16 (mkF m 97 #[iv p1, iv p2, iv p3, iv p4, iv p5, rv b1, iv 0, iv p5, iv p2, iv p3] [(.int 0), (.ref b1)]) _
        refine st17.trans ?_
        show Go p e below T17 (mkF m 100 #[iv p1, iv p2, iv p3, iv p4, iv p5, rv b1, iv 0, iv p5, iv p2, iv p3] [(.int p5)]) _
        refine XS.iload X17.here hx rfl (hb hby at_100) rfl ?_
        show Go p e below T17 (mkF m 102 #[iv p1, iv p2, iv p3, iv p4, iv p5, rv b1, iv 0, iv p5, iv p2, iv p3] [(.int p5), (.int p5)]) _
        refine XS.icmpNo X17.here hx rfl (hb hby at_102) rfl (teq (rfl : p5 = p5)).2 ?_
        show Go p e below T17 (mkF m 105 #[iv p1, iv p2, iv p3, iv p4, iv p5, rv b1, iv 0, iv p5, iv p2, iv p3] []) _
        refine XS.aload X17.here hx rfl (hb hby at_105) rfl rfl ?_
        show Go p e below T17 (mkF m 107 #[iv p1, iv p2, iv p3, iv p4, iv p5, rv b1, iv 0, iv p5, iv p2, iv p3] [(.ref b1)]) _
        refine XS.iconst X17.here hx rfl (hb hby at_107) ?_
        show Go p e below T17 (mkF m 108 #[iv p1, iv p2, iv p3, iv p4, iv p5, rv b1, iv 0, iv p5, iv p2, iv p3] [(.int 1), (.ref b1)]) _
        refine st18.trans ?_
        show Go p e below T18 (mkF m 111 #[iv p1, iv p2, iv p3, iv p4, iv p5, rv b1, iv 0, iv p5, iv p2, iv p3] [(.int p2)]) _
        refine XS.iload X18.here hx rfl (hb hby at_111) rfl ?_
        show Go p e below T18 (mkF m 113 #[iv p1, iv p2, iv p3, iv p4, iv p5, rv b1, iv 0, iv p5, iv p2, iv p3] [(.int p2), (.int p2)]) _
        refine XS.icmpNo X18.here hx rfl (hb hby at_113) rfl (teq (rfl : p2 = p2)).2 ?_
        show Go p e below T18 (mkF m 116 #[iv p1, iv p2, iv p3, iv p4, iv p5, rv b1, iv 0, iv p5, iv p2, iv p3] []) _
        refine XS.aload X18.here hx rfl (hb hby at_116) rfl rfl ?_
        show Go p e below T18 (mkF m 118 #[iv p1, iv p2, iv p3, iv p4, iv p5, rv b1, iv 0, iv p5, iv p2, iv p3] [(.ref b1)]) _
        refine XS.iconst X18.here hx rfl (hb hby at_118) ?_
        show Go p e below T18 (mkF m 119 #[iv p1, iv p2, iv p3, iv p4, iv p5, rv b1, iv 0, iv p5, iv p2, iv p3] [(.int 2), (.ref b1)]) _
        refine st19.trans ?_
        show Go p e below T19 (mkF m 122 #[iv p1, iv p2, iv p3, iv p4, iv p5, rv b1, iv 0, iv p5, iv p2, iv p3] [(.int p3)]) _
        refine XS.iload X19.here hx rfl (hb hby at_122) rfl ?_
        show Go p e below T19 (mkF m 124 #[iv p1, iv p2, iv p3, iv p4, iv p5, rv b1, iv 0, iv p5, iv p2, iv p3] [(.int p3), (.int p3)]) _
        refine XS.icmpNo X19.here hx rfl (hb hby at_124) rfl (teq (rfl : p3 = p3)).2 ?_
        show Go p e below T19 (mkF m 127 #[iv p1, iv p2, iv p3, iv p4, iv p5, rv b1, iv 0, iv p5, iv p2, iv p3] []) _
        refine XS.iconst X19.here hx rfl (hb hby at_127) ?_
        show Go p e below T19 (mkF m 128 #[iv p1, iv p2, iv p3, iv p4, iv p5, rv b1, iv 0, iv p5, iv p2, iv p3] [(.int 1)]) _
        refine XS.goto X19.here hx rfl (pc0 := 128) (pc' := 132) rfl (hb hby at_128) (by decide) (by decide) ?_
        show Go p e below T19 (mkF m 132 #[iv p1, iv p2, iv p3, iv p4, iv p5, rv b1, iv 0, iv p5, iv p2, iv p3] [(.int 1)]) _
        exact kt)
    obtain ⟨fs, hr, hrun, hended, hW, hsame⟩ := X19.leave (v := some (.int 1)) (fun h => by rw [Bd.returns] at h; cases h)
    refine ⟨_, _, pre20 _ ?_, hrun, hended, _, _, rfl, ?_, ⟨_, rfl⟩, hW, hsame.mono (by decide) (by decide)⟩
    · show Steps p.tables e below (T19.setTop (mkF m 132 #[iv p1, iv p2, iv p3, iv p4, iv p5, rv b1, iv 0, iv p5, iv p2, iv p3] [(.int 1)])) _
      exact retN X19 hx (t := .boolean) Bd.returns (by simp) (hb hby at_132) hr
    · show Q_rmL Z p1 p2 p3 p4 p5 h0 n0 _ T19.heap _
      rw [e19q]
      exact ⟨rfl, N19⟩
  · obtain ⟨cq21, kq21, q21a, q21b, q21c⟩ := isOf hZ rfl Ee11
    obtain ⟨_, _, ⟨T21, L21, k21, n21⟩, -, X21, ⟨Lc21, hQ21, l21, y21, z21⟩, st21⟩ := X11.virtualBack hx (y := (⟨"com/example/guarded_graph/guardedgraph/IntColumn", "set", "(II)V"⟩ : MethodName)) (z := (⟨"com/example/guarded_graph/guardedgraph/IntColumn", "set", "(II)V"⟩ : MethodName)) hown (mvT hZ (hwi hw 26 rfl)) (mvT hZ (hwi hw 27 rfl)) (notFace_of_selects (args := #[]) (mvT hZ (hwi hw 29 rfl))) (mvT hZ (hwi hw 29 rfl)) (mvT hZ (hwi hw 28 rfl)) (by decide) (backOf (W := 0) (rmS1 l Z a0 hw [] b1 p5 bk2 dt7 kb2 kd7 p1 p2 p3 T11.heap n0 (Nat.le_trans Z0 K12.1) Cl11 gd7) hZ (hwi hw 30 rfl) (hwi hw 2 rfl) (by decide) (by decide)) q21a q21c (g := (mkF m 41 #[iv p1, iv p2, iv p3, iv p4, iv p5, rv b1, iv 1, .unset, .unset, .unset] [(.int p5), (.int 1), (.ref b1)])) rfl (by rw [hml]; rfl) (Steps.refl _) (argsL := [(.int 1), (.int p5)]) (rest := []) (lenOf pd_2 rfl) rfl (by show 2 * 0 + _ ≤ _; exact Nat.le_of_eq rfl) (hb hby at_41) (fun _ _ => ⟨rfl, rfl, (by decide : 3 + 0 ≤ _), (by decide : 65554 + 0 ≤ _)⟩)
    dsimp only [Pt.U, Pt.locs, Pt.cells, Pt.slots] at X21 l21 y21 z21 st21 hQ21
    subst l21 y21 z21
    obtain ⟨rfl, N21q, kc21, Cl21⟩ := hQ21
    have N21 := Fr.app N11 N21q
    have K22 : Keep h0 T21.heap [] := K12.trans kc21 (allS (Or.inr szd) all0)
    have Ee21 := Cl21.1
    obtain ⟨cq23, kq23, q23a, q23b, q23c⟩ := isOf hZ rfl Ee21
    obtain ⟨_, _, ⟨T23, L23, k23, n23⟩, -, X23, ⟨Lc23, hQ23, l23, y23, z23⟩, st23⟩ := X21.virtualBack hx (y := (⟨"com/example/guarded_graph/guardedgraph/IntColumn", "size", "()I"⟩ : MethodName)) (z := (⟨"com/example/guarded_graph/guardedgraph/IntColumn", "size", "()I"⟩ : MethodName)) hown (mvT hZ (hwi hw 31 rfl)) (mvT hZ (hwi hw 32 rfl)) (notFace_of_selects (args := #[]) (mvT hZ (hwi hw 34 rfl))) (mvT hZ (hwi hw 34 rfl)) (mvT hZ (hwi hw 33 rfl)) (by decide) (backOf (W := 0) (rmZ l Z a0 hw [] b1 bk2 dt7 kb2 kd7 p1 p5 p3 T21.heap n0 (Nat.le_trans Z0 K22.1) Cl21) hZ (hwi hw 35 rfl) (hwi hw 2 rfl) (by decide) (by decide)) q23a q23c (g := (mkF m 87 #[iv p1, iv p2, iv p3, iv p4, iv p5, rv b1, iv 1, iv p1, iv p5, iv p3] [(.ref b1)])) rfl (by rw [hml]; rfl) (Steps.refl _) (argsL := []) (rest := []) (lenOf pd_3 rfl) rfl (by show 2 * 0 + _ ≤ _; exact Nat.le_of_eq rfl) (hb hby at_87) (fun _ _ => ⟨rfl, rfl, (by decide : 3 + 0 ≤ _), (by decide : 65554 + 0 ≤ _)⟩)
    dsimp only [Pt.U, Pt.locs, Pt.cells, Pt.slots] at X23 l23 y23 z23 st23 hQ23
    subst l23 y23 z23
    obtain ⟨rfl, N23q, e23q⟩ := hQ23
    have N23 := Fr.app N21 N23q
    obtain ⟨cq24, kq24, q24a, q24b, q24c⟩ := isOf hZ e23q Ee21
    obtain ⟨_, _, ⟨T24, L24, k24, n24⟩, -, X24, ⟨Lc24, hQ24, l24, y24, z24⟩, st24⟩ := X23.virtualBack hx (y := (⟨"com/example/guarded_graph/guardedgraph/IntColumn", "get", "(I)I"⟩ : MethodName)) (z := (⟨"com/example/guarded_graph/guardedgraph/IntColumn", "get", "(I)I"⟩ : MethodName)) hown (mvT hZ (hwi hw 36 rfl)) (mvT hZ (hwi hw 37 rfl)) (notFace_of_selects (args := #[]) (mvT hZ (hwi hw 39 rfl))) (mvT hZ (hwi hw 39 rfl)) (mvT hZ (hwi hw 38 rfl)) (by decide) (backOf (W := 0) (rmG0 l Z a0 hw [] b1 bk2 dt7 kb2 kd7 p1 p5 p3 T21.heap n0 (Nat.le_trans Z0 K22.1) Cl21) hZ (hwi hw 40 rfl) (hwi hw 2 rfl) (by decide) (by decide)) q24a q24c (g := (mkF m 97 #[iv p1, iv p2, iv p3, iv p4, iv p5, rv b1, iv 1, iv p1, iv p5, iv p3] [(.int 0), (.ref b1)])) rfl (by rw [hml]; rfl) (Steps.refl _) (argsL := [(.int 0)]) (rest := []) (lenOf pd_4 rfl) rfl (by show 2 * 0 + _ ≤ _; exact Nat.le_of_eq rfl) (hb hby at_97) (fun _ _ => ⟨rfl, e23q, (by decide : 3 + 0 ≤ _), (by decide : 65554 + 0 ≤ _)⟩)
    dsimp only [Pt.U, Pt.locs, Pt.cells, Pt.slots] at X24 l24 y24 z24 st24 hQ24
    subst l24 y24 z24
    obtain ⟨rfl, N24q, e24q⟩ := hQ24
    have N24 := Fr.app N23 N24q
    obtain ⟨cq25, kq25, q25a, q25b, q25c⟩ := isOf hZ e24q Ee21
    obtain ⟨_, _, ⟨T25, L25, k25, n25⟩, -, X25, ⟨Lc25, hQ25, l25, y25, z25⟩, st25⟩ := X24.virtualBack hx (y := (⟨"com/example/guarded_graph/guardedgraph/IntColumn", "get", "(I)I"⟩ : MethodName)) (z := (⟨"com/example/guarded_graph/guardedgraph/IntColumn", "get", "(I)I"⟩ : MethodName)) hown (mvT hZ (hwi hw 36 rfl)) (mvT hZ (hwi hw 37 rfl)) (notFace_of_selects (args := #[]) (mvT hZ (hwi hw 39 rfl))) (mvT hZ (hwi hw 39 rfl)) (mvT hZ (hwi hw 38 rfl)) (by decide) (backOf (W := 0) (rmG1 l Z a0 hw [] b1 bk2 dt7 kb2 kd7 p1 p5 p3 T21.heap n0 (Nat.le_trans Z0 K22.1) Cl21) hZ (hwi hw 40 rfl) (hwi hw 2 rfl) (by decide) (by decide)) q25a q25c (g := (mkF m 108 #[iv p1, iv p2, iv p3, iv p4, iv p5, rv b1, iv 1, iv p1, iv p5, iv p3] [(.int 1), (.ref b1)])) rfl (by rw [hml]; rfl) (Steps.refl _) (argsL := [(.int 1)]) (rest := []) (lenOf pd_4 rfl) rfl (by show 2 * 0 + _ ≤ _; exact Nat.le_of_eq rfl) (hb hby at_108) (fun _ _ => ⟨rfl, e24q, (by decide : 3 + 0 ≤ _), (by decide : 65554 + 0 ≤ _)⟩)
    dsimp only [Pt.U, Pt.locs, Pt.cells, Pt.slots] at X25 l25 y25 z25 st25 hQ25
    subst l25 y25 z25
    obtain ⟨rfl, N25q, e25q⟩ := hQ25
    have N25 := Fr.app N24 N25q
    obtain ⟨cq26, kq26, q26a, q26b, q26c⟩ := isOf hZ e25q Ee21
    obtain ⟨_, _, ⟨T26, L26, k26, n26⟩, -, X26, ⟨Lc26, hQ26, l26, y26, z26⟩, st26⟩ := X25.virtualBack hx (y := (⟨"com/example/guarded_graph/guardedgraph/IntColumn", "get", "(I)I"⟩ : MethodName)) (z := (⟨"com/example/guarded_graph/guardedgraph/IntColumn", "get", "(I)I"⟩ : MethodName)) hown (mvT hZ (hwi hw 36 rfl)) (mvT hZ (hwi hw 37 rfl)) (notFace_of_selects (args := #[]) (mvT hZ (hwi hw 39 rfl))) (mvT hZ (hwi hw 39 rfl)) (mvT hZ (hwi hw 38 rfl)) (by decide) (backOf (W := 0) (rmG2 l Z a0 hw [] b1 bk2 dt7 kb2 kd7 p1 p5 p3 T21.heap n0 (Nat.le_trans Z0 K22.1) Cl21) hZ (hwi hw 40 rfl) (hwi hw 2 rfl) (by decide) (by decide)) q26a q26c (g := (mkF m 119 #[iv p1, iv p2, iv p3, iv p4, iv p5, rv b1, iv 1, iv p1, iv p5, iv p3] [(.int 2), (.ref b1)])) rfl (by rw [hml]; rfl) (Steps.refl _) (argsL := [(.int 2)]) (rest := []) (lenOf pd_4 rfl) rfl (by show 2 * 0 + _ ≤ _; exact Nat.le_of_eq rfl) (hb hby at_119) (fun _ _ => ⟨rfl, e25q, (by decide : 3 + 0 ≤ _), (by decide : 65554 + 0 ≤ _)⟩)
    dsimp only [Pt.U, Pt.locs, Pt.cells, Pt.slots] at X26 l26 y26 z26 st26 hQ26
    subst l26 y26 z26
    obtain ⟨rfl, N26q, e26q⟩ := hQ26
    have N26 := Fr.app N25 N26q
    have pre27 : ∀ t_, Go p e below T26 (mkF m 132 #[iv p1, iv p2, iv p3, iv p4, iv p5, rv b1, iv 1, iv p1, iv p5, iv p3] [(.int 1)]) t_ → Go p e below s₁ (entryFrame m #[(.int p1), (.int p2), (.int p3), (.int p4), (.int p5)] maxLocals) t_ := fun t_ kt => pre13 _ (by
        show Go p e below T11 (mkF m 35 #[iv p1, iv p2, iv p3, iv p4, iv p5, rv b1, iv 1, .unset, .unset, .unset] []) _
        refine XS.aload X11.here hx rfl (hb hby at_35) rfl rfl ?_
        show Go p e below T11 (mkF m 37 #[iv p1, iv p2, iv p3, iv p4, iv p5, rv b1, iv 1, .unset, .unset, .unset] [(.ref b1)]) _
        refine XS.iload X11.here hx rfl (hb hby at_37) rfl ?_
        show Go p e below T11 (mkF m 39 #[iv p1, iv p2, iv p3, iv p4, iv p5, rv b1, iv 1, .unset, .unset, .unset] [(.int 1), (.ref b1)]) _
        refine XS.iload X11.here hx rfl (hb hby at_39) rfl ?_
        show Go p e below T11 (mkF m 41 #[iv p1, iv p2, iv p3, iv p4, iv p5, rv b1, iv 1, .unset, .unset, .unset] [(.int p5), (.int 1), (.ref b1)]) _
        refine st21.trans ?_
        show Go p e below T21 (mkF m 44 #[iv p1, iv p2, iv p3, iv p4, iv p5, rv b1, iv 1, .unset, .unset, .unset] []) _
        refine XS.iload X21.here hx rfl (hb hby at_44) rfl ?_
        show Go p e below T21 (mkF m 46 #[iv p1, iv p2, iv p3, iv p4, iv p5, rv b1, iv 1, .unset, .unset, .unset] [(.int 1)]) _
        refine XS.ifYes X21.here hx rfl (pc0 := 46) (pc' := 54) rfl (hb hby at_46) rfl ((if0 _ _).trans (feq ((by decide) : ¬ ((1 : Int32) = (0 : Int32)))).2) (by decide) (by decide) ?_
        show Go p e below T21 (mkF m 54 #[iv p1, iv p2, iv p3, iv p4, iv p5, rv b1, iv 1, .unset, .unset, .unset] []) _
        refine XS.iloadN X21.here hx rfl (hb hby at_54) rfl ?_
        show Go p e below T21 (mkF m 55 #[iv p1, iv p2, iv p3, iv p4, iv p5, rv b1, iv 1, .unset, .unset, .unset] [(.int p1)]) _
        refine XS.istore X21.here hx rfl (hb hby at_55) rfl (l' := #[iv p1, iv p2, iv p3, iv p4, iv p5, rv b1, iv 1, iv p1, .unset, .unset]) rfl ?_
        show Go p e below T21 (mkF m 57 #[iv p1, iv p2, iv p3, iv p4, iv p5, rv b1, iv 1, iv p1, .unset, .unset] []) _
        refine XS.iload X21.here hx rfl (hb hby at_57) rfl ?_
        show Go p e below T21 (mkF m 59 #[iv p1, iv p2, iv p3, iv p4, iv p5, rv b1, iv 1, iv p1, .unset, .unset] [(.int 1)]) _
        refine XS.iconst X21.here hx rfl (hb hby at_59) ?_
        show Go p e below T21 (mkF m 60 #[iv p1, iv p2, iv p3, iv p4, iv p5, rv b1, iv 1, iv p1, .unset, .unset] [(.int 1), (.int 1)]) _
        refine XS.icmpNo X21.here hx rfl (hb hby at_60) rfl (teq ((by decide) : (1 : Int32) = (1 : Int32))).2 ?_
        show Go p e below T21 (mkF m 63 #[iv p1, iv p2, iv p3, iv p4, iv p5, rv b1, iv 1, iv p1, .unset, .unset] []) _
        refine XS.iload X21.here hx rfl (hb hby at_63) rfl ?_
        show Go p e below T21 (mkF m 65 #[iv p1, iv p2, iv p3, iv p4, iv p5, rv b1, iv 1, iv p1, .unset, .unset] [(.int p5)]) _
        refine XS.goto X21.here hx rfl (pc0 := 65) (pc' := 69) rfl (hb hby at_65) (by decide) (by decide) ?_
        show Go p e below T21 (mkF m 69 #[iv p1, iv p2, iv p3, iv p4, iv p5, rv b1, iv 1, iv p1, .unset, .unset] [(.int p5)]) _
        refine XS.istore X21.here hx rfl (hb hby at_69) rfl (l' := #[iv p1, iv p2, iv p3, iv p4, iv p5, rv b1, iv 1, iv p1, iv p5, .unset]) rfl ?_
        show Go p e below T21 (mkF m 71 #[iv p1, iv p2, iv p3, iv p4, iv p5, rv b1, iv 1, iv p1, iv p5, .unset] []) _
        refine XS.iload X21.here hx rfl (hb hby at_71) rfl ?_
        show Go p e below T21 (mkF m 73 #[iv p1, iv p2, iv p3, iv p4, iv p5, rv b1, iv 1, iv p1, iv p5, .unset] [(.int 1)]) _
        refine XS.iconst X21.here hx rfl (hb hby at_73) ?_
        show Go p e below T21 (mkF m 74 #[iv p1, iv p2, iv p3, iv p4, iv p5, rv b1, iv 1, iv p1, iv p5, .unset] [(.int 2), (.int 1)]) _
        refine XS.icmpYes X21.here hx rfl (pc0 := 74) (pc' := 82) rfl (hb hby at_74) rfl (feq ((by decide) : ¬ ((1 : Int32) = (2 : Int32)))).2 (by decide) (by decide) ?_
        show Go p e below T21 (mkF m 82 #[iv p1, iv p2, iv p3, iv p4, iv p5, rv b1, iv 1, iv p1, iv p5, .unset] []) _
        refine XS.iloadN X21.here hx rfl (hb hby at_82) rfl ?_
        show Go p e below T21 (mkF m 83 #[iv p1, iv p2, iv p3, iv p4, iv p5, rv b1, iv 1, iv p1, iv p5, .unset] [(.int p3)]) _
        refine XS.istore X21.here hx rfl (hb hby at_83) rfl (l' := #[iv p1, iv p2, iv p3, iv p4, iv p5, rv b1, iv 1, iv p1, iv p5, iv p3]) rfl ?_
        show Go p e below T21 (mkF m 85 #[iv p1, iv p2, iv p3, iv p4, iv p5, rv b1, iv 1, iv p1, iv p5, iv p3] []) _
        refine XS.aload X21.here hx rfl (hb hby at_85) rfl rfl ?_
        show Go p e below T21 (mkF m 87 #[iv p1, iv p2, iv p3, iv p4, iv p5, rv b1, iv 1, iv p1, iv p5, iv p3] [(.ref b1)]) _
        refine st23.trans ?_
        show Go p e below T23 (mkF m 90 #[iv p1, iv p2, iv p3, iv p4, iv p5, rv b1, iv 1, iv p1, iv p5, iv p3] [(.int 3)]) _
        refine XS.iconst X23.here hx rfl (hb hby at_90) ?_
        show Go p e below T23 (mkF m 91 #[iv p1, iv p2, iv p3, iv p4, iv p5, rv b1, iv 1, iv p1, iv p5, iv p3] [(.int 3), (.int 3)]) _
        refine XS.icmpNo X23.here hx rfl (hb hby at_91) rfl (teq ((by decide) : (3 : Int32) = (3 : Int32))).2 ?_
        show Go p e below T23 (mkF m 94 #[iv p1, iv p2, iv p3, iv p4, iv p5, rv b1, iv 1, iv p1, iv p5, iv p3] []) _
        refine XS.aload X23.here hx rfl (hb hby at_94) rfl rfl ?_
        show Go p e below T23 (mkF m 96 #[iv p1, iv p2, iv p3, iv p4, iv p5, rv b1, iv 1, iv p1, iv p5, iv p3] [(.ref b1)]) _
        refine XS.iconst X23.here hx rfl (hb hby at_96) ?_
        show Go p e below T23 (mkF m 97 #[iv p1, iv p2, iv p3, iv p4, iv p5, rv b1, iv 1, iv p1, iv p5, iv p3] [(.int 0), (.ref b1)]) _
        refine st24.trans ?_
        show Go p e below T24 (mkF m 100 #[iv p1, iv p2, iv p3, iv p4, iv p5, rv b1, iv 1, iv p1, iv p5, iv p3] [(.int p1)]) _
        refine XS.iload X24.here hx rfl (hb hby at_100) rfl ?_
        show Go p e below T24 (mkF m 102 #[iv p1, iv p2, iv p3, iv p4, iv p5, rv b1, iv 1, iv p1, iv p5, iv p3] [(.int p1), (.int p1)]) _
        refine XS.icmpNo X24.here hx rfl (hb hby at_102) rfl (teq (rfl : p1 = p1)).2 ?_
        show Go p e below T24 (mkF m 105 #[iv p1, iv p2, iv p3, iv p4, iv p5, rv b1, iv 1, iv p1, iv p5, iv p3] []) _
        refine XS.aload X24.here hx rfl (hb hby at_105) rfl rfl ?_
        show Go p e below T24 (mkF m 107 #[iv p1, iv p2, iv p3, iv p4, iv p5, rv b1, iv 1, iv p1, iv p5, iv p3] [(.ref b1)]) _
        refine XS.iconst X24.here hx rfl (hb hby at_107) ?_
        show Go p e below T24 (mkF m 108 #[iv p1, iv p2, iv p3, iv p4, iv p5, rv b1, iv 1, iv p1, iv p5, iv p3] [(.int 1), (.ref b1)]) _
        refine st25.trans ?_
        show Go p e below T25 (mkF m 111 #[iv p1, iv p2, iv p3, iv p4, iv p5, rv b1, iv 1, iv p1, iv p5, iv p3] [(.int p5)]) _
        refine XS.iload X25.here hx rfl (hb hby at_111) rfl ?_
        show Go p e below T25 (mkF m 113 #[iv p1, iv p2, iv p3, iv p4, iv p5, rv b1, iv 1, iv p1, iv p5, iv p3] [(.int p5), (.int p5)]) _
        refine XS.icmpNo X25.here hx rfl (hb hby at_113) rfl (teq (rfl : p5 = p5)).2 ?_
        show Go p e below T25 (mkF m 116 #[iv p1, iv p2, iv p3, iv p4, iv p5, rv b1, iv 1, iv p1, iv p5, iv p3] []) _
        refine XS.aload X25.here hx rfl (hb hby at_116) rfl rfl ?_
        show Go p e below T25 (mkF m 118 #[iv p1, iv p2, iv p3, iv p4, iv p5, rv b1, iv 1, iv p1, iv p5, iv p3] [(.ref b1)]) _
        refine XS.iconst X25.here hx rfl (hb hby at_118) ?_
        show Go p e below T25 (mkF m 119 #[iv p1, iv p2, iv p3, iv p4, iv p5, rv b1, iv 1, iv p1, iv p5, iv p3] [(.int 2), (.ref b1)]) _
        refine st26.trans ?_
        show Go p e below T26 (mkF m 122 #[iv p1, iv p2, iv p3, iv p4, iv p5, rv b1, iv 1, iv p1, iv p5, iv p3] [(.int p3)]) _
        refine XS.iload X26.here hx rfl (hb hby at_122) rfl ?_
        show Go p e below T26 (mkF m 124 #[iv p1, iv p2, iv p3, iv p4, iv p5, rv b1, iv 1, iv p1, iv p5, iv p3] [(.int p3), (.int p3)]) _
        refine XS.icmpNo X26.here hx rfl (hb hby at_124) rfl (teq (rfl : p3 = p3)).2 ?_
        show Go p e below T26 (mkF m 127 #[iv p1, iv p2, iv p3, iv p4, iv p5, rv b1, iv 1, iv p1, iv p5, iv p3] []) _
        refine XS.iconst X26.here hx rfl (hb hby at_127) ?_
        show Go p e below T26 (mkF m 128 #[iv p1, iv p2, iv p3, iv p4, iv p5, rv b1, iv 1, iv p1, iv p5, iv p3] [(.int 1)]) _
        refine XS.goto X26.here hx rfl (pc0 := 128) (pc' := 132) rfl (hb hby at_128) (by decide) (by decide) ?_
        show Go p e below T26 (mkF m 132 #[iv p1, iv p2, iv p3, iv p4, iv p5, rv b1, iv 1, iv p1, iv p5, iv p3] [(.int 1)]) _
        exact kt)
    obtain ⟨fs, hr, hrun, hended, hW, hsame⟩ := X26.leave (v := some (.int 1)) (fun h => by rw [Bd.returns] at h; cases h)
    refine ⟨_, _, pre27 _ ?_, hrun, hended, _, _, rfl, ?_, ⟨_, rfl⟩, hW, hsame.mono (by decide) (by decide)⟩
    · show Steps p.tables e below (T26.setTop (mkF m 132 #[iv p1, iv p2, iv p3, iv p4, iv p5, rv b1, iv 1, iv p1, iv p5, iv p3] [(.int 1)])) _
      exact retN X26 hx (t := .boolean) Bd.returns (by simp) (hb hby at_132) hr
    · show Q_rmL Z p1 p2 p3 p4 p5 h0 n0 _ T26.heap _
      rw [e26q]
      exact ⟨rfl, N26⟩
  · obtain ⟨cq28, kq28, q28a, q28b, q28c⟩ := isOf hZ rfl Ee11
    obtain ⟨_, _, ⟨T28, L28, k28, n28⟩, -, X28, ⟨Lc28, hQ28, l28, y28, z28⟩, st28⟩ := X11.virtualBack hx (y := (⟨"com/example/guarded_graph/guardedgraph/IntColumn", "set", "(II)V"⟩ : MethodName)) (z := (⟨"com/example/guarded_graph/guardedgraph/IntColumn", "set", "(II)V"⟩ : MethodName)) hown (mvT hZ (hwi hw 26 rfl)) (mvT hZ (hwi hw 27 rfl)) (notFace_of_selects (args := #[]) (mvT hZ (hwi hw 29 rfl))) (mvT hZ (hwi hw 29 rfl)) (mvT hZ (hwi hw 28 rfl)) (by decide) (backOf (W := 0) (rmS2 l Z a0 hw [] b1 p5 bk2 dt7 kb2 kd7 p1 p2 p3 T11.heap n0 (Nat.le_trans Z0 K12.1) Cl11 gd7) hZ (hwi hw 30 rfl) (hwi hw 2 rfl) (by decide) (by decide)) q28a q28c (g := (mkF m 41 #[iv p1, iv p2, iv p3, iv p4, iv p5, rv b1, iv 2, .unset, .unset, .unset] [(.int p5), (.int 2), (.ref b1)])) rfl (by rw [hml]; rfl) (Steps.refl _) (argsL := [(.int 2), (.int p5)]) (rest := []) (lenOf pd_2 rfl) rfl (by show 2 * 0 + _ ≤ _; exact Nat.le_of_eq rfl) (hb hby at_41) (fun _ _ => ⟨rfl, rfl, (by decide : 3 + 0 ≤ _), (by decide : 65554 + 0 ≤ _)⟩)
    dsimp only [Pt.U, Pt.locs, Pt.cells, Pt.slots] at X28 l28 y28 z28 st28 hQ28
    subst l28 y28 z28
    obtain ⟨rfl, N28q, kc28, Cl28⟩ := hQ28
    have N28 := Fr.app N11 N28q
    have K29 : Keep h0 T28.heap [] := K12.trans kc28 (allS (Or.inr szd) all0)
    have Ee28 := Cl28.1
    obtain ⟨cq30, kq30, q30a, q30b, q30c⟩ := isOf hZ rfl Ee28
    obtain ⟨_, _, ⟨T30, L30, k30, n30⟩, -, X30, ⟨Lc30, hQ30, l30, y30, z30⟩, st30⟩ := X28.virtualBack hx (y := (⟨"com/example/guarded_graph/guardedgraph/IntColumn", "size", "()I"⟩ : MethodName)) (z := (⟨"com/example/guarded_graph/guardedgraph/IntColumn", "size", "()I"⟩ : MethodName)) hown (mvT hZ (hwi hw 31 rfl)) (mvT hZ (hwi hw 32 rfl)) (notFace_of_selects (args := #[]) (mvT hZ (hwi hw 34 rfl))) (mvT hZ (hwi hw 34 rfl)) (mvT hZ (hwi hw 33 rfl)) (by decide) (backOf (W := 0) (rmZ l Z a0 hw [] b1 bk2 dt7 kb2 kd7 p1 p2 p5 T28.heap n0 (Nat.le_trans Z0 K29.1) Cl28) hZ (hwi hw 35 rfl) (hwi hw 2 rfl) (by decide) (by decide)) q30a q30c (g := (mkF m 87 #[iv p1, iv p2, iv p3, iv p4, iv p5, rv b1, iv 2, iv p1, iv p2, iv p5] [(.ref b1)])) rfl (by rw [hml]; rfl) (Steps.refl _) (argsL := []) (rest := []) (lenOf pd_3 rfl) rfl (by show 2 * 0 + _ ≤ _; exact Nat.le_of_eq rfl) (hb hby at_87) (fun _ _ => ⟨rfl, rfl, (by decide : 3 + 0 ≤ _), (by decide : 65554 + 0 ≤ _)⟩)
    dsimp only [Pt.U, Pt.locs, Pt.cells, Pt.slots] at X30 l30 y30 z30 st30 hQ30
    subst l30 y30 z30
    obtain ⟨rfl, N30q, e30q⟩ := hQ30
    have N30 := Fr.app N28 N30q
    obtain ⟨cq31, kq31, q31a, q31b, q31c⟩ := isOf hZ e30q Ee28
    obtain ⟨_, _, ⟨T31, L31, k31, n31⟩, -, X31, ⟨Lc31, hQ31, l31, y31, z31⟩, st31⟩ := X30.virtualBack hx (y := (⟨"com/example/guarded_graph/guardedgraph/IntColumn", "get", "(I)I"⟩ : MethodName)) (z := (⟨"com/example/guarded_graph/guardedgraph/IntColumn", "get", "(I)I"⟩ : MethodName)) hown (mvT hZ (hwi hw 36 rfl)) (mvT hZ (hwi hw 37 rfl)) (notFace_of_selects (args := #[]) (mvT hZ (hwi hw 39 rfl))) (mvT hZ (hwi hw 39 rfl)) (mvT hZ (hwi hw 38 rfl)) (by decide) (backOf (W := 0) (rmG0 l Z a0 hw [] b1 bk2 dt7 kb2 kd7 p1 p2 p5 T28.heap n0 (Nat.le_trans Z0 K29.1) Cl28) hZ (hwi hw 40 rfl) (hwi hw 2 rfl) (by decide) (by decide)) q31a q31c (g := (mkF m 97 #[iv p1, iv p2, iv p3, iv p4, iv p5, rv b1, iv 2, iv p1, iv p2, iv p5] [(.int 0), (.ref b1)])) rfl (by rw [hml]; rfl) (Steps.refl _) (argsL := [(.int 0)]) (rest := []) (lenOf pd_4 rfl) rfl (by show 2 * 0 + _ ≤ _; exact Nat.le_of_eq rfl) (hb hby at_97) (fun _ _ => ⟨rfl, e30q, (by decide : 3 + 0 ≤ _), (by decide : 65554 + 0 ≤ _)⟩)
    dsimp only [Pt.U, Pt.locs, Pt.cells, Pt.slots] at X31 l31 y31 z31 st31 hQ31
    subst l31 y31 z31
    obtain ⟨rfl, N31q, e31q⟩ := hQ31
    have N31 := Fr.app N30 N31q
    obtain ⟨cq32, kq32, q32a, q32b, q32c⟩ := isOf hZ e31q Ee28
    obtain ⟨_, _, ⟨T32, L32, k32, n32⟩, -, X32, ⟨Lc32, hQ32, l32, y32, z32⟩, st32⟩ := X31.virtualBack hx (y := (⟨"com/example/guarded_graph/guardedgraph/IntColumn", "get", "(I)I"⟩ : MethodName)) (z := (⟨"com/example/guarded_graph/guardedgraph/IntColumn", "get", "(I)I"⟩ : MethodName)) hown (mvT hZ (hwi hw 36 rfl)) (mvT hZ (hwi hw 37 rfl)) (notFace_of_selects (args := #[]) (mvT hZ (hwi hw 39 rfl))) (mvT hZ (hwi hw 39 rfl)) (mvT hZ (hwi hw 38 rfl)) (by decide) (backOf (W := 0) (rmG1 l Z a0 hw [] b1 bk2 dt7 kb2 kd7 p1 p2 p5 T28.heap n0 (Nat.le_trans Z0 K29.1) Cl28) hZ (hwi hw 40 rfl) (hwi hw 2 rfl) (by decide) (by decide)) q32a q32c (g := (mkF m 108 #[iv p1, iv p2, iv p3, iv p4, iv p5, rv b1, iv 2, iv p1, iv p2, iv p5] [(.int 1), (.ref b1)])) rfl (by rw [hml]; rfl) (Steps.refl _) (argsL := [(.int 1)]) (rest := []) (lenOf pd_4 rfl) rfl (by show 2 * 0 + _ ≤ _; exact Nat.le_of_eq rfl) (hb hby at_108) (fun _ _ => ⟨rfl, e31q, (by decide : 3 + 0 ≤ _), (by decide : 65554 + 0 ≤ _)⟩)
    dsimp only [Pt.U, Pt.locs, Pt.cells, Pt.slots] at X32 l32 y32 z32 st32 hQ32
    subst l32 y32 z32
    obtain ⟨rfl, N32q, e32q⟩ := hQ32
    have N32 := Fr.app N31 N32q
    obtain ⟨cq33, kq33, q33a, q33b, q33c⟩ := isOf hZ e32q Ee28
    obtain ⟨_, _, ⟨T33, L33, k33, n33⟩, -, X33, ⟨Lc33, hQ33, l33, y33, z33⟩, st33⟩ := X32.virtualBack hx (y := (⟨"com/example/guarded_graph/guardedgraph/IntColumn", "get", "(I)I"⟩ : MethodName)) (z := (⟨"com/example/guarded_graph/guardedgraph/IntColumn", "get", "(I)I"⟩ : MethodName)) hown (mvT hZ (hwi hw 36 rfl)) (mvT hZ (hwi hw 37 rfl)) (notFace_of_selects (args := #[]) (mvT hZ (hwi hw 39 rfl))) (mvT hZ (hwi hw 39 rfl)) (mvT hZ (hwi hw 38 rfl)) (by decide) (backOf (W := 0) (rmG2 l Z a0 hw [] b1 bk2 dt7 kb2 kd7 p1 p2 p5 T28.heap n0 (Nat.le_trans Z0 K29.1) Cl28) hZ (hwi hw 40 rfl) (hwi hw 2 rfl) (by decide) (by decide)) q33a q33c (g := (mkF m 119 #[iv p1, iv p2, iv p3, iv p4, iv p5, rv b1, iv 2, iv p1, iv p2, iv p5] [(.int 2), (.ref b1)])) rfl (by rw [hml]; rfl) (Steps.refl _) (argsL := [(.int 2)]) (rest := []) (lenOf pd_4 rfl) rfl (by show 2 * 0 + _ ≤ _; exact Nat.le_of_eq rfl) (hb hby at_119) (fun _ _ => ⟨rfl, e32q, (by decide : 3 + 0 ≤ _), (by decide : 65554 + 0 ≤ _)⟩)
    dsimp only [Pt.U, Pt.locs, Pt.cells, Pt.slots] at X33 l33 y33 z33 st33 hQ33
    subst l33 y33 z33
    obtain ⟨rfl, N33q, e33q⟩ := hQ33
    have N33 := Fr.app N32 N33q
    have pre34 : ∀ t_, Go p e below T33 (mkF m 132 #[iv p1, iv p2, iv p3, iv p4, iv p5, rv b1, iv 2, iv p1, iv p2, iv p5] [(.int 1)]) t_ → Go p e below s₁ (entryFrame m #[(.int p1), (.int p2), (.int p3), (.int p4), (.int p5)] maxLocals) t_ := fun t_ kt => pre13 _ (by
        show Go p e below T11 (mkF m 35 #[iv p1, iv p2, iv p3, iv p4, iv p5, rv b1, iv 2, .unset, .unset, .unset] []) _
        refine XS.aload X11.here hx rfl (hb hby at_35) rfl rfl ?_
        show Go p e below T11 (mkF m 37 #[iv p1, iv p2, iv p3, iv p4, iv p5, rv b1, iv 2, .unset, .unset, .unset] [(.ref b1)]) _
        refine XS.iload X11.here hx rfl (hb hby at_37) rfl ?_
        show Go p e below T11 (mkF m 39 #[iv p1, iv p2, iv p3, iv p4, iv p5, rv b1, iv 2, .unset, .unset, .unset] [(.int 2), (.ref b1)]) _
        refine XS.iload X11.here hx rfl (hb hby at_39) rfl ?_
        show Go p e below T11 (mkF m 41 #[iv p1, iv p2, iv p3, iv p4, iv p5, rv b1, iv 2, .unset, .unset, .unset] [(.int p5), (.int 2), (.ref b1)]) _
        refine st28.trans ?_
        show Go p e below T28 (mkF m 44 #[iv p1, iv p2, iv p3, iv p4, iv p5, rv b1, iv 2, .unset, .unset, .unset] []) _
        refine XS.iload X28.here hx rfl (hb hby at_44) rfl ?_
        show Go p e below T28 (mkF m 46 #[iv p1, iv p2, iv p3, iv p4, iv p5, rv b1, iv 2, .unset, .unset, .unset] [(.int 2)]) _
        refine XS.ifYes X28.here hx rfl (pc0 := 46) (pc' := 54) rfl (hb hby at_46) rfl ((if0 _ _).trans (feq ((by decide) : ¬ ((2 : Int32) = (0 : Int32)))).2) (by decide) (by decide) ?_
        show Go p e below T28 (mkF m 54 #[iv p1, iv p2, iv p3, iv p4, iv p5, rv b1, iv 2, .unset, .unset, .unset] []) _
        refine XS.iloadN X28.here hx rfl (hb hby at_54) rfl ?_
        show Go p e below T28 (mkF m 55 #[iv p1, iv p2, iv p3, iv p4, iv p5, rv b1, iv 2, .unset, .unset, .unset] [(.int p1)]) _
        refine XS.istore X28.here hx rfl (hb hby at_55) rfl (l' := #[iv p1, iv p2, iv p3, iv p4, iv p5, rv b1, iv 2, iv p1, .unset, .unset]) rfl ?_
        show Go p e below T28 (mkF m 57 #[iv p1, iv p2, iv p3, iv p4, iv p5, rv b1, iv 2, iv p1, .unset, .unset] []) _
        refine XS.iload X28.here hx rfl (hb hby at_57) rfl ?_
        show Go p e below T28 (mkF m 59 #[iv p1, iv p2, iv p3, iv p4, iv p5, rv b1, iv 2, iv p1, .unset, .unset] [(.int 2)]) _
        refine XS.iconst X28.here hx rfl (hb hby at_59) ?_
        show Go p e below T28 (mkF m 60 #[iv p1, iv p2, iv p3, iv p4, iv p5, rv b1, iv 2, iv p1, .unset, .unset] [(.int 1), (.int 2)]) _
        refine XS.icmpYes X28.here hx rfl (pc0 := 60) (pc' := 68) rfl (hb hby at_60) rfl (feq ((by decide) : ¬ ((2 : Int32) = (1 : Int32)))).2 (by decide) (by decide) ?_
        show Go p e below T28 (mkF m 68 #[iv p1, iv p2, iv p3, iv p4, iv p5, rv b1, iv 2, iv p1, .unset, .unset] []) _
        refine XS.iloadN X28.here hx rfl (hb hby at_68) rfl ?_
        show Go p e below T28 (mkF m 69 #[iv p1, iv p2, iv p3, iv p4, iv p5, rv b1, iv 2, iv p1, .unset, .unset] [(.int p2)]) _
        refine XS.istore X28.here hx rfl (hb hby at_69) rfl (l' := #[iv p1, iv p2, iv p3, iv p4, iv p5, rv b1, iv 2, iv p1, iv p2, .unset]) rfl ?_
        show Go p e below T28 (mkF m 71 #[iv p1, iv p2, iv p3, iv p4, iv p5, rv b1, iv 2, iv p1, iv p2, .unset] []) _
        refine XS.iload X28.here hx rfl (hb hby at_71) rfl ?_
        show Go p e below T28 (mkF m 73 #[iv p1, iv p2, iv p3, iv p4, iv p5, rv b1, iv 2, iv p1, iv p2, .unset] [(.int 2)]) _
        refine XS.iconst X28.here hx rfl (hb hby at_73) ?_
        show Go p e below T28 (mkF m 74 #[iv p1, iv p2, iv p3, iv p4, iv p5, rv b1, iv 2, iv p1, iv p2, .unset] [(.int 2), (.int 2)]) _
        refine XS.icmpNo X28.here hx rfl (hb hby at_74) rfl (teq ((by decide) : (2 : Int32) = (2 : Int32))).2 ?_
        show Go p e below T28 (mkF m 77 #[iv p1, iv p2, iv p3, iv p4, iv p5, rv b1, iv 2, iv p1, iv p2, .unset] []) _
        refine XS.iload X28.here hx rfl (hb hby at_77) rfl ?_
        show Go p e below T28 (mkF m 79 #[iv p1, iv p2, iv p3, iv p4, iv p5, rv b1, iv 2, iv p1, iv p2, .unset] [(.int p5)]) _
        refine XS.goto X28.here hx rfl (pc0 := 79) (pc' := 83) rfl (hb hby at_79) (by decide) (by decide) ?_
        show Go p e below T28 (mkF m 83 #[iv p1, iv p2, iv p3, iv p4, iv p5, rv b1, iv 2, iv p1, iv p2, .unset] [(.int p5)]) _
        refine XS.istore X28.here hx rfl (hb hby at_83) rfl (l' := #[iv p1, iv p2, iv p3, iv p4, iv p5, rv b1, iv 2, iv p1, iv p2, iv p5]) rfl ?_
        show Go p e below T28 (mkF m 85 #[iv p1, iv p2, iv p3, iv p4, iv p5, rv b1, iv 2, iv p1, iv p2, iv p5] []) _
        refine XS.aload X28.here hx rfl (hb hby at_85) rfl rfl ?_
        show Go p e below T28 (mkF m 87 #[iv p1, iv p2, iv p3, iv p4, iv p5, rv b1, iv 2, iv p1, iv p2, iv p5] [(.ref b1)]) _
        refine st30.trans ?_
        show Go p e below T30 (mkF m 90 #[iv p1, iv p2, iv p3, iv p4, iv p5, rv b1, iv 2, iv p1, iv p2, iv p5] [(.int 3)]) _
        refine XS.iconst X30.here hx rfl (hb hby at_90) ?_
        show Go p e below T30 (mkF m 91 #[iv p1, iv p2, iv p3, iv p4, iv p5, rv b1, iv 2, iv p1, iv p2, iv p5] [(.int 3), (.int 3)]) _
        refine XS.icmpNo X30.here hx rfl (hb hby at_91) rfl (teq ((by decide) : (3 : Int32) = (3 : Int32))).2 ?_
        show Go p e below T30 (mkF m 94 #[iv p1, iv p2, iv p3, iv p4, iv p5, rv b1, iv 2, iv p1, iv p2, iv p5] []) _
        refine XS.aload X30.here hx rfl (hb hby at_94) rfl rfl ?_
        show Go p e below T30 (mkF m 96 #[iv p1, iv p2, iv p3, iv p4, iv p5, rv b1, iv 2, iv p1, iv p2, iv p5] [(.ref b1)]) _
        refine XS.iconst X30.here hx rfl (hb hby at_96) ?_
        show Go p e below T30 (mkF m 97 #[iv p1, iv p2, iv p3, iv p4, iv p5, rv b1, iv 2, iv p1, iv p2, iv p5] [(.int 0), (.ref b1)]) _
        refine st31.trans ?_
        show Go p e below T31 (mkF m 100 #[iv p1, iv p2, iv p3, iv p4, iv p5, rv b1, iv 2, iv p1, iv p2, iv p5] [(.int p1)]) _
        refine XS.iload X31.here hx rfl (hb hby at_100) rfl ?_
        show Go p e below T31 (mkF m 102 #[iv p1, iv p2, iv p3, iv p4, iv p5, rv b1, iv 2, iv p1, iv p2, iv p5] [(.int p1), (.int p1)]) _
        refine XS.icmpNo X31.here hx rfl (hb hby at_102) rfl (teq (rfl : p1 = p1)).2 ?_
        show Go p e below T31 (mkF m 105 #[iv p1, iv p2, iv p3, iv p4, iv p5, rv b1, iv 2, iv p1, iv p2, iv p5] []) _
        refine XS.aload X31.here hx rfl (hb hby at_105) rfl rfl ?_
        show Go p e below T31 (mkF m 107 #[iv p1, iv p2, iv p3, iv p4, iv p5, rv b1, iv 2, iv p1, iv p2, iv p5] [(.ref b1)]) _
        refine XS.iconst X31.here hx rfl (hb hby at_107) ?_
        show Go p e below T31 (mkF m 108 #[iv p1, iv p2, iv p3, iv p4, iv p5, rv b1, iv 2, iv p1, iv p2, iv p5] [(.int 1), (.ref b1)]) _
        refine st32.trans ?_
        show Go p e below T32 (mkF m 111 #[iv p1, iv p2, iv p3, iv p4, iv p5, rv b1, iv 2, iv p1, iv p2, iv p5] [(.int p2)]) _
        refine XS.iload X32.here hx rfl (hb hby at_111) rfl ?_
        show Go p e below T32 (mkF m 113 #[iv p1, iv p2, iv p3, iv p4, iv p5, rv b1, iv 2, iv p1, iv p2, iv p5] [(.int p2), (.int p2)]) _
        refine XS.icmpNo X32.here hx rfl (hb hby at_113) rfl (teq (rfl : p2 = p2)).2 ?_
        show Go p e below T32 (mkF m 116 #[iv p1, iv p2, iv p3, iv p4, iv p5, rv b1, iv 2, iv p1, iv p2, iv p5] []) _
        refine XS.aload X32.here hx rfl (hb hby at_116) rfl rfl ?_
        show Go p e below T32 (mkF m 118 #[iv p1, iv p2, iv p3, iv p4, iv p5, rv b1, iv 2, iv p1, iv p2, iv p5] [(.ref b1)]) _
        refine XS.iconst X32.here hx rfl (hb hby at_118) ?_
        show Go p e below T32 (mkF m 119 #[iv p1, iv p2, iv p3, iv p4, iv p5, rv b1, iv 2, iv p1, iv p2, iv p5] [(.int 2), (.ref b1)]) _
        refine st33.trans ?_
        show Go p e below T33 (mkF m 122 #[iv p1, iv p2, iv p3, iv p4, iv p5, rv b1, iv 2, iv p1, iv p2, iv p5] [(.int p5)]) _
        refine XS.iload X33.here hx rfl (hb hby at_122) rfl ?_
        show Go p e below T33 (mkF m 124 #[iv p1, iv p2, iv p3, iv p4, iv p5, rv b1, iv 2, iv p1, iv p2, iv p5] [(.int p5), (.int p5)]) _
        refine XS.icmpNo X33.here hx rfl (hb hby at_124) rfl (teq (rfl : p5 = p5)).2 ?_
        show Go p e below T33 (mkF m 127 #[iv p1, iv p2, iv p3, iv p4, iv p5, rv b1, iv 2, iv p1, iv p2, iv p5] []) _
        refine XS.iconst X33.here hx rfl (hb hby at_127) ?_
        show Go p e below T33 (mkF m 128 #[iv p1, iv p2, iv p3, iv p4, iv p5, rv b1, iv 2, iv p1, iv p2, iv p5] [(.int 1)]) _
        refine XS.goto X33.here hx rfl (pc0 := 128) (pc' := 132) rfl (hb hby at_128) (by decide) (by decide) ?_
        show Go p e below T33 (mkF m 132 #[iv p1, iv p2, iv p3, iv p4, iv p5, rv b1, iv 2, iv p1, iv p2, iv p5] [(.int 1)]) _
        exact kt)
    obtain ⟨fs, hr, hrun, hended, hW, hsame⟩ := X33.leave (v := some (.int 1)) (fun h => by rw [Bd.returns] at h; cases h)
    refine ⟨_, _, pre34 _ ?_, hrun, hended, _, _, rfl, ?_, ⟨_, rfl⟩, hW, hsame.mono (by decide) (by decide)⟩
    · show Steps p.tables e below (T33.setTop (mkF m 132 #[iv p1, iv p2, iv p3, iv p4, iv p5, rv b1, iv 2, iv p1, iv p2, iv p5] [(.int 1)])) _
      exact retN X33 hx (t := .boolean) Bd.returns (by simp) (hb hby at_132) hr
    · show Q_rmL Z p1 p2 p3 p4 p5 h0 n0 _ T33.heap _
      rw [e33q]
      exact ⟨rfl, N33⟩
set_option maxRecDepth 65536 in
set_option maxHeartbeats 40000000 in
theorem comes_1 {Post : Tables → Env → Array Value → State → Outcome → State → Prop} (hpost : ∀ tb e args s v u, (limb_1_1.after args s (.returned v) u = true ∧ limb_1_2.after args s (.returned v) u = true ∧ True) → FrameEnd s (.returned v) u (Jvm.fieldLocs frame_1_writes args s ++ Jvm.arrayLocs frame_1_arrays args s ++ Jvm.staticLocs frame_1_statics s) 16 131200 → Post tb e args s (.returned v) u) :
    ArmFor flags0 classFile x code maxLocals ret World_1 tables_1 room_1 Calls_1 rest_1 Pre_1 Post := by
  intro l hfl _ _ p e ha hc hk s m args below hf hA hF happ hP
  obtain ⟨hcalls, hrest, hpre⟩ := hP
  obtain ⟨-, -, -, hnamed, -, -, -, hat⟩ := (Spec.applies_iff hf).mp happ
  obtain ⟨hg, hn⟩ := and_e (Cond.before_iff.mp (show (Jvm.Cond.and given_1 narrow_1).before args s = true from hpre))
  obtain ⟨g1, g2⟩ := and_e hg
  obtain ⟨g3, g4⟩ := and_e g2
  obtain ⟨g5, g6⟩ := and_e g4
  obtain ⟨g7, g8⟩ := and_e g6
  obtain ⟨g9, g10⟩ := and_e g8
  obtain ⟨w0, w1, w2, w3, w4, rfl⟩ : ∃ w0 w1 w2 w3 w4 : Value, args = #[w0, w1, w2, w3, w4] := by
    have hs : args.size = 5 := by simpa [Cond.value, given_1] using g1
    obtain ⟨L⟩ := args
    match L, hs with
    | [w0, w1, w2, w3, w4], _ => exact ⟨w0, w1, w2, w3, w4, rfl⟩
  have hw := fun d (hd : d ∈ tables_1) => atoms_spec (ws := Jvm.Cond.code x code maxLocals ret :: tables_1) hat d (List.mem_cons_of_mem _ hd)
  have hfit : Fit s := fun {y c} hc i hi => by
    obtain ⟨ha, rfl⟩ := Array.getElem?_eq_some_iff.mp hc
    have q := List.all_eq_true.mp ((Array.all_eq_true_iff_forall_mem.mp hF) _ (Array.getElem_mem ha)) i (List.mem_range.mpr hi)
    simpa [Array.getElem?_eq_getElem hi] using q
  obtain ⟨i0, ei0⟩ := is_v g3
  obtain rfl : w0 = (.int i0) := Option.some.inj ei0
  obtain ⟨i1, ei1⟩ := is_v g5
  obtain rfl : w1 = (.int i1) := Option.some.inj ei1
  obtain ⟨i2, ei2⟩ := is_v g7
  obtain rfl : w2 = (.int i2) := Option.some.inj ei2
  obtain ⟨i3, ei3⟩ := is_v g9
  obtain rfl : w3 = (.int i3) := Option.some.inj ei3
  obtain ⟨i4, ei4⟩ := is_v g10
  obtain rfl : w4 = (.int i4) := Option.some.inj ei4
  obtain ⟨n, o, h1, h2, h3, _, L, rfl, ⟨rfl, N⟩, hq⟩ := rmL l s _ hw tables_1 i0 i1 i2 i3 i4 s.heap s.heap.size (Nat.le_refl _) p e ha hc hk s m _ below hf ((Spec.applies_iff_loose hf).mp happ).1 ⟨rfl, State.Warmed39.refl s, rfl⟩ trivial
  refine ⟨n, _, h1, h2, h3, hpost _ _ _ _ _ _ ⟨Cond.after_iff.mpr rfl, Cond.after_iff.mpr (eq_i res_at (Term.int_eval (1)) rfl), trivial⟩ ⟨hq.1, hq.2.1, (hq.2.2.sift fun y hy => Or.inr (N y hy)).mono (by decide) (by decide)⟩⟩
theorem main_1_1 : Claimed_1_1 := comes_1 fun _ _ _ _ _ _ h hF => ⟨h.1, hF⟩
theorem main_1_2 : Claimed_1_2 := comes_1 fun _ _ _ _ _ _ h hF => ⟨h.2.1, hF⟩
end Jvm.Pilot.@@N@@
namespace Jvm.Pilot.@@N@@
open Jvm Jvm.ClassFile Sem Op Lib Jvm.Free Jvm.Stand Jvm.Pilot.@@N@@.Jvm.D
/-! MADE BY PROGRAM (witnessworld.py) out of the Statement's table words and the real class files: 9 classes; the members and pool entries that the words name. The judged class is class 1, her method 1. -/
namespace start1
open Jvm.ClassFile
def u (s : String) : CpInfo := .utf8 (stringToUtf16 s)
/-- a pool by its gaps: so many unusable entries, then the entry; so many at the end -/
def gap : Nat → List CpInfo → List CpInfo
  | 0, r => r
  | n + 1, r => .unusable :: gap n r
def poolList (es : List (Nat × CpInfo)) (last : Nat) : List CpInfo := es.foldr (fun e r => gap e.1 (e.2 :: r)) (gap last [])
def pool (es : List (Nat × CpInfo)) (last : Nat) : Array CpInfo := ⟨poolList es last⟩
def fileOf (pool : Array CpInfo) (this : Nat) (attrs : Array Attribute := #[]) (ms : Array MethodInfo := #[]) (fl : Nat := 33) (sup : Nat := 0) (ifs : Array Nat := #[]) (fds : Array FieldInfo := #[]) : ClassFile where
  minorVersion := 0
  majorVersion := 65
  constantPool := pool
  accessFlags := fl
  thisClass := this
  superClass := sup
  interfaces := ifs
  fields := fds
  methods := ms
  attributes := attrs
def plain (name : String) (sup : Option ClassId) : Class where
  name := name
  kind := .ordinary
  loader := none
  accessFlags := 33
  super := sup
  interfaces := #[]
  cf := none
  fields := #[]
  methods := #[]
  instanceTypes := #[]
  staticTypes := #[]
  resolved := #[]
  callSites := []
  init := .initialized
  statics := none
  mirror := none

def pool0 : Array CpInfo := pool [(5, u "<init>"), (0, u "()V"), (1, .class_ 10), (1, u "java/lang/Object")] 113

def k0c0 : Code := { maxStack := 0, maxLocals := 1, code := object_method_1_code, exceptionTable := #[], attributes := #[] }
def k0m0 : Method := { name := "<init>", desc := "()V", sig := { parameters := [], returnType := none }, accessFlags := 1, code := some k0c0 }
/-- java/lang/Object -/
def k0 : Class := { plain "java/lang/Object" none with
  accessFlags := 33
  interfaces := #[]
  cf := some (fileOf pool0 8 #[] #[{ accessFlags := 1, nameIndex := 5, descriptorIndex := 6, attributes := #[] }] 33 0 #[] #[])
  fields := #[]
  methods := #[k0m0]
  instanceTypes := #[]
  staticTypes := #[]
  resolved := Array.replicate 124 none
  statics := none }

def pool1 : Array CpInfo := pool [(2, .class_ 4), (0, .nameAndType 5 6), (0, u "java/lang/Object"), (0, u "<init>"), (0, u "()V"), (0, .class_ 8), (0, u "com/example/guarded_graph/guardedgraph/IntColumn"), (0, .methodref 7 3), (0, .methodref 7 11), (0, .nameAndType 12 13), (0, u "add"), (0, u "(I)V"), (0, .integer 2147483647), (0, .methodref 7 16), (0, .nameAndType 17 18), (0, u "set"), (0, u "(II)V"), (0, .methodref 7 20), (0, .nameAndType 21 22), (0, u "size"), (0, u "()I"), (0, .methodref 7 24), (0, .nameAndType 25 26), (0, u "get"), (0, u "(I)I"), (0, .class_ 28), (0, u "com/example/guarded_graph/guardedgraph/IntColumnGetPinLaw"), (2, u "law"), (0, u "(IIIII)Z")] 3

def k1m0 : Method := { name := "<init>", desc := "()V", sig := { parameters := [], returnType := none }, accessFlags := 1, code := none }
def k1c1 : Code := { maxStack := 3, maxLocals := 10, code := code, exceptionTable := #[], attributes := #[] }
def k1m1 : Method := { name := "law", desc := "(IIIII)Z", sig := { parameters := [.int, .int, .int, .int, .int], returnType := some .boolean }, accessFlags := 9, code := some k1c1 }
/-- com/example/guarded_graph/guardedgraph/IntColumnGetPinLaw -/
def k1 : Class := { plain "com/example/guarded_graph/guardedgraph/IntColumnGetPinLaw" (some 0) with
  accessFlags := 49
  interfaces := #[]
  cf := some (fileOf pool1 27 #[] #[{ accessFlags := 1, nameIndex := 5, descriptorIndex := 6, attributes := #[] }, { accessFlags := 9, nameIndex := 31, descriptorIndex := 32, attributes := #[] }] 49 2 #[] #[])
  fields := #[]
  methods := #[k1m0, k1m1]
  instanceTypes := #[]
  staticTypes := #[]
  resolved := Array.replicate 36 none
  statics := none }

def pool2 : Array CpInfo := pool [(1, .class_ 2), (0, u "com/example/guarded_graph/guardedgraph/IntColumn"), (0, .methodref 4 5), (0, .class_ 6), (0, .nameAndType 7 8), (0, u "java/lang/Object"), (0, u "<init>"), (0, u "()V"), (0, .class_ 10), (0, u "[I"), (0, .fieldref 1 12), (0, .nameAndType 13 14), (0, u "blocks"), (0, u "[[I"), (0, .fieldref 1 16), (0, .nameAndType 17 18), (0, u "size"), (0, u "I"), (2, .integer 2147483647), (14, .integer 65536), (0, .integer 65535), (0, u "BLOCK_BITS"), (2, u "BLOCK"), (0, u "MASK"), (2, u "add"), (0, u "(I)V"), (1, u "get"), (0, u "(I)I"), (0, u "set"), (0, u "(II)V"), (0, u "()I")] 3

def k2c0 : Code := { maxStack := 2, maxLocals := 1, code := prog_8_method_1_code, exceptionTable := #[], attributes := #[] }
def k2m0 : Method := { name := "<init>", desc := "()V", sig := { parameters := [], returnType := none }, accessFlags := 0, code := some k2c0 }
def k2c1 : Code := { maxStack := 4, maxLocals := 3, code := prog_8_method_2_code, exceptionTable := #[], attributes := #[] }
def k2m1 : Method := { name := "add", desc := "(I)V", sig := { parameters := [.int], returnType := none }, accessFlags := 0, code := some k2c1 }
def k2c2 : Code := { maxStack := 3, maxLocals := 2, code := prog_8_method_3_code, exceptionTable := #[], attributes := #[] }
def k2m2 : Method := { name := "get", desc := "(I)I", sig := { parameters := [.int], returnType := some .int }, accessFlags := 0, code := some k2c2 }
def k2c3 : Code := { maxStack := 3, maxLocals := 3, code := prog_8_method_4_code, exceptionTable := #[], attributes := #[] }
def k2m3 : Method := { name := "set", desc := "(II)V", sig := { parameters := [.int, .int], returnType := none }, accessFlags := 0, code := some k2c3 }
def k2c4 : Code := { maxStack := 1, maxLocals := 1, code := prog_8_method_5_code, exceptionTable := #[], attributes := #[] }
def k2m4 : Method := { name := "size", desc := "()I", sig := { parameters := [], returnType := some .int }, accessFlags := 0, code := some k2c4 }
/-- com/example/guarded_graph/guardedgraph/IntColumn -/
def k2 : Class := { plain "com/example/guarded_graph/guardedgraph/IntColumn" (some 0) with
  accessFlags := 48
  interfaces := #[]
  cf := some (fileOf pool2 1 #[] #[{ accessFlags := 0, nameIndex := 7, descriptorIndex := 8, attributes := #[] }, { accessFlags := 0, nameIndex := 45, descriptorIndex := 46, attributes := #[] }, { accessFlags := 0, nameIndex := 48, descriptorIndex := 49, attributes := #[] }, { accessFlags := 0, nameIndex := 50, descriptorIndex := 51, attributes := #[] }, { accessFlags := 0, nameIndex := 17, descriptorIndex := 52, attributes := #[] }] 48 4 #[] #[{ accessFlags := 26, nameIndex := 38, descriptorIndex := 18, attributes := #[] }, { accessFlags := 26, nameIndex := 41, descriptorIndex := 18, attributes := #[] }, { accessFlags := 26, nameIndex := 42, descriptorIndex := 18, attributes := #[] }, { accessFlags := 2, nameIndex := 13, descriptorIndex := 14, attributes := #[] }, { accessFlags := 2, nameIndex := 17, descriptorIndex := 18, attributes := #[] }])
  fields := #[{ name := "BLOCK_BITS", type := .int, accessFlags := 26, slot := 0, constantValue := 0 }, { name := "BLOCK", type := .int, accessFlags := 26, slot := 1, constantValue := 0 }, { name := "MASK", type := .int, accessFlags := 26, slot := 2, constantValue := 0 }, { name := "blocks", type := (.array (.array .int)), accessFlags := 2, slot := 0, constantValue := 0 }, { name := "size", type := .int, accessFlags := 2, slot := 1, constantValue := 0 }]
  methods := #[k2m0, k2m1, k2m2, k2m3, k2m4]
  instanceTypes := #[(.array (.array .int)), .int]
  staticTypes := #[.int, .int, .int]
  resolved := Array.replicate 56 none
  statics := none }

def pool3 : Array CpInfo := pool [(1, u "java/lang/Cloneable"), (0, .class_ 1), (0, u "java/lang/Object"), (0, .class_ 3)] 3

/-- java/lang/Cloneable -/
def k3 : Class := { plain "java/lang/Cloneable" (some 0) with
  accessFlags := 1537
  interfaces := #[]
  cf := some (fileOf pool3 2 #[] #[] 1537 4 #[] #[])
  fields := #[]
  methods := #[]
  instanceTypes := #[]
  staticTypes := #[]
  resolved := Array.replicate 8 none
  statics := none }

def pool4 : Array CpInfo := pool [(1, u "java/io/Serializable"), (0, .class_ 1), (0, u "java/lang/Object"), (0, .class_ 3)] 3

/-- java/io/Serializable -/
def k4 : Class := { plain "java/io/Serializable" (some 0) with
  accessFlags := 1537
  interfaces := #[]
  cf := some (fileOf pool4 2 #[] #[] 1537 4 #[] #[])
  fields := #[]
  methods := #[]
  instanceTypes := #[]
  staticTypes := #[]
  resolved := Array.replicate 8 none
  statics := none }

/-- the primitive byte -/
def k5 : Class := { plain "byte" none with kind := .primitive 'B', accessFlags := 0x411 }
/-- [B -/
def k6 : Class := { plain "[B" (some 0) with kind := .array 5 .byte, interfaces := #[3, 4], accessFlags := 1041 }

/-- the primitive int -/
def k7 : Class := { plain "int" none with kind := .primitive 'I', accessFlags := 0x411 }
/-- [I -/
def k8 : Class := { plain "[I" (some 0) with kind := .array 7 .int, interfaces := #[3, 4], accessFlags := 1041 }

/-- [[I -/
def k9 : Class := { plain "[[I" (some 0) with kind := .array 8 (.array .int), interfaces := #[3, 4], accessFlags := 1041 }

def heap : Heap := #[]
def classes : Array Class := #[k0, k1, k2, k3, k4, k5, k6, k7, k8, k9]
def interned : List (Array UInt16 × Addr) := []
def slotsUsed : Nat := 0
def theMethod : MethodId := ⟨1, 1⟩
def args0 : Array Value := #[.int 5, .int 5, .int 5, .int 5, .int 5]
def aboutOver (below : List Frame) : State where
  vm := { classes := classes, interned := interned.toArray }
  heap := heap
  slotsUsed := slotsUsed
  threads := #[{ frames := .invoking theMethod args0 :: below }]
def below0 : List Frame := [.native { method := ⟨0, 0⟩, args := #[] }]
def about1 : State := aboutOver below0
def p0 : Program := .bare "" "" ""
def e0 : Env := launch0.env 0 0 0
theorem w_frames : about1.frames = Frame.invoking theMethod args0 :: below0 := rfl
set_option maxRecDepth 65536 in
theorem w_args : argsFit about1.vm theMethod args0 = true := by decide +kernel
set_option maxRecDepth 65536 in
theorem w_heap : heapFits about1 = true := by decide +kernel
set_option maxRecDepth 65536 in
theorem w_runnable : about1.curStatus? = some .runnable := by decide +kernel
set_option maxRecDepth 65536 in
theorem w_alone : about1.alone = true := by decide +kernel
set_option maxRecDepth 65536 in
theorem w_named : about1.methodNamed? x = some theMethod := by decide +kernel
set_option maxRecDepth 65536 in
theorem w_hears : about1.hears theMethod below0 = true := by decide +kernel
set_option maxRecDepth 65536 in
theorem w_ripe : about1.ripe theMethod args0 below0 = true := by decide +kernel
theorem w_running : about1.status = .running := rfl
set_option maxRecDepth 65536 in
theorem w_room : about1.hasRoom e0.platform room_1 = true :=
  launch0.hasRoom_least _ room_1 (by decide +kernel) (by decide +kernel) (by decide +kernel) (by decide +kernel) (by decide +kernel) (by decide +kernel)
theorem allAtoms_all (ts : List Jvm.Cond) (a : Array Jvm.Value) (st : Jvm.State) : (allAtoms ts).before a st = ts.all (fun c => c.before a st) := by
  induction ts with
  | nil => rfl
  | cons c t ih =>
    show (Jvm.Cond.and c (allAtoms t)).before a st = _
    rw [Jvm.Cond.before_and, ih, List.all_cons]
def words1 : List Jvm.Cond := Jvm.Cond.code x code maxLocals ret :: tables_1
/-- a 'code' word, met by the world's own term for the bytes: nothing is compared byte by byte -/
theorem code_word {y : MethodName} {bytes : ByteArray} {mx : Nat} {rt : Option FieldType} {a : Array Value} {s : State} {m : MethodId} {meth : Method} {c : Code} (h1 : s.methodNamed? y = some m) (h2 : s.vm.method? m = some meth) (h3 : meth.code = some c) (h4 : c.code = bytes)
    (h5 : (c.maxLocals == mx && c.exceptionTable.isEmpty && decide (c.maxStack ≤ mostOperands) && decide (meth.sig.returnType = rt) && !meth.locks && decide (parseMethodDescriptor y.desc = some meth.sig)) = true) : (Jvm.Cond.code y bytes mx rt).before a s = true := by
  simp only [Bool.and_eq_true, beq_iff_eq, Bool.not_eq_true', decide_eq_true_eq] at h5
  obtain ⟨⟨⟨⟨⟨g1, g2⟩, g3⟩, g4⟩, g5⟩, g6⟩ := h5
  simp [Cond.before, Cond.holds, Cond.value, h1, h2, h3, h4, g1, g2, g3, g4, g5, g6]
def isCode : Jvm.Cond → Bool
  | .code _ _ _ _ => true
  | _ => false
theorem all_split {L : List Jvm.Cond} {P : Jvm.Cond → Bool} (h1 : L.all (fun c => isCode c || P c) = true) (h2 : ∀ c ∈ L.filter isCode, P c = true) : L.all P = true := by
  refine List.all_eq_true.mpr fun c hc => ?_
  have h := List.all_eq_true.mp h1 c hc
  rcases Bool.eq_false_or_eq_true (isCode c) with hi | hi
  · exact h2 c (List.mem_filter.mpr ⟨hc, hi⟩)
  · simpa [hi] using h
set_option maxRecDepth 65536 in
theorem w_c0 : (Jvm.Cond.code x code maxLocals ret).before args0 about1 = true := code_word (m := ⟨1, 1⟩) (meth := k1m1) (c := k1c1) (by decide +kernel) rfl rfl rfl (by decide +kernel)
set_option maxRecDepth 65536 in
theorem w_c1 : (Jvm.Cond.code ({ cls := "com/example/guarded_graph/guardedgraph/IntColumn", name := "<init>", desc := "()V" } : Jvm.MethodName) prog_8_method_1_code (1 : Nat) (Option.none : Option Jvm.ClassFile.FieldType)).before args0 about1 = true := code_word (m := ⟨2, 0⟩) (meth := k2m0) (c := k2c0) (by decide +kernel) rfl rfl rfl (by decide +kernel)
set_option maxRecDepth 65536 in
theorem w_c2 : (Jvm.Cond.code ({ cls := "java/lang/Object", name := "<init>", desc := "()V" } : Jvm.MethodName) object_method_1_code (1 : Nat) (Option.none : Option Jvm.ClassFile.FieldType)).before args0 about1 = true := code_word (m := ⟨0, 0⟩) (meth := k0m0) (c := k0c0) (by decide +kernel) rfl rfl rfl (by decide +kernel)
set_option maxRecDepth 65536 in
theorem w_c3 : (Jvm.Cond.code ({ cls := "com/example/guarded_graph/guardedgraph/IntColumn", name := "add", desc := "(I)V" } : Jvm.MethodName) prog_8_method_2_code (3 : Nat) (Option.none : Option Jvm.ClassFile.FieldType)).before args0 about1 = true := code_word (m := ⟨2, 1⟩) (meth := k2m1) (c := k2c1) (by decide +kernel) rfl rfl rfl (by decide +kernel)
set_option maxRecDepth 65536 in
theorem w_c4 : (Jvm.Cond.code ({ cls := "com/example/guarded_graph/guardedgraph/IntColumn", name := "set", desc := "(II)V" } : Jvm.MethodName) prog_8_method_4_code (3 : Nat) (Option.none : Option Jvm.ClassFile.FieldType)).before args0 about1 = true := code_word (m := ⟨2, 3⟩) (meth := k2m3) (c := k2c3) (by decide +kernel) rfl rfl rfl (by decide +kernel)
set_option maxRecDepth 65536 in
theorem w_c5 : (Jvm.Cond.code ({ cls := "com/example/guarded_graph/guardedgraph/IntColumn", name := "size", desc := "()I" } : Jvm.MethodName) prog_8_method_5_code (1 : Nat) (Option.some Jvm.ClassFile.FieldType.int)).before args0 about1 = true := code_word (m := ⟨2, 4⟩) (meth := k2m4) (c := k2c4) (by decide +kernel) rfl rfl rfl (by decide +kernel)
set_option maxRecDepth 65536 in
theorem w_c6 : (Jvm.Cond.code ({ cls := "com/example/guarded_graph/guardedgraph/IntColumn", name := "get", desc := "(I)I" } : Jvm.MethodName) prog_8_method_3_code (2 : Nat) (Option.some Jvm.ClassFile.FieldType.int)).before args0 about1 = true := code_word (m := ⟨2, 2⟩) (meth := k2m2) (c := k2c2) (by decide +kernel) rfl rfl rfl (by decide +kernel)
def codes1 : List Jvm.Cond := [Jvm.Cond.code x code maxLocals ret, Jvm.Cond.code ({ cls := "com/example/guarded_graph/guardedgraph/IntColumn", name := "<init>", desc := "()V" } : Jvm.MethodName) prog_8_method_1_code (1 : Nat) (Option.none : Option Jvm.ClassFile.FieldType), Jvm.Cond.code ({ cls := "java/lang/Object", name := "<init>", desc := "()V" } : Jvm.MethodName) object_method_1_code (1 : Nat) (Option.none : Option Jvm.ClassFile.FieldType), Jvm.Cond.code ({ cls := "com/example/guarded_graph/guardedgraph/IntColumn", name := "add", desc := "(I)V" } : Jvm.MethodName) prog_8_method_2_code (3 : Nat) (Option.none : Option Jvm.ClassFile.FieldType), Jvm.Cond.code ({ cls := "com/example/guarded_graph/guardedgraph/IntColumn", name := "set", desc := "(II)V" } : Jvm.MethodName) prog_8_method_4_code (3 : Nat) (Option.none : Option Jvm.ClassFile.FieldType), Jvm.Cond.code ({ cls := "com/example/guarded_graph/guardedgraph/IntColumn", name := "size", desc := "()I" } : Jvm.MethodName) prog_8_method_5_code (1 : Nat) (Option.some Jvm.ClassFile.FieldType.int), Jvm.Cond.code ({ cls := "com/example/guarded_graph/guardedgraph/IntColumn", name := "get", desc := "(I)I" } : Jvm.MethodName) prog_8_method_3_code (2 : Nat) (Option.some Jvm.ClassFile.FieldType.int)]
set_option maxRecDepth 65536 in
theorem codes_eq : words1.filter isCode = codes1 := rfl
theorem w_codes : ∀ c ∈ words1.filter isCode, c.before args0 about1 = true := by
  rw [codes_eq]
  intro c hc
  simp only [codes1, List.mem_cons, List.not_mem_nil, or_false] at hc
  rcases hc with rfl | rfl | rfl | rfl | rfl | rfl | rfl
  · exact w_c0
  · exact w_c1
  · exact w_c2
  · exact w_c3
  · exact w_c4
  · exact w_c5
  · exact w_c6
set_option maxRecDepth 65536 in
theorem w_t1 : (words1.take 24).all (fun c => isCode c || c.before args0 about1) = true := by decide +kernel
set_option maxRecDepth 65536 in
theorem w_t2 : (words1.drop 24).all (fun c => isCode c || c.before args0 about1) = true := by decide +kernel
theorem w_tables : (allAtoms (Jvm.Cond.code x code maxLocals ret :: tables_1)).before args0 about1 = true := by
  rw [allAtoms_all]
  show words1.all (fun c => c.before args0 about1) = true
  refine all_split ?_ w_codes
  rw [← List.take_append_drop 24 words1, List.all_append, w_t1, w_t2]
  rfl
set_option maxRecDepth 65536 in
theorem w_case : (Jvm.Cond.and given_1 narrow_1).before args0 about1 = true := by decide +kernel
theorem w_applies : (headSpec (Jvm.Cond.code x code maxLocals ret :: tables_1) room_1).applies x e0.platform about1 = true :=
  (Spec.applies_iff w_frames).mpr ⟨w_running, w_runnable, w_alone, w_named, w_hears, w_ripe, w_room, w_tables⟩
theorem atStart : AtStart classFile x code maxLocals ret World_1 tables_1 room_1 Calls_1 rest_1 Pre_1 launch0 p0 e0 about1 theMethod args0 below0 :=
  ⟨lists_1, trivial, launch0.admits_env _ _ _, launch0.least_env, fairChoices_fair.cas, fairChoices_fair.clock, w_frames, w_args, w_heap, w_applies, trivial, trivial, w_case⟩
end start1
theorem witness_1 : WitnessClaimed_1 := ⟨start1.p0, start1.e0, start1.about1, start1.theMethod, start1.args0, start1.below0, start1.atStart⟩
end Jvm.Pilot.@@N@@
