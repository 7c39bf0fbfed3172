import JvmDerived
import JvmDerived.Pilot.@@N@@Statement
import JvmDerived.Pilot.@@N@@Code
set_option linter.unusedVariables false
set_option linter.unusedSimpArgs false
namespace Jvm.RoadKit
open Sem ClassFile Op Lib Jvm.Stand Jvm.Free Jvm.LawKit
section New
variable {p : Program} {l : Launch} {e : Env} {R : Room} {s : State} {m : MethodId} {args : Array Value} {below : List Frame} {meth : Method} {c : Code} {T : State} {locs : List Loc} {cells slots : Nat}
theorem retI (X : Stand p l e R s m args below meth c T locs cells slots) (hx : p.tables.exec = Jvm.exec) {pc : Nat} {Ls : Array Slot} {z : Int32} {rest : List Value} (hret : meth.sig.returnType = some .int) (hd : decode c.code pc = .ok (.ireturn, 1)) {fs : List Frame}
    (hl : ∀ (f : JFrame) (acts : List Action), f.method = m → f.locked = none → f.entered = [] → (doReturn e (T.setTop f) acts (some (.int z))).1 = T.setFrames fs) : Steps p.tables e below (T.setTop (mkF m pc Ls (.int z :: rest))) (T.setFrames fs) := by
  have hm' : T.vm.method? m = some meth := X.method'
  have hn : narrow .int (.int z) = .int z := rfl
  show Steps p.tables e below (T.setTop { method := m, pc := pc, locals := Ls, stack := _ :: rest, locked := none }) _
  jvm_step X.here [X.here.top, hx, hd, hm', hret, hn]
  first | (intro acts; rw [hl _ acts rfl rfl rfl]) | rw [hl _ _ rfl rfl rfl]
  exact Steps.refl _
end New
end Jvm.RoadKit
namespace Jvm.Pilot.@@N@@
open Jvm Jvm.ClassFile Sem Op Lib Jvm.Free Jvm.Stand Jvm.LawKit Jvm.RoadKit Bundle Jvm.Pilot.@@N@@.Jvm.D
abbrev Go (p : Program) (e : Env) (below : List Frame) (T : State) (g : JFrame) (t : State) : Prop := Steps p.tables e below (T.setTop g) t
theorem hwi {Z : State} {a0 : Array Value} (hw : ∀ d ∈ tables_1, d.before a0 Z = true) {d : Jvm.Cond} (i : Nat) (q : tables_1[i]? = some d) : d.before a0 Z = true := hw _ (List.mem_of_getElem? q)
theorem own_ext {h0 h : Heap} (K : Keep h0 h []) : Ext h0 h := ⟨K.1, fun a c q => K.2.1 a c q nin0⟩
theorem own_rng (k : Int32) (h : 0 ≤ k.toInt ∧ k.toInt < 4) : k = (0 : Int32) ∨ k = (1 : Int32) ∨ k = (2 : Int32) ∨ k = (3 : Int32) := by
  have q : k.toInt = 0 ∨ k.toInt = 1 ∨ k.toInt = 2 ∨ k.toInt = 3 := by omega
  rcases q with q | q | q | q
  · exact Or.inl (Int32.toInt_inj.mp (by rw [q]; decide))
  · exact Or.inr (Or.inl (Int32.toInt_inj.mp (by rw [q]; decide)))
  · exact Or.inr (Or.inr (Or.inl (Int32.toInt_inj.mp (by rw [q]; decide))))
  · exact Or.inr (Or.inr (Or.inr (Int32.toInt_inj.mp (by rw [q]; decide))))
theorem own_and3 (x : Int32) : 0 ≤ (x &&& (3 : Int32)).toInt ∧ (x &&& (3 : Int32)).toInt < 4 := by
  have h := c_mask x 3 2 (by decide) (by decide)
  omega
theorem own_minle (x y : Int32) : ¬ y < (if y < x then y else x) := by
  by_cases h : y < x
  · rw [if_pos h]; exact Int32.lt_irrefl
  · rw [if_neg h]; exact h
theorem own_min0 (q : Int32) : (if (0 : Int32) < (q &&& (3 : Int32)) then (0 : Int32) else (q &&& (3 : Int32))) = (0 : Int32) := by
  rcases own_rng _ (own_and3 q) with h | h | h | h <;> rw [h] <;> decide
theorem own_min1 (q : Int32) : (if (1 : Int32) < (q &&& (3 : Int32)) then (1 : Int32) else (q &&& (3 : Int32))) = (0 : Int32) ∨ (if (1 : Int32) < (q &&& (3 : Int32)) then (1 : Int32) else (q &&& (3 : Int32))) = (1 : Int32) := by
  rcases own_rng _ (own_and3 q) with h | h | h | h <;> rw [h] <;> decide
theorem own_min2 (q : Int32) : (if (2 : Int32) < (q &&& (3 : Int32)) then (2 : Int32) else (q &&& (3 : Int32))) = (0 : Int32) ∨ (if (2 : Int32) < (q &&& (3 : Int32)) then (2 : Int32) else (q &&& (3 : Int32))) = (1 : Int32) ∨ (if (2 : Int32) < (q &&& (3 : Int32)) then (2 : Int32) else (q &&& (3 : Int32))) = (2 : Int32) := by
  rcases own_rng _ (own_and3 q) with h | h | h | h <;> rw [h] <;> decide
theorem own_min3 (q : Int32) : (if (3 : Int32) < (q &&& (3 : Int32)) then (3 : Int32) else (q &&& (3 : Int32))) = (0 : Int32) ∨ (if (3 : Int32) < (q &&& (3 : Int32)) then (3 : Int32) else (q &&& (3 : Int32))) = (1 : Int32) ∨ (if (3 : Int32) < (q &&& (3 : Int32)) then (3 : Int32) else (q &&& (3 : Int32))) = (2 : Int32) ∨ (if (3 : Int32) < (q &&& (3 : Int32)) then (3 : Int32) else (q &&& (3 : Int32))) = (3 : Int32) := by
  rcases own_rng _ (own_and3 q) with h | h | h | h <;> rw [h] <;> decide
theorem own_btw0_1 {b : Int32} (h1 : (0 : Int32) < b) (h2 : ¬ (1 : Int32) < b) : b = (1 : Int32) := by
  rw [Int32.lt_iff_toInt_lt] at h1 h2
  have e1 : (0 : Int32).toInt = 0 := by decide
  have e2 : (1 : Int32).toInt = 1 := by decide
  rw [e1] at h1; rw [e2] at h2
  have q : b.toInt = 1 := by omega
  exact Int32.toInt_inj.mp (by rw [q]; decide)
theorem own_btw0_2 {b : Int32} (h1 : (0 : Int32) < b) (h2 : ¬ (2 : Int32) < b) : b = (1 : Int32) ∨ b = (2 : Int32) := by
  rw [Int32.lt_iff_toInt_lt] at h1 h2
  have e1 : (0 : Int32).toInt = 0 := by decide
  have e2 : (2 : Int32).toInt = 2 := by decide
  rw [e1] at h1; rw [e2] at h2
  have q : b.toInt = 1 ∨ b.toInt = 2 := by omega
  rcases q with q | q
  · exact Or.inl (Int32.toInt_inj.mp (by rw [q]; decide))
  · exact Or.inr (Int32.toInt_inj.mp (by rw [q]; decide))
theorem own_btw1_2 {b : Int32} (h1 : (1 : Int32) < b) (h2 : ¬ (2 : Int32) < b) : b = (2 : Int32) := by
  rw [Int32.lt_iff_toInt_lt] at h1 h2
  have e1 : (1 : Int32).toInt = 1 := by decide
  have e2 : (2 : Int32).toInt = 2 := by decide
  rw [e1] at h1; rw [e2] at h2
  have q : b.toInt = 2 := by omega
  exact Int32.toInt_inj.mp (by rw [q]; decide)
theorem own_btw0_3 {b : Int32} (h1 : (0 : Int32) < b) (h2 : ¬ (3 : Int32) < b) : b = (1 : Int32) ∨ b = (2 : Int32) ∨ b = (3 : Int32) := by
  rw [Int32.lt_iff_toInt_lt] at h1 h2
  have e1 : (0 : Int32).toInt = 0 := by decide
  have e2 : (3 : Int32).toInt = 3 := by decide
  rw [e1] at h1; rw [e2] at h2
  have q : b.toInt = 1 ∨ b.toInt = 2 ∨ b.toInt = 3 := by omega
  rcases q with q | q | q
  · exact Or.inl (Int32.toInt_inj.mp (by rw [q]; decide))
  · exact Or.inr (Or.inl (Int32.toInt_inj.mp (by rw [q]; decide)))
  · exact Or.inr (Or.inr (Int32.toInt_inj.mp (by rw [q]; decide)))
theorem own_btw1_3 {b : Int32} (h1 : (1 : Int32) < b) (h2 : ¬ (3 : Int32) < b) : b = (2 : Int32) ∨ b = (3 : Int32) := by
  rw [Int32.lt_iff_toInt_lt] at h1 h2
  have e1 : (1 : Int32).toInt = 1 := by decide
  have e2 : (3 : Int32).toInt = 3 := by decide
  rw [e1] at h1; rw [e2] at h2
  have q : b.toInt = 2 ∨ b.toInt = 3 := by omega
  rcases q with q | q
  · exact Or.inl (Int32.toInt_inj.mp (by rw [q]; decide))
  · exact Or.inr (Int32.toInt_inj.mp (by rw [q]; decide))
theorem own_btw2_3 {b : Int32} (h1 : (2 : Int32) < b) (h2 : ¬ (3 : Int32) < b) : b = (3 : Int32) := by
  rw [Int32.lt_iff_toInt_lt] at h1 h2
  have e1 : (2 : Int32).toInt = 2 := by decide
  have e2 : (3 : Int32).toInt = 3 := by decide
  rw [e1] at h1; rw [e2] at h2
  have q : b.toInt = 3 := by omega
  exact Int32.toInt_inj.mp (by rw [q]; decide)
def Rg (Z : State) (h : Heap) (a rg : Addr) (kr : ClassId) (f c : Int32) (u0 u1 u2 : Value) : Prop := Exa Z h a "com/example/rowmotif/rowmotif/matcher/PartitionRows" ∧ Fld Z h a "com/example/rowmotif/rowmotif/matcher/PartitionRows" "ring" "[[Ljava/lang/Object;" (.ref rg) ∧ Fld Z h a "com/example/rowmotif/rowmotif/matcher/PartitionRows" "head" "I" (.int f) ∧ Fld Z h a "com/example/rowmotif/rowmotif/matcher/PartitionRows" "count" "I" (.int c) ∧ Fld Z h a "com/example/rowmotif/rowmotif/matcher/PartitionRows" "first" "I" (.int f) ∧ Fld Z h a "com/example/rowmotif/rowmotif/matcher/PartitionRows" "complete" "Z" (.int 0) ∧ Arv Z h rg kr (.array (.object "java/lang/Object")) (16 : Int32) [u0, u1, u2] .null ∧ OvrA Z kr (.object "java/lang/Object") "[Ljava/lang/Object;" ∧ a ≠ rg
theorem ef_1 (m : MethodId) (x0 : Addr) : entryFrame m #[(.ref x0)] 1 = mkF m 0 #[.val (.ref x0)] [] := by first | (simp [entryFrame, mkF, argsToLocals, Value.category]; done) | rfl
theorem pn_com_example_rowmotif_rowmotif_matcher_PartitionRows : plainName "com/example/rowmotif/rowmotif/matcher/PartitionRows" = true := by first | (simp [plainName, overriddenIn]; done) | decide +kernel
theorem d1_0 : decode prog_78_method_1_code 0 = .ok (.aload_n 0, 1) := by decide +kernel
theorem d1_1 : decode prog_78_method_1_code 1 = .ok (.invokespecial 1, 3) := by decide +kernel
theorem d1_4 : decode prog_78_method_1_code 4 = .ok (.aload_n 0, 1) := by decide +kernel
theorem d1_5 : decode prog_78_method_1_code 5 = .ok (.bipush 16, 2) := by decide +kernel
theorem d1_7 : decode prog_78_method_1_code 7 = .ok (.anewarray 9, 3) := by decide +kernel
theorem d1_10 : decode prog_78_method_1_code 10 = .ok (.putfield 11, 3) := by decide +kernel
theorem d1_13 : decode prog_78_method_1_code 13 = .ok (.return_, 1) := by decide +kernel
def Q_rmI (Z : State) (a : Addr) (h0 : Heap) (n0 : Nat) (v : Option Value) (h : Heap) (L : List Loc) : Prop := ∃ (rg : Addr) (kr : ClassId), v = none ∧ Fr n0 L ∧ Keep h0 h [a] ∧ n0 ≤ rg ∧ h0.size ≤ rg ∧ Rg Z h a rg kr (0 : Int32) (0 : Int32) .null .null .null
set_option maxRecDepth 65536 in
set_option maxHeartbeats 40000000 in
theorem rmI (l : Launch) (Z : State) (a0 : Array Value) (hw : ∀ d ∈ tables_1, d.before a0 Z = true) (ws : List Jvm.Cond) (a : Addr) (h0 : Heap) (n0 : Nat) (Z0 : n0 ≤ h0.size) (E_a : Exa Z h0 a "com/example/rowmotif/rowmotif/matcher/PartitionRows") (g_a : n0 ≤ a) (F_ring : Fld Z h0 a "com/example/rowmotif/rowmotif/matcher/PartitionRows" "ring" "[[Ljava/lang/Object;" .null) (F_head : Fld Z h0 a "com/example/rowmotif/rowmotif/matcher/PartitionRows" "head" "I" (.int 0)) (F_count : Fld Z h0 a "com/example/rowmotif/rowmotif/matcher/PartitionRows" "count" "I" (.int 0)) (F_first : Fld Z h0 a "com/example/rowmotif/rowmotif/matcher/PartitionRows" "first" "I" (.int 0)) (F_complete : Fld Z h0 a "com/example/rowmotif/rowmotif/matcher/PartitionRows" "complete" "Z" (.int 0)) :
    MetFree l (⟨"com/example/rowmotif/rowmotif/matcher/PartitionRows", "<init>", "()V"⟩ : MethodName) (head1 (Jvm.Cond.code (⟨"com/example/rowmotif/rowmotif/matcher/PartitionRows", "<init>", "()V"⟩ : MethodName) prog_78_method_1_code 1 none :: ws) ({ frames := 1, cells := 1, slots := 16, locals := 12 } : Room)) (fun av_ U_ => av_ = #[(.ref a)] ∧ Z.Warmed39 U_.vm ∧ U_.heap = h0) (fun _ _ _ _ _ => True) (fun _ U_ o_ V_ => ∃ v_ L_, o_ = .returned v_ ∧ Q_rmI Z a h0 n0 v_ V_.heap L_ ∧ FrameEnd U_ o_ V_ L_ ({ frames := 1, cells := 1, slots := 16, locals := 12 } : Room).cells ({ frames := 1, cells := 1, slots := 16, locals := 12 } : Room).slots) := by
  refine MetFree.of_bodySF (plainFor_of_name pn_com_example_rowmotif_rowmotif_matcher_PartitionRows) hisR ?_
  intro p e s m args below meth c s₁ Bd hml0 hP hK
  obtain ⟨rfl, hZ, hh⟩ := hP
  have hx := Bd.exec
  have hby := Bd.bytes
  have hml : c.maxLocals = 1 := hml0
  have hown : s.vm.findClass "com/example/rowmotif/rowmotif/matcher/PartitionRows" = some m.cls := findClass_of_methodNamed Bd.named
  have hnm := (name_of_methodNamed Bd.named Bd.method).1
  have X0 : Stand p l e ({ frames := 1, cells := 1, slots := 16, locals := 12 } : Room) s m #[(.ref a)] below meth c s₁ [] 0 0 := Stand.of_body Bd
  have e0 : s₁.heap = h0 := by rw [← hh, Bd.state]; rfl
  have N0 := Fr.nil n0
  have pre0 : ∀ t_, Go p e below s₁ (mkF m 0 #[rv a] []) t_ → Go p e below s₁ (entryFrame m #[(.ref a)] 1) t_ := fun t_ kt => castTop (ef_1 m a) kt
  obtain ⟨T1, X1, e1, st1⟩ := initO X0 hx hZ hown (hwi hw 8 rfl) (hwi hw 9 rfl) (hwi hw 10 rfl) e0 (g := (mkF m 1 #[rv a] [(.ref a)])) rfl (by rw [hml]; rfl) rfl (hb hby d1_1) (by decide) (W := 0) (by show 2 * 0 + _ ≤ _; exact Nat.le_of_eq rfl) (by decide)
  obtain ⟨T2, h2, k2, X2, e2, E2, A2, Ex2, O2, st2⟩ := newRA X1 hx hZ (ty := (.object "java/lang/Object")) hown (by first | rfl | decide +kernel) (hwi hw 11 rfl) (hwi hw 12 rfl) e1 (g := (mkF m 7 #[rv a] [(.int 16), (.ref a)])) rfl (hb hby d1_7) rfl (by decide) (cap := 16) (by decide) (by decide) (by decide) (by decide) (ad := "[[Ljava/lang/Object;") (by first | rfl | decide +kernel)
  obtain ⟨b2, g2⟩ : ∃ z, z = h0.size := ⟨_, rfl⟩
  rw [← g2] at A2 Ex2 st2
  have ne_a_b2 : a ≠ b2 := Nat.ne_of_lt (Nat.lt_of_lt_of_le E_a.lt (Nat.le_of_eq g2.symm))
  have sz_b2 : h0.size ≤ b2 := Nat.le_trans (Keep.refl h0 [a]).1 (Nat.le_of_eq g2.symm)
  have g_b2 : n0 ≤ b2 := Nat.le_trans Z0 sz_b2
  have f3 := E_a.ext E2
  have f4 := F_ring.ext E2
  have f5 := F_head.ext E2
  have f6 := F_count.ext E2
  have f7 := F_first.ext E2
  have f8 := F_complete.ext E2
  have K2 : Keep h0 h2 [a] := (Keep.refl h0 [a]).ext E2
  have V2 : Arv Z h2 b2 k2 (.array (.object "java/lang/Object")) (16 : Int32) [.null, .null, .null] .null := (Arv.new A2 (by decide)).pad (pad_rep [] .null 3)
  obtain ⟨T9, h9, X9, e9, W9, st9⟩ := putF X2 hx hZ hown (host := "") (Or.inl (hwi hw 13 rfl)) Via.refl e2 f4 f3 (Or.inl (hwi hw 14 rfl)) (hwi hw 3 rfl) (ty := (.array (.array (.object "java/lang/Object")))) (by decide) rfl rfl (g := (mkF m 10 #[rv a] [(.ref b2), (.ref a)])) rfl rfl (hb hby d1_10)
  have f10 := f3.wr W9
  have f12 := f5.other W9 (Or.inr (slot_ne (Or.inl (hwi hw 51 rfl)) (Or.inl (hwi hw 14 rfl)) (by decide) (t := .int) (t' := (.array (.array (.object "java/lang/Object")))) (by decide) (by decide)))
  have f13 := f6.other W9 (Or.inr (slot_ne (Or.inl (hwi hw 35 rfl)) (Or.inl (hwi hw 14 rfl)) (by decide) (t := .int) (t' := (.array (.array (.object "java/lang/Object")))) (by decide) (by decide)))
  have f14 := f7.other W9 (Or.inr (slot_ne (Or.inl (hwi hw 25 rfl)) (Or.inl (hwi hw 14 rfl)) (by decide) (t := .int) (t' := (.array (.array (.object "java/lang/Object")))) (by decide) (by decide)))
  have f15 := f8.other W9 (Or.inr (slot_ne (Or.inl (hwi hw 47 rfl)) (Or.inl (hwi hw 14 rfl)) (by decide) (t := .boolean) (t' := (.array (.array (.object "java/lang/Object")))) (by decide) (by decide)))
  have f16 := Ex2.wr W9
  have f17 := V2.other W9 (Ne.symm ne_a_b2)
  have K9 : Keep h0 h9 [a] := K2.wr W9 (Or.inl (List.mem_of_getElem? (i := 0) rfl))
  have N9 := Fr.snoc X9 N0 g_a
  have f18 : Fld Z h9 a "com/example/rowmotif/rowmotif/matcher/PartitionRows" "ring" "[[Ljava/lang/Object;" (.ref b2) := f4.same W9
  have pre19 : ∀ t_, Go p e below T9 (mkF m 13 #[rv a] []) t_ → Go p e below s₁ (entryFrame m #[(.ref a)] 1) t_ := fun t_ kt => pre0 _ (by
      show Go p e below s₁ (mkF m 0 #[rv a] []) _
      refine XS.aloadN X0.here hx rfl (hb hby d1_0) rfl rfl ?_
      show Go p e below s₁ (mkF m 1 #[rv a] [(.ref a)]) _
      refine st1 _ ?_
      show Go p e below T1 (mkF m 4 #[rv a] []) _
      refine XS.aloadN X1.here hx rfl (hb hby d1_4) rfl rfl ?_
      show Go p e below T1 (mkF m 5 #[rv a] [(.ref a)]) _
      refine XS.bipush X1.here hx rfl (hb hby d1_5) ?_
      show Go p e below T1 (mkF m 7 #[rv a] [(.int 16), (.ref a)]) _
      refine st2 _ ?_
      show Go p e below T2 (mkF m 10 #[rv a] [(.ref b2), (.ref a)]) _
      refine st9 _ ?_
      show Go p e below T9 (mkF m 13 #[rv a] []) _
      exact kt)
  obtain ⟨fs, hr, hrun, hended, hW, hsame⟩ := X9.leave (v := none) (fun _ => rfl)
  refine ⟨_, _, pre19 _ ?_, hrun, hended, _, _, rfl, ?_, ⟨_, rfl⟩, hW, hsame.mono (by decide) (by decide)⟩
  · show Steps p.tables e below (T9.setTop (mkF m 13 #[rv a] [])) _
    exact X9.returnOut hx Bd.returns (hb hby d1_13) hr
  · show Q_rmI Z a h0 n0 _ T9.heap _
    rw [e9]
    exact ⟨b2, k2, rfl, N9, K9, g_b2, sz_b2, ⟨f10, f18, f12, f13, f14, f15, f17, O2, ne_a_b2⟩⟩
theorem ef_6 (m : MethodId) (x0 : Addr) : entryFrame m #[(.ref x0)] 1 = mkF m 0 #[.val (.ref x0)] [] := by first | (simp [entryFrame, mkF, argsToLocals, Value.category]; done) | rfl
theorem d6_0 : decode prog_78_method_5_code 0 = .ok (.aload_n 0, 1) := by decide +kernel
theorem d6_1 : decode prog_78_method_5_code 1 = .ok (.getfield 42, 3) := by decide +kernel
theorem d6_4 : decode prog_78_method_5_code 4 = .ok (.aload_n 0, 1) := by decide +kernel
theorem d6_5 : decode prog_78_method_5_code 5 = .ok (.getfield 35, 3) := by decide +kernel
theorem d6_8 : decode prog_78_method_5_code 8 = .ok (.iadd, 1) := by decide +kernel
theorem d6_9 : decode prog_78_method_5_code 9 = .ok (.ireturn, 1) := by decide +kernel
def Q_rmZ (Z : State) (a : Addr) (fi : Int32) (cn : Int32) (h0 : Heap) (n0 : Nat) (v : Option Value) (h : Heap) (L : List Loc) : Prop := v = some (.int (fi + cn)) ∧ Fr n0 L ∧ h = h0
set_option maxRecDepth 65536 in
set_option maxHeartbeats 40000000 in
theorem rmZ (l : Launch) (Z : State) (a0 : Array Value) (hw : ∀ d ∈ tables_1, d.before a0 Z = true) (ws : List Jvm.Cond) (a : Addr) (fi : Int32) (cn : Int32) (h0 : Heap) (n0 : Nat) (Z0 : n0 ≤ h0.size) (F_first : Fld Z h0 a "com/example/rowmotif/rowmotif/matcher/PartitionRows" "first" "I" (.int fi)) (F_count : Fld Z h0 a "com/example/rowmotif/rowmotif/matcher/PartitionRows" "count" "I" (.int cn)) :
    MetFree l (⟨"com/example/rowmotif/rowmotif/matcher/PartitionRows", "size", "()I"⟩ : MethodName) (head1 (Jvm.Cond.code (⟨"com/example/rowmotif/rowmotif/matcher/PartitionRows", "size", "()I"⟩ : MethodName) prog_78_method_5_code 1 (some .int) :: ws) ({ frames := 0, cells := 0, slots := 0, locals := 0 } : Room)) (fun av_ U_ => av_ = #[(.ref a)] ∧ Z.Warmed39 U_.vm ∧ U_.heap = h0) (fun _ _ _ _ _ => True) (fun _ U_ o_ V_ => ∃ v_ L_, o_ = .returned v_ ∧ Q_rmZ Z a fi cn h0 n0 v_ V_.heap L_ ∧ FrameEnd U_ o_ V_ L_ ({ frames := 0, cells := 0, slots := 0, locals := 0 } : Room).cells ({ frames := 0, cells := 0, slots := 0, locals := 0 } : Room).slots) := by
  refine MetFree.of_bodySF (plainFor_of_name pn_com_example_rowmotif_rowmotif_matcher_PartitionRows) hisR ?_
  intro p e s m args below meth c s₁ Bd hml0 hP hK
  obtain ⟨rfl, hZ, hh⟩ := hP
  have hx := Bd.exec
  have hby := Bd.bytes
  have hml : c.maxLocals = 1 := hml0
  have hown : s.vm.findClass "com/example/rowmotif/rowmotif/matcher/PartitionRows" = some m.cls := findClass_of_methodNamed Bd.named
  have hnm := (name_of_methodNamed Bd.named Bd.method).1
  have X0 : Stand p l e ({ frames := 0, cells := 0, slots := 0, locals := 0 } : Room) s m #[(.ref a)] below meth c s₁ [] 0 0 := Stand.of_body Bd
  have e0 : s₁.heap = h0 := by rw [← hh, Bd.state]; rfl
  have N0 := Fr.nil n0
  have pre0 : ∀ t_, Go p e below s₁ (mkF m 0 #[rv a] []) t_ → Go p e below s₁ (entryFrame m #[(.ref a)] 1) t_ := fun t_ kt => castTop (ef_6 m a) kt
  obtain ⟨T1, X1, e1, st1⟩ := getF X0 hx hZ hown (host := "") (Or.inl (hwi hw 24 rfl)) Via.refl e0 F_first (g := (mkF m 1 #[rv a] [(.ref a)])) rfl rfl (hb hby d6_1)
  obtain ⟨T2, X2, e2, st2⟩ := getF X1 hx hZ hown (host := "") (Or.inl (hwi hw 34 rfl)) Via.refl e1 F_count (g := (mkF m 5 #[rv a] [(.ref a), (.int fi)])) rfl rfl (hb hby d6_5)
  have pre3 : ∀ t_, Go p e below T2 (mkF m 9 #[rv a] [(.int (fi + cn))]) t_ → Go p e below s₁ (entryFrame m #[(.ref a)] 1) t_ := fun t_ kt => pre0 _ (by
      show Go p e below s₁ (mkF m 0 #[rv a] []) _
      refine XS.aloadN X0.here hx rfl (hb hby d6_0) rfl rfl ?_
      show Go p e below s₁ (mkF m 1 #[rv a] [(.ref a)]) _
      refine st1 _ ?_
      show Go p e below T1 (mkF m 4 #[rv a] [(.int fi)]) _
      refine XS.aloadN X1.here hx rfl (hb hby d6_4) rfl rfl ?_
      show Go p e below T1 (mkF m 5 #[rv a] [(.ref a), (.int fi)]) _
      refine st2 _ ?_
      show Go p e below T2 (mkF m 8 #[rv a] [(.int cn), (.int fi)]) _
      refine XS.iadd X2.here hx rfl (hb hby d6_8) rfl ?_
      show Go p e below T2 (mkF m 9 #[rv a] [(.int (fi + cn))]) _
      exact kt)
  obtain ⟨fs, hr, hrun, hended, hW, hsame⟩ := X2.leave (v := some (.int (fi + cn))) (fun h => by rw [Bd.returns] at h; cases h)
  refine ⟨_, _, pre3 _ ?_, hrun, hended, _, _, rfl, ?_, ⟨_, rfl⟩, hW, hsame.mono (by decide) (by decide)⟩
  · show Steps p.tables e below (T2.setTop (mkF m 9 #[rv a] [(.int (fi + cn))])) _
    exact retI X2 hx Bd.returns (hb hby d6_9) hr
  · show Q_rmZ Z a fi cn h0 n0 _ T2.heap _
    rw [e2]
    exact ⟨rfl, N0, rfl⟩
theorem ef_7 (m : MethodId) (x0 : Addr) : entryFrame m #[(.ref x0)] 1 = mkF m 0 #[.val (.ref x0)] [] := by first | (simp [entryFrame, mkF, argsToLocals, Value.category]; done) | rfl
theorem d7_0 : decode prog_78_method_10_code 0 = .ok (.aload_n 0, 1) := by decide +kernel
theorem d7_1 : decode prog_78_method_10_code 1 = .ok (.getfield 35, 3) := by decide +kernel
theorem d7_4 : decode prog_78_method_10_code 4 = .ok (.ireturn, 1) := by decide +kernel
def Q_rmHd (Z : State) (a : Addr) (cn : Int32) (h0 : Heap) (n0 : Nat) (v : Option Value) (h : Heap) (L : List Loc) : Prop := v = some (.int cn) ∧ Fr n0 L ∧ h = h0
set_option maxRecDepth 65536 in
set_option maxHeartbeats 40000000 in
theorem rmHd (l : Launch) (Z : State) (a0 : Array Value) (hw : ∀ d ∈ tables_1, d.before a0 Z = true) (ws : List Jvm.Cond) (a : Addr) (cn : Int32) (h0 : Heap) (n0 : Nat) (Z0 : n0 ≤ h0.size) (F_count : Fld Z h0 a "com/example/rowmotif/rowmotif/matcher/PartitionRows" "count" "I" (.int cn)) :
    MetFree l (⟨"com/example/rowmotif/rowmotif/matcher/PartitionRows", "held", "()I"⟩ : MethodName) (head1 (Jvm.Cond.code (⟨"com/example/rowmotif/rowmotif/matcher/PartitionRows", "held", "()I"⟩ : MethodName) prog_78_method_10_code 1 (some .int) :: ws) ({ frames := 0, cells := 0, slots := 0, locals := 0 } : Room)) (fun av_ U_ => av_ = #[(.ref a)] ∧ Z.Warmed39 U_.vm ∧ U_.heap = h0) (fun _ _ _ _ _ => True) (fun _ U_ o_ V_ => ∃ v_ L_, o_ = .returned v_ ∧ Q_rmHd Z a cn h0 n0 v_ V_.heap L_ ∧ FrameEnd U_ o_ V_ L_ ({ frames := 0, cells := 0, slots := 0, locals := 0 } : Room).cells ({ frames := 0, cells := 0, slots := 0, locals := 0 } : Room).slots) := by
  refine MetFree.of_bodySF (plainFor_of_name pn_com_example_rowmotif_rowmotif_matcher_PartitionRows) hisR ?_
  intro p e s m args below meth c s₁ Bd hml0 hP hK
  obtain ⟨rfl, hZ, hh⟩ := hP
  have hx := Bd.exec
  have hby := Bd.bytes
  have hml : c.maxLocals = 1 := hml0
  have hown : s.vm.findClass "com/example/rowmotif/rowmotif/matcher/PartitionRows" = some m.cls := findClass_of_methodNamed Bd.named
  have hnm := (name_of_methodNamed Bd.named Bd.method).1
  have X0 : Stand p l e ({ frames := 0, cells := 0, slots := 0, locals := 0 } : Room) s m #[(.ref a)] below meth c s₁ [] 0 0 := Stand.of_body Bd
  have e0 : s₁.heap = h0 := by rw [← hh, Bd.state]; rfl
  have N0 := Fr.nil n0
  have pre0 : ∀ t_, Go p e below s₁ (mkF m 0 #[rv a] []) t_ → Go p e below s₁ (entryFrame m #[(.ref a)] 1) t_ := fun t_ kt => castTop (ef_7 m a) kt
  obtain ⟨T1, X1, e1, st1⟩ := getF X0 hx hZ hown (host := "") (Or.inl (hwi hw 34 rfl)) Via.refl e0 F_count (g := (mkF m 1 #[rv a] [(.ref a)])) rfl rfl (hb hby d7_1)
  have pre2 : ∀ t_, Go p e below T1 (mkF m 4 #[rv a] [(.int cn)]) t_ → Go p e below s₁ (entryFrame m #[(.ref a)] 1) t_ := fun t_ kt => pre0 _ (by
      show Go p e below s₁ (mkF m 0 #[rv a] []) _
      refine XS.aloadN X0.here hx rfl (hb hby d7_0) rfl rfl ?_
      show Go p e below s₁ (mkF m 1 #[rv a] [(.ref a)]) _
      refine st1 _ ?_
      show Go p e below T1 (mkF m 4 #[rv a] [(.int cn)]) _
      exact kt)
  obtain ⟨fs, hr, hrun, hended, hW, hsame⟩ := X1.leave (v := some (.int cn)) (fun h => by rw [Bd.returns] at h; cases h)
  refine ⟨_, _, pre2 _ ?_, hrun, hended, _, _, rfl, ?_, ⟨_, rfl⟩, hW, hsame.mono (by decide) (by decide)⟩
  · show Steps p.tables e below (T1.setTop (mkF m 4 #[rv a] [(.int cn)])) _
    exact retI X1 hx Bd.returns (hb hby d7_4) hr
  · show Q_rmHd Z a cn h0 n0 _ T1.heap _
    rw [e1]
    exact ⟨rfl, N0, rfl⟩
theorem ef_3 (m : MethodId) (x0 : Int32) (x1 : Int32) : entryFrame m #[(.int x0), (.int x1)] 2 = mkF m 0 #[.val (.int x0), .val (.int x1)] [] := by first | (simp [entryFrame, mkF, argsToLocals, Value.category]; done) | rfl
theorem d3_0 : decode jdk_29_method_69_code 0 = .ok (.iload_n 0, 1) := by decide +kernel
theorem d3_1 : decode jdk_29_method_69_code 1 = .ok (.iload_n 1, 1) := by decide +kernel
theorem d3_2 : decode jdk_29_method_69_code 2 = .ok (.if_icmp .gt 7, 3) := by decide +kernel
theorem d3_9 : decode jdk_29_method_69_code 9 = .ok (.iload_n 1, 1) := by decide +kernel
theorem d3_10 : decode jdk_29_method_69_code 10 = .ok (.ireturn, 1) := by decide +kernel
theorem d3_5 : decode jdk_29_method_69_code 5 = .ok (.iload_n 0, 1) := by decide +kernel
theorem d3_6 : decode jdk_29_method_69_code 6 = .ok (.goto 4, 3) := by decide +kernel
def Q_rmMin (Z : State) (x : Int32) (y : Int32) (h0 : Heap) (n0 : Nat) (v : Option Value) (h : Heap) (L : List Loc) : Prop := v = some (.int (if y < x then y else x)) ∧ Fr n0 L ∧ h = h0
set_option maxRecDepth 65536 in
set_option maxHeartbeats 40000000 in
theorem rmMin (l : Launch) (Z : State) (a0 : Array Value) (hw : ∀ d ∈ tables_1, d.before a0 Z = true) (ws : List Jvm.Cond) (x : Int32) (y : Int32) (h0 : Heap) (n0 : Nat) (Z0 : n0 ≤ h0.size) :
    MetFree l (⟨"java/lang/Math", "min", "(II)I"⟩ : MethodName) (head1 (Jvm.Cond.code (⟨"java/lang/Math", "min", "(II)I"⟩ : MethodName) jdk_29_method_69_code 2 (some .int) :: ws) ({ frames := 0, cells := 0, slots := 0, locals := 0 } : Room)) (fun av_ U_ => av_ = #[(.int x), (.int y)] ∧ Z.Warmed39 U_.vm ∧ U_.heap = h0) (fun _ _ _ _ _ => True) (fun _ U_ o_ V_ => ∃ v_ L_, o_ = .returned v_ ∧ Q_rmMin Z x y h0 n0 v_ V_.heap L_ ∧ FrameEnd U_ o_ V_ L_ ({ frames := 0, cells := 0, slots := 0, locals := 0 } : Room).cells ({ frames := 0, cells := 0, slots := 0, locals := 0 } : Room).slots) := by
  refine MetFree.of_bodySF (Jvm.Free.JP.mathPlain rfl (by decide +kernel)) hisR ?_
  intro p e s m args below meth c s₁ Bd hml0 hP hK
  obtain ⟨rfl, hZ, hh⟩ := hP
  have hx := Bd.exec
  have hby := Bd.bytes
  have hml : c.maxLocals = 2 := hml0
  have hown : s.vm.findClass "java/lang/Math" = some m.cls := findClass_of_methodNamed Bd.named
  have hnm := (name_of_methodNamed Bd.named Bd.method).1
  have X0 : Stand p l e ({ frames := 0, cells := 0, slots := 0, locals := 0 } : Room) s m #[(.int x), (.int y)] below meth c s₁ [] 0 0 := Stand.of_body Bd
  have e0 : s₁.heap = h0 := by rw [← hh, Bd.state]; rfl
  have N0 := Fr.nil n0
  have pre0 : ∀ t_, Go p e below s₁ (mkF m 0 #[iv x, iv y] []) t_ → Go p e below s₁ (entryFrame m #[(.int x), (.int y)] 2) t_ := fun t_ kt => castTop (ef_3 m x y) kt
  have pre1 : ∀ t_, Go p e below s₁ (mkF m 2 #[iv x, iv y] [(.int y), (.int x)]) t_ → Go p e below s₁ (entryFrame m #[(.int x), (.int y)] 2) t_ := fun t_ kt => pre0 _ (by
      show Go p e below s₁ (mkF m 0 #[iv x, iv y] []) _
      refine XS.iloadN X0.here hx rfl (hb hby d3_0) rfl ?_
      show Go p e below s₁ (mkF m 1 #[iv x, iv y] [(.int x)]) _
      refine XS.iloadN X0.here hx rfl (hb hby d3_1) rfl ?_
      show Go p e below s₁ (mkF m 2 #[iv x, iv y] [(.int y), (.int x)]) _
      exact kt)
  by_cases hc2_2 : y < x
  · have pre3 : ∀ t_, Go p e below s₁ (mkF m 10 #[iv x, iv y] [(.int y)]) t_ → Go p e below s₁ (entryFrame m #[(.int x), (.int y)] 2) t_ := fun t_ kt => pre1 _ (by
        show Go p e below s₁ (mkF m 2 #[iv x, iv y] [(.int y), (.int x)]) _
        refine XS.icmpYes X0.here hx rfl (pc0 := 2) (pc' := 9) rfl (hb hby d3_2) rfl (tlt hc2_2).2.2.1 (by decide) (by decide) ?_
        show Go p e below s₁ (mkF m 9 #[iv x, iv y] []) _
        refine XS.iloadN X0.here hx rfl (hb hby d3_9) rfl ?_
        show Go p e below s₁ (mkF m 10 #[iv x, iv y] [(.int y)]) _
        exact kt)
    obtain ⟨fs, hr, hrun, hended, hW, hsame⟩ := X0.leave (v := some (.int y)) (fun h => by rw [Bd.returns] at h; cases h)
    refine ⟨_, _, pre3 _ ?_, hrun, hended, _, _, rfl, ?_, ⟨_, rfl⟩, hW, hsame.mono (by decide) (by decide)⟩
    · show Steps p.tables e below (s₁.setTop (mkF m 10 #[iv x, iv y] [(.int y)])) _
      exact retI X0 hx Bd.returns (hb hby d3_10) hr
    · show Q_rmMin Z x y h0 n0 _ s₁.heap _
      rw [e0]
      exact ⟨by simp [hc2_2], N0, rfl⟩
  · have pre4 : ∀ t_, Go p e below s₁ (mkF m 10 #[iv x, iv y] [(.int x)]) t_ → Go p e below s₁ (entryFrame m #[(.int x), (.int y)] 2) t_ := fun t_ kt => pre1 _ (by
        show Go p e below s₁ (mkF m 2 #[iv x, iv y] [(.int y), (.int x)]) _
        refine XS.icmpNo X0.here hx rfl (hb hby d3_2) rfl (flt hc2_2).2.2.1 ?_
        show Go p e below s₁ (mkF m 5 #[iv x, iv y] []) _
        refine XS.iloadN X0.here hx rfl (hb hby d3_5) rfl ?_
        show Go p e below s₁ (mkF m 6 #[iv x, iv y] [(.int x)]) _
        refine XS.goto X0.here hx rfl (pc0 := 6) (pc' := 10) rfl (hb hby d3_6) (by decide) (by decide) ?_
        show Go p e below s₁ (mkF m 10 #[iv x, iv y] [(.int x)]) _
        exact kt)
    obtain ⟨fs, hr, hrun, hended, hW, hsame⟩ := X0.leave (v := some (.int x)) (fun h => by rw [Bd.returns] at h; cases h)
    refine ⟨_, _, pre4 _ ?_, hrun, hended, _, _, rfl, ?_, ⟨_, rfl⟩, hW, hsame.mono (by decide) (by decide)⟩
    · show Steps p.tables e below (s₁.setTop (mkF m 10 #[iv x, iv y] [(.int x)])) _
      exact retI X0 hx Bd.returns (hb hby d3_10) hr
    · show Q_rmMin Z x y h0 n0 _ s₁.heap _
      rw [e0]
      exact ⟨by simp [hc2_2], N0, rfl⟩
theorem ef_5 (m : MethodId) (x0 : Int32) (x1 : Int32) : entryFrame m #[(.int x0), (.int x1)] 2 = mkF m 0 #[.val (.int x0), .val (.int x1)] [] := by first | (simp [entryFrame, mkF, argsToLocals, Value.category]; done) | rfl
theorem d5_0 : decode jdk_29_method_65_code 0 = .ok (.iload_n 0, 1) := by decide +kernel
theorem d5_1 : decode jdk_29_method_65_code 1 = .ok (.iload_n 1, 1) := by decide +kernel
theorem d5_2 : decode jdk_29_method_65_code 2 = .ok (.if_icmp .lt 7, 3) := by decide +kernel
theorem d5_9 : decode jdk_29_method_65_code 9 = .ok (.iload_n 1, 1) := by decide +kernel
theorem d5_10 : decode jdk_29_method_65_code 10 = .ok (.ireturn, 1) := by decide +kernel
theorem d5_5 : decode jdk_29_method_65_code 5 = .ok (.iload_n 0, 1) := by decide +kernel
theorem d5_6 : decode jdk_29_method_65_code 6 = .ok (.goto 4, 3) := by decide +kernel
def Q_rmMax (Z : State) (x : Int32) (y : Int32) (h0 : Heap) (n0 : Nat) (v : Option Value) (h : Heap) (L : List Loc) : Prop := v = some (.int (if x < y then y else x)) ∧ Fr n0 L ∧ h = h0
set_option maxRecDepth 65536 in
set_option maxHeartbeats 40000000 in
theorem rmMax (l : Launch) (Z : State) (a0 : Array Value) (hw : ∀ d ∈ tables_1, d.before a0 Z = true) (ws : List Jvm.Cond) (x : Int32) (y : Int32) (h0 : Heap) (n0 : Nat) (Z0 : n0 ≤ h0.size) :
    MetFree l (⟨"java/lang/Math", "max", "(II)I"⟩ : MethodName) (head1 (Jvm.Cond.code (⟨"java/lang/Math", "max", "(II)I"⟩ : MethodName) jdk_29_method_65_code 2 (some .int) :: ws) ({ frames := 0, cells := 0, slots := 0, locals := 0 } : Room)) (fun av_ U_ => av_ = #[(.int x), (.int y)] ∧ Z.Warmed39 U_.vm ∧ U_.heap = h0) (fun _ _ _ _ _ => True) (fun _ U_ o_ V_ => ∃ v_ L_, o_ = .returned v_ ∧ Q_rmMax Z x y h0 n0 v_ V_.heap L_ ∧ FrameEnd U_ o_ V_ L_ ({ frames := 0, cells := 0, slots := 0, locals := 0 } : Room).cells ({ frames := 0, cells := 0, slots := 0, locals := 0 } : Room).slots) := by
  refine MetFree.of_bodySF (Jvm.Free.JP.mathPlain rfl (by decide +kernel)) hisR ?_
  intro p e s m args below meth c s₁ Bd hml0 hP hK
  obtain ⟨rfl, hZ, hh⟩ := hP
  have hx := Bd.exec
  have hby := Bd.bytes
  have hml : c.maxLocals = 2 := hml0
  have hown : s.vm.findClass "java/lang/Math" = some m.cls := findClass_of_methodNamed Bd.named
  have hnm := (name_of_methodNamed Bd.named Bd.method).1
  have X0 : Stand p l e ({ frames := 0, cells := 0, slots := 0, locals := 0 } : Room) s m #[(.int x), (.int y)] below meth c s₁ [] 0 0 := Stand.of_body Bd
  have e0 : s₁.heap = h0 := by rw [← hh, Bd.state]; rfl
  have N0 := Fr.nil n0
  have pre0 : ∀ t_, Go p e below s₁ (mkF m 0 #[iv x, iv y] []) t_ → Go p e below s₁ (entryFrame m #[(.int x), (.int y)] 2) t_ := fun t_ kt => castTop (ef_5 m x y) kt
  have pre1 : ∀ t_, Go p e below s₁ (mkF m 2 #[iv x, iv y] [(.int y), (.int x)]) t_ → Go p e below s₁ (entryFrame m #[(.int x), (.int y)] 2) t_ := fun t_ kt => pre0 _ (by
      show Go p e below s₁ (mkF m 0 #[iv x, iv y] []) _
      refine XS.iloadN X0.here hx rfl (hb hby d5_0) rfl ?_
      show Go p e below s₁ (mkF m 1 #[iv x, iv y] [(.int x)]) _
      refine XS.iloadN X0.here hx rfl (hb hby d5_1) rfl ?_
      show Go p e below s₁ (mkF m 2 #[iv x, iv y] [(.int y), (.int x)]) _
      exact kt)
  by_cases hc2_2 : x < y
  · have pre3 : ∀ t_, Go p e below s₁ (mkF m 10 #[iv x, iv y] [(.int y)]) t_ → Go p e below s₁ (entryFrame m #[(.int x), (.int y)] 2) t_ := fun t_ kt => pre1 _ (by
        show Go p e below s₁ (mkF m 2 #[iv x, iv y] [(.int y), (.int x)]) _
        refine XS.icmpYes X0.here hx rfl (pc0 := 2) (pc' := 9) rfl (hb hby d5_2) rfl (tlt hc2_2).1 (by decide) (by decide) ?_
        show Go p e below s₁ (mkF m 9 #[iv x, iv y] []) _
        refine XS.iloadN X0.here hx rfl (hb hby d5_9) rfl ?_
        show Go p e below s₁ (mkF m 10 #[iv x, iv y] [(.int y)]) _
        exact kt)
    obtain ⟨fs, hr, hrun, hended, hW, hsame⟩ := X0.leave (v := some (.int y)) (fun h => by rw [Bd.returns] at h; cases h)
    refine ⟨_, _, pre3 _ ?_, hrun, hended, _, _, rfl, ?_, ⟨_, rfl⟩, hW, hsame.mono (by decide) (by decide)⟩
    · show Steps p.tables e below (s₁.setTop (mkF m 10 #[iv x, iv y] [(.int y)])) _
      exact retI X0 hx Bd.returns (hb hby d5_10) hr
    · show Q_rmMax Z x y h0 n0 _ s₁.heap _
      rw [e0]
      exact ⟨by simp [hc2_2], N0, rfl⟩
  · have pre4 : ∀ t_, Go p e below s₁ (mkF m 10 #[iv x, iv y] [(.int x)]) t_ → Go p e below s₁ (entryFrame m #[(.int x), (.int y)] 2) t_ := fun t_ kt => pre1 _ (by
        show Go p e below s₁ (mkF m 2 #[iv x, iv y] [(.int y), (.int x)]) _
        refine XS.icmpNo X0.here hx rfl (hb hby d5_2) rfl (flt hc2_2).1 ?_
        show Go p e below s₁ (mkF m 5 #[iv x, iv y] []) _
        refine XS.iloadN X0.here hx rfl (hb hby d5_5) rfl ?_
        show Go p e below s₁ (mkF m 6 #[iv x, iv y] [(.int x)]) _
        refine XS.goto X0.here hx rfl (pc0 := 6) (pc' := 10) rfl (hb hby d5_6) (by decide) (by decide) ?_
        show Go p e below s₁ (mkF m 10 #[iv x, iv y] [(.int x)]) _
        exact kt)
    obtain ⟨fs, hr, hrun, hended, hW, hsame⟩ := X0.leave (v := some (.int x)) (fun h => by rw [Bd.returns] at h; cases h)
    refine ⟨_, _, pre4 _ ?_, hrun, hended, _, _, rfl, ?_, ⟨_, rfl⟩, hW, hsame.mono (by decide) (by decide)⟩
    · show Steps p.tables e below (s₁.setTop (mkF m 10 #[iv x, iv y] [(.int x)])) _
      exact retI X0 hx Bd.returns (hb hby d5_10) hr
    · show Q_rmMax Z x y h0 n0 _ s₁.heap _
      rw [e0]
      exact ⟨by simp [hc2_2], N0, rfl⟩
theorem ef_8 (m : MethodId) (x0 : Addr) (x1 : Addr) : entryFrame m #[(.ref x0), (.ref x1)] 4 = mkF m 0 #[.val (.ref x0), .val (.ref x1), .unset, .unset] [] := by first | (simp [entryFrame, mkF, argsToLocals, Value.category]; done) | rfl
theorem d8_0 : decode prog_78_method_2_code 0 = .ok (.aload_n 0, 1) := by decide +kernel
theorem d8_1 : decode prog_78_method_2_code 1 = .ok (.getfield 15, 3) := by decide +kernel
theorem d8_4 : decode prog_78_method_2_code 4 = .ok (.ifCond .eq 13, 3) := by decide +kernel
theorem d8_17 : decode prog_78_method_2_code 17 = .ok (.aload_n 0, 1) := by decide +kernel
theorem d8_18 : decode prog_78_method_2_code 18 = .ok (.invokevirtual 26, 3) := by decide +kernel
theorem pd_3 : parseMethodDescriptor "()I" = some ⟨[], some .int⟩ := by decide +kernel
theorem d8_21 : decode prog_78_method_2_code 21 = .ok (.ldc 32, 2) := by decide +kernel
theorem d8_23 : decode prog_78_method_2_code 23 = .ok (.if_icmp .ne 13, 3) := by decide +kernel
theorem d8_36 : decode prog_78_method_2_code 36 = .ok (.aload_n 0, 1) := by decide +kernel
theorem d8_37 : decode prog_78_method_2_code 37 = .ok (.getfield 35, 3) := by decide +kernel
theorem d8_40 : decode prog_78_method_2_code 40 = .ok (.aload_n 0, 1) := by decide +kernel
theorem d8_41 : decode prog_78_method_2_code 41 = .ok (.getfield 11, 3) := by decide +kernel
theorem d8_44 : decode prog_78_method_2_code 44 = .ok (.arraylength, 1) := by decide +kernel
theorem d8_45 : decode prog_78_method_2_code 45 = .ok (.if_icmp .ne 62, 3) := by decide +kernel
theorem d8_107 : decode prog_78_method_2_code 107 = .ok (.aload_n 0, 1) := by decide +kernel
theorem d8_108 : decode prog_78_method_2_code 108 = .ok (.getfield 11, 3) := by decide +kernel
theorem d8_111 : decode prog_78_method_2_code 111 = .ok (.aload_n 0, 1) := by decide +kernel
theorem d8_112 : decode prog_78_method_2_code 112 = .ok (.getfield 39, 3) := by decide +kernel
theorem d8_115 : decode prog_78_method_2_code 115 = .ok (.aload_n 0, 1) := by decide +kernel
theorem d8_116 : decode prog_78_method_2_code 116 = .ok (.getfield 35, 3) := by decide +kernel
theorem d8_119 : decode prog_78_method_2_code 119 = .ok (.iadd, 1) := by decide +kernel
theorem d8_120 : decode prog_78_method_2_code 120 = .ok (.aload_n 0, 1) := by decide +kernel
theorem d8_121 : decode prog_78_method_2_code 121 = .ok (.getfield 11, 3) := by decide +kernel
theorem d8_124 : decode prog_78_method_2_code 124 = .ok (.arraylength, 1) := by decide +kernel
theorem d8_125 : decode prog_78_method_2_code 125 = .ok (.iconst 1, 1) := by decide +kernel
theorem d8_126 : decode prog_78_method_2_code 126 = .ok (.isub, 1) := by decide +kernel
theorem d8_127 : decode prog_78_method_2_code 127 = .ok (.iand, 1) := by decide +kernel
theorem d8_128 : decode prog_78_method_2_code 128 = .ok (.aload_n 1, 1) := by decide +kernel
theorem d8_129 : decode prog_78_method_2_code 129 = .ok (.aastore, 1) := by decide +kernel
theorem d8_130 : decode prog_78_method_2_code 130 = .ok (.aload_n 0, 1) := by decide +kernel
theorem d8_131 : decode prog_78_method_2_code 131 = .ok (.dup, 1) := by decide +kernel
theorem d8_132 : decode prog_78_method_2_code 132 = .ok (.getfield 35, 3) := by decide +kernel
theorem d8_135 : decode prog_78_method_2_code 135 = .ok (.iconst 1, 1) := by decide +kernel
theorem d8_136 : decode prog_78_method_2_code 136 = .ok (.iadd, 1) := by decide +kernel
theorem d8_137 : decode prog_78_method_2_code 137 = .ok (.putfield 35, 3) := by decide +kernel
theorem d8_140 : decode prog_78_method_2_code 140 = .ok (.return_, 1) := by decide +kernel
def Q_rmA0 (Z : State) (a : Addr) (r : Addr) (rg : Addr) (kr : ClassId) (u0 : Value) (u1 : Value) (u2 : Value) (h0 : Heap) (n0 : Nat) (v : Option Value) (h : Heap) (L : List Loc) : Prop := v = none ∧ Fr n0 L ∧ Keep h0 h [a, rg] ∧ Rg Z h a rg kr (0 : Int32) (1 : Int32) (.ref r) u1 u2
set_option maxRecDepth 65536 in
set_option maxHeartbeats 40000000 in
theorem rmA0 (l : Launch) (Z : State) (a0 : Array Value) (hw : ∀ d ∈ tables_1, d.before a0 Z = true) (ws : List Jvm.Cond) (a : Addr) (r : Addr) (rg : Addr) (kr : ClassId) (u0 : Value) (u1 : Value) (u2 : Value) (h0 : Heap) (n0 : Nat) (Z0 : n0 ≤ h0.size) (hR : Rg Z h0 a rg kr (0 : Int32) (0 : Int32) u0 u1 u2) (E_r : Exa Z h0 r "[Ljava/lang/Object;") (g_a : n0 ≤ a) (g_r : n0 ≤ rg) :
    MetFree l (⟨"com/example/rowmotif/rowmotif/matcher/PartitionRows", "add", "([Ljava/lang/Object;)V"⟩ : MethodName) (head1 (Jvm.Cond.code (⟨"com/example/rowmotif/rowmotif/matcher/PartitionRows", "add", "([Ljava/lang/Object;)V"⟩ : MethodName) prog_78_method_2_code 4 none :: ws) ({ frames := 1, cells := 0, slots := 0, locals := 12 } : Room)) (fun av_ U_ => av_ = #[(.ref a), (.ref r)] ∧ Z.Warmed39 U_.vm ∧ U_.heap = h0) (fun _ _ _ _ _ => True) (fun _ U_ o_ V_ => ∃ v_ L_, o_ = .returned v_ ∧ Q_rmA0 Z a r rg kr u0 u1 u2 h0 n0 v_ V_.heap L_ ∧ FrameEnd U_ o_ V_ L_ ({ frames := 1, cells := 0, slots := 0, locals := 12 } : Room).cells ({ frames := 1, cells := 0, slots := 0, locals := 12 } : Room).slots) := by
  refine MetFree.of_bodySF (plainFor_of_name pn_com_example_rowmotif_rowmotif_matcher_PartitionRows) hisR ?_
  intro p e s m args below meth c s₁ Bd hml0 hP hK
  obtain ⟨rfl, hZ, hh⟩ := hP
  have hx := Bd.exec
  have hby := Bd.bytes
  have hml : c.maxLocals = 4 := hml0
  have hown : s.vm.findClass "com/example/rowmotif/rowmotif/matcher/PartitionRows" = some m.cls := findClass_of_methodNamed Bd.named
  have hnm := (name_of_methodNamed Bd.named Bd.method).1
  have X0 : Stand p l e ({ frames := 1, cells := 0, slots := 0, locals := 12 } : Room) s m #[(.ref a), (.ref r)] below meth c s₁ [] 0 0 := Stand.of_body Bd
  have e0 : s₁.heap = h0 := by rw [← hh, Bd.state]; rfl
  have N0 := Fr.nil n0
  have pre0 : ∀ t_, Go p e below s₁ (mkF m 0 #[rv a, rv r, .unset, .unset] []) t_ → Go p e below s₁ (entryFrame m #[(.ref a), (.ref r)] 4) t_ := fun t_ kt => castTop (ef_8 m a r) kt
  obtain ⟨E_a, F_ring, F_head, F_count, F_first, F_complete, V_r, O_r, n_ar⟩ := hR
  obtain ⟨T1, X1, e1, st1⟩ := getF X0 hx hZ hown (host := "") (Or.inl (hwi hw 46 rfl)) Via.refl e0 F_complete (g := (mkF m 1 #[rv a, rv r, .unset, .unset] [(.ref a)])) rfl rfl (hb hby d8_1)
  obtain ⟨cq2, kq2, q2a, q2b, q2c⟩ := isOf hZ e1 E_a
  obtain ⟨_, _, ⟨T2, L2, k2, n2⟩, -, X2, ⟨Lc2, hQ2, l2, y2, z2⟩, st2⟩ := X1.virtualBack hx (y := (⟨"com/example/rowmotif/rowmotif/matcher/PartitionRows", "size", "()I"⟩ : MethodName)) (z := (⟨"com/example/rowmotif/rowmotif/matcher/PartitionRows", "size", "()I"⟩ : MethodName)) hown (mvT hZ (hwi hw 48 rfl)) (mvT hZ (hwi hw 30 rfl)) (notFace_of_selects (args := #[]) (mvT hZ (hwi hw 32 rfl))) (mvT hZ (hwi hw 32 rfl)) (mvT hZ (hwi hw 31 rfl)) (by decide) (backOf (W := 0) (rmZ l Z a0 hw [] a (0 : Int32) (0 : Int32) h0 n0 (Nat.le_trans Z0 (Keep.refl h0 [a, rg]).1) F_first F_count) hZ (hwi hw 33 rfl) (hwi hw 4 rfl) (by decide) (by decide)) q2a q2c (g := (mkF m 18 #[rv a, rv r, .unset, .unset] [(.ref a)])) rfl (by rw [hml]; rfl) (Steps.refl _) (argsL := []) (rest := []) (lenOf pd_3 rfl) rfl (by show 2 * 0 + _ ≤ _; exact Nat.le_of_eq rfl) (hb hby d8_18) (fun _ _ => ⟨rfl, e1, (by decide : 0 + 0 ≤ _), (by decide : 0 + 0 ≤ _)⟩)
  dsimp only [Pt.U, Pt.locs, Pt.cells, Pt.slots] at X2 l2 y2 z2 st2 hQ2
  subst l2 y2 z2
  obtain ⟨hv2, N2q, e2q⟩ := hQ2
  have N2 := Fr.app N0 N2q
  rw [show ((0 : Int32) + (0 : Int32)) = (0 : Int32) from by decide] at hv2
  subst hv2
  obtain ⟨T3, X3, e3, st3⟩ := getF X2 hx hZ hown (host := "") (Or.inl (hwi hw 34 rfl)) Via.refl e2q F_count (g := (mkF m 37 #[rv a, rv r, .unset, .unset] [(.ref a)])) rfl rfl (hb hby d8_37)
  obtain ⟨T4, X4, e4, st4⟩ := getF X3 hx hZ hown (host := "") (Or.inl (hwi hw 13 rfl)) Via.refl e3 F_ring (g := (mkF m 41 #[rv a, rv r, .unset, .unset] [(.ref a), (.int 0)])) rfl rfl (hb hby d8_41)
  obtain ⟨cl5, Ar5, qa5, Sa5, Na5, Ha5, Ga5⟩ := V_r
  have V5 : Arv Z h0 rg kr (.array (.object "java/lang/Object")) (16 : Int32) [u0, u1, u2] .null := ⟨cl5, Ar5, qa5, Sa5, Na5, Ha5, Ga5⟩
  obtain ⟨T6, X6, e6, st6⟩ := getF X4 hx hZ hown (host := "") (Or.inl (hwi hw 13 rfl)) Via.refl e4 F_ring (g := (mkF m 108 #[rv a, rv r, .unset, .unset] [(.ref a)])) rfl rfl (hb hby d8_108)
  obtain ⟨T7, X7, e7, st7⟩ := getF X6 hx hZ hown (host := "") (Or.inl (hwi hw 50 rfl)) Via.refl e6 F_head (g := (mkF m 112 #[rv a, rv r, .unset, .unset] [(.ref a), (.ref rg)])) rfl rfl (hb hby d8_112)
  obtain ⟨T8, X8, e8, st8⟩ := getF X7 hx hZ hown (host := "") (Or.inl (hwi hw 34 rfl)) Via.refl e7 F_count (g := (mkF m 116 #[rv a, rv r, .unset, .unset] [(.ref a), (.int 0), (.ref rg)])) rfl rfl (hb hby d8_116)
  obtain ⟨T9, X9, e9, st9⟩ := getF X8 hx hZ hown (host := "") (Or.inl (hwi hw 13 rfl)) Via.refl e8 F_ring (g := (mkF m 121 #[rv a, rv r, .unset, .unset] [(.ref a), (.int 0), (.ref rg)])) rfl rfl (hb hby d8_121)
  obtain ⟨cl10, Ar10, qa10, Sa10, Na10, Ha10, Ga10⟩ := V5
  have V10 : Arv Z h0 rg kr (.array (.object "java/lang/Object")) (16 : Int32) [u0, u1, u2] .null := ⟨cl10, Ar10, qa10, Sa10, Na10, Ha10, Ga10⟩
  obtain ⟨cl11, Ar11, qa11, Sa11, Na11, Ha11, Ga11⟩ := V10
  have hin11 : ¬ ((0 : Int32) < 0 ∨ cl11.slots.size ≤ ((0 : Int32)).toNatClampNeg) := inb_of Sa11 ⟨by decide, by decide⟩
  obtain ⟨T12, h12, X12, e12, W12, st12⟩ := stR X9 hx hZ e9 Ar11 (j := (0 : Int32)) hin11 rfl (Sto.ofVA Ar11 qa11 O_r (Ins.self E_r)) (g := (mkF m 129 #[rv a, rv r, .unset, .unset] [(.ref r), (.int 0), (.ref rg)])) rfl rfl (hb hby d8_129)
  have f13 := E_a.wr W12
  have f14 := F_ring.other W12 (Or.inl n_ar)
  have f15 := F_head.other W12 (Or.inl n_ar)
  have f16 := F_count.other W12 (Or.inl n_ar)
  have f17 := F_first.other W12 (Or.inl n_ar)
  have f18 := F_complete.other W12 (Or.inl n_ar)
  have f20 := E_r.wr W12
  have K12 : Keep h0 h12 [a, rg] := (Keep.refl h0 [a, rg]).wr W12 (Or.inl (List.mem_of_getElem? (i := 1) rfl))
  have N12 := Fr.snoc X12 N2 g_r
  have V12 : Arv Z h12 rg kr (.array (.object "java/lang/Object")) (16 : Int32) [(.ref r), u1, u2] .null := Arv.set Ar11 qa11 Sa11 Na11 Ha11 Ga11 rfl W12 0 rfl (Nat.le_of_ble_eq_true rfl)
  obtain ⟨T21, X21, e21, st21⟩ := getF X12 hx hZ hown (host := "") (Or.inl (hwi hw 34 rfl)) Via.refl e12 f16 (g := (mkF m 132 #[rv a, rv r, .unset, .unset] [(.ref a), (.ref a)])) rfl rfl (hb hby d8_132)
  obtain ⟨T22, h22, X22, e22, W22, st22⟩ := putF X21 hx hZ hown (host := "") (Or.inl (hwi hw 34 rfl)) Via.refl e21 f16 f13 (Or.inl (hwi hw 35 rfl)) (hwi hw 3 rfl) (ty := .int) (by decide) rfl rfl (g := (mkF m 137 #[rv a, rv r, .unset, .unset] [(.int 1), (.ref a)])) rfl rfl (hb hby d8_137)
  have f23 := f13.wr W22
  have f24 := f14.other W22 (Or.inr (slot_ne (Or.inl (hwi hw 14 rfl)) (Or.inl (hwi hw 35 rfl)) (by decide) (t := (.array (.array (.object "java/lang/Object")))) (t' := .int) (by decide) (by decide)))
  have f25 := f15.other W22 (Or.inr (slot_ne (Or.inl (hwi hw 51 rfl)) (Or.inl (hwi hw 35 rfl)) (by decide) (t := .int) (t' := .int) (by decide) (by decide)))
  have f27 := f17.other W22 (Or.inr (slot_ne (Or.inl (hwi hw 25 rfl)) (Or.inl (hwi hw 35 rfl)) (by decide) (t := .int) (t' := .int) (by decide) (by decide)))
  have f28 := f18.other W22 (Or.inr (slot_ne (Or.inl (hwi hw 47 rfl)) (Or.inl (hwi hw 35 rfl)) (by decide) (t := .boolean) (t' := .int) (by decide) (by decide)))
  have f29 := V12.other W22 (Ne.symm n_ar)
  have f30 := f20.wr W22
  have K22 : Keep h0 h22 [a, rg] := K12.wr W22 (Or.inl (List.mem_of_getElem? (i := 0) rfl))
  have N22 := Fr.snoc X22 N12 g_a
  have f31 : Fld Z h22 a "com/example/rowmotif/rowmotif/matcher/PartitionRows" "count" "I" (.int 1) := f16.same W22
  have pre32 : ∀ t_, Go p e below T22 (mkF m 140 #[rv a, rv r, .unset, .unset] []) t_ → Go p e below s₁ (entryFrame m #[(.ref a), (.ref r)] 4) t_ := fun t_ kt => pre0 _ (by
      show Go p e below s₁ (mkF m 0 #[rv a, rv r, .unset, .unset] []) _
      refine XS.aloadN X0.here hx rfl (hb hby d8_0) rfl rfl ?_
      show Go p e below s₁ (mkF m 1 #[rv a, rv r, .unset, .unset] [(.ref a)]) _
      refine st1 _ ?_
      show Go p e below T1 (mkF m 4 #[rv a, rv r, .unset, .unset] [(.int 0)]) _
      refine XS.ifYes X1.here hx rfl (pc0 := 4) (pc' := 17) rfl (hb hby d8_4) rfl ((if0 _ _).trans (teq ((by decide) : (0 : Int32) = (0 : Int32))).1) (by decide) (by decide) ?_
      show Go p e below T1 (mkF m 17 #[rv a, rv r, .unset, .unset] []) _
      refine XS.aloadN X1.here hx rfl (hb hby d8_17) rfl rfl ?_
      show Go p e below T1 (mkF m 18 #[rv a, rv r, .unset, .unset] [(.ref a)]) _
      refine st2.trans ?_
      show Go p e below T2 (mkF m 21 #[rv a, rv r, .unset, .unset] [(.int 0)]) _
      refine X2.ldcInt hx hown (mvT hZ (hwi hw 49 rfl)) (g := (mkF m 21 #[rv a, rv r, .unset, .unset] [(.int 0)])) rfl (hb hby d8_21) _ ?_
      show Go p e below T2 (mkF m 23 #[rv a, rv r, .unset, .unset] [(.int 2147483647), (.int 0)]) _
      refine XS.icmpYes X2.here hx rfl (pc0 := 23) (pc' := 36) rfl (hb hby d8_23) rfl (feq ((by decide) : ¬ ((0 : Int32) = (2147483647 : Int32)))).2 (by decide) (by decide) ?_
      show Go p e below T2 (mkF m 36 #[rv a, rv r, .unset, .unset] []) _
      refine XS.aloadN X2.here hx rfl (hb hby d8_36) rfl rfl ?_
      show Go p e below T2 (mkF m 37 #[rv a, rv r, .unset, .unset] [(.ref a)]) _
      refine st3 _ ?_
      show Go p e below T3 (mkF m 40 #[rv a, rv r, .unset, .unset] [(.int 0)]) _
      refine XS.aloadN X3.here hx rfl (hb hby d8_40) rfl rfl ?_
      show Go p e below T3 (mkF m 41 #[rv a, rv r, .unset, .unset] [(.ref a), (.int 0)]) _
      refine st4 _ ?_
      show Go p e below T4 (mkF m 44 #[rv a, rv r, .unset, .unset] [(.ref rg), (.int 0)]) _
      refine X4.arraylength hx (by rw [e4]; exact Ar5.1) (State.isArrayOf_alike hZ.alike Ar5.2.1) (g := (mkF m 44 #[rv a, rv r, .unset, .unset] [(.ref rg), (.int 0)])) rfl rfl (hb hby d8_44) _ ?_
      rw [len_of Sa5 Na5]
      show Go p e below T4 (mkF m 45 #[rv a, rv r, .unset, .unset] [(.int 16), (.int 0)]) _
      refine XS.icmpYes X4.here hx rfl (pc0 := 45) (pc' := 107) rfl (hb hby d8_45) rfl (feq ((by decide) : ¬ ((0 : Int32) = (16 : Int32)))).2 (by decide) (by decide) ?_
      show Go p e below T4 (mkF m 107 #[rv a, rv r, .unset, .unset] []) _
      refine XS.aloadN X4.here hx rfl (hb hby d8_107) rfl rfl ?_
      show Go p e below T4 (mkF m 108 #[rv a, rv r, .unset, .unset] [(.ref a)]) _
      refine st6 _ ?_
      show Go p e below T6 (mkF m 111 #[rv a, rv r, .unset, .unset] [(.ref rg)]) _
      refine XS.aloadN X6.here hx rfl (hb hby d8_111) rfl rfl ?_
      show Go p e below T6 (mkF m 112 #[rv a, rv r, .unset, .unset] [(.ref a), (.ref rg)]) _
      refine st7 _ ?_
      show Go p e below T7 (mkF m 115 #[rv a, rv r, .unset, .unset] [(.int 0), (.ref rg)]) _
      refine XS.aloadN X7.here hx rfl (hb hby d8_115) rfl rfl ?_
      show Go p e below T7 (mkF m 116 #[rv a, rv r, .unset, .unset] [(.ref a), (.int 0), (.ref rg)]) _
      refine st8 _ ?_
      show Go p e below T8 (mkF m 119 #[rv a, rv r, .unset, .unset] [(.int 0), (.int 0), (.ref rg)]) _
      refine XS.iadd X8.here hx rfl (hb hby d8_119) rfl ?_
      show Go p e below T8 (mkF m 120 #[rv a, rv r, .unset, .unset] [(.int 0), (.ref rg)]) _
      refine XS.aloadN X8.here hx rfl (hb hby d8_120) rfl rfl ?_
      show Go p e below T8 (mkF m 121 #[rv a, rv r, .unset, .unset] [(.ref a), (.int 0), (.ref rg)]) _
      refine st9 _ ?_
      show Go p e below T9 (mkF m 124 #[rv a, rv r, .unset, .unset] [(.ref rg), (.int 0), (.ref rg)]) _
      refine X9.arraylength hx (by rw [e9]; exact Ar10.1) (State.isArrayOf_alike hZ.alike Ar10.2.1) (g := (mkF m 124 #[rv a, rv r, .unset, .unset] [(.ref rg), (.int 0), (.ref rg)])) rfl rfl (hb hby d8_124) _ ?_
      rw [len_of Sa10 Na10]
      show Go p e below T9 (mkF m 125 #[rv a, rv r, .unset, .unset] [(.int 16), (.int 0), (.ref rg)]) _
      refine XS.iconst X9.here hx rfl (hb hby d8_125) ?_
      show Go p e below T9 (mkF m 126 #[rv a, rv r, .unset, .unset] [(.int 1), (.int 16), (.int 0), (.ref rg)]) _
      refine XS.isub X9.here hx rfl (hb hby d8_126) rfl ?_
      show Go p e below T9 (mkF m 127 #[rv a, rv r, .unset, .unset] [(.int 15), (.int 0), (.ref rg)]) _
      refine XS.iand X9.here hx rfl (hb hby d8_127) rfl ?_
      show Go p e below T9 (mkF m 128 #[rv a, rv r, .unset, .unset] [(.int 0), (.ref rg)]) _
      refine XS.aloadN X9.here hx rfl (hb hby d8_128) rfl rfl ?_
      show Go p e below T9 (mkF m 129 #[rv a, rv r, .unset, .unset] [(.ref r), (.int 0), (.ref rg)]) _
      refine st12 _ ?_
      show Go p e below T12 (mkF m 130 #[rv a, rv r, .unset, .unset] []) _
      refine XS.aloadN X12.here hx rfl (hb hby d8_130) rfl rfl ?_
      show Go p e below T12 (mkF m 131 #[rv a, rv r, .unset, .unset] [(.ref a)]) _
      refine XS.dup X12.here hx rfl (hb hby d8_131) rfl rfl ?_
      show Go p e below T12 (mkF m 132 #[rv a, rv r, .unset, .unset] [(.ref a), (.ref a)]) _
      refine st21 _ ?_
      show Go p e below T21 (mkF m 135 #[rv a, rv r, .unset, .unset] [(.int 0), (.ref a)]) _
      refine XS.iconst X21.here hx rfl (hb hby d8_135) ?_
      show Go p e below T21 (mkF m 136 #[rv a, rv r, .unset, .unset] [(.int 1), (.int 0), (.ref a)]) _
      refine XS.iadd X21.here hx rfl (hb hby d8_136) rfl ?_
      show Go p e below T21 (mkF m 137 #[rv a, rv r, .unset, .unset] [(.int 1), (.ref a)]) _
      refine st22 _ ?_
      show Go p e below T22 (mkF m 140 #[rv a, rv r, .unset, .unset] []) _
      exact kt)
  obtain ⟨fs, hr, hrun, hended, hW, hsame⟩ := X22.leave (v := none) (fun _ => rfl)
  refine ⟨_, _, pre32 _ ?_, hrun, hended, _, _, rfl, ?_, ⟨_, rfl⟩, hW, hsame.mono (by decide) (by decide)⟩
  · show Steps p.tables e below (T22.setTop (mkF m 140 #[rv a, rv r, .unset, .unset] [])) _
    exact X22.returnOut hx Bd.returns (hb hby d8_140) hr
  · show Q_rmA0 Z a r rg kr u0 u1 u2 h0 n0 _ T22.heap _
    rw [e22]
    exact ⟨rfl, N22, K22, ⟨f23, f24, f25, f31, f27, f28, f29, O_r, n_ar⟩⟩
def Q_rmA1 (Z : State) (a : Addr) (r : Addr) (rg : Addr) (kr : ClassId) (u0 : Value) (u1 : Value) (u2 : Value) (h0 : Heap) (n0 : Nat) (v : Option Value) (h : Heap) (L : List Loc) : Prop := v = none ∧ Fr n0 L ∧ Keep h0 h [a, rg] ∧ Rg Z h a rg kr (0 : Int32) (2 : Int32) u0 (.ref r) u2
set_option maxRecDepth 65536 in
set_option maxHeartbeats 40000000 in
theorem rmA1 (l : Launch) (Z : State) (a0 : Array Value) (hw : ∀ d ∈ tables_1, d.before a0 Z = true) (ws : List Jvm.Cond) (a : Addr) (r : Addr) (rg : Addr) (kr : ClassId) (u0 : Value) (u1 : Value) (u2 : Value) (h0 : Heap) (n0 : Nat) (Z0 : n0 ≤ h0.size) (hR : Rg Z h0 a rg kr (0 : Int32) (1 : Int32) u0 u1 u2) (E_r : Exa Z h0 r "[Ljava/lang/Object;") (g_a : n0 ≤ a) (g_r : n0 ≤ rg) :
    MetFree l (⟨"com/example/rowmotif/rowmotif/matcher/PartitionRows", "add", "([Ljava/lang/Object;)V"⟩ : MethodName) (head1 (Jvm.Cond.code (⟨"com/example/rowmotif/rowmotif/matcher/PartitionRows", "add", "([Ljava/lang/Object;)V"⟩ : MethodName) prog_78_method_2_code 4 none :: ws) ({ frames := 1, cells := 0, slots := 0, locals := 12 } : Room)) (fun av_ U_ => av_ = #[(.ref a), (.ref r)] ∧ Z.Warmed39 U_.vm ∧ U_.heap = h0) (fun _ _ _ _ _ => True) (fun _ U_ o_ V_ => ∃ v_ L_, o_ = .returned v_ ∧ Q_rmA1 Z a r rg kr u0 u1 u2 h0 n0 v_ V_.heap L_ ∧ FrameEnd U_ o_ V_ L_ ({ frames := 1, cells := 0, slots := 0, locals := 12 } : Room).cells ({ frames := 1, cells := 0, slots := 0, locals := 12 } : Room).slots) := by
  refine MetFree.of_bodySF (plainFor_of_name pn_com_example_rowmotif_rowmotif_matcher_PartitionRows) hisR ?_
  intro p e s m args below meth c s₁ Bd hml0 hP hK
  obtain ⟨rfl, hZ, hh⟩ := hP
  have hx := Bd.exec
  have hby := Bd.bytes
  have hml : c.maxLocals = 4 := hml0
  have hown : s.vm.findClass "com/example/rowmotif/rowmotif/matcher/PartitionRows" = some m.cls := findClass_of_methodNamed Bd.named
  have hnm := (name_of_methodNamed Bd.named Bd.method).1
  have X0 : Stand p l e ({ frames := 1, cells := 0, slots := 0, locals := 12 } : Room) s m #[(.ref a), (.ref r)] below meth c s₁ [] 0 0 := Stand.of_body Bd
  have e0 : s₁.heap = h0 := by rw [← hh, Bd.state]; rfl
  have N0 := Fr.nil n0
  have pre0 : ∀ t_, Go p e below s₁ (mkF m 0 #[rv a, rv r, .unset, .unset] []) t_ → Go p e below s₁ (entryFrame m #[(.ref a), (.ref r)] 4) t_ := fun t_ kt => castTop (ef_8 m a r) kt
  obtain ⟨E_a, F_ring, F_head, F_count, F_first, F_complete, V_r, O_r, n_ar⟩ := hR
  obtain ⟨T1, X1, e1, st1⟩ := getF X0 hx hZ hown (host := "") (Or.inl (hwi hw 46 rfl)) Via.refl e0 F_complete (g := (mkF m 1 #[rv a, rv r, .unset, .unset] [(.ref a)])) rfl rfl (hb hby d8_1)
  obtain ⟨cq2, kq2, q2a, q2b, q2c⟩ := isOf hZ e1 E_a
  obtain ⟨_, _, ⟨T2, L2, k2, n2⟩, -, X2, ⟨Lc2, hQ2, l2, y2, z2⟩, st2⟩ := X1.virtualBack hx (y := (⟨"com/example/rowmotif/rowmotif/matcher/PartitionRows", "size", "()I"⟩ : MethodName)) (z := (⟨"com/example/rowmotif/rowmotif/matcher/PartitionRows", "size", "()I"⟩ : MethodName)) hown (mvT hZ (hwi hw 48 rfl)) (mvT hZ (hwi hw 30 rfl)) (notFace_of_selects (args := #[]) (mvT hZ (hwi hw 32 rfl))) (mvT hZ (hwi hw 32 rfl)) (mvT hZ (hwi hw 31 rfl)) (by decide) (backOf (W := 0) (rmZ l Z a0 hw [] a (0 : Int32) (1 : Int32) h0 n0 (Nat.le_trans Z0 (Keep.refl h0 [a, rg]).1) F_first F_count) hZ (hwi hw 33 rfl) (hwi hw 4 rfl) (by decide) (by decide)) q2a q2c (g := (mkF m 18 #[rv a, rv r, .unset, .unset] [(.ref a)])) rfl (by rw [hml]; rfl) (Steps.refl _) (argsL := []) (rest := []) (lenOf pd_3 rfl) rfl (by show 2 * 0 + _ ≤ _; exact Nat.le_of_eq rfl) (hb hby d8_18) (fun _ _ => ⟨rfl, e1, (by decide : 0 + 0 ≤ _), (by decide : 0 + 0 ≤ _)⟩)
  dsimp only [Pt.U, Pt.locs, Pt.cells, Pt.slots] at X2 l2 y2 z2 st2 hQ2
  subst l2 y2 z2
  obtain ⟨hv2, N2q, e2q⟩ := hQ2
  have N2 := Fr.app N0 N2q
  rw [show ((0 : Int32) + (1 : Int32)) = (1 : Int32) from by decide] at hv2
  subst hv2
  obtain ⟨T3, X3, e3, st3⟩ := getF X2 hx hZ hown (host := "") (Or.inl (hwi hw 34 rfl)) Via.refl e2q F_count (g := (mkF m 37 #[rv a, rv r, .unset, .unset] [(.ref a)])) rfl rfl (hb hby d8_37)
  obtain ⟨T4, X4, e4, st4⟩ := getF X3 hx hZ hown (host := "") (Or.inl (hwi hw 13 rfl)) Via.refl e3 F_ring (g := (mkF m 41 #[rv a, rv r, .unset, .unset] [(.ref a), (.int 1)])) rfl rfl (hb hby d8_41)
  obtain ⟨cl5, Ar5, qa5, Sa5, Na5, Ha5, Ga5⟩ := V_r
  have V5 : Arv Z h0 rg kr (.array (.object "java/lang/Object")) (16 : Int32) [u0, u1, u2] .null := ⟨cl5, Ar5, qa5, Sa5, Na5, Ha5, Ga5⟩
  obtain ⟨T6, X6, e6, st6⟩ := getF X4 hx hZ hown (host := "") (Or.inl (hwi hw 13 rfl)) Via.refl e4 F_ring (g := (mkF m 108 #[rv a, rv r, .unset, .unset] [(.ref a)])) rfl rfl (hb hby d8_108)
  obtain ⟨T7, X7, e7, st7⟩ := getF X6 hx hZ hown (host := "") (Or.inl (hwi hw 50 rfl)) Via.refl e6 F_head (g := (mkF m 112 #[rv a, rv r, .unset, .unset] [(.ref a), (.ref rg)])) rfl rfl (hb hby d8_112)
  obtain ⟨T8, X8, e8, st8⟩ := getF X7 hx hZ hown (host := "") (Or.inl (hwi hw 34 rfl)) Via.refl e7 F_count (g := (mkF m 116 #[rv a, rv r, .unset, .unset] [(.ref a), (.int 0), (.ref rg)])) rfl rfl (hb hby d8_116)
  obtain ⟨T9, X9, e9, st9⟩ := getF X8 hx hZ hown (host := "") (Or.inl (hwi hw 13 rfl)) Via.refl e8 F_ring (g := (mkF m 121 #[rv a, rv r, .unset, .unset] [(.ref a), (.int 1), (.ref rg)])) rfl rfl (hb hby d8_121)
  obtain ⟨cl10, Ar10, qa10, Sa10, Na10, Ha10, Ga10⟩ := V5
  have V10 : Arv Z h0 rg kr (.array (.object "java/lang/Object")) (16 : Int32) [u0, u1, u2] .null := ⟨cl10, Ar10, qa10, Sa10, Na10, Ha10, Ga10⟩
  obtain ⟨cl11, Ar11, qa11, Sa11, Na11, Ha11, Ga11⟩ := V10
  have hin11 : ¬ ((1 : Int32) < 0 ∨ cl11.slots.size ≤ ((1 : Int32)).toNatClampNeg) := inb_of Sa11 ⟨by decide, by decide⟩
  obtain ⟨T12, h12, X12, e12, W12, st12⟩ := stR X9 hx hZ e9 Ar11 (j := (1 : Int32)) hin11 rfl (Sto.ofVA Ar11 qa11 O_r (Ins.self E_r)) (g := (mkF m 129 #[rv a, rv r, .unset, .unset] [(.ref r), (.int 1), (.ref rg)])) rfl rfl (hb hby d8_129)
  have f13 := E_a.wr W12
  have f14 := F_ring.other W12 (Or.inl n_ar)
  have f15 := F_head.other W12 (Or.inl n_ar)
  have f16 := F_count.other W12 (Or.inl n_ar)
  have f17 := F_first.other W12 (Or.inl n_ar)
  have f18 := F_complete.other W12 (Or.inl n_ar)
  have f20 := E_r.wr W12
  have K12 : Keep h0 h12 [a, rg] := (Keep.refl h0 [a, rg]).wr W12 (Or.inl (List.mem_of_getElem? (i := 1) rfl))
  have N12 := Fr.snoc X12 N2 g_r
  have V12 : Arv Z h12 rg kr (.array (.object "java/lang/Object")) (16 : Int32) [u0, (.ref r), u2] .null := Arv.set Ar11 qa11 Sa11 Na11 Ha11 Ga11 rfl W12 1 rfl (Nat.le_of_ble_eq_true rfl)
  obtain ⟨T21, X21, e21, st21⟩ := getF X12 hx hZ hown (host := "") (Or.inl (hwi hw 34 rfl)) Via.refl e12 f16 (g := (mkF m 132 #[rv a, rv r, .unset, .unset] [(.ref a), (.ref a)])) rfl rfl (hb hby d8_132)
  obtain ⟨T22, h22, X22, e22, W22, st22⟩ := putF X21 hx hZ hown (host := "") (Or.inl (hwi hw 34 rfl)) Via.refl e21 f16 f13 (Or.inl (hwi hw 35 rfl)) (hwi hw 3 rfl) (ty := .int) (by decide) rfl rfl (g := (mkF m 137 #[rv a, rv r, .unset, .unset] [(.int 2), (.ref a)])) rfl rfl (hb hby d8_137)
  have f23 := f13.wr W22
  have f24 := f14.other W22 (Or.inr (slot_ne (Or.inl (hwi hw 14 rfl)) (Or.inl (hwi hw 35 rfl)) (by decide) (t := (.array (.array (.object "java/lang/Object")))) (t' := .int) (by decide) (by decide)))
  have f25 := f15.other W22 (Or.inr (slot_ne (Or.inl (hwi hw 51 rfl)) (Or.inl (hwi hw 35 rfl)) (by decide) (t := .int) (t' := .int) (by decide) (by decide)))
  have f27 := f17.other W22 (Or.inr (slot_ne (Or.inl (hwi hw 25 rfl)) (Or.inl (hwi hw 35 rfl)) (by decide) (t := .int) (t' := .int) (by decide) (by decide)))
  have f28 := f18.other W22 (Or.inr (slot_ne (Or.inl (hwi hw 47 rfl)) (Or.inl (hwi hw 35 rfl)) (by decide) (t := .boolean) (t' := .int) (by decide) (by decide)))
  have f29 := V12.other W22 (Ne.symm n_ar)
  have f30 := f20.wr W22
  have K22 : Keep h0 h22 [a, rg] := K12.wr W22 (Or.inl (List.mem_of_getElem? (i := 0) rfl))
  have N22 := Fr.snoc X22 N12 g_a
  have f31 : Fld Z h22 a "com/example/rowmotif/rowmotif/matcher/PartitionRows" "count" "I" (.int 2) := f16.same W22
  have pre32 : ∀ t_, Go p e below T22 (mkF m 140 #[rv a, rv r, .unset, .unset] []) t_ → Go p e below s₁ (entryFrame m #[(.ref a), (.ref r)] 4) t_ := fun t_ kt => pre0 _ (by
      show Go p e below s₁ (mkF m 0 #[rv a, rv r, .unset, .unset] []) _
      refine XS.aloadN X0.here hx rfl (hb hby d8_0) rfl rfl ?_
      show Go p e below s₁ (mkF m 1 #[rv a, rv r, .unset, .unset] [(.ref a)]) _
      refine st1 _ ?_
      show Go p e below T1 (mkF m 4 #[rv a, rv r, .unset, .unset] [(.int 0)]) _
      refine XS.ifYes X1.here hx rfl (pc0 := 4) (pc' := 17) rfl (hb hby d8_4) rfl ((if0 _ _).trans (teq ((by decide) : (0 : Int32) = (0 : Int32))).1) (by decide) (by decide) ?_
      show Go p e below T1 (mkF m 17 #[rv a, rv r, .unset, .unset] []) _
      refine XS.aloadN X1.here hx rfl (hb hby d8_17) rfl rfl ?_
      show Go p e below T1 (mkF m 18 #[rv a, rv r, .unset, .unset] [(.ref a)]) _
      refine st2.trans ?_
      show Go p e below T2 (mkF m 21 #[rv a, rv r, .unset, .unset] [(.int 1)]) _
      refine X2.ldcInt hx hown (mvT hZ (hwi hw 49 rfl)) (g := (mkF m 21 #[rv a, rv r, .unset, .unset] [(.int 1)])) rfl (hb hby d8_21) _ ?_
      show Go p e below T2 (mkF m 23 #[rv a, rv r, .unset, .unset] [(.int 2147483647), (.int 1)]) _
      refine XS.icmpYes X2.here hx rfl (pc0 := 23) (pc' := 36) rfl (hb hby d8_23) rfl (feq ((by decide) : ¬ ((1 : Int32) = (2147483647 : Int32)))).2 (by decide) (by decide) ?_
      show Go p e below T2 (mkF m 36 #[rv a, rv r, .unset, .unset] []) _
      refine XS.aloadN X2.here hx rfl (hb hby d8_36) rfl rfl ?_
      show Go p e below T2 (mkF m 37 #[rv a, rv r, .unset, .unset] [(.ref a)]) _
      refine st3 _ ?_
      show Go p e below T3 (mkF m 40 #[rv a, rv r, .unset, .unset] [(.int 1)]) _
      refine XS.aloadN X3.here hx rfl (hb hby d8_40) rfl rfl ?_
      show Go p e below T3 (mkF m 41 #[rv a, rv r, .unset, .unset] [(.ref a), (.int 1)]) _
      refine st4 _ ?_
      show Go p e below T4 (mkF m 44 #[rv a, rv r, .unset, .unset] [(.ref rg), (.int 1)]) _
      refine X4.arraylength hx (by rw [e4]; exact Ar5.1) (State.isArrayOf_alike hZ.alike Ar5.2.1) (g := (mkF m 44 #[rv a, rv r, .unset, .unset] [(.ref rg), (.int 1)])) rfl rfl (hb hby d8_44) _ ?_
      rw [len_of Sa5 Na5]
      show Go p e below T4 (mkF m 45 #[rv a, rv r, .unset, .unset] [(.int 16), (.int 1)]) _
      refine XS.icmpYes X4.here hx rfl (pc0 := 45) (pc' := 107) rfl (hb hby d8_45) rfl (feq ((by decide) : ¬ ((1 : Int32) = (16 : Int32)))).2 (by decide) (by decide) ?_
      show Go p e below T4 (mkF m 107 #[rv a, rv r, .unset, .unset] []) _
      refine XS.aloadN X4.here hx rfl (hb hby d8_107) rfl rfl ?_
      show Go p e below T4 (mkF m 108 #[rv a, rv r, .unset, .unset] [(.ref a)]) _
      refine st6 _ ?_
      show Go p e below T6 (mkF m 111 #[rv a, rv r, .unset, .unset] [(.ref rg)]) _
      refine XS.aloadN X6.here hx rfl (hb hby d8_111) rfl rfl ?_
      show Go p e below T6 (mkF m 112 #[rv a, rv r, .unset, .unset] [(.ref a), (.ref rg)]) _
      refine st7 _ ?_
      show Go p e below T7 (mkF m 115 #[rv a, rv r, .unset, .unset] [(.int 0), (.ref rg)]) _
      refine XS.aloadN X7.here hx rfl (hb hby d8_115) rfl rfl ?_
      show Go p e below T7 (mkF m 116 #[rv a, rv r, .unset, .unset] [(.ref a), (.int 0), (.ref rg)]) _
      refine st8 _ ?_
      show Go p e below T8 (mkF m 119 #[rv a, rv r, .unset, .unset] [(.int 1), (.int 0), (.ref rg)]) _
      refine XS.iadd X8.here hx rfl (hb hby d8_119) rfl ?_
      show Go p e below T8 (mkF m 120 #[rv a, rv r, .unset, .unset] [(.int 1), (.ref rg)]) _
      refine XS.aloadN X8.here hx rfl (hb hby d8_120) rfl rfl ?_
      show Go p e below T8 (mkF m 121 #[rv a, rv r, .unset, .unset] [(.ref a), (.int 1), (.ref rg)]) _
      refine st9 _ ?_
      show Go p e below T9 (mkF m 124 #[rv a, rv r, .unset, .unset] [(.ref rg), (.int 1), (.ref rg)]) _
      refine X9.arraylength hx (by rw [e9]; exact Ar10.1) (State.isArrayOf_alike hZ.alike Ar10.2.1) (g := (mkF m 124 #[rv a, rv r, .unset, .unset] [(.ref rg), (.int 1), (.ref rg)])) rfl rfl (hb hby d8_124) _ ?_
      rw [len_of Sa10 Na10]
      show Go p e below T9 (mkF m 125 #[rv a, rv r, .unset, .unset] [(.int 16), (.int 1), (.ref rg)]) _
      refine XS.iconst X9.here hx rfl (hb hby d8_125) ?_
      show Go p e below T9 (mkF m 126 #[rv a, rv r, .unset, .unset] [(.int 1), (.int 16), (.int 1), (.ref rg)]) _
      refine XS.isub X9.here hx rfl (hb hby d8_126) rfl ?_
      show Go p e below T9 (mkF m 127 #[rv a, rv r, .unset, .unset] [(.int 15), (.int 1), (.ref rg)]) _
      refine XS.iand X9.here hx rfl (hb hby d8_127) rfl ?_
      show Go p e below T9 (mkF m 128 #[rv a, rv r, .unset, .unset] [(.int 1), (.ref rg)]) _
      refine XS.aloadN X9.here hx rfl (hb hby d8_128) rfl rfl ?_
      show Go p e below T9 (mkF m 129 #[rv a, rv r, .unset, .unset] [(.ref r), (.int 1), (.ref rg)]) _
      refine st12 _ ?_
      show Go p e below T12 (mkF m 130 #[rv a, rv r, .unset, .unset] []) _
      refine XS.aloadN X12.here hx rfl (hb hby d8_130) rfl rfl ?_
      show Go p e below T12 (mkF m 131 #[rv a, rv r, .unset, .unset] [(.ref a)]) _
      refine XS.dup X12.here hx rfl (hb hby d8_131) rfl rfl ?_
      show Go p e below T12 (mkF m 132 #[rv a, rv r, .unset, .unset] [(.ref a), (.ref a)]) _
      refine st21 _ ?_
      show Go p e below T21 (mkF m 135 #[rv a, rv r, .unset, .unset] [(.int 1), (.ref a)]) _
      refine XS.iconst X21.here hx rfl (hb hby d8_135) ?_
      show Go p e below T21 (mkF m 136 #[rv a, rv r, .unset, .unset] [(.int 1), (.int 1), (.ref a)]) _
      refine XS.iadd X21.here hx rfl (hb hby d8_136) rfl ?_
      show Go p e below T21 (mkF m 137 #[rv a, rv r, .unset, .unset] [(.int 2), (.ref a)]) _
      refine st22 _ ?_
      show Go p e below T22 (mkF m 140 #[rv a, rv r, .unset, .unset] []) _
      exact kt)
  obtain ⟨fs, hr, hrun, hended, hW, hsame⟩ := X22.leave (v := none) (fun _ => rfl)
  refine ⟨_, _, pre32 _ ?_, hrun, hended, _, _, rfl, ?_, ⟨_, rfl⟩, hW, hsame.mono (by decide) (by decide)⟩
  · show Steps p.tables e below (T22.setTop (mkF m 140 #[rv a, rv r, .unset, .unset] [])) _
    exact X22.returnOut hx Bd.returns (hb hby d8_140) hr
  · show Q_rmA1 Z a r rg kr u0 u1 u2 h0 n0 _ T22.heap _
    rw [e22]
    exact ⟨rfl, N22, K22, ⟨f23, f24, f25, f31, f27, f28, f29, O_r, n_ar⟩⟩
def Q_rmA2 (Z : State) (a : Addr) (r : Addr) (rg : Addr) (kr : ClassId) (u0 : Value) (u1 : Value) (u2 : Value) (h0 : Heap) (n0 : Nat) (v : Option Value) (h : Heap) (L : List Loc) : Prop := v = none ∧ Fr n0 L ∧ Keep h0 h [a, rg] ∧ Rg Z h a rg kr (0 : Int32) (3 : Int32) u0 u1 (.ref r)
set_option maxRecDepth 65536 in
set_option maxHeartbeats 40000000 in
theorem rmA2 (l : Launch) (Z : State) (a0 : Array Value) (hw : ∀ d ∈ tables_1, d.before a0 Z = true) (ws : List Jvm.Cond) (a : Addr) (r : Addr) (rg : Addr) (kr : ClassId) (u0 : Value) (u1 : Value) (u2 : Value) (h0 : Heap) (n0 : Nat) (Z0 : n0 ≤ h0.size) (hR : Rg Z h0 a rg kr (0 : Int32) (2 : Int32) u0 u1 u2) (E_r : Exa Z h0 r "[Ljava/lang/Object;") (g_a : n0 ≤ a) (g_r : n0 ≤ rg) :
    MetFree l (⟨"com/example/rowmotif/rowmotif/matcher/PartitionRows", "add", "([Ljava/lang/Object;)V"⟩ : MethodName) (head1 (Jvm.Cond.code (⟨"com/example/rowmotif/rowmotif/matcher/PartitionRows", "add", "([Ljava/lang/Object;)V"⟩ : MethodName) prog_78_method_2_code 4 none :: ws) ({ frames := 1, cells := 0, slots := 0, locals := 12 } : Room)) (fun av_ U_ => av_ = #[(.ref a), (.ref r)] ∧ Z.Warmed39 U_.vm ∧ U_.heap = h0) (fun _ _ _ _ _ => True) (fun _ U_ o_ V_ => ∃ v_ L_, o_ = .returned v_ ∧ Q_rmA2 Z a r rg kr u0 u1 u2 h0 n0 v_ V_.heap L_ ∧ FrameEnd U_ o_ V_ L_ ({ frames := 1, cells := 0, slots := 0, locals := 12 } : Room).cells ({ frames := 1, cells := 0, slots := 0, locals := 12 } : Room).slots) := by
  refine MetFree.of_bodySF (plainFor_of_name pn_com_example_rowmotif_rowmotif_matcher_PartitionRows) hisR ?_
  intro p e s m args below meth c s₁ Bd hml0 hP hK
  obtain ⟨rfl, hZ, hh⟩ := hP
  have hx := Bd.exec
  have hby := Bd.bytes
  have hml : c.maxLocals = 4 := hml0
  have hown : s.vm.findClass "com/example/rowmotif/rowmotif/matcher/PartitionRows" = some m.cls := findClass_of_methodNamed Bd.named
  have hnm := (name_of_methodNamed Bd.named Bd.method).1
  have X0 : Stand p l e ({ frames := 1, cells := 0, slots := 0, locals := 12 } : Room) s m #[(.ref a), (.ref r)] below meth c s₁ [] 0 0 := Stand.of_body Bd
  have e0 : s₁.heap = h0 := by rw [← hh, Bd.state]; rfl
  have N0 := Fr.nil n0
  have pre0 : ∀ t_, Go p e below s₁ (mkF m 0 #[rv a, rv r, .unset, .unset] []) t_ → Go p e below s₁ (entryFrame m #[(.ref a), (.ref r)] 4) t_ := fun t_ kt => castTop (ef_8 m a r) kt
  obtain ⟨E_a, F_ring, F_head, F_count, F_first, F_complete, V_r, O_r, n_ar⟩ := hR
  obtain ⟨T1, X1, e1, st1⟩ := getF X0 hx hZ hown (host := "") (Or.inl (hwi hw 46 rfl)) Via.refl e0 F_complete (g := (mkF m 1 #[rv a, rv r, .unset, .unset] [(.ref a)])) rfl rfl (hb hby d8_1)
  obtain ⟨cq2, kq2, q2a, q2b, q2c⟩ := isOf hZ e1 E_a
  obtain ⟨_, _, ⟨T2, L2, k2, n2⟩, -, X2, ⟨Lc2, hQ2, l2, y2, z2⟩, st2⟩ := X1.virtualBack hx (y := (⟨"com/example/rowmotif/rowmotif/matcher/PartitionRows", "size", "()I"⟩ : MethodName)) (z := (⟨"com/example/rowmotif/rowmotif/matcher/PartitionRows", "size", "()I"⟩ : MethodName)) hown (mvT hZ (hwi hw 48 rfl)) (mvT hZ (hwi hw 30 rfl)) (notFace_of_selects (args := #[]) (mvT hZ (hwi hw 32 rfl))) (mvT hZ (hwi hw 32 rfl)) (mvT hZ (hwi hw 31 rfl)) (by decide) (backOf (W := 0) (rmZ l Z a0 hw [] a (0 : Int32) (2 : Int32) h0 n0 (Nat.le_trans Z0 (Keep.refl h0 [a, rg]).1) F_first F_count) hZ (hwi hw 33 rfl) (hwi hw 4 rfl) (by decide) (by decide)) q2a q2c (g := (mkF m 18 #[rv a, rv r, .unset, .unset] [(.ref a)])) rfl (by rw [hml]; rfl) (Steps.refl _) (argsL := []) (rest := []) (lenOf pd_3 rfl) rfl (by show 2 * 0 + _ ≤ _; exact Nat.le_of_eq rfl) (hb hby d8_18) (fun _ _ => ⟨rfl, e1, (by decide : 0 + 0 ≤ _), (by decide : 0 + 0 ≤ _)⟩)
  dsimp only [Pt.U, Pt.locs, Pt.cells, Pt.slots] at X2 l2 y2 z2 st2 hQ2
  subst l2 y2 z2
  obtain ⟨hv2, N2q, e2q⟩ := hQ2
  have N2 := Fr.app N0 N2q
  rw [show ((0 : Int32) + (2 : Int32)) = (2 : Int32) from by decide] at hv2
  subst hv2
  obtain ⟨T3, X3, e3, st3⟩ := getF X2 hx hZ hown (host := "") (Or.inl (hwi hw 34 rfl)) Via.refl e2q F_count (g := (mkF m 37 #[rv a, rv r, .unset, .unset] [(.ref a)])) rfl rfl (hb hby d8_37)
  obtain ⟨T4, X4, e4, st4⟩ := getF X3 hx hZ hown (host := "") (Or.inl (hwi hw 13 rfl)) Via.refl e3 F_ring (g := (mkF m 41 #[rv a, rv r, .unset, .unset] [(.ref a), (.int 2)])) rfl rfl (hb hby d8_41)
  obtain ⟨cl5, Ar5, qa5, Sa5, Na5, Ha5, Ga5⟩ := V_r
  have V5 : Arv Z h0 rg kr (.array (.object "java/lang/Object")) (16 : Int32) [u0, u1, u2] .null := ⟨cl5, Ar5, qa5, Sa5, Na5, Ha5, Ga5⟩
  obtain ⟨T6, X6, e6, st6⟩ := getF X4 hx hZ hown (host := "") (Or.inl (hwi hw 13 rfl)) Via.refl e4 F_ring (g := (mkF m 108 #[rv a, rv r, .unset, .unset] [(.ref a)])) rfl rfl (hb hby d8_108)
  obtain ⟨T7, X7, e7, st7⟩ := getF X6 hx hZ hown (host := "") (Or.inl (hwi hw 50 rfl)) Via.refl e6 F_head (g := (mkF m 112 #[rv a, rv r, .unset, .unset] [(.ref a), (.ref rg)])) rfl rfl (hb hby d8_112)
  obtain ⟨T8, X8, e8, st8⟩ := getF X7 hx hZ hown (host := "") (Or.inl (hwi hw 34 rfl)) Via.refl e7 F_count (g := (mkF m 116 #[rv a, rv r, .unset, .unset] [(.ref a), (.int 0), (.ref rg)])) rfl rfl (hb hby d8_116)
  obtain ⟨T9, X9, e9, st9⟩ := getF X8 hx hZ hown (host := "") (Or.inl (hwi hw 13 rfl)) Via.refl e8 F_ring (g := (mkF m 121 #[rv a, rv r, .unset, .unset] [(.ref a), (.int 2), (.ref rg)])) rfl rfl (hb hby d8_121)
  obtain ⟨cl10, Ar10, qa10, Sa10, Na10, Ha10, Ga10⟩ := V5
  have V10 : Arv Z h0 rg kr (.array (.object "java/lang/Object")) (16 : Int32) [u0, u1, u2] .null := ⟨cl10, Ar10, qa10, Sa10, Na10, Ha10, Ga10⟩
  obtain ⟨cl11, Ar11, qa11, Sa11, Na11, Ha11, Ga11⟩ := V10
  have hin11 : ¬ ((2 : Int32) < 0 ∨ cl11.slots.size ≤ ((2 : Int32)).toNatClampNeg) := inb_of Sa11 ⟨by decide, by decide⟩
  obtain ⟨T12, h12, X12, e12, W12, st12⟩ := stR X9 hx hZ e9 Ar11 (j := (2 : Int32)) hin11 rfl (Sto.ofVA Ar11 qa11 O_r (Ins.self E_r)) (g := (mkF m 129 #[rv a, rv r, .unset, .unset] [(.ref r), (.int 2), (.ref rg)])) rfl rfl (hb hby d8_129)
  have f13 := E_a.wr W12
  have f14 := F_ring.other W12 (Or.inl n_ar)
  have f15 := F_head.other W12 (Or.inl n_ar)
  have f16 := F_count.other W12 (Or.inl n_ar)
  have f17 := F_first.other W12 (Or.inl n_ar)
  have f18 := F_complete.other W12 (Or.inl n_ar)
  have f20 := E_r.wr W12
  have K12 : Keep h0 h12 [a, rg] := (Keep.refl h0 [a, rg]).wr W12 (Or.inl (List.mem_of_getElem? (i := 1) rfl))
  have N12 := Fr.snoc X12 N2 g_r
  have V12 : Arv Z h12 rg kr (.array (.object "java/lang/Object")) (16 : Int32) [u0, u1, (.ref r)] .null := Arv.set Ar11 qa11 Sa11 Na11 Ha11 Ga11 rfl W12 2 rfl (Nat.le_of_ble_eq_true rfl)
  obtain ⟨T21, X21, e21, st21⟩ := getF X12 hx hZ hown (host := "") (Or.inl (hwi hw 34 rfl)) Via.refl e12 f16 (g := (mkF m 132 #[rv a, rv r, .unset, .unset] [(.ref a), (.ref a)])) rfl rfl (hb hby d8_132)
  obtain ⟨T22, h22, X22, e22, W22, st22⟩ := putF X21 hx hZ hown (host := "") (Or.inl (hwi hw 34 rfl)) Via.refl e21 f16 f13 (Or.inl (hwi hw 35 rfl)) (hwi hw 3 rfl) (ty := .int) (by decide) rfl rfl (g := (mkF m 137 #[rv a, rv r, .unset, .unset] [(.int 3), (.ref a)])) rfl rfl (hb hby d8_137)
  have f23 := f13.wr W22
  have f24 := f14.other W22 (Or.inr (slot_ne (Or.inl (hwi hw 14 rfl)) (Or.inl (hwi hw 35 rfl)) (by decide) (t := (.array (.array (.object "java/lang/Object")))) (t' := .int) (by decide) (by decide)))
  have f25 := f15.other W22 (Or.inr (slot_ne (Or.inl (hwi hw 51 rfl)) (Or.inl (hwi hw 35 rfl)) (by decide) (t := .int) (t' := .int) (by decide) (by decide)))
  have f27 := f17.other W22 (Or.inr (slot_ne (Or.inl (hwi hw 25 rfl)) (Or.inl (hwi hw 35 rfl)) (by decide) (t := .int) (t' := .int) (by decide) (by decide)))
  have f28 := f18.other W22 (Or.inr (slot_ne (Or.inl (hwi hw 47 rfl)) (Or.inl (hwi hw 35 rfl)) (by decide) (t := .boolean) (t' := .int) (by decide) (by decide)))
  have f29 := V12.other W22 (Ne.symm n_ar)
  have f30 := f20.wr W22
  have K22 : Keep h0 h22 [a, rg] := K12.wr W22 (Or.inl (List.mem_of_getElem? (i := 0) rfl))
  have N22 := Fr.snoc X22 N12 g_a
  have f31 : Fld Z h22 a "com/example/rowmotif/rowmotif/matcher/PartitionRows" "count" "I" (.int 3) := f16.same W22
  have pre32 : ∀ t_, Go p e below T22 (mkF m 140 #[rv a, rv r, .unset, .unset] []) t_ → Go p e below s₁ (entryFrame m #[(.ref a), (.ref r)] 4) t_ := fun t_ kt => pre0 _ (by
      show Go p e below s₁ (mkF m 0 #[rv a, rv r, .unset, .unset] []) _
      refine XS.aloadN X0.here hx rfl (hb hby d8_0) rfl rfl ?_
      show Go p e below s₁ (mkF m 1 #[rv a, rv r, .unset, .unset] [(.ref a)]) _
      refine st1 _ ?_
      show Go p e below T1 (mkF m 4 #[rv a, rv r, .unset, .unset] [(.int 0)]) _
      refine XS.ifYes X1.here hx rfl (pc0 := 4) (pc' := 17) rfl (hb hby d8_4) rfl ((if0 _ _).trans (teq ((by decide) : (0 : Int32) = (0 : Int32))).1) (by decide) (by decide) ?_
      show Go p e below T1 (mkF m 17 #[rv a, rv r, .unset, .unset] []) _
      refine XS.aloadN X1.here hx rfl (hb hby d8_17) rfl rfl ?_
      show Go p e below T1 (mkF m 18 #[rv a, rv r, .unset, .unset] [(.ref a)]) _
      refine st2.trans ?_
      show Go p e below T2 (mkF m 21 #[rv a, rv r, .unset, .unset] [(.int 2)]) _
      refine X2.ldcInt hx hown (mvT hZ (hwi hw 49 rfl)) (g := (mkF m 21 #[rv a, rv r, .unset, .unset] [(.int 2)])) rfl (hb hby d8_21) _ ?_
      show Go p e below T2 (mkF m 23 #[rv a, rv r, .unset, .unset] [(.int 2147483647), (.int 2)]) _
      refine XS.icmpYes X2.here hx rfl (pc0 := 23) (pc' := 36) rfl (hb hby d8_23) rfl (feq ((by decide) : ¬ ((2 : Int32) = (2147483647 : Int32)))).2 (by decide) (by decide) ?_
      show Go p e below T2 (mkF m 36 #[rv a, rv r, .unset, .unset] []) _
      refine XS.aloadN X2.here hx rfl (hb hby d8_36) rfl rfl ?_
      show Go p e below T2 (mkF m 37 #[rv a, rv r, .unset, .unset] [(.ref a)]) _
      refine st3 _ ?_
      show Go p e below T3 (mkF m 40 #[rv a, rv r, .unset, .unset] [(.int 2)]) _
      refine XS.aloadN X3.here hx rfl (hb hby d8_40) rfl rfl ?_
      show Go p e below T3 (mkF m 41 #[rv a, rv r, .unset, .unset] [(.ref a), (.int 2)]) _
      refine st4 _ ?_
      show Go p e below T4 (mkF m 44 #[rv a, rv r, .unset, .unset] [(.ref rg), (.int 2)]) _
      refine X4.arraylength hx (by rw [e4]; exact Ar5.1) (State.isArrayOf_alike hZ.alike Ar5.2.1) (g := (mkF m 44 #[rv a, rv r, .unset, .unset] [(.ref rg), (.int 2)])) rfl rfl (hb hby d8_44) _ ?_
      rw [len_of Sa5 Na5]
      show Go p e below T4 (mkF m 45 #[rv a, rv r, .unset, .unset] [(.int 16), (.int 2)]) _
      refine XS.icmpYes X4.here hx rfl (pc0 := 45) (pc' := 107) rfl (hb hby d8_45) rfl (feq ((by decide) : ¬ ((2 : Int32) = (16 : Int32)))).2 (by decide) (by decide) ?_
      show Go p e below T4 (mkF m 107 #[rv a, rv r, .unset, .unset] []) _
      refine XS.aloadN X4.here hx rfl (hb hby d8_107) rfl rfl ?_
      show Go p e below T4 (mkF m 108 #[rv a, rv r, .unset, .unset] [(.ref a)]) _
      refine st6 _ ?_
      show Go p e below T6 (mkF m 111 #[rv a, rv r, .unset, .unset] [(.ref rg)]) _
      refine XS.aloadN X6.here hx rfl (hb hby d8_111) rfl rfl ?_
      show Go p e below T6 (mkF m 112 #[rv a, rv r, .unset, .unset] [(.ref a), (.ref rg)]) _
      refine st7 _ ?_
      show Go p e below T7 (mkF m 115 #[rv a, rv r, .unset, .unset] [(.int 0), (.ref rg)]) _
      refine XS.aloadN X7.here hx rfl (hb hby d8_115) rfl rfl ?_
      show Go p e below T7 (mkF m 116 #[rv a, rv r, .unset, .unset] [(.ref a), (.int 0), (.ref rg)]) _
      refine st8 _ ?_
      show Go p e below T8 (mkF m 119 #[rv a, rv r, .unset, .unset] [(.int 2), (.int 0), (.ref rg)]) _
      refine XS.iadd X8.here hx rfl (hb hby d8_119) rfl ?_
      show Go p e below T8 (mkF m 120 #[rv a, rv r, .unset, .unset] [(.int 2), (.ref rg)]) _
      refine XS.aloadN X8.here hx rfl (hb hby d8_120) rfl rfl ?_
      show Go p e below T8 (mkF m 121 #[rv a, rv r, .unset, .unset] [(.ref a), (.int 2), (.ref rg)]) _
      refine st9 _ ?_
      show Go p e below T9 (mkF m 124 #[rv a, rv r, .unset, .unset] [(.ref rg), (.int 2), (.ref rg)]) _
      refine X9.arraylength hx (by rw [e9]; exact Ar10.1) (State.isArrayOf_alike hZ.alike Ar10.2.1) (g := (mkF m 124 #[rv a, rv r, .unset, .unset] [(.ref rg), (.int 2), (.ref rg)])) rfl rfl (hb hby d8_124) _ ?_
      rw [len_of Sa10 Na10]
      show Go p e below T9 (mkF m 125 #[rv a, rv r, .unset, .unset] [(.int 16), (.int 2), (.ref rg)]) _
      refine XS.iconst X9.here hx rfl (hb hby d8_125) ?_
      show Go p e below T9 (mkF m 126 #[rv a, rv r, .unset, .unset] [(.int 1), (.int 16), (.int 2), (.ref rg)]) _
      refine XS.isub X9.here hx rfl (hb hby d8_126) rfl ?_
      show Go p e below T9 (mkF m 127 #[rv a, rv r, .unset, .unset] [(.int 15), (.int 2), (.ref rg)]) _
      refine XS.iand X9.here hx rfl (hb hby d8_127) rfl ?_
      show Go p e below T9 (mkF m 128 #[rv a, rv r, .unset, .unset] [(.int 2), (.ref rg)]) _
      refine XS.aloadN X9.here hx rfl (hb hby d8_128) rfl rfl ?_
      show Go p e below T9 (mkF m 129 #[rv a, rv r, .unset, .unset] [(.ref r), (.int 2), (.ref rg)]) _
      refine st12 _ ?_
      show Go p e below T12 (mkF m 130 #[rv a, rv r, .unset, .unset] []) _
      refine XS.aloadN X12.here hx rfl (hb hby d8_130) rfl rfl ?_
      show Go p e below T12 (mkF m 131 #[rv a, rv r, .unset, .unset] [(.ref a)]) _
      refine XS.dup X12.here hx rfl (hb hby d8_131) rfl rfl ?_
      show Go p e below T12 (mkF m 132 #[rv a, rv r, .unset, .unset] [(.ref a), (.ref a)]) _
      refine st21 _ ?_
      show Go p e below T21 (mkF m 135 #[rv a, rv r, .unset, .unset] [(.int 2), (.ref a)]) _
      refine XS.iconst X21.here hx rfl (hb hby d8_135) ?_
      show Go p e below T21 (mkF m 136 #[rv a, rv r, .unset, .unset] [(.int 1), (.int 2), (.ref a)]) _
      refine XS.iadd X21.here hx rfl (hb hby d8_136) rfl ?_
      show Go p e below T21 (mkF m 137 #[rv a, rv r, .unset, .unset] [(.int 3), (.ref a)]) _
      refine st22 _ ?_
      show Go p e below T22 (mkF m 140 #[rv a, rv r, .unset, .unset] []) _
      exact kt)
  obtain ⟨fs, hr, hrun, hended, hW, hsame⟩ := X22.leave (v := none) (fun _ => rfl)
  refine ⟨_, _, pre32 _ ?_, hrun, hended, _, _, rfl, ?_, ⟨_, rfl⟩, hW, hsame.mono (by decide) (by decide)⟩
  · show Steps p.tables e below (T22.setTop (mkF m 140 #[rv a, rv r, .unset, .unset] [])) _
    exact X22.returnOut hx Bd.returns (hb hby d8_140) hr
  · show Q_rmA2 Z a r rg kr u0 u1 u2 h0 n0 _ T22.heap _
    rw [e22]
    exact ⟨rfl, N22, K22, ⟨f23, f24, f25, f31, f27, f28, f29, O_r, n_ar⟩⟩
theorem ef_4 (m : MethodId) (x0 : Addr) (x1 : Int32) : entryFrame m #[(.ref x0), (.int x1)] 2 = mkF m 0 #[.val (.ref x0), .val (.int x1)] [] := by first | (simp [entryFrame, mkF, argsToLocals, Value.category]; done) | rfl
theorem d4_0 : decode prog_78_method_8_code 0 = .ok (.aload_n 0, 1) := by decide +kernel
theorem d4_1 : decode prog_78_method_8_code 1 = .ok (.getfield 42, 3) := by decide +kernel
theorem d4_4 : decode prog_78_method_8_code 4 = .ok (.iload_n 1, 1) := by decide +kernel
theorem d4_5 : decode prog_78_method_8_code 5 = .ok (.if_icmp .ge 61, 3) := by decide +kernel
theorem d4_66 : decode prog_78_method_8_code 66 = .ok (.return_, 1) := by decide +kernel
def Q_rmR0 (Z : State) (a : Addr) (p1 : Int32) (fi : Int32) (h0 : Heap) (n0 : Nat) (v : Option Value) (h : Heap) (L : List Loc) : Prop := v = none ∧ Fr n0 L ∧ h = h0
set_option maxRecDepth 65536 in
set_option maxHeartbeats 40000000 in
theorem rmR0 (l : Launch) (Z : State) (a0 : Array Value) (hw : ∀ d ∈ tables_1, d.before a0 Z = true) (ws : List Jvm.Cond) (a : Addr) (p1 : Int32) (fi : Int32) (h0 : Heap) (n0 : Nat) (Z0 : n0 ≤ h0.size) (F_first : Fld Z h0 a "com/example/rowmotif/rowmotif/matcher/PartitionRows" "first" "I" (.int fi)) (hnb : ¬ (fi < p1)) :
    MetFree l (⟨"com/example/rowmotif/rowmotif/matcher/PartitionRows", "release", "(I)V"⟩ : MethodName) (head1 (Jvm.Cond.code (⟨"com/example/rowmotif/rowmotif/matcher/PartitionRows", "release", "(I)V"⟩ : MethodName) prog_78_method_8_code 2 none :: ws) ({ frames := 0, cells := 0, slots := 0, locals := 0 } : Room)) (fun av_ U_ => av_ = #[(.ref a), (.int p1)] ∧ Z.Warmed39 U_.vm ∧ U_.heap = h0) (fun _ _ _ _ _ => True) (fun _ U_ o_ V_ => ∃ v_ L_, o_ = .returned v_ ∧ Q_rmR0 Z a p1 fi h0 n0 v_ V_.heap L_ ∧ FrameEnd U_ o_ V_ L_ ({ frames := 0, cells := 0, slots := 0, locals := 0 } : Room).cells ({ frames := 0, cells := 0, slots := 0, locals := 0 } : Room).slots) := by
  refine MetFree.of_bodySF (plainFor_of_name pn_com_example_rowmotif_rowmotif_matcher_PartitionRows) hisR ?_
  intro p e s m args below meth c s₁ Bd hml0 hP hK
  obtain ⟨rfl, hZ, hh⟩ := hP
  have hx := Bd.exec
  have hby := Bd.bytes
  have hml : c.maxLocals = 2 := hml0
  have hown : s.vm.findClass "com/example/rowmotif/rowmotif/matcher/PartitionRows" = some m.cls := findClass_of_methodNamed Bd.named
  have hnm := (name_of_methodNamed Bd.named Bd.method).1
  have X0 : Stand p l e ({ frames := 0, cells := 0, slots := 0, locals := 0 } : Room) s m #[(.ref a), (.int p1)] below meth c s₁ [] 0 0 := Stand.of_body Bd
  have e0 : s₁.heap = h0 := by rw [← hh, Bd.state]; rfl
  have N0 := Fr.nil n0
  have pre0 : ∀ t_, Go p e below s₁ (mkF m 0 #[rv a, iv p1] []) t_ → Go p e below s₁ (entryFrame m #[(.ref a), (.int p1)] 2) t_ := fun t_ kt => castTop (ef_4 m a p1) kt
  obtain ⟨T1, X1, e1, st1⟩ := getF X0 hx hZ hown (host := "") (Or.inl (hwi hw 24 rfl)) Via.refl e0 F_first (g := (mkF m 1 #[rv a, iv p1] [(.ref a)])) rfl rfl (hb hby d4_1)
  have pre2 : ∀ t_, Go p e below T1 (mkF m 66 #[rv a, iv p1] []) t_ → Go p e below s₁ (entryFrame m #[(.ref a), (.int p1)] 2) t_ := fun t_ kt => pre0 _ (by
      show Go p e below s₁ (mkF m 0 #[rv a, iv p1] []) _
      refine XS.aloadN X0.here hx rfl (hb hby d4_0) rfl rfl ?_
      show Go p e below s₁ (mkF m 1 #[rv a, iv p1] [(.ref a)]) _
      refine st1 _ ?_
      show Go p e below T1 (mkF m 4 #[rv a, iv p1] [(.int fi)]) _
      refine XS.iloadN X1.here hx rfl (hb hby d4_4) rfl ?_
      show Go p e below T1 (mkF m 5 #[rv a, iv p1] [(.int p1), (.int fi)]) _
      refine XS.icmpYes X1.here hx rfl (pc0 := 5) (pc' := 66) rfl (hb hby d4_5) rfl (flt hnb).2.1 (by decide) (by decide) ?_
      show Go p e below T1 (mkF m 66 #[rv a, iv p1] []) _
      exact kt)
  obtain ⟨fs, hr, hrun, hended, hW, hsame⟩ := X1.leave (v := none) (fun _ => rfl)
  refine ⟨_, _, pre2 _ ?_, hrun, hended, _, _, rfl, ?_, ⟨_, rfl⟩, hW, hsame.mono (by decide) (by decide)⟩
  · show Steps p.tables e below (T1.setTop (mkF m 66 #[rv a, iv p1] [])) _
    exact X1.returnOut hx Bd.returns (hb hby d4_66) hr
  · show Q_rmR0 Z a p1 fi h0 n0 _ T1.heap _
    rw [e1]
    exact ⟨rfl, N0, rfl⟩
theorem d4_8 : decode prog_78_method_8_code 8 = .ok (.aload_n 0, 1) := by decide +kernel
theorem d4_9 : decode prog_78_method_8_code 9 = .ok (.getfield 35, 3) := by decide +kernel
theorem d4_12 : decode prog_78_method_8_code 12 = .ok (.ifCond .le 54, 3) := by decide +kernel
theorem d4_15 : decode prog_78_method_8_code 15 = .ok (.aload_n 0, 1) := by decide +kernel
theorem d4_16 : decode prog_78_method_8_code 16 = .ok (.getfield 11, 3) := by decide +kernel
theorem d4_19 : decode prog_78_method_8_code 19 = .ok (.aload_n 0, 1) := by decide +kernel
theorem d4_20 : decode prog_78_method_8_code 20 = .ok (.getfield 39, 3) := by decide +kernel
theorem d4_23 : decode prog_78_method_8_code 23 = .ok (.aconst_null, 1) := by decide +kernel
theorem d4_24 : decode prog_78_method_8_code 24 = .ok (.aastore, 1) := by decide +kernel
theorem d4_25 : decode prog_78_method_8_code 25 = .ok (.aload_n 0, 1) := by decide +kernel
theorem d4_26 : decode prog_78_method_8_code 26 = .ok (.aload_n 0, 1) := by decide +kernel
theorem d4_27 : decode prog_78_method_8_code 27 = .ok (.getfield 39, 3) := by decide +kernel
theorem d4_30 : decode prog_78_method_8_code 30 = .ok (.iconst 1, 1) := by decide +kernel
theorem d4_31 : decode prog_78_method_8_code 31 = .ok (.iadd, 1) := by decide +kernel
theorem d4_32 : decode prog_78_method_8_code 32 = .ok (.aload_n 0, 1) := by decide +kernel
theorem d4_33 : decode prog_78_method_8_code 33 = .ok (.getfield 11, 3) := by decide +kernel
theorem d4_36 : decode prog_78_method_8_code 36 = .ok (.arraylength, 1) := by decide +kernel
theorem d4_37 : decode prog_78_method_8_code 37 = .ok (.iconst 1, 1) := by decide +kernel
theorem d4_38 : decode prog_78_method_8_code 38 = .ok (.isub, 1) := by decide +kernel
theorem d4_39 : decode prog_78_method_8_code 39 = .ok (.iand, 1) := by decide +kernel
theorem d4_40 : decode prog_78_method_8_code 40 = .ok (.putfield 39, 3) := by decide +kernel
theorem d4_43 : decode prog_78_method_8_code 43 = .ok (.aload_n 0, 1) := by decide +kernel
theorem d4_44 : decode prog_78_method_8_code 44 = .ok (.dup, 1) := by decide +kernel
theorem d4_45 : decode prog_78_method_8_code 45 = .ok (.getfield 42, 3) := by decide +kernel
theorem d4_48 : decode prog_78_method_8_code 48 = .ok (.iconst 1, 1) := by decide +kernel
theorem d4_49 : decode prog_78_method_8_code 49 = .ok (.iadd, 1) := by decide +kernel
theorem d4_50 : decode prog_78_method_8_code 50 = .ok (.putfield 42, 3) := by decide +kernel
theorem d4_53 : decode prog_78_method_8_code 53 = .ok (.aload_n 0, 1) := by decide +kernel
theorem d4_54 : decode prog_78_method_8_code 54 = .ok (.dup, 1) := by decide +kernel
theorem d4_55 : decode prog_78_method_8_code 55 = .ok (.getfield 35, 3) := by decide +kernel
theorem d4_58 : decode prog_78_method_8_code 58 = .ok (.iconst 1, 1) := by decide +kernel
theorem d4_59 : decode prog_78_method_8_code 59 = .ok (.isub, 1) := by decide +kernel
theorem d4_60 : decode prog_78_method_8_code 60 = .ok (.putfield 35, 3) := by decide +kernel
theorem d4_63 : decode prog_78_method_8_code 63 = .ok (.goto (-63), 3) := by decide +kernel
def Q_rmR0_1_1 (Z : State) (a : Addr) (rg : Addr) (kr : ClassId) (u0 : Value) (u1 : Value) (u2 : Value) (h0 : Heap) (n0 : Nat) (v : Option Value) (h : Heap) (L : List Loc) : Prop := v = none ∧ Fr n0 L ∧ Keep h0 h [a, rg] ∧ Rg Z h a rg kr (1 : Int32) (0 : Int32) .null u1 u2
set_option maxRecDepth 65536 in
set_option maxHeartbeats 40000000 in
theorem rmR0_1_1 (l : Launch) (Z : State) (a0 : Array Value) (hw : ∀ d ∈ tables_1, d.before a0 Z = true) (ws : List Jvm.Cond) (a : Addr) (rg : Addr) (kr : ClassId) (u0 : Value) (u1 : Value) (u2 : Value) (h0 : Heap) (n0 : Nat) (Z0 : n0 ≤ h0.size) (hR : Rg Z h0 a rg kr (0 : Int32) (1 : Int32) u0 u1 u2) (g_a : n0 ≤ a) (g_r : n0 ≤ rg) :
    MetFree l (⟨"com/example/rowmotif/rowmotif/matcher/PartitionRows", "release", "(I)V"⟩ : MethodName) (head1 (Jvm.Cond.code (⟨"com/example/rowmotif/rowmotif/matcher/PartitionRows", "release", "(I)V"⟩ : MethodName) prog_78_method_8_code 2 none :: ws) ({ frames := 0, cells := 0, slots := 0, locals := 0 } : Room)) (fun av_ U_ => av_ = #[(.ref a), (.int 1)] ∧ Z.Warmed39 U_.vm ∧ U_.heap = h0) (fun _ _ _ _ _ => True) (fun _ U_ o_ V_ => ∃ v_ L_, o_ = .returned v_ ∧ Q_rmR0_1_1 Z a rg kr u0 u1 u2 h0 n0 v_ V_.heap L_ ∧ FrameEnd U_ o_ V_ L_ ({ frames := 0, cells := 0, slots := 0, locals := 0 } : Room).cells ({ frames := 0, cells := 0, slots := 0, locals := 0 } : Room).slots) := by
  refine MetFree.of_bodySF (plainFor_of_name pn_com_example_rowmotif_rowmotif_matcher_PartitionRows) hisR ?_
  intro p e s m args below meth c s₁ Bd hml0 hP hK
  obtain ⟨rfl, hZ, hh⟩ := hP
  have hx := Bd.exec
  have hby := Bd.bytes
  have hml : c.maxLocals = 2 := hml0
  have hown : s.vm.findClass "com/example/rowmotif/rowmotif/matcher/PartitionRows" = some m.cls := findClass_of_methodNamed Bd.named
  have hnm := (name_of_methodNamed Bd.named Bd.method).1
  have X0 : Stand p l e ({ frames := 0, cells := 0, slots := 0, locals := 0 } : Room) s m #[(.ref a), (.int 1)] below meth c s₁ [] 0 0 := Stand.of_body Bd
  have e0 : s₁.heap = h0 := by rw [← hh, Bd.state]; rfl
  have N0 := Fr.nil n0
  have pre0 : ∀ t_, Go p e below s₁ (mkF m 0 #[rv a, iv 1] []) t_ → Go p e below s₁ (entryFrame m #[(.ref a), (.int 1)] 2) t_ := fun t_ kt => castTop (ef_4 m a (1 : Int32)) kt
  obtain ⟨E_a, F_ring, F_head, F_count, F_first, F_complete, V_r, O_r, n_ar⟩ := hR
  obtain ⟨T1, X1, e1, st1⟩ := getF X0 hx hZ hown (host := "") (Or.inl (hwi hw 24 rfl)) Via.refl e0 F_first (g := (mkF m 1 #[rv a, iv 1] [(.ref a)])) rfl rfl (hb hby d4_1)
  obtain ⟨T2, X2, e2, st2⟩ := getF X1 hx hZ hown (host := "") (Or.inl (hwi hw 34 rfl)) Via.refl e1 F_count (g := (mkF m 9 #[rv a, iv 1] [(.ref a)])) rfl rfl (hb hby d4_9)
  obtain ⟨T3, X3, e3, st3⟩ := getF X2 hx hZ hown (host := "") (Or.inl (hwi hw 13 rfl)) Via.refl e2 F_ring (g := (mkF m 16 #[rv a, iv 1] [(.ref a)])) rfl rfl (hb hby d4_16)
  obtain ⟨T4, X4, e4, st4⟩ := getF X3 hx hZ hown (host := "") (Or.inl (hwi hw 50 rfl)) Via.refl e3 F_head (g := (mkF m 20 #[rv a, iv 1] [(.ref a), (.ref rg)])) rfl rfl (hb hby d4_20)
  obtain ⟨cl5, Ar5, qa5, Sa5, Na5, Ha5, Ga5⟩ := V_r
  have hin5 : ¬ ((0 : Int32) < 0 ∨ cl5.slots.size ≤ ((0 : Int32)).toNatClampNeg) := inb_of Sa5 ⟨by decide, by decide⟩
  obtain ⟨T6, h6, X6, e6, W6, st6⟩ := stR X4 hx hZ e4 Ar5 (j := (0 : Int32)) hin5 rfl (Or.inl rfl) (g := (mkF m 24 #[rv a, iv 1] [.null, (.int 0), (.ref rg)])) rfl rfl (hb hby d4_24)
  have f7 := E_a.wr W6
  have f8 := F_ring.other W6 (Or.inl n_ar)
  have f9 := F_head.other W6 (Or.inl n_ar)
  have f10 := F_count.other W6 (Or.inl n_ar)
  have f11 := F_first.other W6 (Or.inl n_ar)
  have f12 := F_complete.other W6 (Or.inl n_ar)
  have K6 : Keep h0 h6 [a, rg] := (Keep.refl h0 [a, rg]).wr W6 (Or.inl (List.mem_of_getElem? (i := 1) rfl))
  have N6 := Fr.snoc X6 N0 g_r
  have V6 : Arv Z h6 rg kr (.array (.object "java/lang/Object")) (16 : Int32) [.null, u1, u2] .null := Arv.set Ar5 qa5 Sa5 Na5 Ha5 Ga5 rfl W6 0 rfl (Nat.le_of_ble_eq_true rfl)
  obtain ⟨T14, X14, e14, st14⟩ := getF X6 hx hZ hown (host := "") (Or.inl (hwi hw 50 rfl)) Via.refl e6 f9 (g := (mkF m 27 #[rv a, iv 1] [(.ref a), (.ref a)])) rfl rfl (hb hby d4_27)
  obtain ⟨T15, X15, e15, st15⟩ := getF X14 hx hZ hown (host := "") (Or.inl (hwi hw 13 rfl)) Via.refl e14 f8 (g := (mkF m 33 #[rv a, iv 1] [(.ref a), (.int 1), (.ref a)])) rfl rfl (hb hby d4_33)
  obtain ⟨cl16, Ar16, qa16, Sa16, Na16, Ha16, Ga16⟩ := V6
  have V16 : Arv Z h6 rg kr (.array (.object "java/lang/Object")) (16 : Int32) [.null, u1, u2] .null := ⟨cl16, Ar16, qa16, Sa16, Na16, Ha16, Ga16⟩
  obtain ⟨T17, h17, X17, e17, W17, st17⟩ := putF X15 hx hZ hown (host := "") (Or.inl (hwi hw 50 rfl)) Via.refl e15 f9 f7 (Or.inl (hwi hw 51 rfl)) (hwi hw 3 rfl) (ty := .int) (by decide) rfl rfl (g := (mkF m 40 #[rv a, iv 1] [(.int 1), (.ref a)])) rfl rfl (hb hby d4_40)
  have f18 := f7.wr W17
  have f19 := f8.other W17 (Or.inr (slot_ne (Or.inl (hwi hw 14 rfl)) (Or.inl (hwi hw 51 rfl)) (by decide) (t := (.array (.array (.object "java/lang/Object")))) (t' := .int) (by decide) (by decide)))
  have f21 := f10.other W17 (Or.inr (slot_ne (Or.inl (hwi hw 35 rfl)) (Or.inl (hwi hw 51 rfl)) (by decide) (t := .int) (t' := .int) (by decide) (by decide)))
  have f22 := f11.other W17 (Or.inr (slot_ne (Or.inl (hwi hw 25 rfl)) (Or.inl (hwi hw 51 rfl)) (by decide) (t := .int) (t' := .int) (by decide) (by decide)))
  have f23 := f12.other W17 (Or.inr (slot_ne (Or.inl (hwi hw 47 rfl)) (Or.inl (hwi hw 51 rfl)) (by decide) (t := .boolean) (t' := .int) (by decide) (by decide)))
  have f24 := V16.other W17 (Ne.symm n_ar)
  have K17 : Keep h0 h17 [a, rg] := K6.wr W17 (Or.inl (List.mem_of_getElem? (i := 0) rfl))
  have N17 := Fr.snoc X17 N6 g_a
  have f25 : Fld Z h17 a "com/example/rowmotif/rowmotif/matcher/PartitionRows" "head" "I" (.int 1) := f9.same W17
  obtain ⟨T26, X26, e26, st26⟩ := getF X17 hx hZ hown (host := "") (Or.inl (hwi hw 24 rfl)) Via.refl e17 f22 (g := (mkF m 45 #[rv a, iv 1] [(.ref a), (.ref a)])) rfl rfl (hb hby d4_45)
  obtain ⟨T27, h27, X27, e27, W27, st27⟩ := putF X26 hx hZ hown (host := "") (Or.inl (hwi hw 24 rfl)) Via.refl e26 f22 f18 (Or.inl (hwi hw 25 rfl)) (hwi hw 3 rfl) (ty := .int) (by decide) rfl rfl (g := (mkF m 50 #[rv a, iv 1] [(.int 1), (.ref a)])) rfl rfl (hb hby d4_50)
  have f28 := f18.wr W27
  have f29 := f19.other W27 (Or.inr (slot_ne (Or.inl (hwi hw 14 rfl)) (Or.inl (hwi hw 25 rfl)) (by decide) (t := (.array (.array (.object "java/lang/Object")))) (t' := .int) (by decide) (by decide)))
  have f30 := f25.other W27 (Or.inr (slot_ne (Or.inl (hwi hw 51 rfl)) (Or.inl (hwi hw 25 rfl)) (by decide) (t := .int) (t' := .int) (by decide) (by decide)))
  have f31 := f21.other W27 (Or.inr (slot_ne (Or.inl (hwi hw 35 rfl)) (Or.inl (hwi hw 25 rfl)) (by decide) (t := .int) (t' := .int) (by decide) (by decide)))
  have f33 := f23.other W27 (Or.inr (slot_ne (Or.inl (hwi hw 47 rfl)) (Or.inl (hwi hw 25 rfl)) (by decide) (t := .boolean) (t' := .int) (by decide) (by decide)))
  have f34 := f24.other W27 (Ne.symm n_ar)
  have K27 : Keep h0 h27 [a, rg] := K17.wr W27 (Or.inl (List.mem_of_getElem? (i := 0) rfl))
  have N27 := Fr.snoc X27 N17 g_a
  have f35 : Fld Z h27 a "com/example/rowmotif/rowmotif/matcher/PartitionRows" "first" "I" (.int 1) := f22.same W27
  obtain ⟨T36, X36, e36, st36⟩ := getF X27 hx hZ hown (host := "") (Or.inl (hwi hw 34 rfl)) Via.refl e27 f31 (g := (mkF m 55 #[rv a, iv 1] [(.ref a), (.ref a)])) rfl rfl (hb hby d4_55)
  obtain ⟨T37, h37, X37, e37, W37, st37⟩ := putF X36 hx hZ hown (host := "") (Or.inl (hwi hw 34 rfl)) Via.refl e36 f31 f28 (Or.inl (hwi hw 35 rfl)) (hwi hw 3 rfl) (ty := .int) (by decide) rfl rfl (g := (mkF m 60 #[rv a, iv 1] [(.int 0), (.ref a)])) rfl rfl (hb hby d4_60)
  have f38 := f28.wr W37
  have f39 := f29.other W37 (Or.inr (slot_ne (Or.inl (hwi hw 14 rfl)) (Or.inl (hwi hw 35 rfl)) (by decide) (t := (.array (.array (.object "java/lang/Object")))) (t' := .int) (by decide) (by decide)))
  have f40 := f30.other W37 (Or.inr (slot_ne (Or.inl (hwi hw 51 rfl)) (Or.inl (hwi hw 35 rfl)) (by decide) (t := .int) (t' := .int) (by decide) (by decide)))
  have f42 := f35.other W37 (Or.inr (slot_ne (Or.inl (hwi hw 25 rfl)) (Or.inl (hwi hw 35 rfl)) (by decide) (t := .int) (t' := .int) (by decide) (by decide)))
  have f43 := f33.other W37 (Or.inr (slot_ne (Or.inl (hwi hw 47 rfl)) (Or.inl (hwi hw 35 rfl)) (by decide) (t := .boolean) (t' := .int) (by decide) (by decide)))
  have f44 := f34.other W37 (Ne.symm n_ar)
  have K37 : Keep h0 h37 [a, rg] := K27.wr W37 (Or.inl (List.mem_of_getElem? (i := 0) rfl))
  have N37 := Fr.snoc X37 N27 g_a
  have f45 : Fld Z h37 a "com/example/rowmotif/rowmotif/matcher/PartitionRows" "count" "I" (.int 0) := f31.same W37
  obtain ⟨T46, X46, e46, st46⟩ := getF X37 hx hZ hown (host := "") (Or.inl (hwi hw 24 rfl)) Via.refl e37 f42 (g := (mkF m 1 #[rv a, iv 1] [(.ref a)])) rfl rfl (hb hby d4_1)
  have pre47 : ∀ t_, Go p e below T46 (mkF m 66 #[rv a, iv 1] []) t_ → Go p e below s₁ (entryFrame m #[(.ref a), (.int 1)] 2) t_ := fun t_ kt => pre0 _ (by
      show Go p e below s₁ (mkF m 0 #[rv a, iv 1] []) _
      refine XS.aloadN X0.here hx rfl (hb hby d4_0) rfl rfl ?_
      show Go p e below s₁ (mkF m 1 #[rv a, iv 1] [(.ref a)]) _
      refine st1 _ ?_
      show Go p e below T1 (mkF m 4 #[rv a, iv 1] [(.int 0)]) _
      refine XS.iloadN X1.here hx rfl (hb hby d4_4) rfl ?_
      show Go p e below T1 (mkF m 5 #[rv a, iv 1] [(.int 1), (.int 0)]) _
      refine XS.icmpNo X1.here hx rfl (hb hby d4_5) rfl (tlt ((by decide) : (0 : Int32) < (1 : Int32))).2.1 ?_
      show Go p e below T1 (mkF m 8 #[rv a, iv 1] []) _
      refine XS.aloadN X1.here hx rfl (hb hby d4_8) rfl rfl ?_
      show Go p e below T1 (mkF m 9 #[rv a, iv 1] [(.ref a)]) _
      refine st2 _ ?_
      show Go p e below T2 (mkF m 12 #[rv a, iv 1] [(.int 1)]) _
      refine XS.ifNo X2.here hx rfl (hb hby d4_12) rfl ((if0 _ _).trans (tlt ((by decide) : (0 : Int32) < (1 : Int32))).2.2.2) ?_
      show Go p e below T2 (mkF m 15 #[rv a, iv 1] []) _
      refine XS.aloadN X2.here hx rfl (hb hby d4_15) rfl rfl ?_
      show Go p e below T2 (mkF m 16 #[rv a, iv 1] [(.ref a)]) _
      refine st3 _ ?_
      show Go p e below T3 (mkF m 19 #[rv a, iv 1] [(.ref rg)]) _
      refine XS.aloadN X3.here hx rfl (hb hby d4_19) rfl rfl ?_
      show Go p e below T3 (mkF m 20 #[rv a, iv 1] [(.ref a), (.ref rg)]) _
      refine st4 _ ?_
      show Go p e below T4 (mkF m 23 #[rv a, iv 1] [(.int 0), (.ref rg)]) _
      refine XS.aconstNull X4.here hx rfl (hb hby d4_23) ?_
      show Go p e below T4 (mkF m 24 #[rv a, iv 1] [.null, (.int 0), (.ref rg)]) _
      refine st6 _ ?_
      show Go p e below T6 (mkF m 25 #[rv a, iv 1] []) _
      refine XS.aloadN X6.here hx rfl (hb hby d4_25) rfl rfl ?_
      show Go p e below T6 (mkF m 26 #[rv a, iv 1] [(.ref a)]) _
      refine XS.aloadN X6.here hx rfl (hb hby d4_26) rfl rfl ?_
      show Go p e below T6 (mkF m 27 #[rv a, iv 1] [(.ref a), (.ref a)]) _
      refine st14 _ ?_
      show Go p e below T14 (mkF m 30 #[rv a, iv 1] [(.int 0), (.ref a)]) _
      refine XS.iconst X14.here hx rfl (hb hby d4_30) ?_
      show Go p e below T14 (mkF m 31 #[rv a, iv 1] [(.int 1), (.int 0), (.ref a)]) _
      refine XS.iadd X14.here hx rfl (hb hby d4_31) rfl ?_
      show Go p e below T14 (mkF m 32 #[rv a, iv 1] [(.int 1), (.ref a)]) _
      refine XS.aloadN X14.here hx rfl (hb hby d4_32) rfl rfl ?_
      show Go p e below T14 (mkF m 33 #[rv a, iv 1] [(.ref a), (.int 1), (.ref a)]) _
      refine st15 _ ?_
      show Go p e below T15 (mkF m 36 #[rv a, iv 1] [(.ref rg), (.int 1), (.ref a)]) _
      refine X15.arraylength hx (by rw [e15]; exact Ar16.1) (State.isArrayOf_alike hZ.alike Ar16.2.1) (g := (mkF m 36 #[rv a, iv 1] [(.ref rg), (.int 1), (.ref a)])) rfl rfl (hb hby d4_36) _ ?_
      rw [len_of Sa16 Na16]
      show Go p e below T15 (mkF m 37 #[rv a, iv 1] [(.int 16), (.int 1), (.ref a)]) _
      refine XS.iconst X15.here hx rfl (hb hby d4_37) ?_
      show Go p e below T15 (mkF m 38 #[rv a, iv 1] [(.int 1), (.int 16), (.int 1), (.ref a)]) _
      refine XS.isub X15.here hx rfl (hb hby d4_38) rfl ?_
      show Go p e below T15 (mkF m 39 #[rv a, iv 1] [(.int 15), (.int 1), (.ref a)]) _
      refine XS.iand X15.here hx rfl (hb hby d4_39) rfl ?_
      show Go p e below T15 (mkF m 40 #[rv a, iv 1] [(.int 1), (.ref a)]) _
      refine st17 _ ?_
      show Go p e below T17 (mkF m 43 #[rv a, iv 1] []) _
      refine XS.aloadN X17.here hx rfl (hb hby d4_43) rfl rfl ?_
      show Go p e below T17 (mkF m 44 #[rv a, iv 1] [(.ref a)]) _
      refine XS.dup X17.here hx rfl (hb hby d4_44) rfl rfl ?_
      show Go p e below T17 (mkF m 45 #[rv a, iv 1] [(.ref a), (.ref a)]) _
      refine st26 _ ?_
      show Go p e below T26 (mkF m 48 #[rv a, iv 1] [(.int 0), (.ref a)]) _
      refine XS.iconst X26.here hx rfl (hb hby d4_48) ?_
      show Go p e below T26 (mkF m 49 #[rv a, iv 1] [(.int 1), (.int 0), (.ref a)]) _
      refine XS.iadd X26.here hx rfl (hb hby d4_49) rfl ?_
      show Go p e below T26 (mkF m 50 #[rv a, iv 1] [(.int 1), (.ref a)]) _
      refine st27 _ ?_
      show Go p e below T27 (mkF m 53 #[rv a, iv 1] []) _
      refine XS.aloadN X27.here hx rfl (hb hby d4_53) rfl rfl ?_
      show Go p e below T27 (mkF m 54 #[rv a, iv 1] [(.ref a)]) _
      refine XS.dup X27.here hx rfl (hb hby d4_54) rfl rfl ?_
      show Go p e below T27 (mkF m 55 #[rv a, iv 1] [(.ref a), (.ref a)]) _
      refine st36 _ ?_
      show Go p e below T36 (mkF m 58 #[rv a, iv 1] [(.int 1), (.ref a)]) _
      refine XS.iconst X36.here hx rfl (hb hby d4_58) ?_
      show Go p e below T36 (mkF m 59 #[rv a, iv 1] [(.int 1), (.int 1), (.ref a)]) _
      refine XS.isub X36.here hx rfl (hb hby d4_59) rfl ?_
      show Go p e below T36 (mkF m 60 #[rv a, iv 1] [(.int 0), (.ref a)]) _
      refine st37 _ ?_
      show Go p e below T37 (mkF m 63 #[rv a, iv 1] []) _
      refine XS.goto X37.here hx rfl (pc0 := 63) (pc' := 0) rfl (hb hby d4_63) (by decide) (by decide) ?_
      show Go p e below T37 (mkF m 0 #[rv a, iv 1] []) _
      refine XS.aloadN X37.here hx rfl (hb hby d4_0) rfl rfl ?_
      show Go p e below T37 (mkF m 1 #[rv a, iv 1] [(.ref a)]) _
      refine st46 _ ?_
      show Go p e below T46 (mkF m 4 #[rv a, iv 1] [(.int 1)]) _
      refine XS.iloadN X46.here hx rfl (hb hby d4_4) rfl ?_
      show Go p e below T46 (mkF m 5 #[rv a, iv 1] [(.int 1), (.int 1)]) _
      refine XS.icmpYes X46.here hx rfl (pc0 := 5) (pc' := 66) rfl (hb hby d4_5) rfl (flt ((by decide) : ¬ ((1 : Int32) < (1 : Int32)))).2.1 (by decide) (by decide) ?_
      show Go p e below T46 (mkF m 66 #[rv a, iv 1] []) _
      exact kt)
  obtain ⟨fs, hr, hrun, hended, hW, hsame⟩ := X46.leave (v := none) (fun _ => rfl)
  refine ⟨_, _, pre47 _ ?_, hrun, hended, _, _, rfl, ?_, ⟨_, rfl⟩, hW, hsame.mono (by decide) (by decide)⟩
  · show Steps p.tables e below (T46.setTop (mkF m 66 #[rv a, iv 1] [])) _
    exact X46.returnOut hx Bd.returns (hb hby d4_66) hr
  · show Q_rmR0_1_1 Z a rg kr u0 u1 u2 h0 n0 _ T46.heap _
    rw [e46]
    exact ⟨rfl, N37, K37, ⟨f38, f39, f40, f45, f42, f43, f44, O_r, n_ar⟩⟩
def Q_rmR0_2_1 (Z : State) (a : Addr) (rg : Addr) (kr : ClassId) (u0 : Value) (u1 : Value) (u2 : Value) (h0 : Heap) (n0 : Nat) (v : Option Value) (h : Heap) (L : List Loc) : Prop := v = none ∧ Fr n0 L ∧ Keep h0 h [a, rg] ∧ Rg Z h a rg kr (1 : Int32) (1 : Int32) .null u1 u2
set_option maxRecDepth 65536 in
set_option maxHeartbeats 40000000 in
theorem rmR0_2_1 (l : Launch) (Z : State) (a0 : Array Value) (hw : ∀ d ∈ tables_1, d.before a0 Z = true) (ws : List Jvm.Cond) (a : Addr) (rg : Addr) (kr : ClassId) (u0 : Value) (u1 : Value) (u2 : Value) (h0 : Heap) (n0 : Nat) (Z0 : n0 ≤ h0.size) (hR : Rg Z h0 a rg kr (0 : Int32) (2 : Int32) u0 u1 u2) (g_a : n0 ≤ a) (g_r : n0 ≤ rg) :
    MetFree l (⟨"com/example/rowmotif/rowmotif/matcher/PartitionRows", "release", "(I)V"⟩ : MethodName) (head1 (Jvm.Cond.code (⟨"com/example/rowmotif/rowmotif/matcher/PartitionRows", "release", "(I)V"⟩ : MethodName) prog_78_method_8_code 2 none :: ws) ({ frames := 0, cells := 0, slots := 0, locals := 0 } : Room)) (fun av_ U_ => av_ = #[(.ref a), (.int 1)] ∧ Z.Warmed39 U_.vm ∧ U_.heap = h0) (fun _ _ _ _ _ => True) (fun _ U_ o_ V_ => ∃ v_ L_, o_ = .returned v_ ∧ Q_rmR0_2_1 Z a rg kr u0 u1 u2 h0 n0 v_ V_.heap L_ ∧ FrameEnd U_ o_ V_ L_ ({ frames := 0, cells := 0, slots := 0, locals := 0 } : Room).cells ({ frames := 0, cells := 0, slots := 0, locals := 0 } : Room).slots) := by
  refine MetFree.of_bodySF (plainFor_of_name pn_com_example_rowmotif_rowmotif_matcher_PartitionRows) hisR ?_
  intro p e s m args below meth c s₁ Bd hml0 hP hK
  obtain ⟨rfl, hZ, hh⟩ := hP
  have hx := Bd.exec
  have hby := Bd.bytes
  have hml : c.maxLocals = 2 := hml0
  have hown : s.vm.findClass "com/example/rowmotif/rowmotif/matcher/PartitionRows" = some m.cls := findClass_of_methodNamed Bd.named
  have hnm := (name_of_methodNamed Bd.named Bd.method).1
  have X0 : Stand p l e ({ frames := 0, cells := 0, slots := 0, locals := 0 } : Room) s m #[(.ref a), (.int 1)] below meth c s₁ [] 0 0 := Stand.of_body Bd
  have e0 : s₁.heap = h0 := by rw [← hh, Bd.state]; rfl
  have N0 := Fr.nil n0
  have pre0 : ∀ t_, Go p e below s₁ (mkF m 0 #[rv a, iv 1] []) t_ → Go p e below s₁ (entryFrame m #[(.ref a), (.int 1)] 2) t_ := fun t_ kt => castTop (ef_4 m a (1 : Int32)) kt
  obtain ⟨E_a, F_ring, F_head, F_count, F_first, F_complete, V_r, O_r, n_ar⟩ := hR
  obtain ⟨T1, X1, e1, st1⟩ := getF X0 hx hZ hown (host := "") (Or.inl (hwi hw 24 rfl)) Via.refl e0 F_first (g := (mkF m 1 #[rv a, iv 1] [(.ref a)])) rfl rfl (hb hby d4_1)
  obtain ⟨T2, X2, e2, st2⟩ := getF X1 hx hZ hown (host := "") (Or.inl (hwi hw 34 rfl)) Via.refl e1 F_count (g := (mkF m 9 #[rv a, iv 1] [(.ref a)])) rfl rfl (hb hby d4_9)
  obtain ⟨T3, X3, e3, st3⟩ := getF X2 hx hZ hown (host := "") (Or.inl (hwi hw 13 rfl)) Via.refl e2 F_ring (g := (mkF m 16 #[rv a, iv 1] [(.ref a)])) rfl rfl (hb hby d4_16)
  obtain ⟨T4, X4, e4, st4⟩ := getF X3 hx hZ hown (host := "") (Or.inl (hwi hw 50 rfl)) Via.refl e3 F_head (g := (mkF m 20 #[rv a, iv 1] [(.ref a), (.ref rg)])) rfl rfl (hb hby d4_20)
  obtain ⟨cl5, Ar5, qa5, Sa5, Na5, Ha5, Ga5⟩ := V_r
  have hin5 : ¬ ((0 : Int32) < 0 ∨ cl5.slots.size ≤ ((0 : Int32)).toNatClampNeg) := inb_of Sa5 ⟨by decide, by decide⟩
  obtain ⟨T6, h6, X6, e6, W6, st6⟩ := stR X4 hx hZ e4 Ar5 (j := (0 : Int32)) hin5 rfl (Or.inl rfl) (g := (mkF m 24 #[rv a, iv 1] [.null, (.int 0), (.ref rg)])) rfl rfl (hb hby d4_24)
  have f7 := E_a.wr W6
  have f8 := F_ring.other W6 (Or.inl n_ar)
  have f9 := F_head.other W6 (Or.inl n_ar)
  have f10 := F_count.other W6 (Or.inl n_ar)
  have f11 := F_first.other W6 (Or.inl n_ar)
  have f12 := F_complete.other W6 (Or.inl n_ar)
  have K6 : Keep h0 h6 [a, rg] := (Keep.refl h0 [a, rg]).wr W6 (Or.inl (List.mem_of_getElem? (i := 1) rfl))
  have N6 := Fr.snoc X6 N0 g_r
  have V6 : Arv Z h6 rg kr (.array (.object "java/lang/Object")) (16 : Int32) [.null, u1, u2] .null := Arv.set Ar5 qa5 Sa5 Na5 Ha5 Ga5 rfl W6 0 rfl (Nat.le_of_ble_eq_true rfl)
  obtain ⟨T14, X14, e14, st14⟩ := getF X6 hx hZ hown (host := "") (Or.inl (hwi hw 50 rfl)) Via.refl e6 f9 (g := (mkF m 27 #[rv a, iv 1] [(.ref a), (.ref a)])) rfl rfl (hb hby d4_27)
  obtain ⟨T15, X15, e15, st15⟩ := getF X14 hx hZ hown (host := "") (Or.inl (hwi hw 13 rfl)) Via.refl e14 f8 (g := (mkF m 33 #[rv a, iv 1] [(.ref a), (.int 1), (.ref a)])) rfl rfl (hb hby d4_33)
  obtain ⟨cl16, Ar16, qa16, Sa16, Na16, Ha16, Ga16⟩ := V6
  have V16 : Arv Z h6 rg kr (.array (.object "java/lang/Object")) (16 : Int32) [.null, u1, u2] .null := ⟨cl16, Ar16, qa16, Sa16, Na16, Ha16, Ga16⟩
  obtain ⟨T17, h17, X17, e17, W17, st17⟩ := putF X15 hx hZ hown (host := "") (Or.inl (hwi hw 50 rfl)) Via.refl e15 f9 f7 (Or.inl (hwi hw 51 rfl)) (hwi hw 3 rfl) (ty := .int) (by decide) rfl rfl (g := (mkF m 40 #[rv a, iv 1] [(.int 1), (.ref a)])) rfl rfl (hb hby d4_40)
  have f18 := f7.wr W17
  have f19 := f8.other W17 (Or.inr (slot_ne (Or.inl (hwi hw 14 rfl)) (Or.inl (hwi hw 51 rfl)) (by decide) (t := (.array (.array (.object "java/lang/Object")))) (t' := .int) (by decide) (by decide)))
  have f21 := f10.other W17 (Or.inr (slot_ne (Or.inl (hwi hw 35 rfl)) (Or.inl (hwi hw 51 rfl)) (by decide) (t := .int) (t' := .int) (by decide) (by decide)))
  have f22 := f11.other W17 (Or.inr (slot_ne (Or.inl (hwi hw 25 rfl)) (Or.inl (hwi hw 51 rfl)) (by decide) (t := .int) (t' := .int) (by decide) (by decide)))
  have f23 := f12.other W17 (Or.inr (slot_ne (Or.inl (hwi hw 47 rfl)) (Or.inl (hwi hw 51 rfl)) (by decide) (t := .boolean) (t' := .int) (by decide) (by decide)))
  have f24 := V16.other W17 (Ne.symm n_ar)
  have K17 : Keep h0 h17 [a, rg] := K6.wr W17 (Or.inl (List.mem_of_getElem? (i := 0) rfl))
  have N17 := Fr.snoc X17 N6 g_a
  have f25 : Fld Z h17 a "com/example/rowmotif/rowmotif/matcher/PartitionRows" "head" "I" (.int 1) := f9.same W17
  obtain ⟨T26, X26, e26, st26⟩ := getF X17 hx hZ hown (host := "") (Or.inl (hwi hw 24 rfl)) Via.refl e17 f22 (g := (mkF m 45 #[rv a, iv 1] [(.ref a), (.ref a)])) rfl rfl (hb hby d4_45)
  obtain ⟨T27, h27, X27, e27, W27, st27⟩ := putF X26 hx hZ hown (host := "") (Or.inl (hwi hw 24 rfl)) Via.refl e26 f22 f18 (Or.inl (hwi hw 25 rfl)) (hwi hw 3 rfl) (ty := .int) (by decide) rfl rfl (g := (mkF m 50 #[rv a, iv 1] [(.int 1), (.ref a)])) rfl rfl (hb hby d4_50)
  have f28 := f18.wr W27
  have f29 := f19.other W27 (Or.inr (slot_ne (Or.inl (hwi hw 14 rfl)) (Or.inl (hwi hw 25 rfl)) (by decide) (t := (.array (.array (.object "java/lang/Object")))) (t' := .int) (by decide) (by decide)))
  have f30 := f25.other W27 (Or.inr (slot_ne (Or.inl (hwi hw 51 rfl)) (Or.inl (hwi hw 25 rfl)) (by decide) (t := .int) (t' := .int) (by decide) (by decide)))
  have f31 := f21.other W27 (Or.inr (slot_ne (Or.inl (hwi hw 35 rfl)) (Or.inl (hwi hw 25 rfl)) (by decide) (t := .int) (t' := .int) (by decide) (by decide)))
  have f33 := f23.other W27 (Or.inr (slot_ne (Or.inl (hwi hw 47 rfl)) (Or.inl (hwi hw 25 rfl)) (by decide) (t := .boolean) (t' := .int) (by decide) (by decide)))
  have f34 := f24.other W27 (Ne.symm n_ar)
  have K27 : Keep h0 h27 [a, rg] := K17.wr W27 (Or.inl (List.mem_of_getElem? (i := 0) rfl))
  have N27 := Fr.snoc X27 N17 g_a
  have f35 : Fld Z h27 a "com/example/rowmotif/rowmotif/matcher/PartitionRows" "first" "I" (.int 1) := f22.same W27
  obtain ⟨T36, X36, e36, st36⟩ := getF X27 hx hZ hown (host := "") (Or.inl (hwi hw 34 rfl)) Via.refl e27 f31 (g := (mkF m 55 #[rv a, iv 1] [(.ref a), (.ref a)])) rfl rfl (hb hby d4_55)
  obtain ⟨T37, h37, X37, e37, W37, st37⟩ := putF X36 hx hZ hown (host := "") (Or.inl (hwi hw 34 rfl)) Via.refl e36 f31 f28 (Or.inl (hwi hw 35 rfl)) (hwi hw 3 rfl) (ty := .int) (by decide) rfl rfl (g := (mkF m 60 #[rv a, iv 1] [(.int 1), (.ref a)])) rfl rfl (hb hby d4_60)
  have f38 := f28.wr W37
  have f39 := f29.other W37 (Or.inr (slot_ne (Or.inl (hwi hw 14 rfl)) (Or.inl (hwi hw 35 rfl)) (by decide) (t := (.array (.array (.object "java/lang/Object")))) (t' := .int) (by decide) (by decide)))
  have f40 := f30.other W37 (Or.inr (slot_ne (Or.inl (hwi hw 51 rfl)) (Or.inl (hwi hw 35 rfl)) (by decide) (t := .int) (t' := .int) (by decide) (by decide)))
  have f42 := f35.other W37 (Or.inr (slot_ne (Or.inl (hwi hw 25 rfl)) (Or.inl (hwi hw 35 rfl)) (by decide) (t := .int) (t' := .int) (by decide) (by decide)))
  have f43 := f33.other W37 (Or.inr (slot_ne (Or.inl (hwi hw 47 rfl)) (Or.inl (hwi hw 35 rfl)) (by decide) (t := .boolean) (t' := .int) (by decide) (by decide)))
  have f44 := f34.other W37 (Ne.symm n_ar)
  have K37 : Keep h0 h37 [a, rg] := K27.wr W37 (Or.inl (List.mem_of_getElem? (i := 0) rfl))
  have N37 := Fr.snoc X37 N27 g_a
  have f45 : Fld Z h37 a "com/example/rowmotif/rowmotif/matcher/PartitionRows" "count" "I" (.int 1) := f31.same W37
  obtain ⟨T46, X46, e46, st46⟩ := getF X37 hx hZ hown (host := "") (Or.inl (hwi hw 24 rfl)) Via.refl e37 f42 (g := (mkF m 1 #[rv a, iv 1] [(.ref a)])) rfl rfl (hb hby d4_1)
  have pre47 : ∀ t_, Go p e below T46 (mkF m 66 #[rv a, iv 1] []) t_ → Go p e below s₁ (entryFrame m #[(.ref a), (.int 1)] 2) t_ := fun t_ kt => pre0 _ (by
      show Go p e below s₁ (mkF m 0 #[rv a, iv 1] []) _
      refine XS.aloadN X0.here hx rfl (hb hby d4_0) rfl rfl ?_
      show Go p e below s₁ (mkF m 1 #[rv a, iv 1] [(.ref a)]) _
      refine st1 _ ?_
      show Go p e below T1 (mkF m 4 #[rv a, iv 1] [(.int 0)]) _
      refine XS.iloadN X1.here hx rfl (hb hby d4_4) rfl ?_
      show Go p e below T1 (mkF m 5 #[rv a, iv 1] [(.int 1), (.int 0)]) _
      refine XS.icmpNo X1.here hx rfl (hb hby d4_5) rfl (tlt ((by decide) : (0 : Int32) < (1 : Int32))).2.1 ?_
      show Go p e below T1 (mkF m 8 #[rv a, iv 1] []) _
      refine XS.aloadN X1.here hx rfl (hb hby d4_8) rfl rfl ?_
      show Go p e below T1 (mkF m 9 #[rv a, iv 1] [(.ref a)]) _
      refine st2 _ ?_
      show Go p e below T2 (mkF m 12 #[rv a, iv 1] [(.int 2)]) _
      refine XS.ifNo X2.here hx rfl (hb hby d4_12) rfl ((if0 _ _).trans (tlt ((by decide) : (0 : Int32) < (2 : Int32))).2.2.2) ?_
      show Go p e below T2 (mkF m 15 #[rv a, iv 1] []) _
      refine XS.aloadN X2.here hx rfl (hb hby d4_15) rfl rfl ?_
      show Go p e below T2 (mkF m 16 #[rv a, iv 1] [(.ref a)]) _
      refine st3 _ ?_
      show Go p e below T3 (mkF m 19 #[rv a, iv 1] [(.ref rg)]) _
      refine XS.aloadN X3.here hx rfl (hb hby d4_19) rfl rfl ?_
      show Go p e below T3 (mkF m 20 #[rv a, iv 1] [(.ref a), (.ref rg)]) _
      refine st4 _ ?_
      show Go p e below T4 (mkF m 23 #[rv a, iv 1] [(.int 0), (.ref rg)]) _
      refine XS.aconstNull X4.here hx rfl (hb hby d4_23) ?_
      show Go p e below T4 (mkF m 24 #[rv a, iv 1] [.null, (.int 0), (.ref rg)]) _
      refine st6 _ ?_
      show Go p e below T6 (mkF m 25 #[rv a, iv 1] []) _
      refine XS.aloadN X6.here hx rfl (hb hby d4_25) rfl rfl ?_
      show Go p e below T6 (mkF m 26 #[rv a, iv 1] [(.ref a)]) _
      refine XS.aloadN X6.here hx rfl (hb hby d4_26) rfl rfl ?_
      show Go p e below T6 (mkF m 27 #[rv a, iv 1] [(.ref a), (.ref a)]) _
      refine st14 _ ?_
      show Go p e below T14 (mkF m 30 #[rv a, iv 1] [(.int 0), (.ref a)]) _
      refine XS.iconst X14.here hx rfl (hb hby d4_30) ?_
      show Go p e below T14 (mkF m 31 #[rv a, iv 1] [(.int 1), (.int 0), (.ref a)]) _
      refine XS.iadd X14.here hx rfl (hb hby d4_31) rfl ?_
      show Go p e below T14 (mkF m 32 #[rv a, iv 1] [(.int 1), (.ref a)]) _
      refine XS.aloadN X14.here hx rfl (hb hby d4_32) rfl rfl ?_
      show Go p e below T14 (mkF m 33 #[rv a, iv 1] [(.ref a), (.int 1), (.ref a)]) _
      refine st15 _ ?_
      show Go p e below T15 (mkF m 36 #[rv a, iv 1] [(.ref rg), (.int 1), (.ref a)]) _
      refine X15.arraylength hx (by rw [e15]; exact Ar16.1) (State.isArrayOf_alike hZ.alike Ar16.2.1) (g := (mkF m 36 #[rv a, iv 1] [(.ref rg), (.int 1), (.ref a)])) rfl rfl (hb hby d4_36) _ ?_
      rw [len_of Sa16 Na16]
      show Go p e below T15 (mkF m 37 #[rv a, iv 1] [(.int 16), (.int 1), (.ref a)]) _
      refine XS.iconst X15.here hx rfl (hb hby d4_37) ?_
      show Go p e below T15 (mkF m 38 #[rv a, iv 1] [(.int 1), (.int 16), (.int 1), (.ref a)]) _
      refine XS.isub X15.here hx rfl (hb hby d4_38) rfl ?_
      show Go p e below T15 (mkF m 39 #[rv a, iv 1] [(.int 15), (.int 1), (.ref a)]) _
      refine XS.iand X15.here hx rfl (hb hby d4_39) rfl ?_
      show Go p e below T15 (mkF m 40 #[rv a, iv 1] [(.int 1), (.ref a)]) _
      refine st17 _ ?_
      show Go p e below T17 (mkF m 43 #[rv a, iv 1] []) _
      refine XS.aloadN X17.here hx rfl (hb hby d4_43) rfl rfl ?_
      show Go p e below T17 (mkF m 44 #[rv a, iv 1] [(.ref a)]) _
      refine XS.dup X17.here hx rfl (hb hby d4_44) rfl rfl ?_
      show Go p e below T17 (mkF m 45 #[rv a, iv 1] [(.ref a), (.ref a)]) _
      refine st26 _ ?_
      show Go p e below T26 (mkF m 48 #[rv a, iv 1] [(.int 0), (.ref a)]) _
      refine XS.iconst X26.here hx rfl (hb hby d4_48) ?_
      show Go p e below T26 (mkF m 49 #[rv a, iv 1] [(.int 1), (.int 0), (.ref a)]) _
      refine XS.iadd X26.here hx rfl (hb hby d4_49) rfl ?_
      show Go p e below T26 (mkF m 50 #[rv a, iv 1] [(.int 1), (.ref a)]) _
      refine st27 _ ?_
      show Go p e below T27 (mkF m 53 #[rv a, iv 1] []) _
      refine XS.aloadN X27.here hx rfl (hb hby d4_53) rfl rfl ?_
      show Go p e below T27 (mkF m 54 #[rv a, iv 1] [(.ref a)]) _
      refine XS.dup X27.here hx rfl (hb hby d4_54) rfl rfl ?_
      show Go p e below T27 (mkF m 55 #[rv a, iv 1] [(.ref a), (.ref a)]) _
      refine st36 _ ?_
      show Go p e below T36 (mkF m 58 #[rv a, iv 1] [(.int 2), (.ref a)]) _
      refine XS.iconst X36.here hx rfl (hb hby d4_58) ?_
      show Go p e below T36 (mkF m 59 #[rv a, iv 1] [(.int 1), (.int 2), (.ref a)]) _
      refine XS.isub X36.here hx rfl (hb hby d4_59) rfl ?_
      show Go p e below T36 (mkF m 60 #[rv a, iv 1] [(.int 1), (.ref a)]) _
      refine st37 _ ?_
      show Go p e below T37 (mkF m 63 #[rv a, iv 1] []) _
      refine XS.goto X37.here hx rfl (pc0 := 63) (pc' := 0) rfl (hb hby d4_63) (by decide) (by decide) ?_
      show Go p e below T37 (mkF m 0 #[rv a, iv 1] []) _
      refine XS.aloadN X37.here hx rfl (hb hby d4_0) rfl rfl ?_
      show Go p e below T37 (mkF m 1 #[rv a, iv 1] [(.ref a)]) _
      refine st46 _ ?_
      show Go p e below T46 (mkF m 4 #[rv a, iv 1] [(.int 1)]) _
      refine XS.iloadN X46.here hx rfl (hb hby d4_4) rfl ?_
      show Go p e below T46 (mkF m 5 #[rv a, iv 1] [(.int 1), (.int 1)]) _
      refine XS.icmpYes X46.here hx rfl (pc0 := 5) (pc' := 66) rfl (hb hby d4_5) rfl (flt ((by decide) : ¬ ((1 : Int32) < (1 : Int32)))).2.1 (by decide) (by decide) ?_
      show Go p e below T46 (mkF m 66 #[rv a, iv 1] []) _
      exact kt)
  obtain ⟨fs, hr, hrun, hended, hW, hsame⟩ := X46.leave (v := none) (fun _ => rfl)
  refine ⟨_, _, pre47 _ ?_, hrun, hended, _, _, rfl, ?_, ⟨_, rfl⟩, hW, hsame.mono (by decide) (by decide)⟩
  · show Steps p.tables e below (T46.setTop (mkF m 66 #[rv a, iv 1] [])) _
    exact X46.returnOut hx Bd.returns (hb hby d4_66) hr
  · show Q_rmR0_2_1 Z a rg kr u0 u1 u2 h0 n0 _ T46.heap _
    rw [e46]
    exact ⟨rfl, N37, K37, ⟨f38, f39, f40, f45, f42, f43, f44, O_r, n_ar⟩⟩
def Q_rmR0_2_2 (Z : State) (a : Addr) (rg : Addr) (kr : ClassId) (u0 : Value) (u1 : Value) (u2 : Value) (h0 : Heap) (n0 : Nat) (v : Option Value) (h : Heap) (L : List Loc) : Prop := v = none ∧ Fr n0 L ∧ Keep h0 h [a, rg] ∧ Rg Z h a rg kr (2 : Int32) (0 : Int32) .null .null u2
set_option maxRecDepth 65536 in
set_option maxHeartbeats 40000000 in
theorem rmR0_2_2 (l : Launch) (Z : State) (a0 : Array Value) (hw : ∀ d ∈ tables_1, d.before a0 Z = true) (ws : List Jvm.Cond) (a : Addr) (rg : Addr) (kr : ClassId) (u0 : Value) (u1 : Value) (u2 : Value) (h0 : Heap) (n0 : Nat) (Z0 : n0 ≤ h0.size) (hR : Rg Z h0 a rg kr (0 : Int32) (2 : Int32) u0 u1 u2) (g_a : n0 ≤ a) (g_r : n0 ≤ rg) :
    MetFree l (⟨"com/example/rowmotif/rowmotif/matcher/PartitionRows", "release", "(I)V"⟩ : MethodName) (head1 (Jvm.Cond.code (⟨"com/example/rowmotif/rowmotif/matcher/PartitionRows", "release", "(I)V"⟩ : MethodName) prog_78_method_8_code 2 none :: ws) ({ frames := 0, cells := 0, slots := 0, locals := 0 } : Room)) (fun av_ U_ => av_ = #[(.ref a), (.int 2)] ∧ Z.Warmed39 U_.vm ∧ U_.heap = h0) (fun _ _ _ _ _ => True) (fun _ U_ o_ V_ => ∃ v_ L_, o_ = .returned v_ ∧ Q_rmR0_2_2 Z a rg kr u0 u1 u2 h0 n0 v_ V_.heap L_ ∧ FrameEnd U_ o_ V_ L_ ({ frames := 0, cells := 0, slots := 0, locals := 0 } : Room).cells ({ frames := 0, cells := 0, slots := 0, locals := 0 } : Room).slots) := by
  refine MetFree.of_bodySF (plainFor_of_name pn_com_example_rowmotif_rowmotif_matcher_PartitionRows) hisR ?_
  intro p e s m args below meth c s₁ Bd hml0 hP hK
  obtain ⟨rfl, hZ, hh⟩ := hP
  have hx := Bd.exec
  have hby := Bd.bytes
  have hml : c.maxLocals = 2 := hml0
  have hown : s.vm.findClass "com/example/rowmotif/rowmotif/matcher/PartitionRows" = some m.cls := findClass_of_methodNamed Bd.named
  have hnm := (name_of_methodNamed Bd.named Bd.method).1
  have X0 : Stand p l e ({ frames := 0, cells := 0, slots := 0, locals := 0 } : Room) s m #[(.ref a), (.int 2)] below meth c s₁ [] 0 0 := Stand.of_body Bd
  have e0 : s₁.heap = h0 := by rw [← hh, Bd.state]; rfl
  have N0 := Fr.nil n0
  have pre0 : ∀ t_, Go p e below s₁ (mkF m 0 #[rv a, iv 2] []) t_ → Go p e below s₁ (entryFrame m #[(.ref a), (.int 2)] 2) t_ := fun t_ kt => castTop (ef_4 m a (2 : Int32)) kt
  obtain ⟨E_a, F_ring, F_head, F_count, F_first, F_complete, V_r, O_r, n_ar⟩ := hR
  obtain ⟨T1, X1, e1, st1⟩ := getF X0 hx hZ hown (host := "") (Or.inl (hwi hw 24 rfl)) Via.refl e0 F_first (g := (mkF m 1 #[rv a, iv 2] [(.ref a)])) rfl rfl (hb hby d4_1)
  obtain ⟨T2, X2, e2, st2⟩ := getF X1 hx hZ hown (host := "") (Or.inl (hwi hw 34 rfl)) Via.refl e1 F_count (g := (mkF m 9 #[rv a, iv 2] [(.ref a)])) rfl rfl (hb hby d4_9)
  obtain ⟨T3, X3, e3, st3⟩ := getF X2 hx hZ hown (host := "") (Or.inl (hwi hw 13 rfl)) Via.refl e2 F_ring (g := (mkF m 16 #[rv a, iv 2] [(.ref a)])) rfl rfl (hb hby d4_16)
  obtain ⟨T4, X4, e4, st4⟩ := getF X3 hx hZ hown (host := "") (Or.inl (hwi hw 50 rfl)) Via.refl e3 F_head (g := (mkF m 20 #[rv a, iv 2] [(.ref a), (.ref rg)])) rfl rfl (hb hby d4_20)
  obtain ⟨cl5, Ar5, qa5, Sa5, Na5, Ha5, Ga5⟩ := V_r
  have hin5 : ¬ ((0 : Int32) < 0 ∨ cl5.slots.size ≤ ((0 : Int32)).toNatClampNeg) := inb_of Sa5 ⟨by decide, by decide⟩
  obtain ⟨T6, h6, X6, e6, W6, st6⟩ := stR X4 hx hZ e4 Ar5 (j := (0 : Int32)) hin5 rfl (Or.inl rfl) (g := (mkF m 24 #[rv a, iv 2] [.null, (.int 0), (.ref rg)])) rfl rfl (hb hby d4_24)
  have f7 := E_a.wr W6
  have f8 := F_ring.other W6 (Or.inl n_ar)
  have f9 := F_head.other W6 (Or.inl n_ar)
  have f10 := F_count.other W6 (Or.inl n_ar)
  have f11 := F_first.other W6 (Or.inl n_ar)
  have f12 := F_complete.other W6 (Or.inl n_ar)
  have K6 : Keep h0 h6 [a, rg] := (Keep.refl h0 [a, rg]).wr W6 (Or.inl (List.mem_of_getElem? (i := 1) rfl))
  have N6 := Fr.snoc X6 N0 g_r
  have V6 : Arv Z h6 rg kr (.array (.object "java/lang/Object")) (16 : Int32) [.null, u1, u2] .null := Arv.set Ar5 qa5 Sa5 Na5 Ha5 Ga5 rfl W6 0 rfl (Nat.le_of_ble_eq_true rfl)
  obtain ⟨T14, X14, e14, st14⟩ := getF X6 hx hZ hown (host := "") (Or.inl (hwi hw 50 rfl)) Via.refl e6 f9 (g := (mkF m 27 #[rv a, iv 2] [(.ref a), (.ref a)])) rfl rfl (hb hby d4_27)
  obtain ⟨T15, X15, e15, st15⟩ := getF X14 hx hZ hown (host := "") (Or.inl (hwi hw 13 rfl)) Via.refl e14 f8 (g := (mkF m 33 #[rv a, iv 2] [(.ref a), (.int 1), (.ref a)])) rfl rfl (hb hby d4_33)
  obtain ⟨cl16, Ar16, qa16, Sa16, Na16, Ha16, Ga16⟩ := V6
  have V16 : Arv Z h6 rg kr (.array (.object "java/lang/Object")) (16 : Int32) [.null, u1, u2] .null := ⟨cl16, Ar16, qa16, Sa16, Na16, Ha16, Ga16⟩
  obtain ⟨T17, h17, X17, e17, W17, st17⟩ := putF X15 hx hZ hown (host := "") (Or.inl (hwi hw 50 rfl)) Via.refl e15 f9 f7 (Or.inl (hwi hw 51 rfl)) (hwi hw 3 rfl) (ty := .int) (by decide) rfl rfl (g := (mkF m 40 #[rv a, iv 2] [(.int 1), (.ref a)])) rfl rfl (hb hby d4_40)
  have f18 := f7.wr W17
  have f19 := f8.other W17 (Or.inr (slot_ne (Or.inl (hwi hw 14 rfl)) (Or.inl (hwi hw 51 rfl)) (by decide) (t := (.array (.array (.object "java/lang/Object")))) (t' := .int) (by decide) (by decide)))
  have f21 := f10.other W17 (Or.inr (slot_ne (Or.inl (hwi hw 35 rfl)) (Or.inl (hwi hw 51 rfl)) (by decide) (t := .int) (t' := .int) (by decide) (by decide)))
  have f22 := f11.other W17 (Or.inr (slot_ne (Or.inl (hwi hw 25 rfl)) (Or.inl (hwi hw 51 rfl)) (by decide) (t := .int) (t' := .int) (by decide) (by decide)))
  have f23 := f12.other W17 (Or.inr (slot_ne (Or.inl (hwi hw 47 rfl)) (Or.inl (hwi hw 51 rfl)) (by decide) (t := .boolean) (t' := .int) (by decide) (by decide)))
  have f24 := V16.other W17 (Ne.symm n_ar)
  have K17 : Keep h0 h17 [a, rg] := K6.wr W17 (Or.inl (List.mem_of_getElem? (i := 0) rfl))
  have N17 := Fr.snoc X17 N6 g_a
  have f25 : Fld Z h17 a "com/example/rowmotif/rowmotif/matcher/PartitionRows" "head" "I" (.int 1) := f9.same W17
  obtain ⟨T26, X26, e26, st26⟩ := getF X17 hx hZ hown (host := "") (Or.inl (hwi hw 24 rfl)) Via.refl e17 f22 (g := (mkF m 45 #[rv a, iv 2] [(.ref a), (.ref a)])) rfl rfl (hb hby d4_45)
  obtain ⟨T27, h27, X27, e27, W27, st27⟩ := putF X26 hx hZ hown (host := "") (Or.inl (hwi hw 24 rfl)) Via.refl e26 f22 f18 (Or.inl (hwi hw 25 rfl)) (hwi hw 3 rfl) (ty := .int) (by decide) rfl rfl (g := (mkF m 50 #[rv a, iv 2] [(.int 1), (.ref a)])) rfl rfl (hb hby d4_50)
  have f28 := f18.wr W27
  have f29 := f19.other W27 (Or.inr (slot_ne (Or.inl (hwi hw 14 rfl)) (Or.inl (hwi hw 25 rfl)) (by decide) (t := (.array (.array (.object "java/lang/Object")))) (t' := .int) (by decide) (by decide)))
  have f30 := f25.other W27 (Or.inr (slot_ne (Or.inl (hwi hw 51 rfl)) (Or.inl (hwi hw 25 rfl)) (by decide) (t := .int) (t' := .int) (by decide) (by decide)))
  have f31 := f21.other W27 (Or.inr (slot_ne (Or.inl (hwi hw 35 rfl)) (Or.inl (hwi hw 25 rfl)) (by decide) (t := .int) (t' := .int) (by decide) (by decide)))
  have f33 := f23.other W27 (Or.inr (slot_ne (Or.inl (hwi hw 47 rfl)) (Or.inl (hwi hw 25 rfl)) (by decide) (t := .boolean) (t' := .int) (by decide) (by decide)))
  have f34 := f24.other W27 (Ne.symm n_ar)
  have K27 : Keep h0 h27 [a, rg] := K17.wr W27 (Or.inl (List.mem_of_getElem? (i := 0) rfl))
  have N27 := Fr.snoc X27 N17 g_a
  have f35 : Fld Z h27 a "com/example/rowmotif/rowmotif/matcher/PartitionRows" "first" "I" (.int 1) := f22.same W27
  obtain ⟨T36, X36, e36, st36⟩ := getF X27 hx hZ hown (host := "") (Or.inl (hwi hw 34 rfl)) Via.refl e27 f31 (g := (mkF m 55 #[rv a, iv 2] [(.ref a), (.ref a)])) rfl rfl (hb hby d4_55)
  obtain ⟨T37, h37, X37, e37, W37, st37⟩ := putF X36 hx hZ hown (host := "") (Or.inl (hwi hw 34 rfl)) Via.refl e36 f31 f28 (Or.inl (hwi hw 35 rfl)) (hwi hw 3 rfl) (ty := .int) (by decide) rfl rfl (g := (mkF m 60 #[rv a, iv 2] [(.int 1), (.ref a)])) rfl rfl (hb hby d4_60)
  have f38 := f28.wr W37
  have f39 := f29.other W37 (Or.inr (slot_ne (Or.inl (hwi hw 14 rfl)) (Or.inl (hwi hw 35 rfl)) (by decide) (t := (.array (.array (.object "java/lang/Object")))) (t' := .int) (by decide) (by decide)))
  have f40 := f30.other W37 (Or.inr (slot_ne (Or.inl (hwi hw 51 rfl)) (Or.inl (hwi hw 35 rfl)) (by decide) (t := .int) (t' := .int) (by decide) (by decide)))
  have f42 := f35.other W37 (Or.inr (slot_ne (Or.inl (hwi hw 25 rfl)) (Or.inl (hwi hw 35 rfl)) (by decide) (t := .int) (t' := .int) (by decide) (by decide)))
  have f43 := f33.other W37 (Or.inr (slot_ne (Or.inl (hwi hw 47 rfl)) (Or.inl (hwi hw 35 rfl)) (by decide) (t := .boolean) (t' := .int) (by decide) (by decide)))
  have f44 := f34.other W37 (Ne.symm n_ar)
  have K37 : Keep h0 h37 [a, rg] := K27.wr W37 (Or.inl (List.mem_of_getElem? (i := 0) rfl))
  have N37 := Fr.snoc X37 N27 g_a
  have f45 : Fld Z h37 a "com/example/rowmotif/rowmotif/matcher/PartitionRows" "count" "I" (.int 1) := f31.same W37
  obtain ⟨T46, X46, e46, st46⟩ := getF X37 hx hZ hown (host := "") (Or.inl (hwi hw 24 rfl)) Via.refl e37 f42 (g := (mkF m 1 #[rv a, iv 2] [(.ref a)])) rfl rfl (hb hby d4_1)
  obtain ⟨T47, X47, e47, st47⟩ := getF X46 hx hZ hown (host := "") (Or.inl (hwi hw 34 rfl)) Via.refl e46 f45 (g := (mkF m 9 #[rv a, iv 2] [(.ref a)])) rfl rfl (hb hby d4_9)
  obtain ⟨T48, X48, e48, st48⟩ := getF X47 hx hZ hown (host := "") (Or.inl (hwi hw 13 rfl)) Via.refl e47 f39 (g := (mkF m 16 #[rv a, iv 2] [(.ref a)])) rfl rfl (hb hby d4_16)
  obtain ⟨T49, X49, e49, st49⟩ := getF X48 hx hZ hown (host := "") (Or.inl (hwi hw 50 rfl)) Via.refl e48 f40 (g := (mkF m 20 #[rv a, iv 2] [(.ref a), (.ref rg)])) rfl rfl (hb hby d4_20)
  obtain ⟨cl50, Ar50, qa50, Sa50, Na50, Ha50, Ga50⟩ := f44
  have hin50 : ¬ ((1 : Int32) < 0 ∨ cl50.slots.size ≤ ((1 : Int32)).toNatClampNeg) := inb_of Sa50 ⟨by decide, by decide⟩
  obtain ⟨T51, h51, X51, e51, W51, st51⟩ := stR X49 hx hZ e49 Ar50 (j := (1 : Int32)) hin50 rfl (Or.inl rfl) (g := (mkF m 24 #[rv a, iv 2] [.null, (.int 1), (.ref rg)])) rfl rfl (hb hby d4_24)
  have f52 := f38.wr W51
  have f53 := f39.other W51 (Or.inl n_ar)
  have f54 := f40.other W51 (Or.inl n_ar)
  have f55 := f45.other W51 (Or.inl n_ar)
  have f56 := f42.other W51 (Or.inl n_ar)
  have f57 := f43.other W51 (Or.inl n_ar)
  have K51 : Keep h0 h51 [a, rg] := K37.wr W51 (Or.inl (List.mem_of_getElem? (i := 1) rfl))
  have N51 := Fr.snoc X51 N37 g_r
  have V51 : Arv Z h51 rg kr (.array (.object "java/lang/Object")) (16 : Int32) [.null, .null, u2] .null := Arv.set Ar50 qa50 Sa50 Na50 Ha50 Ga50 rfl W51 1 rfl (Nat.le_of_ble_eq_true rfl)
  obtain ⟨T59, X59, e59, st59⟩ := getF X51 hx hZ hown (host := "") (Or.inl (hwi hw 50 rfl)) Via.refl e51 f54 (g := (mkF m 27 #[rv a, iv 2] [(.ref a), (.ref a)])) rfl rfl (hb hby d4_27)
  obtain ⟨T60, X60, e60, st60⟩ := getF X59 hx hZ hown (host := "") (Or.inl (hwi hw 13 rfl)) Via.refl e59 f53 (g := (mkF m 33 #[rv a, iv 2] [(.ref a), (.int 2), (.ref a)])) rfl rfl (hb hby d4_33)
  obtain ⟨cl61, Ar61, qa61, Sa61, Na61, Ha61, Ga61⟩ := V51
  have V61 : Arv Z h51 rg kr (.array (.object "java/lang/Object")) (16 : Int32) [.null, .null, u2] .null := ⟨cl61, Ar61, qa61, Sa61, Na61, Ha61, Ga61⟩
  obtain ⟨T62, h62, X62, e62, W62, st62⟩ := putF X60 hx hZ hown (host := "") (Or.inl (hwi hw 50 rfl)) Via.refl e60 f54 f52 (Or.inl (hwi hw 51 rfl)) (hwi hw 3 rfl) (ty := .int) (by decide) rfl rfl (g := (mkF m 40 #[rv a, iv 2] [(.int 2), (.ref a)])) rfl rfl (hb hby d4_40)
  have f63 := f52.wr W62
  have f64 := f53.other W62 (Or.inr (slot_ne (Or.inl (hwi hw 14 rfl)) (Or.inl (hwi hw 51 rfl)) (by decide) (t := (.array (.array (.object "java/lang/Object")))) (t' := .int) (by decide) (by decide)))
  have f66 := f55.other W62 (Or.inr (slot_ne (Or.inl (hwi hw 35 rfl)) (Or.inl (hwi hw 51 rfl)) (by decide) (t := .int) (t' := .int) (by decide) (by decide)))
  have f67 := f56.other W62 (Or.inr (slot_ne (Or.inl (hwi hw 25 rfl)) (Or.inl (hwi hw 51 rfl)) (by decide) (t := .int) (t' := .int) (by decide) (by decide)))
  have f68 := f57.other W62 (Or.inr (slot_ne (Or.inl (hwi hw 47 rfl)) (Or.inl (hwi hw 51 rfl)) (by decide) (t := .boolean) (t' := .int) (by decide) (by decide)))
  have f69 := V61.other W62 (Ne.symm n_ar)
  have K62 : Keep h0 h62 [a, rg] := K51.wr W62 (Or.inl (List.mem_of_getElem? (i := 0) rfl))
  have N62 := Fr.snoc X62 N51 g_a
  have f70 : Fld Z h62 a "com/example/rowmotif/rowmotif/matcher/PartitionRows" "head" "I" (.int 2) := f54.same W62
  obtain ⟨T71, X71, e71, st71⟩ := getF X62 hx hZ hown (host := "") (Or.inl (hwi hw 24 rfl)) Via.refl e62 f67 (g := (mkF m 45 #[rv a, iv 2] [(.ref a), (.ref a)])) rfl rfl (hb hby d4_45)
  obtain ⟨T72, h72, X72, e72, W72, st72⟩ := putF X71 hx hZ hown (host := "") (Or.inl (hwi hw 24 rfl)) Via.refl e71 f67 f63 (Or.inl (hwi hw 25 rfl)) (hwi hw 3 rfl) (ty := .int) (by decide) rfl rfl (g := (mkF m 50 #[rv a, iv 2] [(.int 2), (.ref a)])) rfl rfl (hb hby d4_50)
  have f73 := f63.wr W72
  have f74 := f64.other W72 (Or.inr (slot_ne (Or.inl (hwi hw 14 rfl)) (Or.inl (hwi hw 25 rfl)) (by decide) (t := (.array (.array (.object "java/lang/Object")))) (t' := .int) (by decide) (by decide)))
  have f75 := f70.other W72 (Or.inr (slot_ne (Or.inl (hwi hw 51 rfl)) (Or.inl (hwi hw 25 rfl)) (by decide) (t := .int) (t' := .int) (by decide) (by decide)))
  have f76 := f66.other W72 (Or.inr (slot_ne (Or.inl (hwi hw 35 rfl)) (Or.inl (hwi hw 25 rfl)) (by decide) (t := .int) (t' := .int) (by decide) (by decide)))
  have f78 := f68.other W72 (Or.inr (slot_ne (Or.inl (hwi hw 47 rfl)) (Or.inl (hwi hw 25 rfl)) (by decide) (t := .boolean) (t' := .int) (by decide) (by decide)))
  have f79 := f69.other W72 (Ne.symm n_ar)
  have K72 : Keep h0 h72 [a, rg] := K62.wr W72 (Or.inl (List.mem_of_getElem? (i := 0) rfl))
  have N72 := Fr.snoc X72 N62 g_a
  have f80 : Fld Z h72 a "com/example/rowmotif/rowmotif/matcher/PartitionRows" "first" "I" (.int 2) := f67.same W72
  obtain ⟨T81, X81, e81, st81⟩ := getF X72 hx hZ hown (host := "") (Or.inl (hwi hw 34 rfl)) Via.refl e72 f76 (g := (mkF m 55 #[rv a, iv 2] [(.ref a), (.ref a)])) rfl rfl (hb hby d4_55)
  obtain ⟨T82, h82, X82, e82, W82, st82⟩ := putF X81 hx hZ hown (host := "") (Or.inl (hwi hw 34 rfl)) Via.refl e81 f76 f73 (Or.inl (hwi hw 35 rfl)) (hwi hw 3 rfl) (ty := .int) (by decide) rfl rfl (g := (mkF m 60 #[rv a, iv 2] [(.int 0), (.ref a)])) rfl rfl (hb hby d4_60)
  have f83 := f73.wr W82
  have f84 := f74.other W82 (Or.inr (slot_ne (Or.inl (hwi hw 14 rfl)) (Or.inl (hwi hw 35 rfl)) (by decide) (t := (.array (.array (.object "java/lang/Object")))) (t' := .int) (by decide) (by decide)))
  have f85 := f75.other W82 (Or.inr (slot_ne (Or.inl (hwi hw 51 rfl)) (Or.inl (hwi hw 35 rfl)) (by decide) (t := .int) (t' := .int) (by decide) (by decide)))
  have f87 := f80.other W82 (Or.inr (slot_ne (Or.inl (hwi hw 25 rfl)) (Or.inl (hwi hw 35 rfl)) (by decide) (t := .int) (t' := .int) (by decide) (by decide)))
  have f88 := f78.other W82 (Or.inr (slot_ne (Or.inl (hwi hw 47 rfl)) (Or.inl (hwi hw 35 rfl)) (by decide) (t := .boolean) (t' := .int) (by decide) (by decide)))
  have f89 := f79.other W82 (Ne.symm n_ar)
  have K82 : Keep h0 h82 [a, rg] := K72.wr W82 (Or.inl (List.mem_of_getElem? (i := 0) rfl))
  have N82 := Fr.snoc X82 N72 g_a
  have f90 : Fld Z h82 a "com/example/rowmotif/rowmotif/matcher/PartitionRows" "count" "I" (.int 0) := f76.same W82
  obtain ⟨T91, X91, e91, st91⟩ := getF X82 hx hZ hown (host := "") (Or.inl (hwi hw 24 rfl)) Via.refl e82 f87 (g := (mkF m 1 #[rv a, iv 2] [(.ref a)])) rfl rfl (hb hby d4_1)
  have pre92 : ∀ t_, Go p e below T91 (mkF m 66 #[rv a, iv 2] []) t_ → Go p e below s₁ (entryFrame m #[(.ref a), (.int 2)] 2) t_ := fun t_ kt => pre0 _ (by
      show Go p e below s₁ (mkF m 0 #[rv a, iv 2] []) _
      refine XS.aloadN X0.here hx rfl (hb hby d4_0) rfl rfl ?_
      show Go p e below s₁ (mkF m 1 #[rv a, iv 2] [(.ref a)]) _
      refine st1 _ ?_
      show Go p e below T1 (mkF m 4 #[rv a, iv 2] [(.int 0)]) _
      refine XS.iloadN X1.here hx rfl (hb hby d4_4) rfl ?_
      show Go p e below T1 (mkF m 5 #[rv a, iv 2] [(.int 2), (.int 0)]) _
      refine XS.icmpNo X1.here hx rfl (hb hby d4_5) rfl (tlt ((by decide) : (0 : Int32) < (2 : Int32))).2.1 ?_
      show Go p e below T1 (mkF m 8 #[rv a, iv 2] []) _
      refine XS.aloadN X1.here hx rfl (hb hby d4_8) rfl rfl ?_
      show Go p e below T1 (mkF m 9 #[rv a, iv 2] [(.ref a)]) _
      refine st2 _ ?_
      show Go p e below T2 (mkF m 12 #[rv a, iv 2] [(.int 2)]) _
      refine XS.ifNo X2.here hx rfl (hb hby d4_12) rfl ((if0 _ _).trans (tlt ((by decide) : (0 : Int32) < (2 : Int32))).2.2.2) ?_
      show Go p e below T2 (mkF m 15 #[rv a, iv 2] []) _
      refine XS.aloadN X2.here hx rfl (hb hby d4_15) rfl rfl ?_
      show Go p e below T2 (mkF m 16 #[rv a, iv 2] [(.ref a)]) _
      refine st3 _ ?_
      show Go p e below T3 (mkF m 19 #[rv a, iv 2] [(.ref rg)]) _
      refine XS.aloadN X3.here hx rfl (hb hby d4_19) rfl rfl ?_
      show Go p e below T3 (mkF m 20 #[rv a, iv 2] [(.ref a), (.ref rg)]) _
      refine st4 _ ?_
      show Go p e below T4 (mkF m 23 #[rv a, iv 2] [(.int 0), (.ref rg)]) _
      refine XS.aconstNull X4.here hx rfl (hb hby d4_23) ?_
      show Go p e below T4 (mkF m 24 #[rv a, iv 2] [.null, (.int 0), (.ref rg)]) _
      refine st6 _ ?_
      show Go p e below T6 (mkF m 25 #[rv a, iv 2] []) _
      refine XS.aloadN X6.here hx rfl (hb hby d4_25) rfl rfl ?_
      show Go p e below T6 (mkF m 26 #[rv a, iv 2] [(.ref a)]) _
      refine XS.aloadN X6.here hx rfl (hb hby d4_26) rfl rfl ?_
      show Go p e below T6 (mkF m 27 #[rv a, iv 2] [(.ref a), (.ref a)]) _
      refine st14 _ ?_
      show Go p e below T14 (mkF m 30 #[rv a, iv 2] [(.int 0), (.ref a)]) _
      refine XS.iconst X14.here hx rfl (hb hby d4_30) ?_
      show Go p e below T14 (mkF m 31 #[rv a, iv 2] [(.int 1), (.int 0), (.ref a)]) _
      refine XS.iadd X14.here hx rfl (hb hby d4_31) rfl ?_
      show Go p e below T14 (mkF m 32 #[rv a, iv 2] [(.int 1), (.ref a)]) _
      refine XS.aloadN X14.here hx rfl (hb hby d4_32) rfl rfl ?_
      show Go p e below T14 (mkF m 33 #[rv a, iv 2] [(.ref a), (.int 1), (.ref a)]) _
      refine st15 _ ?_
      show Go p e below T15 (mkF m 36 #[rv a, iv 2] [(.ref rg), (.int 1), (.ref a)]) _
      refine X15.arraylength hx (by rw [e15]; exact Ar16.1) (State.isArrayOf_alike hZ.alike Ar16.2.1) (g := (mkF m 36 #[rv a, iv 2] [(.ref rg), (.int 1), (.ref a)])) rfl rfl (hb hby d4_36) _ ?_
      rw [len_of Sa16 Na16]
      show Go p e below T15 (mkF m 37 #[rv a, iv 2] [(.int 16), (.int 1), (.ref a)]) _
      refine XS.iconst X15.here hx rfl (hb hby d4_37) ?_
      show Go p e below T15 (mkF m 38 #[rv a, iv 2] [(.int 1), (.int 16), (.int 1), (.ref a)]) _
      refine XS.isub X15.here hx rfl (hb hby d4_38) rfl ?_
      show Go p e below T15 (mkF m 39 #[rv a, iv 2] [(.int 15), (.int 1), (.ref a)]) _
      refine XS.iand X15.here hx rfl (hb hby d4_39) rfl ?_
      show Go p e below T15 (mkF m 40 #[rv a, iv 2] [(.int 1), (.ref a)]) _
      refine st17 _ ?_
      show Go p e below T17 (mkF m 43 #[rv a, iv 2] []) _
      refine XS.aloadN X17.here hx rfl (hb hby d4_43) rfl rfl ?_
      show Go p e below T17 (mkF m 44 #[rv a, iv 2] [(.ref a)]) _
      refine XS.dup X17.here hx rfl (hb hby d4_44) rfl rfl ?_
      show Go p e below T17 (mkF m 45 #[rv a, iv 2] [(.ref a), (.ref a)]) _
      refine st26 _ ?_
      show Go p e below T26 (mkF m 48 #[rv a, iv 2] [(.int 0), (.ref a)]) _
      refine XS.iconst X26.here hx rfl (hb hby d4_48) ?_
      show Go p e below T26 (mkF m 49 #[rv a, iv 2] [(.int 1), (.int 0), (.ref a)]) _
      refine XS.iadd X26.here hx rfl (hb hby d4_49) rfl ?_
      show Go p e below T26 (mkF m 50 #[rv a, iv 2] [(.int 1), (.ref a)]) _
      refine st27 _ ?_
      show Go p e below T27 (mkF m 53 #[rv a, iv 2] []) _
      refine XS.aloadN X27.here hx rfl (hb hby d4_53) rfl rfl ?_
      show Go p e below T27 (mkF m 54 #[rv a, iv 2] [(.ref a)]) _
      refine XS.dup X27.here hx rfl (hb hby d4_54) rfl rfl ?_
      show Go p e below T27 (mkF m 55 #[rv a, iv 2] [(.ref a), (.ref a)]) _
      refine st36 _ ?_
      show Go p e below T36 (mkF m 58 #[rv a, iv 2] [(.int 2), (.ref a)]) _
      refine XS.iconst X36.here hx rfl (hb hby d4_58) ?_
      show Go p e below T36 (mkF m 59 #[rv a, iv 2] [(.int 1), (.int 2), (.ref a)]) _
      refine XS.isub X36.here hx rfl (hb hby d4_59) rfl ?_
      show Go p e below T36 (mkF m 60 #[rv a, iv 2] [(.int 1), (.ref a)]) _
      refine st37 _ ?_
      show Go p e below T37 (mkF m 63 #[rv a, iv 2] []) _
      refine XS.goto X37.here hx rfl (pc0 := 63) (pc' := 0) rfl (hb hby d4_63) (by decide) (by decide) ?_
      show Go p e below T37 (mkF m 0 #[rv a, iv 2] []) _
      refine XS.aloadN X37.here hx rfl (hb hby d4_0) rfl rfl ?_
      show Go p e below T37 (mkF m 1 #[rv a, iv 2] [(.ref a)]) _
      refine st46 _ ?_
      show Go p e below T46 (mkF m 4 #[rv a, iv 2] [(.int 1)]) _
      refine XS.iloadN X46.here hx rfl (hb hby d4_4) rfl ?_
      show Go p e below T46 (mkF m 5 #[rv a, iv 2] [(.int 2), (.int 1)]) _
      refine XS.icmpNo X46.here hx rfl (hb hby d4_5) rfl (tlt ((by decide) : (1 : Int32) < (2 : Int32))).2.1 ?_
      show Go p e below T46 (mkF m 8 #[rv a, iv 2] []) _
      refine XS.aloadN X46.here hx rfl (hb hby d4_8) rfl rfl ?_
      show Go p e below T46 (mkF m 9 #[rv a, iv 2] [(.ref a)]) _
      refine st47 _ ?_
      show Go p e below T47 (mkF m 12 #[rv a, iv 2] [(.int 1)]) _
      refine XS.ifNo X47.here hx rfl (hb hby d4_12) rfl ((if0 _ _).trans (tlt ((by decide) : (0 : Int32) < (1 : Int32))).2.2.2) ?_
      show Go p e below T47 (mkF m 15 #[rv a, iv 2] []) _
      refine XS.aloadN X47.here hx rfl (hb hby d4_15) rfl rfl ?_
      show Go p e below T47 (mkF m 16 #[rv a, iv 2] [(.ref a)]) _
      refine st48 _ ?_
      show Go p e below T48 (mkF m 19 #[rv a, iv 2] [(.ref rg)]) _
      refine XS.aloadN X48.here hx rfl (hb hby d4_19) rfl rfl ?_
      show Go p e below T48 (mkF m 20 #[rv a, iv 2] [(.ref a), (.ref rg)]) _
      refine st49 _ ?_
      show Go p e below T49 (mkF m 23 #[rv a, iv 2] [(.int 1), (.ref rg)]) _
      refine XS.aconstNull X49.here hx rfl (hb hby d4_23) ?_
      show Go p e below T49 (mkF m 24 #[rv a, iv 2] [.null, (.int 1), (.ref rg)]) _
      refine st51 _ ?_
      show Go p e below T51 (mkF m 25 #[rv a, iv 2] []) _
      refine XS.aloadN X51.here hx rfl (hb hby d4_25) rfl rfl ?_
      show Go p e below T51 (mkF m 26 #[rv a, iv 2] [(.ref a)]) _
      refine XS.aloadN X51.here hx rfl (hb hby d4_26) rfl rfl ?_
      show Go p e below T51 (mkF m 27 #[rv a, iv 2] [(.ref a), (.ref a)]) _
      refine st59 _ ?_
      show Go p e below T59 (mkF m 30 #[rv a, iv 2] [(.int 1), (.ref a)]) _
      refine XS.iconst X59.here hx rfl (hb hby d4_30) ?_
      show Go p e below T59 (mkF m 31 #[rv a, iv 2] [(.int 1), (.int 1), (.ref a)]) _
      refine XS.iadd X59.here hx rfl (hb hby d4_31) rfl ?_
      show Go p e below T59 (mkF m 32 #[rv a, iv 2] [(.int 2), (.ref a)]) _
      refine XS.aloadN X59.here hx rfl (hb hby d4_32) rfl rfl ?_
      show Go p e below T59 (mkF m 33 #[rv a, iv 2] [(.ref a), (.int 2), (.ref a)]) _
      refine st60 _ ?_
      show Go p e below T60 (mkF m 36 #[rv a, iv 2] [(.ref rg), (.int 2), (.ref a)]) _
      refine X60.arraylength hx (by rw [e60]; exact Ar61.1) (State.isArrayOf_alike hZ.alike Ar61.2.1) (g := (mkF m 36 #[rv a, iv 2] [(.ref rg), (.int 2), (.ref a)])) rfl rfl (hb hby d4_36) _ ?_
      rw [len_of Sa61 Na61]
      show Go p e below T60 (mkF m 37 #[rv a, iv 2] [(.int 16), (.int 2), (.ref a)]) _
      refine XS.iconst X60.here hx rfl (hb hby d4_37) ?_
      show Go p e below T60 (mkF m 38 #[rv a, iv 2] [(.int 1), (.int 16), (.int 2), (.ref a)]) _
      refine XS.isub X60.here hx rfl (hb hby d4_38) rfl ?_
      show Go p e below T60 (mkF m 39 #[rv a, iv 2] [(.int 15), (.int 2), (.ref a)]) _
      refine XS.iand X60.here hx rfl (hb hby d4_39) rfl ?_
      show Go p e below T60 (mkF m 40 #[rv a, iv 2] [(.int 2), (.ref a)]) _
      refine st62 _ ?_
      show Go p e below T62 (mkF m 43 #[rv a, iv 2] []) _
      refine XS.aloadN X62.here hx rfl (hb hby d4_43) rfl rfl ?_
      show Go p e below T62 (mkF m 44 #[rv a, iv 2] [(.ref a)]) _
      refine XS.dup X62.here hx rfl (hb hby d4_44) rfl rfl ?_
      show Go p e below T62 (mkF m 45 #[rv a, iv 2] [(.ref a), (.ref a)]) _
      refine st71 _ ?_
      show Go p e below T71 (mkF m 48 #[rv a, iv 2] [(.int 1), (.ref a)]) _
      refine XS.iconst X71.here hx rfl (hb hby d4_48) ?_
      show Go p e below T71 (mkF m 49 #[rv a, iv 2] [(.int 1), (.int 1), (.ref a)]) _
      refine XS.iadd X71.here hx rfl (hb hby d4_49) rfl ?_
      show Go p e below T71 (mkF m 50 #[rv a, iv 2] [(.int 2), (.ref a)]) _
      refine st72 _ ?_
      show Go p e below T72 (mkF m 53 #[rv a, iv 2] []) _
      refine XS.aloadN X72.here hx rfl (hb hby d4_53) rfl rfl ?_
      show Go p e below T72 (mkF m 54 #[rv a, iv 2] [(.ref a)]) _
      refine XS.dup X72.here hx rfl (hb hby d4_54) rfl rfl ?_
      show Go p e below T72 (mkF m 55 #[rv a, iv 2] [(.ref a), (.ref a)]) _
      refine st81 _ ?_
      show Go p e below T81 (mkF m 58 #[rv a, iv 2] [(.int 1), (.ref a)]) _
      refine XS.iconst X81.here hx rfl (hb hby d4_58) ?_
      show Go p e below T81 (mkF m 59 #[rv a, iv 2] [(.int 1), (.int 1), (.ref a)]) _
      refine XS.isub X81.here hx rfl (hb hby d4_59) rfl ?_
      show Go p e below T81 (mkF m 60 #[rv a, iv 2] [(.int 0), (.ref a)]) _
      refine st82 _ ?_
      show Go p e below T82 (mkF m 63 #[rv a, iv 2] []) _
      refine XS.goto X82.here hx rfl (pc0 := 63) (pc' := 0) rfl (hb hby d4_63) (by decide) (by decide) ?_
      show Go p e below T82 (mkF m 0 #[rv a, iv 2] []) _
      refine XS.aloadN X82.here hx rfl (hb hby d4_0) rfl rfl ?_
      show Go p e below T82 (mkF m 1 #[rv a, iv 2] [(.ref a)]) _
      refine st91 _ ?_
      show Go p e below T91 (mkF m 4 #[rv a, iv 2] [(.int 2)]) _
      refine XS.iloadN X91.here hx rfl (hb hby d4_4) rfl ?_
      show Go p e below T91 (mkF m 5 #[rv a, iv 2] [(.int 2), (.int 2)]) _
      refine XS.icmpYes X91.here hx rfl (pc0 := 5) (pc' := 66) rfl (hb hby d4_5) rfl (flt ((by decide) : ¬ ((2 : Int32) < (2 : Int32)))).2.1 (by decide) (by decide) ?_
      show Go p e below T91 (mkF m 66 #[rv a, iv 2] []) _
      exact kt)
  obtain ⟨fs, hr, hrun, hended, hW, hsame⟩ := X91.leave (v := none) (fun _ => rfl)
  refine ⟨_, _, pre92 _ ?_, hrun, hended, _, _, rfl, ?_, ⟨_, rfl⟩, hW, hsame.mono (by decide) (by decide)⟩
  · show Steps p.tables e below (T91.setTop (mkF m 66 #[rv a, iv 2] [])) _
    exact X91.returnOut hx Bd.returns (hb hby d4_66) hr
  · show Q_rmR0_2_2 Z a rg kr u0 u1 u2 h0 n0 _ T91.heap _
    rw [e91]
    exact ⟨rfl, N82, K82, ⟨f83, f84, f85, f90, f87, f88, f89, O_r, n_ar⟩⟩
def Q_rmR1_1_1 (Z : State) (a : Addr) (rg : Addr) (kr : ClassId) (u0 : Value) (u1 : Value) (u2 : Value) (h0 : Heap) (n0 : Nat) (v : Option Value) (h : Heap) (L : List Loc) : Prop := v = none ∧ Fr n0 L ∧ Keep h0 h [a, rg] ∧ Rg Z h a rg kr (2 : Int32) (0 : Int32) u0 .null u2
set_option maxRecDepth 65536 in
set_option maxHeartbeats 40000000 in
theorem rmR1_1_1 (l : Launch) (Z : State) (a0 : Array Value) (hw : ∀ d ∈ tables_1, d.before a0 Z = true) (ws : List Jvm.Cond) (a : Addr) (rg : Addr) (kr : ClassId) (u0 : Value) (u1 : Value) (u2 : Value) (h0 : Heap) (n0 : Nat) (Z0 : n0 ≤ h0.size) (hR : Rg Z h0 a rg kr (1 : Int32) (1 : Int32) u0 u1 u2) (g_a : n0 ≤ a) (g_r : n0 ≤ rg) :
    MetFree l (⟨"com/example/rowmotif/rowmotif/matcher/PartitionRows", "release", "(I)V"⟩ : MethodName) (head1 (Jvm.Cond.code (⟨"com/example/rowmotif/rowmotif/matcher/PartitionRows", "release", "(I)V"⟩ : MethodName) prog_78_method_8_code 2 none :: ws) ({ frames := 0, cells := 0, slots := 0, locals := 0 } : Room)) (fun av_ U_ => av_ = #[(.ref a), (.int 2)] ∧ Z.Warmed39 U_.vm ∧ U_.heap = h0) (fun _ _ _ _ _ => True) (fun _ U_ o_ V_ => ∃ v_ L_, o_ = .returned v_ ∧ Q_rmR1_1_1 Z a rg kr u0 u1 u2 h0 n0 v_ V_.heap L_ ∧ FrameEnd U_ o_ V_ L_ ({ frames := 0, cells := 0, slots := 0, locals := 0 } : Room).cells ({ frames := 0, cells := 0, slots := 0, locals := 0 } : Room).slots) := by
  refine MetFree.of_bodySF (plainFor_of_name pn_com_example_rowmotif_rowmotif_matcher_PartitionRows) hisR ?_
  intro p e s m args below meth c s₁ Bd hml0 hP hK
  obtain ⟨rfl, hZ, hh⟩ := hP
  have hx := Bd.exec
  have hby := Bd.bytes
  have hml : c.maxLocals = 2 := hml0
  have hown : s.vm.findClass "com/example/rowmotif/rowmotif/matcher/PartitionRows" = some m.cls := findClass_of_methodNamed Bd.named
  have hnm := (name_of_methodNamed Bd.named Bd.method).1
  have X0 : Stand p l e ({ frames := 0, cells := 0, slots := 0, locals := 0 } : Room) s m #[(.ref a), (.int 2)] below meth c s₁ [] 0 0 := Stand.of_body Bd
  have e0 : s₁.heap = h0 := by rw [← hh, Bd.state]; rfl
  have N0 := Fr.nil n0
  have pre0 : ∀ t_, Go p e below s₁ (mkF m 0 #[rv a, iv 2] []) t_ → Go p e below s₁ (entryFrame m #[(.ref a), (.int 2)] 2) t_ := fun t_ kt => castTop (ef_4 m a (2 : Int32)) kt
  obtain ⟨E_a, F_ring, F_head, F_count, F_first, F_complete, V_r, O_r, n_ar⟩ := hR
  obtain ⟨T1, X1, e1, st1⟩ := getF X0 hx hZ hown (host := "") (Or.inl (hwi hw 24 rfl)) Via.refl e0 F_first (g := (mkF m 1 #[rv a, iv 2] [(.ref a)])) rfl rfl (hb hby d4_1)
  obtain ⟨T2, X2, e2, st2⟩ := getF X1 hx hZ hown (host := "") (Or.inl (hwi hw 34 rfl)) Via.refl e1 F_count (g := (mkF m 9 #[rv a, iv 2] [(.ref a)])) rfl rfl (hb hby d4_9)
  obtain ⟨T3, X3, e3, st3⟩ := getF X2 hx hZ hown (host := "") (Or.inl (hwi hw 13 rfl)) Via.refl e2 F_ring (g := (mkF m 16 #[rv a, iv 2] [(.ref a)])) rfl rfl (hb hby d4_16)
  obtain ⟨T4, X4, e4, st4⟩ := getF X3 hx hZ hown (host := "") (Or.inl (hwi hw 50 rfl)) Via.refl e3 F_head (g := (mkF m 20 #[rv a, iv 2] [(.ref a), (.ref rg)])) rfl rfl (hb hby d4_20)
  obtain ⟨cl5, Ar5, qa5, Sa5, Na5, Ha5, Ga5⟩ := V_r
  have hin5 : ¬ ((1 : Int32) < 0 ∨ cl5.slots.size ≤ ((1 : Int32)).toNatClampNeg) := inb_of Sa5 ⟨by decide, by decide⟩
  obtain ⟨T6, h6, X6, e6, W6, st6⟩ := stR X4 hx hZ e4 Ar5 (j := (1 : Int32)) hin5 rfl (Or.inl rfl) (g := (mkF m 24 #[rv a, iv 2] [.null, (.int 1), (.ref rg)])) rfl rfl (hb hby d4_24)
  have f7 := E_a.wr W6
  have f8 := F_ring.other W6 (Or.inl n_ar)
  have f9 := F_head.other W6 (Or.inl n_ar)
  have f10 := F_count.other W6 (Or.inl n_ar)
  have f11 := F_first.other W6 (Or.inl n_ar)
  have f12 := F_complete.other W6 (Or.inl n_ar)
  have K6 : Keep h0 h6 [a, rg] := (Keep.refl h0 [a, rg]).wr W6 (Or.inl (List.mem_of_getElem? (i := 1) rfl))
  have N6 := Fr.snoc X6 N0 g_r
  have V6 : Arv Z h6 rg kr (.array (.object "java/lang/Object")) (16 : Int32) [u0, .null, u2] .null := Arv.set Ar5 qa5 Sa5 Na5 Ha5 Ga5 rfl W6 1 rfl (Nat.le_of_ble_eq_true rfl)
  obtain ⟨T14, X14, e14, st14⟩ := getF X6 hx hZ hown (host := "") (Or.inl (hwi hw 50 rfl)) Via.refl e6 f9 (g := (mkF m 27 #[rv a, iv 2] [(.ref a), (.ref a)])) rfl rfl (hb hby d4_27)
  obtain ⟨T15, X15, e15, st15⟩ := getF X14 hx hZ hown (host := "") (Or.inl (hwi hw 13 rfl)) Via.refl e14 f8 (g := (mkF m 33 #[rv a, iv 2] [(.ref a), (.int 2), (.ref a)])) rfl rfl (hb hby d4_33)
  obtain ⟨cl16, Ar16, qa16, Sa16, Na16, Ha16, Ga16⟩ := V6
  have V16 : Arv Z h6 rg kr (.array (.object "java/lang/Object")) (16 : Int32) [u0, .null, u2] .null := ⟨cl16, Ar16, qa16, Sa16, Na16, Ha16, Ga16⟩
  obtain ⟨T17, h17, X17, e17, W17, st17⟩ := putF X15 hx hZ hown (host := "") (Or.inl (hwi hw 50 rfl)) Via.refl e15 f9 f7 (Or.inl (hwi hw 51 rfl)) (hwi hw 3 rfl) (ty := .int) (by decide) rfl rfl (g := (mkF m 40 #[rv a, iv 2] [(.int 2), (.ref a)])) rfl rfl (hb hby d4_40)
  have f18 := f7.wr W17
  have f19 := f8.other W17 (Or.inr (slot_ne (Or.inl (hwi hw 14 rfl)) (Or.inl (hwi hw 51 rfl)) (by decide) (t := (.array (.array (.object "java/lang/Object")))) (t' := .int) (by decide) (by decide)))
  have f21 := f10.other W17 (Or.inr (slot_ne (Or.inl (hwi hw 35 rfl)) (Or.inl (hwi hw 51 rfl)) (by decide) (t := .int) (t' := .int) (by decide) (by decide)))
  have f22 := f11.other W17 (Or.inr (slot_ne (Or.inl (hwi hw 25 rfl)) (Or.inl (hwi hw 51 rfl)) (by decide) (t := .int) (t' := .int) (by decide) (by decide)))
  have f23 := f12.other W17 (Or.inr (slot_ne (Or.inl (hwi hw 47 rfl)) (Or.inl (hwi hw 51 rfl)) (by decide) (t := .boolean) (t' := .int) (by decide) (by decide)))
  have f24 := V16.other W17 (Ne.symm n_ar)
  have K17 : Keep h0 h17 [a, rg] := K6.wr W17 (Or.inl (List.mem_of_getElem? (i := 0) rfl))
  have N17 := Fr.snoc X17 N6 g_a
  have f25 : Fld Z h17 a "com/example/rowmotif/rowmotif/matcher/PartitionRows" "head" "I" (.int 2) := f9.same W17
  obtain ⟨T26, X26, e26, st26⟩ := getF X17 hx hZ hown (host := "") (Or.inl (hwi hw 24 rfl)) Via.refl e17 f22 (g := (mkF m 45 #[rv a, iv 2] [(.ref a), (.ref a)])) rfl rfl (hb hby d4_45)
  obtain ⟨T27, h27, X27, e27, W27, st27⟩ := putF X26 hx hZ hown (host := "") (Or.inl (hwi hw 24 rfl)) Via.refl e26 f22 f18 (Or.inl (hwi hw 25 rfl)) (hwi hw 3 rfl) (ty := .int) (by decide) rfl rfl (g := (mkF m 50 #[rv a, iv 2] [(.int 2), (.ref a)])) rfl rfl (hb hby d4_50)
  have f28 := f18.wr W27
  have f29 := f19.other W27 (Or.inr (slot_ne (Or.inl (hwi hw 14 rfl)) (Or.inl (hwi hw 25 rfl)) (by decide) (t := (.array (.array (.object "java/lang/Object")))) (t' := .int) (by decide) (by decide)))
  have f30 := f25.other W27 (Or.inr (slot_ne (Or.inl (hwi hw 51 rfl)) (Or.inl (hwi hw 25 rfl)) (by decide) (t := .int) (t' := .int) (by decide) (by decide)))
  have f31 := f21.other W27 (Or.inr (slot_ne (Or.inl (hwi hw 35 rfl)) (Or.inl (hwi hw 25 rfl)) (by decide) (t := .int) (t' := .int) (by decide) (by decide)))
  have f33 := f23.other W27 (Or.inr (slot_ne (Or.inl (hwi hw 47 rfl)) (Or.inl (hwi hw 25 rfl)) (by decide) (t := .boolean) (t' := .int) (by decide) (by decide)))
  have f34 := f24.other W27 (Ne.symm n_ar)
  have K27 : Keep h0 h27 [a, rg] := K17.wr W27 (Or.inl (List.mem_of_getElem? (i := 0) rfl))
  have N27 := Fr.snoc X27 N17 g_a
  have f35 : Fld Z h27 a "com/example/rowmotif/rowmotif/matcher/PartitionRows" "first" "I" (.int 2) := f22.same W27
  obtain ⟨T36, X36, e36, st36⟩ := getF X27 hx hZ hown (host := "") (Or.inl (hwi hw 34 rfl)) Via.refl e27 f31 (g := (mkF m 55 #[rv a, iv 2] [(.ref a), (.ref a)])) rfl rfl (hb hby d4_55)
  obtain ⟨T37, h37, X37, e37, W37, st37⟩ := putF X36 hx hZ hown (host := "") (Or.inl (hwi hw 34 rfl)) Via.refl e36 f31 f28 (Or.inl (hwi hw 35 rfl)) (hwi hw 3 rfl) (ty := .int) (by decide) rfl rfl (g := (mkF m 60 #[rv a, iv 2] [(.int 0), (.ref a)])) rfl rfl (hb hby d4_60)
  have f38 := f28.wr W37
  have f39 := f29.other W37 (Or.inr (slot_ne (Or.inl (hwi hw 14 rfl)) (Or.inl (hwi hw 35 rfl)) (by decide) (t := (.array (.array (.object "java/lang/Object")))) (t' := .int) (by decide) (by decide)))
  have f40 := f30.other W37 (Or.inr (slot_ne (Or.inl (hwi hw 51 rfl)) (Or.inl (hwi hw 35 rfl)) (by decide) (t := .int) (t' := .int) (by decide) (by decide)))
  have f42 := f35.other W37 (Or.inr (slot_ne (Or.inl (hwi hw 25 rfl)) (Or.inl (hwi hw 35 rfl)) (by decide) (t := .int) (t' := .int) (by decide) (by decide)))
  have f43 := f33.other W37 (Or.inr (slot_ne (Or.inl (hwi hw 47 rfl)) (Or.inl (hwi hw 35 rfl)) (by decide) (t := .boolean) (t' := .int) (by decide) (by decide)))
  have f44 := f34.other W37 (Ne.symm n_ar)
  have K37 : Keep h0 h37 [a, rg] := K27.wr W37 (Or.inl (List.mem_of_getElem? (i := 0) rfl))
  have N37 := Fr.snoc X37 N27 g_a
  have f45 : Fld Z h37 a "com/example/rowmotif/rowmotif/matcher/PartitionRows" "count" "I" (.int 0) := f31.same W37
  obtain ⟨T46, X46, e46, st46⟩ := getF X37 hx hZ hown (host := "") (Or.inl (hwi hw 24 rfl)) Via.refl e37 f42 (g := (mkF m 1 #[rv a, iv 2] [(.ref a)])) rfl rfl (hb hby d4_1)
  have pre47 : ∀ t_, Go p e below T46 (mkF m 66 #[rv a, iv 2] []) t_ → Go p e below s₁ (entryFrame m #[(.ref a), (.int 2)] 2) t_ := fun t_ kt => pre0 _ (by
      show Go p e below s₁ (mkF m 0 #[rv a, iv 2] []) _
      refine XS.aloadN X0.here hx rfl (hb hby d4_0) rfl rfl ?_
      show Go p e below s₁ (mkF m 1 #[rv a, iv 2] [(.ref a)]) _
      refine st1 _ ?_
      show Go p e below T1 (mkF m 4 #[rv a, iv 2] [(.int 1)]) _
      refine XS.iloadN X1.here hx rfl (hb hby d4_4) rfl ?_
      show Go p e below T1 (mkF m 5 #[rv a, iv 2] [(.int 2), (.int 1)]) _
      refine XS.icmpNo X1.here hx rfl (hb hby d4_5) rfl (tlt ((by decide) : (1 : Int32) < (2 : Int32))).2.1 ?_
      show Go p e below T1 (mkF m 8 #[rv a, iv 2] []) _
      refine XS.aloadN X1.here hx rfl (hb hby d4_8) rfl rfl ?_
      show Go p e below T1 (mkF m 9 #[rv a, iv 2] [(.ref a)]) _
      refine st2 _ ?_
      show Go p e below T2 (mkF m 12 #[rv a, iv 2] [(.int 1)]) _
      refine XS.ifNo X2.here hx rfl (hb hby d4_12) rfl ((if0 _ _).trans (tlt ((by decide) : (0 : Int32) < (1 : Int32))).2.2.2) ?_
      show Go p e below T2 (mkF m 15 #[rv a, iv 2] []) _
      refine XS.aloadN X2.here hx rfl (hb hby d4_15) rfl rfl ?_
      show Go p e below T2 (mkF m 16 #[rv a, iv 2] [(.ref a)]) _
      refine st3 _ ?_
      show Go p e below T3 (mkF m 19 #[rv a, iv 2] [(.ref rg)]) _
      refine XS.aloadN X3.here hx rfl (hb hby d4_19) rfl rfl ?_
      show Go p e below T3 (mkF m 20 #[rv a, iv 2] [(.ref a), (.ref rg)]) _
      refine st4 _ ?_
      show Go p e below T4 (mkF m 23 #[rv a, iv 2] [(.int 1), (.ref rg)]) _
      refine XS.aconstNull X4.here hx rfl (hb hby d4_23) ?_
      show Go p e below T4 (mkF m 24 #[rv a, iv 2] [.null, (.int 1), (.ref rg)]) _
      refine st6 _ ?_
      show Go p e below T6 (mkF m 25 #[rv a, iv 2] []) _
      refine XS.aloadN X6.here hx rfl (hb hby d4_25) rfl rfl ?_
      show Go p e below T6 (mkF m 26 #[rv a, iv 2] [(.ref a)]) _
      refine XS.aloadN X6.here hx rfl (hb hby d4_26) rfl rfl ?_
      show Go p e below T6 (mkF m 27 #[rv a, iv 2] [(.ref a), (.ref a)]) _
      refine st14 _ ?_
      show Go p e below T14 (mkF m 30 #[rv a, iv 2] [(.int 1), (.ref a)]) _
      refine XS.iconst X14.here hx rfl (hb hby d4_30) ?_
      show Go p e below T14 (mkF m 31 #[rv a, iv 2] [(.int 1), (.int 1), (.ref a)]) _
      refine XS.iadd X14.here hx rfl (hb hby d4_31) rfl ?_
      show Go p e below T14 (mkF m 32 #[rv a, iv 2] [(.int 2), (.ref a)]) _
      refine XS.aloadN X14.here hx rfl (hb hby d4_32) rfl rfl ?_
      show Go p e below T14 (mkF m 33 #[rv a, iv 2] [(.ref a), (.int 2), (.ref a)]) _
      refine st15 _ ?_
      show Go p e below T15 (mkF m 36 #[rv a, iv 2] [(.ref rg), (.int 2), (.ref a)]) _
      refine X15.arraylength hx (by rw [e15]; exact Ar16.1) (State.isArrayOf_alike hZ.alike Ar16.2.1) (g := (mkF m 36 #[rv a, iv 2] [(.ref rg), (.int 2), (.ref a)])) rfl rfl (hb hby d4_36) _ ?_
      rw [len_of Sa16 Na16]
      show Go p e below T15 (mkF m 37 #[rv a, iv 2] [(.int 16), (.int 2), (.ref a)]) _
      refine XS.iconst X15.here hx rfl (hb hby d4_37) ?_
      show Go p e below T15 (mkF m 38 #[rv a, iv 2] [(.int 1), (.int 16), (.int 2), (.ref a)]) _
      refine XS.isub X15.here hx rfl (hb hby d4_38) rfl ?_
      show Go p e below T15 (mkF m 39 #[rv a, iv 2] [(.int 15), (.int 2), (.ref a)]) _
      refine XS.iand X15.here hx rfl (hb hby d4_39) rfl ?_
      show Go p e below T15 (mkF m 40 #[rv a, iv 2] [(.int 2), (.ref a)]) _
      refine st17 _ ?_
      show Go p e below T17 (mkF m 43 #[rv a, iv 2] []) _
      refine XS.aloadN X17.here hx rfl (hb hby d4_43) rfl rfl ?_
      show Go p e below T17 (mkF m 44 #[rv a, iv 2] [(.ref a)]) _
      refine XS.dup X17.here hx rfl (hb hby d4_44) rfl rfl ?_
      show Go p e below T17 (mkF m 45 #[rv a, iv 2] [(.ref a), (.ref a)]) _
      refine st26 _ ?_
      show Go p e below T26 (mkF m 48 #[rv a, iv 2] [(.int 1), (.ref a)]) _
      refine XS.iconst X26.here hx rfl (hb hby d4_48) ?_
      show Go p e below T26 (mkF m 49 #[rv a, iv 2] [(.int 1), (.int 1), (.ref a)]) _
      refine XS.iadd X26.here hx rfl (hb hby d4_49) rfl ?_
      show Go p e below T26 (mkF m 50 #[rv a, iv 2] [(.int 2), (.ref a)]) _
      refine st27 _ ?_
      show Go p e below T27 (mkF m 53 #[rv a, iv 2] []) _
      refine XS.aloadN X27.here hx rfl (hb hby d4_53) rfl rfl ?_
      show Go p e below T27 (mkF m 54 #[rv a, iv 2] [(.ref a)]) _
      refine XS.dup X27.here hx rfl (hb hby d4_54) rfl rfl ?_
      show Go p e below T27 (mkF m 55 #[rv a, iv 2] [(.ref a), (.ref a)]) _
      refine st36 _ ?_
      show Go p e below T36 (mkF m 58 #[rv a, iv 2] [(.int 1), (.ref a)]) _
      refine XS.iconst X36.here hx rfl (hb hby d4_58) ?_
      show Go p e below T36 (mkF m 59 #[rv a, iv 2] [(.int 1), (.int 1), (.ref a)]) _
      refine XS.isub X36.here hx rfl (hb hby d4_59) rfl ?_
      show Go p e below T36 (mkF m 60 #[rv a, iv 2] [(.int 0), (.ref a)]) _
      refine st37 _ ?_
      show Go p e below T37 (mkF m 63 #[rv a, iv 2] []) _
      refine XS.goto X37.here hx rfl (pc0 := 63) (pc' := 0) rfl (hb hby d4_63) (by decide) (by decide) ?_
      show Go p e below T37 (mkF m 0 #[rv a, iv 2] []) _
      refine XS.aloadN X37.here hx rfl (hb hby d4_0) rfl rfl ?_
      show Go p e below T37 (mkF m 1 #[rv a, iv 2] [(.ref a)]) _
      refine st46 _ ?_
      show Go p e below T46 (mkF m 4 #[rv a, iv 2] [(.int 2)]) _
      refine XS.iloadN X46.here hx rfl (hb hby d4_4) rfl ?_
      show Go p e below T46 (mkF m 5 #[rv a, iv 2] [(.int 2), (.int 2)]) _
      refine XS.icmpYes X46.here hx rfl (pc0 := 5) (pc' := 66) rfl (hb hby d4_5) rfl (flt ((by decide) : ¬ ((2 : Int32) < (2 : Int32)))).2.1 (by decide) (by decide) ?_
      show Go p e below T46 (mkF m 66 #[rv a, iv 2] []) _
      exact kt)
  obtain ⟨fs, hr, hrun, hended, hW, hsame⟩ := X46.leave (v := none) (fun _ => rfl)
  refine ⟨_, _, pre47 _ ?_, hrun, hended, _, _, rfl, ?_, ⟨_, rfl⟩, hW, hsame.mono (by decide) (by decide)⟩
  · show Steps p.tables e below (T46.setTop (mkF m 66 #[rv a, iv 2] [])) _
    exact X46.returnOut hx Bd.returns (hb hby d4_66) hr
  · show Q_rmR1_1_1 Z a rg kr u0 u1 u2 h0 n0 _ T46.heap _
    rw [e46]
    exact ⟨rfl, N37, K37, ⟨f38, f39, f40, f45, f42, f43, f44, O_r, n_ar⟩⟩
def Q_rmR0_3_1 (Z : State) (a : Addr) (rg : Addr) (kr : ClassId) (u0 : Value) (u1 : Value) (u2 : Value) (h0 : Heap) (n0 : Nat) (v : Option Value) (h : Heap) (L : List Loc) : Prop := v = none ∧ Fr n0 L ∧ Keep h0 h [a, rg] ∧ Rg Z h a rg kr (1 : Int32) (2 : Int32) .null u1 u2
set_option maxRecDepth 65536 in
set_option maxHeartbeats 40000000 in
theorem rmR0_3_1 (l : Launch) (Z : State) (a0 : Array Value) (hw : ∀ d ∈ tables_1, d.before a0 Z = true) (ws : List Jvm.Cond) (a : Addr) (rg : Addr) (kr : ClassId) (u0 : Value) (u1 : Value) (u2 : Value) (h0 : Heap) (n0 : Nat) (Z0 : n0 ≤ h0.size) (hR : Rg Z h0 a rg kr (0 : Int32) (3 : Int32) u0 u1 u2) (g_a : n0 ≤ a) (g_r : n0 ≤ rg) :
    MetFree l (⟨"com/example/rowmotif/rowmotif/matcher/PartitionRows", "release", "(I)V"⟩ : MethodName) (head1 (Jvm.Cond.code (⟨"com/example/rowmotif/rowmotif/matcher/PartitionRows", "release", "(I)V"⟩ : MethodName) prog_78_method_8_code 2 none :: ws) ({ frames := 0, cells := 0, slots := 0, locals := 0 } : Room)) (fun av_ U_ => av_ = #[(.ref a), (.int 1)] ∧ Z.Warmed39 U_.vm ∧ U_.heap = h0) (fun _ _ _ _ _ => True) (fun _ U_ o_ V_ => ∃ v_ L_, o_ = .returned v_ ∧ Q_rmR0_3_1 Z a rg kr u0 u1 u2 h0 n0 v_ V_.heap L_ ∧ FrameEnd U_ o_ V_ L_ ({ frames := 0, cells := 0, slots := 0, locals := 0 } : Room).cells ({ frames := 0, cells := 0, slots := 0, locals := 0 } : Room).slots) := by
  refine MetFree.of_bodySF (plainFor_of_name pn_com_example_rowmotif_rowmotif_matcher_PartitionRows) hisR ?_
  intro p e s m args below meth c s₁ Bd hml0 hP hK
  obtain ⟨rfl, hZ, hh⟩ := hP
  have hx := Bd.exec
  have hby := Bd.bytes
  have hml : c.maxLocals = 2 := hml0
  have hown : s.vm.findClass "com/example/rowmotif/rowmotif/matcher/PartitionRows" = some m.cls := findClass_of_methodNamed Bd.named
  have hnm := (name_of_methodNamed Bd.named Bd.method).1
  have X0 : Stand p l e ({ frames := 0, cells := 0, slots := 0, locals := 0 } : Room) s m #[(.ref a), (.int 1)] below meth c s₁ [] 0 0 := Stand.of_body Bd
  have e0 : s₁.heap = h0 := by rw [← hh, Bd.state]; rfl
  have N0 := Fr.nil n0
  have pre0 : ∀ t_, Go p e below s₁ (mkF m 0 #[rv a, iv 1] []) t_ → Go p e below s₁ (entryFrame m #[(.ref a), (.int 1)] 2) t_ := fun t_ kt => castTop (ef_4 m a (1 : Int32)) kt
  obtain ⟨E_a, F_ring, F_head, F_count, F_first, F_complete, V_r, O_r, n_ar⟩ := hR
  obtain ⟨T1, X1, e1, st1⟩ := getF X0 hx hZ hown (host := "") (Or.inl (hwi hw 24 rfl)) Via.refl e0 F_first (g := (mkF m 1 #[rv a, iv 1] [(.ref a)])) rfl rfl (hb hby d4_1)
  obtain ⟨T2, X2, e2, st2⟩ := getF X1 hx hZ hown (host := "") (Or.inl (hwi hw 34 rfl)) Via.refl e1 F_count (g := (mkF m 9 #[rv a, iv 1] [(.ref a)])) rfl rfl (hb hby d4_9)
  obtain ⟨T3, X3, e3, st3⟩ := getF X2 hx hZ hown (host := "") (Or.inl (hwi hw 13 rfl)) Via.refl e2 F_ring (g := (mkF m 16 #[rv a, iv 1] [(.ref a)])) rfl rfl (hb hby d4_16)
  obtain ⟨T4, X4, e4, st4⟩ := getF X3 hx hZ hown (host := "") (Or.inl (hwi hw 50 rfl)) Via.refl e3 F_head (g := (mkF m 20 #[rv a, iv 1] [(.ref a), (.ref rg)])) rfl rfl (hb hby d4_20)
  obtain ⟨cl5, Ar5, qa5, Sa5, Na5, Ha5, Ga5⟩ := V_r
  have hin5 : ¬ ((0 : Int32) < 0 ∨ cl5.slots.size ≤ ((0 : Int32)).toNatClampNeg) := inb_of Sa5 ⟨by decide, by decide⟩
  obtain ⟨T6, h6, X6, e6, W6, st6⟩ := stR X4 hx hZ e4 Ar5 (j := (0 : Int32)) hin5 rfl (Or.inl rfl) (g := (mkF m 24 #[rv a, iv 1] [.null, (.int 0), (.ref rg)])) rfl rfl (hb hby d4_24)
  have f7 := E_a.wr W6
  have f8 := F_ring.other W6 (Or.inl n_ar)
  have f9 := F_head.other W6 (Or.inl n_ar)
  have f10 := F_count.other W6 (Or.inl n_ar)
  have f11 := F_first.other W6 (Or.inl n_ar)
  have f12 := F_complete.other W6 (Or.inl n_ar)
  have K6 : Keep h0 h6 [a, rg] := (Keep.refl h0 [a, rg]).wr W6 (Or.inl (List.mem_of_getElem? (i := 1) rfl))
  have N6 := Fr.snoc X6 N0 g_r
  have V6 : Arv Z h6 rg kr (.array (.object "java/lang/Object")) (16 : Int32) [.null, u1, u2] .null := Arv.set Ar5 qa5 Sa5 Na5 Ha5 Ga5 rfl W6 0 rfl (Nat.le_of_ble_eq_true rfl)
  obtain ⟨T14, X14, e14, st14⟩ := getF X6 hx hZ hown (host := "") (Or.inl (hwi hw 50 rfl)) Via.refl e6 f9 (g := (mkF m 27 #[rv a, iv 1] [(.ref a), (.ref a)])) rfl rfl (hb hby d4_27)
  obtain ⟨T15, X15, e15, st15⟩ := getF X14 hx hZ hown (host := "") (Or.inl (hwi hw 13 rfl)) Via.refl e14 f8 (g := (mkF m 33 #[rv a, iv 1] [(.ref a), (.int 1), (.ref a)])) rfl rfl (hb hby d4_33)
  obtain ⟨cl16, Ar16, qa16, Sa16, Na16, Ha16, Ga16⟩ := V6
  have V16 : Arv Z h6 rg kr (.array (.object "java/lang/Object")) (16 : Int32) [.null, u1, u2] .null := ⟨cl16, Ar16, qa16, Sa16, Na16, Ha16, Ga16⟩
  obtain ⟨T17, h17, X17, e17, W17, st17⟩ := putF X15 hx hZ hown (host := "") (Or.inl (hwi hw 50 rfl)) Via.refl e15 f9 f7 (Or.inl (hwi hw 51 rfl)) (hwi hw 3 rfl) (ty := .int) (by decide) rfl rfl (g := (mkF m 40 #[rv a, iv 1] [(.int 1), (.ref a)])) rfl rfl (hb hby d4_40)
  have f18 := f7.wr W17
  have f19 := f8.other W17 (Or.inr (slot_ne (Or.inl (hwi hw 14 rfl)) (Or.inl (hwi hw 51 rfl)) (by decide) (t := (.array (.array (.object "java/lang/Object")))) (t' := .int) (by decide) (by decide)))
  have f21 := f10.other W17 (Or.inr (slot_ne (Or.inl (hwi hw 35 rfl)) (Or.inl (hwi hw 51 rfl)) (by decide) (t := .int) (t' := .int) (by decide) (by decide)))
  have f22 := f11.other W17 (Or.inr (slot_ne (Or.inl (hwi hw 25 rfl)) (Or.inl (hwi hw 51 rfl)) (by decide) (t := .int) (t' := .int) (by decide) (by decide)))
  have f23 := f12.other W17 (Or.inr (slot_ne (Or.inl (hwi hw 47 rfl)) (Or.inl (hwi hw 51 rfl)) (by decide) (t := .boolean) (t' := .int) (by decide) (by decide)))
  have f24 := V16.other W17 (Ne.symm n_ar)
  have K17 : Keep h0 h17 [a, rg] := K6.wr W17 (Or.inl (List.mem_of_getElem? (i := 0) rfl))
  have N17 := Fr.snoc X17 N6 g_a
  have f25 : Fld Z h17 a "com/example/rowmotif/rowmotif/matcher/PartitionRows" "head" "I" (.int 1) := f9.same W17
  obtain ⟨T26, X26, e26, st26⟩ := getF X17 hx hZ hown (host := "") (Or.inl (hwi hw 24 rfl)) Via.refl e17 f22 (g := (mkF m 45 #[rv a, iv 1] [(.ref a), (.ref a)])) rfl rfl (hb hby d4_45)
  obtain ⟨T27, h27, X27, e27, W27, st27⟩ := putF X26 hx hZ hown (host := "") (Or.inl (hwi hw 24 rfl)) Via.refl e26 f22 f18 (Or.inl (hwi hw 25 rfl)) (hwi hw 3 rfl) (ty := .int) (by decide) rfl rfl (g := (mkF m 50 #[rv a, iv 1] [(.int 1), (.ref a)])) rfl rfl (hb hby d4_50)
  have f28 := f18.wr W27
  have f29 := f19.other W27 (Or.inr (slot_ne (Or.inl (hwi hw 14 rfl)) (Or.inl (hwi hw 25 rfl)) (by decide) (t := (.array (.array (.object "java/lang/Object")))) (t' := .int) (by decide) (by decide)))
  have f30 := f25.other W27 (Or.inr (slot_ne (Or.inl (hwi hw 51 rfl)) (Or.inl (hwi hw 25 rfl)) (by decide) (t := .int) (t' := .int) (by decide) (by decide)))
  have f31 := f21.other W27 (Or.inr (slot_ne (Or.inl (hwi hw 35 rfl)) (Or.inl (hwi hw 25 rfl)) (by decide) (t := .int) (t' := .int) (by decide) (by decide)))
  have f33 := f23.other W27 (Or.inr (slot_ne (Or.inl (hwi hw 47 rfl)) (Or.inl (hwi hw 25 rfl)) (by decide) (t := .boolean) (t' := .int) (by decide) (by decide)))
  have f34 := f24.other W27 (Ne.symm n_ar)
  have K27 : Keep h0 h27 [a, rg] := K17.wr W27 (Or.inl (List.mem_of_getElem? (i := 0) rfl))
  have N27 := Fr.snoc X27 N17 g_a
  have f35 : Fld Z h27 a "com/example/rowmotif/rowmotif/matcher/PartitionRows" "first" "I" (.int 1) := f22.same W27
  obtain ⟨T36, X36, e36, st36⟩ := getF X27 hx hZ hown (host := "") (Or.inl (hwi hw 34 rfl)) Via.refl e27 f31 (g := (mkF m 55 #[rv a, iv 1] [(.ref a), (.ref a)])) rfl rfl (hb hby d4_55)
  obtain ⟨T37, h37, X37, e37, W37, st37⟩ := putF X36 hx hZ hown (host := "") (Or.inl (hwi hw 34 rfl)) Via.refl e36 f31 f28 (Or.inl (hwi hw 35 rfl)) (hwi hw 3 rfl) (ty := .int) (by decide) rfl rfl (g := (mkF m 60 #[rv a, iv 1] [(.int 2), (.ref a)])) rfl rfl (hb hby d4_60)
  have f38 := f28.wr W37
  have f39 := f29.other W37 (Or.inr (slot_ne (Or.inl (hwi hw 14 rfl)) (Or.inl (hwi hw 35 rfl)) (by decide) (t := (.array (.array (.object "java/lang/Object")))) (t' := .int) (by decide) (by decide)))
  have f40 := f30.other W37 (Or.inr (slot_ne (Or.inl (hwi hw 51 rfl)) (Or.inl (hwi hw 35 rfl)) (by decide) (t := .int) (t' := .int) (by decide) (by decide)))
  have f42 := f35.other W37 (Or.inr (slot_ne (Or.inl (hwi hw 25 rfl)) (Or.inl (hwi hw 35 rfl)) (by decide) (t := .int) (t' := .int) (by decide) (by decide)))
  have f43 := f33.other W37 (Or.inr (slot_ne (Or.inl (hwi hw 47 rfl)) (Or.inl (hwi hw 35 rfl)) (by decide) (t := .boolean) (t' := .int) (by decide) (by decide)))
  have f44 := f34.other W37 (Ne.symm n_ar)
  have K37 : Keep h0 h37 [a, rg] := K27.wr W37 (Or.inl (List.mem_of_getElem? (i := 0) rfl))
  have N37 := Fr.snoc X37 N27 g_a
  have f45 : Fld Z h37 a "com/example/rowmotif/rowmotif/matcher/PartitionRows" "count" "I" (.int 2) := f31.same W37
  obtain ⟨T46, X46, e46, st46⟩ := getF X37 hx hZ hown (host := "") (Or.inl (hwi hw 24 rfl)) Via.refl e37 f42 (g := (mkF m 1 #[rv a, iv 1] [(.ref a)])) rfl rfl (hb hby d4_1)
  have pre47 : ∀ t_, Go p e below T46 (mkF m 66 #[rv a, iv 1] []) t_ → Go p e below s₁ (entryFrame m #[(.ref a), (.int 1)] 2) t_ := fun t_ kt => pre0 _ (by
      show Go p e below s₁ (mkF m 0 #[rv a, iv 1] []) _
      refine XS.aloadN X0.here hx rfl (hb hby d4_0) rfl rfl ?_
      show Go p e below s₁ (mkF m 1 #[rv a, iv 1] [(.ref a)]) _
      refine st1 _ ?_
      show Go p e below T1 (mkF m 4 #[rv a, iv 1] [(.int 0)]) _
      refine XS.iloadN X1.here hx rfl (hb hby d4_4) rfl ?_
      show Go p e below T1 (mkF m 5 #[rv a, iv 1] [(.int 1), (.int 0)]) _
      refine XS.icmpNo X1.here hx rfl (hb hby d4_5) rfl (tlt ((by decide) : (0 : Int32) < (1 : Int32))).2.1 ?_
      show Go p e below T1 (mkF m 8 #[rv a, iv 1] []) _
      refine XS.aloadN X1.here hx rfl (hb hby d4_8) rfl rfl ?_
      show Go p e below T1 (mkF m 9 #[rv a, iv 1] [(.ref a)]) _
      refine st2 _ ?_
      show Go p e below T2 (mkF m 12 #[rv a, iv 1] [(.int 3)]) _
      refine XS.ifNo X2.here hx rfl (hb hby d4_12) rfl ((if0 _ _).trans (tlt ((by decide) : (0 : Int32) < (3 : Int32))).2.2.2) ?_
      show Go p e below T2 (mkF m 15 #[rv a, iv 1] []) _
      refine XS.aloadN X2.here hx rfl (hb hby d4_15) rfl rfl ?_
      show Go p e below T2 (mkF m 16 #[rv a, iv 1] [(.ref a)]) _
      refine st3 _ ?_
      show Go p e below T3 (mkF m 19 #[rv a, iv 1] [(.ref rg)]) _
      refine XS.aloadN X3.here hx rfl (hb hby d4_19) rfl rfl ?_
      show Go p e below T3 (mkF m 20 #[rv a, iv 1] [(.ref a), (.ref rg)]) _
      refine st4 _ ?_
      show Go p e below T4 (mkF m 23 #[rv a, iv 1] [(.int 0), (.ref rg)]) _
      refine XS.aconstNull X4.here hx rfl (hb hby d4_23) ?_
      show Go p e below T4 (mkF m 24 #[rv a, iv 1] [.null, (.int 0), (.ref rg)]) _
      refine st6 _ ?_
      show Go p e below T6 (mkF m 25 #[rv a, iv 1] []) _
      refine XS.aloadN X6.here hx rfl (hb hby d4_25) rfl rfl ?_
      show Go p e below T6 (mkF m 26 #[rv a, iv 1] [(.ref a)]) _
      refine XS.aloadN X6.here hx rfl (hb hby d4_26) rfl rfl ?_
      show Go p e below T6 (mkF m 27 #[rv a, iv 1] [(.ref a), (.ref a)]) _
      refine st14 _ ?_
      show Go p e below T14 (mkF m 30 #[rv a, iv 1] [(.int 0), (.ref a)]) _
      refine XS.iconst X14.here hx rfl (hb hby d4_30) ?_
      show Go p e below T14 (mkF m 31 #[rv a, iv 1] [(.int 1), (.int 0), (.ref a)]) _
      refine XS.iadd X14.here hx rfl (hb hby d4_31) rfl ?_
      show Go p e below T14 (mkF m 32 #[rv a, iv 1] [(.int 1), (.ref a)]) _
      refine XS.aloadN X14.here hx rfl (hb hby d4_32) rfl rfl ?_
      show Go p e below T14 (mkF m 33 #[rv a, iv 1] [(.ref a), (.int 1), (.ref a)]) _
      refine st15 _ ?_
      show Go p e below T15 (mkF m 36 #[rv a, iv 1] [(.ref rg), (.int 1), (.ref a)]) _
      refine X15.arraylength hx (by rw [e15]; exact Ar16.1) (State.isArrayOf_alike hZ.alike Ar16.2.1) (g := (mkF m 36 #[rv a, iv 1] [(.ref rg), (.int 1), (.ref a)])) rfl rfl (hb hby d4_36) _ ?_
      rw [len_of Sa16 Na16]
      show Go p e below T15 (mkF m 37 #[rv a, iv 1] [(.int 16), (.int 1), (.ref a)]) _
      refine XS.iconst X15.here hx rfl (hb hby d4_37) ?_
      show Go p e below T15 (mkF m 38 #[rv a, iv 1] [(.int 1), (.int 16), (.int 1), (.ref a)]) _
      refine XS.isub X15.here hx rfl (hb hby d4_38) rfl ?_
      show Go p e below T15 (mkF m 39 #[rv a, iv 1] [(.int 15), (.int 1), (.ref a)]) _
      refine XS.iand X15.here hx rfl (hb hby d4_39) rfl ?_
      show Go p e below T15 (mkF m 40 #[rv a, iv 1] [(.int 1), (.ref a)]) _
      refine st17 _ ?_
      show Go p e below T17 (mkF m 43 #[rv a, iv 1] []) _
      refine XS.aloadN X17.here hx rfl (hb hby d4_43) rfl rfl ?_
      show Go p e below T17 (mkF m 44 #[rv a, iv 1] [(.ref a)]) _
      refine XS.dup X17.here hx rfl (hb hby d4_44) rfl rfl ?_
      show Go p e below T17 (mkF m 45 #[rv a, iv 1] [(.ref a), (.ref a)]) _
      refine st26 _ ?_
      show Go p e below T26 (mkF m 48 #[rv a, iv 1] [(.int 0), (.ref a)]) _
      refine XS.iconst X26.here hx rfl (hb hby d4_48) ?_
      show Go p e below T26 (mkF m 49 #[rv a, iv 1] [(.int 1), (.int 0), (.ref a)]) _
      refine XS.iadd X26.here hx rfl (hb hby d4_49) rfl ?_
      show Go p e below T26 (mkF m 50 #[rv a, iv 1] [(.int 1), (.ref a)]) _
      refine st27 _ ?_
      show Go p e below T27 (mkF m 53 #[rv a, iv 1] []) _
      refine XS.aloadN X27.here hx rfl (hb hby d4_53) rfl rfl ?_
      show Go p e below T27 (mkF m 54 #[rv a, iv 1] [(.ref a)]) _
      refine XS.dup X27.here hx rfl (hb hby d4_54) rfl rfl ?_
      show Go p e below T27 (mkF m 55 #[rv a, iv 1] [(.ref a), (.ref a)]) _
      refine st36 _ ?_
      show Go p e below T36 (mkF m 58 #[rv a, iv 1] [(.int 3), (.ref a)]) _
      refine XS.iconst X36.here hx rfl (hb hby d4_58) ?_
      show Go p e below T36 (mkF m 59 #[rv a, iv 1] [(.int 1), (.int 3), (.ref a)]) _
      refine XS.isub X36.here hx rfl (hb hby d4_59) rfl ?_
      show Go p e below T36 (mkF m 60 #[rv a, iv 1] [(.int 2), (.ref a)]) _
      refine st37 _ ?_
      show Go p e below T37 (mkF m 63 #[rv a, iv 1] []) _
      refine XS.goto X37.here hx rfl (pc0 := 63) (pc' := 0) rfl (hb hby d4_63) (by decide) (by decide) ?_
      show Go p e below T37 (mkF m 0 #[rv a, iv 1] []) _
      refine XS.aloadN X37.here hx rfl (hb hby d4_0) rfl rfl ?_
      show Go p e below T37 (mkF m 1 #[rv a, iv 1] [(.ref a)]) _
      refine st46 _ ?_
      show Go p e below T46 (mkF m 4 #[rv a, iv 1] [(.int 1)]) _
      refine XS.iloadN X46.here hx rfl (hb hby d4_4) rfl ?_
      show Go p e below T46 (mkF m 5 #[rv a, iv 1] [(.int 1), (.int 1)]) _
      refine XS.icmpYes X46.here hx rfl (pc0 := 5) (pc' := 66) rfl (hb hby d4_5) rfl (flt ((by decide) : ¬ ((1 : Int32) < (1 : Int32)))).2.1 (by decide) (by decide) ?_
      show Go p e below T46 (mkF m 66 #[rv a, iv 1] []) _
      exact kt)
  obtain ⟨fs, hr, hrun, hended, hW, hsame⟩ := X46.leave (v := none) (fun _ => rfl)
  refine ⟨_, _, pre47 _ ?_, hrun, hended, _, _, rfl, ?_, ⟨_, rfl⟩, hW, hsame.mono (by decide) (by decide)⟩
  · show Steps p.tables e below (T46.setTop (mkF m 66 #[rv a, iv 1] [])) _
    exact X46.returnOut hx Bd.returns (hb hby d4_66) hr
  · show Q_rmR0_3_1 Z a rg kr u0 u1 u2 h0 n0 _ T46.heap _
    rw [e46]
    exact ⟨rfl, N37, K37, ⟨f38, f39, f40, f45, f42, f43, f44, O_r, n_ar⟩⟩
def Q_rmR0_3_2 (Z : State) (a : Addr) (rg : Addr) (kr : ClassId) (u0 : Value) (u1 : Value) (u2 : Value) (h0 : Heap) (n0 : Nat) (v : Option Value) (h : Heap) (L : List Loc) : Prop := v = none ∧ Fr n0 L ∧ Keep h0 h [a, rg] ∧ Rg Z h a rg kr (2 : Int32) (1 : Int32) .null .null u2
set_option maxRecDepth 65536 in
set_option maxHeartbeats 40000000 in
theorem rmR0_3_2 (l : Launch) (Z : State) (a0 : Array Value) (hw : ∀ d ∈ tables_1, d.before a0 Z = true) (ws : List Jvm.Cond) (a : Addr) (rg : Addr) (kr : ClassId) (u0 : Value) (u1 : Value) (u2 : Value) (h0 : Heap) (n0 : Nat) (Z0 : n0 ≤ h0.size) (hR : Rg Z h0 a rg kr (0 : Int32) (3 : Int32) u0 u1 u2) (g_a : n0 ≤ a) (g_r : n0 ≤ rg) :
    MetFree l (⟨"com/example/rowmotif/rowmotif/matcher/PartitionRows", "release", "(I)V"⟩ : MethodName) (head1 (Jvm.Cond.code (⟨"com/example/rowmotif/rowmotif/matcher/PartitionRows", "release", "(I)V"⟩ : MethodName) prog_78_method_8_code 2 none :: ws) ({ frames := 0, cells := 0, slots := 0, locals := 0 } : Room)) (fun av_ U_ => av_ = #[(.ref a), (.int 2)] ∧ Z.Warmed39 U_.vm ∧ U_.heap = h0) (fun _ _ _ _ _ => True) (fun _ U_ o_ V_ => ∃ v_ L_, o_ = .returned v_ ∧ Q_rmR0_3_2 Z a rg kr u0 u1 u2 h0 n0 v_ V_.heap L_ ∧ FrameEnd U_ o_ V_ L_ ({ frames := 0, cells := 0, slots := 0, locals := 0 } : Room).cells ({ frames := 0, cells := 0, slots := 0, locals := 0 } : Room).slots) := by
  refine MetFree.of_bodySF (plainFor_of_name pn_com_example_rowmotif_rowmotif_matcher_PartitionRows) hisR ?_
  intro p e s m args below meth c s₁ Bd hml0 hP hK
  obtain ⟨rfl, hZ, hh⟩ := hP
  have hx := Bd.exec
  have hby := Bd.bytes
  have hml : c.maxLocals = 2 := hml0
  have hown : s.vm.findClass "com/example/rowmotif/rowmotif/matcher/PartitionRows" = some m.cls := findClass_of_methodNamed Bd.named
  have hnm := (name_of_methodNamed Bd.named Bd.method).1
  have X0 : Stand p l e ({ frames := 0, cells := 0, slots := 0, locals := 0 } : Room) s m #[(.ref a), (.int 2)] below meth c s₁ [] 0 0 := Stand.of_body Bd
  have e0 : s₁.heap = h0 := by rw [← hh, Bd.state]; rfl
  have N0 := Fr.nil n0
  have pre0 : ∀ t_, Go p e below s₁ (mkF m 0 #[rv a, iv 2] []) t_ → Go p e below s₁ (entryFrame m #[(.ref a), (.int 2)] 2) t_ := fun t_ kt => castTop (ef_4 m a (2 : Int32)) kt
  obtain ⟨E_a, F_ring, F_head, F_count, F_first, F_complete, V_r, O_r, n_ar⟩ := hR
  obtain ⟨T1, X1, e1, st1⟩ := getF X0 hx hZ hown (host := "") (Or.inl (hwi hw 24 rfl)) Via.refl e0 F_first (g := (mkF m 1 #[rv a, iv 2] [(.ref a)])) rfl rfl (hb hby d4_1)
  obtain ⟨T2, X2, e2, st2⟩ := getF X1 hx hZ hown (host := "") (Or.inl (hwi hw 34 rfl)) Via.refl e1 F_count (g := (mkF m 9 #[rv a, iv 2] [(.ref a)])) rfl rfl (hb hby d4_9)
  obtain ⟨T3, X3, e3, st3⟩ := getF X2 hx hZ hown (host := "") (Or.inl (hwi hw 13 rfl)) Via.refl e2 F_ring (g := (mkF m 16 #[rv a, iv 2] [(.ref a)])) rfl rfl (hb hby d4_16)
  obtain ⟨T4, X4, e4, st4⟩ := getF X3 hx hZ hown (host := "") (Or.inl (hwi hw 50 rfl)) Via.refl e3 F_head (g := (mkF m 20 #[rv a, iv 2] [(.ref a), (.ref rg)])) rfl rfl (hb hby d4_20)
  obtain ⟨cl5, Ar5, qa5, Sa5, Na5, Ha5, Ga5⟩ := V_r
  have hin5 : ¬ ((0 : Int32) < 0 ∨ cl5.slots.size ≤ ((0 : Int32)).toNatClampNeg) := inb_of Sa5 ⟨by decide, by decide⟩
  obtain ⟨T6, h6, X6, e6, W6, st6⟩ := stR X4 hx hZ e4 Ar5 (j := (0 : Int32)) hin5 rfl (Or.inl rfl) (g := (mkF m 24 #[rv a, iv 2] [.null, (.int 0), (.ref rg)])) rfl rfl (hb hby d4_24)
  have f7 := E_a.wr W6
  have f8 := F_ring.other W6 (Or.inl n_ar)
  have f9 := F_head.other W6 (Or.inl n_ar)
  have f10 := F_count.other W6 (Or.inl n_ar)
  have f11 := F_first.other W6 (Or.inl n_ar)
  have f12 := F_complete.other W6 (Or.inl n_ar)
  have K6 : Keep h0 h6 [a, rg] := (Keep.refl h0 [a, rg]).wr W6 (Or.inl (List.mem_of_getElem? (i := 1) rfl))
  have N6 := Fr.snoc X6 N0 g_r
  have V6 : Arv Z h6 rg kr (.array (.object "java/lang/Object")) (16 : Int32) [.null, u1, u2] .null := Arv.set Ar5 qa5 Sa5 Na5 Ha5 Ga5 rfl W6 0 rfl (Nat.le_of_ble_eq_true rfl)
  obtain ⟨T14, X14, e14, st14⟩ := getF X6 hx hZ hown (host := "") (Or.inl (hwi hw 50 rfl)) Via.refl e6 f9 (g := (mkF m 27 #[rv a, iv 2] [(.ref a), (.ref a)])) rfl rfl (hb hby d4_27)
  obtain ⟨T15, X15, e15, st15⟩ := getF X14 hx hZ hown (host := "") (Or.inl (hwi hw 13 rfl)) Via.refl e14 f8 (g := (mkF m 33 #[rv a, iv 2] [(.ref a), (.int 1), (.ref a)])) rfl rfl (hb hby d4_33)
  obtain ⟨cl16, Ar16, qa16, Sa16, Na16, Ha16, Ga16⟩ := V6
  have V16 : Arv Z h6 rg kr (.array (.object "java/lang/Object")) (16 : Int32) [.null, u1, u2] .null := ⟨cl16, Ar16, qa16, Sa16, Na16, Ha16, Ga16⟩
  obtain ⟨T17, h17, X17, e17, W17, st17⟩ := putF X15 hx hZ hown (host := "") (Or.inl (hwi hw 50 rfl)) Via.refl e15 f9 f7 (Or.inl (hwi hw 51 rfl)) (hwi hw 3 rfl) (ty := .int) (by decide) rfl rfl (g := (mkF m 40 #[rv a, iv 2] [(.int 1), (.ref a)])) rfl rfl (hb hby d4_40)
  have f18 := f7.wr W17
  have f19 := f8.other W17 (Or.inr (slot_ne (Or.inl (hwi hw 14 rfl)) (Or.inl (hwi hw 51 rfl)) (by decide) (t := (.array (.array (.object "java/lang/Object")))) (t' := .int) (by decide) (by decide)))
  have f21 := f10.other W17 (Or.inr (slot_ne (Or.inl (hwi hw 35 rfl)) (Or.inl (hwi hw 51 rfl)) (by decide) (t := .int) (t' := .int) (by decide) (by decide)))
  have f22 := f11.other W17 (Or.inr (slot_ne (Or.inl (hwi hw 25 rfl)) (Or.inl (hwi hw 51 rfl)) (by decide) (t := .int) (t' := .int) (by decide) (by decide)))
  have f23 := f12.other W17 (Or.inr (slot_ne (Or.inl (hwi hw 47 rfl)) (Or.inl (hwi hw 51 rfl)) (by decide) (t := .boolean) (t' := .int) (by decide) (by decide)))
  have f24 := V16.other W17 (Ne.symm n_ar)
  have K17 : Keep h0 h17 [a, rg] := K6.wr W17 (Or.inl (List.mem_of_getElem? (i := 0) rfl))
  have N17 := Fr.snoc X17 N6 g_a
  have f25 : Fld Z h17 a "com/example/rowmotif/rowmotif/matcher/PartitionRows" "head" "I" (.int 1) := f9.same W17
  obtain ⟨T26, X26, e26, st26⟩ := getF X17 hx hZ hown (host := "") (Or.inl (hwi hw 24 rfl)) Via.refl e17 f22 (g := (mkF m 45 #[rv a, iv 2] [(.ref a), (.ref a)])) rfl rfl (hb hby d4_45)
  obtain ⟨T27, h27, X27, e27, W27, st27⟩ := putF X26 hx hZ hown (host := "") (Or.inl (hwi hw 24 rfl)) Via.refl e26 f22 f18 (Or.inl (hwi hw 25 rfl)) (hwi hw 3 rfl) (ty := .int) (by decide) rfl rfl (g := (mkF m 50 #[rv a, iv 2] [(.int 1), (.ref a)])) rfl rfl (hb hby d4_50)
  have f28 := f18.wr W27
  have f29 := f19.other W27 (Or.inr (slot_ne (Or.inl (hwi hw 14 rfl)) (Or.inl (hwi hw 25 rfl)) (by decide) (t := (.array (.array (.object "java/lang/Object")))) (t' := .int) (by decide) (by decide)))
  have f30 := f25.other W27 (Or.inr (slot_ne (Or.inl (hwi hw 51 rfl)) (Or.inl (hwi hw 25 rfl)) (by decide) (t := .int) (t' := .int) (by decide) (by decide)))
  have f31 := f21.other W27 (Or.inr (slot_ne (Or.inl (hwi hw 35 rfl)) (Or.inl (hwi hw 25 rfl)) (by decide) (t := .int) (t' := .int) (by decide) (by decide)))
  have f33 := f23.other W27 (Or.inr (slot_ne (Or.inl (hwi hw 47 rfl)) (Or.inl (hwi hw 25 rfl)) (by decide) (t := .boolean) (t' := .int) (by decide) (by decide)))
  have f34 := f24.other W27 (Ne.symm n_ar)
  have K27 : Keep h0 h27 [a, rg] := K17.wr W27 (Or.inl (List.mem_of_getElem? (i := 0) rfl))
  have N27 := Fr.snoc X27 N17 g_a
  have f35 : Fld Z h27 a "com/example/rowmotif/rowmotif/matcher/PartitionRows" "first" "I" (.int 1) := f22.same W27
  obtain ⟨T36, X36, e36, st36⟩ := getF X27 hx hZ hown (host := "") (Or.inl (hwi hw 34 rfl)) Via.refl e27 f31 (g := (mkF m 55 #[rv a, iv 2] [(.ref a), (.ref a)])) rfl rfl (hb hby d4_55)
  obtain ⟨T37, h37, X37, e37, W37, st37⟩ := putF X36 hx hZ hown (host := "") (Or.inl (hwi hw 34 rfl)) Via.refl e36 f31 f28 (Or.inl (hwi hw 35 rfl)) (hwi hw 3 rfl) (ty := .int) (by decide) rfl rfl (g := (mkF m 60 #[rv a, iv 2] [(.int 2), (.ref a)])) rfl rfl (hb hby d4_60)
  have f38 := f28.wr W37
  have f39 := f29.other W37 (Or.inr (slot_ne (Or.inl (hwi hw 14 rfl)) (Or.inl (hwi hw 35 rfl)) (by decide) (t := (.array (.array (.object "java/lang/Object")))) (t' := .int) (by decide) (by decide)))
  have f40 := f30.other W37 (Or.inr (slot_ne (Or.inl (hwi hw 51 rfl)) (Or.inl (hwi hw 35 rfl)) (by decide) (t := .int) (t' := .int) (by decide) (by decide)))
  have f42 := f35.other W37 (Or.inr (slot_ne (Or.inl (hwi hw 25 rfl)) (Or.inl (hwi hw 35 rfl)) (by decide) (t := .int) (t' := .int) (by decide) (by decide)))
  have f43 := f33.other W37 (Or.inr (slot_ne (Or.inl (hwi hw 47 rfl)) (Or.inl (hwi hw 35 rfl)) (by decide) (t := .boolean) (t' := .int) (by decide) (by decide)))
  have f44 := f34.other W37 (Ne.symm n_ar)
  have K37 : Keep h0 h37 [a, rg] := K27.wr W37 (Or.inl (List.mem_of_getElem? (i := 0) rfl))
  have N37 := Fr.snoc X37 N27 g_a
  have f45 : Fld Z h37 a "com/example/rowmotif/rowmotif/matcher/PartitionRows" "count" "I" (.int 2) := f31.same W37
  obtain ⟨T46, X46, e46, st46⟩ := getF X37 hx hZ hown (host := "") (Or.inl (hwi hw 24 rfl)) Via.refl e37 f42 (g := (mkF m 1 #[rv a, iv 2] [(.ref a)])) rfl rfl (hb hby d4_1)
  obtain ⟨T47, X47, e47, st47⟩ := getF X46 hx hZ hown (host := "") (Or.inl (hwi hw 34 rfl)) Via.refl e46 f45 (g := (mkF m 9 #[rv a, iv 2] [(.ref a)])) rfl rfl (hb hby d4_9)
  obtain ⟨T48, X48, e48, st48⟩ := getF X47 hx hZ hown (host := "") (Or.inl (hwi hw 13 rfl)) Via.refl e47 f39 (g := (mkF m 16 #[rv a, iv 2] [(.ref a)])) rfl rfl (hb hby d4_16)
  obtain ⟨T49, X49, e49, st49⟩ := getF X48 hx hZ hown (host := "") (Or.inl (hwi hw 50 rfl)) Via.refl e48 f40 (g := (mkF m 20 #[rv a, iv 2] [(.ref a), (.ref rg)])) rfl rfl (hb hby d4_20)
  obtain ⟨cl50, Ar50, qa50, Sa50, Na50, Ha50, Ga50⟩ := f44
  have hin50 : ¬ ((1 : Int32) < 0 ∨ cl50.slots.size ≤ ((1 : Int32)).toNatClampNeg) := inb_of Sa50 ⟨by decide, by decide⟩
  obtain ⟨T51, h51, X51, e51, W51, st51⟩ := stR X49 hx hZ e49 Ar50 (j := (1 : Int32)) hin50 rfl (Or.inl rfl) (g := (mkF m 24 #[rv a, iv 2] [.null, (.int 1), (.ref rg)])) rfl rfl (hb hby d4_24)
  have f52 := f38.wr W51
  have f53 := f39.other W51 (Or.inl n_ar)
  have f54 := f40.other W51 (Or.inl n_ar)
  have f55 := f45.other W51 (Or.inl n_ar)
  have f56 := f42.other W51 (Or.inl n_ar)
  have f57 := f43.other W51 (Or.inl n_ar)
  have K51 : Keep h0 h51 [a, rg] := K37.wr W51 (Or.inl (List.mem_of_getElem? (i := 1) rfl))
  have N51 := Fr.snoc X51 N37 g_r
  have V51 : Arv Z h51 rg kr (.array (.object "java/lang/Object")) (16 : Int32) [.null, .null, u2] .null := Arv.set Ar50 qa50 Sa50 Na50 Ha50 Ga50 rfl W51 1 rfl (Nat.le_of_ble_eq_true rfl)
  obtain ⟨T59, X59, e59, st59⟩ := getF X51 hx hZ hown (host := "") (Or.inl (hwi hw 50 rfl)) Via.refl e51 f54 (g := (mkF m 27 #[rv a, iv 2] [(.ref a), (.ref a)])) rfl rfl (hb hby d4_27)
  obtain ⟨T60, X60, e60, st60⟩ := getF X59 hx hZ hown (host := "") (Or.inl (hwi hw 13 rfl)) Via.refl e59 f53 (g := (mkF m 33 #[rv a, iv 2] [(.ref a), (.int 2), (.ref a)])) rfl rfl (hb hby d4_33)
  obtain ⟨cl61, Ar61, qa61, Sa61, Na61, Ha61, Ga61⟩ := V51
  have V61 : Arv Z h51 rg kr (.array (.object "java/lang/Object")) (16 : Int32) [.null, .null, u2] .null := ⟨cl61, Ar61, qa61, Sa61, Na61, Ha61, Ga61⟩
  obtain ⟨T62, h62, X62, e62, W62, st62⟩ := putF X60 hx hZ hown (host := "") (Or.inl (hwi hw 50 rfl)) Via.refl e60 f54 f52 (Or.inl (hwi hw 51 rfl)) (hwi hw 3 rfl) (ty := .int) (by decide) rfl rfl (g := (mkF m 40 #[rv a, iv 2] [(.int 2), (.ref a)])) rfl rfl (hb hby d4_40)
  have f63 := f52.wr W62
  have f64 := f53.other W62 (Or.inr (slot_ne (Or.inl (hwi hw 14 rfl)) (Or.inl (hwi hw 51 rfl)) (by decide) (t := (.array (.array (.object "java/lang/Object")))) (t' := .int) (by decide) (by decide)))
  have f66 := f55.other W62 (Or.inr (slot_ne (Or.inl (hwi hw 35 rfl)) (Or.inl (hwi hw 51 rfl)) (by decide) (t := .int) (t' := .int) (by decide) (by decide)))
  have f67 := f56.other W62 (Or.inr (slot_ne (Or.inl (hwi hw 25 rfl)) (Or.inl (hwi hw 51 rfl)) (by decide) (t := .int) (t' := .int) (by decide) (by decide)))
  have f68 := f57.other W62 (Or.inr (slot_ne (Or.inl (hwi hw 47 rfl)) (Or.inl (hwi hw 51 rfl)) (by decide) (t := .boolean) (t' := .int) (by decide) (by decide)))
  have f69 := V61.other W62 (Ne.symm n_ar)
  have K62 : Keep h0 h62 [a, rg] := K51.wr W62 (Or.inl (List.mem_of_getElem? (i := 0) rfl))
  have N62 := Fr.snoc X62 N51 g_a
  have f70 : Fld Z h62 a "com/example/rowmotif/rowmotif/matcher/PartitionRows" "head" "I" (.int 2) := f54.same W62
  obtain ⟨T71, X71, e71, st71⟩ := getF X62 hx hZ hown (host := "") (Or.inl (hwi hw 24 rfl)) Via.refl e62 f67 (g := (mkF m 45 #[rv a, iv 2] [(.ref a), (.ref a)])) rfl rfl (hb hby d4_45)
  obtain ⟨T72, h72, X72, e72, W72, st72⟩ := putF X71 hx hZ hown (host := "") (Or.inl (hwi hw 24 rfl)) Via.refl e71 f67 f63 (Or.inl (hwi hw 25 rfl)) (hwi hw 3 rfl) (ty := .int) (by decide) rfl rfl (g := (mkF m 50 #[rv a, iv 2] [(.int 2), (.ref a)])) rfl rfl (hb hby d4_50)
  have f73 := f63.wr W72
  have f74 := f64.other W72 (Or.inr (slot_ne (Or.inl (hwi hw 14 rfl)) (Or.inl (hwi hw 25 rfl)) (by decide) (t := (.array (.array (.object "java/lang/Object")))) (t' := .int) (by decide) (by decide)))
  have f75 := f70.other W72 (Or.inr (slot_ne (Or.inl (hwi hw 51 rfl)) (Or.inl (hwi hw 25 rfl)) (by decide) (t := .int) (t' := .int) (by decide) (by decide)))
  have f76 := f66.other W72 (Or.inr (slot_ne (Or.inl (hwi hw 35 rfl)) (Or.inl (hwi hw 25 rfl)) (by decide) (t := .int) (t' := .int) (by decide) (by decide)))
  have f78 := f68.other W72 (Or.inr (slot_ne (Or.inl (hwi hw 47 rfl)) (Or.inl (hwi hw 25 rfl)) (by decide) (t := .boolean) (t' := .int) (by decide) (by decide)))
  have f79 := f69.other W72 (Ne.symm n_ar)
  have K72 : Keep h0 h72 [a, rg] := K62.wr W72 (Or.inl (List.mem_of_getElem? (i := 0) rfl))
  have N72 := Fr.snoc X72 N62 g_a
  have f80 : Fld Z h72 a "com/example/rowmotif/rowmotif/matcher/PartitionRows" "first" "I" (.int 2) := f67.same W72
  obtain ⟨T81, X81, e81, st81⟩ := getF X72 hx hZ hown (host := "") (Or.inl (hwi hw 34 rfl)) Via.refl e72 f76 (g := (mkF m 55 #[rv a, iv 2] [(.ref a), (.ref a)])) rfl rfl (hb hby d4_55)
  obtain ⟨T82, h82, X82, e82, W82, st82⟩ := putF X81 hx hZ hown (host := "") (Or.inl (hwi hw 34 rfl)) Via.refl e81 f76 f73 (Or.inl (hwi hw 35 rfl)) (hwi hw 3 rfl) (ty := .int) (by decide) rfl rfl (g := (mkF m 60 #[rv a, iv 2] [(.int 1), (.ref a)])) rfl rfl (hb hby d4_60)
  have f83 := f73.wr W82
  have f84 := f74.other W82 (Or.inr (slot_ne (Or.inl (hwi hw 14 rfl)) (Or.inl (hwi hw 35 rfl)) (by decide) (t := (.array (.array (.object "java/lang/Object")))) (t' := .int) (by decide) (by decide)))
  have f85 := f75.other W82 (Or.inr (slot_ne (Or.inl (hwi hw 51 rfl)) (Or.inl (hwi hw 35 rfl)) (by decide) (t := .int) (t' := .int) (by decide) (by decide)))
  have f87 := f80.other W82 (Or.inr (slot_ne (Or.inl (hwi hw 25 rfl)) (Or.inl (hwi hw 35 rfl)) (by decide) (t := .int) (t' := .int) (by decide) (by decide)))
  have f88 := f78.other W82 (Or.inr (slot_ne (Or.inl (hwi hw 47 rfl)) (Or.inl (hwi hw 35 rfl)) (by decide) (t := .boolean) (t' := .int) (by decide) (by decide)))
  have f89 := f79.other W82 (Ne.symm n_ar)
  have K82 : Keep h0 h82 [a, rg] := K72.wr W82 (Or.inl (List.mem_of_getElem? (i := 0) rfl))
  have N82 := Fr.snoc X82 N72 g_a
  have f90 : Fld Z h82 a "com/example/rowmotif/rowmotif/matcher/PartitionRows" "count" "I" (.int 1) := f76.same W82
  obtain ⟨T91, X91, e91, st91⟩ := getF X82 hx hZ hown (host := "") (Or.inl (hwi hw 24 rfl)) Via.refl e82 f87 (g := (mkF m 1 #[rv a, iv 2] [(.ref a)])) rfl rfl (hb hby d4_1)
  have pre92 : ∀ t_, Go p e below T91 (mkF m 66 #[rv a, iv 2] []) t_ → Go p e below s₁ (entryFrame m #[(.ref a), (.int 2)] 2) t_ := fun t_ kt => pre0 _ (by
      show Go p e below s₁ (mkF m 0 #[rv a, iv 2] []) _
      refine XS.aloadN X0.here hx rfl (hb hby d4_0) rfl rfl ?_
      show Go p e below s₁ (mkF m 1 #[rv a, iv 2] [(.ref a)]) _
      refine st1 _ ?_
      show Go p e below T1 (mkF m 4 #[rv a, iv 2] [(.int 0)]) _
      refine XS.iloadN X1.here hx rfl (hb hby d4_4) rfl ?_
      show Go p e below T1 (mkF m 5 #[rv a, iv 2] [(.int 2), (.int 0)]) _
      refine XS.icmpNo X1.here hx rfl (hb hby d4_5) rfl (tlt ((by decide) : (0 : Int32) < (2 : Int32))).2.1 ?_
      show Go p e below T1 (mkF m 8 #[rv a, iv 2] []) _
      refine XS.aloadN X1.here hx rfl (hb hby d4_8) rfl rfl ?_
      show Go p e below T1 (mkF m 9 #[rv a, iv 2] [(.ref a)]) _
      refine st2 _ ?_
      show Go p e below T2 (mkF m 12 #[rv a, iv 2] [(.int 3)]) _
      refine XS.ifNo X2.here hx rfl (hb hby d4_12) rfl ((if0 _ _).trans (tlt ((by decide) : (0 : Int32) < (3 : Int32))).2.2.2) ?_
      show Go p e below T2 (mkF m 15 #[rv a, iv 2] []) _
      refine XS.aloadN X2.here hx rfl (hb hby d4_15) rfl rfl ?_
      show Go p e below T2 (mkF m 16 #[rv a, iv 2] [(.ref a)]) _
      refine st3 _ ?_
      show Go p e below T3 (mkF m 19 #[rv a, iv 2] [(.ref rg)]) _
      refine XS.aloadN X3.here hx rfl (hb hby d4_19) rfl rfl ?_
      show Go p e below T3 (mkF m 20 #[rv a, iv 2] [(.ref a), (.ref rg)]) _
      refine st4 _ ?_
      show Go p e below T4 (mkF m 23 #[rv a, iv 2] [(.int 0), (.ref rg)]) _
      refine XS.aconstNull X4.here hx rfl (hb hby d4_23) ?_
      show Go p e below T4 (mkF m 24 #[rv a, iv 2] [.null, (.int 0), (.ref rg)]) _
      refine st6 _ ?_
      show Go p e below T6 (mkF m 25 #[rv a, iv 2] []) _
      refine XS.aloadN X6.here hx rfl (hb hby d4_25) rfl rfl ?_
      show Go p e below T6 (mkF m 26 #[rv a, iv 2] [(.ref a)]) _
      refine XS.aloadN X6.here hx rfl (hb hby d4_26) rfl rfl ?_
      show Go p e below T6 (mkF m 27 #[rv a, iv 2] [(.ref a), (.ref a)]) _
      refine st14 _ ?_
      show Go p e below T14 (mkF m 30 #[rv a, iv 2] [(.int 0), (.ref a)]) _
      refine XS.iconst X14.here hx rfl (hb hby d4_30) ?_
      show Go p e below T14 (mkF m 31 #[rv a, iv 2] [(.int 1), (.int 0), (.ref a)]) _
      refine XS.iadd X14.here hx rfl (hb hby d4_31) rfl ?_
      show Go p e below T14 (mkF m 32 #[rv a, iv 2] [(.int 1), (.ref a)]) _
      refine XS.aloadN X14.here hx rfl (hb hby d4_32) rfl rfl ?_
      show Go p e below T14 (mkF m 33 #[rv a, iv 2] [(.ref a), (.int 1), (.ref a)]) _
      refine st15 _ ?_
      show Go p e below T15 (mkF m 36 #[rv a, iv 2] [(.ref rg), (.int 1), (.ref a)]) _
      refine X15.arraylength hx (by rw [e15]; exact Ar16.1) (State.isArrayOf_alike hZ.alike Ar16.2.1) (g := (mkF m 36 #[rv a, iv 2] [(.ref rg), (.int 1), (.ref a)])) rfl rfl (hb hby d4_36) _ ?_
      rw [len_of Sa16 Na16]
      show Go p e below T15 (mkF m 37 #[rv a, iv 2] [(.int 16), (.int 1), (.ref a)]) _
      refine XS.iconst X15.here hx rfl (hb hby d4_37) ?_
      show Go p e below T15 (mkF m 38 #[rv a, iv 2] [(.int 1), (.int 16), (.int 1), (.ref a)]) _
      refine XS.isub X15.here hx rfl (hb hby d4_38) rfl ?_
      show Go p e below T15 (mkF m 39 #[rv a, iv 2] [(.int 15), (.int 1), (.ref a)]) _
      refine XS.iand X15.here hx rfl (hb hby d4_39) rfl ?_
      show Go p e below T15 (mkF m 40 #[rv a, iv 2] [(.int 1), (.ref a)]) _
      refine st17 _ ?_
      show Go p e below T17 (mkF m 43 #[rv a, iv 2] []) _
      refine XS.aloadN X17.here hx rfl (hb hby d4_43) rfl rfl ?_
      show Go p e below T17 (mkF m 44 #[rv a, iv 2] [(.ref a)]) _
      refine XS.dup X17.here hx rfl (hb hby d4_44) rfl rfl ?_
      show Go p e below T17 (mkF m 45 #[rv a, iv 2] [(.ref a), (.ref a)]) _
      refine st26 _ ?_
      show Go p e below T26 (mkF m 48 #[rv a, iv 2] [(.int 0), (.ref a)]) _
      refine XS.iconst X26.here hx rfl (hb hby d4_48) ?_
      show Go p e below T26 (mkF m 49 #[rv a, iv 2] [(.int 1), (.int 0), (.ref a)]) _
      refine XS.iadd X26.here hx rfl (hb hby d4_49) rfl ?_
      show Go p e below T26 (mkF m 50 #[rv a, iv 2] [(.int 1), (.ref a)]) _
      refine st27 _ ?_
      show Go p e below T27 (mkF m 53 #[rv a, iv 2] []) _
      refine XS.aloadN X27.here hx rfl (hb hby d4_53) rfl rfl ?_
      show Go p e below T27 (mkF m 54 #[rv a, iv 2] [(.ref a)]) _
      refine XS.dup X27.here hx rfl (hb hby d4_54) rfl rfl ?_
      show Go p e below T27 (mkF m 55 #[rv a, iv 2] [(.ref a), (.ref a)]) _
      refine st36 _ ?_
      show Go p e below T36 (mkF m 58 #[rv a, iv 2] [(.int 3), (.ref a)]) _
      refine XS.iconst X36.here hx rfl (hb hby d4_58) ?_
      show Go p e below T36 (mkF m 59 #[rv a, iv 2] [(.int 1), (.int 3), (.ref a)]) _
      refine XS.isub X36.here hx rfl (hb hby d4_59) rfl ?_
      show Go p e below T36 (mkF m 60 #[rv a, iv 2] [(.int 2), (.ref a)]) _
      refine st37 _ ?_
      show Go p e below T37 (mkF m 63 #[rv a, iv 2] []) _
      refine XS.goto X37.here hx rfl (pc0 := 63) (pc' := 0) rfl (hb hby d4_63) (by decide) (by decide) ?_
      show Go p e below T37 (mkF m 0 #[rv a, iv 2] []) _
      refine XS.aloadN X37.here hx rfl (hb hby d4_0) rfl rfl ?_
      show Go p e below T37 (mkF m 1 #[rv a, iv 2] [(.ref a)]) _
      refine st46 _ ?_
      show Go p e below T46 (mkF m 4 #[rv a, iv 2] [(.int 1)]) _
      refine XS.iloadN X46.here hx rfl (hb hby d4_4) rfl ?_
      show Go p e below T46 (mkF m 5 #[rv a, iv 2] [(.int 2), (.int 1)]) _
      refine XS.icmpNo X46.here hx rfl (hb hby d4_5) rfl (tlt ((by decide) : (1 : Int32) < (2 : Int32))).2.1 ?_
      show Go p e below T46 (mkF m 8 #[rv a, iv 2] []) _
      refine XS.aloadN X46.here hx rfl (hb hby d4_8) rfl rfl ?_
      show Go p e below T46 (mkF m 9 #[rv a, iv 2] [(.ref a)]) _
      refine st47 _ ?_
      show Go p e below T47 (mkF m 12 #[rv a, iv 2] [(.int 2)]) _
      refine XS.ifNo X47.here hx rfl (hb hby d4_12) rfl ((if0 _ _).trans (tlt ((by decide) : (0 : Int32) < (2 : Int32))).2.2.2) ?_
      show Go p e below T47 (mkF m 15 #[rv a, iv 2] []) _
      refine XS.aloadN X47.here hx rfl (hb hby d4_15) rfl rfl ?_
      show Go p e below T47 (mkF m 16 #[rv a, iv 2] [(.ref a)]) _
      refine st48 _ ?_
      show Go p e below T48 (mkF m 19 #[rv a, iv 2] [(.ref rg)]) _
      refine XS.aloadN X48.here hx rfl (hb hby d4_19) rfl rfl ?_
      show Go p e below T48 (mkF m 20 #[rv a, iv 2] [(.ref a), (.ref rg)]) _
      refine st49 _ ?_
      show Go p e below T49 (mkF m 23 #[rv a, iv 2] [(.int 1), (.ref rg)]) _
      refine XS.aconstNull X49.here hx rfl (hb hby d4_23) ?_
      show Go p e below T49 (mkF m 24 #[rv a, iv 2] [.null, (.int 1), (.ref rg)]) _
      refine st51 _ ?_
      show Go p e below T51 (mkF m 25 #[rv a, iv 2] []) _
      refine XS.aloadN X51.here hx rfl (hb hby d4_25) rfl rfl ?_
      show Go p e below T51 (mkF m 26 #[rv a, iv 2] [(.ref a)]) _
      refine XS.aloadN X51.here hx rfl (hb hby d4_26) rfl rfl ?_
      show Go p e below T51 (mkF m 27 #[rv a, iv 2] [(.ref a), (.ref a)]) _
      refine st59 _ ?_
      show Go p e below T59 (mkF m 30 #[rv a, iv 2] [(.int 1), (.ref a)]) _
      refine XS.iconst X59.here hx rfl (hb hby d4_30) ?_
      show Go p e below T59 (mkF m 31 #[rv a, iv 2] [(.int 1), (.int 1), (.ref a)]) _
      refine XS.iadd X59.here hx rfl (hb hby d4_31) rfl ?_
      show Go p e below T59 (mkF m 32 #[rv a, iv 2] [(.int 2), (.ref a)]) _
      refine XS.aloadN X59.here hx rfl (hb hby d4_32) rfl rfl ?_
      show Go p e below T59 (mkF m 33 #[rv a, iv 2] [(.ref a), (.int 2), (.ref a)]) _
      refine st60 _ ?_
      show Go p e below T60 (mkF m 36 #[rv a, iv 2] [(.ref rg), (.int 2), (.ref a)]) _
      refine X60.arraylength hx (by rw [e60]; exact Ar61.1) (State.isArrayOf_alike hZ.alike Ar61.2.1) (g := (mkF m 36 #[rv a, iv 2] [(.ref rg), (.int 2), (.ref a)])) rfl rfl (hb hby d4_36) _ ?_
      rw [len_of Sa61 Na61]
      show Go p e below T60 (mkF m 37 #[rv a, iv 2] [(.int 16), (.int 2), (.ref a)]) _
      refine XS.iconst X60.here hx rfl (hb hby d4_37) ?_
      show Go p e below T60 (mkF m 38 #[rv a, iv 2] [(.int 1), (.int 16), (.int 2), (.ref a)]) _
      refine XS.isub X60.here hx rfl (hb hby d4_38) rfl ?_
      show Go p e below T60 (mkF m 39 #[rv a, iv 2] [(.int 15), (.int 2), (.ref a)]) _
      refine XS.iand X60.here hx rfl (hb hby d4_39) rfl ?_
      show Go p e below T60 (mkF m 40 #[rv a, iv 2] [(.int 2), (.ref a)]) _
      refine st62 _ ?_
      show Go p e below T62 (mkF m 43 #[rv a, iv 2] []) _
      refine XS.aloadN X62.here hx rfl (hb hby d4_43) rfl rfl ?_
      show Go p e below T62 (mkF m 44 #[rv a, iv 2] [(.ref a)]) _
      refine XS.dup X62.here hx rfl (hb hby d4_44) rfl rfl ?_
      show Go p e below T62 (mkF m 45 #[rv a, iv 2] [(.ref a), (.ref a)]) _
      refine st71 _ ?_
      show Go p e below T71 (mkF m 48 #[rv a, iv 2] [(.int 1), (.ref a)]) _
      refine XS.iconst X71.here hx rfl (hb hby d4_48) ?_
      show Go p e below T71 (mkF m 49 #[rv a, iv 2] [(.int 1), (.int 1), (.ref a)]) _
      refine XS.iadd X71.here hx rfl (hb hby d4_49) rfl ?_
      show Go p e below T71 (mkF m 50 #[rv a, iv 2] [(.int 2), (.ref a)]) _
      refine st72 _ ?_
      show Go p e below T72 (mkF m 53 #[rv a, iv 2] []) _
      refine XS.aloadN X72.here hx rfl (hb hby d4_53) rfl rfl ?_
      show Go p e below T72 (mkF m 54 #[rv a, iv 2] [(.ref a)]) _
      refine XS.dup X72.here hx rfl (hb hby d4_54) rfl rfl ?_
      show Go p e below T72 (mkF m 55 #[rv a, iv 2] [(.ref a), (.ref a)]) _
      refine st81 _ ?_
      show Go p e below T81 (mkF m 58 #[rv a, iv 2] [(.int 2), (.ref a)]) _
      refine XS.iconst X81.here hx rfl (hb hby d4_58) ?_
      show Go p e below T81 (mkF m 59 #[rv a, iv 2] [(.int 1), (.int 2), (.ref a)]) _
      refine XS.isub X81.here hx rfl (hb hby d4_59) rfl ?_
      show Go p e below T81 (mkF m 60 #[rv a, iv 2] [(.int 1), (.ref a)]) _
      refine st82 _ ?_
      show Go p e below T82 (mkF m 63 #[rv a, iv 2] []) _
      refine XS.goto X82.here hx rfl (pc0 := 63) (pc' := 0) rfl (hb hby d4_63) (by decide) (by decide) ?_
      show Go p e below T82 (mkF m 0 #[rv a, iv 2] []) _
      refine XS.aloadN X82.here hx rfl (hb hby d4_0) rfl rfl ?_
      show Go p e below T82 (mkF m 1 #[rv a, iv 2] [(.ref a)]) _
      refine st91 _ ?_
      show Go p e below T91 (mkF m 4 #[rv a, iv 2] [(.int 2)]) _
      refine XS.iloadN X91.here hx rfl (hb hby d4_4) rfl ?_
      show Go p e below T91 (mkF m 5 #[rv a, iv 2] [(.int 2), (.int 2)]) _
      refine XS.icmpYes X91.here hx rfl (pc0 := 5) (pc' := 66) rfl (hb hby d4_5) rfl (flt ((by decide) : ¬ ((2 : Int32) < (2 : Int32)))).2.1 (by decide) (by decide) ?_
      show Go p e below T91 (mkF m 66 #[rv a, iv 2] []) _
      exact kt)
  obtain ⟨fs, hr, hrun, hended, hW, hsame⟩ := X91.leave (v := none) (fun _ => rfl)
  refine ⟨_, _, pre92 _ ?_, hrun, hended, _, _, rfl, ?_, ⟨_, rfl⟩, hW, hsame.mono (by decide) (by decide)⟩
  · show Steps p.tables e below (T91.setTop (mkF m 66 #[rv a, iv 2] [])) _
    exact X91.returnOut hx Bd.returns (hb hby d4_66) hr
  · show Q_rmR0_3_2 Z a rg kr u0 u1 u2 h0 n0 _ T91.heap _
    rw [e91]
    exact ⟨rfl, N82, K82, ⟨f83, f84, f85, f90, f87, f88, f89, O_r, n_ar⟩⟩
def Q_rmR0_3_3 (Z : State) (a : Addr) (rg : Addr) (kr : ClassId) (u0 : Value) (u1 : Value) (u2 : Value) (h0 : Heap) (n0 : Nat) (v : Option Value) (h : Heap) (L : List Loc) : Prop := v = none ∧ Fr n0 L ∧ Keep h0 h [a, rg] ∧ Rg Z h a rg kr (3 : Int32) (0 : Int32) .null .null .null
set_option maxRecDepth 65536 in
set_option maxHeartbeats 40000000 in
theorem rmR0_3_3 (l : Launch) (Z : State) (a0 : Array Value) (hw : ∀ d ∈ tables_1, d.before a0 Z = true) (ws : List Jvm.Cond) (a : Addr) (rg : Addr) (kr : ClassId) (u0 : Value) (u1 : Value) (u2 : Value) (h0 : Heap) (n0 : Nat) (Z0 : n0 ≤ h0.size) (hR : Rg Z h0 a rg kr (0 : Int32) (3 : Int32) u0 u1 u2) (g_a : n0 ≤ a) (g_r : n0 ≤ rg) :
    MetFree l (⟨"com/example/rowmotif/rowmotif/matcher/PartitionRows", "release", "(I)V"⟩ : MethodName) (head1 (Jvm.Cond.code (⟨"com/example/rowmotif/rowmotif/matcher/PartitionRows", "release", "(I)V"⟩ : MethodName) prog_78_method_8_code 2 none :: ws) ({ frames := 0, cells := 0, slots := 0, locals := 0 } : Room)) (fun av_ U_ => av_ = #[(.ref a), (.int 3)] ∧ Z.Warmed39 U_.vm ∧ U_.heap = h0) (fun _ _ _ _ _ => True) (fun _ U_ o_ V_ => ∃ v_ L_, o_ = .returned v_ ∧ Q_rmR0_3_3 Z a rg kr u0 u1 u2 h0 n0 v_ V_.heap L_ ∧ FrameEnd U_ o_ V_ L_ ({ frames := 0, cells := 0, slots := 0, locals := 0 } : Room).cells ({ frames := 0, cells := 0, slots := 0, locals := 0 } : Room).slots) := by
  refine MetFree.of_bodySF (plainFor_of_name pn_com_example_rowmotif_rowmotif_matcher_PartitionRows) hisR ?_
  intro p e s m args below meth c s₁ Bd hml0 hP hK
  obtain ⟨rfl, hZ, hh⟩ := hP
  have hx := Bd.exec
  have hby := Bd.bytes
  have hml : c.maxLocals = 2 := hml0
  have hown : s.vm.findClass "com/example/rowmotif/rowmotif/matcher/PartitionRows" = some m.cls := findClass_of_methodNamed Bd.named
  have hnm := (name_of_methodNamed Bd.named Bd.method).1
  have X0 : Stand p l e ({ frames := 0, cells := 0, slots := 0, locals := 0 } : Room) s m #[(.ref a), (.int 3)] below meth c s₁ [] 0 0 := Stand.of_body Bd
  have e0 : s₁.heap = h0 := by rw [← hh, Bd.state]; rfl
  have N0 := Fr.nil n0
  have pre0 : ∀ t_, Go p e below s₁ (mkF m 0 #[rv a, iv 3] []) t_ → Go p e below s₁ (entryFrame m #[(.ref a), (.int 3)] 2) t_ := fun t_ kt => castTop (ef_4 m a (3 : Int32)) kt
  obtain ⟨E_a, F_ring, F_head, F_count, F_first, F_complete, V_r, O_r, n_ar⟩ := hR
  obtain ⟨T1, X1, e1, st1⟩ := getF X0 hx hZ hown (host := "") (Or.inl (hwi hw 24 rfl)) Via.refl e0 F_first (g := (mkF m 1 #[rv a, iv 3] [(.ref a)])) rfl rfl (hb hby d4_1)
  obtain ⟨T2, X2, e2, st2⟩ := getF X1 hx hZ hown (host := "") (Or.inl (hwi hw 34 rfl)) Via.refl e1 F_count (g := (mkF m 9 #[rv a, iv 3] [(.ref a)])) rfl rfl (hb hby d4_9)
  obtain ⟨T3, X3, e3, st3⟩ := getF X2 hx hZ hown (host := "") (Or.inl (hwi hw 13 rfl)) Via.refl e2 F_ring (g := (mkF m 16 #[rv a, iv 3] [(.ref a)])) rfl rfl (hb hby d4_16)
  obtain ⟨T4, X4, e4, st4⟩ := getF X3 hx hZ hown (host := "") (Or.inl (hwi hw 50 rfl)) Via.refl e3 F_head (g := (mkF m 20 #[rv a, iv 3] [(.ref a), (.ref rg)])) rfl rfl (hb hby d4_20)
  obtain ⟨cl5, Ar5, qa5, Sa5, Na5, Ha5, Ga5⟩ := V_r
  have hin5 : ¬ ((0 : Int32) < 0 ∨ cl5.slots.size ≤ ((0 : Int32)).toNatClampNeg) := inb_of Sa5 ⟨by decide, by decide⟩
  obtain ⟨T6, h6, X6, e6, W6, st6⟩ := stR X4 hx hZ e4 Ar5 (j := (0 : Int32)) hin5 rfl (Or.inl rfl) (g := (mkF m 24 #[rv a, iv 3] [.null, (.int 0), (.ref rg)])) rfl rfl (hb hby d4_24)
  have f7 := E_a.wr W6
  have f8 := F_ring.other W6 (Or.inl n_ar)
  have f9 := F_head.other W6 (Or.inl n_ar)
  have f10 := F_count.other W6 (Or.inl n_ar)
  have f11 := F_first.other W6 (Or.inl n_ar)
  have f12 := F_complete.other W6 (Or.inl n_ar)
  have K6 : Keep h0 h6 [a, rg] := (Keep.refl h0 [a, rg]).wr W6 (Or.inl (List.mem_of_getElem? (i := 1) rfl))
  have N6 := Fr.snoc X6 N0 g_r
  have V6 : Arv Z h6 rg kr (.array (.object "java/lang/Object")) (16 : Int32) [.null, u1, u2] .null := Arv.set Ar5 qa5 Sa5 Na5 Ha5 Ga5 rfl W6 0 rfl (Nat.le_of_ble_eq_true rfl)
  obtain ⟨T14, X14, e14, st14⟩ := getF X6 hx hZ hown (host := "") (Or.inl (hwi hw 50 rfl)) Via.refl e6 f9 (g := (mkF m 27 #[rv a, iv 3] [(.ref a), (.ref a)])) rfl rfl (hb hby d4_27)
  obtain ⟨T15, X15, e15, st15⟩ := getF X14 hx hZ hown (host := "") (Or.inl (hwi hw 13 rfl)) Via.refl e14 f8 (g := (mkF m 33 #[rv a, iv 3] [(.ref a), (.int 1), (.ref a)])) rfl rfl (hb hby d4_33)
  obtain ⟨cl16, Ar16, qa16, Sa16, Na16, Ha16, Ga16⟩ := V6
  have V16 : Arv Z h6 rg kr (.array (.object "java/lang/Object")) (16 : Int32) [.null, u1, u2] .null := ⟨cl16, Ar16, qa16, Sa16, Na16, Ha16, Ga16⟩
  obtain ⟨T17, h17, X17, e17, W17, st17⟩ := putF X15 hx hZ hown (host := "") (Or.inl (hwi hw 50 rfl)) Via.refl e15 f9 f7 (Or.inl (hwi hw 51 rfl)) (hwi hw 3 rfl) (ty := .int) (by decide) rfl rfl (g := (mkF m 40 #[rv a, iv 3] [(.int 1), (.ref a)])) rfl rfl (hb hby d4_40)
  have f18 := f7.wr W17
  have f19 := f8.other W17 (Or.inr (slot_ne (Or.inl (hwi hw 14 rfl)) (Or.inl (hwi hw 51 rfl)) (by decide) (t := (.array (.array (.object "java/lang/Object")))) (t' := .int) (by decide) (by decide)))
  have f21 := f10.other W17 (Or.inr (slot_ne (Or.inl (hwi hw 35 rfl)) (Or.inl (hwi hw 51 rfl)) (by decide) (t := .int) (t' := .int) (by decide) (by decide)))
  have f22 := f11.other W17 (Or.inr (slot_ne (Or.inl (hwi hw 25 rfl)) (Or.inl (hwi hw 51 rfl)) (by decide) (t := .int) (t' := .int) (by decide) (by decide)))
  have f23 := f12.other W17 (Or.inr (slot_ne (Or.inl (hwi hw 47 rfl)) (Or.inl (hwi hw 51 rfl)) (by decide) (t := .boolean) (t' := .int) (by decide) (by decide)))
  have f24 := V16.other W17 (Ne.symm n_ar)
  have K17 : Keep h0 h17 [a, rg] := K6.wr W17 (Or.inl (List.mem_of_getElem? (i := 0) rfl))
  have N17 := Fr.snoc X17 N6 g_a
  have f25 : Fld Z h17 a "com/example/rowmotif/rowmotif/matcher/PartitionRows" "head" "I" (.int 1) := f9.same W17
  obtain ⟨T26, X26, e26, st26⟩ := getF X17 hx hZ hown (host := "") (Or.inl (hwi hw 24 rfl)) Via.refl e17 f22 (g := (mkF m 45 #[rv a, iv 3] [(.ref a), (.ref a)])) rfl rfl (hb hby d4_45)
  obtain ⟨T27, h27, X27, e27, W27, st27⟩ := putF X26 hx hZ hown (host := "") (Or.inl (hwi hw 24 rfl)) Via.refl e26 f22 f18 (Or.inl (hwi hw 25 rfl)) (hwi hw 3 rfl) (ty := .int) (by decide) rfl rfl (g := (mkF m 50 #[rv a, iv 3] [(.int 1), (.ref a)])) rfl rfl (hb hby d4_50)
  have f28 := f18.wr W27
  have f29 := f19.other W27 (Or.inr (slot_ne (Or.inl (hwi hw 14 rfl)) (Or.inl (hwi hw 25 rfl)) (by decide) (t := (.array (.array (.object "java/lang/Object")))) (t' := .int) (by decide) (by decide)))
  have f30 := f25.other W27 (Or.inr (slot_ne (Or.inl (hwi hw 51 rfl)) (Or.inl (hwi hw 25 rfl)) (by decide) (t := .int) (t' := .int) (by decide) (by decide)))
  have f31 := f21.other W27 (Or.inr (slot_ne (Or.inl (hwi hw 35 rfl)) (Or.inl (hwi hw 25 rfl)) (by decide) (t := .int) (t' := .int) (by decide) (by decide)))
  have f33 := f23.other W27 (Or.inr (slot_ne (Or.inl (hwi hw 47 rfl)) (Or.inl (hwi hw 25 rfl)) (by decide) (t := .boolean) (t' := .int) (by decide) (by decide)))
  have f34 := f24.other W27 (Ne.symm n_ar)
  have K27 : Keep h0 h27 [a, rg] := K17.wr W27 (Or.inl (List.mem_of_getElem? (i := 0) rfl))
  have N27 := Fr.snoc X27 N17 g_a
  have f35 : Fld Z h27 a "com/example/rowmotif/rowmotif/matcher/PartitionRows" "first" "I" (.int 1) := f22.same W27
  obtain ⟨T36, X36, e36, st36⟩ := getF X27 hx hZ hown (host := "") (Or.inl (hwi hw 34 rfl)) Via.refl e27 f31 (g := (mkF m 55 #[rv a, iv 3] [(.ref a), (.ref a)])) rfl rfl (hb hby d4_55)
  obtain ⟨T37, h37, X37, e37, W37, st37⟩ := putF X36 hx hZ hown (host := "") (Or.inl (hwi hw 34 rfl)) Via.refl e36 f31 f28 (Or.inl (hwi hw 35 rfl)) (hwi hw 3 rfl) (ty := .int) (by decide) rfl rfl (g := (mkF m 60 #[rv a, iv 3] [(.int 2), (.ref a)])) rfl rfl (hb hby d4_60)
  have f38 := f28.wr W37
  have f39 := f29.other W37 (Or.inr (slot_ne (Or.inl (hwi hw 14 rfl)) (Or.inl (hwi hw 35 rfl)) (by decide) (t := (.array (.array (.object "java/lang/Object")))) (t' := .int) (by decide) (by decide)))
  have f40 := f30.other W37 (Or.inr (slot_ne (Or.inl (hwi hw 51 rfl)) (Or.inl (hwi hw 35 rfl)) (by decide) (t := .int) (t' := .int) (by decide) (by decide)))
  have f42 := f35.other W37 (Or.inr (slot_ne (Or.inl (hwi hw 25 rfl)) (Or.inl (hwi hw 35 rfl)) (by decide) (t := .int) (t' := .int) (by decide) (by decide)))
  have f43 := f33.other W37 (Or.inr (slot_ne (Or.inl (hwi hw 47 rfl)) (Or.inl (hwi hw 35 rfl)) (by decide) (t := .boolean) (t' := .int) (by decide) (by decide)))
  have f44 := f34.other W37 (Ne.symm n_ar)
  have K37 : Keep h0 h37 [a, rg] := K27.wr W37 (Or.inl (List.mem_of_getElem? (i := 0) rfl))
  have N37 := Fr.snoc X37 N27 g_a
  have f45 : Fld Z h37 a "com/example/rowmotif/rowmotif/matcher/PartitionRows" "count" "I" (.int 2) := f31.same W37
  obtain ⟨T46, X46, e46, st46⟩ := getF X37 hx hZ hown (host := "") (Or.inl (hwi hw 24 rfl)) Via.refl e37 f42 (g := (mkF m 1 #[rv a, iv 3] [(.ref a)])) rfl rfl (hb hby d4_1)
  obtain ⟨T47, X47, e47, st47⟩ := getF X46 hx hZ hown (host := "") (Or.inl (hwi hw 34 rfl)) Via.refl e46 f45 (g := (mkF m 9 #[rv a, iv 3] [(.ref a)])) rfl rfl (hb hby d4_9)
  obtain ⟨T48, X48, e48, st48⟩ := getF X47 hx hZ hown (host := "") (Or.inl (hwi hw 13 rfl)) Via.refl e47 f39 (g := (mkF m 16 #[rv a, iv 3] [(.ref a)])) rfl rfl (hb hby d4_16)
  obtain ⟨T49, X49, e49, st49⟩ := getF X48 hx hZ hown (host := "") (Or.inl (hwi hw 50 rfl)) Via.refl e48 f40 (g := (mkF m 20 #[rv a, iv 3] [(.ref a), (.ref rg)])) rfl rfl (hb hby d4_20)
  obtain ⟨cl50, Ar50, qa50, Sa50, Na50, Ha50, Ga50⟩ := f44
  have hin50 : ¬ ((1 : Int32) < 0 ∨ cl50.slots.size ≤ ((1 : Int32)).toNatClampNeg) := inb_of Sa50 ⟨by decide, by decide⟩
  obtain ⟨T51, h51, X51, e51, W51, st51⟩ := stR X49 hx hZ e49 Ar50 (j := (1 : Int32)) hin50 rfl (Or.inl rfl) (g := (mkF m 24 #[rv a, iv 3] [.null, (.int 1), (.ref rg)])) rfl rfl (hb hby d4_24)
  have f52 := f38.wr W51
  have f53 := f39.other W51 (Or.inl n_ar)
  have f54 := f40.other W51 (Or.inl n_ar)
  have f55 := f45.other W51 (Or.inl n_ar)
  have f56 := f42.other W51 (Or.inl n_ar)
  have f57 := f43.other W51 (Or.inl n_ar)
  have K51 : Keep h0 h51 [a, rg] := K37.wr W51 (Or.inl (List.mem_of_getElem? (i := 1) rfl))
  have N51 := Fr.snoc X51 N37 g_r
  have V51 : Arv Z h51 rg kr (.array (.object "java/lang/Object")) (16 : Int32) [.null, .null, u2] .null := Arv.set Ar50 qa50 Sa50 Na50 Ha50 Ga50 rfl W51 1 rfl (Nat.le_of_ble_eq_true rfl)
  obtain ⟨T59, X59, e59, st59⟩ := getF X51 hx hZ hown (host := "") (Or.inl (hwi hw 50 rfl)) Via.refl e51 f54 (g := (mkF m 27 #[rv a, iv 3] [(.ref a), (.ref a)])) rfl rfl (hb hby d4_27)
  obtain ⟨T60, X60, e60, st60⟩ := getF X59 hx hZ hown (host := "") (Or.inl (hwi hw 13 rfl)) Via.refl e59 f53 (g := (mkF m 33 #[rv a, iv 3] [(.ref a), (.int 2), (.ref a)])) rfl rfl (hb hby d4_33)
  obtain ⟨cl61, Ar61, qa61, Sa61, Na61, Ha61, Ga61⟩ := V51
  have V61 : Arv Z h51 rg kr (.array (.object "java/lang/Object")) (16 : Int32) [.null, .null, u2] .null := ⟨cl61, Ar61, qa61, Sa61, Na61, Ha61, Ga61⟩
  obtain ⟨T62, h62, X62, e62, W62, st62⟩ := putF X60 hx hZ hown (host := "") (Or.inl (hwi hw 50 rfl)) Via.refl e60 f54 f52 (Or.inl (hwi hw 51 rfl)) (hwi hw 3 rfl) (ty := .int) (by decide) rfl rfl (g := (mkF m 40 #[rv a, iv 3] [(.int 2), (.ref a)])) rfl rfl (hb hby d4_40)
  have f63 := f52.wr W62
  have f64 := f53.other W62 (Or.inr (slot_ne (Or.inl (hwi hw 14 rfl)) (Or.inl (hwi hw 51 rfl)) (by decide) (t := (.array (.array (.object "java/lang/Object")))) (t' := .int) (by decide) (by decide)))
  have f66 := f55.other W62 (Or.inr (slot_ne (Or.inl (hwi hw 35 rfl)) (Or.inl (hwi hw 51 rfl)) (by decide) (t := .int) (t' := .int) (by decide) (by decide)))
  have f67 := f56.other W62 (Or.inr (slot_ne (Or.inl (hwi hw 25 rfl)) (Or.inl (hwi hw 51 rfl)) (by decide) (t := .int) (t' := .int) (by decide) (by decide)))
  have f68 := f57.other W62 (Or.inr (slot_ne (Or.inl (hwi hw 47 rfl)) (Or.inl (hwi hw 51 rfl)) (by decide) (t := .boolean) (t' := .int) (by decide) (by decide)))
  have f69 := V61.other W62 (Ne.symm n_ar)
  have K62 : Keep h0 h62 [a, rg] := K51.wr W62 (Or.inl (List.mem_of_getElem? (i := 0) rfl))
  have N62 := Fr.snoc X62 N51 g_a
  have f70 : Fld Z h62 a "com/example/rowmotif/rowmotif/matcher/PartitionRows" "head" "I" (.int 2) := f54.same W62
  obtain ⟨T71, X71, e71, st71⟩ := getF X62 hx hZ hown (host := "") (Or.inl (hwi hw 24 rfl)) Via.refl e62 f67 (g := (mkF m 45 #[rv a, iv 3] [(.ref a), (.ref a)])) rfl rfl (hb hby d4_45)
  obtain ⟨T72, h72, X72, e72, W72, st72⟩ := putF X71 hx hZ hown (host := "") (Or.inl (hwi hw 24 rfl)) Via.refl e71 f67 f63 (Or.inl (hwi hw 25 rfl)) (hwi hw 3 rfl) (ty := .int) (by decide) rfl rfl (g := (mkF m 50 #[rv a, iv 3] [(.int 2), (.ref a)])) rfl rfl (hb hby d4_50)
  have f73 := f63.wr W72
  have f74 := f64.other W72 (Or.inr (slot_ne (Or.inl (hwi hw 14 rfl)) (Or.inl (hwi hw 25 rfl)) (by decide) (t := (.array (.array (.object "java/lang/Object")))) (t' := .int) (by decide) (by decide)))
  have f75 := f70.other W72 (Or.inr (slot_ne (Or.inl (hwi hw 51 rfl)) (Or.inl (hwi hw 25 rfl)) (by decide) (t := .int) (t' := .int) (by decide) (by decide)))
  have f76 := f66.other W72 (Or.inr (slot_ne (Or.inl (hwi hw 35 rfl)) (Or.inl (hwi hw 25 rfl)) (by decide) (t := .int) (t' := .int) (by decide) (by decide)))
  have f78 := f68.other W72 (Or.inr (slot_ne (Or.inl (hwi hw 47 rfl)) (Or.inl (hwi hw 25 rfl)) (by decide) (t := .boolean) (t' := .int) (by decide) (by decide)))
  have f79 := f69.other W72 (Ne.symm n_ar)
  have K72 : Keep h0 h72 [a, rg] := K62.wr W72 (Or.inl (List.mem_of_getElem? (i := 0) rfl))
  have N72 := Fr.snoc X72 N62 g_a
  have f80 : Fld Z h72 a "com/example/rowmotif/rowmotif/matcher/PartitionRows" "first" "I" (.int 2) := f67.same W72
  obtain ⟨T81, X81, e81, st81⟩ := getF X72 hx hZ hown (host := "") (Or.inl (hwi hw 34 rfl)) Via.refl e72 f76 (g := (mkF m 55 #[rv a, iv 3] [(.ref a), (.ref a)])) rfl rfl (hb hby d4_55)
  obtain ⟨T82, h82, X82, e82, W82, st82⟩ := putF X81 hx hZ hown (host := "") (Or.inl (hwi hw 34 rfl)) Via.refl e81 f76 f73 (Or.inl (hwi hw 35 rfl)) (hwi hw 3 rfl) (ty := .int) (by decide) rfl rfl (g := (mkF m 60 #[rv a, iv 3] [(.int 1), (.ref a)])) rfl rfl (hb hby d4_60)
  have f83 := f73.wr W82
  have f84 := f74.other W82 (Or.inr (slot_ne (Or.inl (hwi hw 14 rfl)) (Or.inl (hwi hw 35 rfl)) (by decide) (t := (.array (.array (.object "java/lang/Object")))) (t' := .int) (by decide) (by decide)))
  have f85 := f75.other W82 (Or.inr (slot_ne (Or.inl (hwi hw 51 rfl)) (Or.inl (hwi hw 35 rfl)) (by decide) (t := .int) (t' := .int) (by decide) (by decide)))
  have f87 := f80.other W82 (Or.inr (slot_ne (Or.inl (hwi hw 25 rfl)) (Or.inl (hwi hw 35 rfl)) (by decide) (t := .int) (t' := .int) (by decide) (by decide)))
  have f88 := f78.other W82 (Or.inr (slot_ne (Or.inl (hwi hw 47 rfl)) (Or.inl (hwi hw 35 rfl)) (by decide) (t := .boolean) (t' := .int) (by decide) (by decide)))
  have f89 := f79.other W82 (Ne.symm n_ar)
  have K82 : Keep h0 h82 [a, rg] := K72.wr W82 (Or.inl (List.mem_of_getElem? (i := 0) rfl))
  have N82 := Fr.snoc X82 N72 g_a
  have f90 : Fld Z h82 a "com/example/rowmotif/rowmotif/matcher/PartitionRows" "count" "I" (.int 1) := f76.same W82
  obtain ⟨T91, X91, e91, st91⟩ := getF X82 hx hZ hown (host := "") (Or.inl (hwi hw 24 rfl)) Via.refl e82 f87 (g := (mkF m 1 #[rv a, iv 3] [(.ref a)])) rfl rfl (hb hby d4_1)
  obtain ⟨T92, X92, e92, st92⟩ := getF X91 hx hZ hown (host := "") (Or.inl (hwi hw 34 rfl)) Via.refl e91 f90 (g := (mkF m 9 #[rv a, iv 3] [(.ref a)])) rfl rfl (hb hby d4_9)
  obtain ⟨T93, X93, e93, st93⟩ := getF X92 hx hZ hown (host := "") (Or.inl (hwi hw 13 rfl)) Via.refl e92 f84 (g := (mkF m 16 #[rv a, iv 3] [(.ref a)])) rfl rfl (hb hby d4_16)
  obtain ⟨T94, X94, e94, st94⟩ := getF X93 hx hZ hown (host := "") (Or.inl (hwi hw 50 rfl)) Via.refl e93 f85 (g := (mkF m 20 #[rv a, iv 3] [(.ref a), (.ref rg)])) rfl rfl (hb hby d4_20)
  obtain ⟨cl95, Ar95, qa95, Sa95, Na95, Ha95, Ga95⟩ := f89
  have hin95 : ¬ ((2 : Int32) < 0 ∨ cl95.slots.size ≤ ((2 : Int32)).toNatClampNeg) := inb_of Sa95 ⟨by decide, by decide⟩
  obtain ⟨T96, h96, X96, e96, W96, st96⟩ := stR X94 hx hZ e94 Ar95 (j := (2 : Int32)) hin95 rfl (Or.inl rfl) (g := (mkF m 24 #[rv a, iv 3] [.null, (.int 2), (.ref rg)])) rfl rfl (hb hby d4_24)
  have f97 := f83.wr W96
  have f98 := f84.other W96 (Or.inl n_ar)
  have f99 := f85.other W96 (Or.inl n_ar)
  have f100 := f90.other W96 (Or.inl n_ar)
  have f101 := f87.other W96 (Or.inl n_ar)
  have f102 := f88.other W96 (Or.inl n_ar)
  have K96 : Keep h0 h96 [a, rg] := K82.wr W96 (Or.inl (List.mem_of_getElem? (i := 1) rfl))
  have N96 := Fr.snoc X96 N82 g_r
  have V96 : Arv Z h96 rg kr (.array (.object "java/lang/Object")) (16 : Int32) [.null, .null, .null] .null := Arv.set Ar95 qa95 Sa95 Na95 Ha95 Ga95 rfl W96 2 rfl (Nat.le_of_ble_eq_true rfl)
  obtain ⟨T104, X104, e104, st104⟩ := getF X96 hx hZ hown (host := "") (Or.inl (hwi hw 50 rfl)) Via.refl e96 f99 (g := (mkF m 27 #[rv a, iv 3] [(.ref a), (.ref a)])) rfl rfl (hb hby d4_27)
  obtain ⟨T105, X105, e105, st105⟩ := getF X104 hx hZ hown (host := "") (Or.inl (hwi hw 13 rfl)) Via.refl e104 f98 (g := (mkF m 33 #[rv a, iv 3] [(.ref a), (.int 3), (.ref a)])) rfl rfl (hb hby d4_33)
  obtain ⟨cl106, Ar106, qa106, Sa106, Na106, Ha106, Ga106⟩ := V96
  have V106 : Arv Z h96 rg kr (.array (.object "java/lang/Object")) (16 : Int32) [.null, .null, .null] .null := ⟨cl106, Ar106, qa106, Sa106, Na106, Ha106, Ga106⟩
  obtain ⟨T107, h107, X107, e107, W107, st107⟩ := putF X105 hx hZ hown (host := "") (Or.inl (hwi hw 50 rfl)) Via.refl e105 f99 f97 (Or.inl (hwi hw 51 rfl)) (hwi hw 3 rfl) (ty := .int) (by decide) rfl rfl (g := (mkF m 40 #[rv a, iv 3] [(.int 3), (.ref a)])) rfl rfl (hb hby d4_40)
  have f108 := f97.wr W107
  have f109 := f98.other W107 (Or.inr (slot_ne (Or.inl (hwi hw 14 rfl)) (Or.inl (hwi hw 51 rfl)) (by decide) (t := (.array (.array (.object "java/lang/Object")))) (t' := .int) (by decide) (by decide)))
  have f111 := f100.other W107 (Or.inr (slot_ne (Or.inl (hwi hw 35 rfl)) (Or.inl (hwi hw 51 rfl)) (by decide) (t := .int) (t' := .int) (by decide) (by decide)))
  have f112 := f101.other W107 (Or.inr (slot_ne (Or.inl (hwi hw 25 rfl)) (Or.inl (hwi hw 51 rfl)) (by decide) (t := .int) (t' := .int) (by decide) (by decide)))
  have f113 := f102.other W107 (Or.inr (slot_ne (Or.inl (hwi hw 47 rfl)) (Or.inl (hwi hw 51 rfl)) (by decide) (t := .boolean) (t' := .int) (by decide) (by decide)))
  have f114 := V106.other W107 (Ne.symm n_ar)
  have K107 : Keep h0 h107 [a, rg] := K96.wr W107 (Or.inl (List.mem_of_getElem? (i := 0) rfl))
  have N107 := Fr.snoc X107 N96 g_a
  have f115 : Fld Z h107 a "com/example/rowmotif/rowmotif/matcher/PartitionRows" "head" "I" (.int 3) := f99.same W107
  obtain ⟨T116, X116, e116, st116⟩ := getF X107 hx hZ hown (host := "") (Or.inl (hwi hw 24 rfl)) Via.refl e107 f112 (g := (mkF m 45 #[rv a, iv 3] [(.ref a), (.ref a)])) rfl rfl (hb hby d4_45)
  obtain ⟨T117, h117, X117, e117, W117, st117⟩ := putF X116 hx hZ hown (host := "") (Or.inl (hwi hw 24 rfl)) Via.refl e116 f112 f108 (Or.inl (hwi hw 25 rfl)) (hwi hw 3 rfl) (ty := .int) (by decide) rfl rfl (g := (mkF m 50 #[rv a, iv 3] [(.int 3), (.ref a)])) rfl rfl (hb hby d4_50)
  have f118 := f108.wr W117
  have f119 := f109.other W117 (Or.inr (slot_ne (Or.inl (hwi hw 14 rfl)) (Or.inl (hwi hw 25 rfl)) (by decide) (t := (.array (.array (.object "java/lang/Object")))) (t' := .int) (by decide) (by decide)))
  have f120 := f115.other W117 (Or.inr (slot_ne (Or.inl (hwi hw 51 rfl)) (Or.inl (hwi hw 25 rfl)) (by decide) (t := .int) (t' := .int) (by decide) (by decide)))
  have f121 := f111.other W117 (Or.inr (slot_ne (Or.inl (hwi hw 35 rfl)) (Or.inl (hwi hw 25 rfl)) (by decide) (t := .int) (t' := .int) (by decide) (by decide)))
  have f123 := f113.other W117 (Or.inr (slot_ne (Or.inl (hwi hw 47 rfl)) (Or.inl (hwi hw 25 rfl)) (by decide) (t := .boolean) (t' := .int) (by decide) (by decide)))
  have f124 := f114.other W117 (Ne.symm n_ar)
  have K117 : Keep h0 h117 [a, rg] := K107.wr W117 (Or.inl (List.mem_of_getElem? (i := 0) rfl))
  have N117 := Fr.snoc X117 N107 g_a
  have f125 : Fld Z h117 a "com/example/rowmotif/rowmotif/matcher/PartitionRows" "first" "I" (.int 3) := f112.same W117
  obtain ⟨T126, X126, e126, st126⟩ := getF X117 hx hZ hown (host := "") (Or.inl (hwi hw 34 rfl)) Via.refl e117 f121 (g := (mkF m 55 #[rv a, iv 3] [(.ref a), (.ref a)])) rfl rfl (hb hby d4_55)
  obtain ⟨T127, h127, X127, e127, W127, st127⟩ := putF X126 hx hZ hown (host := "") (Or.inl (hwi hw 34 rfl)) Via.refl e126 f121 f118 (Or.inl (hwi hw 35 rfl)) (hwi hw 3 rfl) (ty := .int) (by decide) rfl rfl (g := (mkF m 60 #[rv a, iv 3] [(.int 0), (.ref a)])) rfl rfl (hb hby d4_60)
  have f128 := f118.wr W127
  have f129 := f119.other W127 (Or.inr (slot_ne (Or.inl (hwi hw 14 rfl)) (Or.inl (hwi hw 35 rfl)) (by decide) (t := (.array (.array (.object "java/lang/Object")))) (t' := .int) (by decide) (by decide)))
  have f130 := f120.other W127 (Or.inr (slot_ne (Or.inl (hwi hw 51 rfl)) (Or.inl (hwi hw 35 rfl)) (by decide) (t := .int) (t' := .int) (by decide) (by decide)))
  have f132 := f125.other W127 (Or.inr (slot_ne (Or.inl (hwi hw 25 rfl)) (Or.inl (hwi hw 35 rfl)) (by decide) (t := .int) (t' := .int) (by decide) (by decide)))
  have f133 := f123.other W127 (Or.inr (slot_ne (Or.inl (hwi hw 47 rfl)) (Or.inl (hwi hw 35 rfl)) (by decide) (t := .boolean) (t' := .int) (by decide) (by decide)))
  have f134 := f124.other W127 (Ne.symm n_ar)
  have K127 : Keep h0 h127 [a, rg] := K117.wr W127 (Or.inl (List.mem_of_getElem? (i := 0) rfl))
  have N127 := Fr.snoc X127 N117 g_a
  have f135 : Fld Z h127 a "com/example/rowmotif/rowmotif/matcher/PartitionRows" "count" "I" (.int 0) := f121.same W127
  obtain ⟨T136, X136, e136, st136⟩ := getF X127 hx hZ hown (host := "") (Or.inl (hwi hw 24 rfl)) Via.refl e127 f132 (g := (mkF m 1 #[rv a, iv 3] [(.ref a)])) rfl rfl (hb hby d4_1)
  have pre137 : ∀ t_, Go p e below T136 (mkF m 66 #[rv a, iv 3] []) t_ → Go p e below s₁ (entryFrame m #[(.ref a), (.int 3)] 2) t_ := fun t_ kt => pre0 _ (by
      show Go p e below s₁ (mkF m 0 #[rv a, iv 3] []) _
      refine XS.aloadN X0.here hx rfl (hb hby d4_0) rfl rfl ?_
      show Go p e below s₁ (mkF m 1 #[rv a, iv 3] [(.ref a)]) _
      refine st1 _ ?_
      show Go p e below T1 (mkF m 4 #[rv a, iv 3] [(.int 0)]) _
      refine XS.iloadN X1.here hx rfl (hb hby d4_4) rfl ?_
      show Go p e below T1 (mkF m 5 #[rv a, iv 3] [(.int 3), (.int 0)]) _
      refine XS.icmpNo X1.here hx rfl (hb hby d4_5) rfl (tlt ((by decide) : (0 : Int32) < (3 : Int32))).2.1 ?_
      show Go p e below T1 (mkF m 8 #[rv a, iv 3] []) _
      refine XS.aloadN X1.here hx rfl (hb hby d4_8) rfl rfl ?_
      show Go p e below T1 (mkF m 9 #[rv a, iv 3] [(.ref a)]) _
      refine st2 _ ?_
      show Go p e below T2 (mkF m 12 #[rv a, iv 3] [(.int 3)]) _
      refine XS.ifNo X2.here hx rfl (hb hby d4_12) rfl ((if0 _ _).trans (tlt ((by decide) : (0 : Int32) < (3 : Int32))).2.2.2) ?_
      show Go p e below T2 (mkF m 15 #[rv a, iv 3] []) _
      refine XS.aloadN X2.here hx rfl (hb hby d4_15) rfl rfl ?_
      show Go p e below T2 (mkF m 16 #[rv a, iv 3] [(.ref a)]) _
      refine st3 _ ?_
      show Go p e below T3 (mkF m 19 #[rv a, iv 3] [(.ref rg)]) _
      refine XS.aloadN X3.here hx rfl (hb hby d4_19) rfl rfl ?_
      show Go p e below T3 (mkF m 20 #[rv a, iv 3] [(.ref a), (.ref rg)]) _
      refine st4 _ ?_
      show Go p e below T4 (mkF m 23 #[rv a, iv 3] [(.int 0), (.ref rg)]) _
      refine XS.aconstNull X4.here hx rfl (hb hby d4_23) ?_
      show Go p e below T4 (mkF m 24 #[rv a, iv 3] [.null, (.int 0), (.ref rg)]) _
      refine st6 _ ?_
      show Go p e below T6 (mkF m 25 #[rv a, iv 3] []) _
      refine XS.aloadN X6.here hx rfl (hb hby d4_25) rfl rfl ?_
      show Go p e below T6 (mkF m 26 #[rv a, iv 3] [(.ref a)]) _
      refine XS.aloadN X6.here hx rfl (hb hby d4_26) rfl rfl ?_
      show Go p e below T6 (mkF m 27 #[rv a, iv 3] [(.ref a), (.ref a)]) _
      refine st14 _ ?_
      show Go p e below T14 (mkF m 30 #[rv a, iv 3] [(.int 0), (.ref a)]) _
      refine XS.iconst X14.here hx rfl (hb hby d4_30) ?_
      show Go p e below T14 (mkF m 31 #[rv a, iv 3] [(.int 1), (.int 0), (.ref a)]) _
      refine XS.iadd X14.here hx rfl (hb hby d4_31) rfl ?_
      show Go p e below T14 (mkF m 32 #[rv a, iv 3] [(.int 1), (.ref a)]) _
      refine XS.aloadN X14.here hx rfl (hb hby d4_32) rfl rfl ?_
      show Go p e below T14 (mkF m 33 #[rv a, iv 3] [(.ref a), (.int 1), (.ref a)]) _
      refine st15 _ ?_
      show Go p e below T15 (mkF m 36 #[rv a, iv 3] [(.ref rg), (.int 1), (.ref a)]) _
      refine X15.arraylength hx (by rw [e15]; exact Ar16.1) (State.isArrayOf_alike hZ.alike Ar16.2.1) (g := (mkF m 36 #[rv a, iv 3] [(.ref rg), (.int 1), (.ref a)])) rfl rfl (hb hby d4_36) _ ?_
      rw [len_of Sa16 Na16]
      show Go p e below T15 (mkF m 37 #[rv a, iv 3] [(.int 16), (.int 1), (.ref a)]) _
      refine XS.iconst X15.here hx rfl (hb hby d4_37) ?_
      show Go p e below T15 (mkF m 38 #[rv a, iv 3] [(.int 1), (.int 16), (.int 1), (.ref a)]) _
      refine XS.isub X15.here hx rfl (hb hby d4_38) rfl ?_
      show Go p e below T15 (mkF m 39 #[rv a, iv 3] [(.int 15), (.int 1), (.ref a)]) _
      refine XS.iand X15.here hx rfl (hb hby d4_39) rfl ?_
      show Go p e below T15 (mkF m 40 #[rv a, iv 3] [(.int 1), (.ref a)]) _
      refine st17 _ ?_
      show Go p e below T17 (mkF m 43 #[rv a, iv 3] []) _
      refine XS.aloadN X17.here hx rfl (hb hby d4_43) rfl rfl ?_
      show Go p e below T17 (mkF m 44 #[rv a, iv 3] [(.ref a)]) _
      refine XS.dup X17.here hx rfl (hb hby d4_44) rfl rfl ?_
      show Go p e below T17 (mkF m 45 #[rv a, iv 3] [(.ref a), (.ref a)]) _
      refine st26 _ ?_
      show Go p e below T26 (mkF m 48 #[rv a, iv 3] [(.int 0), (.ref a)]) _
      refine XS.iconst X26.here hx rfl (hb hby d4_48) ?_
      show Go p e below T26 (mkF m 49 #[rv a, iv 3] [(.int 1), (.int 0), (.ref a)]) _
      refine XS.iadd X26.here hx rfl (hb hby d4_49) rfl ?_
      show Go p e below T26 (mkF m 50 #[rv a, iv 3] [(.int 1), (.ref a)]) _
      refine st27 _ ?_
      show Go p e below T27 (mkF m 53 #[rv a, iv 3] []) _
      refine XS.aloadN X27.here hx rfl (hb hby d4_53) rfl rfl ?_
      show Go p e below T27 (mkF m 54 #[rv a, iv 3] [(.ref a)]) _
      refine XS.dup X27.here hx rfl (hb hby d4_54) rfl rfl ?_
      show Go p e below T27 (mkF m 55 #[rv a, iv 3] [(.ref a), (.ref a)]) _
      refine st36 _ ?_
      show Go p e below T36 (mkF m 58 #[rv a, iv 3] [(.int 3), (.ref a)]) _
      refine XS.iconst X36.here hx rfl (hb hby d4_58) ?_
      show Go p e below T36 (mkF m 59 #[rv a, iv 3] [(.int 1), (.int 3), (.ref a)]) _
      refine XS.isub X36.here hx rfl (hb hby d4_59) rfl ?_
      show Go p e below T36 (mkF m 60 #[rv a, iv 3] [(.int 2), (.ref a)]) _
      refine st37 _ ?_
      show Go p e below T37 (mkF m 63 #[rv a, iv 3] []) _
      refine XS.goto X37.here hx rfl (pc0 := 63) (pc' := 0) rfl (hb hby d4_63) (by decide) (by decide) ?_
      show Go p e below T37 (mkF m 0 #[rv a, iv 3] []) _
      refine XS.aloadN X37.here hx rfl (hb hby d4_0) rfl rfl ?_
      show Go p e below T37 (mkF m 1 #[rv a, iv 3] [(.ref a)]) _
      refine st46 _ ?_
      show Go p e below T46 (mkF m 4 #[rv a, iv 3] [(.int 1)]) _
      refine XS.iloadN X46.here hx rfl (hb hby d4_4) rfl ?_
      show Go p e below T46 (mkF m 5 #[rv a, iv 3] [(.int 3), (.int 1)]) _
      refine XS.icmpNo X46.here hx rfl (hb hby d4_5) rfl (tlt ((by decide) : (1 : Int32) < (3 : Int32))).2.1 ?_
      show Go p e below T46 (mkF m 8 #[rv a, iv 3] []) _
      refine XS.aloadN X46.here hx rfl (hb hby d4_8) rfl rfl ?_
      show Go p e below T46 (mkF m 9 #[rv a, iv 3] [(.ref a)]) _
      refine st47 _ ?_
      show Go p e below T47 (mkF m 12 #[rv a, iv 3] [(.int 2)]) _
      refine XS.ifNo X47.here hx rfl (hb hby d4_12) rfl ((if0 _ _).trans (tlt ((by decide) : (0 : Int32) < (2 : Int32))).2.2.2) ?_
      show Go p e below T47 (mkF m 15 #[rv a, iv 3] []) _
      refine XS.aloadN X47.here hx rfl (hb hby d4_15) rfl rfl ?_
      show Go p e below T47 (mkF m 16 #[rv a, iv 3] [(.ref a)]) _
      refine st48 _ ?_
      show Go p e below T48 (mkF m 19 #[rv a, iv 3] [(.ref rg)]) _
      refine XS.aloadN X48.here hx rfl (hb hby d4_19) rfl rfl ?_
      show Go p e below T48 (mkF m 20 #[rv a, iv 3] [(.ref a), (.ref rg)]) _
      refine st49 _ ?_
      show Go p e below T49 (mkF m 23 #[rv a, iv 3] [(.int 1), (.ref rg)]) _
      refine XS.aconstNull X49.here hx rfl (hb hby d4_23) ?_
      show Go p e below T49 (mkF m 24 #[rv a, iv 3] [.null, (.int 1), (.ref rg)]) _
      refine st51 _ ?_
      show Go p e below T51 (mkF m 25 #[rv a, iv 3] []) _
      refine XS.aloadN X51.here hx rfl (hb hby d4_25) rfl rfl ?_
      show Go p e below T51 (mkF m 26 #[rv a, iv 3] [(.ref a)]) _
      refine XS.aloadN X51.here hx rfl (hb hby d4_26) rfl rfl ?_
      show Go p e below T51 (mkF m 27 #[rv a, iv 3] [(.ref a), (.ref a)]) _
      refine st59 _ ?_
      show Go p e below T59 (mkF m 30 #[rv a, iv 3] [(.int 1), (.ref a)]) _
      refine XS.iconst X59.here hx rfl (hb hby d4_30) ?_
      show Go p e below T59 (mkF m 31 #[rv a, iv 3] [(.int 1), (.int 1), (.ref a)]) _
      refine XS.iadd X59.here hx rfl (hb hby d4_31) rfl ?_
      show Go p e below T59 (mkF m 32 #[rv a, iv 3] [(.int 2), (.ref a)]) _
      refine XS.aloadN X59.here hx rfl (hb hby d4_32) rfl rfl ?_
      show Go p e below T59 (mkF m 33 #[rv a, iv 3] [(.ref a), (.int 2), (.ref a)]) _
      refine st60 _ ?_
      show Go p e below T60 (mkF m 36 #[rv a, iv 3] [(.ref rg), (.int 2), (.ref a)]) _
      refine X60.arraylength hx (by rw [e60]; exact Ar61.1) (State.isArrayOf_alike hZ.alike Ar61.2.1) (g := (mkF m 36 #[rv a, iv 3] [(.ref rg), (.int 2), (.ref a)])) rfl rfl (hb hby d4_36) _ ?_
      rw [len_of Sa61 Na61]
      show Go p e below T60 (mkF m 37 #[rv a, iv 3] [(.int 16), (.int 2), (.ref a)]) _
      refine XS.iconst X60.here hx rfl (hb hby d4_37) ?_
      show Go p e below T60 (mkF m 38 #[rv a, iv 3] [(.int 1), (.int 16), (.int 2), (.ref a)]) _
      refine XS.isub X60.here hx rfl (hb hby d4_38) rfl ?_
      show Go p e below T60 (mkF m 39 #[rv a, iv 3] [(.int 15), (.int 2), (.ref a)]) _
      refine XS.iand X60.here hx rfl (hb hby d4_39) rfl ?_
      show Go p e below T60 (mkF m 40 #[rv a, iv 3] [(.int 2), (.ref a)]) _
      refine st62 _ ?_
      show Go p e below T62 (mkF m 43 #[rv a, iv 3] []) _
      refine XS.aloadN X62.here hx rfl (hb hby d4_43) rfl rfl ?_
      show Go p e below T62 (mkF m 44 #[rv a, iv 3] [(.ref a)]) _
      refine XS.dup X62.here hx rfl (hb hby d4_44) rfl rfl ?_
      show Go p e below T62 (mkF m 45 #[rv a, iv 3] [(.ref a), (.ref a)]) _
      refine st71 _ ?_
      show Go p e below T71 (mkF m 48 #[rv a, iv 3] [(.int 1), (.ref a)]) _
      refine XS.iconst X71.here hx rfl (hb hby d4_48) ?_
      show Go p e below T71 (mkF m 49 #[rv a, iv 3] [(.int 1), (.int 1), (.ref a)]) _
      refine XS.iadd X71.here hx rfl (hb hby d4_49) rfl ?_
      show Go p e below T71 (mkF m 50 #[rv a, iv 3] [(.int 2), (.ref a)]) _
      refine st72 _ ?_
      show Go p e below T72 (mkF m 53 #[rv a, iv 3] []) _
      refine XS.aloadN X72.here hx rfl (hb hby d4_53) rfl rfl ?_
      show Go p e below T72 (mkF m 54 #[rv a, iv 3] [(.ref a)]) _
      refine XS.dup X72.here hx rfl (hb hby d4_54) rfl rfl ?_
      show Go p e below T72 (mkF m 55 #[rv a, iv 3] [(.ref a), (.ref a)]) _
      refine st81 _ ?_
      show Go p e below T81 (mkF m 58 #[rv a, iv 3] [(.int 2), (.ref a)]) _
      refine XS.iconst X81.here hx rfl (hb hby d4_58) ?_
      show Go p e below T81 (mkF m 59 #[rv a, iv 3] [(.int 1), (.int 2), (.ref a)]) _
      refine XS.isub X81.here hx rfl (hb hby d4_59) rfl ?_
      show Go p e below T81 (mkF m 60 #[rv a, iv 3] [(.int 1), (.ref a)]) _
      refine st82 _ ?_
      show Go p e below T82 (mkF m 63 #[rv a, iv 3] []) _
      refine XS.goto X82.here hx rfl (pc0 := 63) (pc' := 0) rfl (hb hby d4_63) (by decide) (by decide) ?_
      show Go p e below T82 (mkF m 0 #[rv a, iv 3] []) _
      refine XS.aloadN X82.here hx rfl (hb hby d4_0) rfl rfl ?_
      show Go p e below T82 (mkF m 1 #[rv a, iv 3] [(.ref a)]) _
      refine st91 _ ?_
      show Go p e below T91 (mkF m 4 #[rv a, iv 3] [(.int 2)]) _
      refine XS.iloadN X91.here hx rfl (hb hby d4_4) rfl ?_
      show Go p e below T91 (mkF m 5 #[rv a, iv 3] [(.int 3), (.int 2)]) _
      refine XS.icmpNo X91.here hx rfl (hb hby d4_5) rfl (tlt ((by decide) : (2 : Int32) < (3 : Int32))).2.1 ?_
      show Go p e below T91 (mkF m 8 #[rv a, iv 3] []) _
      refine XS.aloadN X91.here hx rfl (hb hby d4_8) rfl rfl ?_
      show Go p e below T91 (mkF m 9 #[rv a, iv 3] [(.ref a)]) _
      refine st92 _ ?_
      show Go p e below T92 (mkF m 12 #[rv a, iv 3] [(.int 1)]) _
      refine XS.ifNo X92.here hx rfl (hb hby d4_12) rfl ((if0 _ _).trans (tlt ((by decide) : (0 : Int32) < (1 : Int32))).2.2.2) ?_
      show Go p e below T92 (mkF m 15 #[rv a, iv 3] []) _
      refine XS.aloadN X92.here hx rfl (hb hby d4_15) rfl rfl ?_
      show Go p e below T92 (mkF m 16 #[rv a, iv 3] [(.ref a)]) _
      refine st93 _ ?_
      show Go p e below T93 (mkF m 19 #[rv a, iv 3] [(.ref rg)]) _
      refine XS.aloadN X93.here hx rfl (hb hby d4_19) rfl rfl ?_
      show Go p e below T93 (mkF m 20 #[rv a, iv 3] [(.ref a), (.ref rg)]) _
      refine st94 _ ?_
      show Go p e below T94 (mkF m 23 #[rv a, iv 3] [(.int 2), (.ref rg)]) _
      refine XS.aconstNull X94.here hx rfl (hb hby d4_23) ?_
      show Go p e below T94 (mkF m 24 #[rv a, iv 3] [.null, (.int 2), (.ref rg)]) _
      refine st96 _ ?_
      show Go p e below T96 (mkF m 25 #[rv a, iv 3] []) _
      refine XS.aloadN X96.here hx rfl (hb hby d4_25) rfl rfl ?_
      show Go p e below T96 (mkF m 26 #[rv a, iv 3] [(.ref a)]) _
      refine XS.aloadN X96.here hx rfl (hb hby d4_26) rfl rfl ?_
      show Go p e below T96 (mkF m 27 #[rv a, iv 3] [(.ref a), (.ref a)]) _
      refine st104 _ ?_
      show Go p e below T104 (mkF m 30 #[rv a, iv 3] [(.int 2), (.ref a)]) _
      refine XS.iconst X104.here hx rfl (hb hby d4_30) ?_
      show Go p e below T104 (mkF m 31 #[rv a, iv 3] [(.int 1), (.int 2), (.ref a)]) _
      refine XS.iadd X104.here hx rfl (hb hby d4_31) rfl ?_
      show Go p e below T104 (mkF m 32 #[rv a, iv 3] [(.int 3), (.ref a)]) _
      refine XS.aloadN X104.here hx rfl (hb hby d4_32) rfl rfl ?_
      show Go p e below T104 (mkF m 33 #[rv a, iv 3] [(.ref a), (.int 3), (.ref a)]) _
      refine st105 _ ?_
      show Go p e below T105 (mkF m 36 #[rv a, iv 3] [(.ref rg), (.int 3), (.ref a)]) _
      refine X105.arraylength hx (by rw [e105]; exact Ar106.1) (State.isArrayOf_alike hZ.alike Ar106.2.1) (g := (mkF m 36 #[rv a, iv 3] [(.ref rg), (.int 3), (.ref a)])) rfl rfl (hb hby d4_36) _ ?_
      rw [len_of Sa106 Na106]
      show Go p e below T105 (mkF m 37 #[rv a, iv 3] [(.int 16), (.int 3), (.ref a)]) _
      refine XS.iconst X105.here hx rfl (hb hby d4_37) ?_
      show Go p e below T105 (mkF m 38 #[rv a, iv 3] [(.int 1), (.int 16), (.int 3), (.ref a)]) _
      refine XS.isub X105.here hx rfl (hb hby d4_38) rfl ?_
      show Go p e below T105 (mkF m 39 #[rv a, iv 3] [(.int 15), (.int 3), (.ref a)]) _
      refine XS.iand X105.here hx rfl (hb hby d4_39) rfl ?_
      show Go p e below T105 (mkF m 40 #[rv a, iv 3] [(.int 3), (.ref a)]) _
      refine st107 _ ?_
      show Go p e below T107 (mkF m 43 #[rv a, iv 3] []) _
      refine XS.aloadN X107.here hx rfl (hb hby d4_43) rfl rfl ?_
      show Go p e below T107 (mkF m 44 #[rv a, iv 3] [(.ref a)]) _
      refine XS.dup X107.here hx rfl (hb hby d4_44) rfl rfl ?_
      show Go p e below T107 (mkF m 45 #[rv a, iv 3] [(.ref a), (.ref a)]) _
      refine st116 _ ?_
      show Go p e below T116 (mkF m 48 #[rv a, iv 3] [(.int 2), (.ref a)]) _
      refine XS.iconst X116.here hx rfl (hb hby d4_48) ?_
      show Go p e below T116 (mkF m 49 #[rv a, iv 3] [(.int 1), (.int 2), (.ref a)]) _
      refine XS.iadd X116.here hx rfl (hb hby d4_49) rfl ?_
      show Go p e below T116 (mkF m 50 #[rv a, iv 3] [(.int 3), (.ref a)]) _
      refine st117 _ ?_
      show Go p e below T117 (mkF m 53 #[rv a, iv 3] []) _
      refine XS.aloadN X117.here hx rfl (hb hby d4_53) rfl rfl ?_
      show Go p e below T117 (mkF m 54 #[rv a, iv 3] [(.ref a)]) _
      refine XS.dup X117.here hx rfl (hb hby d4_54) rfl rfl ?_
      show Go p e below T117 (mkF m 55 #[rv a, iv 3] [(.ref a), (.ref a)]) _
      refine st126 _ ?_
      show Go p e below T126 (mkF m 58 #[rv a, iv 3] [(.int 1), (.ref a)]) _
      refine XS.iconst X126.here hx rfl (hb hby d4_58) ?_
      show Go p e below T126 (mkF m 59 #[rv a, iv 3] [(.int 1), (.int 1), (.ref a)]) _
      refine XS.isub X126.here hx rfl (hb hby d4_59) rfl ?_
      show Go p e below T126 (mkF m 60 #[rv a, iv 3] [(.int 0), (.ref a)]) _
      refine st127 _ ?_
      show Go p e below T127 (mkF m 63 #[rv a, iv 3] []) _
      refine XS.goto X127.here hx rfl (pc0 := 63) (pc' := 0) rfl (hb hby d4_63) (by decide) (by decide) ?_
      show Go p e below T127 (mkF m 0 #[rv a, iv 3] []) _
      refine XS.aloadN X127.here hx rfl (hb hby d4_0) rfl rfl ?_
      show Go p e below T127 (mkF m 1 #[rv a, iv 3] [(.ref a)]) _
      refine st136 _ ?_
      show Go p e below T136 (mkF m 4 #[rv a, iv 3] [(.int 3)]) _
      refine XS.iloadN X136.here hx rfl (hb hby d4_4) rfl ?_
      show Go p e below T136 (mkF m 5 #[rv a, iv 3] [(.int 3), (.int 3)]) _
      refine XS.icmpYes X136.here hx rfl (pc0 := 5) (pc' := 66) rfl (hb hby d4_5) rfl (flt ((by decide) : ¬ ((3 : Int32) < (3 : Int32)))).2.1 (by decide) (by decide) ?_
      show Go p e below T136 (mkF m 66 #[rv a, iv 3] []) _
      exact kt)
  obtain ⟨fs, hr, hrun, hended, hW, hsame⟩ := X136.leave (v := none) (fun _ => rfl)
  refine ⟨_, _, pre137 _ ?_, hrun, hended, _, _, rfl, ?_, ⟨_, rfl⟩, hW, hsame.mono (by decide) (by decide)⟩
  · show Steps p.tables e below (T136.setTop (mkF m 66 #[rv a, iv 3] [])) _
    exact X136.returnOut hx Bd.returns (hb hby d4_66) hr
  · show Q_rmR0_3_3 Z a rg kr u0 u1 u2 h0 n0 _ T136.heap _
    rw [e136]
    exact ⟨rfl, N127, K127, ⟨f128, f129, f130, f135, f132, f133, f134, O_r, n_ar⟩⟩
def Q_rmR1_2_1 (Z : State) (a : Addr) (rg : Addr) (kr : ClassId) (u0 : Value) (u1 : Value) (u2 : Value) (h0 : Heap) (n0 : Nat) (v : Option Value) (h : Heap) (L : List Loc) : Prop := v = none ∧ Fr n0 L ∧ Keep h0 h [a, rg] ∧ Rg Z h a rg kr (2 : Int32) (1 : Int32) u0 .null u2
set_option maxRecDepth 65536 in
set_option maxHeartbeats 40000000 in
theorem rmR1_2_1 (l : Launch) (Z : State) (a0 : Array Value) (hw : ∀ d ∈ tables_1, d.before a0 Z = true) (ws : List Jvm.Cond) (a : Addr) (rg : Addr) (kr : ClassId) (u0 : Value) (u1 : Value) (u2 : Value) (h0 : Heap) (n0 : Nat) (Z0 : n0 ≤ h0.size) (hR : Rg Z h0 a rg kr (1 : Int32) (2 : Int32) u0 u1 u2) (g_a : n0 ≤ a) (g_r : n0 ≤ rg) :
    MetFree l (⟨"com/example/rowmotif/rowmotif/matcher/PartitionRows", "release", "(I)V"⟩ : MethodName) (head1 (Jvm.Cond.code (⟨"com/example/rowmotif/rowmotif/matcher/PartitionRows", "release", "(I)V"⟩ : MethodName) prog_78_method_8_code 2 none :: ws) ({ frames := 0, cells := 0, slots := 0, locals := 0 } : Room)) (fun av_ U_ => av_ = #[(.ref a), (.int 2)] ∧ Z.Warmed39 U_.vm ∧ U_.heap = h0) (fun _ _ _ _ _ => True) (fun _ U_ o_ V_ => ∃ v_ L_, o_ = .returned v_ ∧ Q_rmR1_2_1 Z a rg kr u0 u1 u2 h0 n0 v_ V_.heap L_ ∧ FrameEnd U_ o_ V_ L_ ({ frames := 0, cells := 0, slots := 0, locals := 0 } : Room).cells ({ frames := 0, cells := 0, slots := 0, locals := 0 } : Room).slots) := by
  refine MetFree.of_bodySF (plainFor_of_name pn_com_example_rowmotif_rowmotif_matcher_PartitionRows) hisR ?_
  intro p e s m args below meth c s₁ Bd hml0 hP hK
  obtain ⟨rfl, hZ, hh⟩ := hP
  have hx := Bd.exec
  have hby := Bd.bytes
  have hml : c.maxLocals = 2 := hml0
  have hown : s.vm.findClass "com/example/rowmotif/rowmotif/matcher/PartitionRows" = some m.cls := findClass_of_methodNamed Bd.named
  have hnm := (name_of_methodNamed Bd.named Bd.method).1
  have X0 : Stand p l e ({ frames := 0, cells := 0, slots := 0, locals := 0 } : Room) s m #[(.ref a), (.int 2)] below meth c s₁ [] 0 0 := Stand.of_body Bd
  have e0 : s₁.heap = h0 := by rw [← hh, Bd.state]; rfl
  have N0 := Fr.nil n0
  have pre0 : ∀ t_, Go p e below s₁ (mkF m 0 #[rv a, iv 2] []) t_ → Go p e below s₁ (entryFrame m #[(.ref a), (.int 2)] 2) t_ := fun t_ kt => castTop (ef_4 m a (2 : Int32)) kt
  obtain ⟨E_a, F_ring, F_head, F_count, F_first, F_complete, V_r, O_r, n_ar⟩ := hR
  obtain ⟨T1, X1, e1, st1⟩ := getF X0 hx hZ hown (host := "") (Or.inl (hwi hw 24 rfl)) Via.refl e0 F_first (g := (mkF m 1 #[rv a, iv 2] [(.ref a)])) rfl rfl (hb hby d4_1)
  obtain ⟨T2, X2, e2, st2⟩ := getF X1 hx hZ hown (host := "") (Or.inl (hwi hw 34 rfl)) Via.refl e1 F_count (g := (mkF m 9 #[rv a, iv 2] [(.ref a)])) rfl rfl (hb hby d4_9)
  obtain ⟨T3, X3, e3, st3⟩ := getF X2 hx hZ hown (host := "") (Or.inl (hwi hw 13 rfl)) Via.refl e2 F_ring (g := (mkF m 16 #[rv a, iv 2] [(.ref a)])) rfl rfl (hb hby d4_16)
  obtain ⟨T4, X4, e4, st4⟩ := getF X3 hx hZ hown (host := "") (Or.inl (hwi hw 50 rfl)) Via.refl e3 F_head (g := (mkF m 20 #[rv a, iv 2] [(.ref a), (.ref rg)])) rfl rfl (hb hby d4_20)
  obtain ⟨cl5, Ar5, qa5, Sa5, Na5, Ha5, Ga5⟩ := V_r
  have hin5 : ¬ ((1 : Int32) < 0 ∨ cl5.slots.size ≤ ((1 : Int32)).toNatClampNeg) := inb_of Sa5 ⟨by decide, by decide⟩
  obtain ⟨T6, h6, X6, e6, W6, st6⟩ := stR X4 hx hZ e4 Ar5 (j := (1 : Int32)) hin5 rfl (Or.inl rfl) (g := (mkF m 24 #[rv a, iv 2] [.null, (.int 1), (.ref rg)])) rfl rfl (hb hby d4_24)
  have f7 := E_a.wr W6
  have f8 := F_ring.other W6 (Or.inl n_ar)
  have f9 := F_head.other W6 (Or.inl n_ar)
  have f10 := F_count.other W6 (Or.inl n_ar)
  have f11 := F_first.other W6 (Or.inl n_ar)
  have f12 := F_complete.other W6 (Or.inl n_ar)
  have K6 : Keep h0 h6 [a, rg] := (Keep.refl h0 [a, rg]).wr W6 (Or.inl (List.mem_of_getElem? (i := 1) rfl))
  have N6 := Fr.snoc X6 N0 g_r
  have V6 : Arv Z h6 rg kr (.array (.object "java/lang/Object")) (16 : Int32) [u0, .null, u2] .null := Arv.set Ar5 qa5 Sa5 Na5 Ha5 Ga5 rfl W6 1 rfl (Nat.le_of_ble_eq_true rfl)
  obtain ⟨T14, X14, e14, st14⟩ := getF X6 hx hZ hown (host := "") (Or.inl (hwi hw 50 rfl)) Via.refl e6 f9 (g := (mkF m 27 #[rv a, iv 2] [(.ref a), (.ref a)])) rfl rfl (hb hby d4_27)
  obtain ⟨T15, X15, e15, st15⟩ := getF X14 hx hZ hown (host := "") (Or.inl (hwi hw 13 rfl)) Via.refl e14 f8 (g := (mkF m 33 #[rv a, iv 2] [(.ref a), (.int 2), (.ref a)])) rfl rfl (hb hby d4_33)
  obtain ⟨cl16, Ar16, qa16, Sa16, Na16, Ha16, Ga16⟩ := V6
  have V16 : Arv Z h6 rg kr (.array (.object "java/lang/Object")) (16 : Int32) [u0, .null, u2] .null := ⟨cl16, Ar16, qa16, Sa16, Na16, Ha16, Ga16⟩
  obtain ⟨T17, h17, X17, e17, W17, st17⟩ := putF X15 hx hZ hown (host := "") (Or.inl (hwi hw 50 rfl)) Via.refl e15 f9 f7 (Or.inl (hwi hw 51 rfl)) (hwi hw 3 rfl) (ty := .int) (by decide) rfl rfl (g := (mkF m 40 #[rv a, iv 2] [(.int 2), (.ref a)])) rfl rfl (hb hby d4_40)
  have f18 := f7.wr W17
  have f19 := f8.other W17 (Or.inr (slot_ne (Or.inl (hwi hw 14 rfl)) (Or.inl (hwi hw 51 rfl)) (by decide) (t := (.array (.array (.object "java/lang/Object")))) (t' := .int) (by decide) (by decide)))
  have f21 := f10.other W17 (Or.inr (slot_ne (Or.inl (hwi hw 35 rfl)) (Or.inl (hwi hw 51 rfl)) (by decide) (t := .int) (t' := .int) (by decide) (by decide)))
  have f22 := f11.other W17 (Or.inr (slot_ne (Or.inl (hwi hw 25 rfl)) (Or.inl (hwi hw 51 rfl)) (by decide) (t := .int) (t' := .int) (by decide) (by decide)))
  have f23 := f12.other W17 (Or.inr (slot_ne (Or.inl (hwi hw 47 rfl)) (Or.inl (hwi hw 51 rfl)) (by decide) (t := .boolean) (t' := .int) (by decide) (by decide)))
  have f24 := V16.other W17 (Ne.symm n_ar)
  have K17 : Keep h0 h17 [a, rg] := K6.wr W17 (Or.inl (List.mem_of_getElem? (i := 0) rfl))
  have N17 := Fr.snoc X17 N6 g_a
  have f25 : Fld Z h17 a "com/example/rowmotif/rowmotif/matcher/PartitionRows" "head" "I" (.int 2) := f9.same W17
  obtain ⟨T26, X26, e26, st26⟩ := getF X17 hx hZ hown (host := "") (Or.inl (hwi hw 24 rfl)) Via.refl e17 f22 (g := (mkF m 45 #[rv a, iv 2] [(.ref a), (.ref a)])) rfl rfl (hb hby d4_45)
  obtain ⟨T27, h27, X27, e27, W27, st27⟩ := putF X26 hx hZ hown (host := "") (Or.inl (hwi hw 24 rfl)) Via.refl e26 f22 f18 (Or.inl (hwi hw 25 rfl)) (hwi hw 3 rfl) (ty := .int) (by decide) rfl rfl (g := (mkF m 50 #[rv a, iv 2] [(.int 2), (.ref a)])) rfl rfl (hb hby d4_50)
  have f28 := f18.wr W27
  have f29 := f19.other W27 (Or.inr (slot_ne (Or.inl (hwi hw 14 rfl)) (Or.inl (hwi hw 25 rfl)) (by decide) (t := (.array (.array (.object "java/lang/Object")))) (t' := .int) (by decide) (by decide)))
  have f30 := f25.other W27 (Or.inr (slot_ne (Or.inl (hwi hw 51 rfl)) (Or.inl (hwi hw 25 rfl)) (by decide) (t := .int) (t' := .int) (by decide) (by decide)))
  have f31 := f21.other W27 (Or.inr (slot_ne (Or.inl (hwi hw 35 rfl)) (Or.inl (hwi hw 25 rfl)) (by decide) (t := .int) (t' := .int) (by decide) (by decide)))
  have f33 := f23.other W27 (Or.inr (slot_ne (Or.inl (hwi hw 47 rfl)) (Or.inl (hwi hw 25 rfl)) (by decide) (t := .boolean) (t' := .int) (by decide) (by decide)))
  have f34 := f24.other W27 (Ne.symm n_ar)
  have K27 : Keep h0 h27 [a, rg] := K17.wr W27 (Or.inl (List.mem_of_getElem? (i := 0) rfl))
  have N27 := Fr.snoc X27 N17 g_a
  have f35 : Fld Z h27 a "com/example/rowmotif/rowmotif/matcher/PartitionRows" "first" "I" (.int 2) := f22.same W27
  obtain ⟨T36, X36, e36, st36⟩ := getF X27 hx hZ hown (host := "") (Or.inl (hwi hw 34 rfl)) Via.refl e27 f31 (g := (mkF m 55 #[rv a, iv 2] [(.ref a), (.ref a)])) rfl rfl (hb hby d4_55)
  obtain ⟨T37, h37, X37, e37, W37, st37⟩ := putF X36 hx hZ hown (host := "") (Or.inl (hwi hw 34 rfl)) Via.refl e36 f31 f28 (Or.inl (hwi hw 35 rfl)) (hwi hw 3 rfl) (ty := .int) (by decide) rfl rfl (g := (mkF m 60 #[rv a, iv 2] [(.int 1), (.ref a)])) rfl rfl (hb hby d4_60)
  have f38 := f28.wr W37
  have f39 := f29.other W37 (Or.inr (slot_ne (Or.inl (hwi hw 14 rfl)) (Or.inl (hwi hw 35 rfl)) (by decide) (t := (.array (.array (.object "java/lang/Object")))) (t' := .int) (by decide) (by decide)))
  have f40 := f30.other W37 (Or.inr (slot_ne (Or.inl (hwi hw 51 rfl)) (Or.inl (hwi hw 35 rfl)) (by decide) (t := .int) (t' := .int) (by decide) (by decide)))
  have f42 := f35.other W37 (Or.inr (slot_ne (Or.inl (hwi hw 25 rfl)) (Or.inl (hwi hw 35 rfl)) (by decide) (t := .int) (t' := .int) (by decide) (by decide)))
  have f43 := f33.other W37 (Or.inr (slot_ne (Or.inl (hwi hw 47 rfl)) (Or.inl (hwi hw 35 rfl)) (by decide) (t := .boolean) (t' := .int) (by decide) (by decide)))
  have f44 := f34.other W37 (Ne.symm n_ar)
  have K37 : Keep h0 h37 [a, rg] := K27.wr W37 (Or.inl (List.mem_of_getElem? (i := 0) rfl))
  have N37 := Fr.snoc X37 N27 g_a
  have f45 : Fld Z h37 a "com/example/rowmotif/rowmotif/matcher/PartitionRows" "count" "I" (.int 1) := f31.same W37
  obtain ⟨T46, X46, e46, st46⟩ := getF X37 hx hZ hown (host := "") (Or.inl (hwi hw 24 rfl)) Via.refl e37 f42 (g := (mkF m 1 #[rv a, iv 2] [(.ref a)])) rfl rfl (hb hby d4_1)
  have pre47 : ∀ t_, Go p e below T46 (mkF m 66 #[rv a, iv 2] []) t_ → Go p e below s₁ (entryFrame m #[(.ref a), (.int 2)] 2) t_ := fun t_ kt => pre0 _ (by
      show Go p e below s₁ (mkF m 0 #[rv a, iv 2] []) _
      refine XS.aloadN X0.here hx rfl (hb hby d4_0) rfl rfl ?_
      show Go p e below s₁ (mkF m 1 #[rv a, iv 2] [(.ref a)]) _
      refine st1 _ ?_
      show Go p e below T1 (mkF m 4 #[rv a, iv 2] [(.int 1)]) _
      refine XS.iloadN X1.here hx rfl (hb hby d4_4) rfl ?_
      show Go p e below T1 (mkF m 5 #[rv a, iv 2] [(.int 2), (.int 1)]) _
      refine XS.icmpNo X1.here hx rfl (hb hby d4_5) rfl (tlt ((by decide) : (1 : Int32) < (2 : Int32))).2.1 ?_
      show Go p e below T1 (mkF m 8 #[rv a, iv 2] []) _
      refine XS.aloadN X1.here hx rfl (hb hby d4_8) rfl rfl ?_
      show Go p e below T1 (mkF m 9 #[rv a, iv 2] [(.ref a)]) _
      refine st2 _ ?_
      show Go p e below T2 (mkF m 12 #[rv a, iv 2] [(.int 2)]) _
      refine XS.ifNo X2.here hx rfl (hb hby d4_12) rfl ((if0 _ _).trans (tlt ((by decide) : (0 : Int32) < (2 : Int32))).2.2.2) ?_
      show Go p e below T2 (mkF m 15 #[rv a, iv 2] []) _
      refine XS.aloadN X2.here hx rfl (hb hby d4_15) rfl rfl ?_
      show Go p e below T2 (mkF m 16 #[rv a, iv 2] [(.ref a)]) _
      refine st3 _ ?_
      show Go p e below T3 (mkF m 19 #[rv a, iv 2] [(.ref rg)]) _
      refine XS.aloadN X3.here hx rfl (hb hby d4_19) rfl rfl ?_
      show Go p e below T3 (mkF m 20 #[rv a, iv 2] [(.ref a), (.ref rg)]) _
      refine st4 _ ?_
      show Go p e below T4 (mkF m 23 #[rv a, iv 2] [(.int 1), (.ref rg)]) _
      refine XS.aconstNull X4.here hx rfl (hb hby d4_23) ?_
      show Go p e below T4 (mkF m 24 #[rv a, iv 2] [.null, (.int 1), (.ref rg)]) _
      refine st6 _ ?_
      show Go p e below T6 (mkF m 25 #[rv a, iv 2] []) _
      refine XS.aloadN X6.here hx rfl (hb hby d4_25) rfl rfl ?_
      show Go p e below T6 (mkF m 26 #[rv a, iv 2] [(.ref a)]) _
      refine XS.aloadN X6.here hx rfl (hb hby d4_26) rfl rfl ?_
      show Go p e below T6 (mkF m 27 #[rv a, iv 2] [(.ref a), (.ref a)]) _
      refine st14 _ ?_
      show Go p e below T14 (mkF m 30 #[rv a, iv 2] [(.int 1), (.ref a)]) _
      refine XS.iconst X14.here hx rfl (hb hby d4_30) ?_
      show Go p e below T14 (mkF m 31 #[rv a, iv 2] [(.int 1), (.int 1), (.ref a)]) _
      refine XS.iadd X14.here hx rfl (hb hby d4_31) rfl ?_
      show Go p e below T14 (mkF m 32 #[rv a, iv 2] [(.int 2), (.ref a)]) _
      refine XS.aloadN X14.here hx rfl (hb hby d4_32) rfl rfl ?_
      show Go p e below T14 (mkF m 33 #[rv a, iv 2] [(.ref a), (.int 2), (.ref a)]) _
      refine st15 _ ?_
      show Go p e below T15 (mkF m 36 #[rv a, iv 2] [(.ref rg), (.int 2), (.ref a)]) _
      refine X15.arraylength hx (by rw [e15]; exact Ar16.1) (State.isArrayOf_alike hZ.alike Ar16.2.1) (g := (mkF m 36 #[rv a, iv 2] [(.ref rg), (.int 2), (.ref a)])) rfl rfl (hb hby d4_36) _ ?_
      rw [len_of Sa16 Na16]
      show Go p e below T15 (mkF m 37 #[rv a, iv 2] [(.int 16), (.int 2), (.ref a)]) _
      refine XS.iconst X15.here hx rfl (hb hby d4_37) ?_
      show Go p e below T15 (mkF m 38 #[rv a, iv 2] [(.int 1), (.int 16), (.int 2), (.ref a)]) _
      refine XS.isub X15.here hx rfl (hb hby d4_38) rfl ?_
      show Go p e below T15 (mkF m 39 #[rv a, iv 2] [(.int 15), (.int 2), (.ref a)]) _
      refine XS.iand X15.here hx rfl (hb hby d4_39) rfl ?_
      show Go p e below T15 (mkF m 40 #[rv a, iv 2] [(.int 2), (.ref a)]) _
      refine st17 _ ?_
      show Go p e below T17 (mkF m 43 #[rv a, iv 2] []) _
      refine XS.aloadN X17.here hx rfl (hb hby d4_43) rfl rfl ?_
      show Go p e below T17 (mkF m 44 #[rv a, iv 2] [(.ref a)]) _
      refine XS.dup X17.here hx rfl (hb hby d4_44) rfl rfl ?_
      show Go p e below T17 (mkF m 45 #[rv a, iv 2] [(.ref a), (.ref a)]) _
      refine st26 _ ?_
      show Go p e below T26 (mkF m 48 #[rv a, iv 2] [(.int 1), (.ref a)]) _
      refine XS.iconst X26.here hx rfl (hb hby d4_48) ?_
      show Go p e below T26 (mkF m 49 #[rv a, iv 2] [(.int 1), (.int 1), (.ref a)]) _
      refine XS.iadd X26.here hx rfl (hb hby d4_49) rfl ?_
      show Go p e below T26 (mkF m 50 #[rv a, iv 2] [(.int 2), (.ref a)]) _
      refine st27 _ ?_
      show Go p e below T27 (mkF m 53 #[rv a, iv 2] []) _
      refine XS.aloadN X27.here hx rfl (hb hby d4_53) rfl rfl ?_
      show Go p e below T27 (mkF m 54 #[rv a, iv 2] [(.ref a)]) _
      refine XS.dup X27.here hx rfl (hb hby d4_54) rfl rfl ?_
      show Go p e below T27 (mkF m 55 #[rv a, iv 2] [(.ref a), (.ref a)]) _
      refine st36 _ ?_
      show Go p e below T36 (mkF m 58 #[rv a, iv 2] [(.int 2), (.ref a)]) _
      refine XS.iconst X36.here hx rfl (hb hby d4_58) ?_
      show Go p e below T36 (mkF m 59 #[rv a, iv 2] [(.int 1), (.int 2), (.ref a)]) _
      refine XS.isub X36.here hx rfl (hb hby d4_59) rfl ?_
      show Go p e below T36 (mkF m 60 #[rv a, iv 2] [(.int 1), (.ref a)]) _
      refine st37 _ ?_
      show Go p e below T37 (mkF m 63 #[rv a, iv 2] []) _
      refine XS.goto X37.here hx rfl (pc0 := 63) (pc' := 0) rfl (hb hby d4_63) (by decide) (by decide) ?_
      show Go p e below T37 (mkF m 0 #[rv a, iv 2] []) _
      refine XS.aloadN X37.here hx rfl (hb hby d4_0) rfl rfl ?_
      show Go p e below T37 (mkF m 1 #[rv a, iv 2] [(.ref a)]) _
      refine st46 _ ?_
      show Go p e below T46 (mkF m 4 #[rv a, iv 2] [(.int 2)]) _
      refine XS.iloadN X46.here hx rfl (hb hby d4_4) rfl ?_
      show Go p e below T46 (mkF m 5 #[rv a, iv 2] [(.int 2), (.int 2)]) _
      refine XS.icmpYes X46.here hx rfl (pc0 := 5) (pc' := 66) rfl (hb hby d4_5) rfl (flt ((by decide) : ¬ ((2 : Int32) < (2 : Int32)))).2.1 (by decide) (by decide) ?_
      show Go p e below T46 (mkF m 66 #[rv a, iv 2] []) _
      exact kt)
  obtain ⟨fs, hr, hrun, hended, hW, hsame⟩ := X46.leave (v := none) (fun _ => rfl)
  refine ⟨_, _, pre47 _ ?_, hrun, hended, _, _, rfl, ?_, ⟨_, rfl⟩, hW, hsame.mono (by decide) (by decide)⟩
  · show Steps p.tables e below (T46.setTop (mkF m 66 #[rv a, iv 2] [])) _
    exact X46.returnOut hx Bd.returns (hb hby d4_66) hr
  · show Q_rmR1_2_1 Z a rg kr u0 u1 u2 h0 n0 _ T46.heap _
    rw [e46]
    exact ⟨rfl, N37, K37, ⟨f38, f39, f40, f45, f42, f43, f44, O_r, n_ar⟩⟩
def Q_rmR1_2_2 (Z : State) (a : Addr) (rg : Addr) (kr : ClassId) (u0 : Value) (u1 : Value) (u2 : Value) (h0 : Heap) (n0 : Nat) (v : Option Value) (h : Heap) (L : List Loc) : Prop := v = none ∧ Fr n0 L ∧ Keep h0 h [a, rg] ∧ Rg Z h a rg kr (3 : Int32) (0 : Int32) u0 .null .null
set_option maxRecDepth 65536 in
set_option maxHeartbeats 40000000 in
theorem rmR1_2_2 (l : Launch) (Z : State) (a0 : Array Value) (hw : ∀ d ∈ tables_1, d.before a0 Z = true) (ws : List Jvm.Cond) (a : Addr) (rg : Addr) (kr : ClassId) (u0 : Value) (u1 : Value) (u2 : Value) (h0 : Heap) (n0 : Nat) (Z0 : n0 ≤ h0.size) (hR : Rg Z h0 a rg kr (1 : Int32) (2 : Int32) u0 u1 u2) (g_a : n0 ≤ a) (g_r : n0 ≤ rg) :
    MetFree l (⟨"com/example/rowmotif/rowmotif/matcher/PartitionRows", "release", "(I)V"⟩ : MethodName) (head1 (Jvm.Cond.code (⟨"com/example/rowmotif/rowmotif/matcher/PartitionRows", "release", "(I)V"⟩ : MethodName) prog_78_method_8_code 2 none :: ws) ({ frames := 0, cells := 0, slots := 0, locals := 0 } : Room)) (fun av_ U_ => av_ = #[(.ref a), (.int 3)] ∧ Z.Warmed39 U_.vm ∧ U_.heap = h0) (fun _ _ _ _ _ => True) (fun _ U_ o_ V_ => ∃ v_ L_, o_ = .returned v_ ∧ Q_rmR1_2_2 Z a rg kr u0 u1 u2 h0 n0 v_ V_.heap L_ ∧ FrameEnd U_ o_ V_ L_ ({ frames := 0, cells := 0, slots := 0, locals := 0 } : Room).cells ({ frames := 0, cells := 0, slots := 0, locals := 0 } : Room).slots) := by
  refine MetFree.of_bodySF (plainFor_of_name pn_com_example_rowmotif_rowmotif_matcher_PartitionRows) hisR ?_
  intro p e s m args below meth c s₁ Bd hml0 hP hK
  obtain ⟨rfl, hZ, hh⟩ := hP
  have hx := Bd.exec
  have hby := Bd.bytes
  have hml : c.maxLocals = 2 := hml0
  have hown : s.vm.findClass "com/example/rowmotif/rowmotif/matcher/PartitionRows" = some m.cls := findClass_of_methodNamed Bd.named
  have hnm := (name_of_methodNamed Bd.named Bd.method).1
  have X0 : Stand p l e ({ frames := 0, cells := 0, slots := 0, locals := 0 } : Room) s m #[(.ref a), (.int 3)] below meth c s₁ [] 0 0 := Stand.of_body Bd
  have e0 : s₁.heap = h0 := by rw [← hh, Bd.state]; rfl
  have N0 := Fr.nil n0
  have pre0 : ∀ t_, Go p e below s₁ (mkF m 0 #[rv a, iv 3] []) t_ → Go p e below s₁ (entryFrame m #[(.ref a), (.int 3)] 2) t_ := fun t_ kt => castTop (ef_4 m a (3 : Int32)) kt
  obtain ⟨E_a, F_ring, F_head, F_count, F_first, F_complete, V_r, O_r, n_ar⟩ := hR
  obtain ⟨T1, X1, e1, st1⟩ := getF X0 hx hZ hown (host := "") (Or.inl (hwi hw 24 rfl)) Via.refl e0 F_first (g := (mkF m 1 #[rv a, iv 3] [(.ref a)])) rfl rfl (hb hby d4_1)
  obtain ⟨T2, X2, e2, st2⟩ := getF X1 hx hZ hown (host := "") (Or.inl (hwi hw 34 rfl)) Via.refl e1 F_count (g := (mkF m 9 #[rv a, iv 3] [(.ref a)])) rfl rfl (hb hby d4_9)
  obtain ⟨T3, X3, e3, st3⟩ := getF X2 hx hZ hown (host := "") (Or.inl (hwi hw 13 rfl)) Via.refl e2 F_ring (g := (mkF m 16 #[rv a, iv 3] [(.ref a)])) rfl rfl (hb hby d4_16)
  obtain ⟨T4, X4, e4, st4⟩ := getF X3 hx hZ hown (host := "") (Or.inl (hwi hw 50 rfl)) Via.refl e3 F_head (g := (mkF m 20 #[rv a, iv 3] [(.ref a), (.ref rg)])) rfl rfl (hb hby d4_20)
  obtain ⟨cl5, Ar5, qa5, Sa5, Na5, Ha5, Ga5⟩ := V_r
  have hin5 : ¬ ((1 : Int32) < 0 ∨ cl5.slots.size ≤ ((1 : Int32)).toNatClampNeg) := inb_of Sa5 ⟨by decide, by decide⟩
  obtain ⟨T6, h6, X6, e6, W6, st6⟩ := stR X4 hx hZ e4 Ar5 (j := (1 : Int32)) hin5 rfl (Or.inl rfl) (g := (mkF m 24 #[rv a, iv 3] [.null, (.int 1), (.ref rg)])) rfl rfl (hb hby d4_24)
  have f7 := E_a.wr W6
  have f8 := F_ring.other W6 (Or.inl n_ar)
  have f9 := F_head.other W6 (Or.inl n_ar)
  have f10 := F_count.other W6 (Or.inl n_ar)
  have f11 := F_first.other W6 (Or.inl n_ar)
  have f12 := F_complete.other W6 (Or.inl n_ar)
  have K6 : Keep h0 h6 [a, rg] := (Keep.refl h0 [a, rg]).wr W6 (Or.inl (List.mem_of_getElem? (i := 1) rfl))
  have N6 := Fr.snoc X6 N0 g_r
  have V6 : Arv Z h6 rg kr (.array (.object "java/lang/Object")) (16 : Int32) [u0, .null, u2] .null := Arv.set Ar5 qa5 Sa5 Na5 Ha5 Ga5 rfl W6 1 rfl (Nat.le_of_ble_eq_true rfl)
  obtain ⟨T14, X14, e14, st14⟩ := getF X6 hx hZ hown (host := "") (Or.inl (hwi hw 50 rfl)) Via.refl e6 f9 (g := (mkF m 27 #[rv a, iv 3] [(.ref a), (.ref a)])) rfl rfl (hb hby d4_27)
  obtain ⟨T15, X15, e15, st15⟩ := getF X14 hx hZ hown (host := "") (Or.inl (hwi hw 13 rfl)) Via.refl e14 f8 (g := (mkF m 33 #[rv a, iv 3] [(.ref a), (.int 2), (.ref a)])) rfl rfl (hb hby d4_33)
  obtain ⟨cl16, Ar16, qa16, Sa16, Na16, Ha16, Ga16⟩ := V6
  have V16 : Arv Z h6 rg kr (.array (.object "java/lang/Object")) (16 : Int32) [u0, .null, u2] .null := ⟨cl16, Ar16, qa16, Sa16, Na16, Ha16, Ga16⟩
  obtain ⟨T17, h17, X17, e17, W17, st17⟩ := putF X15 hx hZ hown (host := "") (Or.inl (hwi hw 50 rfl)) Via.refl e15 f9 f7 (Or.inl (hwi hw 51 rfl)) (hwi hw 3 rfl) (ty := .int) (by decide) rfl rfl (g := (mkF m 40 #[rv a, iv 3] [(.int 2), (.ref a)])) rfl rfl (hb hby d4_40)
  have f18 := f7.wr W17
  have f19 := f8.other W17 (Or.inr (slot_ne (Or.inl (hwi hw 14 rfl)) (Or.inl (hwi hw 51 rfl)) (by decide) (t := (.array (.array (.object "java/lang/Object")))) (t' := .int) (by decide) (by decide)))
  have f21 := f10.other W17 (Or.inr (slot_ne (Or.inl (hwi hw 35 rfl)) (Or.inl (hwi hw 51 rfl)) (by decide) (t := .int) (t' := .int) (by decide) (by decide)))
  have f22 := f11.other W17 (Or.inr (slot_ne (Or.inl (hwi hw 25 rfl)) (Or.inl (hwi hw 51 rfl)) (by decide) (t := .int) (t' := .int) (by decide) (by decide)))
  have f23 := f12.other W17 (Or.inr (slot_ne (Or.inl (hwi hw 47 rfl)) (Or.inl (hwi hw 51 rfl)) (by decide) (t := .boolean) (t' := .int) (by decide) (by decide)))
  have f24 := V16.other W17 (Ne.symm n_ar)
  have K17 : Keep h0 h17 [a, rg] := K6.wr W17 (Or.inl (List.mem_of_getElem? (i := 0) rfl))
  have N17 := Fr.snoc X17 N6 g_a
  have f25 : Fld Z h17 a "com/example/rowmotif/rowmotif/matcher/PartitionRows" "head" "I" (.int 2) := f9.same W17
  obtain ⟨T26, X26, e26, st26⟩ := getF X17 hx hZ hown (host := "") (Or.inl (hwi hw 24 rfl)) Via.refl e17 f22 (g := (mkF m 45 #[rv a, iv 3] [(.ref a), (.ref a)])) rfl rfl (hb hby d4_45)
  obtain ⟨T27, h27, X27, e27, W27, st27⟩ := putF X26 hx hZ hown (host := "") (Or.inl (hwi hw 24 rfl)) Via.refl e26 f22 f18 (Or.inl (hwi hw 25 rfl)) (hwi hw 3 rfl) (ty := .int) (by decide) rfl rfl (g := (mkF m 50 #[rv a, iv 3] [(.int 2), (.ref a)])) rfl rfl (hb hby d4_50)
  have f28 := f18.wr W27
  have f29 := f19.other W27 (Or.inr (slot_ne (Or.inl (hwi hw 14 rfl)) (Or.inl (hwi hw 25 rfl)) (by decide) (t := (.array (.array (.object "java/lang/Object")))) (t' := .int) (by decide) (by decide)))
  have f30 := f25.other W27 (Or.inr (slot_ne (Or.inl (hwi hw 51 rfl)) (Or.inl (hwi hw 25 rfl)) (by decide) (t := .int) (t' := .int) (by decide) (by decide)))
  have f31 := f21.other W27 (Or.inr (slot_ne (Or.inl (hwi hw 35 rfl)) (Or.inl (hwi hw 25 rfl)) (by decide) (t := .int) (t' := .int) (by decide) (by decide)))
  have f33 := f23.other W27 (Or.inr (slot_ne (Or.inl (hwi hw 47 rfl)) (Or.inl (hwi hw 25 rfl)) (by decide) (t := .boolean) (t' := .int) (by decide) (by decide)))
  have f34 := f24.other W27 (Ne.symm n_ar)
  have K27 : Keep h0 h27 [a, rg] := K17.wr W27 (Or.inl (List.mem_of_getElem? (i := 0) rfl))
  have N27 := Fr.snoc X27 N17 g_a
  have f35 : Fld Z h27 a "com/example/rowmotif/rowmotif/matcher/PartitionRows" "first" "I" (.int 2) := f22.same W27
  obtain ⟨T36, X36, e36, st36⟩ := getF X27 hx hZ hown (host := "") (Or.inl (hwi hw 34 rfl)) Via.refl e27 f31 (g := (mkF m 55 #[rv a, iv 3] [(.ref a), (.ref a)])) rfl rfl (hb hby d4_55)
  obtain ⟨T37, h37, X37, e37, W37, st37⟩ := putF X36 hx hZ hown (host := "") (Or.inl (hwi hw 34 rfl)) Via.refl e36 f31 f28 (Or.inl (hwi hw 35 rfl)) (hwi hw 3 rfl) (ty := .int) (by decide) rfl rfl (g := (mkF m 60 #[rv a, iv 3] [(.int 1), (.ref a)])) rfl rfl (hb hby d4_60)
  have f38 := f28.wr W37
  have f39 := f29.other W37 (Or.inr (slot_ne (Or.inl (hwi hw 14 rfl)) (Or.inl (hwi hw 35 rfl)) (by decide) (t := (.array (.array (.object "java/lang/Object")))) (t' := .int) (by decide) (by decide)))
  have f40 := f30.other W37 (Or.inr (slot_ne (Or.inl (hwi hw 51 rfl)) (Or.inl (hwi hw 35 rfl)) (by decide) (t := .int) (t' := .int) (by decide) (by decide)))
  have f42 := f35.other W37 (Or.inr (slot_ne (Or.inl (hwi hw 25 rfl)) (Or.inl (hwi hw 35 rfl)) (by decide) (t := .int) (t' := .int) (by decide) (by decide)))
  have f43 := f33.other W37 (Or.inr (slot_ne (Or.inl (hwi hw 47 rfl)) (Or.inl (hwi hw 35 rfl)) (by decide) (t := .boolean) (t' := .int) (by decide) (by decide)))
  have f44 := f34.other W37 (Ne.symm n_ar)
  have K37 : Keep h0 h37 [a, rg] := K27.wr W37 (Or.inl (List.mem_of_getElem? (i := 0) rfl))
  have N37 := Fr.snoc X37 N27 g_a
  have f45 : Fld Z h37 a "com/example/rowmotif/rowmotif/matcher/PartitionRows" "count" "I" (.int 1) := f31.same W37
  obtain ⟨T46, X46, e46, st46⟩ := getF X37 hx hZ hown (host := "") (Or.inl (hwi hw 24 rfl)) Via.refl e37 f42 (g := (mkF m 1 #[rv a, iv 3] [(.ref a)])) rfl rfl (hb hby d4_1)
  obtain ⟨T47, X47, e47, st47⟩ := getF X46 hx hZ hown (host := "") (Or.inl (hwi hw 34 rfl)) Via.refl e46 f45 (g := (mkF m 9 #[rv a, iv 3] [(.ref a)])) rfl rfl (hb hby d4_9)
  obtain ⟨T48, X48, e48, st48⟩ := getF X47 hx hZ hown (host := "") (Or.inl (hwi hw 13 rfl)) Via.refl e47 f39 (g := (mkF m 16 #[rv a, iv 3] [(.ref a)])) rfl rfl (hb hby d4_16)
  obtain ⟨T49, X49, e49, st49⟩ := getF X48 hx hZ hown (host := "") (Or.inl (hwi hw 50 rfl)) Via.refl e48 f40 (g := (mkF m 20 #[rv a, iv 3] [(.ref a), (.ref rg)])) rfl rfl (hb hby d4_20)
  obtain ⟨cl50, Ar50, qa50, Sa50, Na50, Ha50, Ga50⟩ := f44
  have hin50 : ¬ ((2 : Int32) < 0 ∨ cl50.slots.size ≤ ((2 : Int32)).toNatClampNeg) := inb_of Sa50 ⟨by decide, by decide⟩
  obtain ⟨T51, h51, X51, e51, W51, st51⟩ := stR X49 hx hZ e49 Ar50 (j := (2 : Int32)) hin50 rfl (Or.inl rfl) (g := (mkF m 24 #[rv a, iv 3] [.null, (.int 2), (.ref rg)])) rfl rfl (hb hby d4_24)
  have f52 := f38.wr W51
  have f53 := f39.other W51 (Or.inl n_ar)
  have f54 := f40.other W51 (Or.inl n_ar)
  have f55 := f45.other W51 (Or.inl n_ar)
  have f56 := f42.other W51 (Or.inl n_ar)
  have f57 := f43.other W51 (Or.inl n_ar)
  have K51 : Keep h0 h51 [a, rg] := K37.wr W51 (Or.inl (List.mem_of_getElem? (i := 1) rfl))
  have N51 := Fr.snoc X51 N37 g_r
  have V51 : Arv Z h51 rg kr (.array (.object "java/lang/Object")) (16 : Int32) [u0, .null, .null] .null := Arv.set Ar50 qa50 Sa50 Na50 Ha50 Ga50 rfl W51 2 rfl (Nat.le_of_ble_eq_true rfl)
  obtain ⟨T59, X59, e59, st59⟩ := getF X51 hx hZ hown (host := "") (Or.inl (hwi hw 50 rfl)) Via.refl e51 f54 (g := (mkF m 27 #[rv a, iv 3] [(.ref a), (.ref a)])) rfl rfl (hb hby d4_27)
  obtain ⟨T60, X60, e60, st60⟩ := getF X59 hx hZ hown (host := "") (Or.inl (hwi hw 13 rfl)) Via.refl e59 f53 (g := (mkF m 33 #[rv a, iv 3] [(.ref a), (.int 3), (.ref a)])) rfl rfl (hb hby d4_33)
  obtain ⟨cl61, Ar61, qa61, Sa61, Na61, Ha61, Ga61⟩ := V51
  have V61 : Arv Z h51 rg kr (.array (.object "java/lang/Object")) (16 : Int32) [u0, .null, .null] .null := ⟨cl61, Ar61, qa61, Sa61, Na61, Ha61, Ga61⟩
  obtain ⟨T62, h62, X62, e62, W62, st62⟩ := putF X60 hx hZ hown (host := "") (Or.inl (hwi hw 50 rfl)) Via.refl e60 f54 f52 (Or.inl (hwi hw 51 rfl)) (hwi hw 3 rfl) (ty := .int) (by decide) rfl rfl (g := (mkF m 40 #[rv a, iv 3] [(.int 3), (.ref a)])) rfl rfl (hb hby d4_40)
  have f63 := f52.wr W62
  have f64 := f53.other W62 (Or.inr (slot_ne (Or.inl (hwi hw 14 rfl)) (Or.inl (hwi hw 51 rfl)) (by decide) (t := (.array (.array (.object "java/lang/Object")))) (t' := .int) (by decide) (by decide)))
  have f66 := f55.other W62 (Or.inr (slot_ne (Or.inl (hwi hw 35 rfl)) (Or.inl (hwi hw 51 rfl)) (by decide) (t := .int) (t' := .int) (by decide) (by decide)))
  have f67 := f56.other W62 (Or.inr (slot_ne (Or.inl (hwi hw 25 rfl)) (Or.inl (hwi hw 51 rfl)) (by decide) (t := .int) (t' := .int) (by decide) (by decide)))
  have f68 := f57.other W62 (Or.inr (slot_ne (Or.inl (hwi hw 47 rfl)) (Or.inl (hwi hw 51 rfl)) (by decide) (t := .boolean) (t' := .int) (by decide) (by decide)))
  have f69 := V61.other W62 (Ne.symm n_ar)
  have K62 : Keep h0 h62 [a, rg] := K51.wr W62 (Or.inl (List.mem_of_getElem? (i := 0) rfl))
  have N62 := Fr.snoc X62 N51 g_a
  have f70 : Fld Z h62 a "com/example/rowmotif/rowmotif/matcher/PartitionRows" "head" "I" (.int 3) := f54.same W62
  obtain ⟨T71, X71, e71, st71⟩ := getF X62 hx hZ hown (host := "") (Or.inl (hwi hw 24 rfl)) Via.refl e62 f67 (g := (mkF m 45 #[rv a, iv 3] [(.ref a), (.ref a)])) rfl rfl (hb hby d4_45)
  obtain ⟨T72, h72, X72, e72, W72, st72⟩ := putF X71 hx hZ hown (host := "") (Or.inl (hwi hw 24 rfl)) Via.refl e71 f67 f63 (Or.inl (hwi hw 25 rfl)) (hwi hw 3 rfl) (ty := .int) (by decide) rfl rfl (g := (mkF m 50 #[rv a, iv 3] [(.int 3), (.ref a)])) rfl rfl (hb hby d4_50)
  have f73 := f63.wr W72
  have f74 := f64.other W72 (Or.inr (slot_ne (Or.inl (hwi hw 14 rfl)) (Or.inl (hwi hw 25 rfl)) (by decide) (t := (.array (.array (.object "java/lang/Object")))) (t' := .int) (by decide) (by decide)))
  have f75 := f70.other W72 (Or.inr (slot_ne (Or.inl (hwi hw 51 rfl)) (Or.inl (hwi hw 25 rfl)) (by decide) (t := .int) (t' := .int) (by decide) (by decide)))
  have f76 := f66.other W72 (Or.inr (slot_ne (Or.inl (hwi hw 35 rfl)) (Or.inl (hwi hw 25 rfl)) (by decide) (t := .int) (t' := .int) (by decide) (by decide)))
  have f78 := f68.other W72 (Or.inr (slot_ne (Or.inl (hwi hw 47 rfl)) (Or.inl (hwi hw 25 rfl)) (by decide) (t := .boolean) (t' := .int) (by decide) (by decide)))
  have f79 := f69.other W72 (Ne.symm n_ar)
  have K72 : Keep h0 h72 [a, rg] := K62.wr W72 (Or.inl (List.mem_of_getElem? (i := 0) rfl))
  have N72 := Fr.snoc X72 N62 g_a
  have f80 : Fld Z h72 a "com/example/rowmotif/rowmotif/matcher/PartitionRows" "first" "I" (.int 3) := f67.same W72
  obtain ⟨T81, X81, e81, st81⟩ := getF X72 hx hZ hown (host := "") (Or.inl (hwi hw 34 rfl)) Via.refl e72 f76 (g := (mkF m 55 #[rv a, iv 3] [(.ref a), (.ref a)])) rfl rfl (hb hby d4_55)
  obtain ⟨T82, h82, X82, e82, W82, st82⟩ := putF X81 hx hZ hown (host := "") (Or.inl (hwi hw 34 rfl)) Via.refl e81 f76 f73 (Or.inl (hwi hw 35 rfl)) (hwi hw 3 rfl) (ty := .int) (by decide) rfl rfl (g := (mkF m 60 #[rv a, iv 3] [(.int 0), (.ref a)])) rfl rfl (hb hby d4_60)
  have f83 := f73.wr W82
  have f84 := f74.other W82 (Or.inr (slot_ne (Or.inl (hwi hw 14 rfl)) (Or.inl (hwi hw 35 rfl)) (by decide) (t := (.array (.array (.object "java/lang/Object")))) (t' := .int) (by decide) (by decide)))
  have f85 := f75.other W82 (Or.inr (slot_ne (Or.inl (hwi hw 51 rfl)) (Or.inl (hwi hw 35 rfl)) (by decide) (t := .int) (t' := .int) (by decide) (by decide)))
  have f87 := f80.other W82 (Or.inr (slot_ne (Or.inl (hwi hw 25 rfl)) (Or.inl (hwi hw 35 rfl)) (by decide) (t := .int) (t' := .int) (by decide) (by decide)))
  have f88 := f78.other W82 (Or.inr (slot_ne (Or.inl (hwi hw 47 rfl)) (Or.inl (hwi hw 35 rfl)) (by decide) (t := .boolean) (t' := .int) (by decide) (by decide)))
  have f89 := f79.other W82 (Ne.symm n_ar)
  have K82 : Keep h0 h82 [a, rg] := K72.wr W82 (Or.inl (List.mem_of_getElem? (i := 0) rfl))
  have N82 := Fr.snoc X82 N72 g_a
  have f90 : Fld Z h82 a "com/example/rowmotif/rowmotif/matcher/PartitionRows" "count" "I" (.int 0) := f76.same W82
  obtain ⟨T91, X91, e91, st91⟩ := getF X82 hx hZ hown (host := "") (Or.inl (hwi hw 24 rfl)) Via.refl e82 f87 (g := (mkF m 1 #[rv a, iv 3] [(.ref a)])) rfl rfl (hb hby d4_1)
  have pre92 : ∀ t_, Go p e below T91 (mkF m 66 #[rv a, iv 3] []) t_ → Go p e below s₁ (entryFrame m #[(.ref a), (.int 3)] 2) t_ := fun t_ kt => pre0 _ (by
      show Go p e below s₁ (mkF m 0 #[rv a, iv 3] []) _
      refine XS.aloadN X0.here hx rfl (hb hby d4_0) rfl rfl ?_
      show Go p e below s₁ (mkF m 1 #[rv a, iv 3] [(.ref a)]) _
      refine st1 _ ?_
      show Go p e below T1 (mkF m 4 #[rv a, iv 3] [(.int 1)]) _
      refine XS.iloadN X1.here hx rfl (hb hby d4_4) rfl ?_
      show Go p e below T1 (mkF m 5 #[rv a, iv 3] [(.int 3), (.int 1)]) _
      refine XS.icmpNo X1.here hx rfl (hb hby d4_5) rfl (tlt ((by decide) : (1 : Int32) < (3 : Int32))).2.1 ?_
      show Go p e below T1 (mkF m 8 #[rv a, iv 3] []) _
      refine XS.aloadN X1.here hx rfl (hb hby d4_8) rfl rfl ?_
      show Go p e below T1 (mkF m 9 #[rv a, iv 3] [(.ref a)]) _
      refine st2 _ ?_
      show Go p e below T2 (mkF m 12 #[rv a, iv 3] [(.int 2)]) _
      refine XS.ifNo X2.here hx rfl (hb hby d4_12) rfl ((if0 _ _).trans (tlt ((by decide) : (0 : Int32) < (2 : Int32))).2.2.2) ?_
      show Go p e below T2 (mkF m 15 #[rv a, iv 3] []) _
      refine XS.aloadN X2.here hx rfl (hb hby d4_15) rfl rfl ?_
      show Go p e below T2 (mkF m 16 #[rv a, iv 3] [(.ref a)]) _
      refine st3 _ ?_
      show Go p e below T3 (mkF m 19 #[rv a, iv 3] [(.ref rg)]) _
      refine XS.aloadN X3.here hx rfl (hb hby d4_19) rfl rfl ?_
      show Go p e below T3 (mkF m 20 #[rv a, iv 3] [(.ref a), (.ref rg)]) _
      refine st4 _ ?_
      show Go p e below T4 (mkF m 23 #[rv a, iv 3] [(.int 1), (.ref rg)]) _
      refine XS.aconstNull X4.here hx rfl (hb hby d4_23) ?_
      show Go p e below T4 (mkF m 24 #[rv a, iv 3] [.null, (.int 1), (.ref rg)]) _
      refine st6 _ ?_
      show Go p e below T6 (mkF m 25 #[rv a, iv 3] []) _
      refine XS.aloadN X6.here hx rfl (hb hby d4_25) rfl rfl ?_
      show Go p e below T6 (mkF m 26 #[rv a, iv 3] [(.ref a)]) _
      refine XS.aloadN X6.here hx rfl (hb hby d4_26) rfl rfl ?_
      show Go p e below T6 (mkF m 27 #[rv a, iv 3] [(.ref a), (.ref a)]) _
      refine st14 _ ?_
      show Go p e below T14 (mkF m 30 #[rv a, iv 3] [(.int 1), (.ref a)]) _
      refine XS.iconst X14.here hx rfl (hb hby d4_30) ?_
      show Go p e below T14 (mkF m 31 #[rv a, iv 3] [(.int 1), (.int 1), (.ref a)]) _
      refine XS.iadd X14.here hx rfl (hb hby d4_31) rfl ?_
      show Go p e below T14 (mkF m 32 #[rv a, iv 3] [(.int 2), (.ref a)]) _
      refine XS.aloadN X14.here hx rfl (hb hby d4_32) rfl rfl ?_
      show Go p e below T14 (mkF m 33 #[rv a, iv 3] [(.ref a), (.int 2), (.ref a)]) _
      refine st15 _ ?_
      show Go p e below T15 (mkF m 36 #[rv a, iv 3] [(.ref rg), (.int 2), (.ref a)]) _
      refine X15.arraylength hx (by rw [e15]; exact Ar16.1) (State.isArrayOf_alike hZ.alike Ar16.2.1) (g := (mkF m 36 #[rv a, iv 3] [(.ref rg), (.int 2), (.ref a)])) rfl rfl (hb hby d4_36) _ ?_
      rw [len_of Sa16 Na16]
      show Go p e below T15 (mkF m 37 #[rv a, iv 3] [(.int 16), (.int 2), (.ref a)]) _
      refine XS.iconst X15.here hx rfl (hb hby d4_37) ?_
      show Go p e below T15 (mkF m 38 #[rv a, iv 3] [(.int 1), (.int 16), (.int 2), (.ref a)]) _
      refine XS.isub X15.here hx rfl (hb hby d4_38) rfl ?_
      show Go p e below T15 (mkF m 39 #[rv a, iv 3] [(.int 15), (.int 2), (.ref a)]) _
      refine XS.iand X15.here hx rfl (hb hby d4_39) rfl ?_
      show Go p e below T15 (mkF m 40 #[rv a, iv 3] [(.int 2), (.ref a)]) _
      refine st17 _ ?_
      show Go p e below T17 (mkF m 43 #[rv a, iv 3] []) _
      refine XS.aloadN X17.here hx rfl (hb hby d4_43) rfl rfl ?_
      show Go p e below T17 (mkF m 44 #[rv a, iv 3] [(.ref a)]) _
      refine XS.dup X17.here hx rfl (hb hby d4_44) rfl rfl ?_
      show Go p e below T17 (mkF m 45 #[rv a, iv 3] [(.ref a), (.ref a)]) _
      refine st26 _ ?_
      show Go p e below T26 (mkF m 48 #[rv a, iv 3] [(.int 1), (.ref a)]) _
      refine XS.iconst X26.here hx rfl (hb hby d4_48) ?_
      show Go p e below T26 (mkF m 49 #[rv a, iv 3] [(.int 1), (.int 1), (.ref a)]) _
      refine XS.iadd X26.here hx rfl (hb hby d4_49) rfl ?_
      show Go p e below T26 (mkF m 50 #[rv a, iv 3] [(.int 2), (.ref a)]) _
      refine st27 _ ?_
      show Go p e below T27 (mkF m 53 #[rv a, iv 3] []) _
      refine XS.aloadN X27.here hx rfl (hb hby d4_53) rfl rfl ?_
      show Go p e below T27 (mkF m 54 #[rv a, iv 3] [(.ref a)]) _
      refine XS.dup X27.here hx rfl (hb hby d4_54) rfl rfl ?_
      show Go p e below T27 (mkF m 55 #[rv a, iv 3] [(.ref a), (.ref a)]) _
      refine st36 _ ?_
      show Go p e below T36 (mkF m 58 #[rv a, iv 3] [(.int 2), (.ref a)]) _
      refine XS.iconst X36.here hx rfl (hb hby d4_58) ?_
      show Go p e below T36 (mkF m 59 #[rv a, iv 3] [(.int 1), (.int 2), (.ref a)]) _
      refine XS.isub X36.here hx rfl (hb hby d4_59) rfl ?_
      show Go p e below T36 (mkF m 60 #[rv a, iv 3] [(.int 1), (.ref a)]) _
      refine st37 _ ?_
      show Go p e below T37 (mkF m 63 #[rv a, iv 3] []) _
      refine XS.goto X37.here hx rfl (pc0 := 63) (pc' := 0) rfl (hb hby d4_63) (by decide) (by decide) ?_
      show Go p e below T37 (mkF m 0 #[rv a, iv 3] []) _
      refine XS.aloadN X37.here hx rfl (hb hby d4_0) rfl rfl ?_
      show Go p e below T37 (mkF m 1 #[rv a, iv 3] [(.ref a)]) _
      refine st46 _ ?_
      show Go p e below T46 (mkF m 4 #[rv a, iv 3] [(.int 2)]) _
      refine XS.iloadN X46.here hx rfl (hb hby d4_4) rfl ?_
      show Go p e below T46 (mkF m 5 #[rv a, iv 3] [(.int 3), (.int 2)]) _
      refine XS.icmpNo X46.here hx rfl (hb hby d4_5) rfl (tlt ((by decide) : (2 : Int32) < (3 : Int32))).2.1 ?_
      show Go p e below T46 (mkF m 8 #[rv a, iv 3] []) _
      refine XS.aloadN X46.here hx rfl (hb hby d4_8) rfl rfl ?_
      show Go p e below T46 (mkF m 9 #[rv a, iv 3] [(.ref a)]) _
      refine st47 _ ?_
      show Go p e below T47 (mkF m 12 #[rv a, iv 3] [(.int 1)]) _
      refine XS.ifNo X47.here hx rfl (hb hby d4_12) rfl ((if0 _ _).trans (tlt ((by decide) : (0 : Int32) < (1 : Int32))).2.2.2) ?_
      show Go p e below T47 (mkF m 15 #[rv a, iv 3] []) _
      refine XS.aloadN X47.here hx rfl (hb hby d4_15) rfl rfl ?_
      show Go p e below T47 (mkF m 16 #[rv a, iv 3] [(.ref a)]) _
      refine st48 _ ?_
      show Go p e below T48 (mkF m 19 #[rv a, iv 3] [(.ref rg)]) _
      refine XS.aloadN X48.here hx rfl (hb hby d4_19) rfl rfl ?_
      show Go p e below T48 (mkF m 20 #[rv a, iv 3] [(.ref a), (.ref rg)]) _
      refine st49 _ ?_
      show Go p e below T49 (mkF m 23 #[rv a, iv 3] [(.int 2), (.ref rg)]) _
      refine XS.aconstNull X49.here hx rfl (hb hby d4_23) ?_
      show Go p e below T49 (mkF m 24 #[rv a, iv 3] [.null, (.int 2), (.ref rg)]) _
      refine st51 _ ?_
      show Go p e below T51 (mkF m 25 #[rv a, iv 3] []) _
      refine XS.aloadN X51.here hx rfl (hb hby d4_25) rfl rfl ?_
      show Go p e below T51 (mkF m 26 #[rv a, iv 3] [(.ref a)]) _
      refine XS.aloadN X51.here hx rfl (hb hby d4_26) rfl rfl ?_
      show Go p e below T51 (mkF m 27 #[rv a, iv 3] [(.ref a), (.ref a)]) _
      refine st59 _ ?_
      show Go p e below T59 (mkF m 30 #[rv a, iv 3] [(.int 2), (.ref a)]) _
      refine XS.iconst X59.here hx rfl (hb hby d4_30) ?_
      show Go p e below T59 (mkF m 31 #[rv a, iv 3] [(.int 1), (.int 2), (.ref a)]) _
      refine XS.iadd X59.here hx rfl (hb hby d4_31) rfl ?_
      show Go p e below T59 (mkF m 32 #[rv a, iv 3] [(.int 3), (.ref a)]) _
      refine XS.aloadN X59.here hx rfl (hb hby d4_32) rfl rfl ?_
      show Go p e below T59 (mkF m 33 #[rv a, iv 3] [(.ref a), (.int 3), (.ref a)]) _
      refine st60 _ ?_
      show Go p e below T60 (mkF m 36 #[rv a, iv 3] [(.ref rg), (.int 3), (.ref a)]) _
      refine X60.arraylength hx (by rw [e60]; exact Ar61.1) (State.isArrayOf_alike hZ.alike Ar61.2.1) (g := (mkF m 36 #[rv a, iv 3] [(.ref rg), (.int 3), (.ref a)])) rfl rfl (hb hby d4_36) _ ?_
      rw [len_of Sa61 Na61]
      show Go p e below T60 (mkF m 37 #[rv a, iv 3] [(.int 16), (.int 3), (.ref a)]) _
      refine XS.iconst X60.here hx rfl (hb hby d4_37) ?_
      show Go p e below T60 (mkF m 38 #[rv a, iv 3] [(.int 1), (.int 16), (.int 3), (.ref a)]) _
      refine XS.isub X60.here hx rfl (hb hby d4_38) rfl ?_
      show Go p e below T60 (mkF m 39 #[rv a, iv 3] [(.int 15), (.int 3), (.ref a)]) _
      refine XS.iand X60.here hx rfl (hb hby d4_39) rfl ?_
      show Go p e below T60 (mkF m 40 #[rv a, iv 3] [(.int 3), (.ref a)]) _
      refine st62 _ ?_
      show Go p e below T62 (mkF m 43 #[rv a, iv 3] []) _
      refine XS.aloadN X62.here hx rfl (hb hby d4_43) rfl rfl ?_
      show Go p e below T62 (mkF m 44 #[rv a, iv 3] [(.ref a)]) _
      refine XS.dup X62.here hx rfl (hb hby d4_44) rfl rfl ?_
      show Go p e below T62 (mkF m 45 #[rv a, iv 3] [(.ref a), (.ref a)]) _
      refine st71 _ ?_
      show Go p e below T71 (mkF m 48 #[rv a, iv 3] [(.int 2), (.ref a)]) _
      refine XS.iconst X71.here hx rfl (hb hby d4_48) ?_
      show Go p e below T71 (mkF m 49 #[rv a, iv 3] [(.int 1), (.int 2), (.ref a)]) _
      refine XS.iadd X71.here hx rfl (hb hby d4_49) rfl ?_
      show Go p e below T71 (mkF m 50 #[rv a, iv 3] [(.int 3), (.ref a)]) _
      refine st72 _ ?_
      show Go p e below T72 (mkF m 53 #[rv a, iv 3] []) _
      refine XS.aloadN X72.here hx rfl (hb hby d4_53) rfl rfl ?_
      show Go p e below T72 (mkF m 54 #[rv a, iv 3] [(.ref a)]) _
      refine XS.dup X72.here hx rfl (hb hby d4_54) rfl rfl ?_
      show Go p e below T72 (mkF m 55 #[rv a, iv 3] [(.ref a), (.ref a)]) _
      refine st81 _ ?_
      show Go p e below T81 (mkF m 58 #[rv a, iv 3] [(.int 1), (.ref a)]) _
      refine XS.iconst X81.here hx rfl (hb hby d4_58) ?_
      show Go p e below T81 (mkF m 59 #[rv a, iv 3] [(.int 1), (.int 1), (.ref a)]) _
      refine XS.isub X81.here hx rfl (hb hby d4_59) rfl ?_
      show Go p e below T81 (mkF m 60 #[rv a, iv 3] [(.int 0), (.ref a)]) _
      refine st82 _ ?_
      show Go p e below T82 (mkF m 63 #[rv a, iv 3] []) _
      refine XS.goto X82.here hx rfl (pc0 := 63) (pc' := 0) rfl (hb hby d4_63) (by decide) (by decide) ?_
      show Go p e below T82 (mkF m 0 #[rv a, iv 3] []) _
      refine XS.aloadN X82.here hx rfl (hb hby d4_0) rfl rfl ?_
      show Go p e below T82 (mkF m 1 #[rv a, iv 3] [(.ref a)]) _
      refine st91 _ ?_
      show Go p e below T91 (mkF m 4 #[rv a, iv 3] [(.int 3)]) _
      refine XS.iloadN X91.here hx rfl (hb hby d4_4) rfl ?_
      show Go p e below T91 (mkF m 5 #[rv a, iv 3] [(.int 3), (.int 3)]) _
      refine XS.icmpYes X91.here hx rfl (pc0 := 5) (pc' := 66) rfl (hb hby d4_5) rfl (flt ((by decide) : ¬ ((3 : Int32) < (3 : Int32)))).2.1 (by decide) (by decide) ?_
      show Go p e below T91 (mkF m 66 #[rv a, iv 3] []) _
      exact kt)
  obtain ⟨fs, hr, hrun, hended, hW, hsame⟩ := X91.leave (v := none) (fun _ => rfl)
  refine ⟨_, _, pre92 _ ?_, hrun, hended, _, _, rfl, ?_, ⟨_, rfl⟩, hW, hsame.mono (by decide) (by decide)⟩
  · show Steps p.tables e below (T91.setTop (mkF m 66 #[rv a, iv 3] [])) _
    exact X91.returnOut hx Bd.returns (hb hby d4_66) hr
  · show Q_rmR1_2_2 Z a rg kr u0 u1 u2 h0 n0 _ T91.heap _
    rw [e91]
    exact ⟨rfl, N82, K82, ⟨f83, f84, f85, f90, f87, f88, f89, O_r, n_ar⟩⟩
def Q_rmR2_1_1 (Z : State) (a : Addr) (rg : Addr) (kr : ClassId) (u0 : Value) (u1 : Value) (u2 : Value) (h0 : Heap) (n0 : Nat) (v : Option Value) (h : Heap) (L : List Loc) : Prop := v = none ∧ Fr n0 L ∧ Keep h0 h [a, rg] ∧ Rg Z h a rg kr (3 : Int32) (0 : Int32) u0 u1 .null
set_option maxRecDepth 65536 in
set_option maxHeartbeats 40000000 in
theorem rmR2_1_1 (l : Launch) (Z : State) (a0 : Array Value) (hw : ∀ d ∈ tables_1, d.before a0 Z = true) (ws : List Jvm.Cond) (a : Addr) (rg : Addr) (kr : ClassId) (u0 : Value) (u1 : Value) (u2 : Value) (h0 : Heap) (n0 : Nat) (Z0 : n0 ≤ h0.size) (hR : Rg Z h0 a rg kr (2 : Int32) (1 : Int32) u0 u1 u2) (g_a : n0 ≤ a) (g_r : n0 ≤ rg) :
    MetFree l (⟨"com/example/rowmotif/rowmotif/matcher/PartitionRows", "release", "(I)V"⟩ : MethodName) (head1 (Jvm.Cond.code (⟨"com/example/rowmotif/rowmotif/matcher/PartitionRows", "release", "(I)V"⟩ : MethodName) prog_78_method_8_code 2 none :: ws) ({ frames := 0, cells := 0, slots := 0, locals := 0 } : Room)) (fun av_ U_ => av_ = #[(.ref a), (.int 3)] ∧ Z.Warmed39 U_.vm ∧ U_.heap = h0) (fun _ _ _ _ _ => True) (fun _ U_ o_ V_ => ∃ v_ L_, o_ = .returned v_ ∧ Q_rmR2_1_1 Z a rg kr u0 u1 u2 h0 n0 v_ V_.heap L_ ∧ FrameEnd U_ o_ V_ L_ ({ frames := 0, cells := 0, slots := 0, locals := 0 } : Room).cells ({ frames := 0, cells := 0, slots := 0, locals := 0 } : Room).slots) := by
  refine MetFree.of_bodySF (plainFor_of_name pn_com_example_rowmotif_rowmotif_matcher_PartitionRows) hisR ?_
  intro p e s m args below meth c s₁ Bd hml0 hP hK
  obtain ⟨rfl, hZ, hh⟩ := hP
  have hx := Bd.exec
  have hby := Bd.bytes
  have hml : c.maxLocals = 2 := hml0
  have hown : s.vm.findClass "com/example/rowmotif/rowmotif/matcher/PartitionRows" = some m.cls := findClass_of_methodNamed Bd.named
  have hnm := (name_of_methodNamed Bd.named Bd.method).1
  have X0 : Stand p l e ({ frames := 0, cells := 0, slots := 0, locals := 0 } : Room) s m #[(.ref a), (.int 3)] below meth c s₁ [] 0 0 := Stand.of_body Bd
  have e0 : s₁.heap = h0 := by rw [← hh, Bd.state]; rfl
  have N0 := Fr.nil n0
  have pre0 : ∀ t_, Go p e below s₁ (mkF m 0 #[rv a, iv 3] []) t_ → Go p e below s₁ (entryFrame m #[(.ref a), (.int 3)] 2) t_ := fun t_ kt => castTop (ef_4 m a (3 : Int32)) kt
  obtain ⟨E_a, F_ring, F_head, F_count, F_first, F_complete, V_r, O_r, n_ar⟩ := hR
  obtain ⟨T1, X1, e1, st1⟩ := getF X0 hx hZ hown (host := "") (Or.inl (hwi hw 24 rfl)) Via.refl e0 F_first (g := (mkF m 1 #[rv a, iv 3] [(.ref a)])) rfl rfl (hb hby d4_1)
  obtain ⟨T2, X2, e2, st2⟩ := getF X1 hx hZ hown (host := "") (Or.inl (hwi hw 34 rfl)) Via.refl e1 F_count (g := (mkF m 9 #[rv a, iv 3] [(.ref a)])) rfl rfl (hb hby d4_9)
  obtain ⟨T3, X3, e3, st3⟩ := getF X2 hx hZ hown (host := "") (Or.inl (hwi hw 13 rfl)) Via.refl e2 F_ring (g := (mkF m 16 #[rv a, iv 3] [(.ref a)])) rfl rfl (hb hby d4_16)
  obtain ⟨T4, X4, e4, st4⟩ := getF X3 hx hZ hown (host := "") (Or.inl (hwi hw 50 rfl)) Via.refl e3 F_head (g := (mkF m 20 #[rv a, iv 3] [(.ref a), (.ref rg)])) rfl rfl (hb hby d4_20)
  obtain ⟨cl5, Ar5, qa5, Sa5, Na5, Ha5, Ga5⟩ := V_r
  have hin5 : ¬ ((2 : Int32) < 0 ∨ cl5.slots.size ≤ ((2 : Int32)).toNatClampNeg) := inb_of Sa5 ⟨by decide, by decide⟩
  obtain ⟨T6, h6, X6, e6, W6, st6⟩ := stR X4 hx hZ e4 Ar5 (j := (2 : Int32)) hin5 rfl (Or.inl rfl) (g := (mkF m 24 #[rv a, iv 3] [.null, (.int 2), (.ref rg)])) rfl rfl (hb hby d4_24)
  have f7 := E_a.wr W6
  have f8 := F_ring.other W6 (Or.inl n_ar)
  have f9 := F_head.other W6 (Or.inl n_ar)
  have f10 := F_count.other W6 (Or.inl n_ar)
  have f11 := F_first.other W6 (Or.inl n_ar)
  have f12 := F_complete.other W6 (Or.inl n_ar)
  have K6 : Keep h0 h6 [a, rg] := (Keep.refl h0 [a, rg]).wr W6 (Or.inl (List.mem_of_getElem? (i := 1) rfl))
  have N6 := Fr.snoc X6 N0 g_r
  have V6 : Arv Z h6 rg kr (.array (.object "java/lang/Object")) (16 : Int32) [u0, u1, .null] .null := Arv.set Ar5 qa5 Sa5 Na5 Ha5 Ga5 rfl W6 2 rfl (Nat.le_of_ble_eq_true rfl)
  obtain ⟨T14, X14, e14, st14⟩ := getF X6 hx hZ hown (host := "") (Or.inl (hwi hw 50 rfl)) Via.refl e6 f9 (g := (mkF m 27 #[rv a, iv 3] [(.ref a), (.ref a)])) rfl rfl (hb hby d4_27)
  obtain ⟨T15, X15, e15, st15⟩ := getF X14 hx hZ hown (host := "") (Or.inl (hwi hw 13 rfl)) Via.refl e14 f8 (g := (mkF m 33 #[rv a, iv 3] [(.ref a), (.int 3), (.ref a)])) rfl rfl (hb hby d4_33)
  obtain ⟨cl16, Ar16, qa16, Sa16, Na16, Ha16, Ga16⟩ := V6
  have V16 : Arv Z h6 rg kr (.array (.object "java/lang/Object")) (16 : Int32) [u0, u1, .null] .null := ⟨cl16, Ar16, qa16, Sa16, Na16, Ha16, Ga16⟩
  obtain ⟨T17, h17, X17, e17, W17, st17⟩ := putF X15 hx hZ hown (host := "") (Or.inl (hwi hw 50 rfl)) Via.refl e15 f9 f7 (Or.inl (hwi hw 51 rfl)) (hwi hw 3 rfl) (ty := .int) (by decide) rfl rfl (g := (mkF m 40 #[rv a, iv 3] [(.int 3), (.ref a)])) rfl rfl (hb hby d4_40)
  have f18 := f7.wr W17
  have f19 := f8.other W17 (Or.inr (slot_ne (Or.inl (hwi hw 14 rfl)) (Or.inl (hwi hw 51 rfl)) (by decide) (t := (.array (.array (.object "java/lang/Object")))) (t' := .int) (by decide) (by decide)))
  have f21 := f10.other W17 (Or.inr (slot_ne (Or.inl (hwi hw 35 rfl)) (Or.inl (hwi hw 51 rfl)) (by decide) (t := .int) (t' := .int) (by decide) (by decide)))
  have f22 := f11.other W17 (Or.inr (slot_ne (Or.inl (hwi hw 25 rfl)) (Or.inl (hwi hw 51 rfl)) (by decide) (t := .int) (t' := .int) (by decide) (by decide)))
  have f23 := f12.other W17 (Or.inr (slot_ne (Or.inl (hwi hw 47 rfl)) (Or.inl (hwi hw 51 rfl)) (by decide) (t := .boolean) (t' := .int) (by decide) (by decide)))
  have f24 := V16.other W17 (Ne.symm n_ar)
  have K17 : Keep h0 h17 [a, rg] := K6.wr W17 (Or.inl (List.mem_of_getElem? (i := 0) rfl))
  have N17 := Fr.snoc X17 N6 g_a
  have f25 : Fld Z h17 a "com/example/rowmotif/rowmotif/matcher/PartitionRows" "head" "I" (.int 3) := f9.same W17
  obtain ⟨T26, X26, e26, st26⟩ := getF X17 hx hZ hown (host := "") (Or.inl (hwi hw 24 rfl)) Via.refl e17 f22 (g := (mkF m 45 #[rv a, iv 3] [(.ref a), (.ref a)])) rfl rfl (hb hby d4_45)
  obtain ⟨T27, h27, X27, e27, W27, st27⟩ := putF X26 hx hZ hown (host := "") (Or.inl (hwi hw 24 rfl)) Via.refl e26 f22 f18 (Or.inl (hwi hw 25 rfl)) (hwi hw 3 rfl) (ty := .int) (by decide) rfl rfl (g := (mkF m 50 #[rv a, iv 3] [(.int 3), (.ref a)])) rfl rfl (hb hby d4_50)
  have f28 := f18.wr W27
  have f29 := f19.other W27 (Or.inr (slot_ne (Or.inl (hwi hw 14 rfl)) (Or.inl (hwi hw 25 rfl)) (by decide) (t := (.array (.array (.object "java/lang/Object")))) (t' := .int) (by decide) (by decide)))
  have f30 := f25.other W27 (Or.inr (slot_ne (Or.inl (hwi hw 51 rfl)) (Or.inl (hwi hw 25 rfl)) (by decide) (t := .int) (t' := .int) (by decide) (by decide)))
  have f31 := f21.other W27 (Or.inr (slot_ne (Or.inl (hwi hw 35 rfl)) (Or.inl (hwi hw 25 rfl)) (by decide) (t := .int) (t' := .int) (by decide) (by decide)))
  have f33 := f23.other W27 (Or.inr (slot_ne (Or.inl (hwi hw 47 rfl)) (Or.inl (hwi hw 25 rfl)) (by decide) (t := .boolean) (t' := .int) (by decide) (by decide)))
  have f34 := f24.other W27 (Ne.symm n_ar)
  have K27 : Keep h0 h27 [a, rg] := K17.wr W27 (Or.inl (List.mem_of_getElem? (i := 0) rfl))
  have N27 := Fr.snoc X27 N17 g_a
  have f35 : Fld Z h27 a "com/example/rowmotif/rowmotif/matcher/PartitionRows" "first" "I" (.int 3) := f22.same W27
  obtain ⟨T36, X36, e36, st36⟩ := getF X27 hx hZ hown (host := "") (Or.inl (hwi hw 34 rfl)) Via.refl e27 f31 (g := (mkF m 55 #[rv a, iv 3] [(.ref a), (.ref a)])) rfl rfl (hb hby d4_55)
  obtain ⟨T37, h37, X37, e37, W37, st37⟩ := putF X36 hx hZ hown (host := "") (Or.inl (hwi hw 34 rfl)) Via.refl e36 f31 f28 (Or.inl (hwi hw 35 rfl)) (hwi hw 3 rfl) (ty := .int) (by decide) rfl rfl (g := (mkF m 60 #[rv a, iv 3] [(.int 0), (.ref a)])) rfl rfl (hb hby d4_60)
  have f38 := f28.wr W37
  have f39 := f29.other W37 (Or.inr (slot_ne (Or.inl (hwi hw 14 rfl)) (Or.inl (hwi hw 35 rfl)) (by decide) (t := (.array (.array (.object "java/lang/Object")))) (t' := .int) (by decide) (by decide)))
  have f40 := f30.other W37 (Or.inr (slot_ne (Or.inl (hwi hw 51 rfl)) (Or.inl (hwi hw 35 rfl)) (by decide) (t := .int) (t' := .int) (by decide) (by decide)))
  have f42 := f35.other W37 (Or.inr (slot_ne (Or.inl (hwi hw 25 rfl)) (Or.inl (hwi hw 35 rfl)) (by decide) (t := .int) (t' := .int) (by decide) (by decide)))
  have f43 := f33.other W37 (Or.inr (slot_ne (Or.inl (hwi hw 47 rfl)) (Or.inl (hwi hw 35 rfl)) (by decide) (t := .boolean) (t' := .int) (by decide) (by decide)))
  have f44 := f34.other W37 (Ne.symm n_ar)
  have K37 : Keep h0 h37 [a, rg] := K27.wr W37 (Or.inl (List.mem_of_getElem? (i := 0) rfl))
  have N37 := Fr.snoc X37 N27 g_a
  have f45 : Fld Z h37 a "com/example/rowmotif/rowmotif/matcher/PartitionRows" "count" "I" (.int 0) := f31.same W37
  obtain ⟨T46, X46, e46, st46⟩ := getF X37 hx hZ hown (host := "") (Or.inl (hwi hw 24 rfl)) Via.refl e37 f42 (g := (mkF m 1 #[rv a, iv 3] [(.ref a)])) rfl rfl (hb hby d4_1)
  have pre47 : ∀ t_, Go p e below T46 (mkF m 66 #[rv a, iv 3] []) t_ → Go p e below s₁ (entryFrame m #[(.ref a), (.int 3)] 2) t_ := fun t_ kt => pre0 _ (by
      show Go p e below s₁ (mkF m 0 #[rv a, iv 3] []) _
      refine XS.aloadN X0.here hx rfl (hb hby d4_0) rfl rfl ?_
      show Go p e below s₁ (mkF m 1 #[rv a, iv 3] [(.ref a)]) _
      refine st1 _ ?_
      show Go p e below T1 (mkF m 4 #[rv a, iv 3] [(.int 2)]) _
      refine XS.iloadN X1.here hx rfl (hb hby d4_4) rfl ?_
      show Go p e below T1 (mkF m 5 #[rv a, iv 3] [(.int 3), (.int 2)]) _
      refine XS.icmpNo X1.here hx rfl (hb hby d4_5) rfl (tlt ((by decide) : (2 : Int32) < (3 : Int32))).2.1 ?_
      show Go p e below T1 (mkF m 8 #[rv a, iv 3] []) _
      refine XS.aloadN X1.here hx rfl (hb hby d4_8) rfl rfl ?_
      show Go p e below T1 (mkF m 9 #[rv a, iv 3] [(.ref a)]) _
      refine st2 _ ?_
      show Go p e below T2 (mkF m 12 #[rv a, iv 3] [(.int 1)]) _
      refine XS.ifNo X2.here hx rfl (hb hby d4_12) rfl ((if0 _ _).trans (tlt ((by decide) : (0 : Int32) < (1 : Int32))).2.2.2) ?_
      show Go p e below T2 (mkF m 15 #[rv a, iv 3] []) _
      refine XS.aloadN X2.here hx rfl (hb hby d4_15) rfl rfl ?_
      show Go p e below T2 (mkF m 16 #[rv a, iv 3] [(.ref a)]) _
      refine st3 _ ?_
      show Go p e below T3 (mkF m 19 #[rv a, iv 3] [(.ref rg)]) _
      refine XS.aloadN X3.here hx rfl (hb hby d4_19) rfl rfl ?_
      show Go p e below T3 (mkF m 20 #[rv a, iv 3] [(.ref a), (.ref rg)]) _
      refine st4 _ ?_
      show Go p e below T4 (mkF m 23 #[rv a, iv 3] [(.int 2), (.ref rg)]) _
      refine XS.aconstNull X4.here hx rfl (hb hby d4_23) ?_
      show Go p e below T4 (mkF m 24 #[rv a, iv 3] [.null, (.int 2), (.ref rg)]) _
      refine st6 _ ?_
      show Go p e below T6 (mkF m 25 #[rv a, iv 3] []) _
      refine XS.aloadN X6.here hx rfl (hb hby d4_25) rfl rfl ?_
      show Go p e below T6 (mkF m 26 #[rv a, iv 3] [(.ref a)]) _
      refine XS.aloadN X6.here hx rfl (hb hby d4_26) rfl rfl ?_
      show Go p e below T6 (mkF m 27 #[rv a, iv 3] [(.ref a), (.ref a)]) _
      refine st14 _ ?_
      show Go p e below T14 (mkF m 30 #[rv a, iv 3] [(.int 2), (.ref a)]) _
      refine XS.iconst X14.here hx rfl (hb hby d4_30) ?_
      show Go p e below T14 (mkF m 31 #[rv a, iv 3] [(.int 1), (.int 2), (.ref a)]) _
      refine XS.iadd X14.here hx rfl (hb hby d4_31) rfl ?_
      show Go p e below T14 (mkF m 32 #[rv a, iv 3] [(.int 3), (.ref a)]) _
      refine XS.aloadN X14.here hx rfl (hb hby d4_32) rfl rfl ?_
      show Go p e below T14 (mkF m 33 #[rv a, iv 3] [(.ref a), (.int 3), (.ref a)]) _
      refine st15 _ ?_
      show Go p e below T15 (mkF m 36 #[rv a, iv 3] [(.ref rg), (.int 3), (.ref a)]) _
      refine X15.arraylength hx (by rw [e15]; exact Ar16.1) (State.isArrayOf_alike hZ.alike Ar16.2.1) (g := (mkF m 36 #[rv a, iv 3] [(.ref rg), (.int 3), (.ref a)])) rfl rfl (hb hby d4_36) _ ?_
      rw [len_of Sa16 Na16]
      show Go p e below T15 (mkF m 37 #[rv a, iv 3] [(.int 16), (.int 3), (.ref a)]) _
      refine XS.iconst X15.here hx rfl (hb hby d4_37) ?_
      show Go p e below T15 (mkF m 38 #[rv a, iv 3] [(.int 1), (.int 16), (.int 3), (.ref a)]) _
      refine XS.isub X15.here hx rfl (hb hby d4_38) rfl ?_
      show Go p e below T15 (mkF m 39 #[rv a, iv 3] [(.int 15), (.int 3), (.ref a)]) _
      refine XS.iand X15.here hx rfl (hb hby d4_39) rfl ?_
      show Go p e below T15 (mkF m 40 #[rv a, iv 3] [(.int 3), (.ref a)]) _
      refine st17 _ ?_
      show Go p e below T17 (mkF m 43 #[rv a, iv 3] []) _
      refine XS.aloadN X17.here hx rfl (hb hby d4_43) rfl rfl ?_
      show Go p e below T17 (mkF m 44 #[rv a, iv 3] [(.ref a)]) _
      refine XS.dup X17.here hx rfl (hb hby d4_44) rfl rfl ?_
      show Go p e below T17 (mkF m 45 #[rv a, iv 3] [(.ref a), (.ref a)]) _
      refine st26 _ ?_
      show Go p e below T26 (mkF m 48 #[rv a, iv 3] [(.int 2), (.ref a)]) _
      refine XS.iconst X26.here hx rfl (hb hby d4_48) ?_
      show Go p e below T26 (mkF m 49 #[rv a, iv 3] [(.int 1), (.int 2), (.ref a)]) _
      refine XS.iadd X26.here hx rfl (hb hby d4_49) rfl ?_
      show Go p e below T26 (mkF m 50 #[rv a, iv 3] [(.int 3), (.ref a)]) _
      refine st27 _ ?_
      show Go p e below T27 (mkF m 53 #[rv a, iv 3] []) _
      refine XS.aloadN X27.here hx rfl (hb hby d4_53) rfl rfl ?_
      show Go p e below T27 (mkF m 54 #[rv a, iv 3] [(.ref a)]) _
      refine XS.dup X27.here hx rfl (hb hby d4_54) rfl rfl ?_
      show Go p e below T27 (mkF m 55 #[rv a, iv 3] [(.ref a), (.ref a)]) _
      refine st36 _ ?_
      show Go p e below T36 (mkF m 58 #[rv a, iv 3] [(.int 1), (.ref a)]) _
      refine XS.iconst X36.here hx rfl (hb hby d4_58) ?_
      show Go p e below T36 (mkF m 59 #[rv a, iv 3] [(.int 1), (.int 1), (.ref a)]) _
      refine XS.isub X36.here hx rfl (hb hby d4_59) rfl ?_
      show Go p e below T36 (mkF m 60 #[rv a, iv 3] [(.int 0), (.ref a)]) _
      refine st37 _ ?_
      show Go p e below T37 (mkF m 63 #[rv a, iv 3] []) _
      refine XS.goto X37.here hx rfl (pc0 := 63) (pc' := 0) rfl (hb hby d4_63) (by decide) (by decide) ?_
      show Go p e below T37 (mkF m 0 #[rv a, iv 3] []) _
      refine XS.aloadN X37.here hx rfl (hb hby d4_0) rfl rfl ?_
      show Go p e below T37 (mkF m 1 #[rv a, iv 3] [(.ref a)]) _
      refine st46 _ ?_
      show Go p e below T46 (mkF m 4 #[rv a, iv 3] [(.int 3)]) _
      refine XS.iloadN X46.here hx rfl (hb hby d4_4) rfl ?_
      show Go p e below T46 (mkF m 5 #[rv a, iv 3] [(.int 3), (.int 3)]) _
      refine XS.icmpYes X46.here hx rfl (pc0 := 5) (pc' := 66) rfl (hb hby d4_5) rfl (flt ((by decide) : ¬ ((3 : Int32) < (3 : Int32)))).2.1 (by decide) (by decide) ?_
      show Go p e below T46 (mkF m 66 #[rv a, iv 3] []) _
      exact kt)
  obtain ⟨fs, hr, hrun, hended, hW, hsame⟩ := X46.leave (v := none) (fun _ => rfl)
  refine ⟨_, _, pre47 _ ?_, hrun, hended, _, _, rfl, ?_, ⟨_, rfl⟩, hW, hsame.mono (by decide) (by decide)⟩
  · show Steps p.tables e below (T46.setTop (mkF m 66 #[rv a, iv 3] [])) _
    exact X46.returnOut hx Bd.returns (hb hby d4_66) hr
  · show Q_rmR2_1_1 Z a rg kr u0 u1 u2 h0 n0 _ T46.heap _
    rw [e46]
    exact ⟨rfl, N37, K37, ⟨f38, f39, f40, f45, f42, f43, f44, O_r, n_ar⟩⟩
theorem ef_9 (m : MethodId) (x0 : Addr) (x1 : Int32) : entryFrame m #[(.ref x0), (.int x1)] 2 = mkF m 0 #[.val (.ref x0), .val (.int x1)] [] := by first | (simp [entryFrame, mkF, argsToLocals, Value.category]; done) | rfl
theorem d9_0 : decode prog_78_method_6_code 0 = .ok (.iload_n 1, 1) := by decide +kernel
theorem d9_1 : decode prog_78_method_6_code 1 = .ok (.aload_n 0, 1) := by decide +kernel
theorem d9_2 : decode prog_78_method_6_code 2 = .ok (.getfield 42, 3) := by decide +kernel
theorem d9_5 : decode prog_78_method_6_code 5 = .ok (.if_icmp .lt 11, 3) := by decide +kernel
theorem d9_8 : decode prog_78_method_6_code 8 = .ok (.iload_n 1, 1) := by decide +kernel
theorem d9_9 : decode prog_78_method_6_code 9 = .ok (.aload_n 0, 1) := by decide +kernel
theorem d9_10 : decode prog_78_method_6_code 10 = .ok (.invokevirtual 26, 3) := by decide +kernel
theorem d9_13 : decode prog_78_method_6_code 13 = .ok (.if_icmp .lt 25, 3) := by decide +kernel
theorem d9_38 : decode prog_78_method_6_code 38 = .ok (.aload_n 0, 1) := by decide +kernel
theorem d9_39 : decode prog_78_method_6_code 39 = .ok (.getfield 11, 3) := by decide +kernel
theorem d9_42 : decode prog_78_method_6_code 42 = .ok (.aload_n 0, 1) := by decide +kernel
theorem d9_43 : decode prog_78_method_6_code 43 = .ok (.getfield 39, 3) := by decide +kernel
theorem d9_46 : decode prog_78_method_6_code 46 = .ok (.iload_n 1, 1) := by decide +kernel
theorem d9_47 : decode prog_78_method_6_code 47 = .ok (.iadd, 1) := by decide +kernel
theorem d9_48 : decode prog_78_method_6_code 48 = .ok (.aload_n 0, 1) := by decide +kernel
theorem d9_49 : decode prog_78_method_6_code 49 = .ok (.getfield 42, 3) := by decide +kernel
theorem d9_52 : decode prog_78_method_6_code 52 = .ok (.isub, 1) := by decide +kernel
theorem d9_53 : decode prog_78_method_6_code 53 = .ok (.aload_n 0, 1) := by decide +kernel
theorem d9_54 : decode prog_78_method_6_code 54 = .ok (.getfield 11, 3) := by decide +kernel
theorem d9_57 : decode prog_78_method_6_code 57 = .ok (.arraylength, 1) := by decide +kernel
theorem d9_58 : decode prog_78_method_6_code 58 = .ok (.iconst 1, 1) := by decide +kernel
theorem d9_59 : decode prog_78_method_6_code 59 = .ok (.isub, 1) := by decide +kernel
theorem d9_60 : decode prog_78_method_6_code 60 = .ok (.iand, 1) := by decide +kernel
theorem d9_61 : decode prog_78_method_6_code 61 = .ok (.aaload, 1) := by decide +kernel
theorem d9_62 : decode prog_78_method_6_code 62 = .ok (.areturn, 1) := by decide +kernel
def Q_rmG0_1_0 (Z : State) (a : Addr) (r : Addr) (rg : Addr) (kr : ClassId) (u1 : Value) (u2 : Value) (h0 : Heap) (n0 : Nat) (v : Option Value) (h : Heap) (L : List Loc) : Prop := v = some (.ref r) ∧ Fr n0 L ∧ h = h0
set_option maxRecDepth 65536 in
set_option maxHeartbeats 40000000 in
theorem rmG0_1_0 (l : Launch) (Z : State) (a0 : Array Value) (hw : ∀ d ∈ tables_1, d.before a0 Z = true) (ws : List Jvm.Cond) (a : Addr) (r : Addr) (rg : Addr) (kr : ClassId) (u1 : Value) (u2 : Value) (h0 : Heap) (n0 : Nat) (Z0 : n0 ≤ h0.size) (hR : Rg Z h0 a rg kr (0 : Int32) (1 : Int32) (.ref r) u1 u2) :
    MetFree l (⟨"com/example/rowmotif/rowmotif/matcher/PartitionRows", "get", "(I)[Ljava/lang/Object;"⟩ : MethodName) (head1 (Jvm.Cond.code (⟨"com/example/rowmotif/rowmotif/matcher/PartitionRows", "get", "(I)[Ljava/lang/Object;"⟩ : MethodName) prog_78_method_6_code 2 (some (.array (.object "java/lang/Object"))) :: ws) ({ frames := 1, cells := 0, slots := 0, locals := 13 } : Room)) (fun av_ U_ => av_ = #[(.ref a), (.int 0)] ∧ Z.Warmed39 U_.vm ∧ U_.heap = h0) (fun _ _ _ _ _ => True) (fun _ U_ o_ V_ => ∃ v_ L_, o_ = .returned v_ ∧ Q_rmG0_1_0 Z a r rg kr u1 u2 h0 n0 v_ V_.heap L_ ∧ FrameEnd U_ o_ V_ L_ ({ frames := 1, cells := 0, slots := 0, locals := 13 } : Room).cells ({ frames := 1, cells := 0, slots := 0, locals := 13 } : Room).slots) := by
  refine MetFree.of_bodySF (plainFor_of_name pn_com_example_rowmotif_rowmotif_matcher_PartitionRows) hisR ?_
  intro p e s m args below meth c s₁ Bd hml0 hP hK
  obtain ⟨rfl, hZ, hh⟩ := hP
  have hx := Bd.exec
  have hby := Bd.bytes
  have hml : c.maxLocals = 2 := hml0
  have hown : s.vm.findClass "com/example/rowmotif/rowmotif/matcher/PartitionRows" = some m.cls := findClass_of_methodNamed Bd.named
  have hnm := (name_of_methodNamed Bd.named Bd.method).1
  have X0 : Stand p l e ({ frames := 1, cells := 0, slots := 0, locals := 13 } : Room) s m #[(.ref a), (.int 0)] below meth c s₁ [] 0 0 := Stand.of_body Bd
  have e0 : s₁.heap = h0 := by rw [← hh, Bd.state]; rfl
  have N0 := Fr.nil n0
  have pre0 : ∀ t_, Go p e below s₁ (mkF m 0 #[rv a, iv 0] []) t_ → Go p e below s₁ (entryFrame m #[(.ref a), (.int 0)] 2) t_ := fun t_ kt => castTop (ef_9 m a (0 : Int32)) kt
  obtain ⟨E_a, F_ring, F_head, F_count, F_first, F_complete, V_r, O_r, n_ar⟩ := hR
  obtain ⟨T1, X1, e1, st1⟩ := getF X0 hx hZ hown (host := "") (Or.inl (hwi hw 24 rfl)) Via.refl e0 F_first (g := (mkF m 2 #[rv a, iv 0] [(.ref a), (.int 0)])) rfl rfl (hb hby d9_2)
  obtain ⟨cq2, kq2, q2a, q2b, q2c⟩ := isOf hZ e1 E_a
  obtain ⟨_, _, ⟨T2, L2, k2, n2⟩, -, X2, ⟨Lc2, hQ2, l2, y2, z2⟩, st2⟩ := X1.virtualBack hx (y := (⟨"com/example/rowmotif/rowmotif/matcher/PartitionRows", "size", "()I"⟩ : MethodName)) (z := (⟨"com/example/rowmotif/rowmotif/matcher/PartitionRows", "size", "()I"⟩ : MethodName)) hown (mvT hZ (hwi hw 48 rfl)) (mvT hZ (hwi hw 30 rfl)) (notFace_of_selects (args := #[]) (mvT hZ (hwi hw 32 rfl))) (mvT hZ (hwi hw 32 rfl)) (mvT hZ (hwi hw 31 rfl)) (by decide) (backOf (W := 1) (rmZ l Z a0 hw [] a (0 : Int32) (1 : Int32) h0 n0 (Nat.le_trans Z0 (Keep.refl h0 []).1) F_first F_count) hZ (hwi hw 33 rfl) (hwi hw 4 rfl) (by decide) (by decide)) q2a q2c (g := (mkF m 10 #[rv a, iv 0] [(.ref a), (.int 0)])) rfl (by rw [hml]; rfl) (Steps.refl _) (argsL := []) (rest := [(.int 0)]) (lenOf pd_3 rfl) rfl (by show 2 * 0 + _ ≤ _; exact Nat.le_of_eq rfl) (hb hby d9_10) (fun _ _ => ⟨rfl, e1, (by decide : 0 + 0 ≤ _), (by decide : 0 + 0 ≤ _)⟩)
  dsimp only [Pt.U, Pt.locs, Pt.cells, Pt.slots] at X2 l2 y2 z2 st2 hQ2
  subst l2 y2 z2
  obtain ⟨hv2, N2q, e2q⟩ := hQ2
  have N2 := Fr.app N0 N2q
  rw [show ((0 : Int32) + (1 : Int32)) = (1 : Int32) from by decide] at hv2
  subst hv2
  obtain ⟨T3, X3, e3, st3⟩ := getF X2 hx hZ hown (host := "") (Or.inl (hwi hw 13 rfl)) Via.refl e2q F_ring (g := (mkF m 39 #[rv a, iv 0] [(.ref a)])) rfl rfl (hb hby d9_39)
  obtain ⟨T4, X4, e4, st4⟩ := getF X3 hx hZ hown (host := "") (Or.inl (hwi hw 50 rfl)) Via.refl e3 F_head (g := (mkF m 43 #[rv a, iv 0] [(.ref a), (.ref rg)])) rfl rfl (hb hby d9_43)
  obtain ⟨T5, X5, e5, st5⟩ := getF X4 hx hZ hown (host := "") (Or.inl (hwi hw 24 rfl)) Via.refl e4 F_first (g := (mkF m 49 #[rv a, iv 0] [(.ref a), (.int 0), (.ref rg)])) rfl rfl (hb hby d9_49)
  obtain ⟨T6, X6, e6, st6⟩ := getF X5 hx hZ hown (host := "") (Or.inl (hwi hw 13 rfl)) Via.refl e5 F_ring (g := (mkF m 54 #[rv a, iv 0] [(.ref a), (.int 0), (.ref rg)])) rfl rfl (hb hby d9_54)
  obtain ⟨cl7, Ar7, qa7, Sa7, Na7, Ha7, Ga7⟩ := V_r
  have V7 : Arv Z h0 rg kr (.array (.object "java/lang/Object")) (16 : Int32) [(.ref r), u1, u2] .null := ⟨cl7, Ar7, qa7, Sa7, Na7, Ha7, Ga7⟩
  obtain ⟨cl8, Ar8, qa8, Sa8, Na8, Ha8, Ga8⟩ := V7
  have hin8 : ¬ ((0 : Int32) < 0 ∨ cl8.slots.size ≤ ((0 : Int32)).toNatClampNeg) := inb_of Sa8 ⟨by decide, by decide⟩
  have V8 : Arv Z h0 rg kr (.array (.object "java/lang/Object")) (16 : Int32) [(.ref r), u1, u2] .null := ⟨cl8, Ar8, qa8, Sa8, Na8, Ha8, Ga8⟩
  have pre9 : ∀ t_, Go p e below T6 (mkF m 62 #[rv a, iv 0] [(.ref r)]) t_ → Go p e below s₁ (entryFrame m #[(.ref a), (.int 0)] 2) t_ := fun t_ kt => pre0 _ (by
      show Go p e below s₁ (mkF m 0 #[rv a, iv 0] []) _
      refine XS.iloadN X0.here hx rfl (hb hby d9_0) rfl ?_
      show Go p e below s₁ (mkF m 1 #[rv a, iv 0] [(.int 0)]) _
      refine XS.aloadN X0.here hx rfl (hb hby d9_1) rfl rfl ?_
      show Go p e below s₁ (mkF m 2 #[rv a, iv 0] [(.ref a), (.int 0)]) _
      refine st1 _ ?_
      show Go p e below T1 (mkF m 5 #[rv a, iv 0] [(.int 0), (.int 0)]) _
      refine XS.icmpNo X1.here hx rfl (hb hby d9_5) rfl (flt ((by decide) : ¬ ((0 : Int32) < (0 : Int32)))).1 ?_
      show Go p e below T1 (mkF m 8 #[rv a, iv 0] []) _
      refine XS.iloadN X1.here hx rfl (hb hby d9_8) rfl ?_
      show Go p e below T1 (mkF m 9 #[rv a, iv 0] [(.int 0)]) _
      refine XS.aloadN X1.here hx rfl (hb hby d9_9) rfl rfl ?_
      show Go p e below T1 (mkF m 10 #[rv a, iv 0] [(.ref a), (.int 0)]) _
      refine st2.trans ?_
      show Go p e below T2 (mkF m 13 #[rv a, iv 0] [(.int 1), (.int 0)]) _
      refine XS.icmpYes X2.here hx rfl (pc0 := 13) (pc' := 38) rfl (hb hby d9_13) rfl (tlt ((by decide) : (0 : Int32) < (1 : Int32))).1 (by decide) (by decide) ?_
      show Go p e below T2 (mkF m 38 #[rv a, iv 0] []) _
      refine XS.aloadN X2.here hx rfl (hb hby d9_38) rfl rfl ?_
      show Go p e below T2 (mkF m 39 #[rv a, iv 0] [(.ref a)]) _
      refine st3 _ ?_
      show Go p e below T3 (mkF m 42 #[rv a, iv 0] [(.ref rg)]) _
      refine XS.aloadN X3.here hx rfl (hb hby d9_42) rfl rfl ?_
      show Go p e below T3 (mkF m 43 #[rv a, iv 0] [(.ref a), (.ref rg)]) _
      refine st4 _ ?_
      show Go p e below T4 (mkF m 46 #[rv a, iv 0] [(.int 0), (.ref rg)]) _
      refine XS.iloadN X4.here hx rfl (hb hby d9_46) rfl ?_
      show Go p e below T4 (mkF m 47 #[rv a, iv 0] [(.int 0), (.int 0), (.ref rg)]) _
      refine XS.iadd X4.here hx rfl (hb hby d9_47) rfl ?_
      show Go p e below T4 (mkF m 48 #[rv a, iv 0] [(.int 0), (.ref rg)]) _
      refine XS.aloadN X4.here hx rfl (hb hby d9_48) rfl rfl ?_
      show Go p e below T4 (mkF m 49 #[rv a, iv 0] [(.ref a), (.int 0), (.ref rg)]) _
      refine st5 _ ?_
      show Go p e below T5 (mkF m 52 #[rv a, iv 0] [(.int 0), (.int 0), (.ref rg)]) _
      refine XS.isub X5.here hx rfl (hb hby d9_52) rfl ?_
      show Go p e below T5 (mkF m 53 #[rv a, iv 0] [(.int 0), (.ref rg)]) _
      refine XS.aloadN X5.here hx rfl (hb hby d9_53) rfl rfl ?_
      show Go p e below T5 (mkF m 54 #[rv a, iv 0] [(.ref a), (.int 0), (.ref rg)]) _
      refine st6 _ ?_
      show Go p e below T6 (mkF m 57 #[rv a, iv 0] [(.ref rg), (.int 0), (.ref rg)]) _
      refine X6.arraylength hx (by rw [e6]; exact Ar7.1) (State.isArrayOf_alike hZ.alike Ar7.2.1) (g := (mkF m 57 #[rv a, iv 0] [(.ref rg), (.int 0), (.ref rg)])) rfl rfl (hb hby d9_57) _ ?_
      rw [len_of Sa7 Na7]
      show Go p e below T6 (mkF m 58 #[rv a, iv 0] [(.int 16), (.int 0), (.ref rg)]) _
      refine XS.iconst X6.here hx rfl (hb hby d9_58) ?_
      show Go p e below T6 (mkF m 59 #[rv a, iv 0] [(.int 1), (.int 16), (.int 0), (.ref rg)]) _
      refine XS.isub X6.here hx rfl (hb hby d9_59) rfl ?_
      show Go p e below T6 (mkF m 60 #[rv a, iv 0] [(.int 15), (.int 0), (.ref rg)]) _
      refine XS.iand X6.here hx rfl (hb hby d9_60) rfl ?_
      show Go p e below T6 (mkF m 61 #[rv a, iv 0] [(.int 0), (.ref rg)]) _
      refine X6.aaload hx (j := (0 : Int32)) (v := (.ref r)) (by rw [e6]; exact Ar8.1) (State.isArrayOf_alike hZ.alike Ar8.2.1) rfl Ar8.2.2 hin8 (Has.at Ha8 hin8 rfl) (g := (mkF m 61 #[rv a, iv 0] [(.int 0), (.ref rg)])) rfl rfl (hb hby d9_61) _ ?_
      show Go p e below T6 (mkF m 62 #[rv a, iv 0] [(.ref r)]) _
      exact kt)
  obtain ⟨fs, hr, hrun, hended, hW, hsame⟩ := X6.leave (v := some (.ref r)) (fun h => by rw [Bd.returns] at h; cases h)
  refine ⟨_, _, pre9 _ ?_, hrun, hended, _, _, rfl, ?_, ⟨_, rfl⟩, hW, hsame.mono (by decide) (by decide)⟩
  · show Steps p.tables e below (T6.setTop (mkF m 62 #[rv a, iv 0] [(.ref r)])) _
    jvm_step X6.here [X6.here.top, hx, (hb hby d9_62), X6.method', Bd.returns, Value.isRef, FieldType.isReference]
    first | (intro acts; rw [hr _ acts rfl rfl rfl]) | rw [hr _ _ rfl rfl rfl]
    exact Steps.refl _
  · show Q_rmG0_1_0 Z a r rg kr u1 u2 h0 n0 _ T6.heap _
    rw [e6]
    exact ⟨rfl, N2, rfl⟩
def Q_rmG0_2_0 (Z : State) (a : Addr) (r : Addr) (rg : Addr) (kr : ClassId) (u1 : Value) (u2 : Value) (h0 : Heap) (n0 : Nat) (v : Option Value) (h : Heap) (L : List Loc) : Prop := v = some (.ref r) ∧ Fr n0 L ∧ h = h0
set_option maxRecDepth 65536 in
set_option maxHeartbeats 40000000 in
theorem rmG0_2_0 (l : Launch) (Z : State) (a0 : Array Value) (hw : ∀ d ∈ tables_1, d.before a0 Z = true) (ws : List Jvm.Cond) (a : Addr) (r : Addr) (rg : Addr) (kr : ClassId) (u1 : Value) (u2 : Value) (h0 : Heap) (n0 : Nat) (Z0 : n0 ≤ h0.size) (hR : Rg Z h0 a rg kr (0 : Int32) (2 : Int32) (.ref r) u1 u2) :
    MetFree l (⟨"com/example/rowmotif/rowmotif/matcher/PartitionRows", "get", "(I)[Ljava/lang/Object;"⟩ : MethodName) (head1 (Jvm.Cond.code (⟨"com/example/rowmotif/rowmotif/matcher/PartitionRows", "get", "(I)[Ljava/lang/Object;"⟩ : MethodName) prog_78_method_6_code 2 (some (.array (.object "java/lang/Object"))) :: ws) ({ frames := 1, cells := 0, slots := 0, locals := 13 } : Room)) (fun av_ U_ => av_ = #[(.ref a), (.int 0)] ∧ Z.Warmed39 U_.vm ∧ U_.heap = h0) (fun _ _ _ _ _ => True) (fun _ U_ o_ V_ => ∃ v_ L_, o_ = .returned v_ ∧ Q_rmG0_2_0 Z a r rg kr u1 u2 h0 n0 v_ V_.heap L_ ∧ FrameEnd U_ o_ V_ L_ ({ frames := 1, cells := 0, slots := 0, locals := 13 } : Room).cells ({ frames := 1, cells := 0, slots := 0, locals := 13 } : Room).slots) := by
  refine MetFree.of_bodySF (plainFor_of_name pn_com_example_rowmotif_rowmotif_matcher_PartitionRows) hisR ?_
  intro p e s m args below meth c s₁ Bd hml0 hP hK
  obtain ⟨rfl, hZ, hh⟩ := hP
  have hx := Bd.exec
  have hby := Bd.bytes
  have hml : c.maxLocals = 2 := hml0
  have hown : s.vm.findClass "com/example/rowmotif/rowmotif/matcher/PartitionRows" = some m.cls := findClass_of_methodNamed Bd.named
  have hnm := (name_of_methodNamed Bd.named Bd.method).1
  have X0 : Stand p l e ({ frames := 1, cells := 0, slots := 0, locals := 13 } : Room) s m #[(.ref a), (.int 0)] below meth c s₁ [] 0 0 := Stand.of_body Bd
  have e0 : s₁.heap = h0 := by rw [← hh, Bd.state]; rfl
  have N0 := Fr.nil n0
  have pre0 : ∀ t_, Go p e below s₁ (mkF m 0 #[rv a, iv 0] []) t_ → Go p e below s₁ (entryFrame m #[(.ref a), (.int 0)] 2) t_ := fun t_ kt => castTop (ef_9 m a (0 : Int32)) kt
  obtain ⟨E_a, F_ring, F_head, F_count, F_first, F_complete, V_r, O_r, n_ar⟩ := hR
  obtain ⟨T1, X1, e1, st1⟩ := getF X0 hx hZ hown (host := "") (Or.inl (hwi hw 24 rfl)) Via.refl e0 F_first (g := (mkF m 2 #[rv a, iv 0] [(.ref a), (.int 0)])) rfl rfl (hb hby d9_2)
  obtain ⟨cq2, kq2, q2a, q2b, q2c⟩ := isOf hZ e1 E_a
  obtain ⟨_, _, ⟨T2, L2, k2, n2⟩, -, X2, ⟨Lc2, hQ2, l2, y2, z2⟩, st2⟩ := X1.virtualBack hx (y := (⟨"com/example/rowmotif/rowmotif/matcher/PartitionRows", "size", "()I"⟩ : MethodName)) (z := (⟨"com/example/rowmotif/rowmotif/matcher/PartitionRows", "size", "()I"⟩ : MethodName)) hown (mvT hZ (hwi hw 48 rfl)) (mvT hZ (hwi hw 30 rfl)) (notFace_of_selects (args := #[]) (mvT hZ (hwi hw 32 rfl))) (mvT hZ (hwi hw 32 rfl)) (mvT hZ (hwi hw 31 rfl)) (by decide) (backOf (W := 1) (rmZ l Z a0 hw [] a (0 : Int32) (2 : Int32) h0 n0 (Nat.le_trans Z0 (Keep.refl h0 []).1) F_first F_count) hZ (hwi hw 33 rfl) (hwi hw 4 rfl) (by decide) (by decide)) q2a q2c (g := (mkF m 10 #[rv a, iv 0] [(.ref a), (.int 0)])) rfl (by rw [hml]; rfl) (Steps.refl _) (argsL := []) (rest := [(.int 0)]) (lenOf pd_3 rfl) rfl (by show 2 * 0 + _ ≤ _; exact Nat.le_of_eq rfl) (hb hby d9_10) (fun _ _ => ⟨rfl, e1, (by decide : 0 + 0 ≤ _), (by decide : 0 + 0 ≤ _)⟩)
  dsimp only [Pt.U, Pt.locs, Pt.cells, Pt.slots] at X2 l2 y2 z2 st2 hQ2
  subst l2 y2 z2
  obtain ⟨hv2, N2q, e2q⟩ := hQ2
  have N2 := Fr.app N0 N2q
  rw [show ((0 : Int32) + (2 : Int32)) = (2 : Int32) from by decide] at hv2
  subst hv2
  obtain ⟨T3, X3, e3, st3⟩ := getF X2 hx hZ hown (host := "") (Or.inl (hwi hw 13 rfl)) Via.refl e2q F_ring (g := (mkF m 39 #[rv a, iv 0] [(.ref a)])) rfl rfl (hb hby d9_39)
  obtain ⟨T4, X4, e4, st4⟩ := getF X3 hx hZ hown (host := "") (Or.inl (hwi hw 50 rfl)) Via.refl e3 F_head (g := (mkF m 43 #[rv a, iv 0] [(.ref a), (.ref rg)])) rfl rfl (hb hby d9_43)
  obtain ⟨T5, X5, e5, st5⟩ := getF X4 hx hZ hown (host := "") (Or.inl (hwi hw 24 rfl)) Via.refl e4 F_first (g := (mkF m 49 #[rv a, iv 0] [(.ref a), (.int 0), (.ref rg)])) rfl rfl (hb hby d9_49)
  obtain ⟨T6, X6, e6, st6⟩ := getF X5 hx hZ hown (host := "") (Or.inl (hwi hw 13 rfl)) Via.refl e5 F_ring (g := (mkF m 54 #[rv a, iv 0] [(.ref a), (.int 0), (.ref rg)])) rfl rfl (hb hby d9_54)
  obtain ⟨cl7, Ar7, qa7, Sa7, Na7, Ha7, Ga7⟩ := V_r
  have V7 : Arv Z h0 rg kr (.array (.object "java/lang/Object")) (16 : Int32) [(.ref r), u1, u2] .null := ⟨cl7, Ar7, qa7, Sa7, Na7, Ha7, Ga7⟩
  obtain ⟨cl8, Ar8, qa8, Sa8, Na8, Ha8, Ga8⟩ := V7
  have hin8 : ¬ ((0 : Int32) < 0 ∨ cl8.slots.size ≤ ((0 : Int32)).toNatClampNeg) := inb_of Sa8 ⟨by decide, by decide⟩
  have V8 : Arv Z h0 rg kr (.array (.object "java/lang/Object")) (16 : Int32) [(.ref r), u1, u2] .null := ⟨cl8, Ar8, qa8, Sa8, Na8, Ha8, Ga8⟩
  have pre9 : ∀ t_, Go p e below T6 (mkF m 62 #[rv a, iv 0] [(.ref r)]) t_ → Go p e below s₁ (entryFrame m #[(.ref a), (.int 0)] 2) t_ := fun t_ kt => pre0 _ (by
      show Go p e below s₁ (mkF m 0 #[rv a, iv 0] []) _
      refine XS.iloadN X0.here hx rfl (hb hby d9_0) rfl ?_
      show Go p e below s₁ (mkF m 1 #[rv a, iv 0] [(.int 0)]) _
      refine XS.aloadN X0.here hx rfl (hb hby d9_1) rfl rfl ?_
      show Go p e below s₁ (mkF m 2 #[rv a, iv 0] [(.ref a), (.int 0)]) _
      refine st1 _ ?_
      show Go p e below T1 (mkF m 5 #[rv a, iv 0] [(.int 0), (.int 0)]) _
      refine XS.icmpNo X1.here hx rfl (hb hby d9_5) rfl (flt ((by decide) : ¬ ((0 : Int32) < (0 : Int32)))).1 ?_
      show Go p e below T1 (mkF m 8 #[rv a, iv 0] []) _
      refine XS.iloadN X1.here hx rfl (hb hby d9_8) rfl ?_
      show Go p e below T1 (mkF m 9 #[rv a, iv 0] [(.int 0)]) _
      refine XS.aloadN X1.here hx rfl (hb hby d9_9) rfl rfl ?_
      show Go p e below T1 (mkF m 10 #[rv a, iv 0] [(.ref a), (.int 0)]) _
      refine st2.trans ?_
      show Go p e below T2 (mkF m 13 #[rv a, iv 0] [(.int 2), (.int 0)]) _
      refine XS.icmpYes X2.here hx rfl (pc0 := 13) (pc' := 38) rfl (hb hby d9_13) rfl (tlt ((by decide) : (0 : Int32) < (2 : Int32))).1 (by decide) (by decide) ?_
      show Go p e below T2 (mkF m 38 #[rv a, iv 0] []) _
      refine XS.aloadN X2.here hx rfl (hb hby d9_38) rfl rfl ?_
      show Go p e below T2 (mkF m 39 #[rv a, iv 0] [(.ref a)]) _
      refine st3 _ ?_
      show Go p e below T3 (mkF m 42 #[rv a, iv 0] [(.ref rg)]) _
      refine XS.aloadN X3.here hx rfl (hb hby d9_42) rfl rfl ?_
      show Go p e below T3 (mkF m 43 #[rv a, iv 0] [(.ref a), (.ref rg)]) _
      refine st4 _ ?_
      show Go p e below T4 (mkF m 46 #[rv a, iv 0] [(.int 0), (.ref rg)]) _
      refine XS.iloadN X4.here hx rfl (hb hby d9_46) rfl ?_
      show Go p e below T4 (mkF m 47 #[rv a, iv 0] [(.int 0), (.int 0), (.ref rg)]) _
      refine XS.iadd X4.here hx rfl (hb hby d9_47) rfl ?_
      show Go p e below T4 (mkF m 48 #[rv a, iv 0] [(.int 0), (.ref rg)]) _
      refine XS.aloadN X4.here hx rfl (hb hby d9_48) rfl rfl ?_
      show Go p e below T4 (mkF m 49 #[rv a, iv 0] [(.ref a), (.int 0), (.ref rg)]) _
      refine st5 _ ?_
      show Go p e below T5 (mkF m 52 #[rv a, iv 0] [(.int 0), (.int 0), (.ref rg)]) _
      refine XS.isub X5.here hx rfl (hb hby d9_52) rfl ?_
      show Go p e below T5 (mkF m 53 #[rv a, iv 0] [(.int 0), (.ref rg)]) _
      refine XS.aloadN X5.here hx rfl (hb hby d9_53) rfl rfl ?_
      show Go p e below T5 (mkF m 54 #[rv a, iv 0] [(.ref a), (.int 0), (.ref rg)]) _
      refine st6 _ ?_
      show Go p e below T6 (mkF m 57 #[rv a, iv 0] [(.ref rg), (.int 0), (.ref rg)]) _
      refine X6.arraylength hx (by rw [e6]; exact Ar7.1) (State.isArrayOf_alike hZ.alike Ar7.2.1) (g := (mkF m 57 #[rv a, iv 0] [(.ref rg), (.int 0), (.ref rg)])) rfl rfl (hb hby d9_57) _ ?_
      rw [len_of Sa7 Na7]
      show Go p e below T6 (mkF m 58 #[rv a, iv 0] [(.int 16), (.int 0), (.ref rg)]) _
      refine XS.iconst X6.here hx rfl (hb hby d9_58) ?_
      show Go p e below T6 (mkF m 59 #[rv a, iv 0] [(.int 1), (.int 16), (.int 0), (.ref rg)]) _
      refine XS.isub X6.here hx rfl (hb hby d9_59) rfl ?_
      show Go p e below T6 (mkF m 60 #[rv a, iv 0] [(.int 15), (.int 0), (.ref rg)]) _
      refine XS.iand X6.here hx rfl (hb hby d9_60) rfl ?_
      show Go p e below T6 (mkF m 61 #[rv a, iv 0] [(.int 0), (.ref rg)]) _
      refine X6.aaload hx (j := (0 : Int32)) (v := (.ref r)) (by rw [e6]; exact Ar8.1) (State.isArrayOf_alike hZ.alike Ar8.2.1) rfl Ar8.2.2 hin8 (Has.at Ha8 hin8 rfl) (g := (mkF m 61 #[rv a, iv 0] [(.int 0), (.ref rg)])) rfl rfl (hb hby d9_61) _ ?_
      show Go p e below T6 (mkF m 62 #[rv a, iv 0] [(.ref r)]) _
      exact kt)
  obtain ⟨fs, hr, hrun, hended, hW, hsame⟩ := X6.leave (v := some (.ref r)) (fun h => by rw [Bd.returns] at h; cases h)
  refine ⟨_, _, pre9 _ ?_, hrun, hended, _, _, rfl, ?_, ⟨_, rfl⟩, hW, hsame.mono (by decide) (by decide)⟩
  · show Steps p.tables e below (T6.setTop (mkF m 62 #[rv a, iv 0] [(.ref r)])) _
    jvm_step X6.here [X6.here.top, hx, (hb hby d9_62), X6.method', Bd.returns, Value.isRef, FieldType.isReference]
    first | (intro acts; rw [hr _ acts rfl rfl rfl]) | rw [hr _ _ rfl rfl rfl]
    exact Steps.refl _
  · show Q_rmG0_2_0 Z a r rg kr u1 u2 h0 n0 _ T6.heap _
    rw [e6]
    exact ⟨rfl, N2, rfl⟩
def Q_rmG0_2_1 (Z : State) (a : Addr) (r : Addr) (rg : Addr) (kr : ClassId) (u0 : Value) (u2 : Value) (h0 : Heap) (n0 : Nat) (v : Option Value) (h : Heap) (L : List Loc) : Prop := v = some (.ref r) ∧ Fr n0 L ∧ h = h0
set_option maxRecDepth 65536 in
set_option maxHeartbeats 40000000 in
theorem rmG0_2_1 (l : Launch) (Z : State) (a0 : Array Value) (hw : ∀ d ∈ tables_1, d.before a0 Z = true) (ws : List Jvm.Cond) (a : Addr) (r : Addr) (rg : Addr) (kr : ClassId) (u0 : Value) (u2 : Value) (h0 : Heap) (n0 : Nat) (Z0 : n0 ≤ h0.size) (hR : Rg Z h0 a rg kr (0 : Int32) (2 : Int32) u0 (.ref r) u2) :
    MetFree l (⟨"com/example/rowmotif/rowmotif/matcher/PartitionRows", "get", "(I)[Ljava/lang/Object;"⟩ : MethodName) (head1 (Jvm.Cond.code (⟨"com/example/rowmotif/rowmotif/matcher/PartitionRows", "get", "(I)[Ljava/lang/Object;"⟩ : MethodName) prog_78_method_6_code 2 (some (.array (.object "java/lang/Object"))) :: ws) ({ frames := 1, cells := 0, slots := 0, locals := 13 } : Room)) (fun av_ U_ => av_ = #[(.ref a), (.int 1)] ∧ Z.Warmed39 U_.vm ∧ U_.heap = h0) (fun _ _ _ _ _ => True) (fun _ U_ o_ V_ => ∃ v_ L_, o_ = .returned v_ ∧ Q_rmG0_2_1 Z a r rg kr u0 u2 h0 n0 v_ V_.heap L_ ∧ FrameEnd U_ o_ V_ L_ ({ frames := 1, cells := 0, slots := 0, locals := 13 } : Room).cells ({ frames := 1, cells := 0, slots := 0, locals := 13 } : Room).slots) := by
  refine MetFree.of_bodySF (plainFor_of_name pn_com_example_rowmotif_rowmotif_matcher_PartitionRows) hisR ?_
  intro p e s m args below meth c s₁ Bd hml0 hP hK
  obtain ⟨rfl, hZ, hh⟩ := hP
  have hx := Bd.exec
  have hby := Bd.bytes
  have hml : c.maxLocals = 2 := hml0
  have hown : s.vm.findClass "com/example/rowmotif/rowmotif/matcher/PartitionRows" = some m.cls := findClass_of_methodNamed Bd.named
  have hnm := (name_of_methodNamed Bd.named Bd.method).1
  have X0 : Stand p l e ({ frames := 1, cells := 0, slots := 0, locals := 13 } : Room) s m #[(.ref a), (.int 1)] below meth c s₁ [] 0 0 := Stand.of_body Bd
  have e0 : s₁.heap = h0 := by rw [← hh, Bd.state]; rfl
  have N0 := Fr.nil n0
  have pre0 : ∀ t_, Go p e below s₁ (mkF m 0 #[rv a, iv 1] []) t_ → Go p e below s₁ (entryFrame m #[(.ref a), (.int 1)] 2) t_ := fun t_ kt => castTop (ef_9 m a (1 : Int32)) kt
  obtain ⟨E_a, F_ring, F_head, F_count, F_first, F_complete, V_r, O_r, n_ar⟩ := hR
  obtain ⟨T1, X1, e1, st1⟩ := getF X0 hx hZ hown (host := "") (Or.inl (hwi hw 24 rfl)) Via.refl e0 F_first (g := (mkF m 2 #[rv a, iv 1] [(.ref a), (.int 1)])) rfl rfl (hb hby d9_2)
  obtain ⟨cq2, kq2, q2a, q2b, q2c⟩ := isOf hZ e1 E_a
  obtain ⟨_, _, ⟨T2, L2, k2, n2⟩, -, X2, ⟨Lc2, hQ2, l2, y2, z2⟩, st2⟩ := X1.virtualBack hx (y := (⟨"com/example/rowmotif/rowmotif/matcher/PartitionRows", "size", "()I"⟩ : MethodName)) (z := (⟨"com/example/rowmotif/rowmotif/matcher/PartitionRows", "size", "()I"⟩ : MethodName)) hown (mvT hZ (hwi hw 48 rfl)) (mvT hZ (hwi hw 30 rfl)) (notFace_of_selects (args := #[]) (mvT hZ (hwi hw 32 rfl))) (mvT hZ (hwi hw 32 rfl)) (mvT hZ (hwi hw 31 rfl)) (by decide) (backOf (W := 1) (rmZ l Z a0 hw [] a (0 : Int32) (2 : Int32) h0 n0 (Nat.le_trans Z0 (Keep.refl h0 []).1) F_first F_count) hZ (hwi hw 33 rfl) (hwi hw 4 rfl) (by decide) (by decide)) q2a q2c (g := (mkF m 10 #[rv a, iv 1] [(.ref a), (.int 1)])) rfl (by rw [hml]; rfl) (Steps.refl _) (argsL := []) (rest := [(.int 1)]) (lenOf pd_3 rfl) rfl (by show 2 * 0 + _ ≤ _; exact Nat.le_of_eq rfl) (hb hby d9_10) (fun _ _ => ⟨rfl, e1, (by decide : 0 + 0 ≤ _), (by decide : 0 + 0 ≤ _)⟩)
  dsimp only [Pt.U, Pt.locs, Pt.cells, Pt.slots] at X2 l2 y2 z2 st2 hQ2
  subst l2 y2 z2
  obtain ⟨hv2, N2q, e2q⟩ := hQ2
  have N2 := Fr.app N0 N2q
  rw [show ((0 : Int32) + (2 : Int32)) = (2 : Int32) from by decide] at hv2
  subst hv2
  obtain ⟨T3, X3, e3, st3⟩ := getF X2 hx hZ hown (host := "") (Or.inl (hwi hw 13 rfl)) Via.refl e2q F_ring (g := (mkF m 39 #[rv a, iv 1] [(.ref a)])) rfl rfl (hb hby d9_39)
  obtain ⟨T4, X4, e4, st4⟩ := getF X3 hx hZ hown (host := "") (Or.inl (hwi hw 50 rfl)) Via.refl e3 F_head (g := (mkF m 43 #[rv a, iv 1] [(.ref a), (.ref rg)])) rfl rfl (hb hby d9_43)
  obtain ⟨T5, X5, e5, st5⟩ := getF X4 hx hZ hown (host := "") (Or.inl (hwi hw 24 rfl)) Via.refl e4 F_first (g := (mkF m 49 #[rv a, iv 1] [(.ref a), (.int 1), (.ref rg)])) rfl rfl (hb hby d9_49)
  obtain ⟨T6, X6, e6, st6⟩ := getF X5 hx hZ hown (host := "") (Or.inl (hwi hw 13 rfl)) Via.refl e5 F_ring (g := (mkF m 54 #[rv a, iv 1] [(.ref a), (.int 1), (.ref rg)])) rfl rfl (hb hby d9_54)
  obtain ⟨cl7, Ar7, qa7, Sa7, Na7, Ha7, Ga7⟩ := V_r
  have V7 : Arv Z h0 rg kr (.array (.object "java/lang/Object")) (16 : Int32) [u0, (.ref r), u2] .null := ⟨cl7, Ar7, qa7, Sa7, Na7, Ha7, Ga7⟩
  obtain ⟨cl8, Ar8, qa8, Sa8, Na8, Ha8, Ga8⟩ := V7
  have hin8 : ¬ ((1 : Int32) < 0 ∨ cl8.slots.size ≤ ((1 : Int32)).toNatClampNeg) := inb_of Sa8 ⟨by decide, by decide⟩
  have V8 : Arv Z h0 rg kr (.array (.object "java/lang/Object")) (16 : Int32) [u0, (.ref r), u2] .null := ⟨cl8, Ar8, qa8, Sa8, Na8, Ha8, Ga8⟩
  have pre9 : ∀ t_, Go p e below T6 (mkF m 62 #[rv a, iv 1] [(.ref r)]) t_ → Go p e below s₁ (entryFrame m #[(.ref a), (.int 1)] 2) t_ := fun t_ kt => pre0 _ (by
      show Go p e below s₁ (mkF m 0 #[rv a, iv 1] []) _
      refine XS.iloadN X0.here hx rfl (hb hby d9_0) rfl ?_
      show Go p e below s₁ (mkF m 1 #[rv a, iv 1] [(.int 1)]) _
      refine XS.aloadN X0.here hx rfl (hb hby d9_1) rfl rfl ?_
      show Go p e below s₁ (mkF m 2 #[rv a, iv 1] [(.ref a), (.int 1)]) _
      refine st1 _ ?_
      show Go p e below T1 (mkF m 5 #[rv a, iv 1] [(.int 0), (.int 1)]) _
      refine XS.icmpNo X1.here hx rfl (hb hby d9_5) rfl (flt ((by decide) : ¬ ((1 : Int32) < (0 : Int32)))).1 ?_
      show Go p e below T1 (mkF m 8 #[rv a, iv 1] []) _
      refine XS.iloadN X1.here hx rfl (hb hby d9_8) rfl ?_
      show Go p e below T1 (mkF m 9 #[rv a, iv 1] [(.int 1)]) _
      refine XS.aloadN X1.here hx rfl (hb hby d9_9) rfl rfl ?_
      show Go p e below T1 (mkF m 10 #[rv a, iv 1] [(.ref a), (.int 1)]) _
      refine st2.trans ?_
      show Go p e below T2 (mkF m 13 #[rv a, iv 1] [(.int 2), (.int 1)]) _
      refine XS.icmpYes X2.here hx rfl (pc0 := 13) (pc' := 38) rfl (hb hby d9_13) rfl (tlt ((by decide) : (1 : Int32) < (2 : Int32))).1 (by decide) (by decide) ?_
      show Go p e below T2 (mkF m 38 #[rv a, iv 1] []) _
      refine XS.aloadN X2.here hx rfl (hb hby d9_38) rfl rfl ?_
      show Go p e below T2 (mkF m 39 #[rv a, iv 1] [(.ref a)]) _
      refine st3 _ ?_
      show Go p e below T3 (mkF m 42 #[rv a, iv 1] [(.ref rg)]) _
      refine XS.aloadN X3.here hx rfl (hb hby d9_42) rfl rfl ?_
      show Go p e below T3 (mkF m 43 #[rv a, iv 1] [(.ref a), (.ref rg)]) _
      refine st4 _ ?_
      show Go p e below T4 (mkF m 46 #[rv a, iv 1] [(.int 0), (.ref rg)]) _
      refine XS.iloadN X4.here hx rfl (hb hby d9_46) rfl ?_
      show Go p e below T4 (mkF m 47 #[rv a, iv 1] [(.int 1), (.int 0), (.ref rg)]) _
      refine XS.iadd X4.here hx rfl (hb hby d9_47) rfl ?_
      show Go p e below T4 (mkF m 48 #[rv a, iv 1] [(.int 1), (.ref rg)]) _
      refine XS.aloadN X4.here hx rfl (hb hby d9_48) rfl rfl ?_
      show Go p e below T4 (mkF m 49 #[rv a, iv 1] [(.ref a), (.int 1), (.ref rg)]) _
      refine st5 _ ?_
      show Go p e below T5 (mkF m 52 #[rv a, iv 1] [(.int 0), (.int 1), (.ref rg)]) _
      refine XS.isub X5.here hx rfl (hb hby d9_52) rfl ?_
      show Go p e below T5 (mkF m 53 #[rv a, iv 1] [(.int 1), (.ref rg)]) _
      refine XS.aloadN X5.here hx rfl (hb hby d9_53) rfl rfl ?_
      show Go p e below T5 (mkF m 54 #[rv a, iv 1] [(.ref a), (.int 1), (.ref rg)]) _
      refine st6 _ ?_
      show Go p e below T6 (mkF m 57 #[rv a, iv 1] [(.ref rg), (.int 1), (.ref rg)]) _
      refine X6.arraylength hx (by rw [e6]; exact Ar7.1) (State.isArrayOf_alike hZ.alike Ar7.2.1) (g := (mkF m 57 #[rv a, iv 1] [(.ref rg), (.int 1), (.ref rg)])) rfl rfl (hb hby d9_57) _ ?_
      rw [len_of Sa7 Na7]
      show Go p e below T6 (mkF m 58 #[rv a, iv 1] [(.int 16), (.int 1), (.ref rg)]) _
      refine XS.iconst X6.here hx rfl (hb hby d9_58) ?_
      show Go p e below T6 (mkF m 59 #[rv a, iv 1] [(.int 1), (.int 16), (.int 1), (.ref rg)]) _
      refine XS.isub X6.here hx rfl (hb hby d9_59) rfl ?_
      show Go p e below T6 (mkF m 60 #[rv a, iv 1] [(.int 15), (.int 1), (.ref rg)]) _
      refine XS.iand X6.here hx rfl (hb hby d9_60) rfl ?_
      show Go p e below T6 (mkF m 61 #[rv a, iv 1] [(.int 1), (.ref rg)]) _
      refine X6.aaload hx (j := (1 : Int32)) (v := (.ref r)) (by rw [e6]; exact Ar8.1) (State.isArrayOf_alike hZ.alike Ar8.2.1) rfl Ar8.2.2 hin8 (Has.at Ha8 hin8 rfl) (g := (mkF m 61 #[rv a, iv 1] [(.int 1), (.ref rg)])) rfl rfl (hb hby d9_61) _ ?_
      show Go p e below T6 (mkF m 62 #[rv a, iv 1] [(.ref r)]) _
      exact kt)
  obtain ⟨fs, hr, hrun, hended, hW, hsame⟩ := X6.leave (v := some (.ref r)) (fun h => by rw [Bd.returns] at h; cases h)
  refine ⟨_, _, pre9 _ ?_, hrun, hended, _, _, rfl, ?_, ⟨_, rfl⟩, hW, hsame.mono (by decide) (by decide)⟩
  · show Steps p.tables e below (T6.setTop (mkF m 62 #[rv a, iv 1] [(.ref r)])) _
    jvm_step X6.here [X6.here.top, hx, (hb hby d9_62), X6.method', Bd.returns, Value.isRef, FieldType.isReference]
    first | (intro acts; rw [hr _ acts rfl rfl rfl]) | rw [hr _ _ rfl rfl rfl]
    exact Steps.refl _
  · show Q_rmG0_2_1 Z a r rg kr u0 u2 h0 n0 _ T6.heap _
    rw [e6]
    exact ⟨rfl, N2, rfl⟩
def Q_rmG1_1_1 (Z : State) (a : Addr) (r : Addr) (rg : Addr) (kr : ClassId) (u0 : Value) (u2 : Value) (h0 : Heap) (n0 : Nat) (v : Option Value) (h : Heap) (L : List Loc) : Prop := v = some (.ref r) ∧ Fr n0 L ∧ h = h0
set_option maxRecDepth 65536 in
set_option maxHeartbeats 40000000 in
theorem rmG1_1_1 (l : Launch) (Z : State) (a0 : Array Value) (hw : ∀ d ∈ tables_1, d.before a0 Z = true) (ws : List Jvm.Cond) (a : Addr) (r : Addr) (rg : Addr) (kr : ClassId) (u0 : Value) (u2 : Value) (h0 : Heap) (n0 : Nat) (Z0 : n0 ≤ h0.size) (hR : Rg Z h0 a rg kr (1 : Int32) (1 : Int32) u0 (.ref r) u2) :
    MetFree l (⟨"com/example/rowmotif/rowmotif/matcher/PartitionRows", "get", "(I)[Ljava/lang/Object;"⟩ : MethodName) (head1 (Jvm.Cond.code (⟨"com/example/rowmotif/rowmotif/matcher/PartitionRows", "get", "(I)[Ljava/lang/Object;"⟩ : MethodName) prog_78_method_6_code 2 (some (.array (.object "java/lang/Object"))) :: ws) ({ frames := 1, cells := 0, slots := 0, locals := 13 } : Room)) (fun av_ U_ => av_ = #[(.ref a), (.int 1)] ∧ Z.Warmed39 U_.vm ∧ U_.heap = h0) (fun _ _ _ _ _ => True) (fun _ U_ o_ V_ => ∃ v_ L_, o_ = .returned v_ ∧ Q_rmG1_1_1 Z a r rg kr u0 u2 h0 n0 v_ V_.heap L_ ∧ FrameEnd U_ o_ V_ L_ ({ frames := 1, cells := 0, slots := 0, locals := 13 } : Room).cells ({ frames := 1, cells := 0, slots := 0, locals := 13 } : Room).slots) := by
  refine MetFree.of_bodySF (plainFor_of_name pn_com_example_rowmotif_rowmotif_matcher_PartitionRows) hisR ?_
  intro p e s m args below meth c s₁ Bd hml0 hP hK
  obtain ⟨rfl, hZ, hh⟩ := hP
  have hx := Bd.exec
  have hby := Bd.bytes
  have hml : c.maxLocals = 2 := hml0
  have hown : s.vm.findClass "com/example/rowmotif/rowmotif/matcher/PartitionRows" = some m.cls := findClass_of_methodNamed Bd.named
  have hnm := (name_of_methodNamed Bd.named Bd.method).1
  have X0 : Stand p l e ({ frames := 1, cells := 0, slots := 0, locals := 13 } : Room) s m #[(.ref a), (.int 1)] below meth c s₁ [] 0 0 := Stand.of_body Bd
  have e0 : s₁.heap = h0 := by rw [← hh, Bd.state]; rfl
  have N0 := Fr.nil n0
  have pre0 : ∀ t_, Go p e below s₁ (mkF m 0 #[rv a, iv 1] []) t_ → Go p e below s₁ (entryFrame m #[(.ref a), (.int 1)] 2) t_ := fun t_ kt => castTop (ef_9 m a (1 : Int32)) kt
  obtain ⟨E_a, F_ring, F_head, F_count, F_first, F_complete, V_r, O_r, n_ar⟩ := hR
  obtain ⟨T1, X1, e1, st1⟩ := getF X0 hx hZ hown (host := "") (Or.inl (hwi hw 24 rfl)) Via.refl e0 F_first (g := (mkF m 2 #[rv a, iv 1] [(.ref a), (.int 1)])) rfl rfl (hb hby d9_2)
  obtain ⟨cq2, kq2, q2a, q2b, q2c⟩ := isOf hZ e1 E_a
  obtain ⟨_, _, ⟨T2, L2, k2, n2⟩, -, X2, ⟨Lc2, hQ2, l2, y2, z2⟩, st2⟩ := X1.virtualBack hx (y := (⟨"com/example/rowmotif/rowmotif/matcher/PartitionRows", "size", "()I"⟩ : MethodName)) (z := (⟨"com/example/rowmotif/rowmotif/matcher/PartitionRows", "size", "()I"⟩ : MethodName)) hown (mvT hZ (hwi hw 48 rfl)) (mvT hZ (hwi hw 30 rfl)) (notFace_of_selects (args := #[]) (mvT hZ (hwi hw 32 rfl))) (mvT hZ (hwi hw 32 rfl)) (mvT hZ (hwi hw 31 rfl)) (by decide) (backOf (W := 1) (rmZ l Z a0 hw [] a (1 : Int32) (1 : Int32) h0 n0 (Nat.le_trans Z0 (Keep.refl h0 []).1) F_first F_count) hZ (hwi hw 33 rfl) (hwi hw 4 rfl) (by decide) (by decide)) q2a q2c (g := (mkF m 10 #[rv a, iv 1] [(.ref a), (.int 1)])) rfl (by rw [hml]; rfl) (Steps.refl _) (argsL := []) (rest := [(.int 1)]) (lenOf pd_3 rfl) rfl (by show 2 * 0 + _ ≤ _; exact Nat.le_of_eq rfl) (hb hby d9_10) (fun _ _ => ⟨rfl, e1, (by decide : 0 + 0 ≤ _), (by decide : 0 + 0 ≤ _)⟩)
  dsimp only [Pt.U, Pt.locs, Pt.cells, Pt.slots] at X2 l2 y2 z2 st2 hQ2
  subst l2 y2 z2
  obtain ⟨hv2, N2q, e2q⟩ := hQ2
  have N2 := Fr.app N0 N2q
  rw [show ((1 : Int32) + (1 : Int32)) = (2 : Int32) from by decide] at hv2
  subst hv2
  obtain ⟨T3, X3, e3, st3⟩ := getF X2 hx hZ hown (host := "") (Or.inl (hwi hw 13 rfl)) Via.refl e2q F_ring (g := (mkF m 39 #[rv a, iv 1] [(.ref a)])) rfl rfl (hb hby d9_39)
  obtain ⟨T4, X4, e4, st4⟩ := getF X3 hx hZ hown (host := "") (Or.inl (hwi hw 50 rfl)) Via.refl e3 F_head (g := (mkF m 43 #[rv a, iv 1] [(.ref a), (.ref rg)])) rfl rfl (hb hby d9_43)
  obtain ⟨T5, X5, e5, st5⟩ := getF X4 hx hZ hown (host := "") (Or.inl (hwi hw 24 rfl)) Via.refl e4 F_first (g := (mkF m 49 #[rv a, iv 1] [(.ref a), (.int 2), (.ref rg)])) rfl rfl (hb hby d9_49)
  obtain ⟨T6, X6, e6, st6⟩ := getF X5 hx hZ hown (host := "") (Or.inl (hwi hw 13 rfl)) Via.refl e5 F_ring (g := (mkF m 54 #[rv a, iv 1] [(.ref a), (.int 1), (.ref rg)])) rfl rfl (hb hby d9_54)
  obtain ⟨cl7, Ar7, qa7, Sa7, Na7, Ha7, Ga7⟩ := V_r
  have V7 : Arv Z h0 rg kr (.array (.object "java/lang/Object")) (16 : Int32) [u0, (.ref r), u2] .null := ⟨cl7, Ar7, qa7, Sa7, Na7, Ha7, Ga7⟩
  obtain ⟨cl8, Ar8, qa8, Sa8, Na8, Ha8, Ga8⟩ := V7
  have hin8 : ¬ ((1 : Int32) < 0 ∨ cl8.slots.size ≤ ((1 : Int32)).toNatClampNeg) := inb_of Sa8 ⟨by decide, by decide⟩
  have V8 : Arv Z h0 rg kr (.array (.object "java/lang/Object")) (16 : Int32) [u0, (.ref r), u2] .null := ⟨cl8, Ar8, qa8, Sa8, Na8, Ha8, Ga8⟩
  have pre9 : ∀ t_, Go p e below T6 (mkF m 62 #[rv a, iv 1] [(.ref r)]) t_ → Go p e below s₁ (entryFrame m #[(.ref a), (.int 1)] 2) t_ := fun t_ kt => pre0 _ (by
      show Go p e below s₁ (mkF m 0 #[rv a, iv 1] []) _
      refine XS.iloadN X0.here hx rfl (hb hby d9_0) rfl ?_
      show Go p e below s₁ (mkF m 1 #[rv a, iv 1] [(.int 1)]) _
      refine XS.aloadN X0.here hx rfl (hb hby d9_1) rfl rfl ?_
      show Go p e below s₁ (mkF m 2 #[rv a, iv 1] [(.ref a), (.int 1)]) _
      refine st1 _ ?_
      show Go p e below T1 (mkF m 5 #[rv a, iv 1] [(.int 1), (.int 1)]) _
      refine XS.icmpNo X1.here hx rfl (hb hby d9_5) rfl (flt ((by decide) : ¬ ((1 : Int32) < (1 : Int32)))).1 ?_
      show Go p e below T1 (mkF m 8 #[rv a, iv 1] []) _
      refine XS.iloadN X1.here hx rfl (hb hby d9_8) rfl ?_
      show Go p e below T1 (mkF m 9 #[rv a, iv 1] [(.int 1)]) _
      refine XS.aloadN X1.here hx rfl (hb hby d9_9) rfl rfl ?_
      show Go p e below T1 (mkF m 10 #[rv a, iv 1] [(.ref a), (.int 1)]) _
      refine st2.trans ?_
      show Go p e below T2 (mkF m 13 #[rv a, iv 1] [(.int 2), (.int 1)]) _
      refine XS.icmpYes X2.here hx rfl (pc0 := 13) (pc' := 38) rfl (hb hby d9_13) rfl (tlt ((by decide) : (1 : Int32) < (2 : Int32))).1 (by decide) (by decide) ?_
      show Go p e below T2 (mkF m 38 #[rv a, iv 1] []) _
      refine XS.aloadN X2.here hx rfl (hb hby d9_38) rfl rfl ?_
      show Go p e below T2 (mkF m 39 #[rv a, iv 1] [(.ref a)]) _
      refine st3 _ ?_
      show Go p e below T3 (mkF m 42 #[rv a, iv 1] [(.ref rg)]) _
      refine XS.aloadN X3.here hx rfl (hb hby d9_42) rfl rfl ?_
      show Go p e below T3 (mkF m 43 #[rv a, iv 1] [(.ref a), (.ref rg)]) _
      refine st4 _ ?_
      show Go p e below T4 (mkF m 46 #[rv a, iv 1] [(.int 1), (.ref rg)]) _
      refine XS.iloadN X4.here hx rfl (hb hby d9_46) rfl ?_
      show Go p e below T4 (mkF m 47 #[rv a, iv 1] [(.int 1), (.int 1), (.ref rg)]) _
      refine XS.iadd X4.here hx rfl (hb hby d9_47) rfl ?_
      show Go p e below T4 (mkF m 48 #[rv a, iv 1] [(.int 2), (.ref rg)]) _
      refine XS.aloadN X4.here hx rfl (hb hby d9_48) rfl rfl ?_
      show Go p e below T4 (mkF m 49 #[rv a, iv 1] [(.ref a), (.int 2), (.ref rg)]) _
      refine st5 _ ?_
      show Go p e below T5 (mkF m 52 #[rv a, iv 1] [(.int 1), (.int 2), (.ref rg)]) _
      refine XS.isub X5.here hx rfl (hb hby d9_52) rfl ?_
      show Go p e below T5 (mkF m 53 #[rv a, iv 1] [(.int 1), (.ref rg)]) _
      refine XS.aloadN X5.here hx rfl (hb hby d9_53) rfl rfl ?_
      show Go p e below T5 (mkF m 54 #[rv a, iv 1] [(.ref a), (.int 1), (.ref rg)]) _
      refine st6 _ ?_
      show Go p e below T6 (mkF m 57 #[rv a, iv 1] [(.ref rg), (.int 1), (.ref rg)]) _
      refine X6.arraylength hx (by rw [e6]; exact Ar7.1) (State.isArrayOf_alike hZ.alike Ar7.2.1) (g := (mkF m 57 #[rv a, iv 1] [(.ref rg), (.int 1), (.ref rg)])) rfl rfl (hb hby d9_57) _ ?_
      rw [len_of Sa7 Na7]
      show Go p e below T6 (mkF m 58 #[rv a, iv 1] [(.int 16), (.int 1), (.ref rg)]) _
      refine XS.iconst X6.here hx rfl (hb hby d9_58) ?_
      show Go p e below T6 (mkF m 59 #[rv a, iv 1] [(.int 1), (.int 16), (.int 1), (.ref rg)]) _
      refine XS.isub X6.here hx rfl (hb hby d9_59) rfl ?_
      show Go p e below T6 (mkF m 60 #[rv a, iv 1] [(.int 15), (.int 1), (.ref rg)]) _
      refine XS.iand X6.here hx rfl (hb hby d9_60) rfl ?_
      show Go p e below T6 (mkF m 61 #[rv a, iv 1] [(.int 1), (.ref rg)]) _
      refine X6.aaload hx (j := (1 : Int32)) (v := (.ref r)) (by rw [e6]; exact Ar8.1) (State.isArrayOf_alike hZ.alike Ar8.2.1) rfl Ar8.2.2 hin8 (Has.at Ha8 hin8 rfl) (g := (mkF m 61 #[rv a, iv 1] [(.int 1), (.ref rg)])) rfl rfl (hb hby d9_61) _ ?_
      show Go p e below T6 (mkF m 62 #[rv a, iv 1] [(.ref r)]) _
      exact kt)
  obtain ⟨fs, hr, hrun, hended, hW, hsame⟩ := X6.leave (v := some (.ref r)) (fun h => by rw [Bd.returns] at h; cases h)
  refine ⟨_, _, pre9 _ ?_, hrun, hended, _, _, rfl, ?_, ⟨_, rfl⟩, hW, hsame.mono (by decide) (by decide)⟩
  · show Steps p.tables e below (T6.setTop (mkF m 62 #[rv a, iv 1] [(.ref r)])) _
    jvm_step X6.here [X6.here.top, hx, (hb hby d9_62), X6.method', Bd.returns, Value.isRef, FieldType.isReference]
    first | (intro acts; rw [hr _ acts rfl rfl rfl]) | rw [hr _ _ rfl rfl rfl]
    exact Steps.refl _
  · show Q_rmG1_1_1 Z a r rg kr u0 u2 h0 n0 _ T6.heap _
    rw [e6]
    exact ⟨rfl, N2, rfl⟩
def Q_rmG0_3_0 (Z : State) (a : Addr) (r : Addr) (rg : Addr) (kr : ClassId) (u1 : Value) (u2 : Value) (h0 : Heap) (n0 : Nat) (v : Option Value) (h : Heap) (L : List Loc) : Prop := v = some (.ref r) ∧ Fr n0 L ∧ h = h0
set_option maxRecDepth 65536 in
set_option maxHeartbeats 40000000 in
theorem rmG0_3_0 (l : Launch) (Z : State) (a0 : Array Value) (hw : ∀ d ∈ tables_1, d.before a0 Z = true) (ws : List Jvm.Cond) (a : Addr) (r : Addr) (rg : Addr) (kr : ClassId) (u1 : Value) (u2 : Value) (h0 : Heap) (n0 : Nat) (Z0 : n0 ≤ h0.size) (hR : Rg Z h0 a rg kr (0 : Int32) (3 : Int32) (.ref r) u1 u2) :
    MetFree l (⟨"com/example/rowmotif/rowmotif/matcher/PartitionRows", "get", "(I)[Ljava/lang/Object;"⟩ : MethodName) (head1 (Jvm.Cond.code (⟨"com/example/rowmotif/rowmotif/matcher/PartitionRows", "get", "(I)[Ljava/lang/Object;"⟩ : MethodName) prog_78_method_6_code 2 (some (.array (.object "java/lang/Object"))) :: ws) ({ frames := 1, cells := 0, slots := 0, locals := 13 } : Room)) (fun av_ U_ => av_ = #[(.ref a), (.int 0)] ∧ Z.Warmed39 U_.vm ∧ U_.heap = h0) (fun _ _ _ _ _ => True) (fun _ U_ o_ V_ => ∃ v_ L_, o_ = .returned v_ ∧ Q_rmG0_3_0 Z a r rg kr u1 u2 h0 n0 v_ V_.heap L_ ∧ FrameEnd U_ o_ V_ L_ ({ frames := 1, cells := 0, slots := 0, locals := 13 } : Room).cells ({ frames := 1, cells := 0, slots := 0, locals := 13 } : Room).slots) := by
  refine MetFree.of_bodySF (plainFor_of_name pn_com_example_rowmotif_rowmotif_matcher_PartitionRows) hisR ?_
  intro p e s m args below meth c s₁ Bd hml0 hP hK
  obtain ⟨rfl, hZ, hh⟩ := hP
  have hx := Bd.exec
  have hby := Bd.bytes
  have hml : c.maxLocals = 2 := hml0
  have hown : s.vm.findClass "com/example/rowmotif/rowmotif/matcher/PartitionRows" = some m.cls := findClass_of_methodNamed Bd.named
  have hnm := (name_of_methodNamed Bd.named Bd.method).1
  have X0 : Stand p l e ({ frames := 1, cells := 0, slots := 0, locals := 13 } : Room) s m #[(.ref a), (.int 0)] below meth c s₁ [] 0 0 := Stand.of_body Bd
  have e0 : s₁.heap = h0 := by rw [← hh, Bd.state]; rfl
  have N0 := Fr.nil n0
  have pre0 : ∀ t_, Go p e below s₁ (mkF m 0 #[rv a, iv 0] []) t_ → Go p e below s₁ (entryFrame m #[(.ref a), (.int 0)] 2) t_ := fun t_ kt => castTop (ef_9 m a (0 : Int32)) kt
  obtain ⟨E_a, F_ring, F_head, F_count, F_first, F_complete, V_r, O_r, n_ar⟩ := hR
  obtain ⟨T1, X1, e1, st1⟩ := getF X0 hx hZ hown (host := "") (Or.inl (hwi hw 24 rfl)) Via.refl e0 F_first (g := (mkF m 2 #[rv a, iv 0] [(.ref a), (.int 0)])) rfl rfl (hb hby d9_2)
  obtain ⟨cq2, kq2, q2a, q2b, q2c⟩ := isOf hZ e1 E_a
  obtain ⟨_, _, ⟨T2, L2, k2, n2⟩, -, X2, ⟨Lc2, hQ2, l2, y2, z2⟩, st2⟩ := X1.virtualBack hx (y := (⟨"com/example/rowmotif/rowmotif/matcher/PartitionRows", "size", "()I"⟩ : MethodName)) (z := (⟨"com/example/rowmotif/rowmotif/matcher/PartitionRows", "size", "()I"⟩ : MethodName)) hown (mvT hZ (hwi hw 48 rfl)) (mvT hZ (hwi hw 30 rfl)) (notFace_of_selects (args := #[]) (mvT hZ (hwi hw 32 rfl))) (mvT hZ (hwi hw 32 rfl)) (mvT hZ (hwi hw 31 rfl)) (by decide) (backOf (W := 1) (rmZ l Z a0 hw [] a (0 : Int32) (3 : Int32) h0 n0 (Nat.le_trans Z0 (Keep.refl h0 []).1) F_first F_count) hZ (hwi hw 33 rfl) (hwi hw 4 rfl) (by decide) (by decide)) q2a q2c (g := (mkF m 10 #[rv a, iv 0] [(.ref a), (.int 0)])) rfl (by rw [hml]; rfl) (Steps.refl _) (argsL := []) (rest := [(.int 0)]) (lenOf pd_3 rfl) rfl (by show 2 * 0 + _ ≤ _; exact Nat.le_of_eq rfl) (hb hby d9_10) (fun _ _ => ⟨rfl, e1, (by decide : 0 + 0 ≤ _), (by decide : 0 + 0 ≤ _)⟩)
  dsimp only [Pt.U, Pt.locs, Pt.cells, Pt.slots] at X2 l2 y2 z2 st2 hQ2
  subst l2 y2 z2
  obtain ⟨hv2, N2q, e2q⟩ := hQ2
  have N2 := Fr.app N0 N2q
  rw [show ((0 : Int32) + (3 : Int32)) = (3 : Int32) from by decide] at hv2
  subst hv2
  obtain ⟨T3, X3, e3, st3⟩ := getF X2 hx hZ hown (host := "") (Or.inl (hwi hw 13 rfl)) Via.refl e2q F_ring (g := (mkF m 39 #[rv a, iv 0] [(.ref a)])) rfl rfl (hb hby d9_39)
  obtain ⟨T4, X4, e4, st4⟩ := getF X3 hx hZ hown (host := "") (Or.inl (hwi hw 50 rfl)) Via.refl e3 F_head (g := (mkF m 43 #[rv a, iv 0] [(.ref a), (.ref rg)])) rfl rfl (hb hby d9_43)
  obtain ⟨T5, X5, e5, st5⟩ := getF X4 hx hZ hown (host := "") (Or.inl (hwi hw 24 rfl)) Via.refl e4 F_first (g := (mkF m 49 #[rv a, iv 0] [(.ref a), (.int 0), (.ref rg)])) rfl rfl (hb hby d9_49)
  obtain ⟨T6, X6, e6, st6⟩ := getF X5 hx hZ hown (host := "") (Or.inl (hwi hw 13 rfl)) Via.refl e5 F_ring (g := (mkF m 54 #[rv a, iv 0] [(.ref a), (.int 0), (.ref rg)])) rfl rfl (hb hby d9_54)
  obtain ⟨cl7, Ar7, qa7, Sa7, Na7, Ha7, Ga7⟩ := V_r
  have V7 : Arv Z h0 rg kr (.array (.object "java/lang/Object")) (16 : Int32) [(.ref r), u1, u2] .null := ⟨cl7, Ar7, qa7, Sa7, Na7, Ha7, Ga7⟩
  obtain ⟨cl8, Ar8, qa8, Sa8, Na8, Ha8, Ga8⟩ := V7
  have hin8 : ¬ ((0 : Int32) < 0 ∨ cl8.slots.size ≤ ((0 : Int32)).toNatClampNeg) := inb_of Sa8 ⟨by decide, by decide⟩
  have V8 : Arv Z h0 rg kr (.array (.object "java/lang/Object")) (16 : Int32) [(.ref r), u1, u2] .null := ⟨cl8, Ar8, qa8, Sa8, Na8, Ha8, Ga8⟩
  have pre9 : ∀ t_, Go p e below T6 (mkF m 62 #[rv a, iv 0] [(.ref r)]) t_ → Go p e below s₁ (entryFrame m #[(.ref a), (.int 0)] 2) t_ := fun t_ kt => pre0 _ (by
      show Go p e below s₁ (mkF m 0 #[rv a, iv 0] []) _
      refine XS.iloadN X0.here hx rfl (hb hby d9_0) rfl ?_
      show Go p e below s₁ (mkF m 1 #[rv a, iv 0] [(.int 0)]) _
      refine XS.aloadN X0.here hx rfl (hb hby d9_1) rfl rfl ?_
      show Go p e below s₁ (mkF m 2 #[rv a, iv 0] [(.ref a), (.int 0)]) _
      refine st1 _ ?_
      show Go p e below T1 (mkF m 5 #[rv a, iv 0] [(.int 0), (.int 0)]) _
      refine XS.icmpNo X1.here hx rfl (hb hby d9_5) rfl (flt ((by decide) : ¬ ((0 : Int32) < (0 : Int32)))).1 ?_
      show Go p e below T1 (mkF m 8 #[rv a, iv 0] []) _
      refine XS.iloadN X1.here hx rfl (hb hby d9_8) rfl ?_
      show Go p e below T1 (mkF m 9 #[rv a, iv 0] [(.int 0)]) _
      refine XS.aloadN X1.here hx rfl (hb hby d9_9) rfl rfl ?_
      show Go p e below T1 (mkF m 10 #[rv a, iv 0] [(.ref a), (.int 0)]) _
      refine st2.trans ?_
      show Go p e below T2 (mkF m 13 #[rv a, iv 0] [(.int 3), (.int 0)]) _
      refine XS.icmpYes X2.here hx rfl (pc0 := 13) (pc' := 38) rfl (hb hby d9_13) rfl (tlt ((by decide) : (0 : Int32) < (3 : Int32))).1 (by decide) (by decide) ?_
      show Go p e below T2 (mkF m 38 #[rv a, iv 0] []) _
      refine XS.aloadN X2.here hx rfl (hb hby d9_38) rfl rfl ?_
      show Go p e below T2 (mkF m 39 #[rv a, iv 0] [(.ref a)]) _
      refine st3 _ ?_
      show Go p e below T3 (mkF m 42 #[rv a, iv 0] [(.ref rg)]) _
      refine XS.aloadN X3.here hx rfl (hb hby d9_42) rfl rfl ?_
      show Go p e below T3 (mkF m 43 #[rv a, iv 0] [(.ref a), (.ref rg)]) _
      refine st4 _ ?_
      show Go p e below T4 (mkF m 46 #[rv a, iv 0] [(.int 0), (.ref rg)]) _
      refine XS.iloadN X4.here hx rfl (hb hby d9_46) rfl ?_
      show Go p e below T4 (mkF m 47 #[rv a, iv 0] [(.int 0), (.int 0), (.ref rg)]) _
      refine XS.iadd X4.here hx rfl (hb hby d9_47) rfl ?_
      show Go p e below T4 (mkF m 48 #[rv a, iv 0] [(.int 0), (.ref rg)]) _
      refine XS.aloadN X4.here hx rfl (hb hby d9_48) rfl rfl ?_
      show Go p e below T4 (mkF m 49 #[rv a, iv 0] [(.ref a), (.int 0), (.ref rg)]) _
      refine st5 _ ?_
      show Go p e below T5 (mkF m 52 #[rv a, iv 0] [(.int 0), (.int 0), (.ref rg)]) _
      refine XS.isub X5.here hx rfl (hb hby d9_52) rfl ?_
      show Go p e below T5 (mkF m 53 #[rv a, iv 0] [(.int 0), (.ref rg)]) _
      refine XS.aloadN X5.here hx rfl (hb hby d9_53) rfl rfl ?_
      show Go p e below T5 (mkF m 54 #[rv a, iv 0] [(.ref a), (.int 0), (.ref rg)]) _
      refine st6 _ ?_
      show Go p e below T6 (mkF m 57 #[rv a, iv 0] [(.ref rg), (.int 0), (.ref rg)]) _
      refine X6.arraylength hx (by rw [e6]; exact Ar7.1) (State.isArrayOf_alike hZ.alike Ar7.2.1) (g := (mkF m 57 #[rv a, iv 0] [(.ref rg), (.int 0), (.ref rg)])) rfl rfl (hb hby d9_57) _ ?_
      rw [len_of Sa7 Na7]
      show Go p e below T6 (mkF m 58 #[rv a, iv 0] [(.int 16), (.int 0), (.ref rg)]) _
      refine XS.iconst X6.here hx rfl (hb hby d9_58) ?_
      show Go p e below T6 (mkF m 59 #[rv a, iv 0] [(.int 1), (.int 16), (.int 0), (.ref rg)]) _
      refine XS.isub X6.here hx rfl (hb hby d9_59) rfl ?_
      show Go p e below T6 (mkF m 60 #[rv a, iv 0] [(.int 15), (.int 0), (.ref rg)]) _
      refine XS.iand X6.here hx rfl (hb hby d9_60) rfl ?_
      show Go p e below T6 (mkF m 61 #[rv a, iv 0] [(.int 0), (.ref rg)]) _
      refine X6.aaload hx (j := (0 : Int32)) (v := (.ref r)) (by rw [e6]; exact Ar8.1) (State.isArrayOf_alike hZ.alike Ar8.2.1) rfl Ar8.2.2 hin8 (Has.at Ha8 hin8 rfl) (g := (mkF m 61 #[rv a, iv 0] [(.int 0), (.ref rg)])) rfl rfl (hb hby d9_61) _ ?_
      show Go p e below T6 (mkF m 62 #[rv a, iv 0] [(.ref r)]) _
      exact kt)
  obtain ⟨fs, hr, hrun, hended, hW, hsame⟩ := X6.leave (v := some (.ref r)) (fun h => by rw [Bd.returns] at h; cases h)
  refine ⟨_, _, pre9 _ ?_, hrun, hended, _, _, rfl, ?_, ⟨_, rfl⟩, hW, hsame.mono (by decide) (by decide)⟩
  · show Steps p.tables e below (T6.setTop (mkF m 62 #[rv a, iv 0] [(.ref r)])) _
    jvm_step X6.here [X6.here.top, hx, (hb hby d9_62), X6.method', Bd.returns, Value.isRef, FieldType.isReference]
    first | (intro acts; rw [hr _ acts rfl rfl rfl]) | rw [hr _ _ rfl rfl rfl]
    exact Steps.refl _
  · show Q_rmG0_3_0 Z a r rg kr u1 u2 h0 n0 _ T6.heap _
    rw [e6]
    exact ⟨rfl, N2, rfl⟩
def Q_rmG0_3_1 (Z : State) (a : Addr) (r : Addr) (rg : Addr) (kr : ClassId) (u0 : Value) (u2 : Value) (h0 : Heap) (n0 : Nat) (v : Option Value) (h : Heap) (L : List Loc) : Prop := v = some (.ref r) ∧ Fr n0 L ∧ h = h0
set_option maxRecDepth 65536 in
set_option maxHeartbeats 40000000 in
theorem rmG0_3_1 (l : Launch) (Z : State) (a0 : Array Value) (hw : ∀ d ∈ tables_1, d.before a0 Z = true) (ws : List Jvm.Cond) (a : Addr) (r : Addr) (rg : Addr) (kr : ClassId) (u0 : Value) (u2 : Value) (h0 : Heap) (n0 : Nat) (Z0 : n0 ≤ h0.size) (hR : Rg Z h0 a rg kr (0 : Int32) (3 : Int32) u0 (.ref r) u2) :
    MetFree l (⟨"com/example/rowmotif/rowmotif/matcher/PartitionRows", "get", "(I)[Ljava/lang/Object;"⟩ : MethodName) (head1 (Jvm.Cond.code (⟨"com/example/rowmotif/rowmotif/matcher/PartitionRows", "get", "(I)[Ljava/lang/Object;"⟩ : MethodName) prog_78_method_6_code 2 (some (.array (.object "java/lang/Object"))) :: ws) ({ frames := 1, cells := 0, slots := 0, locals := 13 } : Room)) (fun av_ U_ => av_ = #[(.ref a), (.int 1)] ∧ Z.Warmed39 U_.vm ∧ U_.heap = h0) (fun _ _ _ _ _ => True) (fun _ U_ o_ V_ => ∃ v_ L_, o_ = .returned v_ ∧ Q_rmG0_3_1 Z a r rg kr u0 u2 h0 n0 v_ V_.heap L_ ∧ FrameEnd U_ o_ V_ L_ ({ frames := 1, cells := 0, slots := 0, locals := 13 } : Room).cells ({ frames := 1, cells := 0, slots := 0, locals := 13 } : Room).slots) := by
  refine MetFree.of_bodySF (plainFor_of_name pn_com_example_rowmotif_rowmotif_matcher_PartitionRows) hisR ?_
  intro p e s m args below meth c s₁ Bd hml0 hP hK
  obtain ⟨rfl, hZ, hh⟩ := hP
  have hx := Bd.exec
  have hby := Bd.bytes
  have hml : c.maxLocals = 2 := hml0
  have hown : s.vm.findClass "com/example/rowmotif/rowmotif/matcher/PartitionRows" = some m.cls := findClass_of_methodNamed Bd.named
  have hnm := (name_of_methodNamed Bd.named Bd.method).1
  have X0 : Stand p l e ({ frames := 1, cells := 0, slots := 0, locals := 13 } : Room) s m #[(.ref a), (.int 1)] below meth c s₁ [] 0 0 := Stand.of_body Bd
  have e0 : s₁.heap = h0 := by rw [← hh, Bd.state]; rfl
  have N0 := Fr.nil n0
  have pre0 : ∀ t_, Go p e below s₁ (mkF m 0 #[rv a, iv 1] []) t_ → Go p e below s₁ (entryFrame m #[(.ref a), (.int 1)] 2) t_ := fun t_ kt => castTop (ef_9 m a (1 : Int32)) kt
  obtain ⟨E_a, F_ring, F_head, F_count, F_first, F_complete, V_r, O_r, n_ar⟩ := hR
  obtain ⟨T1, X1, e1, st1⟩ := getF X0 hx hZ hown (host := "") (Or.inl (hwi hw 24 rfl)) Via.refl e0 F_first (g := (mkF m 2 #[rv a, iv 1] [(.ref a), (.int 1)])) rfl rfl (hb hby d9_2)
  obtain ⟨cq2, kq2, q2a, q2b, q2c⟩ := isOf hZ e1 E_a
  obtain ⟨_, _, ⟨T2, L2, k2, n2⟩, -, X2, ⟨Lc2, hQ2, l2, y2, z2⟩, st2⟩ := X1.virtualBack hx (y := (⟨"com/example/rowmotif/rowmotif/matcher/PartitionRows", "size", "()I"⟩ : MethodName)) (z := (⟨"com/example/rowmotif/rowmotif/matcher/PartitionRows", "size", "()I"⟩ : MethodName)) hown (mvT hZ (hwi hw 48 rfl)) (mvT hZ (hwi hw 30 rfl)) (notFace_of_selects (args := #[]) (mvT hZ (hwi hw 32 rfl))) (mvT hZ (hwi hw 32 rfl)) (mvT hZ (hwi hw 31 rfl)) (by decide) (backOf (W := 1) (rmZ l Z a0 hw [] a (0 : Int32) (3 : Int32) h0 n0 (Nat.le_trans Z0 (Keep.refl h0 []).1) F_first F_count) hZ (hwi hw 33 rfl) (hwi hw 4 rfl) (by decide) (by decide)) q2a q2c (g := (mkF m 10 #[rv a, iv 1] [(.ref a), (.int 1)])) rfl (by rw [hml]; rfl) (Steps.refl _) (argsL := []) (rest := [(.int 1)]) (lenOf pd_3 rfl) rfl (by show 2 * 0 + _ ≤ _; exact Nat.le_of_eq rfl) (hb hby d9_10) (fun _ _ => ⟨rfl, e1, (by decide : 0 + 0 ≤ _), (by decide : 0 + 0 ≤ _)⟩)
  dsimp only [Pt.U, Pt.locs, Pt.cells, Pt.slots] at X2 l2 y2 z2 st2 hQ2
  subst l2 y2 z2
  obtain ⟨hv2, N2q, e2q⟩ := hQ2
  have N2 := Fr.app N0 N2q
  rw [show ((0 : Int32) + (3 : Int32)) = (3 : Int32) from by decide] at hv2
  subst hv2
  obtain ⟨T3, X3, e3, st3⟩ := getF X2 hx hZ hown (host := "") (Or.inl (hwi hw 13 rfl)) Via.refl e2q F_ring (g := (mkF m 39 #[rv a, iv 1] [(.ref a)])) rfl rfl (hb hby d9_39)
  obtain ⟨T4, X4, e4, st4⟩ := getF X3 hx hZ hown (host := "") (Or.inl (hwi hw 50 rfl)) Via.refl e3 F_head (g := (mkF m 43 #[rv a, iv 1] [(.ref a), (.ref rg)])) rfl rfl (hb hby d9_43)
  obtain ⟨T5, X5, e5, st5⟩ := getF X4 hx hZ hown (host := "") (Or.inl (hwi hw 24 rfl)) Via.refl e4 F_first (g := (mkF m 49 #[rv a, iv 1] [(.ref a), (.int 1), (.ref rg)])) rfl rfl (hb hby d9_49)
  obtain ⟨T6, X6, e6, st6⟩ := getF X5 hx hZ hown (host := "") (Or.inl (hwi hw 13 rfl)) Via.refl e5 F_ring (g := (mkF m 54 #[rv a, iv 1] [(.ref a), (.int 1), (.ref rg)])) rfl rfl (hb hby d9_54)
  obtain ⟨cl7, Ar7, qa7, Sa7, Na7, Ha7, Ga7⟩ := V_r
  have V7 : Arv Z h0 rg kr (.array (.object "java/lang/Object")) (16 : Int32) [u0, (.ref r), u2] .null := ⟨cl7, Ar7, qa7, Sa7, Na7, Ha7, Ga7⟩
  obtain ⟨cl8, Ar8, qa8, Sa8, Na8, Ha8, Ga8⟩ := V7
  have hin8 : ¬ ((1 : Int32) < 0 ∨ cl8.slots.size ≤ ((1 : Int32)).toNatClampNeg) := inb_of Sa8 ⟨by decide, by decide⟩
  have V8 : Arv Z h0 rg kr (.array (.object "java/lang/Object")) (16 : Int32) [u0, (.ref r), u2] .null := ⟨cl8, Ar8, qa8, Sa8, Na8, Ha8, Ga8⟩
  have pre9 : ∀ t_, Go p e below T6 (mkF m 62 #[rv a, iv 1] [(.ref r)]) t_ → Go p e below s₁ (entryFrame m #[(.ref a), (.int 1)] 2) t_ := fun t_ kt => pre0 _ (by
      show Go p e below s₁ (mkF m 0 #[rv a, iv 1] []) _
      refine XS.iloadN X0.here hx rfl (hb hby d9_0) rfl ?_
      show Go p e below s₁ (mkF m 1 #[rv a, iv 1] [(.int 1)]) _
      refine XS.aloadN X0.here hx rfl (hb hby d9_1) rfl rfl ?_
      show Go p e below s₁ (mkF m 2 #[rv a, iv 1] [(.ref a), (.int 1)]) _
      refine st1 _ ?_
      show Go p e below T1 (mkF m 5 #[rv a, iv 1] [(.int 0), (.int 1)]) _
      refine XS.icmpNo X1.here hx rfl (hb hby d9_5) rfl (flt ((by decide) : ¬ ((1 : Int32) < (0 : Int32)))).1 ?_
      show Go p e below T1 (mkF m 8 #[rv a, iv 1] []) _
      refine XS.iloadN X1.here hx rfl (hb hby d9_8) rfl ?_
      show Go p e below T1 (mkF m 9 #[rv a, iv 1] [(.int 1)]) _
      refine XS.aloadN X1.here hx rfl (hb hby d9_9) rfl rfl ?_
      show Go p e below T1 (mkF m 10 #[rv a, iv 1] [(.ref a), (.int 1)]) _
      refine st2.trans ?_
      show Go p e below T2 (mkF m 13 #[rv a, iv 1] [(.int 3), (.int 1)]) _
      refine XS.icmpYes X2.here hx rfl (pc0 := 13) (pc' := 38) rfl (hb hby d9_13) rfl (tlt ((by decide) : (1 : Int32) < (3 : Int32))).1 (by decide) (by decide) ?_
      show Go p e below T2 (mkF m 38 #[rv a, iv 1] []) _
      refine XS.aloadN X2.here hx rfl (hb hby d9_38) rfl rfl ?_
      show Go p e below T2 (mkF m 39 #[rv a, iv 1] [(.ref a)]) _
      refine st3 _ ?_
      show Go p e below T3 (mkF m 42 #[rv a, iv 1] [(.ref rg)]) _
      refine XS.aloadN X3.here hx rfl (hb hby d9_42) rfl rfl ?_
      show Go p e below T3 (mkF m 43 #[rv a, iv 1] [(.ref a), (.ref rg)]) _
      refine st4 _ ?_
      show Go p e below T4 (mkF m 46 #[rv a, iv 1] [(.int 0), (.ref rg)]) _
      refine XS.iloadN X4.here hx rfl (hb hby d9_46) rfl ?_
      show Go p e below T4 (mkF m 47 #[rv a, iv 1] [(.int 1), (.int 0), (.ref rg)]) _
      refine XS.iadd X4.here hx rfl (hb hby d9_47) rfl ?_
      show Go p e below T4 (mkF m 48 #[rv a, iv 1] [(.int 1), (.ref rg)]) _
      refine XS.aloadN X4.here hx rfl (hb hby d9_48) rfl rfl ?_
      show Go p e below T4 (mkF m 49 #[rv a, iv 1] [(.ref a), (.int 1), (.ref rg)]) _
      refine st5 _ ?_
      show Go p e below T5 (mkF m 52 #[rv a, iv 1] [(.int 0), (.int 1), (.ref rg)]) _
      refine XS.isub X5.here hx rfl (hb hby d9_52) rfl ?_
      show Go p e below T5 (mkF m 53 #[rv a, iv 1] [(.int 1), (.ref rg)]) _
      refine XS.aloadN X5.here hx rfl (hb hby d9_53) rfl rfl ?_
      show Go p e below T5 (mkF m 54 #[rv a, iv 1] [(.ref a), (.int 1), (.ref rg)]) _
      refine st6 _ ?_
      show Go p e below T6 (mkF m 57 #[rv a, iv 1] [(.ref rg), (.int 1), (.ref rg)]) _
      refine X6.arraylength hx (by rw [e6]; exact Ar7.1) (State.isArrayOf_alike hZ.alike Ar7.2.1) (g := (mkF m 57 #[rv a, iv 1] [(.ref rg), (.int 1), (.ref rg)])) rfl rfl (hb hby d9_57) _ ?_
      rw [len_of Sa7 Na7]
      show Go p e below T6 (mkF m 58 #[rv a, iv 1] [(.int 16), (.int 1), (.ref rg)]) _
      refine XS.iconst X6.here hx rfl (hb hby d9_58) ?_
      show Go p e below T6 (mkF m 59 #[rv a, iv 1] [(.int 1), (.int 16), (.int 1), (.ref rg)]) _
      refine XS.isub X6.here hx rfl (hb hby d9_59) rfl ?_
      show Go p e below T6 (mkF m 60 #[rv a, iv 1] [(.int 15), (.int 1), (.ref rg)]) _
      refine XS.iand X6.here hx rfl (hb hby d9_60) rfl ?_
      show Go p e below T6 (mkF m 61 #[rv a, iv 1] [(.int 1), (.ref rg)]) _
      refine X6.aaload hx (j := (1 : Int32)) (v := (.ref r)) (by rw [e6]; exact Ar8.1) (State.isArrayOf_alike hZ.alike Ar8.2.1) rfl Ar8.2.2 hin8 (Has.at Ha8 hin8 rfl) (g := (mkF m 61 #[rv a, iv 1] [(.int 1), (.ref rg)])) rfl rfl (hb hby d9_61) _ ?_
      show Go p e below T6 (mkF m 62 #[rv a, iv 1] [(.ref r)]) _
      exact kt)
  obtain ⟨fs, hr, hrun, hended, hW, hsame⟩ := X6.leave (v := some (.ref r)) (fun h => by rw [Bd.returns] at h; cases h)
  refine ⟨_, _, pre9 _ ?_, hrun, hended, _, _, rfl, ?_, ⟨_, rfl⟩, hW, hsame.mono (by decide) (by decide)⟩
  · show Steps p.tables e below (T6.setTop (mkF m 62 #[rv a, iv 1] [(.ref r)])) _
    jvm_step X6.here [X6.here.top, hx, (hb hby d9_62), X6.method', Bd.returns, Value.isRef, FieldType.isReference]
    first | (intro acts; rw [hr _ acts rfl rfl rfl]) | rw [hr _ _ rfl rfl rfl]
    exact Steps.refl _
  · show Q_rmG0_3_1 Z a r rg kr u0 u2 h0 n0 _ T6.heap _
    rw [e6]
    exact ⟨rfl, N2, rfl⟩
def Q_rmG0_3_2 (Z : State) (a : Addr) (r : Addr) (rg : Addr) (kr : ClassId) (u0 : Value) (u1 : Value) (h0 : Heap) (n0 : Nat) (v : Option Value) (h : Heap) (L : List Loc) : Prop := v = some (.ref r) ∧ Fr n0 L ∧ h = h0
set_option maxRecDepth 65536 in
set_option maxHeartbeats 40000000 in
theorem rmG0_3_2 (l : Launch) (Z : State) (a0 : Array Value) (hw : ∀ d ∈ tables_1, d.before a0 Z = true) (ws : List Jvm.Cond) (a : Addr) (r : Addr) (rg : Addr) (kr : ClassId) (u0 : Value) (u1 : Value) (h0 : Heap) (n0 : Nat) (Z0 : n0 ≤ h0.size) (hR : Rg Z h0 a rg kr (0 : Int32) (3 : Int32) u0 u1 (.ref r)) :
    MetFree l (⟨"com/example/rowmotif/rowmotif/matcher/PartitionRows", "get", "(I)[Ljava/lang/Object;"⟩ : MethodName) (head1 (Jvm.Cond.code (⟨"com/example/rowmotif/rowmotif/matcher/PartitionRows", "get", "(I)[Ljava/lang/Object;"⟩ : MethodName) prog_78_method_6_code 2 (some (.array (.object "java/lang/Object"))) :: ws) ({ frames := 1, cells := 0, slots := 0, locals := 13 } : Room)) (fun av_ U_ => av_ = #[(.ref a), (.int 2)] ∧ Z.Warmed39 U_.vm ∧ U_.heap = h0) (fun _ _ _ _ _ => True) (fun _ U_ o_ V_ => ∃ v_ L_, o_ = .returned v_ ∧ Q_rmG0_3_2 Z a r rg kr u0 u1 h0 n0 v_ V_.heap L_ ∧ FrameEnd U_ o_ V_ L_ ({ frames := 1, cells := 0, slots := 0, locals := 13 } : Room).cells ({ frames := 1, cells := 0, slots := 0, locals := 13 } : Room).slots) := by
  refine MetFree.of_bodySF (plainFor_of_name pn_com_example_rowmotif_rowmotif_matcher_PartitionRows) hisR ?_
  intro p e s m args below meth c s₁ Bd hml0 hP hK
  obtain ⟨rfl, hZ, hh⟩ := hP
  have hx := Bd.exec
  have hby := Bd.bytes
  have hml : c.maxLocals = 2 := hml0
  have hown : s.vm.findClass "com/example/rowmotif/rowmotif/matcher/PartitionRows" = some m.cls := findClass_of_methodNamed Bd.named
  have hnm := (name_of_methodNamed Bd.named Bd.method).1
  have X0 : Stand p l e ({ frames := 1, cells := 0, slots := 0, locals := 13 } : Room) s m #[(.ref a), (.int 2)] below meth c s₁ [] 0 0 := Stand.of_body Bd
  have e0 : s₁.heap = h0 := by rw [← hh, Bd.state]; rfl
  have N0 := Fr.nil n0
  have pre0 : ∀ t_, Go p e below s₁ (mkF m 0 #[rv a, iv 2] []) t_ → Go p e below s₁ (entryFrame m #[(.ref a), (.int 2)] 2) t_ := fun t_ kt => castTop (ef_9 m a (2 : Int32)) kt
  obtain ⟨E_a, F_ring, F_head, F_count, F_first, F_complete, V_r, O_r, n_ar⟩ := hR
  obtain ⟨T1, X1, e1, st1⟩ := getF X0 hx hZ hown (host := "") (Or.inl (hwi hw 24 rfl)) Via.refl e0 F_first (g := (mkF m 2 #[rv a, iv 2] [(.ref a), (.int 2)])) rfl rfl (hb hby d9_2)
  obtain ⟨cq2, kq2, q2a, q2b, q2c⟩ := isOf hZ e1 E_a
  obtain ⟨_, _, ⟨T2, L2, k2, n2⟩, -, X2, ⟨Lc2, hQ2, l2, y2, z2⟩, st2⟩ := X1.virtualBack hx (y := (⟨"com/example/rowmotif/rowmotif/matcher/PartitionRows", "size", "()I"⟩ : MethodName)) (z := (⟨"com/example/rowmotif/rowmotif/matcher/PartitionRows", "size", "()I"⟩ : MethodName)) hown (mvT hZ (hwi hw 48 rfl)) (mvT hZ (hwi hw 30 rfl)) (notFace_of_selects (args := #[]) (mvT hZ (hwi hw 32 rfl))) (mvT hZ (hwi hw 32 rfl)) (mvT hZ (hwi hw 31 rfl)) (by decide) (backOf (W := 1) (rmZ l Z a0 hw [] a (0 : Int32) (3 : Int32) h0 n0 (Nat.le_trans Z0 (Keep.refl h0 []).1) F_first F_count) hZ (hwi hw 33 rfl) (hwi hw 4 rfl) (by decide) (by decide)) q2a q2c (g := (mkF m 10 #[rv a, iv 2] [(.ref a), (.int 2)])) rfl (by rw [hml]; rfl) (Steps.refl _) (argsL := []) (rest := [(.int 2)]) (lenOf pd_3 rfl) rfl (by show 2 * 0 + _ ≤ _; exact Nat.le_of_eq rfl) (hb hby d9_10) (fun _ _ => ⟨rfl, e1, (by decide : 0 + 0 ≤ _), (by decide : 0 + 0 ≤ _)⟩)
  dsimp only [Pt.U, Pt.locs, Pt.cells, Pt.slots] at X2 l2 y2 z2 st2 hQ2
  subst l2 y2 z2
  obtain ⟨hv2, N2q, e2q⟩ := hQ2
  have N2 := Fr.app N0 N2q
  rw [show ((0 : Int32) + (3 : Int32)) = (3 : Int32) from by decide] at hv2
  subst hv2
  obtain ⟨T3, X3, e3, st3⟩ := getF X2 hx hZ hown (host := "") (Or.inl (hwi hw 13 rfl)) Via.refl e2q F_ring (g := (mkF m 39 #[rv a, iv 2] [(.ref a)])) rfl rfl (hb hby d9_39)
  obtain ⟨T4, X4, e4, st4⟩ := getF X3 hx hZ hown (host := "") (Or.inl (hwi hw 50 rfl)) Via.refl e3 F_head (g := (mkF m 43 #[rv a, iv 2] [(.ref a), (.ref rg)])) rfl rfl (hb hby d9_43)
  obtain ⟨T5, X5, e5, st5⟩ := getF X4 hx hZ hown (host := "") (Or.inl (hwi hw 24 rfl)) Via.refl e4 F_first (g := (mkF m 49 #[rv a, iv 2] [(.ref a), (.int 2), (.ref rg)])) rfl rfl (hb hby d9_49)
  obtain ⟨T6, X6, e6, st6⟩ := getF X5 hx hZ hown (host := "") (Or.inl (hwi hw 13 rfl)) Via.refl e5 F_ring (g := (mkF m 54 #[rv a, iv 2] [(.ref a), (.int 2), (.ref rg)])) rfl rfl (hb hby d9_54)
  obtain ⟨cl7, Ar7, qa7, Sa7, Na7, Ha7, Ga7⟩ := V_r
  have V7 : Arv Z h0 rg kr (.array (.object "java/lang/Object")) (16 : Int32) [u0, u1, (.ref r)] .null := ⟨cl7, Ar7, qa7, Sa7, Na7, Ha7, Ga7⟩
  obtain ⟨cl8, Ar8, qa8, Sa8, Na8, Ha8, Ga8⟩ := V7
  have hin8 : ¬ ((2 : Int32) < 0 ∨ cl8.slots.size ≤ ((2 : Int32)).toNatClampNeg) := inb_of Sa8 ⟨by decide, by decide⟩
  have V8 : Arv Z h0 rg kr (.array (.object "java/lang/Object")) (16 : Int32) [u0, u1, (.ref r)] .null := ⟨cl8, Ar8, qa8, Sa8, Na8, Ha8, Ga8⟩
  have pre9 : ∀ t_, Go p e below T6 (mkF m 62 #[rv a, iv 2] [(.ref r)]) t_ → Go p e below s₁ (entryFrame m #[(.ref a), (.int 2)] 2) t_ := fun t_ kt => pre0 _ (by
      show Go p e below s₁ (mkF m 0 #[rv a, iv 2] []) _
      refine XS.iloadN X0.here hx rfl (hb hby d9_0) rfl ?_
      show Go p e below s₁ (mkF m 1 #[rv a, iv 2] [(.int 2)]) _
      refine XS.aloadN X0.here hx rfl (hb hby d9_1) rfl rfl ?_
      show Go p e below s₁ (mkF m 2 #[rv a, iv 2] [(.ref a), (.int 2)]) _
      refine st1 _ ?_
      show Go p e below T1 (mkF m 5 #[rv a, iv 2] [(.int 0), (.int 2)]) _
      refine XS.icmpNo X1.here hx rfl (hb hby d9_5) rfl (flt ((by decide) : ¬ ((2 : Int32) < (0 : Int32)))).1 ?_
      show Go p e below T1 (mkF m 8 #[rv a, iv 2] []) _
      refine XS.iloadN X1.here hx rfl (hb hby d9_8) rfl ?_
      show Go p e below T1 (mkF m 9 #[rv a, iv 2] [(.int 2)]) _
      refine XS.aloadN X1.here hx rfl (hb hby d9_9) rfl rfl ?_
      show Go p e below T1 (mkF m 10 #[rv a, iv 2] [(.ref a), (.int 2)]) _
      refine st2.trans ?_
      show Go p e below T2 (mkF m 13 #[rv a, iv 2] [(.int 3), (.int 2)]) _
      refine XS.icmpYes X2.here hx rfl (pc0 := 13) (pc' := 38) rfl (hb hby d9_13) rfl (tlt ((by decide) : (2 : Int32) < (3 : Int32))).1 (by decide) (by decide) ?_
      show Go p e below T2 (mkF m 38 #[rv a, iv 2] []) _
      refine XS.aloadN X2.here hx rfl (hb hby d9_38) rfl rfl ?_
      show Go p e below T2 (mkF m 39 #[rv a, iv 2] [(.ref a)]) _
      refine st3 _ ?_
      show Go p e below T3 (mkF m 42 #[rv a, iv 2] [(.ref rg)]) _
      refine XS.aloadN X3.here hx rfl (hb hby d9_42) rfl rfl ?_
      show Go p e below T3 (mkF m 43 #[rv a, iv 2] [(.ref a), (.ref rg)]) _
      refine st4 _ ?_
      show Go p e below T4 (mkF m 46 #[rv a, iv 2] [(.int 0), (.ref rg)]) _
      refine XS.iloadN X4.here hx rfl (hb hby d9_46) rfl ?_
      show Go p e below T4 (mkF m 47 #[rv a, iv 2] [(.int 2), (.int 0), (.ref rg)]) _
      refine XS.iadd X4.here hx rfl (hb hby d9_47) rfl ?_
      show Go p e below T4 (mkF m 48 #[rv a, iv 2] [(.int 2), (.ref rg)]) _
      refine XS.aloadN X4.here hx rfl (hb hby d9_48) rfl rfl ?_
      show Go p e below T4 (mkF m 49 #[rv a, iv 2] [(.ref a), (.int 2), (.ref rg)]) _
      refine st5 _ ?_
      show Go p e below T5 (mkF m 52 #[rv a, iv 2] [(.int 0), (.int 2), (.ref rg)]) _
      refine XS.isub X5.here hx rfl (hb hby d9_52) rfl ?_
      show Go p e below T5 (mkF m 53 #[rv a, iv 2] [(.int 2), (.ref rg)]) _
      refine XS.aloadN X5.here hx rfl (hb hby d9_53) rfl rfl ?_
      show Go p e below T5 (mkF m 54 #[rv a, iv 2] [(.ref a), (.int 2), (.ref rg)]) _
      refine st6 _ ?_
      show Go p e below T6 (mkF m 57 #[rv a, iv 2] [(.ref rg), (.int 2), (.ref rg)]) _
      refine X6.arraylength hx (by rw [e6]; exact Ar7.1) (State.isArrayOf_alike hZ.alike Ar7.2.1) (g := (mkF m 57 #[rv a, iv 2] [(.ref rg), (.int 2), (.ref rg)])) rfl rfl (hb hby d9_57) _ ?_
      rw [len_of Sa7 Na7]
      show Go p e below T6 (mkF m 58 #[rv a, iv 2] [(.int 16), (.int 2), (.ref rg)]) _
      refine XS.iconst X6.here hx rfl (hb hby d9_58) ?_
      show Go p e below T6 (mkF m 59 #[rv a, iv 2] [(.int 1), (.int 16), (.int 2), (.ref rg)]) _
      refine XS.isub X6.here hx rfl (hb hby d9_59) rfl ?_
      show Go p e below T6 (mkF m 60 #[rv a, iv 2] [(.int 15), (.int 2), (.ref rg)]) _
      refine XS.iand X6.here hx rfl (hb hby d9_60) rfl ?_
      show Go p e below T6 (mkF m 61 #[rv a, iv 2] [(.int 2), (.ref rg)]) _
      refine X6.aaload hx (j := (2 : Int32)) (v := (.ref r)) (by rw [e6]; exact Ar8.1) (State.isArrayOf_alike hZ.alike Ar8.2.1) rfl Ar8.2.2 hin8 (Has.at Ha8 hin8 rfl) (g := (mkF m 61 #[rv a, iv 2] [(.int 2), (.ref rg)])) rfl rfl (hb hby d9_61) _ ?_
      show Go p e below T6 (mkF m 62 #[rv a, iv 2] [(.ref r)]) _
      exact kt)
  obtain ⟨fs, hr, hrun, hended, hW, hsame⟩ := X6.leave (v := some (.ref r)) (fun h => by rw [Bd.returns] at h; cases h)
  refine ⟨_, _, pre9 _ ?_, hrun, hended, _, _, rfl, ?_, ⟨_, rfl⟩, hW, hsame.mono (by decide) (by decide)⟩
  · show Steps p.tables e below (T6.setTop (mkF m 62 #[rv a, iv 2] [(.ref r)])) _
    jvm_step X6.here [X6.here.top, hx, (hb hby d9_62), X6.method', Bd.returns, Value.isRef, FieldType.isReference]
    first | (intro acts; rw [hr _ acts rfl rfl rfl]) | rw [hr _ _ rfl rfl rfl]
    exact Steps.refl _
  · show Q_rmG0_3_2 Z a r rg kr u0 u1 h0 n0 _ T6.heap _
    rw [e6]
    exact ⟨rfl, N2, rfl⟩
def Q_rmG1_2_1 (Z : State) (a : Addr) (r : Addr) (rg : Addr) (kr : ClassId) (u0 : Value) (u2 : Value) (h0 : Heap) (n0 : Nat) (v : Option Value) (h : Heap) (L : List Loc) : Prop := v = some (.ref r) ∧ Fr n0 L ∧ h = h0
set_option maxRecDepth 65536 in
set_option maxHeartbeats 40000000 in
theorem rmG1_2_1 (l : Launch) (Z : State) (a0 : Array Value) (hw : ∀ d ∈ tables_1, d.before a0 Z = true) (ws : List Jvm.Cond) (a : Addr) (r : Addr) (rg : Addr) (kr : ClassId) (u0 : Value) (u2 : Value) (h0 : Heap) (n0 : Nat) (Z0 : n0 ≤ h0.size) (hR : Rg Z h0 a rg kr (1 : Int32) (2 : Int32) u0 (.ref r) u2) :
    MetFree l (⟨"com/example/rowmotif/rowmotif/matcher/PartitionRows", "get", "(I)[Ljava/lang/Object;"⟩ : MethodName) (head1 (Jvm.Cond.code (⟨"com/example/rowmotif/rowmotif/matcher/PartitionRows", "get", "(I)[Ljava/lang/Object;"⟩ : MethodName) prog_78_method_6_code 2 (some (.array (.object "java/lang/Object"))) :: ws) ({ frames := 1, cells := 0, slots := 0, locals := 13 } : Room)) (fun av_ U_ => av_ = #[(.ref a), (.int 1)] ∧ Z.Warmed39 U_.vm ∧ U_.heap = h0) (fun _ _ _ _ _ => True) (fun _ U_ o_ V_ => ∃ v_ L_, o_ = .returned v_ ∧ Q_rmG1_2_1 Z a r rg kr u0 u2 h0 n0 v_ V_.heap L_ ∧ FrameEnd U_ o_ V_ L_ ({ frames := 1, cells := 0, slots := 0, locals := 13 } : Room).cells ({ frames := 1, cells := 0, slots := 0, locals := 13 } : Room).slots) := by
  refine MetFree.of_bodySF (plainFor_of_name pn_com_example_rowmotif_rowmotif_matcher_PartitionRows) hisR ?_
  intro p e s m args below meth c s₁ Bd hml0 hP hK
  obtain ⟨rfl, hZ, hh⟩ := hP
  have hx := Bd.exec
  have hby := Bd.bytes
  have hml : c.maxLocals = 2 := hml0
  have hown : s.vm.findClass "com/example/rowmotif/rowmotif/matcher/PartitionRows" = some m.cls := findClass_of_methodNamed Bd.named
  have hnm := (name_of_methodNamed Bd.named Bd.method).1
  have X0 : Stand p l e ({ frames := 1, cells := 0, slots := 0, locals := 13 } : Room) s m #[(.ref a), (.int 1)] below meth c s₁ [] 0 0 := Stand.of_body Bd
  have e0 : s₁.heap = h0 := by rw [← hh, Bd.state]; rfl
  have N0 := Fr.nil n0
  have pre0 : ∀ t_, Go p e below s₁ (mkF m 0 #[rv a, iv 1] []) t_ → Go p e below s₁ (entryFrame m #[(.ref a), (.int 1)] 2) t_ := fun t_ kt => castTop (ef_9 m a (1 : Int32)) kt
  obtain ⟨E_a, F_ring, F_head, F_count, F_first, F_complete, V_r, O_r, n_ar⟩ := hR
  obtain ⟨T1, X1, e1, st1⟩ := getF X0 hx hZ hown (host := "") (Or.inl (hwi hw 24 rfl)) Via.refl e0 F_first (g := (mkF m 2 #[rv a, iv 1] [(.ref a), (.int 1)])) rfl rfl (hb hby d9_2)
  obtain ⟨cq2, kq2, q2a, q2b, q2c⟩ := isOf hZ e1 E_a
  obtain ⟨_, _, ⟨T2, L2, k2, n2⟩, -, X2, ⟨Lc2, hQ2, l2, y2, z2⟩, st2⟩ := X1.virtualBack hx (y := (⟨"com/example/rowmotif/rowmotif/matcher/PartitionRows", "size", "()I"⟩ : MethodName)) (z := (⟨"com/example/rowmotif/rowmotif/matcher/PartitionRows", "size", "()I"⟩ : MethodName)) hown (mvT hZ (hwi hw 48 rfl)) (mvT hZ (hwi hw 30 rfl)) (notFace_of_selects (args := #[]) (mvT hZ (hwi hw 32 rfl))) (mvT hZ (hwi hw 32 rfl)) (mvT hZ (hwi hw 31 rfl)) (by decide) (backOf (W := 1) (rmZ l Z a0 hw [] a (1 : Int32) (2 : Int32) h0 n0 (Nat.le_trans Z0 (Keep.refl h0 []).1) F_first F_count) hZ (hwi hw 33 rfl) (hwi hw 4 rfl) (by decide) (by decide)) q2a q2c (g := (mkF m 10 #[rv a, iv 1] [(.ref a), (.int 1)])) rfl (by rw [hml]; rfl) (Steps.refl _) (argsL := []) (rest := [(.int 1)]) (lenOf pd_3 rfl) rfl (by show 2 * 0 + _ ≤ _; exact Nat.le_of_eq rfl) (hb hby d9_10) (fun _ _ => ⟨rfl, e1, (by decide : 0 + 0 ≤ _), (by decide : 0 + 0 ≤ _)⟩)
  dsimp only [Pt.U, Pt.locs, Pt.cells, Pt.slots] at X2 l2 y2 z2 st2 hQ2
  subst l2 y2 z2
  obtain ⟨hv2, N2q, e2q⟩ := hQ2
  have N2 := Fr.app N0 N2q
  rw [show ((1 : Int32) + (2 : Int32)) = (3 : Int32) from by decide] at hv2
  subst hv2
  obtain ⟨T3, X3, e3, st3⟩ := getF X2 hx hZ hown (host := "") (Or.inl (hwi hw 13 rfl)) Via.refl e2q F_ring (g := (mkF m 39 #[rv a, iv 1] [(.ref a)])) rfl rfl (hb hby d9_39)
  obtain ⟨T4, X4, e4, st4⟩ := getF X3 hx hZ hown (host := "") (Or.inl (hwi hw 50 rfl)) Via.refl e3 F_head (g := (mkF m 43 #[rv a, iv 1] [(.ref a), (.ref rg)])) rfl rfl (hb hby d9_43)
  obtain ⟨T5, X5, e5, st5⟩ := getF X4 hx hZ hown (host := "") (Or.inl (hwi hw 24 rfl)) Via.refl e4 F_first (g := (mkF m 49 #[rv a, iv 1] [(.ref a), (.int 2), (.ref rg)])) rfl rfl (hb hby d9_49)
  obtain ⟨T6, X6, e6, st6⟩ := getF X5 hx hZ hown (host := "") (Or.inl (hwi hw 13 rfl)) Via.refl e5 F_ring (g := (mkF m 54 #[rv a, iv 1] [(.ref a), (.int 1), (.ref rg)])) rfl rfl (hb hby d9_54)
  obtain ⟨cl7, Ar7, qa7, Sa7, Na7, Ha7, Ga7⟩ := V_r
  have V7 : Arv Z h0 rg kr (.array (.object "java/lang/Object")) (16 : Int32) [u0, (.ref r), u2] .null := ⟨cl7, Ar7, qa7, Sa7, Na7, Ha7, Ga7⟩
  obtain ⟨cl8, Ar8, qa8, Sa8, Na8, Ha8, Ga8⟩ := V7
  have hin8 : ¬ ((1 : Int32) < 0 ∨ cl8.slots.size ≤ ((1 : Int32)).toNatClampNeg) := inb_of Sa8 ⟨by decide, by decide⟩
  have V8 : Arv Z h0 rg kr (.array (.object "java/lang/Object")) (16 : Int32) [u0, (.ref r), u2] .null := ⟨cl8, Ar8, qa8, Sa8, Na8, Ha8, Ga8⟩
  have pre9 : ∀ t_, Go p e below T6 (mkF m 62 #[rv a, iv 1] [(.ref r)]) t_ → Go p e below s₁ (entryFrame m #[(.ref a), (.int 1)] 2) t_ := fun t_ kt => pre0 _ (by
      show Go p e below s₁ (mkF m 0 #[rv a, iv 1] []) _
      refine XS.iloadN X0.here hx rfl (hb hby d9_0) rfl ?_
      show Go p e below s₁ (mkF m 1 #[rv a, iv 1] [(.int 1)]) _
      refine XS.aloadN X0.here hx rfl (hb hby d9_1) rfl rfl ?_
      show Go p e below s₁ (mkF m 2 #[rv a, iv 1] [(.ref a), (.int 1)]) _
      refine st1 _ ?_
      show Go p e below T1 (mkF m 5 #[rv a, iv 1] [(.int 1), (.int 1)]) _
      refine XS.icmpNo X1.here hx rfl (hb hby d9_5) rfl (flt ((by decide) : ¬ ((1 : Int32) < (1 : Int32)))).1 ?_
      show Go p e below T1 (mkF m 8 #[rv a, iv 1] []) _
      refine XS.iloadN X1.here hx rfl (hb hby d9_8) rfl ?_
      show Go p e below T1 (mkF m 9 #[rv a, iv 1] [(.int 1)]) _
      refine XS.aloadN X1.here hx rfl (hb hby d9_9) rfl rfl ?_
      show Go p e below T1 (mkF m 10 #[rv a, iv 1] [(.ref a), (.int 1)]) _
      refine st2.trans ?_
      show Go p e below T2 (mkF m 13 #[rv a, iv 1] [(.int 3), (.int 1)]) _
      refine XS.icmpYes X2.here hx rfl (pc0 := 13) (pc' := 38) rfl (hb hby d9_13) rfl (tlt ((by decide) : (1 : Int32) < (3 : Int32))).1 (by decide) (by decide) ?_
      show Go p e below T2 (mkF m 38 #[rv a, iv 1] []) _
      refine XS.aloadN X2.here hx rfl (hb hby d9_38) rfl rfl ?_
      show Go p e below T2 (mkF m 39 #[rv a, iv 1] [(.ref a)]) _
      refine st3 _ ?_
      show Go p e below T3 (mkF m 42 #[rv a, iv 1] [(.ref rg)]) _
      refine XS.aloadN X3.here hx rfl (hb hby d9_42) rfl rfl ?_
      show Go p e below T3 (mkF m 43 #[rv a, iv 1] [(.ref a), (.ref rg)]) _
      refine st4 _ ?_
      show Go p e below T4 (mkF m 46 #[rv a, iv 1] [(.int 1), (.ref rg)]) _
      refine XS.iloadN X4.here hx rfl (hb hby d9_46) rfl ?_
      show Go p e below T4 (mkF m 47 #[rv a, iv 1] [(.int 1), (.int 1), (.ref rg)]) _
      refine XS.iadd X4.here hx rfl (hb hby d9_47) rfl ?_
      show Go p e below T4 (mkF m 48 #[rv a, iv 1] [(.int 2), (.ref rg)]) _
      refine XS.aloadN X4.here hx rfl (hb hby d9_48) rfl rfl ?_
      show Go p e below T4 (mkF m 49 #[rv a, iv 1] [(.ref a), (.int 2), (.ref rg)]) _
      refine st5 _ ?_
      show Go p e below T5 (mkF m 52 #[rv a, iv 1] [(.int 1), (.int 2), (.ref rg)]) _
      refine XS.isub X5.here hx rfl (hb hby d9_52) rfl ?_
      show Go p e below T5 (mkF m 53 #[rv a, iv 1] [(.int 1), (.ref rg)]) _
      refine XS.aloadN X5.here hx rfl (hb hby d9_53) rfl rfl ?_
      show Go p e below T5 (mkF m 54 #[rv a, iv 1] [(.ref a), (.int 1), (.ref rg)]) _
      refine st6 _ ?_
      show Go p e below T6 (mkF m 57 #[rv a, iv 1] [(.ref rg), (.int 1), (.ref rg)]) _
      refine X6.arraylength hx (by rw [e6]; exact Ar7.1) (State.isArrayOf_alike hZ.alike Ar7.2.1) (g := (mkF m 57 #[rv a, iv 1] [(.ref rg), (.int 1), (.ref rg)])) rfl rfl (hb hby d9_57) _ ?_
      rw [len_of Sa7 Na7]
      show Go p e below T6 (mkF m 58 #[rv a, iv 1] [(.int 16), (.int 1), (.ref rg)]) _
      refine XS.iconst X6.here hx rfl (hb hby d9_58) ?_
      show Go p e below T6 (mkF m 59 #[rv a, iv 1] [(.int 1), (.int 16), (.int 1), (.ref rg)]) _
      refine XS.isub X6.here hx rfl (hb hby d9_59) rfl ?_
      show Go p e below T6 (mkF m 60 #[rv a, iv 1] [(.int 15), (.int 1), (.ref rg)]) _
      refine XS.iand X6.here hx rfl (hb hby d9_60) rfl ?_
      show Go p e below T6 (mkF m 61 #[rv a, iv 1] [(.int 1), (.ref rg)]) _
      refine X6.aaload hx (j := (1 : Int32)) (v := (.ref r)) (by rw [e6]; exact Ar8.1) (State.isArrayOf_alike hZ.alike Ar8.2.1) rfl Ar8.2.2 hin8 (Has.at Ha8 hin8 rfl) (g := (mkF m 61 #[rv a, iv 1] [(.int 1), (.ref rg)])) rfl rfl (hb hby d9_61) _ ?_
      show Go p e below T6 (mkF m 62 #[rv a, iv 1] [(.ref r)]) _
      exact kt)
  obtain ⟨fs, hr, hrun, hended, hW, hsame⟩ := X6.leave (v := some (.ref r)) (fun h => by rw [Bd.returns] at h; cases h)
  refine ⟨_, _, pre9 _ ?_, hrun, hended, _, _, rfl, ?_, ⟨_, rfl⟩, hW, hsame.mono (by decide) (by decide)⟩
  · show Steps p.tables e below (T6.setTop (mkF m 62 #[rv a, iv 1] [(.ref r)])) _
    jvm_step X6.here [X6.here.top, hx, (hb hby d9_62), X6.method', Bd.returns, Value.isRef, FieldType.isReference]
    first | (intro acts; rw [hr _ acts rfl rfl rfl]) | rw [hr _ _ rfl rfl rfl]
    exact Steps.refl _
  · show Q_rmG1_2_1 Z a r rg kr u0 u2 h0 n0 _ T6.heap _
    rw [e6]
    exact ⟨rfl, N2, rfl⟩
def Q_rmG1_2_2 (Z : State) (a : Addr) (r : Addr) (rg : Addr) (kr : ClassId) (u0 : Value) (u1 : Value) (h0 : Heap) (n0 : Nat) (v : Option Value) (h : Heap) (L : List Loc) : Prop := v = some (.ref r) ∧ Fr n0 L ∧ h = h0
set_option maxRecDepth 65536 in
set_option maxHeartbeats 40000000 in
theorem rmG1_2_2 (l : Launch) (Z : State) (a0 : Array Value) (hw : ∀ d ∈ tables_1, d.before a0 Z = true) (ws : List Jvm.Cond) (a : Addr) (r : Addr) (rg : Addr) (kr : ClassId) (u0 : Value) (u1 : Value) (h0 : Heap) (n0 : Nat) (Z0 : n0 ≤ h0.size) (hR : Rg Z h0 a rg kr (1 : Int32) (2 : Int32) u0 u1 (.ref r)) :
    MetFree l (⟨"com/example/rowmotif/rowmotif/matcher/PartitionRows", "get", "(I)[Ljava/lang/Object;"⟩ : MethodName) (head1 (Jvm.Cond.code (⟨"com/example/rowmotif/rowmotif/matcher/PartitionRows", "get", "(I)[Ljava/lang/Object;"⟩ : MethodName) prog_78_method_6_code 2 (some (.array (.object "java/lang/Object"))) :: ws) ({ frames := 1, cells := 0, slots := 0, locals := 13 } : Room)) (fun av_ U_ => av_ = #[(.ref a), (.int 2)] ∧ Z.Warmed39 U_.vm ∧ U_.heap = h0) (fun _ _ _ _ _ => True) (fun _ U_ o_ V_ => ∃ v_ L_, o_ = .returned v_ ∧ Q_rmG1_2_2 Z a r rg kr u0 u1 h0 n0 v_ V_.heap L_ ∧ FrameEnd U_ o_ V_ L_ ({ frames := 1, cells := 0, slots := 0, locals := 13 } : Room).cells ({ frames := 1, cells := 0, slots := 0, locals := 13 } : Room).slots) := by
  refine MetFree.of_bodySF (plainFor_of_name pn_com_example_rowmotif_rowmotif_matcher_PartitionRows) hisR ?_
  intro p e s m args below meth c s₁ Bd hml0 hP hK
  obtain ⟨rfl, hZ, hh⟩ := hP
  have hx := Bd.exec
  have hby := Bd.bytes
  have hml : c.maxLocals = 2 := hml0
  have hown : s.vm.findClass "com/example/rowmotif/rowmotif/matcher/PartitionRows" = some m.cls := findClass_of_methodNamed Bd.named
  have hnm := (name_of_methodNamed Bd.named Bd.method).1
  have X0 : Stand p l e ({ frames := 1, cells := 0, slots := 0, locals := 13 } : Room) s m #[(.ref a), (.int 2)] below meth c s₁ [] 0 0 := Stand.of_body Bd
  have e0 : s₁.heap = h0 := by rw [← hh, Bd.state]; rfl
  have N0 := Fr.nil n0
  have pre0 : ∀ t_, Go p e below s₁ (mkF m 0 #[rv a, iv 2] []) t_ → Go p e below s₁ (entryFrame m #[(.ref a), (.int 2)] 2) t_ := fun t_ kt => castTop (ef_9 m a (2 : Int32)) kt
  obtain ⟨E_a, F_ring, F_head, F_count, F_first, F_complete, V_r, O_r, n_ar⟩ := hR
  obtain ⟨T1, X1, e1, st1⟩ := getF X0 hx hZ hown (host := "") (Or.inl (hwi hw 24 rfl)) Via.refl e0 F_first (g := (mkF m 2 #[rv a, iv 2] [(.ref a), (.int 2)])) rfl rfl (hb hby d9_2)
  obtain ⟨cq2, kq2, q2a, q2b, q2c⟩ := isOf hZ e1 E_a
  obtain ⟨_, _, ⟨T2, L2, k2, n2⟩, -, X2, ⟨Lc2, hQ2, l2, y2, z2⟩, st2⟩ := X1.virtualBack hx (y := (⟨"com/example/rowmotif/rowmotif/matcher/PartitionRows", "size", "()I"⟩ : MethodName)) (z := (⟨"com/example/rowmotif/rowmotif/matcher/PartitionRows", "size", "()I"⟩ : MethodName)) hown (mvT hZ (hwi hw 48 rfl)) (mvT hZ (hwi hw 30 rfl)) (notFace_of_selects (args := #[]) (mvT hZ (hwi hw 32 rfl))) (mvT hZ (hwi hw 32 rfl)) (mvT hZ (hwi hw 31 rfl)) (by decide) (backOf (W := 1) (rmZ l Z a0 hw [] a (1 : Int32) (2 : Int32) h0 n0 (Nat.le_trans Z0 (Keep.refl h0 []).1) F_first F_count) hZ (hwi hw 33 rfl) (hwi hw 4 rfl) (by decide) (by decide)) q2a q2c (g := (mkF m 10 #[rv a, iv 2] [(.ref a), (.int 2)])) rfl (by rw [hml]; rfl) (Steps.refl _) (argsL := []) (rest := [(.int 2)]) (lenOf pd_3 rfl) rfl (by show 2 * 0 + _ ≤ _; exact Nat.le_of_eq rfl) (hb hby d9_10) (fun _ _ => ⟨rfl, e1, (by decide : 0 + 0 ≤ _), (by decide : 0 + 0 ≤ _)⟩)
  dsimp only [Pt.U, Pt.locs, Pt.cells, Pt.slots] at X2 l2 y2 z2 st2 hQ2
  subst l2 y2 z2
  obtain ⟨hv2, N2q, e2q⟩ := hQ2
  have N2 := Fr.app N0 N2q
  rw [show ((1 : Int32) + (2 : Int32)) = (3 : Int32) from by decide] at hv2
  subst hv2
  obtain ⟨T3, X3, e3, st3⟩ := getF X2 hx hZ hown (host := "") (Or.inl (hwi hw 13 rfl)) Via.refl e2q F_ring (g := (mkF m 39 #[rv a, iv 2] [(.ref a)])) rfl rfl (hb hby d9_39)
  obtain ⟨T4, X4, e4, st4⟩ := getF X3 hx hZ hown (host := "") (Or.inl (hwi hw 50 rfl)) Via.refl e3 F_head (g := (mkF m 43 #[rv a, iv 2] [(.ref a), (.ref rg)])) rfl rfl (hb hby d9_43)
  obtain ⟨T5, X5, e5, st5⟩ := getF X4 hx hZ hown (host := "") (Or.inl (hwi hw 24 rfl)) Via.refl e4 F_first (g := (mkF m 49 #[rv a, iv 2] [(.ref a), (.int 3), (.ref rg)])) rfl rfl (hb hby d9_49)
  obtain ⟨T6, X6, e6, st6⟩ := getF X5 hx hZ hown (host := "") (Or.inl (hwi hw 13 rfl)) Via.refl e5 F_ring (g := (mkF m 54 #[rv a, iv 2] [(.ref a), (.int 2), (.ref rg)])) rfl rfl (hb hby d9_54)
  obtain ⟨cl7, Ar7, qa7, Sa7, Na7, Ha7, Ga7⟩ := V_r
  have V7 : Arv Z h0 rg kr (.array (.object "java/lang/Object")) (16 : Int32) [u0, u1, (.ref r)] .null := ⟨cl7, Ar7, qa7, Sa7, Na7, Ha7, Ga7⟩
  obtain ⟨cl8, Ar8, qa8, Sa8, Na8, Ha8, Ga8⟩ := V7
  have hin8 : ¬ ((2 : Int32) < 0 ∨ cl8.slots.size ≤ ((2 : Int32)).toNatClampNeg) := inb_of Sa8 ⟨by decide, by decide⟩
  have V8 : Arv Z h0 rg kr (.array (.object "java/lang/Object")) (16 : Int32) [u0, u1, (.ref r)] .null := ⟨cl8, Ar8, qa8, Sa8, Na8, Ha8, Ga8⟩
  have pre9 : ∀ t_, Go p e below T6 (mkF m 62 #[rv a, iv 2] [(.ref r)]) t_ → Go p e below s₁ (entryFrame m #[(.ref a), (.int 2)] 2) t_ := fun t_ kt => pre0 _ (by
      show Go p e below s₁ (mkF m 0 #[rv a, iv 2] []) _
      refine XS.iloadN X0.here hx rfl (hb hby d9_0) rfl ?_
      show Go p e below s₁ (mkF m 1 #[rv a, iv 2] [(.int 2)]) _
      refine XS.aloadN X0.here hx rfl (hb hby d9_1) rfl rfl ?_
      show Go p e below s₁ (mkF m 2 #[rv a, iv 2] [(.ref a), (.int 2)]) _
      refine st1 _ ?_
      show Go p e below T1 (mkF m 5 #[rv a, iv 2] [(.int 1), (.int 2)]) _
      refine XS.icmpNo X1.here hx rfl (hb hby d9_5) rfl (flt ((by decide) : ¬ ((2 : Int32) < (1 : Int32)))).1 ?_
      show Go p e below T1 (mkF m 8 #[rv a, iv 2] []) _
      refine XS.iloadN X1.here hx rfl (hb hby d9_8) rfl ?_
      show Go p e below T1 (mkF m 9 #[rv a, iv 2] [(.int 2)]) _
      refine XS.aloadN X1.here hx rfl (hb hby d9_9) rfl rfl ?_
      show Go p e below T1 (mkF m 10 #[rv a, iv 2] [(.ref a), (.int 2)]) _
      refine st2.trans ?_
      show Go p e below T2 (mkF m 13 #[rv a, iv 2] [(.int 3), (.int 2)]) _
      refine XS.icmpYes X2.here hx rfl (pc0 := 13) (pc' := 38) rfl (hb hby d9_13) rfl (tlt ((by decide) : (2 : Int32) < (3 : Int32))).1 (by decide) (by decide) ?_
      show Go p e below T2 (mkF m 38 #[rv a, iv 2] []) _
      refine XS.aloadN X2.here hx rfl (hb hby d9_38) rfl rfl ?_
      show Go p e below T2 (mkF m 39 #[rv a, iv 2] [(.ref a)]) _
      refine st3 _ ?_
      show Go p e below T3 (mkF m 42 #[rv a, iv 2] [(.ref rg)]) _
      refine XS.aloadN X3.here hx rfl (hb hby d9_42) rfl rfl ?_
      show Go p e below T3 (mkF m 43 #[rv a, iv 2] [(.ref a), (.ref rg)]) _
      refine st4 _ ?_
      show Go p e below T4 (mkF m 46 #[rv a, iv 2] [(.int 1), (.ref rg)]) _
      refine XS.iloadN X4.here hx rfl (hb hby d9_46) rfl ?_
      show Go p e below T4 (mkF m 47 #[rv a, iv 2] [(.int 2), (.int 1), (.ref rg)]) _
      refine XS.iadd X4.here hx rfl (hb hby d9_47) rfl ?_
      show Go p e below T4 (mkF m 48 #[rv a, iv 2] [(.int 3), (.ref rg)]) _
      refine XS.aloadN X4.here hx rfl (hb hby d9_48) rfl rfl ?_
      show Go p e below T4 (mkF m 49 #[rv a, iv 2] [(.ref a), (.int 3), (.ref rg)]) _
      refine st5 _ ?_
      show Go p e below T5 (mkF m 52 #[rv a, iv 2] [(.int 1), (.int 3), (.ref rg)]) _
      refine XS.isub X5.here hx rfl (hb hby d9_52) rfl ?_
      show Go p e below T5 (mkF m 53 #[rv a, iv 2] [(.int 2), (.ref rg)]) _
      refine XS.aloadN X5.here hx rfl (hb hby d9_53) rfl rfl ?_
      show Go p e below T5 (mkF m 54 #[rv a, iv 2] [(.ref a), (.int 2), (.ref rg)]) _
      refine st6 _ ?_
      show Go p e below T6 (mkF m 57 #[rv a, iv 2] [(.ref rg), (.int 2), (.ref rg)]) _
      refine X6.arraylength hx (by rw [e6]; exact Ar7.1) (State.isArrayOf_alike hZ.alike Ar7.2.1) (g := (mkF m 57 #[rv a, iv 2] [(.ref rg), (.int 2), (.ref rg)])) rfl rfl (hb hby d9_57) _ ?_
      rw [len_of Sa7 Na7]
      show Go p e below T6 (mkF m 58 #[rv a, iv 2] [(.int 16), (.int 2), (.ref rg)]) _
      refine XS.iconst X6.here hx rfl (hb hby d9_58) ?_
      show Go p e below T6 (mkF m 59 #[rv a, iv 2] [(.int 1), (.int 16), (.int 2), (.ref rg)]) _
      refine XS.isub X6.here hx rfl (hb hby d9_59) rfl ?_
      show Go p e below T6 (mkF m 60 #[rv a, iv 2] [(.int 15), (.int 2), (.ref rg)]) _
      refine XS.iand X6.here hx rfl (hb hby d9_60) rfl ?_
      show Go p e below T6 (mkF m 61 #[rv a, iv 2] [(.int 2), (.ref rg)]) _
      refine X6.aaload hx (j := (2 : Int32)) (v := (.ref r)) (by rw [e6]; exact Ar8.1) (State.isArrayOf_alike hZ.alike Ar8.2.1) rfl Ar8.2.2 hin8 (Has.at Ha8 hin8 rfl) (g := (mkF m 61 #[rv a, iv 2] [(.int 2), (.ref rg)])) rfl rfl (hb hby d9_61) _ ?_
      show Go p e below T6 (mkF m 62 #[rv a, iv 2] [(.ref r)]) _
      exact kt)
  obtain ⟨fs, hr, hrun, hended, hW, hsame⟩ := X6.leave (v := some (.ref r)) (fun h => by rw [Bd.returns] at h; cases h)
  refine ⟨_, _, pre9 _ ?_, hrun, hended, _, _, rfl, ?_, ⟨_, rfl⟩, hW, hsame.mono (by decide) (by decide)⟩
  · show Steps p.tables e below (T6.setTop (mkF m 62 #[rv a, iv 2] [(.ref r)])) _
    jvm_step X6.here [X6.here.top, hx, (hb hby d9_62), X6.method', Bd.returns, Value.isRef, FieldType.isReference]
    first | (intro acts; rw [hr _ acts rfl rfl rfl]) | rw [hr _ _ rfl rfl rfl]
    exact Steps.refl _
  · show Q_rmG1_2_2 Z a r rg kr u0 u1 h0 n0 _ T6.heap _
    rw [e6]
    exact ⟨rfl, N2, rfl⟩
def Q_rmG2_1_2 (Z : State) (a : Addr) (r : Addr) (rg : Addr) (kr : ClassId) (u0 : Value) (u1 : Value) (h0 : Heap) (n0 : Nat) (v : Option Value) (h : Heap) (L : List Loc) : Prop := v = some (.ref r) ∧ Fr n0 L ∧ h = h0
set_option maxRecDepth 65536 in
set_option maxHeartbeats 40000000 in
theorem rmG2_1_2 (l : Launch) (Z : State) (a0 : Array Value) (hw : ∀ d ∈ tables_1, d.before a0 Z = true) (ws : List Jvm.Cond) (a : Addr) (r : Addr) (rg : Addr) (kr : ClassId) (u0 : Value) (u1 : Value) (h0 : Heap) (n0 : Nat) (Z0 : n0 ≤ h0.size) (hR : Rg Z h0 a rg kr (2 : Int32) (1 : Int32) u0 u1 (.ref r)) :
    MetFree l (⟨"com/example/rowmotif/rowmotif/matcher/PartitionRows", "get", "(I)[Ljava/lang/Object;"⟩ : MethodName) (head1 (Jvm.Cond.code (⟨"com/example/rowmotif/rowmotif/matcher/PartitionRows", "get", "(I)[Ljava/lang/Object;"⟩ : MethodName) prog_78_method_6_code 2 (some (.array (.object "java/lang/Object"))) :: ws) ({ frames := 1, cells := 0, slots := 0, locals := 13 } : Room)) (fun av_ U_ => av_ = #[(.ref a), (.int 2)] ∧ Z.Warmed39 U_.vm ∧ U_.heap = h0) (fun _ _ _ _ _ => True) (fun _ U_ o_ V_ => ∃ v_ L_, o_ = .returned v_ ∧ Q_rmG2_1_2 Z a r rg kr u0 u1 h0 n0 v_ V_.heap L_ ∧ FrameEnd U_ o_ V_ L_ ({ frames := 1, cells := 0, slots := 0, locals := 13 } : Room).cells ({ frames := 1, cells := 0, slots := 0, locals := 13 } : Room).slots) := by
  refine MetFree.of_bodySF (plainFor_of_name pn_com_example_rowmotif_rowmotif_matcher_PartitionRows) hisR ?_
  intro p e s m args below meth c s₁ Bd hml0 hP hK
  obtain ⟨rfl, hZ, hh⟩ := hP
  have hx := Bd.exec
  have hby := Bd.bytes
  have hml : c.maxLocals = 2 := hml0
  have hown : s.vm.findClass "com/example/rowmotif/rowmotif/matcher/PartitionRows" = some m.cls := findClass_of_methodNamed Bd.named
  have hnm := (name_of_methodNamed Bd.named Bd.method).1
  have X0 : Stand p l e ({ frames := 1, cells := 0, slots := 0, locals := 13 } : Room) s m #[(.ref a), (.int 2)] below meth c s₁ [] 0 0 := Stand.of_body Bd
  have e0 : s₁.heap = h0 := by rw [← hh, Bd.state]; rfl
  have N0 := Fr.nil n0
  have pre0 : ∀ t_, Go p e below s₁ (mkF m 0 #[rv a, iv 2] []) t_ → Go p e below s₁ (entryFrame m #[(.ref a), (.int 2)] 2) t_ := fun t_ kt => castTop (ef_9 m a (2 : Int32)) kt
  obtain ⟨E_a, F_ring, F_head, F_count, F_first, F_complete, V_r, O_r, n_ar⟩ := hR
  obtain ⟨T1, X1, e1, st1⟩ := getF X0 hx hZ hown (host := "") (Or.inl (hwi hw 24 rfl)) Via.refl e0 F_first (g := (mkF m 2 #[rv a, iv 2] [(.ref a), (.int 2)])) rfl rfl (hb hby d9_2)
  obtain ⟨cq2, kq2, q2a, q2b, q2c⟩ := isOf hZ e1 E_a
  obtain ⟨_, _, ⟨T2, L2, k2, n2⟩, -, X2, ⟨Lc2, hQ2, l2, y2, z2⟩, st2⟩ := X1.virtualBack hx (y := (⟨"com/example/rowmotif/rowmotif/matcher/PartitionRows", "size", "()I"⟩ : MethodName)) (z := (⟨"com/example/rowmotif/rowmotif/matcher/PartitionRows", "size", "()I"⟩ : MethodName)) hown (mvT hZ (hwi hw 48 rfl)) (mvT hZ (hwi hw 30 rfl)) (notFace_of_selects (args := #[]) (mvT hZ (hwi hw 32 rfl))) (mvT hZ (hwi hw 32 rfl)) (mvT hZ (hwi hw 31 rfl)) (by decide) (backOf (W := 1) (rmZ l Z a0 hw [] a (2 : Int32) (1 : Int32) h0 n0 (Nat.le_trans Z0 (Keep.refl h0 []).1) F_first F_count) hZ (hwi hw 33 rfl) (hwi hw 4 rfl) (by decide) (by decide)) q2a q2c (g := (mkF m 10 #[rv a, iv 2] [(.ref a), (.int 2)])) rfl (by rw [hml]; rfl) (Steps.refl _) (argsL := []) (rest := [(.int 2)]) (lenOf pd_3 rfl) rfl (by show 2 * 0 + _ ≤ _; exact Nat.le_of_eq rfl) (hb hby d9_10) (fun _ _ => ⟨rfl, e1, (by decide : 0 + 0 ≤ _), (by decide : 0 + 0 ≤ _)⟩)
  dsimp only [Pt.U, Pt.locs, Pt.cells, Pt.slots] at X2 l2 y2 z2 st2 hQ2
  subst l2 y2 z2
  obtain ⟨hv2, N2q, e2q⟩ := hQ2
  have N2 := Fr.app N0 N2q
  rw [show ((2 : Int32) + (1 : Int32)) = (3 : Int32) from by decide] at hv2
  subst hv2
  obtain ⟨T3, X3, e3, st3⟩ := getF X2 hx hZ hown (host := "") (Or.inl (hwi hw 13 rfl)) Via.refl e2q F_ring (g := (mkF m 39 #[rv a, iv 2] [(.ref a)])) rfl rfl (hb hby d9_39)
  obtain ⟨T4, X4, e4, st4⟩ := getF X3 hx hZ hown (host := "") (Or.inl (hwi hw 50 rfl)) Via.refl e3 F_head (g := (mkF m 43 #[rv a, iv 2] [(.ref a), (.ref rg)])) rfl rfl (hb hby d9_43)
  obtain ⟨T5, X5, e5, st5⟩ := getF X4 hx hZ hown (host := "") (Or.inl (hwi hw 24 rfl)) Via.refl e4 F_first (g := (mkF m 49 #[rv a, iv 2] [(.ref a), (.int 4), (.ref rg)])) rfl rfl (hb hby d9_49)
  obtain ⟨T6, X6, e6, st6⟩ := getF X5 hx hZ hown (host := "") (Or.inl (hwi hw 13 rfl)) Via.refl e5 F_ring (g := (mkF m 54 #[rv a, iv 2] [(.ref a), (.int 2), (.ref rg)])) rfl rfl (hb hby d9_54)
  obtain ⟨cl7, Ar7, qa7, Sa7, Na7, Ha7, Ga7⟩ := V_r
  have V7 : Arv Z h0 rg kr (.array (.object "java/lang/Object")) (16 : Int32) [u0, u1, (.ref r)] .null := ⟨cl7, Ar7, qa7, Sa7, Na7, Ha7, Ga7⟩
  obtain ⟨cl8, Ar8, qa8, Sa8, Na8, Ha8, Ga8⟩ := V7
  have hin8 : ¬ ((2 : Int32) < 0 ∨ cl8.slots.size ≤ ((2 : Int32)).toNatClampNeg) := inb_of Sa8 ⟨by decide, by decide⟩
  have V8 : Arv Z h0 rg kr (.array (.object "java/lang/Object")) (16 : Int32) [u0, u1, (.ref r)] .null := ⟨cl8, Ar8, qa8, Sa8, Na8, Ha8, Ga8⟩
  have pre9 : ∀ t_, Go p e below T6 (mkF m 62 #[rv a, iv 2] [(.ref r)]) t_ → Go p e below s₁ (entryFrame m #[(.ref a), (.int 2)] 2) t_ := fun t_ kt => pre0 _ (by
      show Go p e below s₁ (mkF m 0 #[rv a, iv 2] []) _
      refine XS.iloadN X0.here hx rfl (hb hby d9_0) rfl ?_
      show Go p e below s₁ (mkF m 1 #[rv a, iv 2] [(.int 2)]) _
      refine XS.aloadN X0.here hx rfl (hb hby d9_1) rfl rfl ?_
      show Go p e below s₁ (mkF m 2 #[rv a, iv 2] [(.ref a), (.int 2)]) _
      refine st1 _ ?_
      show Go p e below T1 (mkF m 5 #[rv a, iv 2] [(.int 2), (.int 2)]) _
      refine XS.icmpNo X1.here hx rfl (hb hby d9_5) rfl (flt ((by decide) : ¬ ((2 : Int32) < (2 : Int32)))).1 ?_
      show Go p e below T1 (mkF m 8 #[rv a, iv 2] []) _
      refine XS.iloadN X1.here hx rfl (hb hby d9_8) rfl ?_
      show Go p e below T1 (mkF m 9 #[rv a, iv 2] [(.int 2)]) _
      refine XS.aloadN X1.here hx rfl (hb hby d9_9) rfl rfl ?_
      show Go p e below T1 (mkF m 10 #[rv a, iv 2] [(.ref a), (.int 2)]) _
      refine st2.trans ?_
      show Go p e below T2 (mkF m 13 #[rv a, iv 2] [(.int 3), (.int 2)]) _
      refine XS.icmpYes X2.here hx rfl (pc0 := 13) (pc' := 38) rfl (hb hby d9_13) rfl (tlt ((by decide) : (2 : Int32) < (3 : Int32))).1 (by decide) (by decide) ?_
      show Go p e below T2 (mkF m 38 #[rv a, iv 2] []) _
      refine XS.aloadN X2.here hx rfl (hb hby d9_38) rfl rfl ?_
      show Go p e below T2 (mkF m 39 #[rv a, iv 2] [(.ref a)]) _
      refine st3 _ ?_
      show Go p e below T3 (mkF m 42 #[rv a, iv 2] [(.ref rg)]) _
      refine XS.aloadN X3.here hx rfl (hb hby d9_42) rfl rfl ?_
      show Go p e below T3 (mkF m 43 #[rv a, iv 2] [(.ref a), (.ref rg)]) _
      refine st4 _ ?_
      show Go p e below T4 (mkF m 46 #[rv a, iv 2] [(.int 2), (.ref rg)]) _
      refine XS.iloadN X4.here hx rfl (hb hby d9_46) rfl ?_
      show Go p e below T4 (mkF m 47 #[rv a, iv 2] [(.int 2), (.int 2), (.ref rg)]) _
      refine XS.iadd X4.here hx rfl (hb hby d9_47) rfl ?_
      show Go p e below T4 (mkF m 48 #[rv a, iv 2] [(.int 4), (.ref rg)]) _
      refine XS.aloadN X4.here hx rfl (hb hby d9_48) rfl rfl ?_
      show Go p e below T4 (mkF m 49 #[rv a, iv 2] [(.ref a), (.int 4), (.ref rg)]) _
      refine st5 _ ?_
      show Go p e below T5 (mkF m 52 #[rv a, iv 2] [(.int 2), (.int 4), (.ref rg)]) _
      refine XS.isub X5.here hx rfl (hb hby d9_52) rfl ?_
      show Go p e below T5 (mkF m 53 #[rv a, iv 2] [(.int 2), (.ref rg)]) _
      refine XS.aloadN X5.here hx rfl (hb hby d9_53) rfl rfl ?_
      show Go p e below T5 (mkF m 54 #[rv a, iv 2] [(.ref a), (.int 2), (.ref rg)]) _
      refine st6 _ ?_
      show Go p e below T6 (mkF m 57 #[rv a, iv 2] [(.ref rg), (.int 2), (.ref rg)]) _
      refine X6.arraylength hx (by rw [e6]; exact Ar7.1) (State.isArrayOf_alike hZ.alike Ar7.2.1) (g := (mkF m 57 #[rv a, iv 2] [(.ref rg), (.int 2), (.ref rg)])) rfl rfl (hb hby d9_57) _ ?_
      rw [len_of Sa7 Na7]
      show Go p e below T6 (mkF m 58 #[rv a, iv 2] [(.int 16), (.int 2), (.ref rg)]) _
      refine XS.iconst X6.here hx rfl (hb hby d9_58) ?_
      show Go p e below T6 (mkF m 59 #[rv a, iv 2] [(.int 1), (.int 16), (.int 2), (.ref rg)]) _
      refine XS.isub X6.here hx rfl (hb hby d9_59) rfl ?_
      show Go p e below T6 (mkF m 60 #[rv a, iv 2] [(.int 15), (.int 2), (.ref rg)]) _
      refine XS.iand X6.here hx rfl (hb hby d9_60) rfl ?_
      show Go p e below T6 (mkF m 61 #[rv a, iv 2] [(.int 2), (.ref rg)]) _
      refine X6.aaload hx (j := (2 : Int32)) (v := (.ref r)) (by rw [e6]; exact Ar8.1) (State.isArrayOf_alike hZ.alike Ar8.2.1) rfl Ar8.2.2 hin8 (Has.at Ha8 hin8 rfl) (g := (mkF m 61 #[rv a, iv 2] [(.int 2), (.ref rg)])) rfl rfl (hb hby d9_61) _ ?_
      show Go p e below T6 (mkF m 62 #[rv a, iv 2] [(.ref r)]) _
      exact kt)
  obtain ⟨fs, hr, hrun, hended, hW, hsame⟩ := X6.leave (v := some (.ref r)) (fun h => by rw [Bd.returns] at h; cases h)
  refine ⟨_, _, pre9 _ ?_, hrun, hended, _, _, rfl, ?_, ⟨_, rfl⟩, hW, hsame.mono (by decide) (by decide)⟩
  · show Steps p.tables e below (T6.setTop (mkF m 62 #[rv a, iv 2] [(.ref r)])) _
    jvm_step X6.here [X6.here.top, hx, (hb hby d9_62), X6.method', Bd.returns, Value.isRef, FieldType.isReference]
    first | (intro acts; rw [hr _ acts rfl rfl rfl]) | rw [hr _ _ rfl rfl rfl]
    exact Steps.refl _
  · show Q_rmG2_1_2 Z a r rg kr u0 u1 h0 n0 _ T6.heap _
    rw [e6]
    exact ⟨rfl, N2, rfl⟩
set_option maxRecDepth 65536 in
set_option maxHeartbeats 40000000 in
theorem tl0_0 {p : Program} {l : Launch} {e : Env} {s : State} {m : MethodId} {args : Array Value} {below : List Frame} {meth : Method} {c : Code} {T0 : State} {locs : List Loc} {Z : State} {a0 : Array Value} (p1 : Int32) (p2 : Int32) (p3 : Int32) (k8 : Int32) (k9 : Int32) (a : Addr) (r0 : Addr) (r1 : Addr) (r2 : Addr) (rg : Addr) (kr : ClassId) (h0 : Heap) (n0 : Nat) (X0 : Stand p l e room_1 s m args below meth c T0 locs 5 25) (hx : p.tables.exec = Jvm.exec) (hZ : Z.Warmed39 s.vm) (hw : ∀ d ∈ tables_1, d.before a0 Z = true) (hby : c.code = code) (hml : c.maxLocals = 12) (hown : s.vm.findClass "com/example/rowmotif/rowmotif/matcher/PartitionRowsReleasePinLaw" = some m.cls) (hret : meth.sig.returnType = some .boolean) (hlocks : meth.locks = false) (e0 : T0.heap = h0) (N0 : Fr n0 locs) (Z0 : n0 ≤ h0.size) (hR : Rg Z h0 a rg kr (0 : Int32) (0 : Int32) .null .null .null) :
    ∃ s₂ o₂, Go p e below T0 (mkF m 105 #[iv p1, iv p2, iv p3, iv 0, rv r0, rv r1, rv r2, rv a, iv k8, iv k9, iv 0, .unset] []) s₂ ∧ s₂.status = .running ∧ Ended s₂ below o₂ ∧ ∃ v₂ L₂, o₂ = .returned v₂ ∧ (v₂ = some (.int 1) ∧ Fr n0 L₂) ∧ FrameEnd s o₂ s₂ L₂ room_1.cells room_1.slots := by
  have pre0 : ∀ t_, Go p e below T0 (mkF m 105 #[iv p1, iv p2, iv p3, iv 0, rv r0, rv r1, rv r2, rv a, iv k8, iv k9, iv 0, .unset] []) t_ → Go p e below T0 (mkF m 105 #[iv p1, iv p2, iv p3, iv 0, rv r0, rv r1, rv r2, rv a, iv k8, iv k9, iv 0, .unset] []) t_ := fun _ kt => kt
  obtain ⟨cq1, kq1, q1a, q1b, q1c⟩ := isOf hZ e0 hR.1
  obtain ⟨_, _, ⟨T1, L1, k1, n1⟩, -, X1, ⟨Lc1, hQ1, l1, y1, z1⟩, st1⟩ := X0.virtualBack hx (y := (⟨"com/example/rowmotif/rowmotif/matcher/PartitionRows", "size", "()I"⟩ : MethodName)) (z := (⟨"com/example/rowmotif/rowmotif/matcher/PartitionRows", "size", "()I"⟩ : MethodName)) hown (mvT hZ (hwi hw 29 rfl)) (mvT hZ (hwi hw 30 rfl)) (notFace_of_selects (args := #[]) (mvT hZ (hwi hw 32 rfl))) (mvT hZ (hwi hw 32 rfl)) (mvT hZ (hwi hw 31 rfl)) (by decide) (backOf (W := 0) (rmZ l Z a0 hw [] a (0 : Int32) (0 : Int32) h0 n0 Z0 hR.2.2.2.2.1 hR.2.2.2.1) hZ (hwi hw 33 rfl) (hwi hw 4 rfl) (by decide) (by decide)) q1a q1c (g := (mkF m 107 #[iv p1, iv p2, iv p3, iv 0, rv r0, rv r1, rv r2, rv a, iv k8, iv k9, iv 0, .unset] [(.ref a)])) rfl (by rw [hml]; rfl) (Steps.refl _) (argsL := []) (rest := []) (lenOf pd_3 rfl) rfl (by show 2 * 0 + _ ≤ _; exact Nat.le_of_eq rfl) (hb hby at_107) (fun _ _ => ⟨rfl, e0, (by decide : 5 + 0 ≤ _), (by decide : 25 + 0 ≤ _)⟩)
  dsimp only [Pt.U, Pt.locs, Pt.cells, Pt.slots] at X1 l1 y1 z1 st1 hQ1
  subst l1 y1 z1
  obtain ⟨hv1, N1q, e1q⟩ := hQ1
  have N1 := Fr.app N0 N1q
  rw [show ((0 : Int32) + (0 : Int32)) = (0 : Int32) from by decide] at hv1
  subst hv1
  obtain ⟨cq2, kq2, q2a, q2b, q2c⟩ := isOf hZ e1q hR.1
  obtain ⟨_, _, ⟨T2, L2, k2, n2⟩, -, X2, ⟨Lc2, hQ2, l2, y2, z2⟩, st2⟩ := X1.virtualBack hx (y := (⟨"com/example/rowmotif/rowmotif/matcher/PartitionRows", "held", "()I"⟩ : MethodName)) (z := (⟨"com/example/rowmotif/rowmotif/matcher/PartitionRows", "held", "()I"⟩ : MethodName)) hown (mvT hZ (hwi hw 36 rfl)) (mvT hZ (hwi hw 37 rfl)) (notFace_of_selects (args := #[]) (mvT hZ (hwi hw 39 rfl))) (mvT hZ (hwi hw 39 rfl)) (mvT hZ (hwi hw 38 rfl)) (by decide) (backOf (W := 0) (rmHd l Z a0 hw [] a (0 : Int32) h0 n0 Z0 hR.2.2.2.1) hZ (hwi hw 40 rfl) (hwi hw 4 rfl) (by decide) (by decide)) q2a q2c (g := (mkF m 116 #[iv p1, iv p2, iv p3, iv 0, rv r0, rv r1, rv r2, rv a, iv k8, iv k9, iv 0, .unset] [(.ref a)])) rfl (by rw [hml]; rfl) (Steps.refl _) (argsL := []) (rest := []) (lenOf pd_3 rfl) rfl (by show 2 * 0 + _ ≤ _; exact Nat.le_of_eq rfl) (hb hby at_116) (fun _ _ => ⟨rfl, e1q, (by decide : 5 + 0 ≤ _), (by decide : 25 + 0 ≤ _)⟩)
  dsimp only [Pt.U, Pt.locs, Pt.cells, Pt.slots] at X2 l2 y2 z2 st2 hQ2
  subst l2 y2 z2
  obtain ⟨rfl, N2q, e2q⟩ := hQ2
  have N2 := Fr.app N1 N2q
  have pre3 : ∀ t_, Go p e below T2 (mkF m 236 #[iv p1, iv p2, iv p3, iv 0, rv r0, rv r1, rv r2, rv a, iv k8, iv k9, iv 0, iv 1] [(.int 1)]) t_ → Go p e below T0 (mkF m 105 #[iv p1, iv p2, iv p3, iv 0, rv r0, rv r1, rv r2, rv a, iv k8, iv k9, iv 0, .unset] []) t_ := fun t_ kt => pre0 _ (by
      show Go p e below T0 (mkF m 105 #[iv p1, iv p2, iv p3, iv 0, rv r0, rv r1, rv r2, rv a, iv k8, iv k9, iv 0, .unset] []) _
      refine XS.aload X0.here hx rfl (hb hby at_105) rfl rfl ?_
      show Go p e below T0 (mkF m 107 #[iv p1, iv p2, iv p3, iv 0, rv r0, rv r1, rv r2, rv a, iv k8, iv k9, iv 0, .unset] [(.ref a)]) _
      refine st1.trans ?_
      show Go p e below T1 (mkF m 110 #[iv p1, iv p2, iv p3, iv 0, rv r0, rv r1, rv r2, rv a, iv k8, iv k9, iv 0, .unset] [(.int 0)]) _
      refine XS.iloadN X1.here hx rfl (hb hby at_110) rfl ?_
      show Go p e below T1 (mkF m 111 #[iv p1, iv p2, iv p3, iv 0, rv r0, rv r1, rv r2, rv a, iv k8, iv k9, iv 0, .unset] [(.int 0), (.int 0)]) _
      refine XS.icmpNo X1.here hx rfl (hb hby at_111) rfl (teq ((by decide) : (0 : Int32) = (0 : Int32))).2 ?_
      show Go p e below T1 (mkF m 114 #[iv p1, iv p2, iv p3, iv 0, rv r0, rv r1, rv r2, rv a, iv k8, iv k9, iv 0, .unset] []) _
      refine XS.aload X1.here hx rfl (hb hby at_114) rfl rfl ?_
      show Go p e below T1 (mkF m 116 #[iv p1, iv p2, iv p3, iv 0, rv r0, rv r1, rv r2, rv a, iv k8, iv k9, iv 0, .unset] [(.ref a)]) _
      refine st2.trans ?_
      show Go p e below T2 (mkF m 119 #[iv p1, iv p2, iv p3, iv 0, rv r0, rv r1, rv r2, rv a, iv k8, iv k9, iv 0, .unset] [(.int 0)]) _
      refine XS.iloadN X2.here hx rfl (hb hby at_119) rfl ?_
      show Go p e below T2 (mkF m 120 #[iv p1, iv p2, iv p3, iv 0, rv r0, rv r1, rv r2, rv a, iv k8, iv k9, iv 0, .unset] [(.int 0), (.int 0)]) _
      refine XS.iload X2.here hx rfl (hb hby at_120) rfl ?_
      show Go p e below T2 (mkF m 122 #[iv p1, iv p2, iv p3, iv 0, rv r0, rv r1, rv r2, rv a, iv k8, iv k9, iv 0, .unset] [(.int 0), (.int 0), (.int 0)]) _
      refine XS.isub X2.here hx rfl (hb hby at_122) rfl ?_
      show Go p e below T2 (mkF m 123 #[iv p1, iv p2, iv p3, iv 0, rv r0, rv r1, rv r2, rv a, iv k8, iv k9, iv 0, .unset] [(.int 0), (.int 0)]) _
      refine XS.icmpNo X2.here hx rfl (hb hby at_123) rfl (teq ((by decide) : (0 : Int32) = (0 : Int32))).2 ?_
      show Go p e below T2 (mkF m 126 #[iv p1, iv p2, iv p3, iv 0, rv r0, rv r1, rv r2, rv a, iv k8, iv k9, iv 0, .unset] []) _
      refine XS.iconst X2.here hx rfl (hb hby at_126) ?_
      show Go p e below T2 (mkF m 127 #[iv p1, iv p2, iv p3, iv 0, rv r0, rv r1, rv r2, rv a, iv k8, iv k9, iv 0, .unset] [(.int 1)]) _
      refine XS.goto X2.here hx rfl (pc0 := 127) (pc' := 131) rfl (hb hby at_127) (by decide) (by decide) ?_
      show Go p e below T2 (mkF m 131 #[iv p1, iv p2, iv p3, iv 0, rv r0, rv r1, rv r2, rv a, iv k8, iv k9, iv 0, .unset] [(.int 1)]) _
      refine XS.istore X2.here hx rfl (hb hby at_131) rfl (l' := #[iv p1, iv p2, iv p3, iv 0, rv r0, rv r1, rv r2, rv a, iv k8, iv k9, iv 0, iv 1]) rfl ?_
      show Go p e below T2 (mkF m 133 #[iv p1, iv p2, iv p3, iv 0, rv r0, rv r1, rv r2, rv a, iv k8, iv k9, iv 0, iv 1] []) _
      refine XS.iload X2.here hx rfl (hb hby at_133) rfl ?_
      show Go p e below T2 (mkF m 135 #[iv p1, iv p2, iv p3, iv 0, rv r0, rv r1, rv r2, rv a, iv k8, iv k9, iv 0, iv 1] [(.int 0)]) _
      refine XS.ifNo X2.here hx rfl (hb hby at_135) rfl ((if0 _ _).trans (flt ((by decide) : ¬ ((0 : Int32) < (0 : Int32)))).2.2.1) ?_
      show Go p e below T2 (mkF m 138 #[iv p1, iv p2, iv p3, iv 0, rv r0, rv r1, rv r2, rv a, iv k8, iv k9, iv 0, iv 1] []) _
      refine XS.iconst X2.here hx rfl (hb hby at_138) ?_
      show Go p e below T2 (mkF m 139 #[iv p1, iv p2, iv p3, iv 0, rv r0, rv r1, rv r2, rv a, iv k8, iv k9, iv 0, iv 1] [(.int 0)]) _
      refine XS.iloadN X2.here hx rfl (hb hby at_139) rfl ?_
      show Go p e below T2 (mkF m 140 #[iv p1, iv p2, iv p3, iv 0, rv r0, rv r1, rv r2, rv a, iv k8, iv k9, iv 0, iv 1] [(.int 0), (.int 0)]) _
      refine XS.icmpYes X2.here hx rfl (pc0 := 140) (pc' := 166) rfl (hb hby at_140) rfl (flt ((by decide) : ¬ ((0 : Int32) < (0 : Int32)))).2.1 (by decide) (by decide) ?_
      show Go p e below T2 (mkF m 166 #[iv p1, iv p2, iv p3, iv 0, rv r0, rv r1, rv r2, rv a, iv k8, iv k9, iv 0, iv 1] []) _
      refine XS.iload X2.here hx rfl (hb hby at_166) rfl ?_
      show Go p e below T2 (mkF m 168 #[iv p1, iv p2, iv p3, iv 0, rv r0, rv r1, rv r2, rv a, iv k8, iv k9, iv 0, iv 1] [(.int 0)]) _
      refine XS.iconst X2.here hx rfl (hb hby at_168) ?_
      show Go p e below T2 (mkF m 169 #[iv p1, iv p2, iv p3, iv 0, rv r0, rv r1, rv r2, rv a, iv k8, iv k9, iv 0, iv 1] [(.int 1), (.int 0)]) _
      refine XS.icmpNo X2.here hx rfl (hb hby at_169) rfl (flt ((by decide) : ¬ ((1 : Int32) < (0 : Int32)))).2.2.1 ?_
      show Go p e below T2 (mkF m 172 #[iv p1, iv p2, iv p3, iv 0, rv r0, rv r1, rv r2, rv a, iv k8, iv k9, iv 0, iv 1] []) _
      refine XS.iconst X2.here hx rfl (hb hby at_172) ?_
      show Go p e below T2 (mkF m 173 #[iv p1, iv p2, iv p3, iv 0, rv r0, rv r1, rv r2, rv a, iv k8, iv k9, iv 0, iv 1] [(.int 1)]) _
      refine XS.iloadN X2.here hx rfl (hb hby at_173) rfl ?_
      show Go p e below T2 (mkF m 174 #[iv p1, iv p2, iv p3, iv 0, rv r0, rv r1, rv r2, rv a, iv k8, iv k9, iv 0, iv 1] [(.int 0), (.int 1)]) _
      refine XS.icmpYes X2.here hx rfl (pc0 := 174) (pc' := 200) rfl (hb hby at_174) rfl (flt ((by decide) : ¬ ((1 : Int32) < (0 : Int32)))).2.1 (by decide) (by decide) ?_
      show Go p e below T2 (mkF m 200 #[iv p1, iv p2, iv p3, iv 0, rv r0, rv r1, rv r2, rv a, iv k8, iv k9, iv 0, iv 1] []) _
      refine XS.iload X2.here hx rfl (hb hby at_200) rfl ?_
      show Go p e below T2 (mkF m 202 #[iv p1, iv p2, iv p3, iv 0, rv r0, rv r1, rv r2, rv a, iv k8, iv k9, iv 0, iv 1] [(.int 0)]) _
      refine XS.iconst X2.here hx rfl (hb hby at_202) ?_
      show Go p e below T2 (mkF m 203 #[iv p1, iv p2, iv p3, iv 0, rv r0, rv r1, rv r2, rv a, iv k8, iv k9, iv 0, iv 1] [(.int 2), (.int 0)]) _
      refine XS.icmpNo X2.here hx rfl (hb hby at_203) rfl (flt ((by decide) : ¬ ((2 : Int32) < (0 : Int32)))).2.2.1 ?_
      show Go p e below T2 (mkF m 206 #[iv p1, iv p2, iv p3, iv 0, rv r0, rv r1, rv r2, rv a, iv k8, iv k9, iv 0, iv 1] []) _
      refine XS.iconst X2.here hx rfl (hb hby at_206) ?_
      show Go p e below T2 (mkF m 207 #[iv p1, iv p2, iv p3, iv 0, rv r0, rv r1, rv r2, rv a, iv k8, iv k9, iv 0, iv 1] [(.int 2)]) _
      refine XS.iloadN X2.here hx rfl (hb hby at_207) rfl ?_
      show Go p e below T2 (mkF m 208 #[iv p1, iv p2, iv p3, iv 0, rv r0, rv r1, rv r2, rv a, iv k8, iv k9, iv 0, iv 1] [(.int 0), (.int 2)]) _
      refine XS.icmpYes X2.here hx rfl (pc0 := 208) (pc' := 234) rfl (hb hby at_208) rfl (flt ((by decide) : ¬ ((2 : Int32) < (0 : Int32)))).2.1 (by decide) (by decide) ?_
      show Go p e below T2 (mkF m 234 #[iv p1, iv p2, iv p3, iv 0, rv r0, rv r1, rv r2, rv a, iv k8, iv k9, iv 0, iv 1] []) _
      refine XS.iload X2.here hx rfl (hb hby at_234) rfl ?_
      show Go p e below T2 (mkF m 236 #[iv p1, iv p2, iv p3, iv 0, rv r0, rv r1, rv r2, rv a, iv k8, iv k9, iv 0, iv 1] [(.int 1)]) _
      exact kt)
  obtain ⟨fs, hr, hrun, hended, hW, hsame⟩ := X2.leave (v := some (.int 1)) (fun h => by rw [hret] at h; cases h)
  refine ⟨_, _, pre3 _ ?_, hrun, hended, _, _, rfl, ?_, ⟨_, rfl⟩, hW, hsame.mono (by decide) (by decide)⟩
  · show Steps p.tables e below (T2.setTop (mkF m 236 #[iv p1, iv p2, iv p3, iv 0, rv r0, rv r1, rv r2, rv a, iv k8, iv k9, iv 0, iv 1] [(.int 1)])) _
    exact retN X2 hx (t := .boolean) hret (by simp) (hb hby at_236) hr
  · exact ⟨rfl, N2⟩
theorem pd_5 : parseMethodDescriptor "(I)[Ljava/lang/Object;" = some ⟨[.int], some (.array (.object "java/lang/Object"))⟩ := by decide +kernel
set_option maxRecDepth 65536 in
set_option maxHeartbeats 40000000 in
theorem tl1_0 {p : Program} {l : Launch} {e : Env} {s : State} {m : MethodId} {args : Array Value} {below : List Frame} {meth : Method} {c : Code} {T0 : State} {locs : List Loc} {Z : State} {a0 : Array Value} (p1 : Int32) (p2 : Int32) (p3 : Int32) (k8 : Int32) (k9 : Int32) (a : Addr) (r0 : Addr) (r1 : Addr) (r2 : Addr) (rg : Addr) (kr : ClassId) (h0 : Heap) (n0 : Nat) (X0 : Stand p l e room_1 s m args below meth c T0 locs 5 25) (hx : p.tables.exec = Jvm.exec) (hZ : Z.Warmed39 s.vm) (hw : ∀ d ∈ tables_1, d.before a0 Z = true) (hby : c.code = code) (hml : c.maxLocals = 12) (hown : s.vm.findClass "com/example/rowmotif/rowmotif/matcher/PartitionRowsReleasePinLaw" = some m.cls) (hret : meth.sig.returnType = some .boolean) (hlocks : meth.locks = false) (e0 : T0.heap = h0) (N0 : Fr n0 locs) (Z0 : n0 ≤ h0.size) (hR : Rg Z h0 a rg kr (0 : Int32) (1 : Int32) (.ref r0) .null .null) :
    ∃ s₂ o₂, Go p e below T0 (mkF m 105 #[iv p1, iv p2, iv p3, iv 1, rv r0, rv r1, rv r2, rv a, iv k8, iv k9, iv 0, .unset] []) s₂ ∧ s₂.status = .running ∧ Ended s₂ below o₂ ∧ ∃ v₂ L₂, o₂ = .returned v₂ ∧ (v₂ = some (.int 1) ∧ Fr n0 L₂) ∧ FrameEnd s o₂ s₂ L₂ room_1.cells room_1.slots := by
  have pre0 : ∀ t_, Go p e below T0 (mkF m 105 #[iv p1, iv p2, iv p3, iv 1, rv r0, rv r1, rv r2, rv a, iv k8, iv k9, iv 0, .unset] []) t_ → Go p e below T0 (mkF m 105 #[iv p1, iv p2, iv p3, iv 1, rv r0, rv r1, rv r2, rv a, iv k8, iv k9, iv 0, .unset] []) t_ := fun _ kt => kt
  obtain ⟨cq1, kq1, q1a, q1b, q1c⟩ := isOf hZ e0 hR.1
  obtain ⟨_, _, ⟨T1, L1, k1, n1⟩, -, X1, ⟨Lc1, hQ1, l1, y1, z1⟩, st1⟩ := X0.virtualBack hx (y := (⟨"com/example/rowmotif/rowmotif/matcher/PartitionRows", "size", "()I"⟩ : MethodName)) (z := (⟨"com/example/rowmotif/rowmotif/matcher/PartitionRows", "size", "()I"⟩ : MethodName)) hown (mvT hZ (hwi hw 29 rfl)) (mvT hZ (hwi hw 30 rfl)) (notFace_of_selects (args := #[]) (mvT hZ (hwi hw 32 rfl))) (mvT hZ (hwi hw 32 rfl)) (mvT hZ (hwi hw 31 rfl)) (by decide) (backOf (W := 0) (rmZ l Z a0 hw [] a (0 : Int32) (1 : Int32) h0 n0 Z0 hR.2.2.2.2.1 hR.2.2.2.1) hZ (hwi hw 33 rfl) (hwi hw 4 rfl) (by decide) (by decide)) q1a q1c (g := (mkF m 107 #[iv p1, iv p2, iv p3, iv 1, rv r0, rv r1, rv r2, rv a, iv k8, iv k9, iv 0, .unset] [(.ref a)])) rfl (by rw [hml]; rfl) (Steps.refl _) (argsL := []) (rest := []) (lenOf pd_3 rfl) rfl (by show 2 * 0 + _ ≤ _; exact Nat.le_of_eq rfl) (hb hby at_107) (fun _ _ => ⟨rfl, e0, (by decide : 5 + 0 ≤ _), (by decide : 25 + 0 ≤ _)⟩)
  dsimp only [Pt.U, Pt.locs, Pt.cells, Pt.slots] at X1 l1 y1 z1 st1 hQ1
  subst l1 y1 z1
  obtain ⟨hv1, N1q, e1q⟩ := hQ1
  have N1 := Fr.app N0 N1q
  rw [show ((0 : Int32) + (1 : Int32)) = (1 : Int32) from by decide] at hv1
  subst hv1
  obtain ⟨cq2, kq2, q2a, q2b, q2c⟩ := isOf hZ e1q hR.1
  obtain ⟨_, _, ⟨T2, L2, k2, n2⟩, -, X2, ⟨Lc2, hQ2, l2, y2, z2⟩, st2⟩ := X1.virtualBack hx (y := (⟨"com/example/rowmotif/rowmotif/matcher/PartitionRows", "held", "()I"⟩ : MethodName)) (z := (⟨"com/example/rowmotif/rowmotif/matcher/PartitionRows", "held", "()I"⟩ : MethodName)) hown (mvT hZ (hwi hw 36 rfl)) (mvT hZ (hwi hw 37 rfl)) (notFace_of_selects (args := #[]) (mvT hZ (hwi hw 39 rfl))) (mvT hZ (hwi hw 39 rfl)) (mvT hZ (hwi hw 38 rfl)) (by decide) (backOf (W := 0) (rmHd l Z a0 hw [] a (1 : Int32) h0 n0 Z0 hR.2.2.2.1) hZ (hwi hw 40 rfl) (hwi hw 4 rfl) (by decide) (by decide)) q2a q2c (g := (mkF m 116 #[iv p1, iv p2, iv p3, iv 1, rv r0, rv r1, rv r2, rv a, iv k8, iv k9, iv 0, .unset] [(.ref a)])) rfl (by rw [hml]; rfl) (Steps.refl _) (argsL := []) (rest := []) (lenOf pd_3 rfl) rfl (by show 2 * 0 + _ ≤ _; exact Nat.le_of_eq rfl) (hb hby at_116) (fun _ _ => ⟨rfl, e1q, (by decide : 5 + 0 ≤ _), (by decide : 25 + 0 ≤ _)⟩)
  dsimp only [Pt.U, Pt.locs, Pt.cells, Pt.slots] at X2 l2 y2 z2 st2 hQ2
  subst l2 y2 z2
  obtain ⟨rfl, N2q, e2q⟩ := hQ2
  have N2 := Fr.app N1 N2q
  obtain ⟨cq3, kq3, q3a, q3b, q3c⟩ := isOf hZ e2q hR.1
  obtain ⟨_, _, ⟨T3, L3, k3, n3⟩, -, X3, ⟨Lc3, hQ3, l3, y3, z3⟩, st3⟩ := X2.virtualBack hx (y := (⟨"com/example/rowmotif/rowmotif/matcher/PartitionRows", "get", "(I)[Ljava/lang/Object;"⟩ : MethodName)) (z := (⟨"com/example/rowmotif/rowmotif/matcher/PartitionRows", "get", "(I)[Ljava/lang/Object;"⟩ : MethodName)) hown (mvT hZ (hwi hw 53 rfl)) (mvT hZ (hwi hw 54 rfl)) (notFace_of_selects (args := #[]) (mvT hZ (hwi hw 56 rfl))) (mvT hZ (hwi hw 56 rfl)) (mvT hZ (hwi hw 55 rfl)) (by decide) (backOf (W := 0) (rmG0_1_0 l Z a0 hw [] a r0 rg kr .null .null h0 n0 Z0 hR) hZ (hwi hw 57 rfl) (hwi hw 4 rfl) (by decide) (by decide)) q3a q3c (g := (mkF m 151 #[iv p1, iv p2, iv p3, iv 1, rv r0, rv r1, rv r2, rv a, iv k8, iv k9, iv 0, iv 1] [(.int 0), (.ref a)])) rfl (by rw [hml]; rfl) (Steps.refl _) (argsL := [(.int 0)]) (rest := []) (lenOf pd_5 rfl) rfl (by show 2 * 0 + _ ≤ _; exact Nat.le_of_eq rfl) (hb hby at_151) (fun _ _ => ⟨rfl, e2q, (by decide : 5 + 0 ≤ _), (by decide : 25 + 0 ≤ _)⟩)
  dsimp only [Pt.U, Pt.locs, Pt.cells, Pt.slots] at X3 l3 y3 z3 st3 hQ3
  subst l3 y3 z3
  obtain ⟨rfl, N3q, e3q⟩ := hQ3
  have N3 := Fr.app N2 N3q
  have pre4 : ∀ t_, Go p e below T3 (mkF m 236 #[iv p1, iv p2, iv p3, iv 1, rv r0, rv r1, rv r2, rv a, iv k8, iv k9, iv 0, iv 1] [(.int 1)]) t_ → Go p e below T0 (mkF m 105 #[iv p1, iv p2, iv p3, iv 1, rv r0, rv r1, rv r2, rv a, iv k8, iv k9, iv 0, .unset] []) t_ := fun t_ kt => pre0 _ (by
      show Go p e below T0 (mkF m 105 #[iv p1, iv p2, iv p3, iv 1, rv r0, rv r1, rv r2, rv a, iv k8, iv k9, iv 0, .unset] []) _
      refine XS.aload X0.here hx rfl (hb hby at_105) rfl rfl ?_
      show Go p e below T0 (mkF m 107 #[iv p1, iv p2, iv p3, iv 1, rv r0, rv r1, rv r2, rv a, iv k8, iv k9, iv 0, .unset] [(.ref a)]) _
      refine st1.trans ?_
      show Go p e below T1 (mkF m 110 #[iv p1, iv p2, iv p3, iv 1, rv r0, rv r1, rv r2, rv a, iv k8, iv k9, iv 0, .unset] [(.int 1)]) _
      refine XS.iloadN X1.here hx rfl (hb hby at_110) rfl ?_
      show Go p e below T1 (mkF m 111 #[iv p1, iv p2, iv p3, iv 1, rv r0, rv r1, rv r2, rv a, iv k8, iv k9, iv 0, .unset] [(.int 1), (.int 1)]) _
      refine XS.icmpNo X1.here hx rfl (hb hby at_111) rfl (teq ((by decide) : (1 : Int32) = (1 : Int32))).2 ?_
      show Go p e below T1 (mkF m 114 #[iv p1, iv p2, iv p3, iv 1, rv r0, rv r1, rv r2, rv a, iv k8, iv k9, iv 0, .unset] []) _
      refine XS.aload X1.here hx rfl (hb hby at_114) rfl rfl ?_
      show Go p e below T1 (mkF m 116 #[iv p1, iv p2, iv p3, iv 1, rv r0, rv r1, rv r2, rv a, iv k8, iv k9, iv 0, .unset] [(.ref a)]) _
      refine st2.trans ?_
      show Go p e below T2 (mkF m 119 #[iv p1, iv p2, iv p3, iv 1, rv r0, rv r1, rv r2, rv a, iv k8, iv k9, iv 0, .unset] [(.int 1)]) _
      refine XS.iloadN X2.here hx rfl (hb hby at_119) rfl ?_
      show Go p e below T2 (mkF m 120 #[iv p1, iv p2, iv p3, iv 1, rv r0, rv r1, rv r2, rv a, iv k8, iv k9, iv 0, .unset] [(.int 1), (.int 1)]) _
      refine XS.iload X2.here hx rfl (hb hby at_120) rfl ?_
      show Go p e below T2 (mkF m 122 #[iv p1, iv p2, iv p3, iv 1, rv r0, rv r1, rv r2, rv a, iv k8, iv k9, iv 0, .unset] [(.int 0), (.int 1), (.int 1)]) _
      refine XS.isub X2.here hx rfl (hb hby at_122) rfl ?_
      show Go p e below T2 (mkF m 123 #[iv p1, iv p2, iv p3, iv 1, rv r0, rv r1, rv r2, rv a, iv k8, iv k9, iv 0, .unset] [(.int 1), (.int 1)]) _
      refine XS.icmpNo X2.here hx rfl (hb hby at_123) rfl (teq ((by decide) : (1 : Int32) = (1 : Int32))).2 ?_
      show Go p e below T2 (mkF m 126 #[iv p1, iv p2, iv p3, iv 1, rv r0, rv r1, rv r2, rv a, iv k8, iv k9, iv 0, .unset] []) _
      refine XS.iconst X2.here hx rfl (hb hby at_126) ?_
      show Go p e below T2 (mkF m 127 #[iv p1, iv p2, iv p3, iv 1, rv r0, rv r1, rv r2, rv a, iv k8, iv k9, iv 0, .unset] [(.int 1)]) _
      refine XS.goto X2.here hx rfl (pc0 := 127) (pc' := 131) rfl (hb hby at_127) (by decide) (by decide) ?_
      show Go p e below T2 (mkF m 131 #[iv p1, iv p2, iv p3, iv 1, rv r0, rv r1, rv r2, rv a, iv k8, iv k9, iv 0, .unset] [(.int 1)]) _
      refine XS.istore X2.here hx rfl (hb hby at_131) rfl (l' := #[iv p1, iv p2, iv p3, iv 1, rv r0, rv r1, rv r2, rv a, iv k8, iv k9, iv 0, iv 1]) rfl ?_
      show Go p e below T2 (mkF m 133 #[iv p1, iv p2, iv p3, iv 1, rv r0, rv r1, rv r2, rv a, iv k8, iv k9, iv 0, iv 1] []) _
      refine XS.iload X2.here hx rfl (hb hby at_133) rfl ?_
      show Go p e below T2 (mkF m 135 #[iv p1, iv p2, iv p3, iv 1, rv r0, rv r1, rv r2, rv a, iv k8, iv k9, iv 0, iv 1] [(.int 0)]) _
      refine XS.ifNo X2.here hx rfl (hb hby at_135) rfl ((if0 _ _).trans (flt ((by decide) : ¬ ((0 : Int32) < (0 : Int32)))).2.2.1) ?_
      show Go p e below T2 (mkF m 138 #[iv p1, iv p2, iv p3, iv 1, rv r0, rv r1, rv r2, rv a, iv k8, iv k9, iv 0, iv 1] []) _
      refine XS.iconst X2.here hx rfl (hb hby at_138) ?_
      show Go p e below T2 (mkF m 139 #[iv p1, iv p2, iv p3, iv 1, rv r0, rv r1, rv r2, rv a, iv k8, iv k9, iv 0, iv 1] [(.int 0)]) _
      refine XS.iloadN X2.here hx rfl (hb hby at_139) rfl ?_
      show Go p e below T2 (mkF m 140 #[iv p1, iv p2, iv p3, iv 1, rv r0, rv r1, rv r2, rv a, iv k8, iv k9, iv 0, iv 1] [(.int 1), (.int 0)]) _
      refine XS.icmpNo X2.here hx rfl (hb hby at_140) rfl (tlt ((by decide) : (0 : Int32) < (1 : Int32))).2.1 ?_
      show Go p e below T2 (mkF m 143 #[iv p1, iv p2, iv p3, iv 1, rv r0, rv r1, rv r2, rv a, iv k8, iv k9, iv 0, iv 1] []) _
      refine XS.iload X2.here hx rfl (hb hby at_143) rfl ?_
      show Go p e below T2 (mkF m 145 #[iv p1, iv p2, iv p3, iv 1, rv r0, rv r1, rv r2, rv a, iv k8, iv k9, iv 0, iv 1] [(.int 1)]) _
      refine XS.ifNo X2.here hx rfl (hb hby at_145) rfl ((if0 _ _).trans (feq ((by decide) : ¬ ((1 : Int32) = (0 : Int32)))).1) ?_
      show Go p e below T2 (mkF m 148 #[iv p1, iv p2, iv p3, iv 1, rv r0, rv r1, rv r2, rv a, iv k8, iv k9, iv 0, iv 1] []) _
      refine XS.aload X2.here hx rfl (hb hby at_148) rfl rfl ?_
      show Go p e below T2 (mkF m 150 #[iv p1, iv p2, iv p3, iv 1, rv r0, rv r1, rv r2, rv a, iv k8, iv k9, iv 0, iv 1] [(.ref a)]) _
      refine XS.iconst X2.here hx rfl (hb hby at_150) ?_
      show Go p e below T2 (mkF m 151 #[iv p1, iv p2, iv p3, iv 1, rv r0, rv r1, rv r2, rv a, iv k8, iv k9, iv 0, iv 1] [(.int 0), (.ref a)]) _
      refine st3.trans ?_
      show Go p e below T3 (mkF m 154 #[iv p1, iv p2, iv p3, iv 1, rv r0, rv r1, rv r2, rv a, iv k8, iv k9, iv 0, iv 1] [(.ref r0)]) _
      refine XS.aload X3.here hx rfl (hb hby at_154) rfl rfl ?_
      show Go p e below T3 (mkF m 156 #[iv p1, iv p2, iv p3, iv 1, rv r0, rv r1, rv r2, rv a, iv k8, iv k9, iv 0, iv 1] [(.ref r0), (.ref r0)]) _
      refine Jvm.RoadKit.acmp (g := (mkF m 156 #[iv p1, iv p2, iv p3, iv 1, rv r0, rv r1, rv r2, rv a, iv k8, iv k9, iv 0, iv 1] [(.ref r0), (.ref r0)])) X3 hx rfl rfl rfl (pc0 := 156) (pc' := 159) (same := true) rfl (hb hby at_156) rfl (decide_eq_true rfl) (by decide) (by decide) ?_
      show Go p e below T3 (mkF m 159 #[iv p1, iv p2, iv p3, iv 1, rv r0, rv r1, rv r2, rv a, iv k8, iv k9, iv 0, iv 1] []) _
      refine XS.iconst X3.here hx rfl (hb hby at_159) ?_
      show Go p e below T3 (mkF m 160 #[iv p1, iv p2, iv p3, iv 1, rv r0, rv r1, rv r2, rv a, iv k8, iv k9, iv 0, iv 1] [(.int 1)]) _
      refine XS.goto X3.here hx rfl (pc0 := 160) (pc' := 164) rfl (hb hby at_160) (by decide) (by decide) ?_
      show Go p e below T3 (mkF m 164 #[iv p1, iv p2, iv p3, iv 1, rv r0, rv r1, rv r2, rv a, iv k8, iv k9, iv 0, iv 1] [(.int 1)]) _
      refine XS.istore X3.here hx rfl (hb hby at_164) rfl (l' := #[iv p1, iv p2, iv p3, iv 1, rv r0, rv r1, rv r2, rv a, iv k8, iv k9, iv 0, iv 1]) rfl ?_
      show Go p e below T3 (mkF m 166 #[iv p1, iv p2, iv p3, iv 1, rv r0, rv r1, rv r2, rv a, iv k8, iv k9, iv 0, iv 1] []) _
      refine XS.iload X3.here hx rfl (hb hby at_166) rfl ?_
      show Go p e below T3 (mkF m 168 #[iv p1, iv p2, iv p3, iv 1, rv r0, rv r1, rv r2, rv a, iv k8, iv k9, iv 0, iv 1] [(.int 0)]) _
      refine XS.iconst X3.here hx rfl (hb hby at_168) ?_
      show Go p e below T3 (mkF m 169 #[iv p1, iv p2, iv p3, iv 1, rv r0, rv r1, rv r2, rv a, iv k8, iv k9, iv 0, iv 1] [(.int 1), (.int 0)]) _
      refine XS.icmpNo X3.here hx rfl (hb hby at_169) rfl (flt ((by decide) : ¬ ((1 : Int32) < (0 : Int32)))).2.2.1 ?_
      show Go p e below T3 (mkF m 172 #[iv p1, iv p2, iv p3, iv 1, rv r0, rv r1, rv r2, rv a, iv k8, iv k9, iv 0, iv 1] []) _
      refine XS.iconst X3.here hx rfl (hb hby at_172) ?_
      show Go p e below T3 (mkF m 173 #[iv p1, iv p2, iv p3, iv 1, rv r0, rv r1, rv r2, rv a, iv k8, iv k9, iv 0, iv 1] [(.int 1)]) _
      refine XS.iloadN X3.here hx rfl (hb hby at_173) rfl ?_
      show Go p e below T3 (mkF m 174 #[iv p1, iv p2, iv p3, iv 1, rv r0, rv r1, rv r2, rv a, iv k8, iv k9, iv 0, iv 1] [(.int 1), (.int 1)]) _
      refine XS.icmpYes X3.here hx rfl (pc0 := 174) (pc' := 200) rfl (hb hby at_174) rfl (flt ((by decide) : ¬ ((1 : Int32) < (1 : Int32)))).2.1 (by decide) (by decide) ?_
      show Go p e below T3 (mkF m 200 #[iv p1, iv p2, iv p3, iv 1, rv r0, rv r1, rv r2, rv a, iv k8, iv k9, iv 0, iv 1] []) _
      refine XS.iload X3.here hx rfl (hb hby at_200) rfl ?_
      show Go p e below T3 (mkF m 202 #[iv p1, iv p2, iv p3, iv 1, rv r0, rv r1, rv r2, rv a, iv k8, iv k9, iv 0, iv 1] [(.int 0)]) _
      refine XS.iconst X3.here hx rfl (hb hby at_202) ?_
      show Go p e below T3 (mkF m 203 #[iv p1, iv p2, iv p3, iv 1, rv r0, rv r1, rv r2, rv a, iv k8, iv k9, iv 0, iv 1] [(.int 2), (.int 0)]) _
      refine XS.icmpNo X3.here hx rfl (hb hby at_203) rfl (flt ((by decide) : ¬ ((2 : Int32) < (0 : Int32)))).2.2.1 ?_
      show Go p e below T3 (mkF m 206 #[iv p1, iv p2, iv p3, iv 1, rv r0, rv r1, rv r2, rv a, iv k8, iv k9, iv 0, iv 1] []) _
      refine XS.iconst X3.here hx rfl (hb hby at_206) ?_
      show Go p e below T3 (mkF m 207 #[iv p1, iv p2, iv p3, iv 1, rv r0, rv r1, rv r2, rv a, iv k8, iv k9, iv 0, iv 1] [(.int 2)]) _
      refine XS.iloadN X3.here hx rfl (hb hby at_207) rfl ?_
      show Go p e below T3 (mkF m 208 #[iv p1, iv p2, iv p3, iv 1, rv r0, rv r1, rv r2, rv a, iv k8, iv k9, iv 0, iv 1] [(.int 1), (.int 2)]) _
      refine XS.icmpYes X3.here hx rfl (pc0 := 208) (pc' := 234) rfl (hb hby at_208) rfl (flt ((by decide) : ¬ ((2 : Int32) < (1 : Int32)))).2.1 (by decide) (by decide) ?_
      show Go p e below T3 (mkF m 234 #[iv p1, iv p2, iv p3, iv 1, rv r0, rv r1, rv r2, rv a, iv k8, iv k9, iv 0, iv 1] []) _
      refine XS.iload X3.here hx rfl (hb hby at_234) rfl ?_
      show Go p e below T3 (mkF m 236 #[iv p1, iv p2, iv p3, iv 1, rv r0, rv r1, rv r2, rv a, iv k8, iv k9, iv 0, iv 1] [(.int 1)]) _
      exact kt)
  obtain ⟨fs, hr, hrun, hended, hW, hsame⟩ := X3.leave (v := some (.int 1)) (fun h => by rw [hret] at h; cases h)
  refine ⟨_, _, pre4 _ ?_, hrun, hended, _, _, rfl, ?_, ⟨_, rfl⟩, hW, hsame.mono (by decide) (by decide)⟩
  · show Steps p.tables e below (T3.setTop (mkF m 236 #[iv p1, iv p2, iv p3, iv 1, rv r0, rv r1, rv r2, rv a, iv k8, iv k9, iv 0, iv 1] [(.int 1)])) _
    exact retN X3 hx (t := .boolean) hret (by simp) (hb hby at_236) hr
  · exact ⟨rfl, N3⟩
set_option maxRecDepth 65536 in
set_option maxHeartbeats 40000000 in
theorem tl1_1 {p : Program} {l : Launch} {e : Env} {s : State} {m : MethodId} {args : Array Value} {below : List Frame} {meth : Method} {c : Code} {T0 : State} {locs : List Loc} {Z : State} {a0 : Array Value} (p1 : Int32) (p2 : Int32) (p3 : Int32) (k8 : Int32) (k9 : Int32) (a : Addr) (r0 : Addr) (r1 : Addr) (r2 : Addr) (rg : Addr) (kr : ClassId) (h0 : Heap) (n0 : Nat) (X0 : Stand p l e room_1 s m args below meth c T0 locs 5 25) (hx : p.tables.exec = Jvm.exec) (hZ : Z.Warmed39 s.vm) (hw : ∀ d ∈ tables_1, d.before a0 Z = true) (hby : c.code = code) (hml : c.maxLocals = 12) (hown : s.vm.findClass "com/example/rowmotif/rowmotif/matcher/PartitionRowsReleasePinLaw" = some m.cls) (hret : meth.sig.returnType = some .boolean) (hlocks : meth.locks = false) (e0 : T0.heap = h0) (N0 : Fr n0 locs) (Z0 : n0 ≤ h0.size) (hR : Rg Z h0 a rg kr (1 : Int32) (0 : Int32) .null .null .null) :
    ∃ s₂ o₂, Go p e below T0 (mkF m 105 #[iv p1, iv p2, iv p3, iv 1, rv r0, rv r1, rv r2, rv a, iv k8, iv k9, iv 1, .unset] []) s₂ ∧ s₂.status = .running ∧ Ended s₂ below o₂ ∧ ∃ v₂ L₂, o₂ = .returned v₂ ∧ (v₂ = some (.int 1) ∧ Fr n0 L₂) ∧ FrameEnd s o₂ s₂ L₂ room_1.cells room_1.slots := by
  have pre0 : ∀ t_, Go p e below T0 (mkF m 105 #[iv p1, iv p2, iv p3, iv 1, rv r0, rv r1, rv r2, rv a, iv k8, iv k9, iv 1, .unset] []) t_ → Go p e below T0 (mkF m 105 #[iv p1, iv p2, iv p3, iv 1, rv r0, rv r1, rv r2, rv a, iv k8, iv k9, iv 1, .unset] []) t_ := fun _ kt => kt
  obtain ⟨cq1, kq1, q1a, q1b, q1c⟩ := isOf hZ e0 hR.1
  obtain ⟨_, _, ⟨T1, L1, k1, n1⟩, -, X1, ⟨Lc1, hQ1, l1, y1, z1⟩, st1⟩ := X0.virtualBack hx (y := (⟨"com/example/rowmotif/rowmotif/matcher/PartitionRows", "size", "()I"⟩ : MethodName)) (z := (⟨"com/example/rowmotif/rowmotif/matcher/PartitionRows", "size", "()I"⟩ : MethodName)) hown (mvT hZ (hwi hw 29 rfl)) (mvT hZ (hwi hw 30 rfl)) (notFace_of_selects (args := #[]) (mvT hZ (hwi hw 32 rfl))) (mvT hZ (hwi hw 32 rfl)) (mvT hZ (hwi hw 31 rfl)) (by decide) (backOf (W := 0) (rmZ l Z a0 hw [] a (1 : Int32) (0 : Int32) h0 n0 Z0 hR.2.2.2.2.1 hR.2.2.2.1) hZ (hwi hw 33 rfl) (hwi hw 4 rfl) (by decide) (by decide)) q1a q1c (g := (mkF m 107 #[iv p1, iv p2, iv p3, iv 1, rv r0, rv r1, rv r2, rv a, iv k8, iv k9, iv 1, .unset] [(.ref a)])) rfl (by rw [hml]; rfl) (Steps.refl _) (argsL := []) (rest := []) (lenOf pd_3 rfl) rfl (by show 2 * 0 + _ ≤ _; exact Nat.le_of_eq rfl) (hb hby at_107) (fun _ _ => ⟨rfl, e0, (by decide : 5 + 0 ≤ _), (by decide : 25 + 0 ≤ _)⟩)
  dsimp only [Pt.U, Pt.locs, Pt.cells, Pt.slots] at X1 l1 y1 z1 st1 hQ1
  subst l1 y1 z1
  obtain ⟨hv1, N1q, e1q⟩ := hQ1
  have N1 := Fr.app N0 N1q
  rw [show ((1 : Int32) + (0 : Int32)) = (1 : Int32) from by decide] at hv1
  subst hv1
  obtain ⟨cq2, kq2, q2a, q2b, q2c⟩ := isOf hZ e1q hR.1
  obtain ⟨_, _, ⟨T2, L2, k2, n2⟩, -, X2, ⟨Lc2, hQ2, l2, y2, z2⟩, st2⟩ := X1.virtualBack hx (y := (⟨"com/example/rowmotif/rowmotif/matcher/PartitionRows", "held", "()I"⟩ : MethodName)) (z := (⟨"com/example/rowmotif/rowmotif/matcher/PartitionRows", "held", "()I"⟩ : MethodName)) hown (mvT hZ (hwi hw 36 rfl)) (mvT hZ (hwi hw 37 rfl)) (notFace_of_selects (args := #[]) (mvT hZ (hwi hw 39 rfl))) (mvT hZ (hwi hw 39 rfl)) (mvT hZ (hwi hw 38 rfl)) (by decide) (backOf (W := 0) (rmHd l Z a0 hw [] a (0 : Int32) h0 n0 Z0 hR.2.2.2.1) hZ (hwi hw 40 rfl) (hwi hw 4 rfl) (by decide) (by decide)) q2a q2c (g := (mkF m 116 #[iv p1, iv p2, iv p3, iv 1, rv r0, rv r1, rv r2, rv a, iv k8, iv k9, iv 1, .unset] [(.ref a)])) rfl (by rw [hml]; rfl) (Steps.refl _) (argsL := []) (rest := []) (lenOf pd_3 rfl) rfl (by show 2 * 0 + _ ≤ _; exact Nat.le_of_eq rfl) (hb hby at_116) (fun _ _ => ⟨rfl, e1q, (by decide : 5 + 0 ≤ _), (by decide : 25 + 0 ≤ _)⟩)
  dsimp only [Pt.U, Pt.locs, Pt.cells, Pt.slots] at X2 l2 y2 z2 st2 hQ2
  subst l2 y2 z2
  obtain ⟨rfl, N2q, e2q⟩ := hQ2
  have N2 := Fr.app N1 N2q
  have pre3 : ∀ t_, Go p e below T2 (mkF m 236 #[iv p1, iv p2, iv p3, iv 1, rv r0, rv r1, rv r2, rv a, iv k8, iv k9, iv 1, iv 1] [(.int 1)]) t_ → Go p e below T0 (mkF m 105 #[iv p1, iv p2, iv p3, iv 1, rv r0, rv r1, rv r2, rv a, iv k8, iv k9, iv 1, .unset] []) t_ := fun t_ kt => pre0 _ (by
      show Go p e below T0 (mkF m 105 #[iv p1, iv p2, iv p3, iv 1, rv r0, rv r1, rv r2, rv a, iv k8, iv k9, iv 1, .unset] []) _
      refine XS.aload X0.here hx rfl (hb hby at_105) rfl rfl ?_
      show Go p e below T0 (mkF m 107 #[iv p1, iv p2, iv p3, iv 1, rv r0, rv r1, rv r2, rv a, iv k8, iv k9, iv 1, .unset] [(.ref a)]) _
      refine st1.trans ?_
      show Go p e below T1 (mkF m 110 #[iv p1, iv p2, iv p3, iv 1, rv r0, rv r1, rv r2, rv a, iv k8, iv k9, iv 1, .unset] [(.int 1)]) _
      refine XS.iloadN X1.here hx rfl (hb hby at_110) rfl ?_
      show Go p e below T1 (mkF m 111 #[iv p1, iv p2, iv p3, iv 1, rv r0, rv r1, rv r2, rv a, iv k8, iv k9, iv 1, .unset] [(.int 1), (.int 1)]) _
      refine XS.icmpNo X1.here hx rfl (hb hby at_111) rfl (teq ((by decide) : (1 : Int32) = (1 : Int32))).2 ?_
      show Go p e below T1 (mkF m 114 #[iv p1, iv p2, iv p3, iv 1, rv r0, rv r1, rv r2, rv a, iv k8, iv k9, iv 1, .unset] []) _
      refine XS.aload X1.here hx rfl (hb hby at_114) rfl rfl ?_
      show Go p e below T1 (mkF m 116 #[iv p1, iv p2, iv p3, iv 1, rv r0, rv r1, rv r2, rv a, iv k8, iv k9, iv 1, .unset] [(.ref a)]) _
      refine st2.trans ?_
      show Go p e below T2 (mkF m 119 #[iv p1, iv p2, iv p3, iv 1, rv r0, rv r1, rv r2, rv a, iv k8, iv k9, iv 1, .unset] [(.int 0)]) _
      refine XS.iloadN X2.here hx rfl (hb hby at_119) rfl ?_
      show Go p e below T2 (mkF m 120 #[iv p1, iv p2, iv p3, iv 1, rv r0, rv r1, rv r2, rv a, iv k8, iv k9, iv 1, .unset] [(.int 1), (.int 0)]) _
      refine XS.iload X2.here hx rfl (hb hby at_120) rfl ?_
      show Go p e below T2 (mkF m 122 #[iv p1, iv p2, iv p3, iv 1, rv r0, rv r1, rv r2, rv a, iv k8, iv k9, iv 1, .unset] [(.int 1), (.int 1), (.int 0)]) _
      refine XS.isub X2.here hx rfl (hb hby at_122) rfl ?_
      show Go p e below T2 (mkF m 123 #[iv p1, iv p2, iv p3, iv 1, rv r0, rv r1, rv r2, rv a, iv k8, iv k9, iv 1, .unset] [(.int 0), (.int 0)]) _
      refine XS.icmpNo X2.here hx rfl (hb hby at_123) rfl (teq ((by decide) : (0 : Int32) = (0 : Int32))).2 ?_
      show Go p e below T2 (mkF m 126 #[iv p1, iv p2, iv p3, iv 1, rv r0, rv r1, rv r2, rv a, iv k8, iv k9, iv 1, .unset] []) _
      refine XS.iconst X2.here hx rfl (hb hby at_126) ?_
      show Go p e below T2 (mkF m 127 #[iv p1, iv p2, iv p3, iv 1, rv r0, rv r1, rv r2, rv a, iv k8, iv k9, iv 1, .unset] [(.int 1)]) _
      refine XS.goto X2.here hx rfl (pc0 := 127) (pc' := 131) rfl (hb hby at_127) (by decide) (by decide) ?_
      show Go p e below T2 (mkF m 131 #[iv p1, iv p2, iv p3, iv 1, rv r0, rv r1, rv r2, rv a, iv k8, iv k9, iv 1, .unset] [(.int 1)]) _
      refine XS.istore X2.here hx rfl (hb hby at_131) rfl (l' := #[iv p1, iv p2, iv p3, iv 1, rv r0, rv r1, rv r2, rv a, iv k8, iv k9, iv 1, iv 1]) rfl ?_
      show Go p e below T2 (mkF m 133 #[iv p1, iv p2, iv p3, iv 1, rv r0, rv r1, rv r2, rv a, iv k8, iv k9, iv 1, iv 1] []) _
      refine XS.iload X2.here hx rfl (hb hby at_133) rfl ?_
      show Go p e below T2 (mkF m 135 #[iv p1, iv p2, iv p3, iv 1, rv r0, rv r1, rv r2, rv a, iv k8, iv k9, iv 1, iv 1] [(.int 1)]) _
      refine XS.ifYes X2.here hx rfl (pc0 := 135) (pc' := 166) rfl (hb hby at_135) rfl ((if0 _ _).trans (tlt ((by decide) : (0 : Int32) < (1 : Int32))).2.2.1) (by decide) (by decide) ?_
      show Go p e below T2 (mkF m 166 #[iv p1, iv p2, iv p3, iv 1, rv r0, rv r1, rv r2, rv a, iv k8, iv k9, iv 1, iv 1] []) _
      refine XS.iload X2.here hx rfl (hb hby at_166) rfl ?_
      show Go p e below T2 (mkF m 168 #[iv p1, iv p2, iv p3, iv 1, rv r0, rv r1, rv r2, rv a, iv k8, iv k9, iv 1, iv 1] [(.int 1)]) _
      refine XS.iconst X2.here hx rfl (hb hby at_168) ?_
      show Go p e below T2 (mkF m 169 #[iv p1, iv p2, iv p3, iv 1, rv r0, rv r1, rv r2, rv a, iv k8, iv k9, iv 1, iv 1] [(.int 1), (.int 1)]) _
      refine XS.icmpNo X2.here hx rfl (hb hby at_169) rfl (flt ((by decide) : ¬ ((1 : Int32) < (1 : Int32)))).2.2.1 ?_
      show Go p e below T2 (mkF m 172 #[iv p1, iv p2, iv p3, iv 1, rv r0, rv r1, rv r2, rv a, iv k8, iv k9, iv 1, iv 1] []) _
      refine XS.iconst X2.here hx rfl (hb hby at_172) ?_
      show Go p e below T2 (mkF m 173 #[iv p1, iv p2, iv p3, iv 1, rv r0, rv r1, rv r2, rv a, iv k8, iv k9, iv 1, iv 1] [(.int 1)]) _
      refine XS.iloadN X2.here hx rfl (hb hby at_173) rfl ?_
      show Go p e below T2 (mkF m 174 #[iv p1, iv p2, iv p3, iv 1, rv r0, rv r1, rv r2, rv a, iv k8, iv k9, iv 1, iv 1] [(.int 1), (.int 1)]) _
      refine XS.icmpYes X2.here hx rfl (pc0 := 174) (pc' := 200) rfl (hb hby at_174) rfl (flt ((by decide) : ¬ ((1 : Int32) < (1 : Int32)))).2.1 (by decide) (by decide) ?_
      show Go p e below T2 (mkF m 200 #[iv p1, iv p2, iv p3, iv 1, rv r0, rv r1, rv r2, rv a, iv k8, iv k9, iv 1, iv 1] []) _
      refine XS.iload X2.here hx rfl (hb hby at_200) rfl ?_
      show Go p e below T2 (mkF m 202 #[iv p1, iv p2, iv p3, iv 1, rv r0, rv r1, rv r2, rv a, iv k8, iv k9, iv 1, iv 1] [(.int 1)]) _
      refine XS.iconst X2.here hx rfl (hb hby at_202) ?_
      show Go p e below T2 (mkF m 203 #[iv p1, iv p2, iv p3, iv 1, rv r0, rv r1, rv r2, rv a, iv k8, iv k9, iv 1, iv 1] [(.int 2), (.int 1)]) _
      refine XS.icmpNo X2.here hx rfl (hb hby at_203) rfl (flt ((by decide) : ¬ ((2 : Int32) < (1 : Int32)))).2.2.1 ?_
      show Go p e below T2 (mkF m 206 #[iv p1, iv p2, iv p3, iv 1, rv r0, rv r1, rv r2, rv a, iv k8, iv k9, iv 1, iv 1] []) _
      refine XS.iconst X2.here hx rfl (hb hby at_206) ?_
      show Go p e below T2 (mkF m 207 #[iv p1, iv p2, iv p3, iv 1, rv r0, rv r1, rv r2, rv a, iv k8, iv k9, iv 1, iv 1] [(.int 2)]) _
      refine XS.iloadN X2.here hx rfl (hb hby at_207) rfl ?_
      show Go p e below T2 (mkF m 208 #[iv p1, iv p2, iv p3, iv 1, rv r0, rv r1, rv r2, rv a, iv k8, iv k9, iv 1, iv 1] [(.int 1), (.int 2)]) _
      refine XS.icmpYes X2.here hx rfl (pc0 := 208) (pc' := 234) rfl (hb hby at_208) rfl (flt ((by decide) : ¬ ((2 : Int32) < (1 : Int32)))).2.1 (by decide) (by decide) ?_
      show Go p e below T2 (mkF m 234 #[iv p1, iv p2, iv p3, iv 1, rv r0, rv r1, rv r2, rv a, iv k8, iv k9, iv 1, iv 1] []) _
      refine XS.iload X2.here hx rfl (hb hby at_234) rfl ?_
      show Go p e below T2 (mkF m 236 #[iv p1, iv p2, iv p3, iv 1, rv r0, rv r1, rv r2, rv a, iv k8, iv k9, iv 1, iv 1] [(.int 1)]) _
      exact kt)
  obtain ⟨fs, hr, hrun, hended, hW, hsame⟩ := X2.leave (v := some (.int 1)) (fun h => by rw [hret] at h; cases h)
  refine ⟨_, _, pre3 _ ?_, hrun, hended, _, _, rfl, ?_, ⟨_, rfl⟩, hW, hsame.mono (by decide) (by decide)⟩
  · show Steps p.tables e below (T2.setTop (mkF m 236 #[iv p1, iv p2, iv p3, iv 1, rv r0, rv r1, rv r2, rv a, iv k8, iv k9, iv 1, iv 1] [(.int 1)])) _
    exact retN X2 hx (t := .boolean) hret (by simp) (hb hby at_236) hr
  · exact ⟨rfl, N2⟩
set_option maxRecDepth 65536 in
set_option maxHeartbeats 40000000 in
theorem tl2_0 {p : Program} {l : Launch} {e : Env} {s : State} {m : MethodId} {args : Array Value} {below : List Frame} {meth : Method} {c : Code} {T0 : State} {locs : List Loc} {Z : State} {a0 : Array Value} (p1 : Int32) (p2 : Int32) (p3 : Int32) (k8 : Int32) (k9 : Int32) (a : Addr) (r0 : Addr) (r1 : Addr) (r2 : Addr) (rg : Addr) (kr : ClassId) (h0 : Heap) (n0 : Nat) (X0 : Stand p l e room_1 s m args below meth c T0 locs 5 25) (hx : p.tables.exec = Jvm.exec) (hZ : Z.Warmed39 s.vm) (hw : ∀ d ∈ tables_1, d.before a0 Z = true) (hby : c.code = code) (hml : c.maxLocals = 12) (hown : s.vm.findClass "com/example/rowmotif/rowmotif/matcher/PartitionRowsReleasePinLaw" = some m.cls) (hret : meth.sig.returnType = some .boolean) (hlocks : meth.locks = false) (e0 : T0.heap = h0) (N0 : Fr n0 locs) (Z0 : n0 ≤ h0.size) (hR : Rg Z h0 a rg kr (0 : Int32) (2 : Int32) (.ref r0) (.ref r1) .null) :
    ∃ s₂ o₂, Go p e below T0 (mkF m 105 #[iv p1, iv p2, iv p3, iv 2, rv r0, rv r1, rv r2, rv a, iv k8, iv k9, iv 0, .unset] []) s₂ ∧ s₂.status = .running ∧ Ended s₂ below o₂ ∧ ∃ v₂ L₂, o₂ = .returned v₂ ∧ (v₂ = some (.int 1) ∧ Fr n0 L₂) ∧ FrameEnd s o₂ s₂ L₂ room_1.cells room_1.slots := by
  have pre0 : ∀ t_, Go p e below T0 (mkF m 105 #[iv p1, iv p2, iv p3, iv 2, rv r0, rv r1, rv r2, rv a, iv k8, iv k9, iv 0, .unset] []) t_ → Go p e below T0 (mkF m 105 #[iv p1, iv p2, iv p3, iv 2, rv r0, rv r1, rv r2, rv a, iv k8, iv k9, iv 0, .unset] []) t_ := fun _ kt => kt
  obtain ⟨cq1, kq1, q1a, q1b, q1c⟩ := isOf hZ e0 hR.1
  obtain ⟨_, _, ⟨T1, L1, k1, n1⟩, -, X1, ⟨Lc1, hQ1, l1, y1, z1⟩, st1⟩ := X0.virtualBack hx (y := (⟨"com/example/rowmotif/rowmotif/matcher/PartitionRows", "size", "()I"⟩ : MethodName)) (z := (⟨"com/example/rowmotif/rowmotif/matcher/PartitionRows", "size", "()I"⟩ : MethodName)) hown (mvT hZ (hwi hw 29 rfl)) (mvT hZ (hwi hw 30 rfl)) (notFace_of_selects (args := #[]) (mvT hZ (hwi hw 32 rfl))) (mvT hZ (hwi hw 32 rfl)) (mvT hZ (hwi hw 31 rfl)) (by decide) (backOf (W := 0) (rmZ l Z a0 hw [] a (0 : Int32) (2 : Int32) h0 n0 Z0 hR.2.2.2.2.1 hR.2.2.2.1) hZ (hwi hw 33 rfl) (hwi hw 4 rfl) (by decide) (by decide)) q1a q1c (g := (mkF m 107 #[iv p1, iv p2, iv p3, iv 2, rv r0, rv r1, rv r2, rv a, iv k8, iv k9, iv 0, .unset] [(.ref a)])) rfl (by rw [hml]; rfl) (Steps.refl _) (argsL := []) (rest := []) (lenOf pd_3 rfl) rfl (by show 2 * 0 + _ ≤ _; exact Nat.le_of_eq rfl) (hb hby at_107) (fun _ _ => ⟨rfl, e0, (by decide : 5 + 0 ≤ _), (by decide : 25 + 0 ≤ _)⟩)
  dsimp only [Pt.U, Pt.locs, Pt.cells, Pt.slots] at X1 l1 y1 z1 st1 hQ1
  subst l1 y1 z1
  obtain ⟨hv1, N1q, e1q⟩ := hQ1
  have N1 := Fr.app N0 N1q
  rw [show ((0 : Int32) + (2 : Int32)) = (2 : Int32) from by decide] at hv1
  subst hv1
  obtain ⟨cq2, kq2, q2a, q2b, q2c⟩ := isOf hZ e1q hR.1
  obtain ⟨_, _, ⟨T2, L2, k2, n2⟩, -, X2, ⟨Lc2, hQ2, l2, y2, z2⟩, st2⟩ := X1.virtualBack hx (y := (⟨"com/example/rowmotif/rowmotif/matcher/PartitionRows", "held", "()I"⟩ : MethodName)) (z := (⟨"com/example/rowmotif/rowmotif/matcher/PartitionRows", "held", "()I"⟩ : MethodName)) hown (mvT hZ (hwi hw 36 rfl)) (mvT hZ (hwi hw 37 rfl)) (notFace_of_selects (args := #[]) (mvT hZ (hwi hw 39 rfl))) (mvT hZ (hwi hw 39 rfl)) (mvT hZ (hwi hw 38 rfl)) (by decide) (backOf (W := 0) (rmHd l Z a0 hw [] a (2 : Int32) h0 n0 Z0 hR.2.2.2.1) hZ (hwi hw 40 rfl) (hwi hw 4 rfl) (by decide) (by decide)) q2a q2c (g := (mkF m 116 #[iv p1, iv p2, iv p3, iv 2, rv r0, rv r1, rv r2, rv a, iv k8, iv k9, iv 0, .unset] [(.ref a)])) rfl (by rw [hml]; rfl) (Steps.refl _) (argsL := []) (rest := []) (lenOf pd_3 rfl) rfl (by show 2 * 0 + _ ≤ _; exact Nat.le_of_eq rfl) (hb hby at_116) (fun _ _ => ⟨rfl, e1q, (by decide : 5 + 0 ≤ _), (by decide : 25 + 0 ≤ _)⟩)
  dsimp only [Pt.U, Pt.locs, Pt.cells, Pt.slots] at X2 l2 y2 z2 st2 hQ2
  subst l2 y2 z2
  obtain ⟨rfl, N2q, e2q⟩ := hQ2
  have N2 := Fr.app N1 N2q
  obtain ⟨cq3, kq3, q3a, q3b, q3c⟩ := isOf hZ e2q hR.1
  obtain ⟨_, _, ⟨T3, L3, k3, n3⟩, -, X3, ⟨Lc3, hQ3, l3, y3, z3⟩, st3⟩ := X2.virtualBack hx (y := (⟨"com/example/rowmotif/rowmotif/matcher/PartitionRows", "get", "(I)[Ljava/lang/Object;"⟩ : MethodName)) (z := (⟨"com/example/rowmotif/rowmotif/matcher/PartitionRows", "get", "(I)[Ljava/lang/Object;"⟩ : MethodName)) hown (mvT hZ (hwi hw 53 rfl)) (mvT hZ (hwi hw 54 rfl)) (notFace_of_selects (args := #[]) (mvT hZ (hwi hw 56 rfl))) (mvT hZ (hwi hw 56 rfl)) (mvT hZ (hwi hw 55 rfl)) (by decide) (backOf (W := 0) (rmG0_2_0 l Z a0 hw [] a r0 rg kr (.ref r1) .null h0 n0 Z0 hR) hZ (hwi hw 57 rfl) (hwi hw 4 rfl) (by decide) (by decide)) q3a q3c (g := (mkF m 151 #[iv p1, iv p2, iv p3, iv 2, rv r0, rv r1, rv r2, rv a, iv k8, iv k9, iv 0, iv 1] [(.int 0), (.ref a)])) rfl (by rw [hml]; rfl) (Steps.refl _) (argsL := [(.int 0)]) (rest := []) (lenOf pd_5 rfl) rfl (by show 2 * 0 + _ ≤ _; exact Nat.le_of_eq rfl) (hb hby at_151) (fun _ _ => ⟨rfl, e2q, (by decide : 5 + 0 ≤ _), (by decide : 25 + 0 ≤ _)⟩)
  dsimp only [Pt.U, Pt.locs, Pt.cells, Pt.slots] at X3 l3 y3 z3 st3 hQ3
  subst l3 y3 z3
  obtain ⟨rfl, N3q, e3q⟩ := hQ3
  have N3 := Fr.app N2 N3q
  obtain ⟨cq4, kq4, q4a, q4b, q4c⟩ := isOf hZ e3q hR.1
  obtain ⟨_, _, ⟨T4, L4, k4, n4⟩, -, X4, ⟨Lc4, hQ4, l4, y4, z4⟩, st4⟩ := X3.virtualBack hx (y := (⟨"com/example/rowmotif/rowmotif/matcher/PartitionRows", "get", "(I)[Ljava/lang/Object;"⟩ : MethodName)) (z := (⟨"com/example/rowmotif/rowmotif/matcher/PartitionRows", "get", "(I)[Ljava/lang/Object;"⟩ : MethodName)) hown (mvT hZ (hwi hw 53 rfl)) (mvT hZ (hwi hw 54 rfl)) (notFace_of_selects (args := #[]) (mvT hZ (hwi hw 56 rfl))) (mvT hZ (hwi hw 56 rfl)) (mvT hZ (hwi hw 55 rfl)) (by decide) (backOf (W := 0) (rmG0_2_1 l Z a0 hw [] a r1 rg kr (.ref r0) .null h0 n0 Z0 hR) hZ (hwi hw 57 rfl) (hwi hw 4 rfl) (by decide) (by decide)) q4a q4c (g := (mkF m 185 #[iv p1, iv p2, iv p3, iv 2, rv r0, rv r1, rv r2, rv a, iv k8, iv k9, iv 0, iv 1] [(.int 1), (.ref a)])) rfl (by rw [hml]; rfl) (Steps.refl _) (argsL := [(.int 1)]) (rest := []) (lenOf pd_5 rfl) rfl (by show 2 * 0 + _ ≤ _; exact Nat.le_of_eq rfl) (hb hby at_185) (fun _ _ => ⟨rfl, e3q, (by decide : 5 + 0 ≤ _), (by decide : 25 + 0 ≤ _)⟩)
  dsimp only [Pt.U, Pt.locs, Pt.cells, Pt.slots] at X4 l4 y4 z4 st4 hQ4
  subst l4 y4 z4
  obtain ⟨rfl, N4q, e4q⟩ := hQ4
  have N4 := Fr.app N3 N4q
  have pre5 : ∀ t_, Go p e below T4 (mkF m 236 #[iv p1, iv p2, iv p3, iv 2, rv r0, rv r1, rv r2, rv a, iv k8, iv k9, iv 0, iv 1] [(.int 1)]) t_ → Go p e below T0 (mkF m 105 #[iv p1, iv p2, iv p3, iv 2, rv r0, rv r1, rv r2, rv a, iv k8, iv k9, iv 0, .unset] []) t_ := fun t_ kt => pre0 _ (by
      show Go p e below T0 (mkF m 105 #[iv p1, iv p2, iv p3, iv 2, rv r0, rv r1, rv r2, rv a, iv k8, iv k9, iv 0, .unset] []) _
      refine XS.aload X0.here hx rfl (hb hby at_105) rfl rfl ?_
      show Go p e below T0 (mkF m 107 #[iv p1, iv p2, iv p3, iv 2, rv r0, rv r1, rv r2, rv a, iv k8, iv k9, iv 0, .unset] [(.ref a)]) _
      refine st1.trans ?_
      show Go p e below T1 (mkF m 110 #[iv p1, iv p2, iv p3, iv 2, rv r0, rv r1, rv r2, rv a, iv k8, iv k9, iv 0, .unset] [(.int 2)]) _
      refine XS.iloadN X1.here hx rfl (hb hby at_110) rfl ?_
      show Go p e below T1 (mkF m 111 #[iv p1, iv p2, iv p3, iv 2, rv r0, rv r1, rv r2, rv a, iv k8, iv k9, iv 0, .unset] [(.int 2), (.int 2)]) _
      refine XS.icmpNo X1.here hx rfl (hb hby at_111) rfl (teq ((by decide) : (2 : Int32) = (2 : Int32))).2 ?_
      show Go p e below T1 (mkF m 114 #[iv p1, iv p2, iv p3, iv 2, rv r0, rv r1, rv r2, rv a, iv k8, iv k9, iv 0, .unset] []) _
      refine XS.aload X1.here hx rfl (hb hby at_114) rfl rfl ?_
      show Go p e below T1 (mkF m 116 #[iv p1, iv p2, iv p3, iv 2, rv r0, rv r1, rv r2, rv a, iv k8, iv k9, iv 0, .unset] [(.ref a)]) _
      refine st2.trans ?_
      show Go p e below T2 (mkF m 119 #[iv p1, iv p2, iv p3, iv 2, rv r0, rv r1, rv r2, rv a, iv k8, iv k9, iv 0, .unset] [(.int 2)]) _
      refine XS.iloadN X2.here hx rfl (hb hby at_119) rfl ?_
      show Go p e below T2 (mkF m 120 #[iv p1, iv p2, iv p3, iv 2, rv r0, rv r1, rv r2, rv a, iv k8, iv k9, iv 0, .unset] [(.int 2), (.int 2)]) _
      refine XS.iload X2.here hx rfl (hb hby at_120) rfl ?_
      show Go p e below T2 (mkF m 122 #[iv p1, iv p2, iv p3, iv 2, rv r0, rv r1, rv r2, rv a, iv k8, iv k9, iv 0, .unset] [(.int 0), (.int 2), (.int 2)]) _
      refine XS.isub X2.here hx rfl (hb hby at_122) rfl ?_
      show Go p e below T2 (mkF m 123 #[iv p1, iv p2, iv p3, iv 2, rv r0, rv r1, rv r2, rv a, iv k8, iv k9, iv 0, .unset] [(.int 2), (.int 2)]) _
      refine XS.icmpNo X2.here hx rfl (hb hby at_123) rfl (teq ((by decide) : (2 : Int32) = (2 : Int32))).2 ?_
      show Go p e below T2 (mkF m 126 #[iv p1, iv p2, iv p3, iv 2, rv r0, rv r1, rv r2, rv a, iv k8, iv k9, iv 0, .unset] []) _
      refine XS.iconst X2.here hx rfl (hb hby at_126) ?_
      show Go p e below T2 (mkF m 127 #[iv p1, iv p2, iv p3, iv 2, rv r0, rv r1, rv r2, rv a, iv k8, iv k9, iv 0, .unset] [(.int 1)]) _
      refine XS.goto X2.here hx rfl (pc0 := 127) (pc' := 131) rfl (hb hby at_127) (by decide) (by decide) ?_
      show Go p e below T2 (mkF m 131 #[iv p1, iv p2, iv p3, iv 2, rv r0, rv r1, rv r2, rv a, iv k8, iv k9, iv 0, .unset] [(.int 1)]) _
      refine XS.istore X2.here hx rfl (hb hby at_131) rfl (l' := #[iv p1, iv p2, iv p3, iv 2, rv r0, rv r1, rv r2, rv a, iv k8, iv k9, iv 0, iv 1]) rfl ?_
      show Go p e below T2 (mkF m 133 #[iv p1, iv p2, iv p3, iv 2, rv r0, rv r1, rv r2, rv a, iv k8, iv k9, iv 0, iv 1] []) _
      refine XS.iload X2.here hx rfl (hb hby at_133) rfl ?_
      show Go p e below T2 (mkF m 135 #[iv p1, iv p2, iv p3, iv 2, rv r0, rv r1, rv r2, rv a, iv k8, iv k9, iv 0, iv 1] [(.int 0)]) _
      refine XS.ifNo X2.here hx rfl (hb hby at_135) rfl ((if0 _ _).trans (flt ((by decide) : ¬ ((0 : Int32) < (0 : Int32)))).2.2.1) ?_
      show Go p e below T2 (mkF m 138 #[iv p1, iv p2, iv p3, iv 2, rv r0, rv r1, rv r2, rv a, iv k8, iv k9, iv 0, iv 1] []) _
      refine XS.iconst X2.here hx rfl (hb hby at_138) ?_
      show Go p e below T2 (mkF m 139 #[iv p1, iv p2, iv p3, iv 2, rv r0, rv r1, rv r2, rv a, iv k8, iv k9, iv 0, iv 1] [(.int 0)]) _
      refine XS.iloadN X2.here hx rfl (hb hby at_139) rfl ?_
      show Go p e below T2 (mkF m 140 #[iv p1, iv p2, iv p3, iv 2, rv r0, rv r1, rv r2, rv a, iv k8, iv k9, iv 0, iv 1] [(.int 2), (.int 0)]) _
      refine XS.icmpNo X2.here hx rfl (hb hby at_140) rfl (tlt ((by decide) : (0 : Int32) < (2 : Int32))).2.1 ?_
      show Go p e below T2 (mkF m 143 #[iv p1, iv p2, iv p3, iv 2, rv r0, rv r1, rv r2, rv a, iv k8, iv k9, iv 0, iv 1] []) _
      refine XS.iload X2.here hx rfl (hb hby at_143) rfl ?_
      show Go p e below T2 (mkF m 145 #[iv p1, iv p2, iv p3, iv 2, rv r0, rv r1, rv r2, rv a, iv k8, iv k9, iv 0, iv 1] [(.int 1)]) _
      refine XS.ifNo X2.here hx rfl (hb hby at_145) rfl ((if0 _ _).trans (feq ((by decide) : ¬ ((1 : Int32) = (0 : Int32)))).1) ?_
      show Go p e below T2 (mkF m 148 #[iv p1, iv p2, iv p3, iv 2, rv r0, rv r1, rv r2, rv a, iv k8, iv k9, iv 0, iv 1] []) _
      refine XS.aload X2.here hx rfl (hb hby at_148) rfl rfl ?_
      show Go p e below T2 (mkF m 150 #[iv p1, iv p2, iv p3, iv 2, rv r0, rv r1, rv r2, rv a, iv k8, iv k9, iv 0, iv 1] [(.ref a)]) _
      refine XS.iconst X2.here hx rfl (hb hby at_150) ?_
      show Go p e below T2 (mkF m 151 #[iv p1, iv p2, iv p3, iv 2, rv r0, rv r1, rv r2, rv a, iv k8, iv k9, iv 0, iv 1] [(.int 0), (.ref a)]) _
      refine st3.trans ?_
      show Go p e below T3 (mkF m 154 #[iv p1, iv p2, iv p3, iv 2, rv r0, rv r1, rv r2, rv a, iv k8, iv k9, iv 0, iv 1] [(.ref r0)]) _
      refine XS.aload X3.here hx rfl (hb hby at_154) rfl rfl ?_
      show Go p e below T3 (mkF m 156 #[iv p1, iv p2, iv p3, iv 2, rv r0, rv r1, rv r2, rv a, iv k8, iv k9, iv 0, iv 1] [(.ref r0), (.ref r0)]) _
      refine Jvm.RoadKit.acmp (g := (mkF m 156 #[iv p1, iv p2, iv p3, iv 2, rv r0, rv r1, rv r2, rv a, iv k8, iv k9, iv 0, iv 1] [(.ref r0), (.ref r0)])) X3 hx rfl rfl rfl (pc0 := 156) (pc' := 159) (same := true) rfl (hb hby at_156) rfl (decide_eq_true rfl) (by decide) (by decide) ?_
      show Go p e below T3 (mkF m 159 #[iv p1, iv p2, iv p3, iv 2, rv r0, rv r1, rv r2, rv a, iv k8, iv k9, iv 0, iv 1] []) _
      refine XS.iconst X3.here hx rfl (hb hby at_159) ?_
      show Go p e below T3 (mkF m 160 #[iv p1, iv p2, iv p3, iv 2, rv r0, rv r1, rv r2, rv a, iv k8, iv k9, iv 0, iv 1] [(.int 1)]) _
      refine XS.goto X3.here hx rfl (pc0 := 160) (pc' := 164) rfl (hb hby at_160) (by decide) (by decide) ?_
      show Go p e below T3 (mkF m 164 #[iv p1, iv p2, iv p3, iv 2, rv r0, rv r1, rv r2, rv a, iv k8, iv k9, iv 0, iv 1] [(.int 1)]) _
      refine XS.istore X3.here hx rfl (hb hby at_164) rfl (l' := #[iv p1, iv p2, iv p3, iv 2, rv r0, rv r1, rv r2, rv a, iv k8, iv k9, iv 0, iv 1]) rfl ?_
      show Go p e below T3 (mkF m 166 #[iv p1, iv p2, iv p3, iv 2, rv r0, rv r1, rv r2, rv a, iv k8, iv k9, iv 0, iv 1] []) _
      refine XS.iload X3.here hx rfl (hb hby at_166) rfl ?_
      show Go p e below T3 (mkF m 168 #[iv p1, iv p2, iv p3, iv 2, rv r0, rv r1, rv r2, rv a, iv k8, iv k9, iv 0, iv 1] [(.int 0)]) _
      refine XS.iconst X3.here hx rfl (hb hby at_168) ?_
      show Go p e below T3 (mkF m 169 #[iv p1, iv p2, iv p3, iv 2, rv r0, rv r1, rv r2, rv a, iv k8, iv k9, iv 0, iv 1] [(.int 1), (.int 0)]) _
      refine XS.icmpNo X3.here hx rfl (hb hby at_169) rfl (flt ((by decide) : ¬ ((1 : Int32) < (0 : Int32)))).2.2.1 ?_
      show Go p e below T3 (mkF m 172 #[iv p1, iv p2, iv p3, iv 2, rv r0, rv r1, rv r2, rv a, iv k8, iv k9, iv 0, iv 1] []) _
      refine XS.iconst X3.here hx rfl (hb hby at_172) ?_
      show Go p e below T3 (mkF m 173 #[iv p1, iv p2, iv p3, iv 2, rv r0, rv r1, rv r2, rv a, iv k8, iv k9, iv 0, iv 1] [(.int 1)]) _
      refine XS.iloadN X3.here hx rfl (hb hby at_173) rfl ?_
      show Go p e below T3 (mkF m 174 #[iv p1, iv p2, iv p3, iv 2, rv r0, rv r1, rv r2, rv a, iv k8, iv k9, iv 0, iv 1] [(.int 2), (.int 1)]) _
      refine XS.icmpNo X3.here hx rfl (hb hby at_174) rfl (tlt ((by decide) : (1 : Int32) < (2 : Int32))).2.1 ?_
      show Go p e below T3 (mkF m 177 #[iv p1, iv p2, iv p3, iv 2, rv r0, rv r1, rv r2, rv a, iv k8, iv k9, iv 0, iv 1] []) _
      refine XS.iload X3.here hx rfl (hb hby at_177) rfl ?_
      show Go p e below T3 (mkF m 179 #[iv p1, iv p2, iv p3, iv 2, rv r0, rv r1, rv r2, rv a, iv k8, iv k9, iv 0, iv 1] [(.int 1)]) _
      refine XS.ifNo X3.here hx rfl (hb hby at_179) rfl ((if0 _ _).trans (feq ((by decide) : ¬ ((1 : Int32) = (0 : Int32)))).1) ?_
      show Go p e below T3 (mkF m 182 #[iv p1, iv p2, iv p3, iv 2, rv r0, rv r1, rv r2, rv a, iv k8, iv k9, iv 0, iv 1] []) _
      refine XS.aload X3.here hx rfl (hb hby at_182) rfl rfl ?_
      show Go p e below T3 (mkF m 184 #[iv p1, iv p2, iv p3, iv 2, rv r0, rv r1, rv r2, rv a, iv k8, iv k9, iv 0, iv 1] [(.ref a)]) _
      refine XS.iconst X3.here hx rfl (hb hby at_184) ?_
      show Go p e below T3 (mkF m 185 #[iv p1, iv p2, iv p3, iv 2, rv r0, rv r1, rv r2, rv a, iv k8, iv k9, iv 0, iv 1] [(.int 1), (.ref a)]) _
      refine st4.trans ?_
      show Go p e below T4 (mkF m 188 #[iv p1, iv p2, iv p3, iv 2, rv r0, rv r1, rv r2, rv a, iv k8, iv k9, iv 0, iv 1] [(.ref r1)]) _
      refine XS.aload X4.here hx rfl (hb hby at_188) rfl rfl ?_
      show Go p e below T4 (mkF m 190 #[iv p1, iv p2, iv p3, iv 2, rv r0, rv r1, rv r2, rv a, iv k8, iv k9, iv 0, iv 1] [(.ref r1), (.ref r1)]) _
      refine Jvm.RoadKit.acmp (g := (mkF m 190 #[iv p1, iv p2, iv p3, iv 2, rv r0, rv r1, rv r2, rv a, iv k8, iv k9, iv 0, iv 1] [(.ref r1), (.ref r1)])) X4 hx rfl rfl rfl (pc0 := 190) (pc' := 193) (same := true) rfl (hb hby at_190) rfl (decide_eq_true rfl) (by decide) (by decide) ?_
      show Go p e below T4 (mkF m 193 #[iv p1, iv p2, iv p3, iv 2, rv r0, rv r1, rv r2, rv a, iv k8, iv k9, iv 0, iv 1] []) _
      refine XS.iconst X4.here hx rfl (hb hby at_193) ?_
      show Go p e below T4 (mkF m 194 #[iv p1, iv p2, iv p3, iv 2, rv r0, rv r1, rv r2, rv a, iv k8, iv k9, iv 0, iv 1] [(.int 1)]) _
      refine XS.goto X4.here hx rfl (pc0 := 194) (pc' := 198) rfl (hb hby at_194) (by decide) (by decide) ?_
      show Go p e below T4 (mkF m 198 #[iv p1, iv p2, iv p3, iv 2, rv r0, rv r1, rv r2, rv a, iv k8, iv k9, iv 0, iv 1] [(.int 1)]) _
      refine XS.istore X4.here hx rfl (hb hby at_198) rfl (l' := #[iv p1, iv p2, iv p3, iv 2, rv r0, rv r1, rv r2, rv a, iv k8, iv k9, iv 0, iv 1]) rfl ?_
      show Go p e below T4 (mkF m 200 #[iv p1, iv p2, iv p3, iv 2, rv r0, rv r1, rv r2, rv a, iv k8, iv k9, iv 0, iv 1] []) _
      refine XS.iload X4.here hx rfl (hb hby at_200) rfl ?_
      show Go p e below T4 (mkF m 202 #[iv p1, iv p2, iv p3, iv 2, rv r0, rv r1, rv r2, rv a, iv k8, iv k9, iv 0, iv 1] [(.int 0)]) _
      refine XS.iconst X4.here hx rfl (hb hby at_202) ?_
      show Go p e below T4 (mkF m 203 #[iv p1, iv p2, iv p3, iv 2, rv r0, rv r1, rv r2, rv a, iv k8, iv k9, iv 0, iv 1] [(.int 2), (.int 0)]) _
      refine XS.icmpNo X4.here hx rfl (hb hby at_203) rfl (flt ((by decide) : ¬ ((2 : Int32) < (0 : Int32)))).2.2.1 ?_
      show Go p e below T4 (mkF m 206 #[iv p1, iv p2, iv p3, iv 2, rv r0, rv r1, rv r2, rv a, iv k8, iv k9, iv 0, iv 1] []) _
      refine XS.iconst X4.here hx rfl (hb hby at_206) ?_
      show Go p e below T4 (mkF m 207 #[iv p1, iv p2, iv p3, iv 2, rv r0, rv r1, rv r2, rv a, iv k8, iv k9, iv 0, iv 1] [(.int 2)]) _
      refine XS.iloadN X4.here hx rfl (hb hby at_207) rfl ?_
      show Go p e below T4 (mkF m 208 #[iv p1, iv p2, iv p3, iv 2, rv r0, rv r1, rv r2, rv a, iv k8, iv k9, iv 0, iv 1] [(.int 2), (.int 2)]) _
      refine XS.icmpYes X4.here hx rfl (pc0 := 208) (pc' := 234) rfl (hb hby at_208) rfl (flt ((by decide) : ¬ ((2 : Int32) < (2 : Int32)))).2.1 (by decide) (by decide) ?_
      show Go p e below T4 (mkF m 234 #[iv p1, iv p2, iv p3, iv 2, rv r0, rv r1, rv r2, rv a, iv k8, iv k9, iv 0, iv 1] []) _
      refine XS.iload X4.here hx rfl (hb hby at_234) rfl ?_
      show Go p e below T4 (mkF m 236 #[iv p1, iv p2, iv p3, iv 2, rv r0, rv r1, rv r2, rv a, iv k8, iv k9, iv 0, iv 1] [(.int 1)]) _
      exact kt)
  obtain ⟨fs, hr, hrun, hended, hW, hsame⟩ := X4.leave (v := some (.int 1)) (fun h => by rw [hret] at h; cases h)
  refine ⟨_, _, pre5 _ ?_, hrun, hended, _, _, rfl, ?_, ⟨_, rfl⟩, hW, hsame.mono (by decide) (by decide)⟩
  · show Steps p.tables e below (T4.setTop (mkF m 236 #[iv p1, iv p2, iv p3, iv 2, rv r0, rv r1, rv r2, rv a, iv k8, iv k9, iv 0, iv 1] [(.int 1)])) _
    exact retN X4 hx (t := .boolean) hret (by simp) (hb hby at_236) hr
  · exact ⟨rfl, N4⟩
set_option maxRecDepth 65536 in
set_option maxHeartbeats 40000000 in
theorem tl2_1 {p : Program} {l : Launch} {e : Env} {s : State} {m : MethodId} {args : Array Value} {below : List Frame} {meth : Method} {c : Code} {T0 : State} {locs : List Loc} {Z : State} {a0 : Array Value} (p1 : Int32) (p2 : Int32) (p3 : Int32) (k8 : Int32) (k9 : Int32) (a : Addr) (r0 : Addr) (r1 : Addr) (r2 : Addr) (rg : Addr) (kr : ClassId) (h0 : Heap) (n0 : Nat) (X0 : Stand p l e room_1 s m args below meth c T0 locs 5 25) (hx : p.tables.exec = Jvm.exec) (hZ : Z.Warmed39 s.vm) (hw : ∀ d ∈ tables_1, d.before a0 Z = true) (hby : c.code = code) (hml : c.maxLocals = 12) (hown : s.vm.findClass "com/example/rowmotif/rowmotif/matcher/PartitionRowsReleasePinLaw" = some m.cls) (hret : meth.sig.returnType = some .boolean) (hlocks : meth.locks = false) (e0 : T0.heap = h0) (N0 : Fr n0 locs) (Z0 : n0 ≤ h0.size) (hR : Rg Z h0 a rg kr (1 : Int32) (1 : Int32) .null (.ref r1) .null) :
    ∃ s₂ o₂, Go p e below T0 (mkF m 105 #[iv p1, iv p2, iv p3, iv 2, rv r0, rv r1, rv r2, rv a, iv k8, iv k9, iv 1, .unset] []) s₂ ∧ s₂.status = .running ∧ Ended s₂ below o₂ ∧ ∃ v₂ L₂, o₂ = .returned v₂ ∧ (v₂ = some (.int 1) ∧ Fr n0 L₂) ∧ FrameEnd s o₂ s₂ L₂ room_1.cells room_1.slots := by
  have pre0 : ∀ t_, Go p e below T0 (mkF m 105 #[iv p1, iv p2, iv p3, iv 2, rv r0, rv r1, rv r2, rv a, iv k8, iv k9, iv 1, .unset] []) t_ → Go p e below T0 (mkF m 105 #[iv p1, iv p2, iv p3, iv 2, rv r0, rv r1, rv r2, rv a, iv k8, iv k9, iv 1, .unset] []) t_ := fun _ kt => kt
  obtain ⟨cq1, kq1, q1a, q1b, q1c⟩ := isOf hZ e0 hR.1
  obtain ⟨_, _, ⟨T1, L1, k1, n1⟩, -, X1, ⟨Lc1, hQ1, l1, y1, z1⟩, st1⟩ := X0.virtualBack hx (y := (⟨"com/example/rowmotif/rowmotif/matcher/PartitionRows", "size", "()I"⟩ : MethodName)) (z := (⟨"com/example/rowmotif/rowmotif/matcher/PartitionRows", "size", "()I"⟩ : MethodName)) hown (mvT hZ (hwi hw 29 rfl)) (mvT hZ (hwi hw 30 rfl)) (notFace_of_selects (args := #[]) (mvT hZ (hwi hw 32 rfl))) (mvT hZ (hwi hw 32 rfl)) (mvT hZ (hwi hw 31 rfl)) (by decide) (backOf (W := 0) (rmZ l Z a0 hw [] a (1 : Int32) (1 : Int32) h0 n0 Z0 hR.2.2.2.2.1 hR.2.2.2.1) hZ (hwi hw 33 rfl) (hwi hw 4 rfl) (by decide) (by decide)) q1a q1c (g := (mkF m 107 #[iv p1, iv p2, iv p3, iv 2, rv r0, rv r1, rv r2, rv a, iv k8, iv k9, iv 1, .unset] [(.ref a)])) rfl (by rw [hml]; rfl) (Steps.refl _) (argsL := []) (rest := []) (lenOf pd_3 rfl) rfl (by show 2 * 0 + _ ≤ _; exact Nat.le_of_eq rfl) (hb hby at_107) (fun _ _ => ⟨rfl, e0, (by decide : 5 + 0 ≤ _), (by decide : 25 + 0 ≤ _)⟩)
  dsimp only [Pt.U, Pt.locs, Pt.cells, Pt.slots] at X1 l1 y1 z1 st1 hQ1
  subst l1 y1 z1
  obtain ⟨hv1, N1q, e1q⟩ := hQ1
  have N1 := Fr.app N0 N1q
  rw [show ((1 : Int32) + (1 : Int32)) = (2 : Int32) from by decide] at hv1
  subst hv1
  obtain ⟨cq2, kq2, q2a, q2b, q2c⟩ := isOf hZ e1q hR.1
  obtain ⟨_, _, ⟨T2, L2, k2, n2⟩, -, X2, ⟨Lc2, hQ2, l2, y2, z2⟩, st2⟩ := X1.virtualBack hx (y := (⟨"com/example/rowmotif/rowmotif/matcher/PartitionRows", "held", "()I"⟩ : MethodName)) (z := (⟨"com/example/rowmotif/rowmotif/matcher/PartitionRows", "held", "()I"⟩ : MethodName)) hown (mvT hZ (hwi hw 36 rfl)) (mvT hZ (hwi hw 37 rfl)) (notFace_of_selects (args := #[]) (mvT hZ (hwi hw 39 rfl))) (mvT hZ (hwi hw 39 rfl)) (mvT hZ (hwi hw 38 rfl)) (by decide) (backOf (W := 0) (rmHd l Z a0 hw [] a (1 : Int32) h0 n0 Z0 hR.2.2.2.1) hZ (hwi hw 40 rfl) (hwi hw 4 rfl) (by decide) (by decide)) q2a q2c (g := (mkF m 116 #[iv p1, iv p2, iv p3, iv 2, rv r0, rv r1, rv r2, rv a, iv k8, iv k9, iv 1, .unset] [(.ref a)])) rfl (by rw [hml]; rfl) (Steps.refl _) (argsL := []) (rest := []) (lenOf pd_3 rfl) rfl (by show 2 * 0 + _ ≤ _; exact Nat.le_of_eq rfl) (hb hby at_116) (fun _ _ => ⟨rfl, e1q, (by decide : 5 + 0 ≤ _), (by decide : 25 + 0 ≤ _)⟩)
  dsimp only [Pt.U, Pt.locs, Pt.cells, Pt.slots] at X2 l2 y2 z2 st2 hQ2
  subst l2 y2 z2
  obtain ⟨rfl, N2q, e2q⟩ := hQ2
  have N2 := Fr.app N1 N2q
  obtain ⟨cq3, kq3, q3a, q3b, q3c⟩ := isOf hZ e2q hR.1
  obtain ⟨_, _, ⟨T3, L3, k3, n3⟩, -, X3, ⟨Lc3, hQ3, l3, y3, z3⟩, st3⟩ := X2.virtualBack hx (y := (⟨"com/example/rowmotif/rowmotif/matcher/PartitionRows", "get", "(I)[Ljava/lang/Object;"⟩ : MethodName)) (z := (⟨"com/example/rowmotif/rowmotif/matcher/PartitionRows", "get", "(I)[Ljava/lang/Object;"⟩ : MethodName)) hown (mvT hZ (hwi hw 53 rfl)) (mvT hZ (hwi hw 54 rfl)) (notFace_of_selects (args := #[]) (mvT hZ (hwi hw 56 rfl))) (mvT hZ (hwi hw 56 rfl)) (mvT hZ (hwi hw 55 rfl)) (by decide) (backOf (W := 0) (rmG1_1_1 l Z a0 hw [] a r1 rg kr .null .null h0 n0 Z0 hR) hZ (hwi hw 57 rfl) (hwi hw 4 rfl) (by decide) (by decide)) q3a q3c (g := (mkF m 185 #[iv p1, iv p2, iv p3, iv 2, rv r0, rv r1, rv r2, rv a, iv k8, iv k9, iv 1, iv 1] [(.int 1), (.ref a)])) rfl (by rw [hml]; rfl) (Steps.refl _) (argsL := [(.int 1)]) (rest := []) (lenOf pd_5 rfl) rfl (by show 2 * 0 + _ ≤ _; exact Nat.le_of_eq rfl) (hb hby at_185) (fun _ _ => ⟨rfl, e2q, (by decide : 5 + 0 ≤ _), (by decide : 25 + 0 ≤ _)⟩)
  dsimp only [Pt.U, Pt.locs, Pt.cells, Pt.slots] at X3 l3 y3 z3 st3 hQ3
  subst l3 y3 z3
  obtain ⟨rfl, N3q, e3q⟩ := hQ3
  have N3 := Fr.app N2 N3q
  have pre4 : ∀ t_, Go p e below T3 (mkF m 236 #[iv p1, iv p2, iv p3, iv 2, rv r0, rv r1, rv r2, rv a, iv k8, iv k9, iv 1, iv 1] [(.int 1)]) t_ → Go p e below T0 (mkF m 105 #[iv p1, iv p2, iv p3, iv 2, rv r0, rv r1, rv r2, rv a, iv k8, iv k9, iv 1, .unset] []) t_ := fun t_ kt => pre0 _ (by
      show Go p e below T0 (mkF m 105 #[iv p1, iv p2, iv p3, iv 2, rv r0, rv r1, rv r2, rv a, iv k8, iv k9, iv 1, .unset] []) _
      refine XS.aload X0.here hx rfl (hb hby at_105) rfl rfl ?_
      show Go p e below T0 (mkF m 107 #[iv p1, iv p2, iv p3, iv 2, rv r0, rv r1, rv r2, rv a, iv k8, iv k9, iv 1, .unset] [(.ref a)]) _
      refine st1.trans ?_
      show Go p e below T1 (mkF m 110 #[iv p1, iv p2, iv p3, iv 2, rv r0, rv r1, rv r2, rv a, iv k8, iv k9, iv 1, .unset] [(.int 2)]) _
      refine XS.iloadN X1.here hx rfl (hb hby at_110) rfl ?_
      show Go p e below T1 (mkF m 111 #[iv p1, iv p2, iv p3, iv 2, rv r0, rv r1, rv r2, rv a, iv k8, iv k9, iv 1, .unset] [(.int 2), (.int 2)]) _
      refine XS.icmpNo X1.here hx rfl (hb hby at_111) rfl (teq ((by decide) : (2 : Int32) = (2 : Int32))).2 ?_
      show Go p e below T1 (mkF m 114 #[iv p1, iv p2, iv p3, iv 2, rv r0, rv r1, rv r2, rv a, iv k8, iv k9, iv 1, .unset] []) _
      refine XS.aload X1.here hx rfl (hb hby at_114) rfl rfl ?_
      show Go p e below T1 (mkF m 116 #[iv p1, iv p2, iv p3, iv 2, rv r0, rv r1, rv r2, rv a, iv k8, iv k9, iv 1, .unset] [(.ref a)]) _
      refine st2.trans ?_
      show Go p e below T2 (mkF m 119 #[iv p1, iv p2, iv p3, iv 2, rv r0, rv r1, rv r2, rv a, iv k8, iv k9, iv 1, .unset] [(.int 1)]) _
      refine XS.iloadN X2.here hx rfl (hb hby at_119) rfl ?_
      show Go p e below T2 (mkF m 120 #[iv p1, iv p2, iv p3, iv 2, rv r0, rv r1, rv r2, rv a, iv k8, iv k9, iv 1, .unset] [(.int 2), (.int 1)]) _
      refine XS.iload X2.here hx rfl (hb hby at_120) rfl ?_
      show Go p e below T2 (mkF m 122 #[iv p1, iv p2, iv p3, iv 2, rv r0, rv r1, rv r2, rv a, iv k8, iv k9, iv 1, .unset] [(.int 1), (.int 2), (.int 1)]) _
      refine XS.isub X2.here hx rfl (hb hby at_122) rfl ?_
      show Go p e below T2 (mkF m 123 #[iv p1, iv p2, iv p3, iv 2, rv r0, rv r1, rv r2, rv a, iv k8, iv k9, iv 1, .unset] [(.int 1), (.int 1)]) _
      refine XS.icmpNo X2.here hx rfl (hb hby at_123) rfl (teq ((by decide) : (1 : Int32) = (1 : Int32))).2 ?_
      show Go p e below T2 (mkF m 126 #[iv p1, iv p2, iv p3, iv 2, rv r0, rv r1, rv r2, rv a, iv k8, iv k9, iv 1, .unset] []) _
      refine XS.iconst X2.here hx rfl (hb hby at_126) ?_
      show Go p e below T2 (mkF m 127 #[iv p1, iv p2, iv p3, iv 2, rv r0, rv r1, rv r2, rv a, iv k8, iv k9, iv 1, .unset] [(.int 1)]) _
      refine XS.goto X2.here hx rfl (pc0 := 127) (pc' := 131) rfl (hb hby at_127) (by decide) (by decide) ?_
      show Go p e below T2 (mkF m 131 #[iv p1, iv p2, iv p3, iv 2, rv r0, rv r1, rv r2, rv a, iv k8, iv k9, iv 1, .unset] [(.int 1)]) _
      refine XS.istore X2.here hx rfl (hb hby at_131) rfl (l' := #[iv p1, iv p2, iv p3, iv 2, rv r0, rv r1, rv r2, rv a, iv k8, iv k9, iv 1, iv 1]) rfl ?_
      show Go p e below T2 (mkF m 133 #[iv p1, iv p2, iv p3, iv 2, rv r0, rv r1, rv r2, rv a, iv k8, iv k9, iv 1, iv 1] []) _
      refine XS.iload X2.here hx rfl (hb hby at_133) rfl ?_
      show Go p e below T2 (mkF m 135 #[iv p1, iv p2, iv p3, iv 2, rv r0, rv r1, rv r2, rv a, iv k8, iv k9, iv 1, iv 1] [(.int 1)]) _
      refine XS.ifYes X2.here hx rfl (pc0 := 135) (pc' := 166) rfl (hb hby at_135) rfl ((if0 _ _).trans (tlt ((by decide) : (0 : Int32) < (1 : Int32))).2.2.1) (by decide) (by decide) ?_
      show Go p e below T2 (mkF m 166 #[iv p1, iv p2, iv p3, iv 2, rv r0, rv r1, rv r2, rv a, iv k8, iv k9, iv 1, iv 1] []) _
      refine XS.iload X2.here hx rfl (hb hby at_166) rfl ?_
      show Go p e below T2 (mkF m 168 #[iv p1, iv p2, iv p3, iv 2, rv r0, rv r1, rv r2, rv a, iv k8, iv k9, iv 1, iv 1] [(.int 1)]) _
      refine XS.iconst X2.here hx rfl (hb hby at_168) ?_
      show Go p e below T2 (mkF m 169 #[iv p1, iv p2, iv p3, iv 2, rv r0, rv r1, rv r2, rv a, iv k8, iv k9, iv 1, iv 1] [(.int 1), (.int 1)]) _
      refine XS.icmpNo X2.here hx rfl (hb hby at_169) rfl (flt ((by decide) : ¬ ((1 : Int32) < (1 : Int32)))).2.2.1 ?_
      show Go p e below T2 (mkF m 172 #[iv p1, iv p2, iv p3, iv 2, rv r0, rv r1, rv r2, rv a, iv k8, iv k9, iv 1, iv 1] []) _
      refine XS.iconst X2.here hx rfl (hb hby at_172) ?_
      show Go p e below T2 (mkF m 173 #[iv p1, iv p2, iv p3, iv 2, rv r0, rv r1, rv r2, rv a, iv k8, iv k9, iv 1, iv 1] [(.int 1)]) _
      refine XS.iloadN X2.here hx rfl (hb hby at_173) rfl ?_
      show Go p e below T2 (mkF m 174 #[iv p1, iv p2, iv p3, iv 2, rv r0, rv r1, rv r2, rv a, iv k8, iv k9, iv 1, iv 1] [(.int 2), (.int 1)]) _
      refine XS.icmpNo X2.here hx rfl (hb hby at_174) rfl (tlt ((by decide) : (1 : Int32) < (2 : Int32))).2.1 ?_
      show Go p e below T2 (mkF m 177 #[iv p1, iv p2, iv p3, iv 2, rv r0, rv r1, rv r2, rv a, iv k8, iv k9, iv 1, iv 1] []) _
      refine XS.iload X2.here hx rfl (hb hby at_177) rfl ?_
      show Go p e below T2 (mkF m 179 #[iv p1, iv p2, iv p3, iv 2, rv r0, rv r1, rv r2, rv a, iv k8, iv k9, iv 1, iv 1] [(.int 1)]) _
      refine XS.ifNo X2.here hx rfl (hb hby at_179) rfl ((if0 _ _).trans (feq ((by decide) : ¬ ((1 : Int32) = (0 : Int32)))).1) ?_
      show Go p e below T2 (mkF m 182 #[iv p1, iv p2, iv p3, iv 2, rv r0, rv r1, rv r2, rv a, iv k8, iv k9, iv 1, iv 1] []) _
      refine XS.aload X2.here hx rfl (hb hby at_182) rfl rfl ?_
      show Go p e below T2 (mkF m 184 #[iv p1, iv p2, iv p3, iv 2, rv r0, rv r1, rv r2, rv a, iv k8, iv k9, iv 1, iv 1] [(.ref a)]) _
      refine XS.iconst X2.here hx rfl (hb hby at_184) ?_
      show Go p e below T2 (mkF m 185 #[iv p1, iv p2, iv p3, iv 2, rv r0, rv r1, rv r2, rv a, iv k8, iv k9, iv 1, iv 1] [(.int 1), (.ref a)]) _
      refine st3.trans ?_
      show Go p e below T3 (mkF m 188 #[iv p1, iv p2, iv p3, iv 2, rv r0, rv r1, rv r2, rv a, iv k8, iv k9, iv 1, iv 1] [(.ref r1)]) _
      refine XS.aload X3.here hx rfl (hb hby at_188) rfl rfl ?_
      show Go p e below T3 (mkF m 190 #[iv p1, iv p2, iv p3, iv 2, rv r0, rv r1, rv r2, rv a, iv k8, iv k9, iv 1, iv 1] [(.ref r1), (.ref r1)]) _
      refine Jvm.RoadKit.acmp (g := (mkF m 190 #[iv p1, iv p2, iv p3, iv 2, rv r0, rv r1, rv r2, rv a, iv k8, iv k9, iv 1, iv 1] [(.ref r1), (.ref r1)])) X3 hx rfl rfl rfl (pc0 := 190) (pc' := 193) (same := true) rfl (hb hby at_190) rfl (decide_eq_true rfl) (by decide) (by decide) ?_
      show Go p e below T3 (mkF m 193 #[iv p1, iv p2, iv p3, iv 2, rv r0, rv r1, rv r2, rv a, iv k8, iv k9, iv 1, iv 1] []) _
      refine XS.iconst X3.here hx rfl (hb hby at_193) ?_
      show Go p e below T3 (mkF m 194 #[iv p1, iv p2, iv p3, iv 2, rv r0, rv r1, rv r2, rv a, iv k8, iv k9, iv 1, iv 1] [(.int 1)]) _
      refine XS.goto X3.here hx rfl (pc0 := 194) (pc' := 198) rfl (hb hby at_194) (by decide) (by decide) ?_
      show Go p e below T3 (mkF m 198 #[iv p1, iv p2, iv p3, iv 2, rv r0, rv r1, rv r2, rv a, iv k8, iv k9, iv 1, iv 1] [(.int 1)]) _
      refine XS.istore X3.here hx rfl (hb hby at_198) rfl (l' := #[iv p1, iv p2, iv p3, iv 2, rv r0, rv r1, rv r2, rv a, iv k8, iv k9, iv 1, iv 1]) rfl ?_
      show Go p e below T3 (mkF m 200 #[iv p1, iv p2, iv p3, iv 2, rv r0, rv r1, rv r2, rv a, iv k8, iv k9, iv 1, iv 1] []) _
      refine XS.iload X3.here hx rfl (hb hby at_200) rfl ?_
      show Go p e below T3 (mkF m 202 #[iv p1, iv p2, iv p3, iv 2, rv r0, rv r1, rv r2, rv a, iv k8, iv k9, iv 1, iv 1] [(.int 1)]) _
      refine XS.iconst X3.here hx rfl (hb hby at_202) ?_
      show Go p e below T3 (mkF m 203 #[iv p1, iv p2, iv p3, iv 2, rv r0, rv r1, rv r2, rv a, iv k8, iv k9, iv 1, iv 1] [(.int 2), (.int 1)]) _
      refine XS.icmpNo X3.here hx rfl (hb hby at_203) rfl (flt ((by decide) : ¬ ((2 : Int32) < (1 : Int32)))).2.2.1 ?_
      show Go p e below T3 (mkF m 206 #[iv p1, iv p2, iv p3, iv 2, rv r0, rv r1, rv r2, rv a, iv k8, iv k9, iv 1, iv 1] []) _
      refine XS.iconst X3.here hx rfl (hb hby at_206) ?_
      show Go p e below T3 (mkF m 207 #[iv p1, iv p2, iv p3, iv 2, rv r0, rv r1, rv r2, rv a, iv k8, iv k9, iv 1, iv 1] [(.int 2)]) _
      refine XS.iloadN X3.here hx rfl (hb hby at_207) rfl ?_
      show Go p e below T3 (mkF m 208 #[iv p1, iv p2, iv p3, iv 2, rv r0, rv r1, rv r2, rv a, iv k8, iv k9, iv 1, iv 1] [(.int 2), (.int 2)]) _
      refine XS.icmpYes X3.here hx rfl (pc0 := 208) (pc' := 234) rfl (hb hby at_208) rfl (flt ((by decide) : ¬ ((2 : Int32) < (2 : Int32)))).2.1 (by decide) (by decide) ?_
      show Go p e below T3 (mkF m 234 #[iv p1, iv p2, iv p3, iv 2, rv r0, rv r1, rv r2, rv a, iv k8, iv k9, iv 1, iv 1] []) _
      refine XS.iload X3.here hx rfl (hb hby at_234) rfl ?_
      show Go p e below T3 (mkF m 236 #[iv p1, iv p2, iv p3, iv 2, rv r0, rv r1, rv r2, rv a, iv k8, iv k9, iv 1, iv 1] [(.int 1)]) _
      exact kt)
  obtain ⟨fs, hr, hrun, hended, hW, hsame⟩ := X3.leave (v := some (.int 1)) (fun h => by rw [hret] at h; cases h)
  refine ⟨_, _, pre4 _ ?_, hrun, hended, _, _, rfl, ?_, ⟨_, rfl⟩, hW, hsame.mono (by decide) (by decide)⟩
  · show Steps p.tables e below (T3.setTop (mkF m 236 #[iv p1, iv p2, iv p3, iv 2, rv r0, rv r1, rv r2, rv a, iv k8, iv k9, iv 1, iv 1] [(.int 1)])) _
    exact retN X3 hx (t := .boolean) hret (by simp) (hb hby at_236) hr
  · exact ⟨rfl, N3⟩
set_option maxRecDepth 65536 in
set_option maxHeartbeats 40000000 in
theorem tl2_2 {p : Program} {l : Launch} {e : Env} {s : State} {m : MethodId} {args : Array Value} {below : List Frame} {meth : Method} {c : Code} {T0 : State} {locs : List Loc} {Z : State} {a0 : Array Value} (p1 : Int32) (p2 : Int32) (p3 : Int32) (k8 : Int32) (k9 : Int32) (a : Addr) (r0 : Addr) (r1 : Addr) (r2 : Addr) (rg : Addr) (kr : ClassId) (h0 : Heap) (n0 : Nat) (X0 : Stand p l e room_1 s m args below meth c T0 locs 5 25) (hx : p.tables.exec = Jvm.exec) (hZ : Z.Warmed39 s.vm) (hw : ∀ d ∈ tables_1, d.before a0 Z = true) (hby : c.code = code) (hml : c.maxLocals = 12) (hown : s.vm.findClass "com/example/rowmotif/rowmotif/matcher/PartitionRowsReleasePinLaw" = some m.cls) (hret : meth.sig.returnType = some .boolean) (hlocks : meth.locks = false) (e0 : T0.heap = h0) (N0 : Fr n0 locs) (Z0 : n0 ≤ h0.size) (hR : Rg Z h0 a rg kr (2 : Int32) (0 : Int32) .null .null .null) :
    ∃ s₂ o₂, Go p e below T0 (mkF m 105 #[iv p1, iv p2, iv p3, iv 2, rv r0, rv r1, rv r2, rv a, iv k8, iv k9, iv 2, .unset] []) s₂ ∧ s₂.status = .running ∧ Ended s₂ below o₂ ∧ ∃ v₂ L₂, o₂ = .returned v₂ ∧ (v₂ = some (.int 1) ∧ Fr n0 L₂) ∧ FrameEnd s o₂ s₂ L₂ room_1.cells room_1.slots := by
  have pre0 : ∀ t_, Go p e below T0 (mkF m 105 #[iv p1, iv p2, iv p3, iv 2, rv r0, rv r1, rv r2, rv a, iv k8, iv k9, iv 2, .unset] []) t_ → Go p e below T0 (mkF m 105 #[iv p1, iv p2, iv p3, iv 2, rv r0, rv r1, rv r2, rv a, iv k8, iv k9, iv 2, .unset] []) t_ := fun _ kt => kt
  obtain ⟨cq1, kq1, q1a, q1b, q1c⟩ := isOf hZ e0 hR.1
  obtain ⟨_, _, ⟨T1, L1, k1, n1⟩, -, X1, ⟨Lc1, hQ1, l1, y1, z1⟩, st1⟩ := X0.virtualBack hx (y := (⟨"com/example/rowmotif/rowmotif/matcher/PartitionRows", "size", "()I"⟩ : MethodName)) (z := (⟨"com/example/rowmotif/rowmotif/matcher/PartitionRows", "size", "()I"⟩ : MethodName)) hown (mvT hZ (hwi hw 29 rfl)) (mvT hZ (hwi hw 30 rfl)) (notFace_of_selects (args := #[]) (mvT hZ (hwi hw 32 rfl))) (mvT hZ (hwi hw 32 rfl)) (mvT hZ (hwi hw 31 rfl)) (by decide) (backOf (W := 0) (rmZ l Z a0 hw [] a (2 : Int32) (0 : Int32) h0 n0 Z0 hR.2.2.2.2.1 hR.2.2.2.1) hZ (hwi hw 33 rfl) (hwi hw 4 rfl) (by decide) (by decide)) q1a q1c (g := (mkF m 107 #[iv p1, iv p2, iv p3, iv 2, rv r0, rv r1, rv r2, rv a, iv k8, iv k9, iv 2, .unset] [(.ref a)])) rfl (by rw [hml]; rfl) (Steps.refl _) (argsL := []) (rest := []) (lenOf pd_3 rfl) rfl (by show 2 * 0 + _ ≤ _; exact Nat.le_of_eq rfl) (hb hby at_107) (fun _ _ => ⟨rfl, e0, (by decide : 5 + 0 ≤ _), (by decide : 25 + 0 ≤ _)⟩)
  dsimp only [Pt.U, Pt.locs, Pt.cells, Pt.slots] at X1 l1 y1 z1 st1 hQ1
  subst l1 y1 z1
  obtain ⟨hv1, N1q, e1q⟩ := hQ1
  have N1 := Fr.app N0 N1q
  rw [show ((2 : Int32) + (0 : Int32)) = (2 : Int32) from by decide] at hv1
  subst hv1
  obtain ⟨cq2, kq2, q2a, q2b, q2c⟩ := isOf hZ e1q hR.1
  obtain ⟨_, _, ⟨T2, L2, k2, n2⟩, -, X2, ⟨Lc2, hQ2, l2, y2, z2⟩, st2⟩ := X1.virtualBack hx (y := (⟨"com/example/rowmotif/rowmotif/matcher/PartitionRows", "held", "()I"⟩ : MethodName)) (z := (⟨"com/example/rowmotif/rowmotif/matcher/PartitionRows", "held", "()I"⟩ : MethodName)) hown (mvT hZ (hwi hw 36 rfl)) (mvT hZ (hwi hw 37 rfl)) (notFace_of_selects (args := #[]) (mvT hZ (hwi hw 39 rfl))) (mvT hZ (hwi hw 39 rfl)) (mvT hZ (hwi hw 38 rfl)) (by decide) (backOf (W := 0) (rmHd l Z a0 hw [] a (0 : Int32) h0 n0 Z0 hR.2.2.2.1) hZ (hwi hw 40 rfl) (hwi hw 4 rfl) (by decide) (by decide)) q2a q2c (g := (mkF m 116 #[iv p1, iv p2, iv p3, iv 2, rv r0, rv r1, rv r2, rv a, iv k8, iv k9, iv 2, .unset] [(.ref a)])) rfl (by rw [hml]; rfl) (Steps.refl _) (argsL := []) (rest := []) (lenOf pd_3 rfl) rfl (by show 2 * 0 + _ ≤ _; exact Nat.le_of_eq rfl) (hb hby at_116) (fun _ _ => ⟨rfl, e1q, (by decide : 5 + 0 ≤ _), (by decide : 25 + 0 ≤ _)⟩)
  dsimp only [Pt.U, Pt.locs, Pt.cells, Pt.slots] at X2 l2 y2 z2 st2 hQ2
  subst l2 y2 z2
  obtain ⟨rfl, N2q, e2q⟩ := hQ2
  have N2 := Fr.app N1 N2q
  have pre3 : ∀ t_, Go p e below T2 (mkF m 236 #[iv p1, iv p2, iv p3, iv 2, rv r0, rv r1, rv r2, rv a, iv k8, iv k9, iv 2, iv 1] [(.int 1)]) t_ → Go p e below T0 (mkF m 105 #[iv p1, iv p2, iv p3, iv 2, rv r0, rv r1, rv r2, rv a, iv k8, iv k9, iv 2, .unset] []) t_ := fun t_ kt => pre0 _ (by
      show Go p e below T0 (mkF m 105 #[iv p1, iv p2, iv p3, iv 2, rv r0, rv r1, rv r2, rv a, iv k8, iv k9, iv 2, .unset] []) _
      refine XS.aload X0.here hx rfl (hb hby at_105) rfl rfl ?_
      show Go p e below T0 (mkF m 107 #[iv p1, iv p2, iv p3, iv 2, rv r0, rv r1, rv r2, rv a, iv k8, iv k9, iv 2, .unset] [(.ref a)]) _
      refine st1.trans ?_
      show Go p e below T1 (mkF m 110 #[iv p1, iv p2, iv p3, iv 2, rv r0, rv r1, rv r2, rv a, iv k8, iv k9, iv 2, .unset] [(.int 2)]) _
      refine XS.iloadN X1.here hx rfl (hb hby at_110) rfl ?_
      show Go p e below T1 (mkF m 111 #[iv p1, iv p2, iv p3, iv 2, rv r0, rv r1, rv r2, rv a, iv k8, iv k9, iv 2, .unset] [(.int 2), (.int 2)]) _
      refine XS.icmpNo X1.here hx rfl (hb hby at_111) rfl (teq ((by decide) : (2 : Int32) = (2 : Int32))).2 ?_
      show Go p e below T1 (mkF m 114 #[iv p1, iv p2, iv p3, iv 2, rv r0, rv r1, rv r2, rv a, iv k8, iv k9, iv 2, .unset] []) _
      refine XS.aload X1.here hx rfl (hb hby at_114) rfl rfl ?_
      show Go p e below T1 (mkF m 116 #[iv p1, iv p2, iv p3, iv 2, rv r0, rv r1, rv r2, rv a, iv k8, iv k9, iv 2, .unset] [(.ref a)]) _
      refine st2.trans ?_
      show Go p e below T2 (mkF m 119 #[iv p1, iv p2, iv p3, iv 2, rv r0, rv r1, rv r2, rv a, iv k8, iv k9, iv 2, .unset] [(.int 0)]) _
      refine XS.iloadN X2.here hx rfl (hb hby at_119) rfl ?_
      show Go p e below T2 (mkF m 120 #[iv p1, iv p2, iv p3, iv 2, rv r0, rv r1, rv r2, rv a, iv k8, iv k9, iv 2, .unset] [(.int 2), (.int 0)]) _
      refine XS.iload X2.here hx rfl (hb hby at_120) rfl ?_
      show Go p e below T2 (mkF m 122 #[iv p1, iv p2, iv p3, iv 2, rv r0, rv r1, rv r2, rv a, iv k8, iv k9, iv 2, .unset] [(.int 2), (.int 2), (.int 0)]) _
      refine XS.isub X2.here hx rfl (hb hby at_122) rfl ?_
      show Go p e below T2 (mkF m 123 #[iv p1, iv p2, iv p3, iv 2, rv r0, rv r1, rv r2, rv a, iv k8, iv k9, iv 2, .unset] [(.int 0), (.int 0)]) _
      refine XS.icmpNo X2.here hx rfl (hb hby at_123) rfl (teq ((by decide) : (0 : Int32) = (0 : Int32))).2 ?_
      show Go p e below T2 (mkF m 126 #[iv p1, iv p2, iv p3, iv 2, rv r0, rv r1, rv r2, rv a, iv k8, iv k9, iv 2, .unset] []) _
      refine XS.iconst X2.here hx rfl (hb hby at_126) ?_
      show Go p e below T2 (mkF m 127 #[iv p1, iv p2, iv p3, iv 2, rv r0, rv r1, rv r2, rv a, iv k8, iv k9, iv 2, .unset] [(.int 1)]) _
      refine XS.goto X2.here hx rfl (pc0 := 127) (pc' := 131) rfl (hb hby at_127) (by decide) (by decide) ?_
      show Go p e below T2 (mkF m 131 #[iv p1, iv p2, iv p3, iv 2, rv r0, rv r1, rv r2, rv a, iv k8, iv k9, iv 2, .unset] [(.int 1)]) _
      refine XS.istore X2.here hx rfl (hb hby at_131) rfl (l' := #[iv p1, iv p2, iv p3, iv 2, rv r0, rv r1, rv r2, rv a, iv k8, iv k9, iv 2, iv 1]) rfl ?_
      show Go p e below T2 (mkF m 133 #[iv p1, iv p2, iv p3, iv 2, rv r0, rv r1, rv r2, rv a, iv k8, iv k9, iv 2, iv 1] []) _
      refine XS.iload X2.here hx rfl (hb hby at_133) rfl ?_
      show Go p e below T2 (mkF m 135 #[iv p1, iv p2, iv p3, iv 2, rv r0, rv r1, rv r2, rv a, iv k8, iv k9, iv 2, iv 1] [(.int 2)]) _
      refine XS.ifYes X2.here hx rfl (pc0 := 135) (pc' := 166) rfl (hb hby at_135) rfl ((if0 _ _).trans (tlt ((by decide) : (0 : Int32) < (2 : Int32))).2.2.1) (by decide) (by decide) ?_
      show Go p e below T2 (mkF m 166 #[iv p1, iv p2, iv p3, iv 2, rv r0, rv r1, rv r2, rv a, iv k8, iv k9, iv 2, iv 1] []) _
      refine XS.iload X2.here hx rfl (hb hby at_166) rfl ?_
      show Go p e below T2 (mkF m 168 #[iv p1, iv p2, iv p3, iv 2, rv r0, rv r1, rv r2, rv a, iv k8, iv k9, iv 2, iv 1] [(.int 2)]) _
      refine XS.iconst X2.here hx rfl (hb hby at_168) ?_
      show Go p e below T2 (mkF m 169 #[iv p1, iv p2, iv p3, iv 2, rv r0, rv r1, rv r2, rv a, iv k8, iv k9, iv 2, iv 1] [(.int 1), (.int 2)]) _
      refine XS.icmpYes X2.here hx rfl (pc0 := 169) (pc' := 200) rfl (hb hby at_169) rfl (tlt ((by decide) : (1 : Int32) < (2 : Int32))).2.2.1 (by decide) (by decide) ?_
      show Go p e below T2 (mkF m 200 #[iv p1, iv p2, iv p3, iv 2, rv r0, rv r1, rv r2, rv a, iv k8, iv k9, iv 2, iv 1] []) _
      refine XS.iload X2.here hx rfl (hb hby at_200) rfl ?_
      show Go p e below T2 (mkF m 202 #[iv p1, iv p2, iv p3, iv 2, rv r0, rv r1, rv r2, rv a, iv k8, iv k9, iv 2, iv 1] [(.int 2)]) _
      refine XS.iconst X2.here hx rfl (hb hby at_202) ?_
      show Go p e below T2 (mkF m 203 #[iv p1, iv p2, iv p3, iv 2, rv r0, rv r1, rv r2, rv a, iv k8, iv k9, iv 2, iv 1] [(.int 2), (.int 2)]) _
      refine XS.icmpNo X2.here hx rfl (hb hby at_203) rfl (flt ((by decide) : ¬ ((2 : Int32) < (2 : Int32)))).2.2.1 ?_
      show Go p e below T2 (mkF m 206 #[iv p1, iv p2, iv p3, iv 2, rv r0, rv r1, rv r2, rv a, iv k8, iv k9, iv 2, iv 1] []) _
      refine XS.iconst X2.here hx rfl (hb hby at_206) ?_
      show Go p e below T2 (mkF m 207 #[iv p1, iv p2, iv p3, iv 2, rv r0, rv r1, rv r2, rv a, iv k8, iv k9, iv 2, iv 1] [(.int 2)]) _
      refine XS.iloadN X2.here hx rfl (hb hby at_207) rfl ?_
      show Go p e below T2 (mkF m 208 #[iv p1, iv p2, iv p3, iv 2, rv r0, rv r1, rv r2, rv a, iv k8, iv k9, iv 2, iv 1] [(.int 2), (.int 2)]) _
      refine XS.icmpYes X2.here hx rfl (pc0 := 208) (pc' := 234) rfl (hb hby at_208) rfl (flt ((by decide) : ¬ ((2 : Int32) < (2 : Int32)))).2.1 (by decide) (by decide) ?_
      show Go p e below T2 (mkF m 234 #[iv p1, iv p2, iv p3, iv 2, rv r0, rv r1, rv r2, rv a, iv k8, iv k9, iv 2, iv 1] []) _
      refine XS.iload X2.here hx rfl (hb hby at_234) rfl ?_
      show Go p e below T2 (mkF m 236 #[iv p1, iv p2, iv p3, iv 2, rv r0, rv r1, rv r2, rv a, iv k8, iv k9, iv 2, iv 1] [(.int 1)]) _
      exact kt)
  obtain ⟨fs, hr, hrun, hended, hW, hsame⟩ := X2.leave (v := some (.int 1)) (fun h => by rw [hret] at h; cases h)
  refine ⟨_, _, pre3 _ ?_, hrun, hended, _, _, rfl, ?_, ⟨_, rfl⟩, hW, hsame.mono (by decide) (by decide)⟩
  · show Steps p.tables e below (T2.setTop (mkF m 236 #[iv p1, iv p2, iv p3, iv 2, rv r0, rv r1, rv r2, rv a, iv k8, iv k9, iv 2, iv 1] [(.int 1)])) _
    exact retN X2 hx (t := .boolean) hret (by simp) (hb hby at_236) hr
  · exact ⟨rfl, N2⟩
set_option maxRecDepth 65536 in
set_option maxHeartbeats 40000000 in
theorem tl3_0 {p : Program} {l : Launch} {e : Env} {s : State} {m : MethodId} {args : Array Value} {below : List Frame} {meth : Method} {c : Code} {T0 : State} {locs : List Loc} {Z : State} {a0 : Array Value} (p1 : Int32) (p2 : Int32) (p3 : Int32) (k8 : Int32) (k9 : Int32) (a : Addr) (r0 : Addr) (r1 : Addr) (r2 : Addr) (rg : Addr) (kr : ClassId) (h0 : Heap) (n0 : Nat) (X0 : Stand p l e room_1 s m args below meth c T0 locs 5 25) (hx : p.tables.exec = Jvm.exec) (hZ : Z.Warmed39 s.vm) (hw : ∀ d ∈ tables_1, d.before a0 Z = true) (hby : c.code = code) (hml : c.maxLocals = 12) (hown : s.vm.findClass "com/example/rowmotif/rowmotif/matcher/PartitionRowsReleasePinLaw" = some m.cls) (hret : meth.sig.returnType = some .boolean) (hlocks : meth.locks = false) (e0 : T0.heap = h0) (N0 : Fr n0 locs) (Z0 : n0 ≤ h0.size) (hR : Rg Z h0 a rg kr (0 : Int32) (3 : Int32) (.ref r0) (.ref r1) (.ref r2)) :
    ∃ s₂ o₂, Go p e below T0 (mkF m 105 #[iv p1, iv p2, iv p3, iv 3, rv r0, rv r1, rv r2, rv a, iv k8, iv k9, iv 0, .unset] []) s₂ ∧ s₂.status = .running ∧ Ended s₂ below o₂ ∧ ∃ v₂ L₂, o₂ = .returned v₂ ∧ (v₂ = some (.int 1) ∧ Fr n0 L₂) ∧ FrameEnd s o₂ s₂ L₂ room_1.cells room_1.slots := by
  have pre0 : ∀ t_, Go p e below T0 (mkF m 105 #[iv p1, iv p2, iv p3, iv 3, rv r0, rv r1, rv r2, rv a, iv k8, iv k9, iv 0, .unset] []) t_ → Go p e below T0 (mkF m 105 #[iv p1, iv p2, iv p3, iv 3, rv r0, rv r1, rv r2, rv a, iv k8, iv k9, iv 0, .unset] []) t_ := fun _ kt => kt
  obtain ⟨cq1, kq1, q1a, q1b, q1c⟩ := isOf hZ e0 hR.1
  obtain ⟨_, _, ⟨T1, L1, k1, n1⟩, -, X1, ⟨Lc1, hQ1, l1, y1, z1⟩, st1⟩ := X0.virtualBack hx (y := (⟨"com/example/rowmotif/rowmotif/matcher/PartitionRows", "size", "()I"⟩ : MethodName)) (z := (⟨"com/example/rowmotif/rowmotif/matcher/PartitionRows", "size", "()I"⟩ : MethodName)) hown (mvT hZ (hwi hw 29 rfl)) (mvT hZ (hwi hw 30 rfl)) (notFace_of_selects (args := #[]) (mvT hZ (hwi hw 32 rfl))) (mvT hZ (hwi hw 32 rfl)) (mvT hZ (hwi hw 31 rfl)) (by decide) (backOf (W := 0) (rmZ l Z a0 hw [] a (0 : Int32) (3 : Int32) h0 n0 Z0 hR.2.2.2.2.1 hR.2.2.2.1) hZ (hwi hw 33 rfl) (hwi hw 4 rfl) (by decide) (by decide)) q1a q1c (g := (mkF m 107 #[iv p1, iv p2, iv p3, iv 3, rv r0, rv r1, rv r2, rv a, iv k8, iv k9, iv 0, .unset] [(.ref a)])) rfl (by rw [hml]; rfl) (Steps.refl _) (argsL := []) (rest := []) (lenOf pd_3 rfl) rfl (by show 2 * 0 + _ ≤ _; exact Nat.le_of_eq rfl) (hb hby at_107) (fun _ _ => ⟨rfl, e0, (by decide : 5 + 0 ≤ _), (by decide : 25 + 0 ≤ _)⟩)
  dsimp only [Pt.U, Pt.locs, Pt.cells, Pt.slots] at X1 l1 y1 z1 st1 hQ1
  subst l1 y1 z1
  obtain ⟨hv1, N1q, e1q⟩ := hQ1
  have N1 := Fr.app N0 N1q
  rw [show ((0 : Int32) + (3 : Int32)) = (3 : Int32) from by decide] at hv1
  subst hv1
  obtain ⟨cq2, kq2, q2a, q2b, q2c⟩ := isOf hZ e1q hR.1
  obtain ⟨_, _, ⟨T2, L2, k2, n2⟩, -, X2, ⟨Lc2, hQ2, l2, y2, z2⟩, st2⟩ := X1.virtualBack hx (y := (⟨"com/example/rowmotif/rowmotif/matcher/PartitionRows", "held", "()I"⟩ : MethodName)) (z := (⟨"com/example/rowmotif/rowmotif/matcher/PartitionRows", "held", "()I"⟩ : MethodName)) hown (mvT hZ (hwi hw 36 rfl)) (mvT hZ (hwi hw 37 rfl)) (notFace_of_selects (args := #[]) (mvT hZ (hwi hw 39 rfl))) (mvT hZ (hwi hw 39 rfl)) (mvT hZ (hwi hw 38 rfl)) (by decide) (backOf (W := 0) (rmHd l Z a0 hw [] a (3 : Int32) h0 n0 Z0 hR.2.2.2.1) hZ (hwi hw 40 rfl) (hwi hw 4 rfl) (by decide) (by decide)) q2a q2c (g := (mkF m 116 #[iv p1, iv p2, iv p3, iv 3, rv r0, rv r1, rv r2, rv a, iv k8, iv k9, iv 0, .unset] [(.ref a)])) rfl (by rw [hml]; rfl) (Steps.refl _) (argsL := []) (rest := []) (lenOf pd_3 rfl) rfl (by show 2 * 0 + _ ≤ _; exact Nat.le_of_eq rfl) (hb hby at_116) (fun _ _ => ⟨rfl, e1q, (by decide : 5 + 0 ≤ _), (by decide : 25 + 0 ≤ _)⟩)
  dsimp only [Pt.U, Pt.locs, Pt.cells, Pt.slots] at X2 l2 y2 z2 st2 hQ2
  subst l2 y2 z2
  obtain ⟨rfl, N2q, e2q⟩ := hQ2
  have N2 := Fr.app N1 N2q
  obtain ⟨cq3, kq3, q3a, q3b, q3c⟩ := isOf hZ e2q hR.1
  obtain ⟨_, _, ⟨T3, L3, k3, n3⟩, -, X3, ⟨Lc3, hQ3, l3, y3, z3⟩, st3⟩ := X2.virtualBack hx (y := (⟨"com/example/rowmotif/rowmotif/matcher/PartitionRows", "get", "(I)[Ljava/lang/Object;"⟩ : MethodName)) (z := (⟨"com/example/rowmotif/rowmotif/matcher/PartitionRows", "get", "(I)[Ljava/lang/Object;"⟩ : MethodName)) hown (mvT hZ (hwi hw 53 rfl)) (mvT hZ (hwi hw 54 rfl)) (notFace_of_selects (args := #[]) (mvT hZ (hwi hw 56 rfl))) (mvT hZ (hwi hw 56 rfl)) (mvT hZ (hwi hw 55 rfl)) (by decide) (backOf (W := 0) (rmG0_3_0 l Z a0 hw [] a r0 rg kr (.ref r1) (.ref r2) h0 n0 Z0 hR) hZ (hwi hw 57 rfl) (hwi hw 4 rfl) (by decide) (by decide)) q3a q3c (g := (mkF m 151 #[iv p1, iv p2, iv p3, iv 3, rv r0, rv r1, rv r2, rv a, iv k8, iv k9, iv 0, iv 1] [(.int 0), (.ref a)])) rfl (by rw [hml]; rfl) (Steps.refl _) (argsL := [(.int 0)]) (rest := []) (lenOf pd_5 rfl) rfl (by show 2 * 0 + _ ≤ _; exact Nat.le_of_eq rfl) (hb hby at_151) (fun _ _ => ⟨rfl, e2q, (by decide : 5 + 0 ≤ _), (by decide : 25 + 0 ≤ _)⟩)
  dsimp only [Pt.U, Pt.locs, Pt.cells, Pt.slots] at X3 l3 y3 z3 st3 hQ3
  subst l3 y3 z3
  obtain ⟨rfl, N3q, e3q⟩ := hQ3
  have N3 := Fr.app N2 N3q
  obtain ⟨cq4, kq4, q4a, q4b, q4c⟩ := isOf hZ e3q hR.1
  obtain ⟨_, _, ⟨T4, L4, k4, n4⟩, -, X4, ⟨Lc4, hQ4, l4, y4, z4⟩, st4⟩ := X3.virtualBack hx (y := (⟨"com/example/rowmotif/rowmotif/matcher/PartitionRows", "get", "(I)[Ljava/lang/Object;"⟩ : MethodName)) (z := (⟨"com/example/rowmotif/rowmotif/matcher/PartitionRows", "get", "(I)[Ljava/lang/Object;"⟩ : MethodName)) hown (mvT hZ (hwi hw 53 rfl)) (mvT hZ (hwi hw 54 rfl)) (notFace_of_selects (args := #[]) (mvT hZ (hwi hw 56 rfl))) (mvT hZ (hwi hw 56 rfl)) (mvT hZ (hwi hw 55 rfl)) (by decide) (backOf (W := 0) (rmG0_3_1 l Z a0 hw [] a r1 rg kr (.ref r0) (.ref r2) h0 n0 Z0 hR) hZ (hwi hw 57 rfl) (hwi hw 4 rfl) (by decide) (by decide)) q4a q4c (g := (mkF m 185 #[iv p1, iv p2, iv p3, iv 3, rv r0, rv r1, rv r2, rv a, iv k8, iv k9, iv 0, iv 1] [(.int 1), (.ref a)])) rfl (by rw [hml]; rfl) (Steps.refl _) (argsL := [(.int 1)]) (rest := []) (lenOf pd_5 rfl) rfl (by show 2 * 0 + _ ≤ _; exact Nat.le_of_eq rfl) (hb hby at_185) (fun _ _ => ⟨rfl, e3q, (by decide : 5 + 0 ≤ _), (by decide : 25 + 0 ≤ _)⟩)
  dsimp only [Pt.U, Pt.locs, Pt.cells, Pt.slots] at X4 l4 y4 z4 st4 hQ4
  subst l4 y4 z4
  obtain ⟨rfl, N4q, e4q⟩ := hQ4
  have N4 := Fr.app N3 N4q
  obtain ⟨cq5, kq5, q5a, q5b, q5c⟩ := isOf hZ e4q hR.1
  obtain ⟨_, _, ⟨T5, L5, k5, n5⟩, -, X5, ⟨Lc5, hQ5, l5, y5, z5⟩, st5⟩ := X4.virtualBack hx (y := (⟨"com/example/rowmotif/rowmotif/matcher/PartitionRows", "get", "(I)[Ljava/lang/Object;"⟩ : MethodName)) (z := (⟨"com/example/rowmotif/rowmotif/matcher/PartitionRows", "get", "(I)[Ljava/lang/Object;"⟩ : MethodName)) hown (mvT hZ (hwi hw 53 rfl)) (mvT hZ (hwi hw 54 rfl)) (notFace_of_selects (args := #[]) (mvT hZ (hwi hw 56 rfl))) (mvT hZ (hwi hw 56 rfl)) (mvT hZ (hwi hw 55 rfl)) (by decide) (backOf (W := 0) (rmG0_3_2 l Z a0 hw [] a r2 rg kr (.ref r0) (.ref r1) h0 n0 Z0 hR) hZ (hwi hw 57 rfl) (hwi hw 4 rfl) (by decide) (by decide)) q5a q5c (g := (mkF m 219 #[iv p1, iv p2, iv p3, iv 3, rv r0, rv r1, rv r2, rv a, iv k8, iv k9, iv 0, iv 1] [(.int 2), (.ref a)])) rfl (by rw [hml]; rfl) (Steps.refl _) (argsL := [(.int 2)]) (rest := []) (lenOf pd_5 rfl) rfl (by show 2 * 0 + _ ≤ _; exact Nat.le_of_eq rfl) (hb hby at_219) (fun _ _ => ⟨rfl, e4q, (by decide : 5 + 0 ≤ _), (by decide : 25 + 0 ≤ _)⟩)
  dsimp only [Pt.U, Pt.locs, Pt.cells, Pt.slots] at X5 l5 y5 z5 st5 hQ5
  subst l5 y5 z5
  obtain ⟨rfl, N5q, e5q⟩ := hQ5
  have N5 := Fr.app N4 N5q
  have pre6 : ∀ t_, Go p e below T5 (mkF m 236 #[iv p1, iv p2, iv p3, iv 3, rv r0, rv r1, rv r2, rv a, iv k8, iv k9, iv 0, iv 1] [(.int 1)]) t_ → Go p e below T0 (mkF m 105 #[iv p1, iv p2, iv p3, iv 3, rv r0, rv r1, rv r2, rv a, iv k8, iv k9, iv 0, .unset] []) t_ := fun t_ kt => pre0 _ (by
      show Go p e below T0 (mkF m 105 #[iv p1, iv p2, iv p3, iv 3, rv r0, rv r1, rv r2, rv a, iv k8, iv k9, iv 0, .unset] []) _
      refine XS.aload X0.here hx rfl (hb hby at_105) rfl rfl ?_
      show Go p e below T0 (mkF m 107 #[iv p1, iv p2, iv p3, iv 3, rv r0, rv r1, rv r2, rv a, iv k8, iv k9, iv 0, .unset] [(.ref a)]) _
      refine st1.trans ?_
      show Go p e below T1 (mkF m 110 #[iv p1, iv p2, iv p3, iv 3, rv r0, rv r1, rv r2, rv a, iv k8, iv k9, iv 0, .unset] [(.int 3)]) _
      refine XS.iloadN X1.here hx rfl (hb hby at_110) rfl ?_
      show Go p e below T1 (mkF m 111 #[iv p1, iv p2, iv p3, iv 3, rv r0, rv r1, rv r2, rv a, iv k8, iv k9, iv 0, .unset] [(.int 3), (.int 3)]) _
      refine XS.icmpNo X1.here hx rfl (hb hby at_111) rfl (teq ((by decide) : (3 : Int32) = (3 : Int32))).2 ?_
      show Go p e below T1 (mkF m 114 #[iv p1, iv p2, iv p3, iv 3, rv r0, rv r1, rv r2, rv a, iv k8, iv k9, iv 0, .unset] []) _
      refine XS.aload X1.here hx rfl (hb hby at_114) rfl rfl ?_
      show Go p e below T1 (mkF m 116 #[iv p1, iv p2, iv p3, iv 3, rv r0, rv r1, rv r2, rv a, iv k8, iv k9, iv 0, .unset] [(.ref a)]) _
      refine st2.trans ?_
      show Go p e below T2 (mkF m 119 #[iv p1, iv p2, iv p3, iv 3, rv r0, rv r1, rv r2, rv a, iv k8, iv k9, iv 0, .unset] [(.int 3)]) _
      refine XS.iloadN X2.here hx rfl (hb hby at_119) rfl ?_
      show Go p e below T2 (mkF m 120 #[iv p1, iv p2, iv p3, iv 3, rv r0, rv r1, rv r2, rv a, iv k8, iv k9, iv 0, .unset] [(.int 3), (.int 3)]) _
      refine XS.iload X2.here hx rfl (hb hby at_120) rfl ?_
      show Go p e below T2 (mkF m 122 #[iv p1, iv p2, iv p3, iv 3, rv r0, rv r1, rv r2, rv a, iv k8, iv k9, iv 0, .unset] [(.int 0), (.int 3), (.int 3)]) _
      refine XS.isub X2.here hx rfl (hb hby at_122) rfl ?_
      show Go p e below T2 (mkF m 123 #[iv p1, iv p2, iv p3, iv 3, rv r0, rv r1, rv r2, rv a, iv k8, iv k9, iv 0, .unset] [(.int 3), (.int 3)]) _
      refine XS.icmpNo X2.here hx rfl (hb hby at_123) rfl (teq ((by decide) : (3 : Int32) = (3 : Int32))).2 ?_
      show Go p e below T2 (mkF m 126 #[iv p1, iv p2, iv p3, iv 3, rv r0, rv r1, rv r2, rv a, iv k8, iv k9, iv 0, .unset] []) _
      refine XS.iconst X2.here hx rfl (hb hby at_126) ?_
      show Go p e below T2 (mkF m 127 #[iv p1, iv p2, iv p3, iv 3, rv r0, rv r1, rv r2, rv a, iv k8, iv k9, iv 0, .unset] [(.int 1)]) _
      refine XS.goto X2.here hx rfl (pc0 := 127) (pc' := 131) rfl (hb hby at_127) (by decide) (by decide) ?_
      show Go p e below T2 (mkF m 131 #[iv p1, iv p2, iv p3, iv 3, rv r0, rv r1, rv r2, rv a, iv k8, iv k9, iv 0, .unset] [(.int 1)]) _
      refine XS.istore X2.here hx rfl (hb hby at_131) rfl (l' := #[iv p1, iv p2, iv p3, iv 3, rv r0, rv r1, rv r2, rv a, iv k8, iv k9, iv 0, iv 1]) rfl ?_
      show Go p e below T2 (mkF m 133 #[iv p1, iv p2, iv p3, iv 3, rv r0, rv r1, rv r2, rv a, iv k8, iv k9, iv 0, iv 1] []) _
      refine XS.iload X2.here hx rfl (hb hby at_133) rfl ?_
      show Go p e below T2 (mkF m 135 #[iv p1, iv p2, iv p3, iv 3, rv r0, rv r1, rv r2, rv a, iv k8, iv k9, iv 0, iv 1] [(.int 0)]) _
      refine XS.ifNo X2.here hx rfl (hb hby at_135) rfl ((if0 _ _).trans (flt ((by decide) : ¬ ((0 : Int32) < (0 : Int32)))).2.2.1) ?_
      show Go p e below T2 (mkF m 138 #[iv p1, iv p2, iv p3, iv 3, rv r0, rv r1, rv r2, rv a, iv k8, iv k9, iv 0, iv 1] []) _
      refine XS.iconst X2.here hx rfl (hb hby at_138) ?_
      show Go p e below T2 (mkF m 139 #[iv p1, iv p2, iv p3, iv 3, rv r0, rv r1, rv r2, rv a, iv k8, iv k9, iv 0, iv 1] [(.int 0)]) _
      refine XS.iloadN X2.here hx rfl (hb hby at_139) rfl ?_
      show Go p e below T2 (mkF m 140 #[iv p1, iv p2, iv p3, iv 3, rv r0, rv r1, rv r2, rv a, iv k8, iv k9, iv 0, iv 1] [(.int 3), (.int 0)]) _
      refine XS.icmpNo X2.here hx rfl (hb hby at_140) rfl (tlt ((by decide) : (0 : Int32) < (3 : Int32))).2.1 ?_
      show Go p e below T2 (mkF m 143 #[iv p1, iv p2, iv p3, iv 3, rv r0, rv r1, rv r2, rv a, iv k8, iv k9, iv 0, iv 1] []) _
      refine XS.iload X2.here hx rfl (hb hby at_143) rfl ?_
      show Go p e below T2 (mkF m 145 #[iv p1, iv p2, iv p3, iv 3, rv r0, rv r1, rv r2, rv a, iv k8, iv k9, iv 0, iv 1] [(.int 1)]) _
      refine XS.ifNo X2.here hx rfl (hb hby at_145) rfl ((if0 _ _).trans (feq ((by decide) : ¬ ((1 : Int32) = (0 : Int32)))).1) ?_
      show Go p e below T2 (mkF m 148 #[iv p1, iv p2, iv p3, iv 3, rv r0, rv r1, rv r2, rv a, iv k8, iv k9, iv 0, iv 1] []) _
      refine XS.aload X2.here hx rfl (hb hby at_148) rfl rfl ?_
      show Go p e below T2 (mkF m 150 #[iv p1, iv p2, iv p3, iv 3, rv r0, rv r1, rv r2, rv a, iv k8, iv k9, iv 0, iv 1] [(.ref a)]) _
      refine XS.iconst X2.here hx rfl (hb hby at_150) ?_
      show Go p e below T2 (mkF m 151 #[iv p1, iv p2, iv p3, iv 3, rv r0, rv r1, rv r2, rv a, iv k8, iv k9, iv 0, iv 1] [(.int 0), (.ref a)]) _
      refine st3.trans ?_
      show Go p e below T3 (mkF m 154 #[iv p1, iv p2, iv p3, iv 3, rv r0, rv r1, rv r2, rv a, iv k8, iv k9, iv 0, iv 1] [(.ref r0)]) _
      refine XS.aload X3.here hx rfl (hb hby at_154) rfl rfl ?_
      show Go p e below T3 (mkF m 156 #[iv p1, iv p2, iv p3, iv 3, rv r0, rv r1, rv r2, rv a, iv k8, iv k9, iv 0, iv 1] [(.ref r0), (.ref r0)]) _
      refine Jvm.RoadKit.acmp (g := (mkF m 156 #[iv p1, iv p2, iv p3, iv 3, rv r0, rv r1, rv r2, rv a, iv k8, iv k9, iv 0, iv 1] [(.ref r0), (.ref r0)])) X3 hx rfl rfl rfl (pc0 := 156) (pc' := 159) (same := true) rfl (hb hby at_156) rfl (decide_eq_true rfl) (by decide) (by decide) ?_
      show Go p e below T3 (mkF m 159 #[iv p1, iv p2, iv p3, iv 3, rv r0, rv r1, rv r2, rv a, iv k8, iv k9, iv 0, iv 1] []) _
      refine XS.iconst X3.here hx rfl (hb hby at_159) ?_
      show Go p e below T3 (mkF m 160 #[iv p1, iv p2, iv p3, iv 3, rv r0, rv r1, rv r2, rv a, iv k8, iv k9, iv 0, iv 1] [(.int 1)]) _
      refine XS.goto X3.here hx rfl (pc0 := 160) (pc' := 164) rfl (hb hby at_160) (by decide) (by decide) ?_
      show Go p e below T3 (mkF m 164 #[iv p1, iv p2, iv p3, iv 3, rv r0, rv r1, rv r2, rv a, iv k8, iv k9, iv 0, iv 1] [(.int 1)]) _
      refine XS.istore X3.here hx rfl (hb hby at_164) rfl (l' := #[iv p1, iv p2, iv p3, iv 3, rv r0, rv r1, rv r2, rv a, iv k8, iv k9, iv 0, iv 1]) rfl ?_
      show Go p e below T3 (mkF m 166 #[iv p1, iv p2, iv p3, iv 3, rv r0, rv r1, rv r2, rv a, iv k8, iv k9, iv 0, iv 1] []) _
      refine XS.iload X3.here hx rfl (hb hby at_166) rfl ?_
      show Go p e below T3 (mkF m 168 #[iv p1, iv p2, iv p3, iv 3, rv r0, rv r1, rv r2, rv a, iv k8, iv k9, iv 0, iv 1] [(.int 0)]) _
      refine XS.iconst X3.here hx rfl (hb hby at_168) ?_
      show Go p e below T3 (mkF m 169 #[iv p1, iv p2, iv p3, iv 3, rv r0, rv r1, rv r2, rv a, iv k8, iv k9, iv 0, iv 1] [(.int 1), (.int 0)]) _
      refine XS.icmpNo X3.here hx rfl (hb hby at_169) rfl (flt ((by decide) : ¬ ((1 : Int32) < (0 : Int32)))).2.2.1 ?_
      show Go p e below T3 (mkF m 172 #[iv p1, iv p2, iv p3, iv 3, rv r0, rv r1, rv r2, rv a, iv k8, iv k9, iv 0, iv 1] []) _
      refine XS.iconst X3.here hx rfl (hb hby at_172) ?_
      show Go p e below T3 (mkF m 173 #[iv p1, iv p2, iv p3, iv 3, rv r0, rv r1, rv r2, rv a, iv k8, iv k9, iv 0, iv 1] [(.int 1)]) _
      refine XS.iloadN X3.here hx rfl (hb hby at_173) rfl ?_
      show Go p e below T3 (mkF m 174 #[iv p1, iv p2, iv p3, iv 3, rv r0, rv r1, rv r2, rv a, iv k8, iv k9, iv 0, iv 1] [(.int 3), (.int 1)]) _
      refine XS.icmpNo X3.here hx rfl (hb hby at_174) rfl (tlt ((by decide) : (1 : Int32) < (3 : Int32))).2.1 ?_
      show Go p e below T3 (mkF m 177 #[iv p1, iv p2, iv p3, iv 3, rv r0, rv r1, rv r2, rv a, iv k8, iv k9, iv 0, iv 1] []) _
      refine XS.iload X3.here hx rfl (hb hby at_177) rfl ?_
      show Go p e below T3 (mkF m 179 #[iv p1, iv p2, iv p3, iv 3, rv r0, rv r1, rv r2, rv a, iv k8, iv k9, iv 0, iv 1] [(.int 1)]) _
      refine XS.ifNo X3.here hx rfl (hb hby at_179) rfl ((if0 _ _).trans (feq ((by decide) : ¬ ((1 : Int32) = (0 : Int32)))).1) ?_
      show Go p e below T3 (mkF m 182 #[iv p1, iv p2, iv p3, iv 3, rv r0, rv r1, rv r2, rv a, iv k8, iv k9, iv 0, iv 1] []) _
      refine XS.aload X3.here hx rfl (hb hby at_182) rfl rfl ?_
      show Go p e below T3 (mkF m 184 #[iv p1, iv p2, iv p3, iv 3, rv r0, rv r1, rv r2, rv a, iv k8, iv k9, iv 0, iv 1] [(.ref a)]) _
      refine XS.iconst X3.here hx rfl (hb hby at_184) ?_
      show Go p e below T3 (mkF m 185 #[iv p1, iv p2, iv p3, iv 3, rv r0, rv r1, rv r2, rv a, iv k8, iv k9, iv 0, iv 1] [(.int 1), (.ref a)]) _
      refine st4.trans ?_
      show Go p e below T4 (mkF m 188 #[iv p1, iv p2, iv p3, iv 3, rv r0, rv r1, rv r2, rv a, iv k8, iv k9, iv 0, iv 1] [(.ref r1)]) _
      refine XS.aload X4.here hx rfl (hb hby at_188) rfl rfl ?_
      show Go p e below T4 (mkF m 190 #[iv p1, iv p2, iv p3, iv 3, rv r0, rv r1, rv r2, rv a, iv k8, iv k9, iv 0, iv 1] [(.ref r1), (.ref r1)]) _
      refine Jvm.RoadKit.acmp (g := (mkF m 190 #[iv p1, iv p2, iv p3, iv 3, rv r0, rv r1, rv r2, rv a, iv k8, iv k9, iv 0, iv 1] [(.ref r1), (.ref r1)])) X4 hx rfl rfl rfl (pc0 := 190) (pc' := 193) (same := true) rfl (hb hby at_190) rfl (decide_eq_true rfl) (by decide) (by decide) ?_
      show Go p e below T4 (mkF m 193 #[iv p1, iv p2, iv p3, iv 3, rv r0, rv r1, rv r2, rv a, iv k8, iv k9, iv 0, iv 1] []) _
      refine XS.iconst X4.here hx rfl (hb hby at_193) ?_
      show Go p e below T4 (mkF m 194 #[iv p1, iv p2, iv p3, iv 3, rv r0, rv r1, rv r2, rv a, iv k8, iv k9, iv 0, iv 1] [(.int 1)]) _
      refine XS.goto X4.here hx rfl (pc0 := 194) (pc' := 198) rfl (hb hby at_194) (by decide) (by decide) ?_
      show Go p e below T4 (mkF m 198 #[iv p1, iv p2, iv p3, iv 3, rv r0, rv r1, rv r2, rv a, iv k8, iv k9, iv 0, iv 1] [(.int 1)]) _
      refine XS.istore X4.here hx rfl (hb hby at_198) rfl (l' := #[iv p1, iv p2, iv p3, iv 3, rv r0, rv r1, rv r2, rv a, iv k8, iv k9, iv 0, iv 1]) rfl ?_
      show Go p e below T4 (mkF m 200 #[iv p1, iv p2, iv p3, iv 3, rv r0, rv r1, rv r2, rv a, iv k8, iv k9, iv 0, iv 1] []) _
      refine XS.iload X4.here hx rfl (hb hby at_200) rfl ?_
      show Go p e below T4 (mkF m 202 #[iv p1, iv p2, iv p3, iv 3, rv r0, rv r1, rv r2, rv a, iv k8, iv k9, iv 0, iv 1] [(.int 0)]) _
      refine XS.iconst X4.here hx rfl (hb hby at_202) ?_
      show Go p e below T4 (mkF m 203 #[iv p1, iv p2, iv p3, iv 3, rv r0, rv r1, rv r2, rv a, iv k8, iv k9, iv 0, iv 1] [(.int 2), (.int 0)]) _
      refine XS.icmpNo X4.here hx rfl (hb hby at_203) rfl (flt ((by decide) : ¬ ((2 : Int32) < (0 : Int32)))).2.2.1 ?_
      show Go p e below T4 (mkF m 206 #[iv p1, iv p2, iv p3, iv 3, rv r0, rv r1, rv r2, rv a, iv k8, iv k9, iv 0, iv 1] []) _
      refine XS.iconst X4.here hx rfl (hb hby at_206) ?_
      show Go p e below T4 (mkF m 207 #[iv p1, iv p2, iv p3, iv 3, rv r0, rv r1, rv r2, rv a, iv k8, iv k9, iv 0, iv 1] [(.int 2)]) _
      refine XS.iloadN X4.here hx rfl (hb hby at_207) rfl ?_
      show Go p e below T4 (mkF m 208 #[iv p1, iv p2, iv p3, iv 3, rv r0, rv r1, rv r2, rv a, iv k8, iv k9, iv 0, iv 1] [(.int 3), (.int 2)]) _
      refine XS.icmpNo X4.here hx rfl (hb hby at_208) rfl (tlt ((by decide) : (2 : Int32) < (3 : Int32))).2.1 ?_
      show Go p e below T4 (mkF m 211 #[iv p1, iv p2, iv p3, iv 3, rv r0, rv r1, rv r2, rv a, iv k8, iv k9, iv 0, iv 1] []) _
      refine XS.iload X4.here hx rfl (hb hby at_211) rfl ?_
      show Go p e below T4 (mkF m 213 #[iv p1, iv p2, iv p3, iv 3, rv r0, rv r1, rv r2, rv a, iv k8, iv k9, iv 0, iv 1] [(.int 1)]) _
      refine XS.ifNo X4.here hx rfl (hb hby at_213) rfl ((if0 _ _).trans (feq ((by decide) : ¬ ((1 : Int32) = (0 : Int32)))).1) ?_
      show Go p e below T4 (mkF m 216 #[iv p1, iv p2, iv p3, iv 3, rv r0, rv r1, rv r2, rv a, iv k8, iv k9, iv 0, iv 1] []) _
      refine XS.aload X4.here hx rfl (hb hby at_216) rfl rfl ?_
      show Go p e below T4 (mkF m 218 #[iv p1, iv p2, iv p3, iv 3, rv r0, rv r1, rv r2, rv a, iv k8, iv k9, iv 0, iv 1] [(.ref a)]) _
      refine XS.iconst X4.here hx rfl (hb hby at_218) ?_
      show Go p e below T4 (mkF m 219 #[iv p1, iv p2, iv p3, iv 3, rv r0, rv r1, rv r2, rv a, iv k8, iv k9, iv 0, iv 1] [(.int 2), (.ref a)]) _
      refine st5.trans ?_
      show Go p e below T5 (mkF m 222 #[iv p1, iv p2, iv p3, iv 3, rv r0, rv r1, rv r2, rv a, iv k8, iv k9, iv 0, iv 1] [(.ref r2)]) _
      refine XS.aload X5.here hx rfl (hb hby at_222) rfl rfl ?_
      show Go p e below T5 (mkF m 224 #[iv p1, iv p2, iv p3, iv 3, rv r0, rv r1, rv r2, rv a, iv k8, iv k9, iv 0, iv 1] [(.ref r2), (.ref r2)]) _
      refine Jvm.RoadKit.acmp (g := (mkF m 224 #[iv p1, iv p2, iv p3, iv 3, rv r0, rv r1, rv r2, rv a, iv k8, iv k9, iv 0, iv 1] [(.ref r2), (.ref r2)])) X5 hx rfl rfl rfl (pc0 := 224) (pc' := 227) (same := true) rfl (hb hby at_224) rfl (decide_eq_true rfl) (by decide) (by decide) ?_
      show Go p e below T5 (mkF m 227 #[iv p1, iv p2, iv p3, iv 3, rv r0, rv r1, rv r2, rv a, iv k8, iv k9, iv 0, iv 1] []) _
      refine XS.iconst X5.here hx rfl (hb hby at_227) ?_
      show Go p e below T5 (mkF m 228 #[iv p1, iv p2, iv p3, iv 3, rv r0, rv r1, rv r2, rv a, iv k8, iv k9, iv 0, iv 1] [(.int 1)]) _
      refine XS.goto X5.here hx rfl (pc0 := 228) (pc' := 232) rfl (hb hby at_228) (by decide) (by decide) ?_
      show Go p e below T5 (mkF m 232 #[iv p1, iv p2, iv p3, iv 3, rv r0, rv r1, rv r2, rv a, iv k8, iv k9, iv 0, iv 1] [(.int 1)]) _
      refine XS.istore X5.here hx rfl (hb hby at_232) rfl (l' := #[iv p1, iv p2, iv p3, iv 3, rv r0, rv r1, rv r2, rv a, iv k8, iv k9, iv 0, iv 1]) rfl ?_
      show Go p e below T5 (mkF m 234 #[iv p1, iv p2, iv p3, iv 3, rv r0, rv r1, rv r2, rv a, iv k8, iv k9, iv 0, iv 1] []) _
      refine XS.iload X5.here hx rfl (hb hby at_234) rfl ?_
      show Go p e below T5 (mkF m 236 #[iv p1, iv p2, iv p3, iv 3, rv r0, rv r1, rv r2, rv a, iv k8, iv k9, iv 0, iv 1] [(.int 1)]) _
      exact kt)
  obtain ⟨fs, hr, hrun, hended, hW, hsame⟩ := X5.leave (v := some (.int 1)) (fun h => by rw [hret] at h; cases h)
  refine ⟨_, _, pre6 _ ?_, hrun, hended, _, _, rfl, ?_, ⟨_, rfl⟩, hW, hsame.mono (by decide) (by decide)⟩
  · show Steps p.tables e below (T5.setTop (mkF m 236 #[iv p1, iv p2, iv p3, iv 3, rv r0, rv r1, rv r2, rv a, iv k8, iv k9, iv 0, iv 1] [(.int 1)])) _
    exact retN X5 hx (t := .boolean) hret (by simp) (hb hby at_236) hr
  · exact ⟨rfl, N5⟩
set_option maxRecDepth 65536 in
set_option maxHeartbeats 40000000 in
theorem tl3_1 {p : Program} {l : Launch} {e : Env} {s : State} {m : MethodId} {args : Array Value} {below : List Frame} {meth : Method} {c : Code} {T0 : State} {locs : List Loc} {Z : State} {a0 : Array Value} (p1 : Int32) (p2 : Int32) (p3 : Int32) (k8 : Int32) (k9 : Int32) (a : Addr) (r0 : Addr) (r1 : Addr) (r2 : Addr) (rg : Addr) (kr : ClassId) (h0 : Heap) (n0 : Nat) (X0 : Stand p l e room_1 s m args below meth c T0 locs 5 25) (hx : p.tables.exec = Jvm.exec) (hZ : Z.Warmed39 s.vm) (hw : ∀ d ∈ tables_1, d.before a0 Z = true) (hby : c.code = code) (hml : c.maxLocals = 12) (hown : s.vm.findClass "com/example/rowmotif/rowmotif/matcher/PartitionRowsReleasePinLaw" = some m.cls) (hret : meth.sig.returnType = some .boolean) (hlocks : meth.locks = false) (e0 : T0.heap = h0) (N0 : Fr n0 locs) (Z0 : n0 ≤ h0.size) (hR : Rg Z h0 a rg kr (1 : Int32) (2 : Int32) .null (.ref r1) (.ref r2)) :
    ∃ s₂ o₂, Go p e below T0 (mkF m 105 #[iv p1, iv p2, iv p3, iv 3, rv r0, rv r1, rv r2, rv a, iv k8, iv k9, iv 1, .unset] []) s₂ ∧ s₂.status = .running ∧ Ended s₂ below o₂ ∧ ∃ v₂ L₂, o₂ = .returned v₂ ∧ (v₂ = some (.int 1) ∧ Fr n0 L₂) ∧ FrameEnd s o₂ s₂ L₂ room_1.cells room_1.slots := by
  have pre0 : ∀ t_, Go p e below T0 (mkF m 105 #[iv p1, iv p2, iv p3, iv 3, rv r0, rv r1, rv r2, rv a, iv k8, iv k9, iv 1, .unset] []) t_ → Go p e below T0 (mkF m 105 #[iv p1, iv p2, iv p3, iv 3, rv r0, rv r1, rv r2, rv a, iv k8, iv k9, iv 1, .unset] []) t_ := fun _ kt => kt
  obtain ⟨cq1, kq1, q1a, q1b, q1c⟩ := isOf hZ e0 hR.1
  obtain ⟨_, _, ⟨T1, L1, k1, n1⟩, -, X1, ⟨Lc1, hQ1, l1, y1, z1⟩, st1⟩ := X0.virtualBack hx (y := (⟨"com/example/rowmotif/rowmotif/matcher/PartitionRows", "size", "()I"⟩ : MethodName)) (z := (⟨"com/example/rowmotif/rowmotif/matcher/PartitionRows", "size", "()I"⟩ : MethodName)) hown (mvT hZ (hwi hw 29 rfl)) (mvT hZ (hwi hw 30 rfl)) (notFace_of_selects (args := #[]) (mvT hZ (hwi hw 32 rfl))) (mvT hZ (hwi hw 32 rfl)) (mvT hZ (hwi hw 31 rfl)) (by decide) (backOf (W := 0) (rmZ l Z a0 hw [] a (1 : Int32) (2 : Int32) h0 n0 Z0 hR.2.2.2.2.1 hR.2.2.2.1) hZ (hwi hw 33 rfl) (hwi hw 4 rfl) (by decide) (by decide)) q1a q1c (g := (mkF m 107 #[iv p1, iv p2, iv p3, iv 3, rv r0, rv r1, rv r2, rv a, iv k8, iv k9, iv 1, .unset] [(.ref a)])) rfl (by rw [hml]; rfl) (Steps.refl _) (argsL := []) (rest := []) (lenOf pd_3 rfl) rfl (by show 2 * 0 + _ ≤ _; exact Nat.le_of_eq rfl) (hb hby at_107) (fun _ _ => ⟨rfl, e0, (by decide : 5 + 0 ≤ _), (by decide : 25 + 0 ≤ _)⟩)
  dsimp only [Pt.U, Pt.locs, Pt.cells, Pt.slots] at X1 l1 y1 z1 st1 hQ1
  subst l1 y1 z1
  obtain ⟨hv1, N1q, e1q⟩ := hQ1
  have N1 := Fr.app N0 N1q
  rw [show ((1 : Int32) + (2 : Int32)) = (3 : Int32) from by decide] at hv1
  subst hv1
  obtain ⟨cq2, kq2, q2a, q2b, q2c⟩ := isOf hZ e1q hR.1
  obtain ⟨_, _, ⟨T2, L2, k2, n2⟩, -, X2, ⟨Lc2, hQ2, l2, y2, z2⟩, st2⟩ := X1.virtualBack hx (y := (⟨"com/example/rowmotif/rowmotif/matcher/PartitionRows", "held", "()I"⟩ : MethodName)) (z := (⟨"com/example/rowmotif/rowmotif/matcher/PartitionRows", "held", "()I"⟩ : MethodName)) hown (mvT hZ (hwi hw 36 rfl)) (mvT hZ (hwi hw 37 rfl)) (notFace_of_selects (args := #[]) (mvT hZ (hwi hw 39 rfl))) (mvT hZ (hwi hw 39 rfl)) (mvT hZ (hwi hw 38 rfl)) (by decide) (backOf (W := 0) (rmHd l Z a0 hw [] a (2 : Int32) h0 n0 Z0 hR.2.2.2.1) hZ (hwi hw 40 rfl) (hwi hw 4 rfl) (by decide) (by decide)) q2a q2c (g := (mkF m 116 #[iv p1, iv p2, iv p3, iv 3, rv r0, rv r1, rv r2, rv a, iv k8, iv k9, iv 1, .unset] [(.ref a)])) rfl (by rw [hml]; rfl) (Steps.refl _) (argsL := []) (rest := []) (lenOf pd_3 rfl) rfl (by show 2 * 0 + _ ≤ _; exact Nat.le_of_eq rfl) (hb hby at_116) (fun _ _ => ⟨rfl, e1q, (by decide : 5 + 0 ≤ _), (by decide : 25 + 0 ≤ _)⟩)
  dsimp only [Pt.U, Pt.locs, Pt.cells, Pt.slots] at X2 l2 y2 z2 st2 hQ2
  subst l2 y2 z2
  obtain ⟨rfl, N2q, e2q⟩ := hQ2
  have N2 := Fr.app N1 N2q
  obtain ⟨cq3, kq3, q3a, q3b, q3c⟩ := isOf hZ e2q hR.1
  obtain ⟨_, _, ⟨T3, L3, k3, n3⟩, -, X3, ⟨Lc3, hQ3, l3, y3, z3⟩, st3⟩ := X2.virtualBack hx (y := (⟨"com/example/rowmotif/rowmotif/matcher/PartitionRows", "get", "(I)[Ljava/lang/Object;"⟩ : MethodName)) (z := (⟨"com/example/rowmotif/rowmotif/matcher/PartitionRows", "get", "(I)[Ljava/lang/Object;"⟩ : MethodName)) hown (mvT hZ (hwi hw 53 rfl)) (mvT hZ (hwi hw 54 rfl)) (notFace_of_selects (args := #[]) (mvT hZ (hwi hw 56 rfl))) (mvT hZ (hwi hw 56 rfl)) (mvT hZ (hwi hw 55 rfl)) (by decide) (backOf (W := 0) (rmG1_2_1 l Z a0 hw [] a r1 rg kr .null (.ref r2) h0 n0 Z0 hR) hZ (hwi hw 57 rfl) (hwi hw 4 rfl) (by decide) (by decide)) q3a q3c (g := (mkF m 185 #[iv p1, iv p2, iv p3, iv 3, rv r0, rv r1, rv r2, rv a, iv k8, iv k9, iv 1, iv 1] [(.int 1), (.ref a)])) rfl (by rw [hml]; rfl) (Steps.refl _) (argsL := [(.int 1)]) (rest := []) (lenOf pd_5 rfl) rfl (by show 2 * 0 + _ ≤ _; exact Nat.le_of_eq rfl) (hb hby at_185) (fun _ _ => ⟨rfl, e2q, (by decide : 5 + 0 ≤ _), (by decide : 25 + 0 ≤ _)⟩)
  dsimp only [Pt.U, Pt.locs, Pt.cells, Pt.slots] at X3 l3 y3 z3 st3 hQ3
  subst l3 y3 z3
  obtain ⟨rfl, N3q, e3q⟩ := hQ3
  have N3 := Fr.app N2 N3q
  obtain ⟨cq4, kq4, q4a, q4b, q4c⟩ := isOf hZ e3q hR.1
  obtain ⟨_, _, ⟨T4, L4, k4, n4⟩, -, X4, ⟨Lc4, hQ4, l4, y4, z4⟩, st4⟩ := X3.virtualBack hx (y := (⟨"com/example/rowmotif/rowmotif/matcher/PartitionRows", "get", "(I)[Ljava/lang/Object;"⟩ : MethodName)) (z := (⟨"com/example/rowmotif/rowmotif/matcher/PartitionRows", "get", "(I)[Ljava/lang/Object;"⟩ : MethodName)) hown (mvT hZ (hwi hw 53 rfl)) (mvT hZ (hwi hw 54 rfl)) (notFace_of_selects (args := #[]) (mvT hZ (hwi hw 56 rfl))) (mvT hZ (hwi hw 56 rfl)) (mvT hZ (hwi hw 55 rfl)) (by decide) (backOf (W := 0) (rmG1_2_2 l Z a0 hw [] a r2 rg kr .null (.ref r1) h0 n0 Z0 hR) hZ (hwi hw 57 rfl) (hwi hw 4 rfl) (by decide) (by decide)) q4a q4c (g := (mkF m 219 #[iv p1, iv p2, iv p3, iv 3, rv r0, rv r1, rv r2, rv a, iv k8, iv k9, iv 1, iv 1] [(.int 2), (.ref a)])) rfl (by rw [hml]; rfl) (Steps.refl _) (argsL := [(.int 2)]) (rest := []) (lenOf pd_5 rfl) rfl (by show 2 * 0 + _ ≤ _; exact Nat.le_of_eq rfl) (hb hby at_219) (fun _ _ => ⟨rfl, e3q, (by decide : 5 + 0 ≤ _), (by decide : 25 + 0 ≤ _)⟩)
  dsimp only [Pt.U, Pt.locs, Pt.cells, Pt.slots] at X4 l4 y4 z4 st4 hQ4
  subst l4 y4 z4
  obtain ⟨rfl, N4q, e4q⟩ := hQ4
  have N4 := Fr.app N3 N4q
  have pre5 : ∀ t_, Go p e below T4 (mkF m 236 #[iv p1, iv p2, iv p3, iv 3, rv r0, rv r1, rv r2, rv a, iv k8, iv k9, iv 1, iv 1] [(.int 1)]) t_ → Go p e below T0 (mkF m 105 #[iv p1, iv p2, iv p3, iv 3, rv r0, rv r1, rv r2, rv a, iv k8, iv k9, iv 1, .unset] []) t_ := fun t_ kt => pre0 _ (by
      show Go p e below T0 (mkF m 105 #[iv p1, iv p2, iv p3, iv 3, rv r0, rv r1, rv r2, rv a, iv k8, iv k9, iv 1, .unset] []) _
      refine XS.aload X0.here hx rfl (hb hby at_105) rfl rfl ?_
      show Go p e below T0 (mkF m 107 #[iv p1, iv p2, iv p3, iv 3, rv r0, rv r1, rv r2, rv a, iv k8, iv k9, iv 1, .unset] [(.ref a)]) _
      refine st1.trans ?_
      show Go p e below T1 (mkF m 110 #[iv p1, iv p2, iv p3, iv 3, rv r0, rv r1, rv r2, rv a, iv k8, iv k9, iv 1, .unset] [(.int 3)]) _
      refine XS.iloadN X1.here hx rfl (hb hby at_110) rfl ?_
      show Go p e below T1 (mkF m 111 #[iv p1, iv p2, iv p3, iv 3, rv r0, rv r1, rv r2, rv a, iv k8, iv k9, iv 1, .unset] [(.int 3), (.int 3)]) _
      refine XS.icmpNo X1.here hx rfl (hb hby at_111) rfl (teq ((by decide) : (3 : Int32) = (3 : Int32))).2 ?_
      show Go p e below T1 (mkF m 114 #[iv p1, iv p2, iv p3, iv 3, rv r0, rv r1, rv r2, rv a, iv k8, iv k9, iv 1, .unset] []) _
      refine XS.aload X1.here hx rfl (hb hby at_114) rfl rfl ?_
      show Go p e below T1 (mkF m 116 #[iv p1, iv p2, iv p3, iv 3, rv r0, rv r1, rv r2, rv a, iv k8, iv k9, iv 1, .unset] [(.ref a)]) _
      refine st2.trans ?_
      show Go p e below T2 (mkF m 119 #[iv p1, iv p2, iv p3, iv 3, rv r0, rv r1, rv r2, rv a, iv k8, iv k9, iv 1, .unset] [(.int 2)]) _
      refine XS.iloadN X2.here hx rfl (hb hby at_119) rfl ?_
      show Go p e below T2 (mkF m 120 #[iv p1, iv p2, iv p3, iv 3, rv r0, rv r1, rv r2, rv a, iv k8, iv k9, iv 1, .unset] [(.int 3), (.int 2)]) _
      refine XS.iload X2.here hx rfl (hb hby at_120) rfl ?_
      show Go p e below T2 (mkF m 122 #[iv p1, iv p2, iv p3, iv 3, rv r0, rv r1, rv r2, rv a, iv k8, iv k9, iv 1, .unset] [(.int 1), (.int 3), (.int 2)]) _
      refine XS.isub X2.here hx rfl (hb hby at_122) rfl ?_
      show Go p e below T2 (mkF m 123 #[iv p1, iv p2, iv p3, iv 3, rv r0, rv r1, rv r2, rv a, iv k8, iv k9, iv 1, .unset] [(.int 2), (.int 2)]) _
      refine XS.icmpNo X2.here hx rfl (hb hby at_123) rfl (teq ((by decide) : (2 : Int32) = (2 : Int32))).2 ?_
      show Go p e below T2 (mkF m 126 #[iv p1, iv p2, iv p3, iv 3, rv r0, rv r1, rv r2, rv a, iv k8, iv k9, iv 1, .unset] []) _
      refine XS.iconst X2.here hx rfl (hb hby at_126) ?_
      show Go p e below T2 (mkF m 127 #[iv p1, iv p2, iv p3, iv 3, rv r0, rv r1, rv r2, rv a, iv k8, iv k9, iv 1, .unset] [(.int 1)]) _
      refine XS.goto X2.here hx rfl (pc0 := 127) (pc' := 131) rfl (hb hby at_127) (by decide) (by decide) ?_
      show Go p e below T2 (mkF m 131 #[iv p1, iv p2, iv p3, iv 3, rv r0, rv r1, rv r2, rv a, iv k8, iv k9, iv 1, .unset] [(.int 1)]) _
      refine XS.istore X2.here hx rfl (hb hby at_131) rfl (l' := #[iv p1, iv p2, iv p3, iv 3, rv r0, rv r1, rv r2, rv a, iv k8, iv k9, iv 1, iv 1]) rfl ?_
      show Go p e below T2 (mkF m 133 #[iv p1, iv p2, iv p3, iv 3, rv r0, rv r1, rv r2, rv a, iv k8, iv k9, iv 1, iv 1] []) _
      refine XS.iload X2.here hx rfl (hb hby at_133) rfl ?_
      show Go p e below T2 (mkF m 135 #[iv p1, iv p2, iv p3, iv 3, rv r0, rv r1, rv r2, rv a, iv k8, iv k9, iv 1, iv 1] [(.int 1)]) _
      refine XS.ifYes X2.here hx rfl (pc0 := 135) (pc' := 166) rfl (hb hby at_135) rfl ((if0 _ _).trans (tlt ((by decide) : (0 : Int32) < (1 : Int32))).2.2.1) (by decide) (by decide) ?_
      show Go p e below T2 (mkF m 166 #[iv p1, iv p2, iv p3, iv 3, rv r0, rv r1, rv r2, rv a, iv k8, iv k9, iv 1, iv 1] []) _
      refine XS.iload X2.here hx rfl (hb hby at_166) rfl ?_
      show Go p e below T2 (mkF m 168 #[iv p1, iv p2, iv p3, iv 3, rv r0, rv r1, rv r2, rv a, iv k8, iv k9, iv 1, iv 1] [(.int 1)]) _
      refine XS.iconst X2.here hx rfl (hb hby at_168) ?_
      show Go p e below T2 (mkF m 169 #[iv p1, iv p2, iv p3, iv 3, rv r0, rv r1, rv r2, rv a, iv k8, iv k9, iv 1, iv 1] [(.int 1), (.int 1)]) _
      refine XS.icmpNo X2.here hx rfl (hb hby at_169) rfl (flt ((by decide) : ¬ ((1 : Int32) < (1 : Int32)))).2.2.1 ?_
      show Go p e below T2 (mkF m 172 #[iv p1, iv p2, iv p3, iv 3, rv r0, rv r1, rv r2, rv a, iv k8, iv k9, iv 1, iv 1] []) _
      refine XS.iconst X2.here hx rfl (hb hby at_172) ?_
      show Go p e below T2 (mkF m 173 #[iv p1, iv p2, iv p3, iv 3, rv r0, rv r1, rv r2, rv a, iv k8, iv k9, iv 1, iv 1] [(.int 1)]) _
      refine XS.iloadN X2.here hx rfl (hb hby at_173) rfl ?_
      show Go p e below T2 (mkF m 174 #[iv p1, iv p2, iv p3, iv 3, rv r0, rv r1, rv r2, rv a, iv k8, iv k9, iv 1, iv 1] [(.int 3), (.int 1)]) _
      refine XS.icmpNo X2.here hx rfl (hb hby at_174) rfl (tlt ((by decide) : (1 : Int32) < (3 : Int32))).2.1 ?_
      show Go p e below T2 (mkF m 177 #[iv p1, iv p2, iv p3, iv 3, rv r0, rv r1, rv r2, rv a, iv k8, iv k9, iv 1, iv 1] []) _
      refine XS.iload X2.here hx rfl (hb hby at_177) rfl ?_
      show Go p e below T2 (mkF m 179 #[iv p1, iv p2, iv p3, iv 3, rv r0, rv r1, rv r2, rv a, iv k8, iv k9, iv 1, iv 1] [(.int 1)]) _
      refine XS.ifNo X2.here hx rfl (hb hby at_179) rfl ((if0 _ _).trans (feq ((by decide) : ¬ ((1 : Int32) = (0 : Int32)))).1) ?_
      show Go p e below T2 (mkF m 182 #[iv p1, iv p2, iv p3, iv 3, rv r0, rv r1, rv r2, rv a, iv k8, iv k9, iv 1, iv 1] []) _
      refine XS.aload X2.here hx rfl (hb hby at_182) rfl rfl ?_
      show Go p e below T2 (mkF m 184 #[iv p1, iv p2, iv p3, iv 3, rv r0, rv r1, rv r2, rv a, iv k8, iv k9, iv 1, iv 1] [(.ref a)]) _
      refine XS.iconst X2.here hx rfl (hb hby at_184) ?_
      show Go p e below T2 (mkF m 185 #[iv p1, iv p2, iv p3, iv 3, rv r0, rv r1, rv r2, rv a, iv k8, iv k9, iv 1, iv 1] [(.int 1), (.ref a)]) _
      refine st3.trans ?_
      show Go p e below T3 (mkF m 188 #[iv p1, iv p2, iv p3, iv 3, rv r0, rv r1, rv r2, rv a, iv k8, iv k9, iv 1, iv 1] [(.ref r1)]) _
      refine XS.aload X3.here hx rfl (hb hby at_188) rfl rfl ?_
      show Go p e below T3 (mkF m 190 #[iv p1, iv p2, iv p3, iv 3, rv r0, rv r1, rv r2, rv a, iv k8, iv k9, iv 1, iv 1] [(.ref r1), (.ref r1)]) _
      refine Jvm.RoadKit.acmp (g := (mkF m 190 #[iv p1, iv p2, iv p3, iv 3, rv r0, rv r1, rv r2, rv a, iv k8, iv k9, iv 1, iv 1] [(.ref r1), (.ref r1)])) X3 hx rfl rfl rfl (pc0 := 190) (pc' := 193) (same := true) rfl (hb hby at_190) rfl (decide_eq_true rfl) (by decide) (by decide) ?_
      show Go p e below T3 (mkF m 193 #[iv p1, iv p2, iv p3, iv 3, rv r0, rv r1, rv r2, rv a, iv k8, iv k9, iv 1, iv 1] []) _
      refine XS.iconst X3.here hx rfl (hb hby at_193) ?_
      show Go p e below T3 (mkF m 194 #[iv p1, iv p2, iv p3, iv 3, rv r0, rv r1, rv r2, rv a, iv k8, iv k9, iv 1, iv 1] [(.int 1)]) _
      refine XS.goto X3.here hx rfl (pc0 := 194) (pc' := 198) rfl (hb hby at_194) (by decide) (by decide) ?_
      show Go p e below T3 (mkF m 198 #[iv p1, iv p2, iv p3, iv 3, rv r0, rv r1, rv r2, rv a, iv k8, iv k9, iv 1, iv 1] [(.int 1)]) _
      refine XS.istore X3.here hx rfl (hb hby at_198) rfl (l' := #[iv p1, iv p2, iv p3, iv 3, rv r0, rv r1, rv r2, rv a, iv k8, iv k9, iv 1, iv 1]) rfl ?_
      show Go p e below T3 (mkF m 200 #[iv p1, iv p2, iv p3, iv 3, rv r0, rv r1, rv r2, rv a, iv k8, iv k9, iv 1, iv 1] []) _
      refine XS.iload X3.here hx rfl (hb hby at_200) rfl ?_
      show Go p e below T3 (mkF m 202 #[iv p1, iv p2, iv p3, iv 3, rv r0, rv r1, rv r2, rv a, iv k8, iv k9, iv 1, iv 1] [(.int 1)]) _
      refine XS.iconst X3.here hx rfl (hb hby at_202) ?_
      show Go p e below T3 (mkF m 203 #[iv p1, iv p2, iv p3, iv 3, rv r0, rv r1, rv r2, rv a, iv k8, iv k9, iv 1, iv 1] [(.int 2), (.int 1)]) _
      refine XS.icmpNo X3.here hx rfl (hb hby at_203) rfl (flt ((by decide) : ¬ ((2 : Int32) < (1 : Int32)))).2.2.1 ?_
      show Go p e below T3 (mkF m 206 #[iv p1, iv p2, iv p3, iv 3, rv r0, rv r1, rv r2, rv a, iv k8, iv k9, iv 1, iv 1] []) _
      refine XS.iconst X3.here hx rfl (hb hby at_206) ?_
      show Go p e below T3 (mkF m 207 #[iv p1, iv p2, iv p3, iv 3, rv r0, rv r1, rv r2, rv a, iv k8, iv k9, iv 1, iv 1] [(.int 2)]) _
      refine XS.iloadN X3.here hx rfl (hb hby at_207) rfl ?_
      show Go p e below T3 (mkF m 208 #[iv p1, iv p2, iv p3, iv 3, rv r0, rv r1, rv r2, rv a, iv k8, iv k9, iv 1, iv 1] [(.int 3), (.int 2)]) _
      refine XS.icmpNo X3.here hx rfl (hb hby at_208) rfl (tlt ((by decide) : (2 : Int32) < (3 : Int32))).2.1 ?_
      show Go p e below T3 (mkF m 211 #[iv p1, iv p2, iv p3, iv 3, rv r0, rv r1, rv r2, rv a, iv k8, iv k9, iv 1, iv 1] []) _
      refine XS.iload X3.here hx rfl (hb hby at_211) rfl ?_
      show Go p e below T3 (mkF m 213 #[iv p1, iv p2, iv p3, iv 3, rv r0, rv r1, rv r2, rv a, iv k8, iv k9, iv 1, iv 1] [(.int 1)]) _
      refine XS.ifNo X3.here hx rfl (hb hby at_213) rfl ((if0 _ _).trans (feq ((by decide) : ¬ ((1 : Int32) = (0 : Int32)))).1) ?_
      show Go p e below T3 (mkF m 216 #[iv p1, iv p2, iv p3, iv 3, rv r0, rv r1, rv r2, rv a, iv k8, iv k9, iv 1, iv 1] []) _
      refine XS.aload X3.here hx rfl (hb hby at_216) rfl rfl ?_
      show Go p e below T3 (mkF m 218 #[iv p1, iv p2, iv p3, iv 3, rv r0, rv r1, rv r2, rv a, iv k8, iv k9, iv 1, iv 1] [(.ref a)]) _
      refine XS.iconst X3.here hx rfl (hb hby at_218) ?_
      show Go p e below T3 (mkF m 219 #[iv p1, iv p2, iv p3, iv 3, rv r0, rv r1, rv r2, rv a, iv k8, iv k9, iv 1, iv 1] [(.int 2), (.ref a)]) _
      refine st4.trans ?_
      show Go p e below T4 (mkF m 222 #[iv p1, iv p2, iv p3, iv 3, rv r0, rv r1, rv r2, rv a, iv k8, iv k9, iv 1, iv 1] [(.ref r2)]) _
      refine XS.aload X4.here hx rfl (hb hby at_222) rfl rfl ?_
      show Go p e below T4 (mkF m 224 #[iv p1, iv p2, iv p3, iv 3, rv r0, rv r1, rv r2, rv a, iv k8, iv k9, iv 1, iv 1] [(.ref r2), (.ref r2)]) _
      refine Jvm.RoadKit.acmp (g := (mkF m 224 #[iv p1, iv p2, iv p3, iv 3, rv r0, rv r1, rv r2, rv a, iv k8, iv k9, iv 1, iv 1] [(.ref r2), (.ref r2)])) X4 hx rfl rfl rfl (pc0 := 224) (pc' := 227) (same := true) rfl (hb hby at_224) rfl (decide_eq_true rfl) (by decide) (by decide) ?_
      show Go p e below T4 (mkF m 227 #[iv p1, iv p2, iv p3, iv 3, rv r0, rv r1, rv r2, rv a, iv k8, iv k9, iv 1, iv 1] []) _
      refine XS.iconst X4.here hx rfl (hb hby at_227) ?_
      show Go p e below T4 (mkF m 228 #[iv p1, iv p2, iv p3, iv 3, rv r0, rv r1, rv r2, rv a, iv k8, iv k9, iv 1, iv 1] [(.int 1)]) _
      refine XS.goto X4.here hx rfl (pc0 := 228) (pc' := 232) rfl (hb hby at_228) (by decide) (by decide) ?_
      show Go p e below T4 (mkF m 232 #[iv p1, iv p2, iv p3, iv 3, rv r0, rv r1, rv r2, rv a, iv k8, iv k9, iv 1, iv 1] [(.int 1)]) _
      refine XS.istore X4.here hx rfl (hb hby at_232) rfl (l' := #[iv p1, iv p2, iv p3, iv 3, rv r0, rv r1, rv r2, rv a, iv k8, iv k9, iv 1, iv 1]) rfl ?_
      show Go p e below T4 (mkF m 234 #[iv p1, iv p2, iv p3, iv 3, rv r0, rv r1, rv r2, rv a, iv k8, iv k9, iv 1, iv 1] []) _
      refine XS.iload X4.here hx rfl (hb hby at_234) rfl ?_
      show Go p e below T4 (mkF m 236 #[iv p1, iv p2, iv p3, iv 3, rv r0, rv r1, rv r2, rv a, iv k8, iv k9, iv 1, iv 1] [(.int 1)]) _
      exact kt)
  obtain ⟨fs, hr, hrun, hended, hW, hsame⟩ := X4.leave (v := some (.int 1)) (fun h => by rw [hret] at h; cases h)
  refine ⟨_, _, pre5 _ ?_, hrun, hended, _, _, rfl, ?_, ⟨_, rfl⟩, hW, hsame.mono (by decide) (by decide)⟩
  · show Steps p.tables e below (T4.setTop (mkF m 236 #[iv p1, iv p2, iv p3, iv 3, rv r0, rv r1, rv r2, rv a, iv k8, iv k9, iv 1, iv 1] [(.int 1)])) _
    exact retN X4 hx (t := .boolean) hret (by simp) (hb hby at_236) hr
  · exact ⟨rfl, N4⟩
set_option maxRecDepth 65536 in
set_option maxHeartbeats 40000000 in
theorem tl3_2 {p : Program} {l : Launch} {e : Env} {s : State} {m : MethodId} {args : Array Value} {below : List Frame} {meth : Method} {c : Code} {T0 : State} {locs : List Loc} {Z : State} {a0 : Array Value} (p1 : Int32) (p2 : Int32) (p3 : Int32) (k8 : Int32) (k9 : Int32) (a : Addr) (r0 : Addr) (r1 : Addr) (r2 : Addr) (rg : Addr) (kr : ClassId) (h0 : Heap) (n0 : Nat) (X0 : Stand p l e room_1 s m args below meth c T0 locs 5 25) (hx : p.tables.exec = Jvm.exec) (hZ : Z.Warmed39 s.vm) (hw : ∀ d ∈ tables_1, d.before a0 Z = true) (hby : c.code = code) (hml : c.maxLocals = 12) (hown : s.vm.findClass "com/example/rowmotif/rowmotif/matcher/PartitionRowsReleasePinLaw" = some m.cls) (hret : meth.sig.returnType = some .boolean) (hlocks : meth.locks = false) (e0 : T0.heap = h0) (N0 : Fr n0 locs) (Z0 : n0 ≤ h0.size) (hR : Rg Z h0 a rg kr (2 : Int32) (1 : Int32) .null .null (.ref r2)) :
    ∃ s₂ o₂, Go p e below T0 (mkF m 105 #[iv p1, iv p2, iv p3, iv 3, rv r0, rv r1, rv r2, rv a, iv k8, iv k9, iv 2, .unset] []) s₂ ∧ s₂.status = .running ∧ Ended s₂ below o₂ ∧ ∃ v₂ L₂, o₂ = .returned v₂ ∧ (v₂ = some (.int 1) ∧ Fr n0 L₂) ∧ FrameEnd s o₂ s₂ L₂ room_1.cells room_1.slots := by
  have pre0 : ∀ t_, Go p e below T0 (mkF m 105 #[iv p1, iv p2, iv p3, iv 3, rv r0, rv r1, rv r2, rv a, iv k8, iv k9, iv 2, .unset] []) t_ → Go p e below T0 (mkF m 105 #[iv p1, iv p2, iv p3, iv 3, rv r0, rv r1, rv r2, rv a, iv k8, iv k9, iv 2, .unset] []) t_ := fun _ kt => kt
  obtain ⟨cq1, kq1, q1a, q1b, q1c⟩ := isOf hZ e0 hR.1
  obtain ⟨_, _, ⟨T1, L1, k1, n1⟩, -, X1, ⟨Lc1, hQ1, l1, y1, z1⟩, st1⟩ := X0.virtualBack hx (y := (⟨"com/example/rowmotif/rowmotif/matcher/PartitionRows", "size", "()I"⟩ : MethodName)) (z := (⟨"com/example/rowmotif/rowmotif/matcher/PartitionRows", "size", "()I"⟩ : MethodName)) hown (mvT hZ (hwi hw 29 rfl)) (mvT hZ (hwi hw 30 rfl)) (notFace_of_selects (args := #[]) (mvT hZ (hwi hw 32 rfl))) (mvT hZ (hwi hw 32 rfl)) (mvT hZ (hwi hw 31 rfl)) (by decide) (backOf (W := 0) (rmZ l Z a0 hw [] a (2 : Int32) (1 : Int32) h0 n0 Z0 hR.2.2.2.2.1 hR.2.2.2.1) hZ (hwi hw 33 rfl) (hwi hw 4 rfl) (by decide) (by decide)) q1a q1c (g := (mkF m 107 #[iv p1, iv p2, iv p3, iv 3, rv r0, rv r1, rv r2, rv a, iv k8, iv k9, iv 2, .unset] [(.ref a)])) rfl (by rw [hml]; rfl) (Steps.refl _) (argsL := []) (rest := []) (lenOf pd_3 rfl) rfl (by show 2 * 0 + _ ≤ _; exact Nat.le_of_eq rfl) (hb hby at_107) (fun _ _ => ⟨rfl, e0, (by decide : 5 + 0 ≤ _), (by decide : 25 + 0 ≤ _)⟩)
  dsimp only [Pt.U, Pt.locs, Pt.cells, Pt.slots] at X1 l1 y1 z1 st1 hQ1
  subst l1 y1 z1
  obtain ⟨hv1, N1q, e1q⟩ := hQ1
  have N1 := Fr.app N0 N1q
  rw [show ((2 : Int32) + (1 : Int32)) = (3 : Int32) from by decide] at hv1
  subst hv1
  obtain ⟨cq2, kq2, q2a, q2b, q2c⟩ := isOf hZ e1q hR.1
  obtain ⟨_, _, ⟨T2, L2, k2, n2⟩, -, X2, ⟨Lc2, hQ2, l2, y2, z2⟩, st2⟩ := X1.virtualBack hx (y := (⟨"com/example/rowmotif/rowmotif/matcher/PartitionRows", "held", "()I"⟩ : MethodName)) (z := (⟨"com/example/rowmotif/rowmotif/matcher/PartitionRows", "held", "()I"⟩ : MethodName)) hown (mvT hZ (hwi hw 36 rfl)) (mvT hZ (hwi hw 37 rfl)) (notFace_of_selects (args := #[]) (mvT hZ (hwi hw 39 rfl))) (mvT hZ (hwi hw 39 rfl)) (mvT hZ (hwi hw 38 rfl)) (by decide) (backOf (W := 0) (rmHd l Z a0 hw [] a (1 : Int32) h0 n0 Z0 hR.2.2.2.1) hZ (hwi hw 40 rfl) (hwi hw 4 rfl) (by decide) (by decide)) q2a q2c (g := (mkF m 116 #[iv p1, iv p2, iv p3, iv 3, rv r0, rv r1, rv r2, rv a, iv k8, iv k9, iv 2, .unset] [(.ref a)])) rfl (by rw [hml]; rfl) (Steps.refl _) (argsL := []) (rest := []) (lenOf pd_3 rfl) rfl (by show 2 * 0 + _ ≤ _; exact Nat.le_of_eq rfl) (hb hby at_116) (fun _ _ => ⟨rfl, e1q, (by decide : 5 + 0 ≤ _), (by decide : 25 + 0 ≤ _)⟩)
  dsimp only [Pt.U, Pt.locs, Pt.cells, Pt.slots] at X2 l2 y2 z2 st2 hQ2
  subst l2 y2 z2
  obtain ⟨rfl, N2q, e2q⟩ := hQ2
  have N2 := Fr.app N1 N2q
  obtain ⟨cq3, kq3, q3a, q3b, q3c⟩ := isOf hZ e2q hR.1
  obtain ⟨_, _, ⟨T3, L3, k3, n3⟩, -, X3, ⟨Lc3, hQ3, l3, y3, z3⟩, st3⟩ := X2.virtualBack hx (y := (⟨"com/example/rowmotif/rowmotif/matcher/PartitionRows", "get", "(I)[Ljava/lang/Object;"⟩ : MethodName)) (z := (⟨"com/example/rowmotif/rowmotif/matcher/PartitionRows", "get", "(I)[Ljava/lang/Object;"⟩ : MethodName)) hown (mvT hZ (hwi hw 53 rfl)) (mvT hZ (hwi hw 54 rfl)) (notFace_of_selects (args := #[]) (mvT hZ (hwi hw 56 rfl))) (mvT hZ (hwi hw 56 rfl)) (mvT hZ (hwi hw 55 rfl)) (by decide) (backOf (W := 0) (rmG2_1_2 l Z a0 hw [] a r2 rg kr .null .null h0 n0 Z0 hR) hZ (hwi hw 57 rfl) (hwi hw 4 rfl) (by decide) (by decide)) q3a q3c (g := (mkF m 219 #[iv p1, iv p2, iv p3, iv 3, rv r0, rv r1, rv r2, rv a, iv k8, iv k9, iv 2, iv 1] [(.int 2), (.ref a)])) rfl (by rw [hml]; rfl) (Steps.refl _) (argsL := [(.int 2)]) (rest := []) (lenOf pd_5 rfl) rfl (by show 2 * 0 + _ ≤ _; exact Nat.le_of_eq rfl) (hb hby at_219) (fun _ _ => ⟨rfl, e2q, (by decide : 5 + 0 ≤ _), (by decide : 25 + 0 ≤ _)⟩)
  dsimp only [Pt.U, Pt.locs, Pt.cells, Pt.slots] at X3 l3 y3 z3 st3 hQ3
  subst l3 y3 z3
  obtain ⟨rfl, N3q, e3q⟩ := hQ3
  have N3 := Fr.app N2 N3q
  have pre4 : ∀ t_, Go p e below T3 (mkF m 236 #[iv p1, iv p2, iv p3, iv 3, rv r0, rv r1, rv r2, rv a, iv k8, iv k9, iv 2, iv 1] [(.int 1)]) t_ → Go p e below T0 (mkF m 105 #[iv p1, iv p2, iv p3, iv 3, rv r0, rv r1, rv r2, rv a, iv k8, iv k9, iv 2, .unset] []) t_ := fun t_ kt => pre0 _ (by
      show Go p e below T0 (mkF m 105 #[iv p1, iv p2, iv p3, iv 3, rv r0, rv r1, rv r2, rv a, iv k8, iv k9, iv 2, .unset] []) _
      refine XS.aload X0.here hx rfl (hb hby at_105) rfl rfl ?_
      show Go p e below T0 (mkF m 107 #[iv p1, iv p2, iv p3, iv 3, rv r0, rv r1, rv r2, rv a, iv k8, iv k9, iv 2, .unset] [(.ref a)]) _
      refine st1.trans ?_
      show Go p e below T1 (mkF m 110 #[iv p1, iv p2, iv p3, iv 3, rv r0, rv r1, rv r2, rv a, iv k8, iv k9, iv 2, .unset] [(.int 3)]) _
      refine XS.iloadN X1.here hx rfl (hb hby at_110) rfl ?_
      show Go p e below T1 (mkF m 111 #[iv p1, iv p2, iv p3, iv 3, rv r0, rv r1, rv r2, rv a, iv k8, iv k9, iv 2, .unset] [(.int 3), (.int 3)]) _
      refine XS.icmpNo X1.here hx rfl (hb hby at_111) rfl (teq ((by decide) : (3 : Int32) = (3 : Int32))).2 ?_
      show Go p e below T1 (mkF m 114 #[iv p1, iv p2, iv p3, iv 3, rv r0, rv r1, rv r2, rv a, iv k8, iv k9, iv 2, .unset] []) _
      refine XS.aload X1.here hx rfl (hb hby at_114) rfl rfl ?_
      show Go p e below T1 (mkF m 116 #[iv p1, iv p2, iv p3, iv 3, rv r0, rv r1, rv r2, rv a, iv k8, iv k9, iv 2, .unset] [(.ref a)]) _
      refine st2.trans ?_
      show Go p e below T2 (mkF m 119 #[iv p1, iv p2, iv p3, iv 3, rv r0, rv r1, rv r2, rv a, iv k8, iv k9, iv 2, .unset] [(.int 1)]) _
      refine XS.iloadN X2.here hx rfl (hb hby at_119) rfl ?_
      show Go p e below T2 (mkF m 120 #[iv p1, iv p2, iv p3, iv 3, rv r0, rv r1, rv r2, rv a, iv k8, iv k9, iv 2, .unset] [(.int 3), (.int 1)]) _
      refine XS.iload X2.here hx rfl (hb hby at_120) rfl ?_
      show Go p e below T2 (mkF m 122 #[iv p1, iv p2, iv p3, iv 3, rv r0, rv r1, rv r2, rv a, iv k8, iv k9, iv 2, .unset] [(.int 2), (.int 3), (.int 1)]) _
      refine XS.isub X2.here hx rfl (hb hby at_122) rfl ?_
      show Go p e below T2 (mkF m 123 #[iv p1, iv p2, iv p3, iv 3, rv r0, rv r1, rv r2, rv a, iv k8, iv k9, iv 2, .unset] [(.int 1), (.int 1)]) _
      refine XS.icmpNo X2.here hx rfl (hb hby at_123) rfl (teq ((by decide) : (1 : Int32) = (1 : Int32))).2 ?_
      show Go p e below T2 (mkF m 126 #[iv p1, iv p2, iv p3, iv 3, rv r0, rv r1, rv r2, rv a, iv k8, iv k9, iv 2, .unset] []) _
      refine XS.iconst X2.here hx rfl (hb hby at_126) ?_
      show Go p e below T2 (mkF m 127 #[iv p1, iv p2, iv p3, iv 3, rv r0, rv r1, rv r2, rv a, iv k8, iv k9, iv 2, .unset] [(.int 1)]) _
      refine XS.goto X2.here hx rfl (pc0 := 127) (pc' := 131) rfl (hb hby at_127) (by decide) (by decide) ?_
      show Go p e below T2 (mkF m 131 #[iv p1, iv p2, iv p3, iv 3, rv r0, rv r1, rv r2, rv a, iv k8, iv k9, iv 2, .unset] [(.int 1)]) _
      refine XS.istore X2.here hx rfl (hb hby at_131) rfl (l' := #[iv p1, iv p2, iv p3, iv 3, rv r0, rv r1, rv r2, rv a, iv k8, iv k9, iv 2, iv 1]) rfl ?_
      show Go p e below T2 (mkF m 133 #[iv p1, iv p2, iv p3, iv 3, rv r0, rv r1, rv r2, rv a, iv k8, iv k9, iv 2, iv 1] []) _
      refine XS.iload X2.here hx rfl (hb hby at_133) rfl ?_
      show Go p e below T2 (mkF m 135 #[iv p1, iv p2, iv p3, iv 3, rv r0, rv r1, rv r2, rv a, iv k8, iv k9, iv 2, iv 1] [(.int 2)]) _
      refine XS.ifYes X2.here hx rfl (pc0 := 135) (pc' := 166) rfl (hb hby at_135) rfl ((if0 _ _).trans (tlt ((by decide) : (0 : Int32) < (2 : Int32))).2.2.1) (by decide) (by decide) ?_
      show Go p e below T2 (mkF m 166 #[iv p1, iv p2, iv p3, iv 3, rv r0, rv r1, rv r2, rv a, iv k8, iv k9, iv 2, iv 1] []) _
      refine XS.iload X2.here hx rfl (hb hby at_166) rfl ?_
      show Go p e below T2 (mkF m 168 #[iv p1, iv p2, iv p3, iv 3, rv r0, rv r1, rv r2, rv a, iv k8, iv k9, iv 2, iv 1] [(.int 2)]) _
      refine XS.iconst X2.here hx rfl (hb hby at_168) ?_
      show Go p e below T2 (mkF m 169 #[iv p1, iv p2, iv p3, iv 3, rv r0, rv r1, rv r2, rv a, iv k8, iv k9, iv 2, iv 1] [(.int 1), (.int 2)]) _
      refine XS.icmpYes X2.here hx rfl (pc0 := 169) (pc' := 200) rfl (hb hby at_169) rfl (tlt ((by decide) : (1 : Int32) < (2 : Int32))).2.2.1 (by decide) (by decide) ?_
      show Go p e below T2 (mkF m 200 #[iv p1, iv p2, iv p3, iv 3, rv r0, rv r1, rv r2, rv a, iv k8, iv k9, iv 2, iv 1] []) _
      refine XS.iload X2.here hx rfl (hb hby at_200) rfl ?_
      show Go p e below T2 (mkF m 202 #[iv p1, iv p2, iv p3, iv 3, rv r0, rv r1, rv r2, rv a, iv k8, iv k9, iv 2, iv 1] [(.int 2)]) _
      refine XS.iconst X2.here hx rfl (hb hby at_202) ?_
      show Go p e below T2 (mkF m 203 #[iv p1, iv p2, iv p3, iv 3, rv r0, rv r1, rv r2, rv a, iv k8, iv k9, iv 2, iv 1] [(.int 2), (.int 2)]) _
      refine XS.icmpNo X2.here hx rfl (hb hby at_203) rfl (flt ((by decide) : ¬ ((2 : Int32) < (2 : Int32)))).2.2.1 ?_
      show Go p e below T2 (mkF m 206 #[iv p1, iv p2, iv p3, iv 3, rv r0, rv r1, rv r2, rv a, iv k8, iv k9, iv 2, iv 1] []) _
      refine XS.iconst X2.here hx rfl (hb hby at_206) ?_
      show Go p e below T2 (mkF m 207 #[iv p1, iv p2, iv p3, iv 3, rv r0, rv r1, rv r2, rv a, iv k8, iv k9, iv 2, iv 1] [(.int 2)]) _
      refine XS.iloadN X2.here hx rfl (hb hby at_207) rfl ?_
      show Go p e below T2 (mkF m 208 #[iv p1, iv p2, iv p3, iv 3, rv r0, rv r1, rv r2, rv a, iv k8, iv k9, iv 2, iv 1] [(.int 3), (.int 2)]) _
      refine XS.icmpNo X2.here hx rfl (hb hby at_208) rfl (tlt ((by decide) : (2 : Int32) < (3 : Int32))).2.1 ?_
      show Go p e below T2 (mkF m 211 #[iv p1, iv p2, iv p3, iv 3, rv r0, rv r1, rv r2, rv a, iv k8, iv k9, iv 2, iv 1] []) _
      refine XS.iload X2.here hx rfl (hb hby at_211) rfl ?_
      show Go p e below T2 (mkF m 213 #[iv p1, iv p2, iv p3, iv 3, rv r0, rv r1, rv r2, rv a, iv k8, iv k9, iv 2, iv 1] [(.int 1)]) _
      refine XS.ifNo X2.here hx rfl (hb hby at_213) rfl ((if0 _ _).trans (feq ((by decide) : ¬ ((1 : Int32) = (0 : Int32)))).1) ?_
      show Go p e below T2 (mkF m 216 #[iv p1, iv p2, iv p3, iv 3, rv r0, rv r1, rv r2, rv a, iv k8, iv k9, iv 2, iv 1] []) _
      refine XS.aload X2.here hx rfl (hb hby at_216) rfl rfl ?_
      show Go p e below T2 (mkF m 218 #[iv p1, iv p2, iv p3, iv 3, rv r0, rv r1, rv r2, rv a, iv k8, iv k9, iv 2, iv 1] [(.ref a)]) _
      refine XS.iconst X2.here hx rfl (hb hby at_218) ?_
      show Go p e below T2 (mkF m 219 #[iv p1, iv p2, iv p3, iv 3, rv r0, rv r1, rv r2, rv a, iv k8, iv k9, iv 2, iv 1] [(.int 2), (.ref a)]) _
      refine st3.trans ?_
      show Go p e below T3 (mkF m 222 #[iv p1, iv p2, iv p3, iv 3, rv r0, rv r1, rv r2, rv a, iv k8, iv k9, iv 2, iv 1] [(.ref r2)]) _
      refine XS.aload X3.here hx rfl (hb hby at_222) rfl rfl ?_
      show Go p e below T3 (mkF m 224 #[iv p1, iv p2, iv p3, iv 3, rv r0, rv r1, rv r2, rv a, iv k8, iv k9, iv 2, iv 1] [(.ref r2), (.ref r2)]) _
      refine Jvm.RoadKit.acmp (g := (mkF m 224 #[iv p1, iv p2, iv p3, iv 3, rv r0, rv r1, rv r2, rv a, iv k8, iv k9, iv 2, iv 1] [(.ref r2), (.ref r2)])) X3 hx rfl rfl rfl (pc0 := 224) (pc' := 227) (same := true) rfl (hb hby at_224) rfl (decide_eq_true rfl) (by decide) (by decide) ?_
      show Go p e below T3 (mkF m 227 #[iv p1, iv p2, iv p3, iv 3, rv r0, rv r1, rv r2, rv a, iv k8, iv k9, iv 2, iv 1] []) _
      refine XS.iconst X3.here hx rfl (hb hby at_227) ?_
      show Go p e below T3 (mkF m 228 #[iv p1, iv p2, iv p3, iv 3, rv r0, rv r1, rv r2, rv a, iv k8, iv k9, iv 2, iv 1] [(.int 1)]) _
      refine XS.goto X3.here hx rfl (pc0 := 228) (pc' := 232) rfl (hb hby at_228) (by decide) (by decide) ?_
      show Go p e below T3 (mkF m 232 #[iv p1, iv p2, iv p3, iv 3, rv r0, rv r1, rv r2, rv a, iv k8, iv k9, iv 2, iv 1] [(.int 1)]) _
      refine XS.istore X3.here hx rfl (hb hby at_232) rfl (l' := #[iv p1, iv p2, iv p3, iv 3, rv r0, rv r1, rv r2, rv a, iv k8, iv k9, iv 2, iv 1]) rfl ?_
      show Go p e below T3 (mkF m 234 #[iv p1, iv p2, iv p3, iv 3, rv r0, rv r1, rv r2, rv a, iv k8, iv k9, iv 2, iv 1] []) _
      refine XS.iload X3.here hx rfl (hb hby at_234) rfl ?_
      show Go p e below T3 (mkF m 236 #[iv p1, iv p2, iv p3, iv 3, rv r0, rv r1, rv r2, rv a, iv k8, iv k9, iv 2, iv 1] [(.int 1)]) _
      exact kt)
  obtain ⟨fs, hr, hrun, hended, hW, hsame⟩ := X3.leave (v := some (.int 1)) (fun h => by rw [hret] at h; cases h)
  refine ⟨_, _, pre4 _ ?_, hrun, hended, _, _, rfl, ?_, ⟨_, rfl⟩, hW, hsame.mono (by decide) (by decide)⟩
  · show Steps p.tables e below (T3.setTop (mkF m 236 #[iv p1, iv p2, iv p3, iv 3, rv r0, rv r1, rv r2, rv a, iv k8, iv k9, iv 2, iv 1] [(.int 1)])) _
    exact retN X3 hx (t := .boolean) hret (by simp) (hb hby at_236) hr
  · exact ⟨rfl, N3⟩
set_option maxRecDepth 65536 in
set_option maxHeartbeats 40000000 in
theorem tl3_3 {p : Program} {l : Launch} {e : Env} {s : State} {m : MethodId} {args : Array Value} {below : List Frame} {meth : Method} {c : Code} {T0 : State} {locs : List Loc} {Z : State} {a0 : Array Value} (p1 : Int32) (p2 : Int32) (p3 : Int32) (k8 : Int32) (k9 : Int32) (a : Addr) (r0 : Addr) (r1 : Addr) (r2 : Addr) (rg : Addr) (kr : ClassId) (h0 : Heap) (n0 : Nat) (X0 : Stand p l e room_1 s m args below meth c T0 locs 5 25) (hx : p.tables.exec = Jvm.exec) (hZ : Z.Warmed39 s.vm) (hw : ∀ d ∈ tables_1, d.before a0 Z = true) (hby : c.code = code) (hml : c.maxLocals = 12) (hown : s.vm.findClass "com/example/rowmotif/rowmotif/matcher/PartitionRowsReleasePinLaw" = some m.cls) (hret : meth.sig.returnType = some .boolean) (hlocks : meth.locks = false) (e0 : T0.heap = h0) (N0 : Fr n0 locs) (Z0 : n0 ≤ h0.size) (hR : Rg Z h0 a rg kr (3 : Int32) (0 : Int32) .null .null .null) :
    ∃ s₂ o₂, Go p e below T0 (mkF m 105 #[iv p1, iv p2, iv p3, iv 3, rv r0, rv r1, rv r2, rv a, iv k8, iv k9, iv 3, .unset] []) s₂ ∧ s₂.status = .running ∧ Ended s₂ below o₂ ∧ ∃ v₂ L₂, o₂ = .returned v₂ ∧ (v₂ = some (.int 1) ∧ Fr n0 L₂) ∧ FrameEnd s o₂ s₂ L₂ room_1.cells room_1.slots := by
  have pre0 : ∀ t_, Go p e below T0 (mkF m 105 #[iv p1, iv p2, iv p3, iv 3, rv r0, rv r1, rv r2, rv a, iv k8, iv k9, iv 3, .unset] []) t_ → Go p e below T0 (mkF m 105 #[iv p1, iv p2, iv p3, iv 3, rv r0, rv r1, rv r2, rv a, iv k8, iv k9, iv 3, .unset] []) t_ := fun _ kt => kt
  obtain ⟨cq1, kq1, q1a, q1b, q1c⟩ := isOf hZ e0 hR.1
  obtain ⟨_, _, ⟨T1, L1, k1, n1⟩, -, X1, ⟨Lc1, hQ1, l1, y1, z1⟩, st1⟩ := X0.virtualBack hx (y := (⟨"com/example/rowmotif/rowmotif/matcher/PartitionRows", "size", "()I"⟩ : MethodName)) (z := (⟨"com/example/rowmotif/rowmotif/matcher/PartitionRows", "size", "()I"⟩ : MethodName)) hown (mvT hZ (hwi hw 29 rfl)) (mvT hZ (hwi hw 30 rfl)) (notFace_of_selects (args := #[]) (mvT hZ (hwi hw 32 rfl))) (mvT hZ (hwi hw 32 rfl)) (mvT hZ (hwi hw 31 rfl)) (by decide) (backOf (W := 0) (rmZ l Z a0 hw [] a (3 : Int32) (0 : Int32) h0 n0 Z0 hR.2.2.2.2.1 hR.2.2.2.1) hZ (hwi hw 33 rfl) (hwi hw 4 rfl) (by decide) (by decide)) q1a q1c (g := (mkF m 107 #[iv p1, iv p2, iv p3, iv 3, rv r0, rv r1, rv r2, rv a, iv k8, iv k9, iv 3, .unset] [(.ref a)])) rfl (by rw [hml]; rfl) (Steps.refl _) (argsL := []) (rest := []) (lenOf pd_3 rfl) rfl (by show 2 * 0 + _ ≤ _; exact Nat.le_of_eq rfl) (hb hby at_107) (fun _ _ => ⟨rfl, e0, (by decide : 5 + 0 ≤ _), (by decide : 25 + 0 ≤ _)⟩)
  dsimp only [Pt.U, Pt.locs, Pt.cells, Pt.slots] at X1 l1 y1 z1 st1 hQ1
  subst l1 y1 z1
  obtain ⟨hv1, N1q, e1q⟩ := hQ1
  have N1 := Fr.app N0 N1q
  rw [show ((3 : Int32) + (0 : Int32)) = (3 : Int32) from by decide] at hv1
  subst hv1
  obtain ⟨cq2, kq2, q2a, q2b, q2c⟩ := isOf hZ e1q hR.1
  obtain ⟨_, _, ⟨T2, L2, k2, n2⟩, -, X2, ⟨Lc2, hQ2, l2, y2, z2⟩, st2⟩ := X1.virtualBack hx (y := (⟨"com/example/rowmotif/rowmotif/matcher/PartitionRows", "held", "()I"⟩ : MethodName)) (z := (⟨"com/example/rowmotif/rowmotif/matcher/PartitionRows", "held", "()I"⟩ : MethodName)) hown (mvT hZ (hwi hw 36 rfl)) (mvT hZ (hwi hw 37 rfl)) (notFace_of_selects (args := #[]) (mvT hZ (hwi hw 39 rfl))) (mvT hZ (hwi hw 39 rfl)) (mvT hZ (hwi hw 38 rfl)) (by decide) (backOf (W := 0) (rmHd l Z a0 hw [] a (0 : Int32) h0 n0 Z0 hR.2.2.2.1) hZ (hwi hw 40 rfl) (hwi hw 4 rfl) (by decide) (by decide)) q2a q2c (g := (mkF m 116 #[iv p1, iv p2, iv p3, iv 3, rv r0, rv r1, rv r2, rv a, iv k8, iv k9, iv 3, .unset] [(.ref a)])) rfl (by rw [hml]; rfl) (Steps.refl _) (argsL := []) (rest := []) (lenOf pd_3 rfl) rfl (by show 2 * 0 + _ ≤ _; exact Nat.le_of_eq rfl) (hb hby at_116) (fun _ _ => ⟨rfl, e1q, (by decide : 5 + 0 ≤ _), (by decide : 25 + 0 ≤ _)⟩)
  dsimp only [Pt.U, Pt.locs, Pt.cells, Pt.slots] at X2 l2 y2 z2 st2 hQ2
  subst l2 y2 z2
  obtain ⟨rfl, N2q, e2q⟩ := hQ2
  have N2 := Fr.app N1 N2q
  have pre3 : ∀ t_, Go p e below T2 (mkF m 236 #[iv p1, iv p2, iv p3, iv 3, rv r0, rv r1, rv r2, rv a, iv k8, iv k9, iv 3, iv 1] [(.int 1)]) t_ → Go p e below T0 (mkF m 105 #[iv p1, iv p2, iv p3, iv 3, rv r0, rv r1, rv r2, rv a, iv k8, iv k9, iv 3, .unset] []) t_ := fun t_ kt => pre0 _ (by
      show Go p e below T0 (mkF m 105 #[iv p1, iv p2, iv p3, iv 3, rv r0, rv r1, rv r2, rv a, iv k8, iv k9, iv 3, .unset] []) _
      refine XS.aload X0.here hx rfl (hb hby at_105) rfl rfl ?_
      show Go p e below T0 (mkF m 107 #[iv p1, iv p2, iv p3, iv 3, rv r0, rv r1, rv r2, rv a, iv k8, iv k9, iv 3, .unset] [(.ref a)]) _
      refine st1.trans ?_
      show Go p e below T1 (mkF m 110 #[iv p1, iv p2, iv p3, iv 3, rv r0, rv r1, rv r2, rv a, iv k8, iv k9, iv 3, .unset] [(.int 3)]) _
      refine XS.iloadN X1.here hx rfl (hb hby at_110) rfl ?_
      show Go p e below T1 (mkF m 111 #[iv p1, iv p2, iv p3, iv 3, rv r0, rv r1, rv r2, rv a, iv k8, iv k9, iv 3, .unset] [(.int 3), (.int 3)]) _
      refine XS.icmpNo X1.here hx rfl (hb hby at_111) rfl (teq ((by decide) : (3 : Int32) = (3 : Int32))).2 ?_
      show Go p e below T1 (mkF m 114 #[iv p1, iv p2, iv p3, iv 3, rv r0, rv r1, rv r2, rv a, iv k8, iv k9, iv 3, .unset] []) _
      refine XS.aload X1.here hx rfl (hb hby at_114) rfl rfl ?_
      show Go p e below T1 (mkF m 116 #[iv p1, iv p2, iv p3, iv 3, rv r0, rv r1, rv r2, rv a, iv k8, iv k9, iv 3, .unset] [(.ref a)]) _
      refine st2.trans ?_
      show Go p e below T2 (mkF m 119 #[iv p1, iv p2, iv p3, iv 3, rv r0, rv r1, rv r2, rv a, iv k8, iv k9, iv 3, .unset] [(.int 0)]) _
      refine XS.iloadN X2.here hx rfl (hb hby at_119) rfl ?_
      show Go p e below T2 (mkF m 120 #[iv p1, iv p2, iv p3, iv 3, rv r0, rv r1, rv r2, rv a, iv k8, iv k9, iv 3, .unset] [(.int 3), (.int 0)]) _
      refine XS.iload X2.here hx rfl (hb hby at_120) rfl ?_
      show Go p e below T2 (mkF m 122 #[iv p1, iv p2, iv p3, iv 3, rv r0, rv r1, rv r2, rv a, iv k8, iv k9, iv 3, .unset] [(.int 3), (.int 3), (.int 0)]) _
      refine XS.isub X2.here hx rfl (hb hby at_122) rfl ?_
      show Go p e below T2 (mkF m 123 #[iv p1, iv p2, iv p3, iv 3, rv r0, rv r1, rv r2, rv a, iv k8, iv k9, iv 3, .unset] [(.int 0), (.int 0)]) _
      refine XS.icmpNo X2.here hx rfl (hb hby at_123) rfl (teq ((by decide) : (0 : Int32) = (0 : Int32))).2 ?_
      show Go p e below T2 (mkF m 126 #[iv p1, iv p2, iv p3, iv 3, rv r0, rv r1, rv r2, rv a, iv k8, iv k9, iv 3, .unset] []) _
      refine XS.iconst X2.here hx rfl (hb hby at_126) ?_
      show Go p e below T2 (mkF m 127 #[iv p1, iv p2, iv p3, iv 3, rv r0, rv r1, rv r2, rv a, iv k8, iv k9, iv 3, .unset] [(.int 1)]) _
      refine XS.goto X2.here hx rfl (pc0 := 127) (pc' := 131) rfl (hb hby at_127) (by decide) (by decide) ?_
      show Go p e below T2 (mkF m 131 #[iv p1, iv p2, iv p3, iv 3, rv r0, rv r1, rv r2, rv a, iv k8, iv k9, iv 3, .unset] [(.int 1)]) _
      refine XS.istore X2.here hx rfl (hb hby at_131) rfl (l' := #[iv p1, iv p2, iv p3, iv 3, rv r0, rv r1, rv r2, rv a, iv k8, iv k9, iv 3, iv 1]) rfl ?_
      show Go p e below T2 (mkF m 133 #[iv p1, iv p2, iv p3, iv 3, rv r0, rv r1, rv r2, rv a, iv k8, iv k9, iv 3, iv 1] []) _
      refine XS.iload X2.here hx rfl (hb hby at_133) rfl ?_
      show Go p e below T2 (mkF m 135 #[iv p1, iv p2, iv p3, iv 3, rv r0, rv r1, rv r2, rv a, iv k8, iv k9, iv 3, iv 1] [(.int 3)]) _
      refine XS.ifYes X2.here hx rfl (pc0 := 135) (pc' := 166) rfl (hb hby at_135) rfl ((if0 _ _).trans (tlt ((by decide) : (0 : Int32) < (3 : Int32))).2.2.1) (by decide) (by decide) ?_
      show Go p e below T2 (mkF m 166 #[iv p1, iv p2, iv p3, iv 3, rv r0, rv r1, rv r2, rv a, iv k8, iv k9, iv 3, iv 1] []) _
      refine XS.iload X2.here hx rfl (hb hby at_166) rfl ?_
      show Go p e below T2 (mkF m 168 #[iv p1, iv p2, iv p3, iv 3, rv r0, rv r1, rv r2, rv a, iv k8, iv k9, iv 3, iv 1] [(.int 3)]) _
      refine XS.iconst X2.here hx rfl (hb hby at_168) ?_
      show Go p e below T2 (mkF m 169 #[iv p1, iv p2, iv p3, iv 3, rv r0, rv r1, rv r2, rv a, iv k8, iv k9, iv 3, iv 1] [(.int 1), (.int 3)]) _
      refine XS.icmpYes X2.here hx rfl (pc0 := 169) (pc' := 200) rfl (hb hby at_169) rfl (tlt ((by decide) : (1 : Int32) < (3 : Int32))).2.2.1 (by decide) (by decide) ?_
      show Go p e below T2 (mkF m 200 #[iv p1, iv p2, iv p3, iv 3, rv r0, rv r1, rv r2, rv a, iv k8, iv k9, iv 3, iv 1] []) _
      refine XS.iload X2.here hx rfl (hb hby at_200) rfl ?_
      show Go p e below T2 (mkF m 202 #[iv p1, iv p2, iv p3, iv 3, rv r0, rv r1, rv r2, rv a, iv k8, iv k9, iv 3, iv 1] [(.int 3)]) _
      refine XS.iconst X2.here hx rfl (hb hby at_202) ?_
      show Go p e below T2 (mkF m 203 #[iv p1, iv p2, iv p3, iv 3, rv r0, rv r1, rv r2, rv a, iv k8, iv k9, iv 3, iv 1] [(.int 2), (.int 3)]) _
      refine XS.icmpYes X2.here hx rfl (pc0 := 203) (pc' := 234) rfl (hb hby at_203) rfl (tlt ((by decide) : (2 : Int32) < (3 : Int32))).2.2.1 (by decide) (by decide) ?_
      show Go p e below T2 (mkF m 234 #[iv p1, iv p2, iv p3, iv 3, rv r0, rv r1, rv r2, rv a, iv k8, iv k9, iv 3, iv 1] []) _
      refine XS.iload X2.here hx rfl (hb hby at_234) rfl ?_
      show Go p e below T2 (mkF m 236 #[iv p1, iv p2, iv p3, iv 3, rv r0, rv r1, rv r2, rv a, iv k8, iv k9, iv 3, iv 1] [(.int 1)]) _
      exact kt)
  obtain ⟨fs, hr, hrun, hended, hW, hsame⟩ := X2.leave (v := some (.int 1)) (fun h => by rw [hret] at h; cases h)
  refine ⟨_, _, pre3 _ ?_, hrun, hended, _, _, rfl, ?_, ⟨_, rfl⟩, hW, hsame.mono (by decide) (by decide)⟩
  · show Steps p.tables e below (T2.setTop (mkF m 236 #[iv p1, iv p2, iv p3, iv 3, rv r0, rv r1, rv r2, rv a, iv k8, iv k9, iv 3, iv 1] [(.int 1)])) _
    exact retN X2 hx (t := .boolean) hret (by simp) (hb hby at_236) hr
  · exact ⟨rfl, N2⟩
theorem ef_0 (m : MethodId) (x0 : Int32) (x1 : Int32) (x2 : Int32) : entryFrame m #[(.int x0), (.int x1), (.int x2)] maxLocals = mkF m 0 #[.val (.int x0), .val (.int x1), .val (.int x2), .unset, .unset, .unset, .unset, .unset, .unset, .unset, .unset, .unset] [] := by first | (simp [entryFrame, mkF, argsToLocals, Value.category, maxLocals]; done) | rfl
theorem pn_com_example_rowmotif_rowmotif_matcher_PartitionRowsReleasePinLaw : plainName "com/example/rowmotif/rowmotif/matcher/PartitionRowsReleasePinLaw" = true := by first | (simp [plainName, overriddenIn]; done) | decide +kernel
theorem pd_0 : parseMethodDescriptor "()V" = some ⟨[], none⟩ := by decide +kernel
theorem pd_1 : parseMethodDescriptor "(II)I" = some ⟨[.int, .int], some .int⟩ := by decide +kernel
theorem pd_2 : parseMethodDescriptor "(I)V" = some ⟨[.int], none⟩ := by decide +kernel
theorem pd_4 : parseMethodDescriptor "([Ljava/lang/Object;)V" = some ⟨[(.array (.object "java/lang/Object"))], none⟩ := by decide +kernel
def Q_rmL (Z : State) (p1 : Int32) (p2 : Int32) (p3 : Int32) (h0 : Heap) (n0 : Nat) (v : Option Value) (h : Heap) (L : List Loc) : Prop := v = some (.int 1) ∧ Fr n0 L
set_option maxRecDepth 65536 in
set_option maxHeartbeats 40000000 in
theorem rmL (l : Launch) (Z : State) (a0 : Array Value) (hw : ∀ d ∈ tables_1, d.before a0 Z = true) (ws : List Jvm.Cond) (p1 : Int32) (p2 : Int32) (p3 : Int32) (h0 : Heap) (n0 : Nat) (Z0 : n0 ≤ h0.size) :
    MetFree l x (head1 (Jvm.Cond.code x code maxLocals ret :: ws) room_1) (fun av_ U_ => av_ = #[(.int p1), (.int p2), (.int p3)] ∧ Z.Warmed39 U_.vm ∧ U_.heap = h0) (fun _ _ _ _ _ => True) (fun _ U_ o_ V_ => ∃ v_ L_, o_ = .returned v_ ∧ Q_rmL Z p1 p2 p3 h0 n0 v_ V_.heap L_ ∧ FrameEnd U_ o_ V_ L_ room_1.cells room_1.slots) := by
  refine MetFree.of_bodySF (plainFor_of_name pn_com_example_rowmotif_rowmotif_matcher_PartitionRowsReleasePinLaw) hisR ?_
  intro p e s m args below meth c s₁ Bd hml0 hP hK
  obtain ⟨rfl, hZ, hh⟩ := hP
  have hx := Bd.exec
  have hby := Bd.bytes
  have hml : c.maxLocals = 12 := hml0
  have hown : s.vm.findClass "com/example/rowmotif/rowmotif/matcher/PartitionRowsReleasePinLaw" = some m.cls := findClass_of_methodNamed Bd.named
  have hnm := (name_of_methodNamed Bd.named Bd.method).1
  have X0 : Stand p l e room_1 s m #[(.int p1), (.int p2), (.int p3)] below meth c s₁ [] 0 0 := Stand.of_body Bd
  have e0 : s₁.heap = h0 := by rw [← hh, Bd.state]; rfl
  have N0 := Fr.nil n0
  have pre0 : ∀ t_, Go p e below s₁ (mkF m 0 #[iv p1, iv p2, iv p3, .unset, .unset, .unset, .unset, .unset, .unset, .unset, .unset, .unset] []) t_ → Go p e below s₁ (entryFrame m #[(.int p1), (.int p2), (.int p3)] maxLocals) t_ := fun t_ kt => castTop (ef_0 m p1 p2 p3) kt
  have hnr := own_rng _ (own_and3 p1)
  obtain ⟨n, e_n⟩ : ∃ z : Int32, z = (p1 &&& (3 : Int32)) := ⟨_, rfl⟩
  have pre1 : ∀ t_, Go p e below s₁ (mkF m 4 #[iv p1, iv p2, iv p3, iv n, .unset, .unset, .unset, .unset, .unset, .unset, .unset, .unset] []) t_ → Go p e below s₁ (entryFrame m #[(.int p1), (.int p2), (.int p3)] maxLocals) t_ := fun t_ kt => pre0 _ (by
      subst e_n
      show Go p e below s₁ (mkF m 0 #[iv p1, iv p2, iv p3, .unset, .unset, .unset, .unset, .unset, .unset, .unset, .unset, .unset] []) _
      refine XS.iloadN X0.here hx rfl (hb hby at_0) rfl ?_
      show Go p e below s₁ (mkF m 1 #[iv p1, iv p2, iv p3, .unset, .unset, .unset, .unset, .unset, .unset, .unset, .unset, .unset] [(.int p1)]) _
      refine XS.iconst X0.here hx rfl (hb hby at_1) ?_
      show Go p e below s₁ (mkF m 2 #[iv p1, iv p2, iv p3, .unset, .unset, .unset, .unset, .unset, .unset, .unset, .unset, .unset] [(.int 3), (.int p1)]) _
      refine XS.iand X0.here hx rfl (hb hby at_2) rfl ?_
      show Go p e below s₁ (mkF m 3 #[iv p1, iv p2, iv p3, .unset, .unset, .unset, .unset, .unset, .unset, .unset, .unset, .unset] [(.int (p1 &&& (3 : Int32)))]) _
      refine XS.istoreN X0.here hx rfl (hb hby at_3) rfl (l' := #[iv p1, iv p2, iv p3, iv (p1 &&& (3 : Int32)), .unset, .unset, .unset, .unset, .unset, .unset, .unset, .unset]) rfl ?_
      show Go p e below s₁ (mkF m 4 #[iv p1, iv p2, iv p3, iv (p1 &&& (3 : Int32)), .unset, .unset, .unset, .unset, .unset, .unset, .unset, .unset] []) _
      exact kt)
  rw [← e_n] at hnr
  clear e_n
  obtain ⟨T2, h2, k2, X2, e2, E2, A2, Ex2, O2, st2⟩ := newRE X0 hx hZ hown (hwi hw 0 rfl) (hwi hw 1 rfl) e0 (g := (mkF m 5 #[iv p1, iv p2, iv p3, iv n, .unset, .unset, .unset, .unset, .unset, .unset, .unset, .unset] [(.int 1)])) rfl (hb hby at_5) rfl (by decide) (cap := 1) (by decide) (by decide) (by decide) (by decide) (ad := "[Ljava/lang/Object;") (by first | rfl | decide +kernel)
  obtain ⟨b2, g2⟩ : ∃ z, z = h0.size := ⟨_, rfl⟩
  rw [← g2] at A2 Ex2 st2
  have sz_b2 : h0.size ≤ b2 := Nat.le_trans (Keep.refl h0 []).1 (Nat.le_of_eq g2.symm)
  have g_b2 : n0 ≤ b2 := Nat.le_trans Z0 sz_b2
  have K2 : Keep h0 h2 [] := (Keep.refl h0 []).ext E2
  have V2 : Arv Z h2 b2 k2 (.object "java/lang/Object") (1 : Int32) [.null] .null := (Arv.new A2 (by decide)).pad (pad_rep [] .null 1)
  obtain ⟨T3, h3, k3, X3, e3, E3, A3, Ex3, O3, st3⟩ := newRE X2 hx hZ hown (hwi hw 0 rfl) (hwi hw 1 rfl) e2 (g := (mkF m 11 #[iv p1, iv p2, iv p3, iv n, rv b2, .unset, .unset, .unset, .unset, .unset, .unset, .unset] [(.int 1)])) rfl (hb hby at_11) rfl (by decide) (cap := 1) (by decide) (by decide) (by decide) (by decide) (ad := "[Ljava/lang/Object;") (by first | rfl | decide +kernel)
  obtain ⟨b3, g3⟩ : ∃ z, z = h2.size := ⟨_, rfl⟩
  rw [← g3] at A3 Ex3 st3
  have ne_b2_b3 : b2 ≠ b3 := Nat.ne_of_lt (Nat.lt_of_lt_of_le Ex2.lt (Nat.le_of_eq g3.symm))
  have sz_b3 : h0.size ≤ b3 := Nat.le_trans K2.1 (Nat.le_of_eq g3.symm)
  have g_b3 : n0 ≤ b3 := Nat.le_trans Z0 sz_b3
  have f4 := Ex2.ext E3
  have K3 : Keep h0 h3 [] := K2.ext E3
  have V3 : Arv Z h3 b3 k3 (.object "java/lang/Object") (1 : Int32) [.null] .null := (Arv.new A3 (by decide)).pad (pad_rep [] .null 1)
  obtain ⟨T5, h5, k5, X5, e5, E5, A5, Ex5, O5, st5⟩ := newRE X3 hx hZ hown (hwi hw 0 rfl) (hwi hw 1 rfl) e3 (g := (mkF m 17 #[iv p1, iv p2, iv p3, iv n, rv b2, rv b3, .unset, .unset, .unset, .unset, .unset, .unset] [(.int 1)])) rfl (hb hby at_17) rfl (by decide) (cap := 1) (by decide) (by decide) (by decide) (by decide) (ad := "[Ljava/lang/Object;") (by first | rfl | decide +kernel)
  obtain ⟨b5, g5⟩ : ∃ z, z = h3.size := ⟨_, rfl⟩
  rw [← g5] at A5 Ex5 st5
  have ne_b2_b5 : b2 ≠ b5 := Nat.ne_of_lt (Nat.lt_of_lt_of_le f4.lt (Nat.le_of_eq g5.symm))
  have ne_b3_b5 : b3 ≠ b5 := Nat.ne_of_lt (Nat.lt_of_lt_of_le Ex3.lt (Nat.le_of_eq g5.symm))
  have sz_b5 : h0.size ≤ b5 := Nat.le_trans K3.1 (Nat.le_of_eq g5.symm)
  have g_b5 : n0 ≤ b5 := Nat.le_trans Z0 sz_b5
  have f6 := f4.ext E5
  have f7 := Ex3.ext E5
  have K5 : Keep h0 h5 [] := K3.ext E5
  have V5 : Arv Z h5 b5 k5 (.object "java/lang/Object") (1 : Int32) [.null] .null := (Arv.new A5 (by decide)).pad (pad_rep [] .null 1)
  obtain ⟨T8, h8, X8, e8, E8, A8, D8, -, st8⟩ := newO X5 hx hZ hown (hwi hw 2 rfl) (hwi hw 3 rfl) (hwi hw 4 rfl) e5 (g := (mkF m 22 #[iv p1, iv p2, iv p3, iv n, rv b2, rv b3, rv b5, .unset, .unset, .unset, .unset, .unset] [])) rfl (hb hby at_22) (by decide) (by decide)
  obtain ⟨b8, g8⟩ : ∃ z, z = h5.size := ⟨_, rfl⟩
  rw [← g8] at A8 D8 st8
  have ne_b2_b8 : b2 ≠ b8 := Nat.ne_of_lt (Nat.lt_of_lt_of_le f6.lt (Nat.le_of_eq g8.symm))
  have ne_b3_b8 : b3 ≠ b8 := Nat.ne_of_lt (Nat.lt_of_lt_of_le f7.lt (Nat.le_of_eq g8.symm))
  have ne_b5_b8 : b5 ≠ b8 := Nat.ne_of_lt (Nat.lt_of_lt_of_le Ex5.lt (Nat.le_of_eq g8.symm))
  have sz_b8 : h0.size ≤ b8 := Nat.le_trans K5.1 (Nat.le_of_eq g8.symm)
  have g_b8 : n0 ≤ b8 := Nat.le_trans Z0 sz_b8
  have f9 := f6.ext E8
  have f10 := f7.ext E8
  have f11 := Ex5.ext E8
  have K8 : Keep h0 h8 [] := K5.ext E8
  have F_ring_b8 : Fld Z h8 b8 "com/example/rowmotif/rowmotif/matcher/PartitionRows" "ring" "[[Ljava/lang/Object;" .null := D8 (Or.inl (hwi hw 14 rfl)) (ty := (.array (.array (.object "java/lang/Object")))) (by decide)
  have F_first_b8 : Fld Z h8 b8 "com/example/rowmotif/rowmotif/matcher/PartitionRows" "first" "I" (.int 0) := D8 (Or.inl (hwi hw 25 rfl)) (ty := .int) (by decide)
  have F_count_b8 : Fld Z h8 b8 "com/example/rowmotif/rowmotif/matcher/PartitionRows" "count" "I" (.int 0) := D8 (Or.inl (hwi hw 35 rfl)) (ty := .int) (by decide)
  have F_complete_b8 : Fld Z h8 b8 "com/example/rowmotif/rowmotif/matcher/PartitionRows" "complete" "Z" (.int 0) := D8 (Or.inl (hwi hw 47 rfl)) (ty := .boolean) (by decide)
  have F_head_b8 : Fld Z h8 b8 "com/example/rowmotif/rowmotif/matcher/PartitionRows" "head" "I" (.int 0) := D8 (Or.inl (hwi hw 51 rfl)) (ty := .int) (by decide)
  obtain ⟨_, _, ⟨T12, L12, k12, n12⟩, -, X12, ⟨Lc12, hQ12, l12, y12, z12⟩, st12⟩ := X8.specialBack hx (y := (⟨"com/example/rowmotif/rowmotif/matcher/PartitionRows", "<init>", "()V"⟩ : MethodName)) rfl hown (mvT hZ (hwi hw 5 rfl)) (mvT hZ (hwi hw 6 rfl)) (mvT hZ (hwi hw 7 rfl)) (by decide) (backOf (W := 1) (rmI l Z a0 hw [] b8 h8 n0 (Nat.le_trans Z0 K8.1) A8 g_b8 F_ring_b8 F_head_b8 F_count_b8 F_first_b8 F_complete_b8) hZ (hwi hw 7 rfl) (hwi hw 4 rfl) (by decide) (by decide)) (g := (mkF m 26 #[iv p1, iv p2, iv p3, iv n, rv b2, rv b3, rv b5, .unset, .unset, .unset, .unset, .unset] [(.ref b8), (.ref b8)])) rfl (by rw [hml]; rfl) (Steps.refl _) (a := b8) (argsL := []) (rest := [(.ref b8)]) (lenOf pd_0 rfl) rfl (by show 2 * 0 + _ ≤ _; exact Nat.le_of_eq rfl) (hb hby at_26) (fun _ _ => ⟨rfl, e8, (by decide : 4 + 1 ≤ _), (by decide : 9 + 16 ≤ _)⟩)
  dsimp only [Pt.U, Pt.locs, Pt.cells, Pt.slots] at X12 l12 y12 z12 st12 hQ12
  subst l12 y12 z12
  obtain ⟨rg12, kr12, rfl, N12q, kc12, gr12, sz12, R12⟩ := hQ12
  have N12 := Fr.app N0 N12q
  have f13 := f9.keep kc12
  have f14 := f10.keep kc12
  have f15 := f11.keep kc12
  have f16 := A8.keep kc12
  have K22 : Keep h0 T12.heap [] := K8.trans kc12 (allS (Or.inr sz_b8) all0)
  have szr : h0.size ≤ rg12 := Nat.le_trans K8.1 sz12
  have pre23 : ∀ t_, Go p e below T12 (mkF m 31 #[iv p1, iv p2, iv p3, iv n, rv b2, rv b3, rv b5, rv b8, .unset, .unset, .unset, .unset] []) t_ → Go p e below s₁ (entryFrame m #[(.int p1), (.int p2), (.int p3)] maxLocals) t_ := fun t_ kt => pre1 _ (by
      show Go p e below s₁ (mkF m 4 #[iv p1, iv p2, iv p3, iv n, .unset, .unset, .unset, .unset, .unset, .unset, .unset, .unset] []) _
      refine XS.iconst X0.here hx rfl (hb hby at_4) ?_
      show Go p e below s₁ (mkF m 5 #[iv p1, iv p2, iv p3, iv n, .unset, .unset, .unset, .unset, .unset, .unset, .unset, .unset] [(.int 1)]) _
      refine st2 _ ?_
      show Go p e below T2 (mkF m 8 #[iv p1, iv p2, iv p3, iv n, .unset, .unset, .unset, .unset, .unset, .unset, .unset, .unset] [(.ref b2)]) _
      refine XS.astore X2.here hx rfl (hb hby at_8) rfl rfl (l' := #[iv p1, iv p2, iv p3, iv n, rv b2, .unset, .unset, .unset, .unset, .unset, .unset, .unset]) rfl ?_
      show Go p e below T2 (mkF m 10 #[iv p1, iv p2, iv p3, iv n, rv b2, .unset, .unset, .unset, .unset, .unset, .unset, .unset] []) _
      refine XS.iconst X2.here hx rfl (hb hby at_10) ?_
      show Go p e below T2 (mkF m 11 #[iv p1, iv p2, iv p3, iv n, rv b2, .unset, .unset, .unset, .unset, .unset, .unset, .unset] [(.int 1)]) _
      refine st3 _ ?_
      show Go p e below T3 (mkF m 14 #[iv p1, iv p2, iv p3, iv n, rv b2, .unset, .unset, .unset, .unset, .unset, .unset, .unset] [(.ref b3)]) _
      refine XS.astore X3.here hx rfl (hb hby at_14) rfl rfl (l' := #[iv p1, iv p2, iv p3, iv n, rv b2, rv b3, .unset, .unset, .unset, .unset, .unset, .unset]) rfl ?_
      show Go p e below T3 (mkF m 16 #[iv p1, iv p2, iv p3, iv n, rv b2, rv b3, .unset, .unset, .unset, .unset, .unset, .unset] []) _
      refine XS.iconst X3.here hx rfl (hb hby at_16) ?_
      show Go p e below T3 (mkF m 17 #[iv p1, iv p2, iv p3, iv n, rv b2, rv b3, .unset, .unset, .unset, .unset, .unset, .unset] [(.int 1)]) _
      refine st5 _ ?_
      show Go p e below T5 (mkF m 20 #[iv p1, iv p2, iv p3, iv n, rv b2, rv b3, .unset, .unset, .unset, .unset, .unset, .unset] [(.ref b5)]) _
      refine XS.astore X5.here hx rfl (hb hby at_20) rfl rfl (l' := #[iv p1, iv p2, iv p3, iv n, rv b2, rv b3, rv b5, .unset, .unset, .unset, .unset, .unset]) rfl ?_
      show Go p e below T5 (mkF m 22 #[iv p1, iv p2, iv p3, iv n, rv b2, rv b3, rv b5, .unset, .unset, .unset, .unset, .unset] []) _
      refine st8 _ ?_
      show Go p e below T8 (mkF m 25 #[iv p1, iv p2, iv p3, iv n, rv b2, rv b3, rv b5, .unset, .unset, .unset, .unset, .unset] [(.ref b8)]) _
      refine XS.dup X8.here hx rfl (hb hby at_25) rfl rfl ?_
      show Go p e below T8 (mkF m 26 #[iv p1, iv p2, iv p3, iv n, rv b2, rv b3, rv b5, .unset, .unset, .unset, .unset, .unset] [(.ref b8), (.ref b8)]) _
      refine st12.trans ?_
      show Go p e below T12 (mkF m 29 #[iv p1, iv p2, iv p3, iv n, rv b2, rv b3, rv b5, .unset, .unset, .unset, .unset, .unset] [(.ref b8)]) _
      refine XS.astore X12.here hx rfl (hb hby at_29) rfl rfl (l' := #[iv p1, iv p2, iv p3, iv n, rv b2, rv b3, rv b5, rv b8, .unset, .unset, .unset, .unset]) rfl ?_
      show Go p e below T12 (mkF m 31 #[iv p1, iv p2, iv p3, iv n, rv b2, rv b3, rv b5, rv b8, .unset, .unset, .unset, .unset] []) _
      exact kt)
  rcases hnr with rfl | rfl | rfl | rfl
  · obtain ⟨_, _, ⟨T24, L24, k24, n24⟩, -, X24, ⟨Lc24, hQ24, l24, y24, z24⟩, st24⟩ := Jvm.LawKit.callS X12 hx (y := (⟨"java/lang/Math", "min", "(II)I"⟩ : MethodName)) hown (mvT hZ (hwi hw 15 rfl)) (mvT hZ (hwi hw 16 rfl)) (mvT hZ (hwi hw 17 rfl)) (mvT hZ (hwi hw 18 rfl)) (by decide) (backOf (W := 0) (rmMin l Z a0 hw [] (p2 &&& (3 : Int32)) (0 : Int32) T12.heap n0 (Nat.le_trans Z0 K22.1)) hZ (hwi hw 18 rfl) (hwi hw 17 rfl) (by decide) (by decide)) (g := (mkF m 70 #[iv p1, iv p2, iv p3, iv 0, rv b2, rv b3, rv b5, rv b8, .unset, .unset, .unset, .unset] [(.int 0), (.int (p2 &&& (3 : Int32)))])) rfl (by rw [hml]; rfl) (argsL := [(.int (p2 &&& (3 : Int32))), (.int 0)]) (rest := []) (lenOf pd_1 rfl) rfl (by show 2 * 0 + _ ≤ _; exact Nat.le_of_eq rfl) (hb hby at_70) (fun _ _ => ⟨rfl, rfl, (by decide : 5 + 0 ≤ _), (by decide : 25 + 0 ≤ _)⟩)
    dsimp only [Pt.U, Pt.locs, Pt.cells, Pt.slots] at X24 l24 y24 z24 st24 hQ24
    subst l24 y24 z24
    obtain ⟨hv24, N24q, e24q⟩ := hQ24
    have N24 := Fr.app N12 N24q
    have hkr := own_min0 p2
    obtain ⟨kk, e_kk⟩ : ∃ z : Int32, z = (if (0 : Int32) < (p2 &&& (3 : Int32)) then (0 : Int32) else (p2 &&& (3 : Int32))) := ⟨_, rfl⟩
    rw [← e_kk] at hv24 hkr
    clear e_kk
    subst hv24
    have pre25 : ∀ t_, Go p e below T24 (mkF m 75 #[iv p1, iv p2, iv p3, iv 0, rv b2, rv b3, rv b5, rv b8, iv kk, .unset, .unset, .unset] []) t_ → Go p e below s₁ (entryFrame m #[(.int p1), (.int p2), (.int p3)] maxLocals) t_ := fun t_ kt => pre23 _ (by
        show Go p e below T12 (mkF m 31 #[iv p1, iv p2, iv p3, iv 0, rv b2, rv b3, rv b5, rv b8, .unset, .unset, .unset, .unset] []) _
        refine XS.iloadN X12.here hx rfl (hb hby at_31) rfl ?_
        show Go p e below T12 (mkF m 32 #[iv p1, iv p2, iv p3, iv 0, rv b2, rv b3, rv b5, rv b8, .unset, .unset, .unset, .unset] [(.int 0)]) _
        refine XS.ifYes X12.here hx rfl (pc0 := 32) (pc' := 42) rfl (hb hby at_32) rfl ((if0 _ _).trans (flt ((by decide) : ¬ ((0 : Int32) < (0 : Int32)))).2.2.2) (by decide) (by decide) ?_
        show Go p e below T12 (mkF m 42 #[iv p1, iv p2, iv p3, iv 0, rv b2, rv b3, rv b5, rv b8, .unset, .unset, .unset, .unset] []) _
        refine XS.iloadN X12.here hx rfl (hb hby at_42) rfl ?_
        show Go p e below T12 (mkF m 43 #[iv p1, iv p2, iv p3, iv 0, rv b2, rv b3, rv b5, rv b8, .unset, .unset, .unset, .unset] [(.int 0)]) _
        refine XS.iconst X12.here hx rfl (hb hby at_43) ?_
        show Go p e below T12 (mkF m 44 #[iv p1, iv p2, iv p3, iv 0, rv b2, rv b3, rv b5, rv b8, .unset, .unset, .unset, .unset] [(.int 1), (.int 0)]) _
        refine XS.icmpYes X12.here hx rfl (pc0 := 44) (pc' := 54) rfl (hb hby at_44) rfl (flt ((by decide) : ¬ ((1 : Int32) < (0 : Int32)))).2.2.2 (by decide) (by decide) ?_
        show Go p e below T12 (mkF m 54 #[iv p1, iv p2, iv p3, iv 0, rv b2, rv b3, rv b5, rv b8, .unset, .unset, .unset, .unset] []) _
        refine XS.iloadN X12.here hx rfl (hb hby at_54) rfl ?_
        show Go p e below T12 (mkF m 55 #[iv p1, iv p2, iv p3, iv 0, rv b2, rv b3, rv b5, rv b8, .unset, .unset, .unset, .unset] [(.int 0)]) _
        refine XS.iconst X12.here hx rfl (hb hby at_55) ?_
        show Go p e below T12 (mkF m 56 #[iv p1, iv p2, iv p3, iv 0, rv b2, rv b3, rv b5, rv b8, .unset, .unset, .unset, .unset] [(.int 2), (.int 0)]) _
        refine XS.icmpYes X12.here hx rfl (pc0 := 56) (pc' := 66) rfl (hb hby at_56) rfl (flt ((by decide) : ¬ ((2 : Int32) < (0 : Int32)))).2.2.2 (by decide) (by decide) ?_
        show Go p e below T12 (mkF m 66 #[iv p1, iv p2, iv p3, iv 0, rv b2, rv b3, rv b5, rv b8, .unset, .unset, .unset, .unset] []) _
        refine XS.iloadN X12.here hx rfl (hb hby at_66) rfl ?_
        show Go p e below T12 (mkF m 67 #[iv p1, iv p2, iv p3, iv 0, rv b2, rv b3, rv b5, rv b8, .unset, .unset, .unset, .unset] [(.int p2)]) _
        refine XS.iconst X12.here hx rfl (hb hby at_67) ?_
        show Go p e below T12 (mkF m 68 #[iv p1, iv p2, iv p3, iv 0, rv b2, rv b3, rv b5, rv b8, .unset, .unset, .unset, .unset] [(.int 3), (.int p2)]) _
        refine XS.iand X12.here hx rfl (hb hby at_68) rfl ?_
        show Go p e below T12 (mkF m 69 #[iv p1, iv p2, iv p3, iv 0, rv b2, rv b3, rv b5, rv b8, .unset, .unset, .unset, .unset] [(.int (p2 &&& (3 : Int32)))]) _
        refine XS.iloadN X12.here hx rfl (hb hby at_69) rfl ?_
        show Go p e below T12 (mkF m 70 #[iv p1, iv p2, iv p3, iv 0, rv b2, rv b3, rv b5, rv b8, .unset, .unset, .unset, .unset] [(.int 0), (.int (p2 &&& (3 : Int32)))]) _
        refine st24 _ ?_
        show Go p e below T24 (mkF m 73 #[iv p1, iv p2, iv p3, iv 0, rv b2, rv b3, rv b5, rv b8, .unset, .unset, .unset, .unset] [(.int kk)]) _
        refine XS.istore X24.here hx rfl (hb hby at_73) rfl (l' := #[iv p1, iv p2, iv p3, iv 0, rv b2, rv b3, rv b5, rv b8, iv kk, .unset, .unset, .unset]) rfl ?_
        show Go p e below T24 (mkF m 75 #[iv p1, iv p2, iv p3, iv 0, rv b2, rv b3, rv b5, rv b8, iv kk, .unset, .unset, .unset] []) _
        exact kt)
    rcases hkr with rfl
    · obtain ⟨cq26, kq26, q26a, q26b, q26c⟩ := isOf hZ e24q f16
      obtain ⟨_, _, ⟨T26, L26, k26, n26⟩, -, X26, ⟨Lc26, hQ26, l26, y26, z26⟩, st26⟩ := X24.virtualBack hx (y := (⟨"com/example/rowmotif/rowmotif/matcher/PartitionRows", "release", "(I)V"⟩ : MethodName)) (z := (⟨"com/example/rowmotif/rowmotif/matcher/PartitionRows", "release", "(I)V"⟩ : MethodName)) hown (mvT hZ (hwi hw 19 rfl)) (mvT hZ (hwi hw 20 rfl)) (notFace_of_selects (args := #[]) (mvT hZ (hwi hw 22 rfl))) (mvT hZ (hwi hw 22 rfl)) (mvT hZ (hwi hw 21 rfl)) (by decide) (backOf (W := 0) (rmR0 l Z a0 hw [] b8 (0 : Int32) (0 : Int32) T12.heap n0 (Nat.le_trans Z0 K22.1) R12.2.2.2.2.1 (by decide)) hZ (hwi hw 23 rfl) (hwi hw 4 rfl) (by decide) (by decide)) q26a q26c (g := (mkF m 79 #[iv p1, iv p2, iv p3, iv 0, rv b2, rv b3, rv b5, rv b8, iv 0, .unset, .unset, .unset] [(.int 0), (.ref b8)])) rfl (by rw [hml]; rfl) (Steps.refl _) (argsL := [(.int 0)]) (rest := []) (lenOf pd_2 rfl) rfl (by show 2 * 0 + _ ≤ _; exact Nat.le_of_eq rfl) (hb hby at_79) (fun _ _ => ⟨rfl, e24q, (by decide : 5 + 0 ≤ _), (by decide : 25 + 0 ≤ _)⟩)
      dsimp only [Pt.U, Pt.locs, Pt.cells, Pt.slots] at X26 l26 y26 z26 st26 hQ26
      subst l26 y26 z26
      obtain ⟨rfl, N26q, e26q⟩ := hQ26
      have N26 := Fr.app N24 N26q
      obtain ⟨_, _, ⟨T27, L27, k27, n27⟩, -, X27, ⟨Lc27, hQ27, l27, y27, z27⟩, st27⟩ := Jvm.LawKit.callS X26 hx (y := (⟨"java/lang/Math", "min", "(II)I"⟩ : MethodName)) hown (mvT hZ (hwi hw 15 rfl)) (mvT hZ (hwi hw 16 rfl)) (mvT hZ (hwi hw 17 rfl)) (mvT hZ (hwi hw 18 rfl)) (by decide) (backOf (W := 0) (rmMin l Z a0 hw [] p3 (0 : Int32) T12.heap n0 (Nat.le_trans Z0 K22.1)) hZ (hwi hw 18 rfl) (hwi hw 17 rfl) (by decide) (by decide)) (g := (mkF m 84 #[iv p1, iv p2, iv p3, iv 0, rv b2, rv b3, rv b5, rv b8, iv 0, .unset, .unset, .unset] [(.int 0), (.int p3)])) rfl (by rw [hml]; rfl) (argsL := [(.int p3), (.int 0)]) (rest := []) (lenOf pd_1 rfl) rfl (by show 2 * 0 + _ ≤ _; exact Nat.le_of_eq rfl) (hb hby at_84) (fun _ _ => ⟨rfl, e26q, (by decide : 5 + 0 ≤ _), (by decide : 25 + 0 ≤ _)⟩)
      dsimp only [Pt.U, Pt.locs, Pt.cells, Pt.slots] at X27 l27 y27 z27 st27 hQ27
      subst l27 y27 z27
      obtain ⟨hv27, N27q, e27q⟩ := hQ27
      have N27 := Fr.app N26 N27q
      have hbn := own_minle p3 (0 : Int32)
      obtain ⟨bb, e_bb⟩ : ∃ z : Int32, z = (if (0 : Int32) < p3 then (0 : Int32) else p3) := ⟨_, rfl⟩
      rw [← e_bb] at hv27 hbn
      clear e_bb
      subst hv27
      obtain ⟨cq28, kq28, q28a, q28b, q28c⟩ := isOf hZ e27q f16
      obtain ⟨_, _, ⟨T28, L28, k28, n28⟩, -, X28, ⟨Lc28, hQ28, l28, y28, z28⟩, st28⟩ := X27.virtualBack hx (y := (⟨"com/example/rowmotif/rowmotif/matcher/PartitionRows", "release", "(I)V"⟩ : MethodName)) (z := (⟨"com/example/rowmotif/rowmotif/matcher/PartitionRows", "release", "(I)V"⟩ : MethodName)) hown (mvT hZ (hwi hw 19 rfl)) (mvT hZ (hwi hw 20 rfl)) (notFace_of_selects (args := #[]) (mvT hZ (hwi hw 22 rfl))) (mvT hZ (hwi hw 22 rfl)) (mvT hZ (hwi hw 21 rfl)) (by decide) (backOf (W := 0) (rmR0 l Z a0 hw [] b8 bb (0 : Int32) T12.heap n0 (Nat.le_trans Z0 K22.1) R12.2.2.2.2.1 hbn) hZ (hwi hw 23 rfl) (hwi hw 4 rfl) (by decide) (by decide)) q28a q28c (g := (mkF m 93 #[iv p1, iv p2, iv p3, iv 0, rv b2, rv b3, rv b5, rv b8, iv 0, iv bb, .unset, .unset] [(.int bb), (.ref b8)])) rfl (by rw [hml]; rfl) (Steps.refl _) (argsL := [(.int bb)]) (rest := []) (lenOf pd_2 rfl) rfl (by show 2 * 0 + _ ≤ _; exact Nat.le_of_eq rfl) (hb hby at_93) (fun _ _ => ⟨rfl, e27q, (by decide : 5 + 0 ≤ _), (by decide : 25 + 0 ≤ _)⟩)
      dsimp only [Pt.U, Pt.locs, Pt.cells, Pt.slots] at X28 l28 y28 z28 st28 hQ28
      subst l28 y28 z28
      obtain ⟨rfl, N28q, e28q⟩ := hQ28
      have N28 := Fr.app N27 N28q
      obtain ⟨_, _, ⟨T29, L29, k29, n29⟩, -, X29, ⟨Lc29, hQ29, l29, y29, z29⟩, st29⟩ := Jvm.LawKit.callS X28 hx (y := (⟨"java/lang/Math", "max", "(II)I"⟩ : MethodName)) hown (mvT hZ (hwi hw 26 rfl)) (mvT hZ (hwi hw 27 rfl)) (mvT hZ (hwi hw 17 rfl)) (mvT hZ (hwi hw 28 rfl)) (by decide) (backOf (W := 0) (rmMax l Z a0 hw [] (0 : Int32) bb T12.heap n0 (Nat.le_trans Z0 K22.1)) hZ (hwi hw 28 rfl) (hwi hw 17 rfl) (by decide) (by decide)) (g := (mkF m 100 #[iv p1, iv p2, iv p3, iv 0, rv b2, rv b3, rv b5, rv b8, iv 0, iv bb, .unset, .unset] [(.int bb), (.int 0)])) rfl (by rw [hml]; rfl) (argsL := [(.int 0), (.int bb)]) (rest := []) (lenOf pd_1 rfl) rfl (by show 2 * 0 + _ ≤ _; exact Nat.le_of_eq rfl) (hb hby at_100) (fun _ _ => ⟨rfl, e28q, (by decide : 5 + 0 ≤ _), (by decide : 25 + 0 ≤ _)⟩)
      dsimp only [Pt.U, Pt.locs, Pt.cells, Pt.slots] at X29 l29 y29 z29 st29 hQ29
      subst l29 y29 z29
      obtain ⟨hv29, N29q, e29q⟩ := hQ29
      have N29 := Fr.app N28 N29q
      rw [if_neg hbn] at hv29
      subst hv29
      have pre30 : ∀ t_, Go p e below T29 (mkF m 105 #[iv p1, iv p2, iv p3, iv 0, rv b2, rv b3, rv b5, rv b8, iv 0, iv bb, iv 0, .unset] []) t_ → Go p e below s₁ (entryFrame m #[(.int p1), (.int p2), (.int p3)] maxLocals) t_ := fun t_ kt => pre25 _ (by
          show Go p e below T24 (mkF m 75 #[iv p1, iv p2, iv p3, iv 0, rv b2, rv b3, rv b5, rv b8, iv 0, .unset, .unset, .unset] []) _
          refine XS.aload X24.here hx rfl (hb hby at_75) rfl rfl ?_
          show Go p e below T24 (mkF m 77 #[iv p1, iv p2, iv p3, iv 0, rv b2, rv b3, rv b5, rv b8, iv 0, .unset, .unset, .unset] [(.ref b8)]) _
          refine XS.iload X24.here hx rfl (hb hby at_77) rfl ?_
          show Go p e below T24 (mkF m 79 #[iv p1, iv p2, iv p3, iv 0, rv b2, rv b3, rv b5, rv b8, iv 0, .unset, .unset, .unset] [(.int 0), (.ref b8)]) _
          refine st26.trans ?_
          show Go p e below T26 (mkF m 82 #[iv p1, iv p2, iv p3, iv 0, rv b2, rv b3, rv b5, rv b8, iv 0, .unset, .unset, .unset] []) _
          refine XS.iloadN X26.here hx rfl (hb hby at_82) rfl ?_
          show Go p e below T26 (mkF m 83 #[iv p1, iv p2, iv p3, iv 0, rv b2, rv b3, rv b5, rv b8, iv 0, .unset, .unset, .unset] [(.int p3)]) _
          refine XS.iloadN X26.here hx rfl (hb hby at_83) rfl ?_
          show Go p e below T26 (mkF m 84 #[iv p1, iv p2, iv p3, iv 0, rv b2, rv b3, rv b5, rv b8, iv 0, .unset, .unset, .unset] [(.int 0), (.int p3)]) _
          refine st27 _ ?_
          show Go p e below T27 (mkF m 87 #[iv p1, iv p2, iv p3, iv 0, rv b2, rv b3, rv b5, rv b8, iv 0, .unset, .unset, .unset] [(.int bb)]) _
          refine XS.istore X27.here hx rfl (hb hby at_87) rfl (l' := #[iv p1, iv p2, iv p3, iv 0, rv b2, rv b3, rv b5, rv b8, iv 0, iv bb, .unset, .unset]) rfl ?_
          show Go p e below T27 (mkF m 89 #[iv p1, iv p2, iv p3, iv 0, rv b2, rv b3, rv b5, rv b8, iv 0, iv bb, .unset, .unset] []) _
          refine XS.aload X27.here hx rfl (hb hby at_89) rfl rfl ?_
          show Go p e below T27 (mkF m 91 #[iv p1, iv p2, iv p3, iv 0, rv b2, rv b3, rv b5, rv b8, iv 0, iv bb, .unset, .unset] [(.ref b8)]) _
          refine XS.iload X27.here hx rfl (hb hby at_91) rfl ?_
          show Go p e below T27 (mkF m 93 #[iv p1, iv p2, iv p3, iv 0, rv b2, rv b3, rv b5, rv b8, iv 0, iv bb, .unset, .unset] [(.int bb), (.ref b8)]) _
          refine st28.trans ?_
          show Go p e below T28 (mkF m 96 #[iv p1, iv p2, iv p3, iv 0, rv b2, rv b3, rv b5, rv b8, iv 0, iv bb, .unset, .unset] []) _
          refine XS.iload X28.here hx rfl (hb hby at_96) rfl ?_
          show Go p e below T28 (mkF m 98 #[iv p1, iv p2, iv p3, iv 0, rv b2, rv b3, rv b5, rv b8, iv 0, iv bb, .unset, .unset] [(.int 0)]) _
          refine XS.iload X28.here hx rfl (hb hby at_98) rfl ?_
          show Go p e below T28 (mkF m 100 #[iv p1, iv p2, iv p3, iv 0, rv b2, rv b3, rv b5, rv b8, iv 0, iv bb, .unset, .unset] [(.int bb), (.int 0)]) _
          refine st29 _ ?_
          show Go p e below T29 (mkF m 103 #[iv p1, iv p2, iv p3, iv 0, rv b2, rv b3, rv b5, rv b8, iv 0, iv bb, .unset, .unset] [(.int 0)]) _
          refine XS.istore X29.here hx rfl (hb hby at_103) rfl (l' := #[iv p1, iv p2, iv p3, iv 0, rv b2, rv b3, rv b5, rv b8, iv 0, iv bb, iv 0, .unset]) rfl ?_
          show Go p e below T29 (mkF m 105 #[iv p1, iv p2, iv p3, iv 0, rv b2, rv b3, rv b5, rv b8, iv 0, iv bb, iv 0, .unset] []) _
          exact kt)
      obtain ⟨s₂, o₂, hs1, hs2, hs3, hs4⟩ := tl0_0 p1 p2 p3 (0 : Int32) bb b8 b2 b3 b5 rg12 kr12 T12.heap n0 X29 hx hZ hw hby hml hown Bd.returns Bd.notSynchronized e29q N29 (Nat.le_trans Z0 K22.1) R12
      exact ⟨s₂, o₂, pre30 _ hs1, hs2, hs3, hs4⟩
  · obtain ⟨cq31, kq31, q31a, q31b, q31c⟩ := isOf hZ rfl f16
    obtain ⟨_, _, ⟨T31, L31, k31, n31⟩, -, X31, ⟨Lc31, hQ31, l31, y31, z31⟩, st31⟩ := X12.virtualBack hx (y := (⟨"com/example/rowmotif/rowmotif/matcher/PartitionRows", "add", "([Ljava/lang/Object;)V"⟩ : MethodName)) (z := (⟨"com/example/rowmotif/rowmotif/matcher/PartitionRows", "add", "([Ljava/lang/Object;)V"⟩ : MethodName)) hown (mvT hZ (hwi hw 41 rfl)) (mvT hZ (hwi hw 42 rfl)) (notFace_of_selects (args := #[]) (mvT hZ (hwi hw 44 rfl))) (mvT hZ (hwi hw 44 rfl)) (mvT hZ (hwi hw 43 rfl)) (by decide) (backOf (W := 0) (rmA0 l Z a0 hw [] b8 b2 rg12 kr12 .null .null .null T12.heap n0 (Nat.le_trans Z0 K22.1) R12 f13 g_b8 gr12) hZ (hwi hw 45 rfl) (hwi hw 4 rfl) (by decide) (by decide)) q31a q31c (g := (mkF m 39 #[iv p1, iv p2, iv p3, iv 1, rv b2, rv b3, rv b5, rv b8, .unset, .unset, .unset, .unset] [(.ref b2), (.ref b8)])) rfl (by rw [hml]; rfl) (Steps.refl _) (argsL := [(.ref b2)]) (rest := []) (lenOf pd_4 rfl) rfl (by show 2 * 0 + _ ≤ _; exact Nat.le_of_eq rfl) (hb hby at_39) (fun _ _ => ⟨rfl, rfl, (by decide : 5 + 0 ≤ _), (by decide : 25 + 0 ≤ _)⟩)
    dsimp only [Pt.U, Pt.locs, Pt.cells, Pt.slots] at X31 l31 y31 z31 st31 hQ31
    subst l31 y31 z31
    obtain ⟨rfl, N31q, kc31, R31⟩ := hQ31
    have N31 := Fr.app N12 N31q
    have K32 : Keep h0 T31.heap [] := K22.trans kc31 (allS (Or.inr sz_b8) (allS (Or.inr szr) all0))
    have f33 := f13.keep kc31
    have f34 := f14.keep kc31
    have f35 := f15.keep kc31
    have f36 := f16.keep kc31
    have E_31 := R31.1
    obtain ⟨_, _, ⟨T37, L37, k37, n37⟩, -, X37, ⟨Lc37, hQ37, l37, y37, z37⟩, st37⟩ := Jvm.LawKit.callS X31 hx (y := (⟨"java/lang/Math", "min", "(II)I"⟩ : MethodName)) hown (mvT hZ (hwi hw 15 rfl)) (mvT hZ (hwi hw 16 rfl)) (mvT hZ (hwi hw 17 rfl)) (mvT hZ (hwi hw 18 rfl)) (by decide) (backOf (W := 0) (rmMin l Z a0 hw [] (p2 &&& (3 : Int32)) (1 : Int32) T31.heap n0 (Nat.le_trans Z0 K32.1)) hZ (hwi hw 18 rfl) (hwi hw 17 rfl) (by decide) (by decide)) (g := (mkF m 70 #[iv p1, iv p2, iv p3, iv 1, rv b2, rv b3, rv b5, rv b8, .unset, .unset, .unset, .unset] [(.int 1), (.int (p2 &&& (3 : Int32)))])) rfl (by rw [hml]; rfl) (argsL := [(.int (p2 &&& (3 : Int32))), (.int 1)]) (rest := []) (lenOf pd_1 rfl) rfl (by show 2 * 0 + _ ≤ _; exact Nat.le_of_eq rfl) (hb hby at_70) (fun _ _ => ⟨rfl, rfl, (by decide : 5 + 0 ≤ _), (by decide : 25 + 0 ≤ _)⟩)
    dsimp only [Pt.U, Pt.locs, Pt.cells, Pt.slots] at X37 l37 y37 z37 st37 hQ37
    subst l37 y37 z37
    obtain ⟨hv37, N37q, e37q⟩ := hQ37
    have N37 := Fr.app N31 N37q
    have hkr := own_min1 p2
    obtain ⟨kk, e_kk⟩ : ∃ z : Int32, z = (if (1 : Int32) < (p2 &&& (3 : Int32)) then (1 : Int32) else (p2 &&& (3 : Int32))) := ⟨_, rfl⟩
    rw [← e_kk] at hv37 hkr
    clear e_kk
    subst hv37
    have pre38 : ∀ t_, Go p e below T37 (mkF m 75 #[iv p1, iv p2, iv p3, iv 1, rv b2, rv b3, rv b5, rv b8, iv kk, .unset, .unset, .unset] []) t_ → Go p e below s₁ (entryFrame m #[(.int p1), (.int p2), (.int p3)] maxLocals) t_ := fun t_ kt => pre23 _ (by
        show Go p e below T12 (mkF m 31 #[iv p1, iv p2, iv p3, iv 1, rv b2, rv b3, rv b5, rv b8, .unset, .unset, .unset, .unset] []) _
        refine XS.iloadN X12.here hx rfl (hb hby at_31) rfl ?_
        show Go p e below T12 (mkF m 32 #[iv p1, iv p2, iv p3, iv 1, rv b2, rv b3, rv b5, rv b8, .unset, .unset, .unset, .unset] [(.int 1)]) _
        refine XS.ifNo X12.here hx rfl (hb hby at_32) rfl ((if0 _ _).trans (tlt ((by decide) : (0 : Int32) < (1 : Int32))).2.2.2) ?_
        show Go p e below T12 (mkF m 35 #[iv p1, iv p2, iv p3, iv 1, rv b2, rv b3, rv b5, rv b8, .unset, .unset, .unset, .unset] []) _
        refine XS.aload X12.here hx rfl (hb hby at_35) rfl rfl ?_
        show Go p e below T12 (mkF m 37 #[iv p1, iv p2, iv p3, iv 1, rv b2, rv b3, rv b5, rv b8, .unset, .unset, .unset, .unset] [(.ref b8)]) _
        refine XS.aload X12.here hx rfl (hb hby at_37) rfl rfl ?_
        show Go p e below T12 (mkF m 39 #[iv p1, iv p2, iv p3, iv 1, rv b2, rv b3, rv b5, rv b8, .unset, .unset, .unset, .unset] [(.ref b2), (.ref b8)]) _
        refine st31.trans ?_
        show Go p e below T31 (mkF m 42 #[iv p1, iv p2, iv p3, iv 1, rv b2, rv b3, rv b5, rv b8, .unset, .unset, .unset, .unset] []) _
        refine XS.iloadN X31.here hx rfl (hb hby at_42) rfl ?_
        show Go p e below T31 (mkF m 43 #[iv p1, iv p2, iv p3, iv 1, rv b2, rv b3, rv b5, rv b8, .unset, .unset, .unset, .unset] [(.int 1)]) _
        refine XS.iconst X31.here hx rfl (hb hby at_43) ?_
        show Go p e below T31 (mkF m 44 #[iv p1, iv p2, iv p3, iv 1, rv b2, rv b3, rv b5, rv b8, .unset, .unset, .unset, .unset] [(.int 1), (.int 1)]) _
        refine XS.icmpYes X31.here hx rfl (pc0 := 44) (pc' := 54) rfl (hb hby at_44) rfl (flt ((by decide) : ¬ ((1 : Int32) < (1 : Int32)))).2.2.2 (by decide) (by decide) ?_
        show Go p e below T31 (mkF m 54 #[iv p1, iv p2, iv p3, iv 1, rv b2, rv b3, rv b5, rv b8, .unset, .unset, .unset, .unset] []) _
        refine XS.iloadN X31.here hx rfl (hb hby at_54) rfl ?_
        show Go p e below T31 (mkF m 55 #[iv p1, iv p2, iv p3, iv 1, rv b2, rv b3, rv b5, rv b8, .unset, .unset, .unset, .unset] [(.int 1)]) _
        refine XS.iconst X31.here hx rfl (hb hby at_55) ?_
        show Go p e below T31 (mkF m 56 #[iv p1, iv p2, iv p3, iv 1, rv b2, rv b3, rv b5, rv b8, .unset, .unset, .unset, .unset] [(.int 2), (.int 1)]) _
        refine XS.icmpYes X31.here hx rfl (pc0 := 56) (pc' := 66) rfl (hb hby at_56) rfl (flt ((by decide) : ¬ ((2 : Int32) < (1 : Int32)))).2.2.2 (by decide) (by decide) ?_
        show Go p e below T31 (mkF m 66 #[iv p1, iv p2, iv p3, iv 1, rv b2, rv b3, rv b5, rv b8, .unset, .unset, .unset, .unset] []) _
        refine XS.iloadN X31.here hx rfl (hb hby at_66) rfl ?_
        show Go p e below T31 (mkF m 67 #[iv p1, iv p2, iv p3, iv 1, rv b2, rv b3, rv b5, rv b8, .unset, .unset, .unset, .unset] [(.int p2)]) _
        refine XS.iconst X31.here hx rfl (hb hby at_67) ?_
        show Go p e below T31 (mkF m 68 #[iv p1, iv p2, iv p3, iv 1, rv b2, rv b3, rv b5, rv b8, .unset, .unset, .unset, .unset] [(.int 3), (.int p2)]) _
        refine XS.iand X31.here hx rfl (hb hby at_68) rfl ?_
        show Go p e below T31 (mkF m 69 #[iv p1, iv p2, iv p3, iv 1, rv b2, rv b3, rv b5, rv b8, .unset, .unset, .unset, .unset] [(.int (p2 &&& (3 : Int32)))]) _
        refine XS.iloadN X31.here hx rfl (hb hby at_69) rfl ?_
        show Go p e below T31 (mkF m 70 #[iv p1, iv p2, iv p3, iv 1, rv b2, rv b3, rv b5, rv b8, .unset, .unset, .unset, .unset] [(.int 1), (.int (p2 &&& (3 : Int32)))]) _
        refine st37 _ ?_
        show Go p e below T37 (mkF m 73 #[iv p1, iv p2, iv p3, iv 1, rv b2, rv b3, rv b5, rv b8, .unset, .unset, .unset, .unset] [(.int kk)]) _
        refine XS.istore X37.here hx rfl (hb hby at_73) rfl (l' := #[iv p1, iv p2, iv p3, iv 1, rv b2, rv b3, rv b5, rv b8, iv kk, .unset, .unset, .unset]) rfl ?_
        show Go p e below T37 (mkF m 75 #[iv p1, iv p2, iv p3, iv 1, rv b2, rv b3, rv b5, rv b8, iv kk, .unset, .unset, .unset] []) _
        exact kt)
    rcases hkr with rfl | rfl
    · obtain ⟨cq39, kq39, q39a, q39b, q39c⟩ := isOf hZ e37q E_31
      obtain ⟨_, _, ⟨T39, L39, k39, n39⟩, -, X39, ⟨Lc39, hQ39, l39, y39, z39⟩, st39⟩ := X37.virtualBack hx (y := (⟨"com/example/rowmotif/rowmotif/matcher/PartitionRows", "release", "(I)V"⟩ : MethodName)) (z := (⟨"com/example/rowmotif/rowmotif/matcher/PartitionRows", "release", "(I)V"⟩ : MethodName)) hown (mvT hZ (hwi hw 19 rfl)) (mvT hZ (hwi hw 20 rfl)) (notFace_of_selects (args := #[]) (mvT hZ (hwi hw 22 rfl))) (mvT hZ (hwi hw 22 rfl)) (mvT hZ (hwi hw 21 rfl)) (by decide) (backOf (W := 0) (rmR0 l Z a0 hw [] b8 (0 : Int32) (0 : Int32) T31.heap n0 (Nat.le_trans Z0 K32.1) R31.2.2.2.2.1 (by decide)) hZ (hwi hw 23 rfl) (hwi hw 4 rfl) (by decide) (by decide)) q39a q39c (g := (mkF m 79 #[iv p1, iv p2, iv p3, iv 1, rv b2, rv b3, rv b5, rv b8, iv 0, .unset, .unset, .unset] [(.int 0), (.ref b8)])) rfl (by rw [hml]; rfl) (Steps.refl _) (argsL := [(.int 0)]) (rest := []) (lenOf pd_2 rfl) rfl (by show 2 * 0 + _ ≤ _; exact Nat.le_of_eq rfl) (hb hby at_79) (fun _ _ => ⟨rfl, e37q, (by decide : 5 + 0 ≤ _), (by decide : 25 + 0 ≤ _)⟩)
      dsimp only [Pt.U, Pt.locs, Pt.cells, Pt.slots] at X39 l39 y39 z39 st39 hQ39
      subst l39 y39 z39
      obtain ⟨rfl, N39q, e39q⟩ := hQ39
      have N39 := Fr.app N37 N39q
      obtain ⟨_, _, ⟨T40, L40, k40, n40⟩, -, X40, ⟨Lc40, hQ40, l40, y40, z40⟩, st40⟩ := Jvm.LawKit.callS X39 hx (y := (⟨"java/lang/Math", "min", "(II)I"⟩ : MethodName)) hown (mvT hZ (hwi hw 15 rfl)) (mvT hZ (hwi hw 16 rfl)) (mvT hZ (hwi hw 17 rfl)) (mvT hZ (hwi hw 18 rfl)) (by decide) (backOf (W := 0) (rmMin l Z a0 hw [] p3 (1 : Int32) T31.heap n0 (Nat.le_trans Z0 K32.1)) hZ (hwi hw 18 rfl) (hwi hw 17 rfl) (by decide) (by decide)) (g := (mkF m 84 #[iv p1, iv p2, iv p3, iv 1, rv b2, rv b3, rv b5, rv b8, iv 0, .unset, .unset, .unset] [(.int 1), (.int p3)])) rfl (by rw [hml]; rfl) (argsL := [(.int p3), (.int 1)]) (rest := []) (lenOf pd_1 rfl) rfl (by show 2 * 0 + _ ≤ _; exact Nat.le_of_eq rfl) (hb hby at_84) (fun _ _ => ⟨rfl, e39q, (by decide : 5 + 0 ≤ _), (by decide : 25 + 0 ≤ _)⟩)
      dsimp only [Pt.U, Pt.locs, Pt.cells, Pt.slots] at X40 l40 y40 z40 st40 hQ40
      subst l40 y40 z40
      obtain ⟨hv40, N40q, e40q⟩ := hQ40
      have N40 := Fr.app N39 N40q
      have hbn := own_minle p3 (1 : Int32)
      obtain ⟨bb, e_bb⟩ : ∃ z : Int32, z = (if (1 : Int32) < p3 then (1 : Int32) else p3) := ⟨_, rfl⟩
      rw [← e_bb] at hv40 hbn
      clear e_bb
      subst hv40
      have pre41 : ∀ t_, Go p e below T40 (mkF m 89 #[iv p1, iv p2, iv p3, iv 1, rv b2, rv b3, rv b5, rv b8, iv 0, iv bb, .unset, .unset] []) t_ → Go p e below s₁ (entryFrame m #[(.int p1), (.int p2), (.int p3)] maxLocals) t_ := fun t_ kt => pre38 _ (by
          show Go p e below T37 (mkF m 75 #[iv p1, iv p2, iv p3, iv 1, rv b2, rv b3, rv b5, rv b8, iv 0, .unset, .unset, .unset] []) _
          refine XS.aload X37.here hx rfl (hb hby at_75) rfl rfl ?_
          show Go p e below T37 (mkF m 77 #[iv p1, iv p2, iv p3, iv 1, rv b2, rv b3, rv b5, rv b8, iv 0, .unset, .unset, .unset] [(.ref b8)]) _
          refine XS.iload X37.here hx rfl (hb hby at_77) rfl ?_
          show Go p e below T37 (mkF m 79 #[iv p1, iv p2, iv p3, iv 1, rv b2, rv b3, rv b5, rv b8, iv 0, .unset, .unset, .unset] [(.int 0), (.ref b8)]) _
          refine st39.trans ?_
          show Go p e below T39 (mkF m 82 #[iv p1, iv p2, iv p3, iv 1, rv b2, rv b3, rv b5, rv b8, iv 0, .unset, .unset, .unset] []) _
          refine XS.iloadN X39.here hx rfl (hb hby at_82) rfl ?_
          show Go p e below T39 (mkF m 83 #[iv p1, iv p2, iv p3, iv 1, rv b2, rv b3, rv b5, rv b8, iv 0, .unset, .unset, .unset] [(.int p3)]) _
          refine XS.iloadN X39.here hx rfl (hb hby at_83) rfl ?_
          show Go p e below T39 (mkF m 84 #[iv p1, iv p2, iv p3, iv 1, rv b2, rv b3, rv b5, rv b8, iv 0, .unset, .unset, .unset] [(.int 1), (.int p3)]) _
          refine st40 _ ?_
          show Go p e below T40 (mkF m 87 #[iv p1, iv p2, iv p3, iv 1, rv b2, rv b3, rv b5, rv b8, iv 0, .unset, .unset, .unset] [(.int bb)]) _
          refine XS.istore X40.here hx rfl (hb hby at_87) rfl (l' := #[iv p1, iv p2, iv p3, iv 1, rv b2, rv b3, rv b5, rv b8, iv 0, iv bb, .unset, .unset]) rfl ?_
          show Go p e below T40 (mkF m 89 #[iv p1, iv p2, iv p3, iv 1, rv b2, rv b3, rv b5, rv b8, iv 0, iv bb, .unset, .unset] []) _
          exact kt)
      by_cases hkb : (0 : Int32) < bb
      · rcases own_btw0_1 hkb hbn with rfl
        · obtain ⟨cq42, kq42, q42a, q42b, q42c⟩ := isOf hZ e40q E_31
          obtain ⟨_, _, ⟨T42, L42, k42, n42⟩, -, X42, ⟨Lc42, hQ42, l42, y42, z42⟩, st42⟩ := X40.virtualBack hx (y := (⟨"com/example/rowmotif/rowmotif/matcher/PartitionRows", "release", "(I)V"⟩ : MethodName)) (z := (⟨"com/example/rowmotif/rowmotif/matcher/PartitionRows", "release", "(I)V"⟩ : MethodName)) hown (mvT hZ (hwi hw 19 rfl)) (mvT hZ (hwi hw 20 rfl)) (notFace_of_selects (args := #[]) (mvT hZ (hwi hw 22 rfl))) (mvT hZ (hwi hw 22 rfl)) (mvT hZ (hwi hw 21 rfl)) (by decide) (backOf (W := 0) (rmR0_1_1 l Z a0 hw [] b8 rg12 kr12 (.ref b2) .null .null T31.heap n0 (Nat.le_trans Z0 K32.1) R31 g_b8 gr12) hZ (hwi hw 23 rfl) (hwi hw 4 rfl) (by decide) (by decide)) q42a q42c (g := (mkF m 93 #[iv p1, iv p2, iv p3, iv 1, rv b2, rv b3, rv b5, rv b8, iv 0, iv 1, .unset, .unset] [(.int 1), (.ref b8)])) rfl (by rw [hml]; rfl) (Steps.refl _) (argsL := [(.int 1)]) (rest := []) (lenOf pd_2 rfl) rfl (by show 2 * 0 + _ ≤ _; exact Nat.le_of_eq rfl) (hb hby at_93) (fun _ _ => ⟨rfl, e40q, (by decide : 5 + 0 ≤ _), (by decide : 25 + 0 ≤ _)⟩)
          dsimp only [Pt.U, Pt.locs, Pt.cells, Pt.slots] at X42 l42 y42 z42 st42 hQ42
          subst l42 y42 z42
          obtain ⟨rfl, N42q, kc42, R42⟩ := hQ42
          have N42 := Fr.app N40 N42q
          have K43 : Keep h0 T42.heap [] := K32.trans kc42 (allS (Or.inr sz_b8) (allS (Or.inr szr) all0))
          have f44 := f33.keep kc42
          have f45 := f34.keep kc42
          have f46 := f35.keep kc42
          have f47 := E_31.keep kc42
          have E_42 := R42.1
          obtain ⟨_, _, ⟨T48, L48, k48, n48⟩, -, X48, ⟨Lc48, hQ48, l48, y48, z48⟩, st48⟩ := Jvm.LawKit.callS X42 hx (y := (⟨"java/lang/Math", "max", "(II)I"⟩ : MethodName)) hown (mvT hZ (hwi hw 26 rfl)) (mvT hZ (hwi hw 27 rfl)) (mvT hZ (hwi hw 17 rfl)) (mvT hZ (hwi hw 28 rfl)) (by decide) (backOf (W := 0) (rmMax l Z a0 hw [] (0 : Int32) (1 : Int32) T42.heap n0 (Nat.le_trans Z0 K43.1)) hZ (hwi hw 28 rfl) (hwi hw 17 rfl) (by decide) (by decide)) (g := (mkF m 100 #[iv p1, iv p2, iv p3, iv 1, rv b2, rv b3, rv b5, rv b8, iv 0, iv 1, .unset, .unset] [(.int 1), (.int 0)])) rfl (by rw [hml]; rfl) (argsL := [(.int 0), (.int 1)]) (rest := []) (lenOf pd_1 rfl) rfl (by show 2 * 0 + _ ≤ _; exact Nat.le_of_eq rfl) (hb hby at_100) (fun _ _ => ⟨rfl, rfl, (by decide : 5 + 0 ≤ _), (by decide : 25 + 0 ≤ _)⟩)
          dsimp only [Pt.U, Pt.locs, Pt.cells, Pt.slots] at X48 l48 y48 z48 st48 hQ48
          subst l48 y48 z48
          obtain ⟨hv48, N48q, e48q⟩ := hQ48
          have N48 := Fr.app N42 N48q
          rw [show (if (0 : Int32) < (1 : Int32) then (1 : Int32) else (0 : Int32)) = (1 : Int32) from by decide] at hv48
          subst hv48
          have pre49 : ∀ t_, Go p e below T48 (mkF m 105 #[iv p1, iv p2, iv p3, iv 1, rv b2, rv b3, rv b5, rv b8, iv 0, iv 1, iv 1, .unset] []) t_ → Go p e below s₁ (entryFrame m #[(.int p1), (.int p2), (.int p3)] maxLocals) t_ := fun t_ kt => pre41 _ (by
              show Go p e below T40 (mkF m 89 #[iv p1, iv p2, iv p3, iv 1, rv b2, rv b3, rv b5, rv b8, iv 0, iv 1, .unset, .unset] []) _
              refine XS.aload X40.here hx rfl (hb hby at_89) rfl rfl ?_
              show Go p e below T40 (mkF m 91 #[iv p1, iv p2, iv p3, iv 1, rv b2, rv b3, rv b5, rv b8, iv 0, iv 1, .unset, .unset] [(.ref b8)]) _
              refine XS.iload X40.here hx rfl (hb hby at_91) rfl ?_
              show Go p e below T40 (mkF m 93 #[iv p1, iv p2, iv p3, iv 1, rv b2, rv b3, rv b5, rv b8, iv 0, iv 1, .unset, .unset] [(.int 1), (.ref b8)]) _
              refine st42.trans ?_
              show Go p e below T42 (mkF m 96 #[iv p1, iv p2, iv p3, iv 1, rv b2, rv b3, rv b5, rv b8, iv 0, iv 1, .unset, .unset] []) _
              refine XS.iload X42.here hx rfl (hb hby at_96) rfl ?_
              show Go p e below T42 (mkF m 98 #[iv p1, iv p2, iv p3, iv 1, rv b2, rv b3, rv b5, rv b8, iv 0, iv 1, .unset, .unset] [(.int 0)]) _
              refine XS.iload X42.here hx rfl (hb hby at_98) rfl ?_
              show Go p e below T42 (mkF m 100 #[iv p1, iv p2, iv p3, iv 1, rv b2, rv b3, rv b5, rv b8, iv 0, iv 1, .unset, .unset] [(.int 1), (.int 0)]) _
              refine st48 _ ?_
              show Go p e below T48 (mkF m 103 #[iv p1, iv p2, iv p3, iv 1, rv b2, rv b3, rv b5, rv b8, iv 0, iv 1, .unset, .unset] [(.int 1)]) _
              refine XS.istore X48.here hx rfl (hb hby at_103) rfl (l' := #[iv p1, iv p2, iv p3, iv 1, rv b2, rv b3, rv b5, rv b8, iv 0, iv 1, iv 1, .unset]) rfl ?_
              show Go p e below T48 (mkF m 105 #[iv p1, iv p2, iv p3, iv 1, rv b2, rv b3, rv b5, rv b8, iv 0, iv 1, iv 1, .unset] []) _
              exact kt)
          obtain ⟨s₂, o₂, hs1, hs2, hs3, hs4⟩ := tl1_1 p1 p2 p3 (0 : Int32) (1 : Int32) b8 b2 b3 b5 rg12 kr12 T42.heap n0 X48 hx hZ hw hby hml hown Bd.returns Bd.notSynchronized e48q N48 (Nat.le_trans Z0 K43.1) R42
          exact ⟨s₂, o₂, pre49 _ hs1, hs2, hs3, hs4⟩
      · obtain ⟨cq50, kq50, q50a, q50b, q50c⟩ := isOf hZ e40q E_31
        obtain ⟨_, _, ⟨T50, L50, k50, n50⟩, -, X50, ⟨Lc50, hQ50, l50, y50, z50⟩, st50⟩ := X40.virtualBack hx (y := (⟨"com/example/rowmotif/rowmotif/matcher/PartitionRows", "release", "(I)V"⟩ : MethodName)) (z := (⟨"com/example/rowmotif/rowmotif/matcher/PartitionRows", "release", "(I)V"⟩ : MethodName)) hown (mvT hZ (hwi hw 19 rfl)) (mvT hZ (hwi hw 20 rfl)) (notFace_of_selects (args := #[]) (mvT hZ (hwi hw 22 rfl))) (mvT hZ (hwi hw 22 rfl)) (mvT hZ (hwi hw 21 rfl)) (by decide) (backOf (W := 0) (rmR0 l Z a0 hw [] b8 bb (0 : Int32) T31.heap n0 (Nat.le_trans Z0 K32.1) R31.2.2.2.2.1 hkb) hZ (hwi hw 23 rfl) (hwi hw 4 rfl) (by decide) (by decide)) q50a q50c (g := (mkF m 93 #[iv p1, iv p2, iv p3, iv 1, rv b2, rv b3, rv b5, rv b8, iv 0, iv bb, .unset, .unset] [(.int bb), (.ref b8)])) rfl (by rw [hml]; rfl) (Steps.refl _) (argsL := [(.int bb)]) (rest := []) (lenOf pd_2 rfl) rfl (by show 2 * 0 + _ ≤ _; exact Nat.le_of_eq rfl) (hb hby at_93) (fun _ _ => ⟨rfl, e40q, (by decide : 5 + 0 ≤ _), (by decide : 25 + 0 ≤ _)⟩)
        dsimp only [Pt.U, Pt.locs, Pt.cells, Pt.slots] at X50 l50 y50 z50 st50 hQ50
        subst l50 y50 z50
        obtain ⟨rfl, N50q, e50q⟩ := hQ50
        have N50 := Fr.app N40 N50q
        obtain ⟨_, _, ⟨T51, L51, k51, n51⟩, -, X51, ⟨Lc51, hQ51, l51, y51, z51⟩, st51⟩ := Jvm.LawKit.callS X50 hx (y := (⟨"java/lang/Math", "max", "(II)I"⟩ : MethodName)) hown (mvT hZ (hwi hw 26 rfl)) (mvT hZ (hwi hw 27 rfl)) (mvT hZ (hwi hw 17 rfl)) (mvT hZ (hwi hw 28 rfl)) (by decide) (backOf (W := 0) (rmMax l Z a0 hw [] (0 : Int32) bb T31.heap n0 (Nat.le_trans Z0 K32.1)) hZ (hwi hw 28 rfl) (hwi hw 17 rfl) (by decide) (by decide)) (g := (mkF m 100 #[iv p1, iv p2, iv p3, iv 1, rv b2, rv b3, rv b5, rv b8, iv 0, iv bb, .unset, .unset] [(.int bb), (.int 0)])) rfl (by rw [hml]; rfl) (argsL := [(.int 0), (.int bb)]) (rest := []) (lenOf pd_1 rfl) rfl (by show 2 * 0 + _ ≤ _; exact Nat.le_of_eq rfl) (hb hby at_100) (fun _ _ => ⟨rfl, e50q, (by decide : 5 + 0 ≤ _), (by decide : 25 + 0 ≤ _)⟩)
        dsimp only [Pt.U, Pt.locs, Pt.cells, Pt.slots] at X51 l51 y51 z51 st51 hQ51
        subst l51 y51 z51
        obtain ⟨hv51, N51q, e51q⟩ := hQ51
        have N51 := Fr.app N50 N51q
        rw [if_neg hkb] at hv51
        subst hv51
        have pre52 : ∀ t_, Go p e below T51 (mkF m 105 #[iv p1, iv p2, iv p3, iv 1, rv b2, rv b3, rv b5, rv b8, iv 0, iv bb, iv 0, .unset] []) t_ → Go p e below s₁ (entryFrame m #[(.int p1), (.int p2), (.int p3)] maxLocals) t_ := fun t_ kt => pre41 _ (by
            show Go p e below T40 (mkF m 89 #[iv p1, iv p2, iv p3, iv 1, rv b2, rv b3, rv b5, rv b8, iv 0, iv bb, .unset, .unset] []) _
            refine XS.aload X40.here hx rfl (hb hby at_89) rfl rfl ?_
            show Go p e below T40 (mkF m 91 #[iv p1, iv p2, iv p3, iv 1, rv b2, rv b3, rv b5, rv b8, iv 0, iv bb, .unset, .unset] [(.ref b8)]) _
            refine XS.iload X40.here hx rfl (hb hby at_91) rfl ?_
            show Go p e below T40 (mkF m 93 #[iv p1, iv p2, iv p3, iv 1, rv b2, rv b3, rv b5, rv b8, iv 0, iv bb, .unset, .unset] [(.int bb), (.ref b8)]) _
            refine st50.trans ?_
            show Go p e below T50 (mkF m 96 #[iv p1, iv p2, iv p3, iv 1, rv b2, rv b3, rv b5, rv b8, iv 0, iv bb, .unset, .unset] []) _
            refine XS.iload X50.here hx rfl (hb hby at_96) rfl ?_
            show Go p e below T50 (mkF m 98 #[iv p1, iv p2, iv p3, iv 1, rv b2, rv b3, rv b5, rv b8, iv 0, iv bb, .unset, .unset] [(.int 0)]) _
            refine XS.iload X50.here hx rfl (hb hby at_98) rfl ?_
            show Go p e below T50 (mkF m 100 #[iv p1, iv p2, iv p3, iv 1, rv b2, rv b3, rv b5, rv b8, iv 0, iv bb, .unset, .unset] [(.int bb), (.int 0)]) _
            refine st51 _ ?_
            show Go p e below T51 (mkF m 103 #[iv p1, iv p2, iv p3, iv 1, rv b2, rv b3, rv b5, rv b8, iv 0, iv bb, .unset, .unset] [(.int 0)]) _
            refine XS.istore X51.here hx rfl (hb hby at_103) rfl (l' := #[iv p1, iv p2, iv p3, iv 1, rv b2, rv b3, rv b5, rv b8, iv 0, iv bb, iv 0, .unset]) rfl ?_
            show Go p e below T51 (mkF m 105 #[iv p1, iv p2, iv p3, iv 1, rv b2, rv b3, rv b5, rv b8, iv 0, iv bb, iv 0, .unset] []) _
            exact kt)
        obtain ⟨s₂, o₂, hs1, hs2, hs3, hs4⟩ := tl1_0 p1 p2 p3 (0 : Int32) bb b8 b2 b3 b5 rg12 kr12 T31.heap n0 X51 hx hZ hw hby hml hown Bd.returns Bd.notSynchronized e51q N51 (Nat.le_trans Z0 K32.1) R31
        exact ⟨s₂, o₂, pre52 _ hs1, hs2, hs3, hs4⟩
    · obtain ⟨cq53, kq53, q53a, q53b, q53c⟩ := isOf hZ e37q E_31
      obtain ⟨_, _, ⟨T53, L53, k53, n53⟩, -, X53, ⟨Lc53, hQ53, l53, y53, z53⟩, st53⟩ := X37.virtualBack hx (y := (⟨"com/example/rowmotif/rowmotif/matcher/PartitionRows", "release", "(I)V"⟩ : MethodName)) (z := (⟨"com/example/rowmotif/rowmotif/matcher/PartitionRows", "release", "(I)V"⟩ : MethodName)) hown (mvT hZ (hwi hw 19 rfl)) (mvT hZ (hwi hw 20 rfl)) (notFace_of_selects (args := #[]) (mvT hZ (hwi hw 22 rfl))) (mvT hZ (hwi hw 22 rfl)) (mvT hZ (hwi hw 21 rfl)) (by decide) (backOf (W := 0) (rmR0_1_1 l Z a0 hw [] b8 rg12 kr12 (.ref b2) .null .null T31.heap n0 (Nat.le_trans Z0 K32.1) R31 g_b8 gr12) hZ (hwi hw 23 rfl) (hwi hw 4 rfl) (by decide) (by decide)) q53a q53c (g := (mkF m 79 #[iv p1, iv p2, iv p3, iv 1, rv b2, rv b3, rv b5, rv b8, iv 1, .unset, .unset, .unset] [(.int 1), (.ref b8)])) rfl (by rw [hml]; rfl) (Steps.refl _) (argsL := [(.int 1)]) (rest := []) (lenOf pd_2 rfl) rfl (by show 2 * 0 + _ ≤ _; exact Nat.le_of_eq rfl) (hb hby at_79) (fun _ _ => ⟨rfl, e37q, (by decide : 5 + 0 ≤ _), (by decide : 25 + 0 ≤ _)⟩)
      dsimp only [Pt.U, Pt.locs, Pt.cells, Pt.slots] at X53 l53 y53 z53 st53 hQ53
      subst l53 y53 z53
      obtain ⟨rfl, N53q, kc53, R53⟩ := hQ53
      have N53 := Fr.app N37 N53q
      have K54 : Keep h0 T53.heap [] := K32.trans kc53 (allS (Or.inr sz_b8) (allS (Or.inr szr) all0))
      have f55 := f33.keep kc53
      have f56 := f34.keep kc53
      have f57 := f35.keep kc53
      have f58 := E_31.keep kc53
      have E_53 := R53.1
      obtain ⟨_, _, ⟨T59, L59, k59, n59⟩, -, X59, ⟨Lc59, hQ59, l59, y59, z59⟩, st59⟩ := Jvm.LawKit.callS X53 hx (y := (⟨"java/lang/Math", "min", "(II)I"⟩ : MethodName)) hown (mvT hZ (hwi hw 15 rfl)) (mvT hZ (hwi hw 16 rfl)) (mvT hZ (hwi hw 17 rfl)) (mvT hZ (hwi hw 18 rfl)) (by decide) (backOf (W := 0) (rmMin l Z a0 hw [] p3 (1 : Int32) T53.heap n0 (Nat.le_trans Z0 K54.1)) hZ (hwi hw 18 rfl) (hwi hw 17 rfl) (by decide) (by decide)) (g := (mkF m 84 #[iv p1, iv p2, iv p3, iv 1, rv b2, rv b3, rv b5, rv b8, iv 1, .unset, .unset, .unset] [(.int 1), (.int p3)])) rfl (by rw [hml]; rfl) (argsL := [(.int p3), (.int 1)]) (rest := []) (lenOf pd_1 rfl) rfl (by show 2 * 0 + _ ≤ _; exact Nat.le_of_eq rfl) (hb hby at_84) (fun _ _ => ⟨rfl, rfl, (by decide : 5 + 0 ≤ _), (by decide : 25 + 0 ≤ _)⟩)
      dsimp only [Pt.U, Pt.locs, Pt.cells, Pt.slots] at X59 l59 y59 z59 st59 hQ59
      subst l59 y59 z59
      obtain ⟨hv59, N59q, e59q⟩ := hQ59
      have N59 := Fr.app N53 N59q
      have hbn := own_minle p3 (1 : Int32)
      obtain ⟨bb, e_bb⟩ : ∃ z : Int32, z = (if (1 : Int32) < p3 then (1 : Int32) else p3) := ⟨_, rfl⟩
      rw [← e_bb] at hv59 hbn
      clear e_bb
      subst hv59
      obtain ⟨cq60, kq60, q60a, q60b, q60c⟩ := isOf hZ e59q E_53
      obtain ⟨_, _, ⟨T60, L60, k60, n60⟩, -, X60, ⟨Lc60, hQ60, l60, y60, z60⟩, st60⟩ := X59.virtualBack hx (y := (⟨"com/example/rowmotif/rowmotif/matcher/PartitionRows", "release", "(I)V"⟩ : MethodName)) (z := (⟨"com/example/rowmotif/rowmotif/matcher/PartitionRows", "release", "(I)V"⟩ : MethodName)) hown (mvT hZ (hwi hw 19 rfl)) (mvT hZ (hwi hw 20 rfl)) (notFace_of_selects (args := #[]) (mvT hZ (hwi hw 22 rfl))) (mvT hZ (hwi hw 22 rfl)) (mvT hZ (hwi hw 21 rfl)) (by decide) (backOf (W := 0) (rmR0 l Z a0 hw [] b8 bb (1 : Int32) T53.heap n0 (Nat.le_trans Z0 K54.1) R53.2.2.2.2.1 hbn) hZ (hwi hw 23 rfl) (hwi hw 4 rfl) (by decide) (by decide)) q60a q60c (g := (mkF m 93 #[iv p1, iv p2, iv p3, iv 1, rv b2, rv b3, rv b5, rv b8, iv 1, iv bb, .unset, .unset] [(.int bb), (.ref b8)])) rfl (by rw [hml]; rfl) (Steps.refl _) (argsL := [(.int bb)]) (rest := []) (lenOf pd_2 rfl) rfl (by show 2 * 0 + _ ≤ _; exact Nat.le_of_eq rfl) (hb hby at_93) (fun _ _ => ⟨rfl, e59q, (by decide : 5 + 0 ≤ _), (by decide : 25 + 0 ≤ _)⟩)
      dsimp only [Pt.U, Pt.locs, Pt.cells, Pt.slots] at X60 l60 y60 z60 st60 hQ60
      subst l60 y60 z60
      obtain ⟨rfl, N60q, e60q⟩ := hQ60
      have N60 := Fr.app N59 N60q
      obtain ⟨_, _, ⟨T61, L61, k61, n61⟩, -, X61, ⟨Lc61, hQ61, l61, y61, z61⟩, st61⟩ := Jvm.LawKit.callS X60 hx (y := (⟨"java/lang/Math", "max", "(II)I"⟩ : MethodName)) hown (mvT hZ (hwi hw 26 rfl)) (mvT hZ (hwi hw 27 rfl)) (mvT hZ (hwi hw 17 rfl)) (mvT hZ (hwi hw 28 rfl)) (by decide) (backOf (W := 0) (rmMax l Z a0 hw [] (1 : Int32) bb T53.heap n0 (Nat.le_trans Z0 K54.1)) hZ (hwi hw 28 rfl) (hwi hw 17 rfl) (by decide) (by decide)) (g := (mkF m 100 #[iv p1, iv p2, iv p3, iv 1, rv b2, rv b3, rv b5, rv b8, iv 1, iv bb, .unset, .unset] [(.int bb), (.int 1)])) rfl (by rw [hml]; rfl) (argsL := [(.int 1), (.int bb)]) (rest := []) (lenOf pd_1 rfl) rfl (by show 2 * 0 + _ ≤ _; exact Nat.le_of_eq rfl) (hb hby at_100) (fun _ _ => ⟨rfl, e60q, (by decide : 5 + 0 ≤ _), (by decide : 25 + 0 ≤ _)⟩)
      dsimp only [Pt.U, Pt.locs, Pt.cells, Pt.slots] at X61 l61 y61 z61 st61 hQ61
      subst l61 y61 z61
      obtain ⟨hv61, N61q, e61q⟩ := hQ61
      have N61 := Fr.app N60 N61q
      rw [if_neg hbn] at hv61
      subst hv61
      have pre62 : ∀ t_, Go p e below T61 (mkF m 105 #[iv p1, iv p2, iv p3, iv 1, rv b2, rv b3, rv b5, rv b8, iv 1, iv bb, iv 1, .unset] []) t_ → Go p e below s₁ (entryFrame m #[(.int p1), (.int p2), (.int p3)] maxLocals) t_ := fun t_ kt => pre38 _ (by
          show Go p e below T37 (mkF m 75 #[iv p1, iv p2, iv p3, iv 1, rv b2, rv b3, rv b5, rv b8, iv 1, .unset, .unset, .unset] []) _
          refine XS.aload X37.here hx rfl (hb hby at_75) rfl rfl ?_
          show Go p e below T37 (mkF m 77 #[iv p1, iv p2, iv p3, iv 1, rv b2, rv b3, rv b5, rv b8, iv 1, .unset, .unset, .unset] [(.ref b8)]) _
          refine XS.iload X37.here hx rfl (hb hby at_77) rfl ?_
          show Go p e below T37 (mkF m 79 #[iv p1, iv p2, iv p3, iv 1, rv b2, rv b3, rv b5, rv b8, iv 1, .unset, .unset, .unset] [(.int 1), (.ref b8)]) _
          refine st53.trans ?_
          show Go p e below T53 (mkF m 82 #[iv p1, iv p2, iv p3, iv 1, rv b2, rv b3, rv b5, rv b8, iv 1, .unset, .unset, .unset] []) _
          refine XS.iloadN X53.here hx rfl (hb hby at_82) rfl ?_
          show Go p e below T53 (mkF m 83 #[iv p1, iv p2, iv p3, iv 1, rv b2, rv b3, rv b5, rv b8, iv 1, .unset, .unset, .unset] [(.int p3)]) _
          refine XS.iloadN X53.here hx rfl (hb hby at_83) rfl ?_
          show Go p e below T53 (mkF m 84 #[iv p1, iv p2, iv p3, iv 1, rv b2, rv b3, rv b5, rv b8, iv 1, .unset, .unset, .unset] [(.int 1), (.int p3)]) _
          refine st59 _ ?_
          show Go p e below T59 (mkF m 87 #[iv p1, iv p2, iv p3, iv 1, rv b2, rv b3, rv b5, rv b8, iv 1, .unset, .unset, .unset] [(.int bb)]) _
          refine XS.istore X59.here hx rfl (hb hby at_87) rfl (l' := #[iv p1, iv p2, iv p3, iv 1, rv b2, rv b3, rv b5, rv b8, iv 1, iv bb, .unset, .unset]) rfl ?_
          show Go p e below T59 (mkF m 89 #[iv p1, iv p2, iv p3, iv 1, rv b2, rv b3, rv b5, rv b8, iv 1, iv bb, .unset, .unset] []) _
          refine XS.aload X59.here hx rfl (hb hby at_89) rfl rfl ?_
          show Go p e below T59 (mkF m 91 #[iv p1, iv p2, iv p3, iv 1, rv b2, rv b3, rv b5, rv b8, iv 1, iv bb, .unset, .unset] [(.ref b8)]) _
          refine XS.iload X59.here hx rfl (hb hby at_91) rfl ?_
          show Go p e below T59 (mkF m 93 #[iv p1, iv p2, iv p3, iv 1, rv b2, rv b3, rv b5, rv b8, iv 1, iv bb, .unset, .unset] [(.int bb), (.ref b8)]) _
          refine st60.trans ?_
          show Go p e below T60 (mkF m 96 #[iv p1, iv p2, iv p3, iv 1, rv b2, rv b3, rv b5, rv b8, iv 1, iv bb, .unset, .unset] []) _
          refine XS.iload X60.here hx rfl (hb hby at_96) rfl ?_
          show Go p e below T60 (mkF m 98 #[iv p1, iv p2, iv p3, iv 1, rv b2, rv b3, rv b5, rv b8, iv 1, iv bb, .unset, .unset] [(.int 1)]) _
          refine XS.iload X60.here hx rfl (hb hby at_98) rfl ?_
          show Go p e below T60 (mkF m 100 #[iv p1, iv p2, iv p3, iv 1, rv b2, rv b3, rv b5, rv b8, iv 1, iv bb, .unset, .unset] [(.int bb), (.int 1)]) _
          refine st61 _ ?_
          show Go p e below T61 (mkF m 103 #[iv p1, iv p2, iv p3, iv 1, rv b2, rv b3, rv b5, rv b8, iv 1, iv bb, .unset, .unset] [(.int 1)]) _
          refine XS.istore X61.here hx rfl (hb hby at_103) rfl (l' := #[iv p1, iv p2, iv p3, iv 1, rv b2, rv b3, rv b5, rv b8, iv 1, iv bb, iv 1, .unset]) rfl ?_
          show Go p e below T61 (mkF m 105 #[iv p1, iv p2, iv p3, iv 1, rv b2, rv b3, rv b5, rv b8, iv 1, iv bb, iv 1, .unset] []) _
          exact kt)
      obtain ⟨s₂, o₂, hs1, hs2, hs3, hs4⟩ := tl1_1 p1 p2 p3 (1 : Int32) bb b8 b2 b3 b5 rg12 kr12 T53.heap n0 X61 hx hZ hw hby hml hown Bd.returns Bd.notSynchronized e61q N61 (Nat.le_trans Z0 K54.1) R53
      exact ⟨s₂, o₂, pre62 _ hs1, hs2, hs3, hs4⟩
  · obtain ⟨cq63, kq63, q63a, q63b, q63c⟩ := isOf hZ rfl f16
    obtain ⟨_, _, ⟨T63, L63, k63, n63⟩, -, X63, ⟨Lc63, hQ63, l63, y63, z63⟩, st63⟩ := X12.virtualBack hx (y := (⟨"com/example/rowmotif/rowmotif/matcher/PartitionRows", "add", "([Ljava/lang/Object;)V"⟩ : MethodName)) (z := (⟨"com/example/rowmotif/rowmotif/matcher/PartitionRows", "add", "([Ljava/lang/Object;)V"⟩ : MethodName)) hown (mvT hZ (hwi hw 41 rfl)) (mvT hZ (hwi hw 42 rfl)) (notFace_of_selects (args := #[]) (mvT hZ (hwi hw 44 rfl))) (mvT hZ (hwi hw 44 rfl)) (mvT hZ (hwi hw 43 rfl)) (by decide) (backOf (W := 0) (rmA0 l Z a0 hw [] b8 b2 rg12 kr12 .null .null .null T12.heap n0 (Nat.le_trans Z0 K22.1) R12 f13 g_b8 gr12) hZ (hwi hw 45 rfl) (hwi hw 4 rfl) (by decide) (by decide)) q63a q63c (g := (mkF m 39 #[iv p1, iv p2, iv p3, iv 2, rv b2, rv b3, rv b5, rv b8, .unset, .unset, .unset, .unset] [(.ref b2), (.ref b8)])) rfl (by rw [hml]; rfl) (Steps.refl _) (argsL := [(.ref b2)]) (rest := []) (lenOf pd_4 rfl) rfl (by show 2 * 0 + _ ≤ _; exact Nat.le_of_eq rfl) (hb hby at_39) (fun _ _ => ⟨rfl, rfl, (by decide : 5 + 0 ≤ _), (by decide : 25 + 0 ≤ _)⟩)
    dsimp only [Pt.U, Pt.locs, Pt.cells, Pt.slots] at X63 l63 y63 z63 st63 hQ63
    subst l63 y63 z63
    obtain ⟨rfl, N63q, kc63, R63⟩ := hQ63
    have N63 := Fr.app N12 N63q
    have K64 : Keep h0 T63.heap [] := K22.trans kc63 (allS (Or.inr sz_b8) (allS (Or.inr szr) all0))
    have f65 := f13.keep kc63
    have f66 := f14.keep kc63
    have f67 := f15.keep kc63
    have f68 := f16.keep kc63
    have E_63 := R63.1
    obtain ⟨cq69, kq69, q69a, q69b, q69c⟩ := isOf hZ rfl E_63
    obtain ⟨_, _, ⟨T69, L69, k69, n69⟩, -, X69, ⟨Lc69, hQ69, l69, y69, z69⟩, st69⟩ := X63.virtualBack hx (y := (⟨"com/example/rowmotif/rowmotif/matcher/PartitionRows", "add", "([Ljava/lang/Object;)V"⟩ : MethodName)) (z := (⟨"com/example/rowmotif/rowmotif/matcher/PartitionRows", "add", "([Ljava/lang/Object;)V"⟩ : MethodName)) hown (mvT hZ (hwi hw 41 rfl)) (mvT hZ (hwi hw 42 rfl)) (notFace_of_selects (args := #[]) (mvT hZ (hwi hw 44 rfl))) (mvT hZ (hwi hw 44 rfl)) (mvT hZ (hwi hw 43 rfl)) (by decide) (backOf (W := 0) (rmA1 l Z a0 hw [] b8 b3 rg12 kr12 (.ref b2) .null .null T63.heap n0 (Nat.le_trans Z0 K64.1) R63 f66 g_b8 gr12) hZ (hwi hw 45 rfl) (hwi hw 4 rfl) (by decide) (by decide)) q69a q69c (g := (mkF m 51 #[iv p1, iv p2, iv p3, iv 2, rv b2, rv b3, rv b5, rv b8, .unset, .unset, .unset, .unset] [(.ref b3), (.ref b8)])) rfl (by rw [hml]; rfl) (Steps.refl _) (argsL := [(.ref b3)]) (rest := []) (lenOf pd_4 rfl) rfl (by show 2 * 0 + _ ≤ _; exact Nat.le_of_eq rfl) (hb hby at_51) (fun _ _ => ⟨rfl, rfl, (by decide : 5 + 0 ≤ _), (by decide : 25 + 0 ≤ _)⟩)
    dsimp only [Pt.U, Pt.locs, Pt.cells, Pt.slots] at X69 l69 y69 z69 st69 hQ69
    subst l69 y69 z69
    obtain ⟨rfl, N69q, kc69, R69⟩ := hQ69
    have N69 := Fr.app N63 N69q
    have K70 : Keep h0 T69.heap [] := K64.trans kc69 (allS (Or.inr sz_b8) (allS (Or.inr szr) all0))
    have f71 := f65.keep kc69
    have f72 := f66.keep kc69
    have f73 := f67.keep kc69
    have f74 := E_63.keep kc69
    have E_69 := R69.1
    obtain ⟨_, _, ⟨T75, L75, k75, n75⟩, -, X75, ⟨Lc75, hQ75, l75, y75, z75⟩, st75⟩ := Jvm.LawKit.callS X69 hx (y := (⟨"java/lang/Math", "min", "(II)I"⟩ : MethodName)) hown (mvT hZ (hwi hw 15 rfl)) (mvT hZ (hwi hw 16 rfl)) (mvT hZ (hwi hw 17 rfl)) (mvT hZ (hwi hw 18 rfl)) (by decide) (backOf (W := 0) (rmMin l Z a0 hw [] (p2 &&& (3 : Int32)) (2 : Int32) T69.heap n0 (Nat.le_trans Z0 K70.1)) hZ (hwi hw 18 rfl) (hwi hw 17 rfl) (by decide) (by decide)) (g := (mkF m 70 #[iv p1, iv p2, iv p3, iv 2, rv b2, rv b3, rv b5, rv b8, .unset, .unset, .unset, .unset] [(.int 2), (.int (p2 &&& (3 : Int32)))])) rfl (by rw [hml]; rfl) (argsL := [(.int (p2 &&& (3 : Int32))), (.int 2)]) (rest := []) (lenOf pd_1 rfl) rfl (by show 2 * 0 + _ ≤ _; exact Nat.le_of_eq rfl) (hb hby at_70) (fun _ _ => ⟨rfl, rfl, (by decide : 5 + 0 ≤ _), (by decide : 25 + 0 ≤ _)⟩)
    dsimp only [Pt.U, Pt.locs, Pt.cells, Pt.slots] at X75 l75 y75 z75 st75 hQ75
    subst l75 y75 z75
    obtain ⟨hv75, N75q, e75q⟩ := hQ75
    have N75 := Fr.app N69 N75q
    have hkr := own_min2 p2
    obtain ⟨kk, e_kk⟩ : ∃ z : Int32, z = (if (2 : Int32) < (p2 &&& (3 : Int32)) then (2 : Int32) else (p2 &&& (3 : Int32))) := ⟨_, rfl⟩
    rw [← e_kk] at hv75 hkr
    clear e_kk
    subst hv75
    have pre76 : ∀ t_, Go p e below T75 (mkF m 75 #[iv p1, iv p2, iv p3, iv 2, rv b2, rv b3, rv b5, rv b8, iv kk, .unset, .unset, .unset] []) t_ → Go p e below s₁ (entryFrame m #[(.int p1), (.int p2), (.int p3)] maxLocals) t_ := fun t_ kt => pre23 _ (by
        show Go p e below T12 (mkF m 31 #[iv p1, iv p2, iv p3, iv 2, rv b2, rv b3, rv b5, rv b8, .unset, .unset, .unset, .unset] []) _
        refine XS.iloadN X12.here hx rfl (hb hby at_31) rfl ?_
        show Go p e below T12 (mkF m 32 #[iv p1, iv p2, iv p3, iv 2, rv b2, rv b3, rv b5, rv b8, .unset, .unset, .unset, .unset] [(.int 2)]) _
        refine XS.ifNo X12.here hx rfl (hb hby at_32) rfl ((if0 _ _).trans (tlt ((by decide) : (0 : Int32) < (2 : Int32))).2.2.2) ?_
        show Go p e below T12 (mkF m 35 #[iv p1, iv p2, iv p3, iv 2, rv b2, rv b3, rv b5, rv b8, .unset, .unset, .unset, .unset] []) _
        refine XS.aload X12.here hx rfl (hb hby at_35) rfl rfl ?_
        show Go p e below T12 (mkF m 37 #[iv p1, iv p2, iv p3, iv 2, rv b2, rv b3, rv b5, rv b8, .unset, .unset, .unset, .unset] [(.ref b8)]) _
        refine XS.aload X12.here hx rfl (hb hby at_37) rfl rfl ?_
        show Go p e below T12 (mkF m 39 #[iv p1, iv p2, iv p3, iv 2, rv b2, rv b3, rv b5, rv b8, .unset, .unset, .unset, .unset] [(.ref b2), (.ref b8)]) _
        refine st63.trans ?_
        show Go p e below T63 (mkF m 42 #[iv p1, iv p2, iv p3, iv 2, rv b2, rv b3, rv b5, rv b8, .unset, .unset, .unset, .unset] []) _
        refine XS.iloadN X63.here hx rfl (hb hby at_42) rfl ?_
        show Go p e below T63 (mkF m 43 #[iv p1, iv p2, iv p3, iv 2, rv b2, rv b3, rv b5, rv b8, .unset, .unset, .unset, .unset] [(.int 2)]) _
        refine XS.iconst X63.here hx rfl (hb hby at_43) ?_
        show Go p e below T63 (mkF m 44 #[iv p1, iv p2, iv p3, iv 2, rv b2, rv b3, rv b5, rv b8, .unset, .unset, .unset, .unset] [(.int 1), (.int 2)]) _
        refine XS.icmpNo X63.here hx rfl (hb hby at_44) rfl (tlt ((by decide) : (1 : Int32) < (2 : Int32))).2.2.2 ?_
        show Go p e below T63 (mkF m 47 #[iv p1, iv p2, iv p3, iv 2, rv b2, rv b3, rv b5, rv b8, .unset, .unset, .unset, .unset] []) _
        refine XS.aload X63.here hx rfl (hb hby at_47) rfl rfl ?_
        show Go p e below T63 (mkF m 49 #[iv p1, iv p2, iv p3, iv 2, rv b2, rv b3, rv b5, rv b8, .unset, .unset, .unset, .unset] [(.ref b8)]) _
        refine XS.aload X63.here hx rfl (hb hby at_49) rfl rfl ?_
        show Go p e below T63 (mkF m 51 #[iv p1, iv p2, iv p3, iv 2, rv b2, rv b3, rv b5, rv b8, .unset, .unset, .unset, .unset] [(.ref b3), (.ref b8)]) _
        refine st69.trans ?_
        show Go p e below T69 (mkF m 54 #[iv p1, iv p2, iv p3, iv 2, rv b2, rv b3, rv b5, rv b8, .unset, .unset, .unset, .unset] []) _
        refine XS.iloadN X69.here hx rfl (hb hby at_54) rfl ?_
        show Go p e below T69 (mkF m 55 #[iv p1, iv p2, iv p3, iv 2, rv b2, rv b3, rv b5, rv b8, .unset, .unset, .unset, .unset] [(.int 2)]) _
        refine XS.iconst X69.here hx rfl (hb hby at_55) ?_
        show Go p e below T69 (mkF m 56 #[iv p1, iv p2, iv p3, iv 2, rv b2, rv b3, rv b5, rv b8, .unset, .unset, .unset, .unset] [(.int 2), (.int 2)]) _
        refine XS.icmpYes X69.here hx rfl (pc0 := 56) (pc' := 66) rfl (hb hby at_56) rfl (flt ((by decide) : ¬ ((2 : Int32) < (2 : Int32)))).2.2.2 (by decide) (by decide) ?_
        show Go p e below T69 (mkF m 66 #[iv p1, iv p2, iv p3, iv 2, rv b2, rv b3, rv b5, rv b8, .unset, .unset, .unset, .unset] []) _
        refine XS.iloadN X69.here hx rfl (hb hby at_66) rfl ?_
        show Go p e below T69 (mkF m 67 #[iv p1, iv p2, iv p3, iv 2, rv b2, rv b3, rv b5, rv b8, .unset, .unset, .unset, .unset] [(.int p2)]) _
        refine XS.iconst X69.here hx rfl (hb hby at_67) ?_
        show Go p e below T69 (mkF m 68 #[iv p1, iv p2, iv p3, iv 2, rv b2, rv b3, rv b5, rv b8, .unset, .unset, .unset, .unset] [(.int 3), (.int p2)]) _
        refine XS.iand X69.here hx rfl (hb hby at_68) rfl ?_
        show Go p e below T69 (mkF m 69 #[iv p1, iv p2, iv p3, iv 2, rv b2, rv b3, rv b5, rv b8, .unset, .unset, .unset, .unset] [(.int (p2 &&& (3 : Int32)))]) _
        refine XS.iloadN X69.here hx rfl (hb hby at_69) rfl ?_
        show Go p e below T69 (mkF m 70 #[iv p1, iv p2, iv p3, iv 2, rv b2, rv b3, rv b5, rv b8, .unset, .unset, .unset, .unset] [(.int 2), (.int (p2 &&& (3 : Int32)))]) _
        refine st75 _ ?_
        show Go p e below T75 (mkF m 73 #[iv p1, iv p2, iv p3, iv 2, rv b2, rv b3, rv b5, rv b8, .unset, .unset, .unset, .unset] [(.int kk)]) _
        refine XS.istore X75.here hx rfl (hb hby at_73) rfl (l' := #[iv p1, iv p2, iv p3, iv 2, rv b2, rv b3, rv b5, rv b8, iv kk, .unset, .unset, .unset]) rfl ?_
        show Go p e below T75 (mkF m 75 #[iv p1, iv p2, iv p3, iv 2, rv b2, rv b3, rv b5, rv b8, iv kk, .unset, .unset, .unset] []) _
        exact kt)
    rcases hkr with rfl | rfl | rfl
    · obtain ⟨cq77, kq77, q77a, q77b, q77c⟩ := isOf hZ e75q E_69
      obtain ⟨_, _, ⟨T77, L77, k77, n77⟩, -, X77, ⟨Lc77, hQ77, l77, y77, z77⟩, st77⟩ := X75.virtualBack hx (y := (⟨"com/example/rowmotif/rowmotif/matcher/PartitionRows", "release", "(I)V"⟩ : MethodName)) (z := (⟨"com/example/rowmotif/rowmotif/matcher/PartitionRows", "release", "(I)V"⟩ : MethodName)) hown (mvT hZ (hwi hw 19 rfl)) (mvT hZ (hwi hw 20 rfl)) (notFace_of_selects (args := #[]) (mvT hZ (hwi hw 22 rfl))) (mvT hZ (hwi hw 22 rfl)) (mvT hZ (hwi hw 21 rfl)) (by decide) (backOf (W := 0) (rmR0 l Z a0 hw [] b8 (0 : Int32) (0 : Int32) T69.heap n0 (Nat.le_trans Z0 K70.1) R69.2.2.2.2.1 (by decide)) hZ (hwi hw 23 rfl) (hwi hw 4 rfl) (by decide) (by decide)) q77a q77c (g := (mkF m 79 #[iv p1, iv p2, iv p3, iv 2, rv b2, rv b3, rv b5, rv b8, iv 0, .unset, .unset, .unset] [(.int 0), (.ref b8)])) rfl (by rw [hml]; rfl) (Steps.refl _) (argsL := [(.int 0)]) (rest := []) (lenOf pd_2 rfl) rfl (by show 2 * 0 + _ ≤ _; exact Nat.le_of_eq rfl) (hb hby at_79) (fun _ _ => ⟨rfl, e75q, (by decide : 5 + 0 ≤ _), (by decide : 25 + 0 ≤ _)⟩)
      dsimp only [Pt.U, Pt.locs, Pt.cells, Pt.slots] at X77 l77 y77 z77 st77 hQ77
      subst l77 y77 z77
      obtain ⟨rfl, N77q, e77q⟩ := hQ77
      have N77 := Fr.app N75 N77q
      obtain ⟨_, _, ⟨T78, L78, k78, n78⟩, -, X78, ⟨Lc78, hQ78, l78, y78, z78⟩, st78⟩ := Jvm.LawKit.callS X77 hx (y := (⟨"java/lang/Math", "min", "(II)I"⟩ : MethodName)) hown (mvT hZ (hwi hw 15 rfl)) (mvT hZ (hwi hw 16 rfl)) (mvT hZ (hwi hw 17 rfl)) (mvT hZ (hwi hw 18 rfl)) (by decide) (backOf (W := 0) (rmMin l Z a0 hw [] p3 (2 : Int32) T69.heap n0 (Nat.le_trans Z0 K70.1)) hZ (hwi hw 18 rfl) (hwi hw 17 rfl) (by decide) (by decide)) (g := (mkF m 84 #[iv p1, iv p2, iv p3, iv 2, rv b2, rv b3, rv b5, rv b8, iv 0, .unset, .unset, .unset] [(.int 2), (.int p3)])) rfl (by rw [hml]; rfl) (argsL := [(.int p3), (.int 2)]) (rest := []) (lenOf pd_1 rfl) rfl (by show 2 * 0 + _ ≤ _; exact Nat.le_of_eq rfl) (hb hby at_84) (fun _ _ => ⟨rfl, e77q, (by decide : 5 + 0 ≤ _), (by decide : 25 + 0 ≤ _)⟩)
      dsimp only [Pt.U, Pt.locs, Pt.cells, Pt.slots] at X78 l78 y78 z78 st78 hQ78
      subst l78 y78 z78
      obtain ⟨hv78, N78q, e78q⟩ := hQ78
      have N78 := Fr.app N77 N78q
      have hbn := own_minle p3 (2 : Int32)
      obtain ⟨bb, e_bb⟩ : ∃ z : Int32, z = (if (2 : Int32) < p3 then (2 : Int32) else p3) := ⟨_, rfl⟩
      rw [← e_bb] at hv78 hbn
      clear e_bb
      subst hv78
      have pre79 : ∀ t_, Go p e below T78 (mkF m 89 #[iv p1, iv p2, iv p3, iv 2, rv b2, rv b3, rv b5, rv b8, iv 0, iv bb, .unset, .unset] []) t_ → Go p e below s₁ (entryFrame m #[(.int p1), (.int p2), (.int p3)] maxLocals) t_ := fun t_ kt => pre76 _ (by
          show Go p e below T75 (mkF m 75 #[iv p1, iv p2, iv p3, iv 2, rv b2, rv b3, rv b5, rv b8, iv 0, .unset, .unset, .unset] []) _
          refine XS.aload X75.here hx rfl (hb hby at_75) rfl rfl ?_
          show Go p e below T75 (mkF m 77 #[iv p1, iv p2, iv p3, iv 2, rv b2, rv b3, rv b5, rv b8, iv 0, .unset, .unset, .unset] [(.ref b8)]) _
          refine XS.iload X75.here hx rfl (hb hby at_77) rfl ?_
          show Go p e below T75 (mkF m 79 #[iv p1, iv p2, iv p3, iv 2, rv b2, rv b3, rv b5, rv b8, iv 0, .unset, .unset, .unset] [(.int 0), (.ref b8)]) _
          refine st77.trans ?_
          show Go p e below T77 (mkF m 82 #[iv p1, iv p2, iv p3, iv 2, rv b2, rv b3, rv b5, rv b8, iv 0, .unset, .unset, .unset] []) _
          refine XS.iloadN X77.here hx rfl (hb hby at_82) rfl ?_
          show Go p e below T77 (mkF m 83 #[iv p1, iv p2, iv p3, iv 2, rv b2, rv b3, rv b5, rv b8, iv 0, .unset, .unset, .unset] [(.int p3)]) _
          refine XS.iloadN X77.here hx rfl (hb hby at_83) rfl ?_
          show Go p e below T77 (mkF m 84 #[iv p1, iv p2, iv p3, iv 2, rv b2, rv b3, rv b5, rv b8, iv 0, .unset, .unset, .unset] [(.int 2), (.int p3)]) _
          refine st78 _ ?_
          show Go p e below T78 (mkF m 87 #[iv p1, iv p2, iv p3, iv 2, rv b2, rv b3, rv b5, rv b8, iv 0, .unset, .unset, .unset] [(.int bb)]) _
          refine XS.istore X78.here hx rfl (hb hby at_87) rfl (l' := #[iv p1, iv p2, iv p3, iv 2, rv b2, rv b3, rv b5, rv b8, iv 0, iv bb, .unset, .unset]) rfl ?_
          show Go p e below T78 (mkF m 89 #[iv p1, iv p2, iv p3, iv 2, rv b2, rv b3, rv b5, rv b8, iv 0, iv bb, .unset, .unset] []) _
          exact kt)
      by_cases hkb : (0 : Int32) < bb
      · rcases own_btw0_2 hkb hbn with rfl | rfl
        · obtain ⟨cq80, kq80, q80a, q80b, q80c⟩ := isOf hZ e78q E_69
          obtain ⟨_, _, ⟨T80, L80, k80, n80⟩, -, X80, ⟨Lc80, hQ80, l80, y80, z80⟩, st80⟩ := X78.virtualBack hx (y := (⟨"com/example/rowmotif/rowmotif/matcher/PartitionRows", "release", "(I)V"⟩ : MethodName)) (z := (⟨"com/example/rowmotif/rowmotif/matcher/PartitionRows", "release", "(I)V"⟩ : MethodName)) hown (mvT hZ (hwi hw 19 rfl)) (mvT hZ (hwi hw 20 rfl)) (notFace_of_selects (args := #[]) (mvT hZ (hwi hw 22 rfl))) (mvT hZ (hwi hw 22 rfl)) (mvT hZ (hwi hw 21 rfl)) (by decide) (backOf (W := 0) (rmR0_2_1 l Z a0 hw [] b8 rg12 kr12 (.ref b2) (.ref b3) .null T69.heap n0 (Nat.le_trans Z0 K70.1) R69 g_b8 gr12) hZ (hwi hw 23 rfl) (hwi hw 4 rfl) (by decide) (by decide)) q80a q80c (g := (mkF m 93 #[iv p1, iv p2, iv p3, iv 2, rv b2, rv b3, rv b5, rv b8, iv 0, iv 1, .unset, .unset] [(.int 1), (.ref b8)])) rfl (by rw [hml]; rfl) (Steps.refl _) (argsL := [(.int 1)]) (rest := []) (lenOf pd_2 rfl) rfl (by show 2 * 0 + _ ≤ _; exact Nat.le_of_eq rfl) (hb hby at_93) (fun _ _ => ⟨rfl, e78q, (by decide : 5 + 0 ≤ _), (by decide : 25 + 0 ≤ _)⟩)
          dsimp only [Pt.U, Pt.locs, Pt.cells, Pt.slots] at X80 l80 y80 z80 st80 hQ80
          subst l80 y80 z80
          obtain ⟨rfl, N80q, kc80, R80⟩ := hQ80
          have N80 := Fr.app N78 N80q
          have K81 : Keep h0 T80.heap [] := K70.trans kc80 (allS (Or.inr sz_b8) (allS (Or.inr szr) all0))
          have f82 := f71.keep kc80
          have f83 := f72.keep kc80
          have f84 := f73.keep kc80
          have f85 := E_69.keep kc80
          have E_80 := R80.1
          obtain ⟨_, _, ⟨T86, L86, k86, n86⟩, -, X86, ⟨Lc86, hQ86, l86, y86, z86⟩, st86⟩ := Jvm.LawKit.callS X80 hx (y := (⟨"java/lang/Math", "max", "(II)I"⟩ : MethodName)) hown (mvT hZ (hwi hw 26 rfl)) (mvT hZ (hwi hw 27 rfl)) (mvT hZ (hwi hw 17 rfl)) (mvT hZ (hwi hw 28 rfl)) (by decide) (backOf (W := 0) (rmMax l Z a0 hw [] (0 : Int32) (1 : Int32) T80.heap n0 (Nat.le_trans Z0 K81.1)) hZ (hwi hw 28 rfl) (hwi hw 17 rfl) (by decide) (by decide)) (g := (mkF m 100 #[iv p1, iv p2, iv p3, iv 2, rv b2, rv b3, rv b5, rv b8, iv 0, iv 1, .unset, .unset] [(.int 1), (.int 0)])) rfl (by rw [hml]; rfl) (argsL := [(.int 0), (.int 1)]) (rest := []) (lenOf pd_1 rfl) rfl (by show 2 * 0 + _ ≤ _; exact Nat.le_of_eq rfl) (hb hby at_100) (fun _ _ => ⟨rfl, rfl, (by decide : 5 + 0 ≤ _), (by decide : 25 + 0 ≤ _)⟩)
          dsimp only [Pt.U, Pt.locs, Pt.cells, Pt.slots] at X86 l86 y86 z86 st86 hQ86
          subst l86 y86 z86
          obtain ⟨hv86, N86q, e86q⟩ := hQ86
          have N86 := Fr.app N80 N86q
          rw [show (if (0 : Int32) < (1 : Int32) then (1 : Int32) else (0 : Int32)) = (1 : Int32) from by decide] at hv86
          subst hv86
          have pre87 : ∀ t_, Go p e below T86 (mkF m 105 #[iv p1, iv p2, iv p3, iv 2, rv b2, rv b3, rv b5, rv b8, iv 0, iv 1, iv 1, .unset] []) t_ → Go p e below s₁ (entryFrame m #[(.int p1), (.int p2), (.int p3)] maxLocals) t_ := fun t_ kt => pre79 _ (by
              show Go p e below T78 (mkF m 89 #[iv p1, iv p2, iv p3, iv 2, rv b2, rv b3, rv b5, rv b8, iv 0, iv 1, .unset, .unset] []) _
              refine XS.aload X78.here hx rfl (hb hby at_89) rfl rfl ?_
              show Go p e below T78 (mkF m 91 #[iv p1, iv p2, iv p3, iv 2, rv b2, rv b3, rv b5, rv b8, iv 0, iv 1, .unset, .unset] [(.ref b8)]) _
              refine XS.iload X78.here hx rfl (hb hby at_91) rfl ?_
              show Go p e below T78 (mkF m 93 #[iv p1, iv p2, iv p3, iv 2, rv b2, rv b3, rv b5, rv b8, iv 0, iv 1, .unset, .unset] [(.int 1), (.ref b8)]) _
              refine st80.trans ?_
              show Go p e below T80 (mkF m 96 #[iv p1, iv p2, iv p3, iv 2, rv b2, rv b3, rv b5, rv b8, iv 0, iv 1, .unset, .unset] []) _
              refine XS.iload X80.here hx rfl (hb hby at_96) rfl ?_
              show Go p e below T80 (mkF m 98 #[iv p1, iv p2, iv p3, iv 2, rv b2, rv b3, rv b5, rv b8, iv 0, iv 1, .unset, .unset] [(.int 0)]) _
              refine XS.iload X80.here hx rfl (hb hby at_98) rfl ?_
              show Go p e below T80 (mkF m 100 #[iv p1, iv p2, iv p3, iv 2, rv b2, rv b3, rv b5, rv b8, iv 0, iv 1, .unset, .unset] [(.int 1), (.int 0)]) _
              refine st86 _ ?_
              show Go p e below T86 (mkF m 103 #[iv p1, iv p2, iv p3, iv 2, rv b2, rv b3, rv b5, rv b8, iv 0, iv 1, .unset, .unset] [(.int 1)]) _
              refine XS.istore X86.here hx rfl (hb hby at_103) rfl (l' := #[iv p1, iv p2, iv p3, iv 2, rv b2, rv b3, rv b5, rv b8, iv 0, iv 1, iv 1, .unset]) rfl ?_
              show Go p e below T86 (mkF m 105 #[iv p1, iv p2, iv p3, iv 2, rv b2, rv b3, rv b5, rv b8, iv 0, iv 1, iv 1, .unset] []) _
              exact kt)
          obtain ⟨s₂, o₂, hs1, hs2, hs3, hs4⟩ := tl2_1 p1 p2 p3 (0 : Int32) (1 : Int32) b8 b2 b3 b5 rg12 kr12 T80.heap n0 X86 hx hZ hw hby hml hown Bd.returns Bd.notSynchronized e86q N86 (Nat.le_trans Z0 K81.1) R80
          exact ⟨s₂, o₂, pre87 _ hs1, hs2, hs3, hs4⟩
        · obtain ⟨cq88, kq88, q88a, q88b, q88c⟩ := isOf hZ e78q E_69
          obtain ⟨_, _, ⟨T88, L88, k88, n88⟩, -, X88, ⟨Lc88, hQ88, l88, y88, z88⟩, st88⟩ := X78.virtualBack hx (y := (⟨"com/example/rowmotif/rowmotif/matcher/PartitionRows", "release", "(I)V"⟩ : MethodName)) (z := (⟨"com/example/rowmotif/rowmotif/matcher/PartitionRows", "release", "(I)V"⟩ : MethodName)) hown (mvT hZ (hwi hw 19 rfl)) (mvT hZ (hwi hw 20 rfl)) (notFace_of_selects (args := #[]) (mvT hZ (hwi hw 22 rfl))) (mvT hZ (hwi hw 22 rfl)) (mvT hZ (hwi hw 21 rfl)) (by decide) (backOf (W := 0) (rmR0_2_2 l Z a0 hw [] b8 rg12 kr12 (.ref b2) (.ref b3) .null T69.heap n0 (Nat.le_trans Z0 K70.1) R69 g_b8 gr12) hZ (hwi hw 23 rfl) (hwi hw 4 rfl) (by decide) (by decide)) q88a q88c (g := (mkF m 93 #[iv p1, iv p2, iv p3, iv 2, rv b2, rv b3, rv b5, rv b8, iv 0, iv 2, .unset, .unset] [(.int 2), (.ref b8)])) rfl (by rw [hml]; rfl) (Steps.refl _) (argsL := [(.int 2)]) (rest := []) (lenOf pd_2 rfl) rfl (by show 2 * 0 + _ ≤ _; exact Nat.le_of_eq rfl) (hb hby at_93) (fun _ _ => ⟨rfl, e78q, (by decide : 5 + 0 ≤ _), (by decide : 25 + 0 ≤ _)⟩)
          dsimp only [Pt.U, Pt.locs, Pt.cells, Pt.slots] at X88 l88 y88 z88 st88 hQ88
          subst l88 y88 z88
          obtain ⟨rfl, N88q, kc88, R88⟩ := hQ88
          have N88 := Fr.app N78 N88q
          have K89 : Keep h0 T88.heap [] := K70.trans kc88 (allS (Or.inr sz_b8) (allS (Or.inr szr) all0))
          have f90 := f71.keep kc88
          have f91 := f72.keep kc88
          have f92 := f73.keep kc88
          have f93 := E_69.keep kc88
          have E_88 := R88.1
          obtain ⟨_, _, ⟨T94, L94, k94, n94⟩, -, X94, ⟨Lc94, hQ94, l94, y94, z94⟩, st94⟩ := Jvm.LawKit.callS X88 hx (y := (⟨"java/lang/Math", "max", "(II)I"⟩ : MethodName)) hown (mvT hZ (hwi hw 26 rfl)) (mvT hZ (hwi hw 27 rfl)) (mvT hZ (hwi hw 17 rfl)) (mvT hZ (hwi hw 28 rfl)) (by decide) (backOf (W := 0) (rmMax l Z a0 hw [] (0 : Int32) (2 : Int32) T88.heap n0 (Nat.le_trans Z0 K89.1)) hZ (hwi hw 28 rfl) (hwi hw 17 rfl) (by decide) (by decide)) (g := (mkF m 100 #[iv p1, iv p2, iv p3, iv 2, rv b2, rv b3, rv b5, rv b8, iv 0, iv 2, .unset, .unset] [(.int 2), (.int 0)])) rfl (by rw [hml]; rfl) (argsL := [(.int 0), (.int 2)]) (rest := []) (lenOf pd_1 rfl) rfl (by show 2 * 0 + _ ≤ _; exact Nat.le_of_eq rfl) (hb hby at_100) (fun _ _ => ⟨rfl, rfl, (by decide : 5 + 0 ≤ _), (by decide : 25 + 0 ≤ _)⟩)
          dsimp only [Pt.U, Pt.locs, Pt.cells, Pt.slots] at X94 l94 y94 z94 st94 hQ94
          subst l94 y94 z94
          obtain ⟨hv94, N94q, e94q⟩ := hQ94
          have N94 := Fr.app N88 N94q
          rw [show (if (0 : Int32) < (2 : Int32) then (2 : Int32) else (0 : Int32)) = (2 : Int32) from by decide] at hv94
          subst hv94
          have pre95 : ∀ t_, Go p e below T94 (mkF m 105 #[iv p1, iv p2, iv p3, iv 2, rv b2, rv b3, rv b5, rv b8, iv 0, iv 2, iv 2, .unset] []) t_ → Go p e below s₁ (entryFrame m #[(.int p1), (.int p2), (.int p3)] maxLocals) t_ := fun t_ kt => pre79 _ (by
              show Go p e below T78 (mkF m 89 #[iv p1, iv p2, iv p3, iv 2, rv b2, rv b3, rv b5, rv b8, iv 0, iv 2, .unset, .unset] []) _
              refine XS.aload X78.here hx rfl (hb hby at_89) rfl rfl ?_
              show Go p e below T78 (mkF m 91 #[iv p1, iv p2, iv p3, iv 2, rv b2, rv b3, rv b5, rv b8, iv 0, iv 2, .unset, .unset] [(.ref b8)]) _
              refine XS.iload X78.here hx rfl (hb hby at_91) rfl ?_
              show Go p e below T78 (mkF m 93 #[iv p1, iv p2, iv p3, iv 2, rv b2, rv b3, rv b5, rv b8, iv 0, iv 2, .unset, .unset] [(.int 2), (.ref b8)]) _
              refine st88.trans ?_
              show Go p e below T88 (mkF m 96 #[iv p1, iv p2, iv p3, iv 2, rv b2, rv b3, rv b5, rv b8, iv 0, iv 2, .unset, .unset] []) _
              refine XS.iload X88.here hx rfl (hb hby at_96) rfl ?_
              show Go p e below T88 (mkF m 98 #[iv p1, iv p2, iv p3, iv 2, rv b2, rv b3, rv b5, rv b8, iv 0, iv 2, .unset, .unset] [(.int 0)]) _
              refine XS.iload X88.here hx rfl (hb hby at_98) rfl ?_
              show Go p e below T88 (mkF m 100 #[iv p1, iv p2, iv p3, iv 2, rv b2, rv b3, rv b5, rv b8, iv 0, iv 2, .unset, .unset] [(.int 2), (.int 0)]) _
              refine st94 _ ?_
              show Go p e below T94 (mkF m 103 #[iv p1, iv p2, iv p3, iv 2, rv b2, rv b3, rv b5, rv b8, iv 0, iv 2, .unset, .unset] [(.int 2)]) _
              refine XS.istore X94.here hx rfl (hb hby at_103) rfl (l' := #[iv p1, iv p2, iv p3, iv 2, rv b2, rv b3, rv b5, rv b8, iv 0, iv 2, iv 2, .unset]) rfl ?_
              show Go p e below T94 (mkF m 105 #[iv p1, iv p2, iv p3, iv 2, rv b2, rv b3, rv b5, rv b8, iv 0, iv 2, iv 2, .unset] []) _
              exact kt)
          obtain ⟨s₂, o₂, hs1, hs2, hs3, hs4⟩ := tl2_2 p1 p2 p3 (0 : Int32) (2 : Int32) b8 b2 b3 b5 rg12 kr12 T88.heap n0 X94 hx hZ hw hby hml hown Bd.returns Bd.notSynchronized e94q N94 (Nat.le_trans Z0 K89.1) R88
          exact ⟨s₂, o₂, pre95 _ hs1, hs2, hs3, hs4⟩
      · obtain ⟨cq96, kq96, q96a, q96b, q96c⟩ := isOf hZ e78q E_69
        obtain ⟨_, _, ⟨T96, L96, k96, n96⟩, -, X96, ⟨Lc96, hQ96, l96, y96, z96⟩, st96⟩ := X78.virtualBack hx (y := (⟨"com/example/rowmotif/rowmotif/matcher/PartitionRows", "release", "(I)V"⟩ : MethodName)) (z := (⟨"com/example/rowmotif/rowmotif/matcher/PartitionRows", "release", "(I)V"⟩ : MethodName)) hown (mvT hZ (hwi hw 19 rfl)) (mvT hZ (hwi hw 20 rfl)) (notFace_of_selects (args := #[]) (mvT hZ (hwi hw 22 rfl))) (mvT hZ (hwi hw 22 rfl)) (mvT hZ (hwi hw 21 rfl)) (by decide) (backOf (W := 0) (rmR0 l Z a0 hw [] b8 bb (0 : Int32) T69.heap n0 (Nat.le_trans Z0 K70.1) R69.2.2.2.2.1 hkb) hZ (hwi hw 23 rfl) (hwi hw 4 rfl) (by decide) (by decide)) q96a q96c (g := (mkF m 93 #[iv p1, iv p2, iv p3, iv 2, rv b2, rv b3, rv b5, rv b8, iv 0, iv bb, .unset, .unset] [(.int bb), (.ref b8)])) rfl (by rw [hml]; rfl) (Steps.refl _) (argsL := [(.int bb)]) (rest := []) (lenOf pd_2 rfl) rfl (by show 2 * 0 + _ ≤ _; exact Nat.le_of_eq rfl) (hb hby at_93) (fun _ _ => ⟨rfl, e78q, (by decide : 5 + 0 ≤ _), (by decide : 25 + 0 ≤ _)⟩)
        dsimp only [Pt.U, Pt.locs, Pt.cells, Pt.slots] at X96 l96 y96 z96 st96 hQ96
        subst l96 y96 z96
        obtain ⟨rfl, N96q, e96q⟩ := hQ96
        have N96 := Fr.app N78 N96q
        obtain ⟨_, _, ⟨T97, L97, k97, n97⟩, -, X97, ⟨Lc97, hQ97, l97, y97, z97⟩, st97⟩ := Jvm.LawKit.callS X96 hx (y := (⟨"java/lang/Math", "max", "(II)I"⟩ : MethodName)) hown (mvT hZ (hwi hw 26 rfl)) (mvT hZ (hwi hw 27 rfl)) (mvT hZ (hwi hw 17 rfl)) (mvT hZ (hwi hw 28 rfl)) (by decide) (backOf (W := 0) (rmMax l Z a0 hw [] (0 : Int32) bb T69.heap n0 (Nat.le_trans Z0 K70.1)) hZ (hwi hw 28 rfl) (hwi hw 17 rfl) (by decide) (by decide)) (g := (mkF m 100 #[iv p1, iv p2, iv p3, iv 2, rv b2, rv b3, rv b5, rv b8, iv 0, iv bb, .unset, .unset] [(.int bb), (.int 0)])) rfl (by rw [hml]; rfl) (argsL := [(.int 0), (.int bb)]) (rest := []) (lenOf pd_1 rfl) rfl (by show 2 * 0 + _ ≤ _; exact Nat.le_of_eq rfl) (hb hby at_100) (fun _ _ => ⟨rfl, e96q, (by decide : 5 + 0 ≤ _), (by decide : 25 + 0 ≤ _)⟩)
        dsimp only [Pt.U, Pt.locs, Pt.cells, Pt.slots] at X97 l97 y97 z97 st97 hQ97
        subst l97 y97 z97
        obtain ⟨hv97, N97q, e97q⟩ := hQ97
        have N97 := Fr.app N96 N97q
        rw [if_neg hkb] at hv97
        subst hv97
        have pre98 : ∀ t_, Go p e below T97 (mkF m 105 #[iv p1, iv p2, iv p3, iv 2, rv b2, rv b3, rv b5, rv b8, iv 0, iv bb, iv 0, .unset] []) t_ → Go p e below s₁ (entryFrame m #[(.int p1), (.int p2), (.int p3)] maxLocals) t_ := fun t_ kt => pre79 _ (by
            show Go p e below T78 (mkF m 89 #[iv p1, iv p2, iv p3, iv 2, rv b2, rv b3, rv b5, rv b8, iv 0, iv bb, .unset, .unset] []) _
            refine XS.aload X78.here hx rfl (hb hby at_89) rfl rfl ?_
            show Go p e below T78 (mkF m 91 #[iv p1, iv p2, iv p3, iv 2, rv b2, rv b3, rv b5, rv b8, iv 0, iv bb, .unset, .unset] [(.ref b8)]) _
            refine XS.iload X78.here hx rfl (hb hby at_91) rfl ?_
            show Go p e below T78 (mkF m 93 #[iv p1, iv p2, iv p3, iv 2, rv b2, rv b3, rv b5, rv b8, iv 0, iv bb, .unset, .unset] [(.int bb), (.ref b8)]) _
            refine st96.trans ?_
            show Go p e below T96 (mkF m 96 #[iv p1, iv p2, iv p3, iv 2, rv b2, rv b3, rv b5, rv b8, iv 0, iv bb, .unset, .unset] []) _
            refine XS.iload X96.here hx rfl (hb hby at_96) rfl ?_
            show Go p e below T96 (mkF m 98 #[iv p1, iv p2, iv p3, iv 2, rv b2, rv b3, rv b5, rv b8, iv 0, iv bb, .unset, .unset] [(.int 0)]) _
            refine XS.iload X96.here hx rfl (hb hby at_98) rfl ?_
            show Go p e below T96 (mkF m 100 #[iv p1, iv p2, iv p3, iv 2, rv b2, rv b3, rv b5, rv b8, iv 0, iv bb, .unset, .unset] [(.int bb), (.int 0)]) _
            refine st97 _ ?_
            show Go p e below T97 (mkF m 103 #[iv p1, iv p2, iv p3, iv 2, rv b2, rv b3, rv b5, rv b8, iv 0, iv bb, .unset, .unset] [(.int 0)]) _
            refine XS.istore X97.here hx rfl (hb hby at_103) rfl (l' := #[iv p1, iv p2, iv p3, iv 2, rv b2, rv b3, rv b5, rv b8, iv 0, iv bb, iv 0, .unset]) rfl ?_
            show Go p e below T97 (mkF m 105 #[iv p1, iv p2, iv p3, iv 2, rv b2, rv b3, rv b5, rv b8, iv 0, iv bb, iv 0, .unset] []) _
            exact kt)
        obtain ⟨s₂, o₂, hs1, hs2, hs3, hs4⟩ := tl2_0 p1 p2 p3 (0 : Int32) bb b8 b2 b3 b5 rg12 kr12 T69.heap n0 X97 hx hZ hw hby hml hown Bd.returns Bd.notSynchronized e97q N97 (Nat.le_trans Z0 K70.1) R69
        exact ⟨s₂, o₂, pre98 _ hs1, hs2, hs3, hs4⟩
    · obtain ⟨cq99, kq99, q99a, q99b, q99c⟩ := isOf hZ e75q E_69
      obtain ⟨_, _, ⟨T99, L99, k99, n99⟩, -, X99, ⟨Lc99, hQ99, l99, y99, z99⟩, st99⟩ := X75.virtualBack hx (y := (⟨"com/example/rowmotif/rowmotif/matcher/PartitionRows", "release", "(I)V"⟩ : MethodName)) (z := (⟨"com/example/rowmotif/rowmotif/matcher/PartitionRows", "release", "(I)V"⟩ : MethodName)) hown (mvT hZ (hwi hw 19 rfl)) (mvT hZ (hwi hw 20 rfl)) (notFace_of_selects (args := #[]) (mvT hZ (hwi hw 22 rfl))) (mvT hZ (hwi hw 22 rfl)) (mvT hZ (hwi hw 21 rfl)) (by decide) (backOf (W := 0) (rmR0_2_1 l Z a0 hw [] b8 rg12 kr12 (.ref b2) (.ref b3) .null T69.heap n0 (Nat.le_trans Z0 K70.1) R69 g_b8 gr12) hZ (hwi hw 23 rfl) (hwi hw 4 rfl) (by decide) (by decide)) q99a q99c (g := (mkF m 79 #[iv p1, iv p2, iv p3, iv 2, rv b2, rv b3, rv b5, rv b8, iv 1, .unset, .unset, .unset] [(.int 1), (.ref b8)])) rfl (by rw [hml]; rfl) (Steps.refl _) (argsL := [(.int 1)]) (rest := []) (lenOf pd_2 rfl) rfl (by show 2 * 0 + _ ≤ _; exact Nat.le_of_eq rfl) (hb hby at_79) (fun _ _ => ⟨rfl, e75q, (by decide : 5 + 0 ≤ _), (by decide : 25 + 0 ≤ _)⟩)
      dsimp only [Pt.U, Pt.locs, Pt.cells, Pt.slots] at X99 l99 y99 z99 st99 hQ99
      subst l99 y99 z99
      obtain ⟨rfl, N99q, kc99, R99⟩ := hQ99
      have N99 := Fr.app N75 N99q
      have K100 : Keep h0 T99.heap [] := K70.trans kc99 (allS (Or.inr sz_b8) (allS (Or.inr szr) all0))
      have f101 := f71.keep kc99
      have f102 := f72.keep kc99
      have f103 := f73.keep kc99
      have f104 := E_69.keep kc99
      have E_99 := R99.1
      obtain ⟨_, _, ⟨T105, L105, k105, n105⟩, -, X105, ⟨Lc105, hQ105, l105, y105, z105⟩, st105⟩ := Jvm.LawKit.callS X99 hx (y := (⟨"java/lang/Math", "min", "(II)I"⟩ : MethodName)) hown (mvT hZ (hwi hw 15 rfl)) (mvT hZ (hwi hw 16 rfl)) (mvT hZ (hwi hw 17 rfl)) (mvT hZ (hwi hw 18 rfl)) (by decide) (backOf (W := 0) (rmMin l Z a0 hw [] p3 (2 : Int32) T99.heap n0 (Nat.le_trans Z0 K100.1)) hZ (hwi hw 18 rfl) (hwi hw 17 rfl) (by decide) (by decide)) (g := (mkF m 84 #[iv p1, iv p2, iv p3, iv 2, rv b2, rv b3, rv b5, rv b8, iv 1, .unset, .unset, .unset] [(.int 2), (.int p3)])) rfl (by rw [hml]; rfl) (argsL := [(.int p3), (.int 2)]) (rest := []) (lenOf pd_1 rfl) rfl (by show 2 * 0 + _ ≤ _; exact Nat.le_of_eq rfl) (hb hby at_84) (fun _ _ => ⟨rfl, rfl, (by decide : 5 + 0 ≤ _), (by decide : 25 + 0 ≤ _)⟩)
      dsimp only [Pt.U, Pt.locs, Pt.cells, Pt.slots] at X105 l105 y105 z105 st105 hQ105
      subst l105 y105 z105
      obtain ⟨hv105, N105q, e105q⟩ := hQ105
      have N105 := Fr.app N99 N105q
      have hbn := own_minle p3 (2 : Int32)
      obtain ⟨bb, e_bb⟩ : ∃ z : Int32, z = (if (2 : Int32) < p3 then (2 : Int32) else p3) := ⟨_, rfl⟩
      rw [← e_bb] at hv105 hbn
      clear e_bb
      subst hv105
      have pre106 : ∀ t_, Go p e below T105 (mkF m 89 #[iv p1, iv p2, iv p3, iv 2, rv b2, rv b3, rv b5, rv b8, iv 1, iv bb, .unset, .unset] []) t_ → Go p e below s₁ (entryFrame m #[(.int p1), (.int p2), (.int p3)] maxLocals) t_ := fun t_ kt => pre76 _ (by
          show Go p e below T75 (mkF m 75 #[iv p1, iv p2, iv p3, iv 2, rv b2, rv b3, rv b5, rv b8, iv 1, .unset, .unset, .unset] []) _
          refine XS.aload X75.here hx rfl (hb hby at_75) rfl rfl ?_
          show Go p e below T75 (mkF m 77 #[iv p1, iv p2, iv p3, iv 2, rv b2, rv b3, rv b5, rv b8, iv 1, .unset, .unset, .unset] [(.ref b8)]) _
          refine XS.iload X75.here hx rfl (hb hby at_77) rfl ?_
          show Go p e below T75 (mkF m 79 #[iv p1, iv p2, iv p3, iv 2, rv b2, rv b3, rv b5, rv b8, iv 1, .unset, .unset, .unset] [(.int 1), (.ref b8)]) _
          refine st99.trans ?_
          show Go p e below T99 (mkF m 82 #[iv p1, iv p2, iv p3, iv 2, rv b2, rv b3, rv b5, rv b8, iv 1, .unset, .unset, .unset] []) _
          refine XS.iloadN X99.here hx rfl (hb hby at_82) rfl ?_
          show Go p e below T99 (mkF m 83 #[iv p1, iv p2, iv p3, iv 2, rv b2, rv b3, rv b5, rv b8, iv 1, .unset, .unset, .unset] [(.int p3)]) _
          refine XS.iloadN X99.here hx rfl (hb hby at_83) rfl ?_
          show Go p e below T99 (mkF m 84 #[iv p1, iv p2, iv p3, iv 2, rv b2, rv b3, rv b5, rv b8, iv 1, .unset, .unset, .unset] [(.int 2), (.int p3)]) _
          refine st105 _ ?_
          show Go p e below T105 (mkF m 87 #[iv p1, iv p2, iv p3, iv 2, rv b2, rv b3, rv b5, rv b8, iv 1, .unset, .unset, .unset] [(.int bb)]) _
          refine XS.istore X105.here hx rfl (hb hby at_87) rfl (l' := #[iv p1, iv p2, iv p3, iv 2, rv b2, rv b3, rv b5, rv b8, iv 1, iv bb, .unset, .unset]) rfl ?_
          show Go p e below T105 (mkF m 89 #[iv p1, iv p2, iv p3, iv 2, rv b2, rv b3, rv b5, rv b8, iv 1, iv bb, .unset, .unset] []) _
          exact kt)
      by_cases hkb : (1 : Int32) < bb
      · rcases own_btw1_2 hkb hbn with rfl
        · obtain ⟨cq107, kq107, q107a, q107b, q107c⟩ := isOf hZ e105q E_99
          obtain ⟨_, _, ⟨T107, L107, k107, n107⟩, -, X107, ⟨Lc107, hQ107, l107, y107, z107⟩, st107⟩ := X105.virtualBack hx (y := (⟨"com/example/rowmotif/rowmotif/matcher/PartitionRows", "release", "(I)V"⟩ : MethodName)) (z := (⟨"com/example/rowmotif/rowmotif/matcher/PartitionRows", "release", "(I)V"⟩ : MethodName)) hown (mvT hZ (hwi hw 19 rfl)) (mvT hZ (hwi hw 20 rfl)) (notFace_of_selects (args := #[]) (mvT hZ (hwi hw 22 rfl))) (mvT hZ (hwi hw 22 rfl)) (mvT hZ (hwi hw 21 rfl)) (by decide) (backOf (W := 0) (rmR1_1_1 l Z a0 hw [] b8 rg12 kr12 .null (.ref b3) .null T99.heap n0 (Nat.le_trans Z0 K100.1) R99 g_b8 gr12) hZ (hwi hw 23 rfl) (hwi hw 4 rfl) (by decide) (by decide)) q107a q107c (g := (mkF m 93 #[iv p1, iv p2, iv p3, iv 2, rv b2, rv b3, rv b5, rv b8, iv 1, iv 2, .unset, .unset] [(.int 2), (.ref b8)])) rfl (by rw [hml]; rfl) (Steps.refl _) (argsL := [(.int 2)]) (rest := []) (lenOf pd_2 rfl) rfl (by show 2 * 0 + _ ≤ _; exact Nat.le_of_eq rfl) (hb hby at_93) (fun _ _ => ⟨rfl, e105q, (by decide : 5 + 0 ≤ _), (by decide : 25 + 0 ≤ _)⟩)
          dsimp only [Pt.U, Pt.locs, Pt.cells, Pt.slots] at X107 l107 y107 z107 st107 hQ107
          subst l107 y107 z107
          obtain ⟨rfl, N107q, kc107, R107⟩ := hQ107
          have N107 := Fr.app N105 N107q
          have K108 : Keep h0 T107.heap [] := K100.trans kc107 (allS (Or.inr sz_b8) (allS (Or.inr szr) all0))
          have f109 := f101.keep kc107
          have f110 := f102.keep kc107
          have f111 := f103.keep kc107
          have f112 := E_99.keep kc107
          have E_107 := R107.1
          obtain ⟨_, _, ⟨T113, L113, k113, n113⟩, -, X113, ⟨Lc113, hQ113, l113, y113, z113⟩, st113⟩ := Jvm.LawKit.callS X107 hx (y := (⟨"java/lang/Math", "max", "(II)I"⟩ : MethodName)) hown (mvT hZ (hwi hw 26 rfl)) (mvT hZ (hwi hw 27 rfl)) (mvT hZ (hwi hw 17 rfl)) (mvT hZ (hwi hw 28 rfl)) (by decide) (backOf (W := 0) (rmMax l Z a0 hw [] (1 : Int32) (2 : Int32) T107.heap n0 (Nat.le_trans Z0 K108.1)) hZ (hwi hw 28 rfl) (hwi hw 17 rfl) (by decide) (by decide)) (g := (mkF m 100 #[iv p1, iv p2, iv p3, iv 2, rv b2, rv b3, rv b5, rv b8, iv 1, iv 2, .unset, .unset] [(.int 2), (.int 1)])) rfl (by rw [hml]; rfl) (argsL := [(.int 1), (.int 2)]) (rest := []) (lenOf pd_1 rfl) rfl (by show 2 * 0 + _ ≤ _; exact Nat.le_of_eq rfl) (hb hby at_100) (fun _ _ => ⟨rfl, rfl, (by decide : 5 + 0 ≤ _), (by decide : 25 + 0 ≤ _)⟩)
          dsimp only [Pt.U, Pt.locs, Pt.cells, Pt.slots] at X113 l113 y113 z113 st113 hQ113
          subst l113 y113 z113
          obtain ⟨hv113, N113q, e113q⟩ := hQ113
          have N113 := Fr.app N107 N113q
          rw [show (if (1 : Int32) < (2 : Int32) then (2 : Int32) else (1 : Int32)) = (2 : Int32) from by decide] at hv113
          subst hv113
          have pre114 : ∀ t_, Go p e below T113 (mkF m 105 #[iv p1, iv p2, iv p3, iv 2, rv b2, rv b3, rv b5, rv b8, iv 1, iv 2, iv 2, .unset] []) t_ → Go p e below s₁ (entryFrame m #[(.int p1), (.int p2), (.int p3)] maxLocals) t_ := fun t_ kt => pre106 _ (by
              show Go p e below T105 (mkF m 89 #[iv p1, iv p2, iv p3, iv 2, rv b2, rv b3, rv b5, rv b8, iv 1, iv 2, .unset, .unset] []) _
              refine XS.aload X105.here hx rfl (hb hby at_89) rfl rfl ?_
              show Go p e below T105 (mkF m 91 #[iv p1, iv p2, iv p3, iv 2, rv b2, rv b3, rv b5, rv b8, iv 1, iv 2, .unset, .unset] [(.ref b8)]) _
              refine XS.iload X105.here hx rfl (hb hby at_91) rfl ?_
              show Go p e below T105 (mkF m 93 #[iv p1, iv p2, iv p3, iv 2, rv b2, rv b3, rv b5, rv b8, iv 1, iv 2, .unset, .unset] [(.int 2), (.ref b8)]) _
              refine st107.trans ?_
              show Go p e below T107 (mkF m 96 #[iv p1, iv p2, iv p3, iv 2, rv b2, rv b3, rv b5, rv b8, iv 1, iv 2, .unset, .unset] []) _
              refine XS.iload X107.here hx rfl (hb hby at_96) rfl ?_
              show Go p e below T107 (mkF m 98 #[iv p1, iv p2, iv p3, iv 2, rv b2, rv b3, rv b5, rv b8, iv 1, iv 2, .unset, .unset] [(.int 1)]) _
              refine XS.iload X107.here hx rfl (hb hby at_98) rfl ?_
              show Go p e below T107 (mkF m 100 #[iv p1, iv p2, iv p3, iv 2, rv b2, rv b3, rv b5, rv b8, iv 1, iv 2, .unset, .unset] [(.int 2), (.int 1)]) _
              refine st113 _ ?_
              show Go p e below T113 (mkF m 103 #[iv p1, iv p2, iv p3, iv 2, rv b2, rv b3, rv b5, rv b8, iv 1, iv 2, .unset, .unset] [(.int 2)]) _
              refine XS.istore X113.here hx rfl (hb hby at_103) rfl (l' := #[iv p1, iv p2, iv p3, iv 2, rv b2, rv b3, rv b5, rv b8, iv 1, iv 2, iv 2, .unset]) rfl ?_
              show Go p e below T113 (mkF m 105 #[iv p1, iv p2, iv p3, iv 2, rv b2, rv b3, rv b5, rv b8, iv 1, iv 2, iv 2, .unset] []) _
              exact kt)
          obtain ⟨s₂, o₂, hs1, hs2, hs3, hs4⟩ := tl2_2 p1 p2 p3 (1 : Int32) (2 : Int32) b8 b2 b3 b5 rg12 kr12 T107.heap n0 X113 hx hZ hw hby hml hown Bd.returns Bd.notSynchronized e113q N113 (Nat.le_trans Z0 K108.1) R107
          exact ⟨s₂, o₂, pre114 _ hs1, hs2, hs3, hs4⟩
      · obtain ⟨cq115, kq115, q115a, q115b, q115c⟩ := isOf hZ e105q E_99
        obtain ⟨_, _, ⟨T115, L115, k115, n115⟩, -, X115, ⟨Lc115, hQ115, l115, y115, z115⟩, st115⟩ := X105.virtualBack hx (y := (⟨"com/example/rowmotif/rowmotif/matcher/PartitionRows", "release", "(I)V"⟩ : MethodName)) (z := (⟨"com/example/rowmotif/rowmotif/matcher/PartitionRows", "release", "(I)V"⟩ : MethodName)) hown (mvT hZ (hwi hw 19 rfl)) (mvT hZ (hwi hw 20 rfl)) (notFace_of_selects (args := #[]) (mvT hZ (hwi hw 22 rfl))) (mvT hZ (hwi hw 22 rfl)) (mvT hZ (hwi hw 21 rfl)) (by decide) (backOf (W := 0) (rmR0 l Z a0 hw [] b8 bb (1 : Int32) T99.heap n0 (Nat.le_trans Z0 K100.1) R99.2.2.2.2.1 hkb) hZ (hwi hw 23 rfl) (hwi hw 4 rfl) (by decide) (by decide)) q115a q115c (g := (mkF m 93 #[iv p1, iv p2, iv p3, iv 2, rv b2, rv b3, rv b5, rv b8, iv 1, iv bb, .unset, .unset] [(.int bb), (.ref b8)])) rfl (by rw [hml]; rfl) (Steps.refl _) (argsL := [(.int bb)]) (rest := []) (lenOf pd_2 rfl) rfl (by show 2 * 0 + _ ≤ _; exact Nat.le_of_eq rfl) (hb hby at_93) (fun _ _ => ⟨rfl, e105q, (by decide : 5 + 0 ≤ _), (by decide : 25 + 0 ≤ _)⟩)
        dsimp only [Pt.U, Pt.locs, Pt.cells, Pt.slots] at X115 l115 y115 z115 st115 hQ115
        subst l115 y115 z115
        obtain ⟨rfl, N115q, e115q⟩ := hQ115
        have N115 := Fr.app N105 N115q
        obtain ⟨_, _, ⟨T116, L116, k116, n116⟩, -, X116, ⟨Lc116, hQ116, l116, y116, z116⟩, st116⟩ := Jvm.LawKit.callS X115 hx (y := (⟨"java/lang/Math", "max", "(II)I"⟩ : MethodName)) hown (mvT hZ (hwi hw 26 rfl)) (mvT hZ (hwi hw 27 rfl)) (mvT hZ (hwi hw 17 rfl)) (mvT hZ (hwi hw 28 rfl)) (by decide) (backOf (W := 0) (rmMax l Z a0 hw [] (1 : Int32) bb T99.heap n0 (Nat.le_trans Z0 K100.1)) hZ (hwi hw 28 rfl) (hwi hw 17 rfl) (by decide) (by decide)) (g := (mkF m 100 #[iv p1, iv p2, iv p3, iv 2, rv b2, rv b3, rv b5, rv b8, iv 1, iv bb, .unset, .unset] [(.int bb), (.int 1)])) rfl (by rw [hml]; rfl) (argsL := [(.int 1), (.int bb)]) (rest := []) (lenOf pd_1 rfl) rfl (by show 2 * 0 + _ ≤ _; exact Nat.le_of_eq rfl) (hb hby at_100) (fun _ _ => ⟨rfl, e115q, (by decide : 5 + 0 ≤ _), (by decide : 25 + 0 ≤ _)⟩)
        dsimp only [Pt.U, Pt.locs, Pt.cells, Pt.slots] at X116 l116 y116 z116 st116 hQ116
        subst l116 y116 z116
        obtain ⟨hv116, N116q, e116q⟩ := hQ116
        have N116 := Fr.app N115 N116q
        rw [if_neg hkb] at hv116
        subst hv116
        have pre117 : ∀ t_, Go p e below T116 (mkF m 105 #[iv p1, iv p2, iv p3, iv 2, rv b2, rv b3, rv b5, rv b8, iv 1, iv bb, iv 1, .unset] []) t_ → Go p e below s₁ (entryFrame m #[(.int p1), (.int p2), (.int p3)] maxLocals) t_ := fun t_ kt => pre106 _ (by
            show Go p e below T105 (mkF m 89 #[iv p1, iv p2, iv p3, iv 2, rv b2, rv b3, rv b5, rv b8, iv 1, iv bb, .unset, .unset] []) _
            refine XS.aload X105.here hx rfl (hb hby at_89) rfl rfl ?_
            show Go p e below T105 (mkF m 91 #[iv p1, iv p2, iv p3, iv 2, rv b2, rv b3, rv b5, rv b8, iv 1, iv bb, .unset, .unset] [(.ref b8)]) _
            refine XS.iload X105.here hx rfl (hb hby at_91) rfl ?_
            show Go p e below T105 (mkF m 93 #[iv p1, iv p2, iv p3, iv 2, rv b2, rv b3, rv b5, rv b8, iv 1, iv bb, .unset, .unset] [(.int bb), (.ref b8)]) _
            refine st115.trans ?_
            show Go p e below T115 (mkF m 96 #[iv p1, iv p2, iv p3, iv 2, rv b2, rv b3, rv b5, rv b8, iv 1, iv bb, .unset, .unset] []) _
            refine XS.iload X115.here hx rfl (hb hby at_96) rfl ?_
            show Go p e below T115 (mkF m 98 #[iv p1, iv p2, iv p3, iv 2, rv b2, rv b3, rv b5, rv b8, iv 1, iv bb, .unset, .unset] [(.int 1)]) _
            refine XS.iload X115.here hx rfl (hb hby at_98) rfl ?_
            show Go p e below T115 (mkF m 100 #[iv p1, iv p2, iv p3, iv 2, rv b2, rv b3, rv b5, rv b8, iv 1, iv bb, .unset, .unset] [(.int bb), (.int 1)]) _
            refine st116 _ ?_
            show Go p e below T116 (mkF m 103 #[iv p1, iv p2, iv p3, iv 2, rv b2, rv b3, rv b5, rv b8, iv 1, iv bb, .unset, .unset] [(.int 1)]) _
            refine XS.istore X116.here hx rfl (hb hby at_103) rfl (l' := #[iv p1, iv p2, iv p3, iv 2, rv b2, rv b3, rv b5, rv b8, iv 1, iv bb, iv 1, .unset]) rfl ?_
            show Go p e below T116 (mkF m 105 #[iv p1, iv p2, iv p3, iv 2, rv b2, rv b3, rv b5, rv b8, iv 1, iv bb, iv 1, .unset] []) _
            exact kt)
        obtain ⟨s₂, o₂, hs1, hs2, hs3, hs4⟩ := tl2_1 p1 p2 p3 (1 : Int32) bb b8 b2 b3 b5 rg12 kr12 T99.heap n0 X116 hx hZ hw hby hml hown Bd.returns Bd.notSynchronized e116q N116 (Nat.le_trans Z0 K100.1) R99
        exact ⟨s₂, o₂, pre117 _ hs1, hs2, hs3, hs4⟩
    · obtain ⟨cq118, kq118, q118a, q118b, q118c⟩ := isOf hZ e75q E_69
      obtain ⟨_, _, ⟨T118, L118, k118, n118⟩, -, X118, ⟨Lc118, hQ118, l118, y118, z118⟩, st118⟩ := X75.virtualBack hx (y := (⟨"com/example/rowmotif/rowmotif/matcher/PartitionRows", "release", "(I)V"⟩ : MethodName)) (z := (⟨"com/example/rowmotif/rowmotif/matcher/PartitionRows", "release", "(I)V"⟩ : MethodName)) hown (mvT hZ (hwi hw 19 rfl)) (mvT hZ (hwi hw 20 rfl)) (notFace_of_selects (args := #[]) (mvT hZ (hwi hw 22 rfl))) (mvT hZ (hwi hw 22 rfl)) (mvT hZ (hwi hw 21 rfl)) (by decide) (backOf (W := 0) (rmR0_2_2 l Z a0 hw [] b8 rg12 kr12 (.ref b2) (.ref b3) .null T69.heap n0 (Nat.le_trans Z0 K70.1) R69 g_b8 gr12) hZ (hwi hw 23 rfl) (hwi hw 4 rfl) (by decide) (by decide)) q118a q118c (g := (mkF m 79 #[iv p1, iv p2, iv p3, iv 2, rv b2, rv b3, rv b5, rv b8, iv 2, .unset, .unset, .unset] [(.int 2), (.ref b8)])) rfl (by rw [hml]; rfl) (Steps.refl _) (argsL := [(.int 2)]) (rest := []) (lenOf pd_2 rfl) rfl (by show 2 * 0 + _ ≤ _; exact Nat.le_of_eq rfl) (hb hby at_79) (fun _ _ => ⟨rfl, e75q, (by decide : 5 + 0 ≤ _), (by decide : 25 + 0 ≤ _)⟩)
      dsimp only [Pt.U, Pt.locs, Pt.cells, Pt.slots] at X118 l118 y118 z118 st118 hQ118
      subst l118 y118 z118
      obtain ⟨rfl, N118q, kc118, R118⟩ := hQ118
      have N118 := Fr.app N75 N118q
      have K119 : Keep h0 T118.heap [] := K70.trans kc118 (allS (Or.inr sz_b8) (allS (Or.inr szr) all0))
      have f120 := f71.keep kc118
      have f121 := f72.keep kc118
      have f122 := f73.keep kc118
      have f123 := E_69.keep kc118
      have E_118 := R118.1
      obtain ⟨_, _, ⟨T124, L124, k124, n124⟩, -, X124, ⟨Lc124, hQ124, l124, y124, z124⟩, st124⟩ := Jvm.LawKit.callS X118 hx (y := (⟨"java/lang/Math", "min", "(II)I"⟩ : MethodName)) hown (mvT hZ (hwi hw 15 rfl)) (mvT hZ (hwi hw 16 rfl)) (mvT hZ (hwi hw 17 rfl)) (mvT hZ (hwi hw 18 rfl)) (by decide) (backOf (W := 0) (rmMin l Z a0 hw [] p3 (2 : Int32) T118.heap n0 (Nat.le_trans Z0 K119.1)) hZ (hwi hw 18 rfl) (hwi hw 17 rfl) (by decide) (by decide)) (g := (mkF m 84 #[iv p1, iv p2, iv p3, iv 2, rv b2, rv b3, rv b5, rv b8, iv 2, .unset, .unset, .unset] [(.int 2), (.int p3)])) rfl (by rw [hml]; rfl) (argsL := [(.int p3), (.int 2)]) (rest := []) (lenOf pd_1 rfl) rfl (by show 2 * 0 + _ ≤ _; exact Nat.le_of_eq rfl) (hb hby at_84) (fun _ _ => ⟨rfl, rfl, (by decide : 5 + 0 ≤ _), (by decide : 25 + 0 ≤ _)⟩)
      dsimp only [Pt.U, Pt.locs, Pt.cells, Pt.slots] at X124 l124 y124 z124 st124 hQ124
      subst l124 y124 z124
      obtain ⟨hv124, N124q, e124q⟩ := hQ124
      have N124 := Fr.app N118 N124q
      have hbn := own_minle p3 (2 : Int32)
      obtain ⟨bb, e_bb⟩ : ∃ z : Int32, z = (if (2 : Int32) < p3 then (2 : Int32) else p3) := ⟨_, rfl⟩
      rw [← e_bb] at hv124 hbn
      clear e_bb
      subst hv124
      obtain ⟨cq125, kq125, q125a, q125b, q125c⟩ := isOf hZ e124q E_118
      obtain ⟨_, _, ⟨T125, L125, k125, n125⟩, -, X125, ⟨Lc125, hQ125, l125, y125, z125⟩, st125⟩ := X124.virtualBack hx (y := (⟨"com/example/rowmotif/rowmotif/matcher/PartitionRows", "release", "(I)V"⟩ : MethodName)) (z := (⟨"com/example/rowmotif/rowmotif/matcher/PartitionRows", "release", "(I)V"⟩ : MethodName)) hown (mvT hZ (hwi hw 19 rfl)) (mvT hZ (hwi hw 20 rfl)) (notFace_of_selects (args := #[]) (mvT hZ (hwi hw 22 rfl))) (mvT hZ (hwi hw 22 rfl)) (mvT hZ (hwi hw 21 rfl)) (by decide) (backOf (W := 0) (rmR0 l Z a0 hw [] b8 bb (2 : Int32) T118.heap n0 (Nat.le_trans Z0 K119.1) R118.2.2.2.2.1 hbn) hZ (hwi hw 23 rfl) (hwi hw 4 rfl) (by decide) (by decide)) q125a q125c (g := (mkF m 93 #[iv p1, iv p2, iv p3, iv 2, rv b2, rv b3, rv b5, rv b8, iv 2, iv bb, .unset, .unset] [(.int bb), (.ref b8)])) rfl (by rw [hml]; rfl) (Steps.refl _) (argsL := [(.int bb)]) (rest := []) (lenOf pd_2 rfl) rfl (by show 2 * 0 + _ ≤ _; exact Nat.le_of_eq rfl) (hb hby at_93) (fun _ _ => ⟨rfl, e124q, (by decide : 5 + 0 ≤ _), (by decide : 25 + 0 ≤ _)⟩)
      dsimp only [Pt.U, Pt.locs, Pt.cells, Pt.slots] at X125 l125 y125 z125 st125 hQ125
      subst l125 y125 z125
      obtain ⟨rfl, N125q, e125q⟩ := hQ125
      have N125 := Fr.app N124 N125q
      obtain ⟨_, _, ⟨T126, L126, k126, n126⟩, -, X126, ⟨Lc126, hQ126, l126, y126, z126⟩, st126⟩ := Jvm.LawKit.callS X125 hx (y := (⟨"java/lang/Math", "max", "(II)I"⟩ : MethodName)) hown (mvT hZ (hwi hw 26 rfl)) (mvT hZ (hwi hw 27 rfl)) (mvT hZ (hwi hw 17 rfl)) (mvT hZ (hwi hw 28 rfl)) (by decide) (backOf (W := 0) (rmMax l Z a0 hw [] (2 : Int32) bb T118.heap n0 (Nat.le_trans Z0 K119.1)) hZ (hwi hw 28 rfl) (hwi hw 17 rfl) (by decide) (by decide)) (g := (mkF m 100 #[iv p1, iv p2, iv p3, iv 2, rv b2, rv b3, rv b5, rv b8, iv 2, iv bb, .unset, .unset] [(.int bb), (.int 2)])) rfl (by rw [hml]; rfl) (argsL := [(.int 2), (.int bb)]) (rest := []) (lenOf pd_1 rfl) rfl (by show 2 * 0 + _ ≤ _; exact Nat.le_of_eq rfl) (hb hby at_100) (fun _ _ => ⟨rfl, e125q, (by decide : 5 + 0 ≤ _), (by decide : 25 + 0 ≤ _)⟩)
      dsimp only [Pt.U, Pt.locs, Pt.cells, Pt.slots] at X126 l126 y126 z126 st126 hQ126
      subst l126 y126 z126
      obtain ⟨hv126, N126q, e126q⟩ := hQ126
      have N126 := Fr.app N125 N126q
      rw [if_neg hbn] at hv126
      subst hv126
      have pre127 : ∀ t_, Go p e below T126 (mkF m 105 #[iv p1, iv p2, iv p3, iv 2, rv b2, rv b3, rv b5, rv b8, iv 2, iv bb, iv 2, .unset] []) t_ → Go p e below s₁ (entryFrame m #[(.int p1), (.int p2), (.int p3)] maxLocals) t_ := fun t_ kt => pre76 _ (by
          show Go p e below T75 (mkF m 75 #[iv p1, iv p2, iv p3, iv 2, rv b2, rv b3, rv b5, rv b8, iv 2, .unset, .unset, .unset] []) _
          refine XS.aload X75.here hx rfl (hb hby at_75) rfl rfl ?_
          show Go p e below T75 (mkF m 77 #[iv p1, iv p2, iv p3, iv 2, rv b2, rv b3, rv b5, rv b8, iv 2, .unset, .unset, .unset] [(.ref b8)]) _
          refine XS.iload X75.here hx rfl (hb hby at_77) rfl ?_
          show Go p e below T75 (mkF m 79 #[iv p1, iv p2, iv p3, iv 2, rv b2, rv b3, rv b5, rv b8, iv 2, .unset, .unset, .unset] [(.int 2), (.ref b8)]) _
          refine st118.trans ?_
          show Go p e below T118 (mkF m 82 #[iv p1, iv p2, iv p3, iv 2, rv b2, rv b3, rv b5, rv b8, iv 2, .unset, .unset, .unset] []) _
          refine XS.iloadN X118.here hx rfl (hb hby at_82) rfl ?_
          show Go p e below T118 (mkF m 83 #[iv p1, iv p2, iv p3, iv 2, rv b2, rv b3, rv b5, rv b8, iv 2, .unset, .unset, .unset] [(.int p3)]) _
          refine XS.iloadN X118.here hx rfl (hb hby at_83) rfl ?_
          show Go p e below T118 (mkF m 84 #[iv p1, iv p2, iv p3, iv 2, rv b2, rv b3, rv b5, rv b8, iv 2, .unset, .unset, .unset] [(.int 2), (.int p3)]) _
          refine st124 _ ?_
          show Go p e below T124 (mkF m 87 #[iv p1, iv p2, iv p3, iv 2, rv b2, rv b3, rv b5, rv b8, iv 2, .unset, .unset, .unset] [(.int bb)]) _
          refine XS.istore X124.here hx rfl (hb hby at_87) rfl (l' := #[iv p1, iv p2, iv p3, iv 2, rv b2, rv b3, rv b5, rv b8, iv 2, iv bb, .unset, .unset]) rfl ?_
          show Go p e below T124 (mkF m 89 #[iv p1, iv p2, iv p3, iv 2, rv b2, rv b3, rv b5, rv b8, iv 2, iv bb, .unset, .unset] []) _
          refine XS.aload X124.here hx rfl (hb hby at_89) rfl rfl ?_
          show Go p e below T124 (mkF m 91 #[iv p1, iv p2, iv p3, iv 2, rv b2, rv b3, rv b5, rv b8, iv 2, iv bb, .unset, .unset] [(.ref b8)]) _
          refine XS.iload X124.here hx rfl (hb hby at_91) rfl ?_
          show Go p e below T124 (mkF m 93 #[iv p1, iv p2, iv p3, iv 2, rv b2, rv b3, rv b5, rv b8, iv 2, iv bb, .unset, .unset] [(.int bb), (.ref b8)]) _
          refine st125.trans ?_
          show Go p e below T125 (mkF m 96 #[iv p1, iv p2, iv p3, iv 2, rv b2, rv b3, rv b5, rv b8, iv 2, iv bb, .unset, .unset] []) _
          refine XS.iload X125.here hx rfl (hb hby at_96) rfl ?_
          show Go p e below T125 (mkF m 98 #[iv p1, iv p2, iv p3, iv 2, rv b2, rv b3, rv b5, rv b8, iv 2, iv bb, .unset, .unset] [(.int 2)]) _
          refine XS.iload X125.here hx rfl (hb hby at_98) rfl ?_
          show Go p e below T125 (mkF m 100 #[iv p1, iv p2, iv p3, iv 2, rv b2, rv b3, rv b5, rv b8, iv 2, iv bb, .unset, .unset] [(.int bb), (.int 2)]) _
          refine st126 _ ?_
          show Go p e below T126 (mkF m 103 #[iv p1, iv p2, iv p3, iv 2, rv b2, rv b3, rv b5, rv b8, iv 2, iv bb, .unset, .unset] [(.int 2)]) _
          refine XS.istore X126.here hx rfl (hb hby at_103) rfl (l' := #[iv p1, iv p2, iv p3, iv 2, rv b2, rv b3, rv b5, rv b8, iv 2, iv bb, iv 2, .unset]) rfl ?_
          show Go p e below T126 (mkF m 105 #[iv p1, iv p2, iv p3, iv 2, rv b2, rv b3, rv b5, rv b8, iv 2, iv bb, iv 2, .unset] []) _
          exact kt)
      obtain ⟨s₂, o₂, hs1, hs2, hs3, hs4⟩ := tl2_2 p1 p2 p3 (2 : Int32) bb b8 b2 b3 b5 rg12 kr12 T118.heap n0 X126 hx hZ hw hby hml hown Bd.returns Bd.notSynchronized e126q N126 (Nat.le_trans Z0 K119.1) R118
      exact ⟨s₂, o₂, pre127 _ hs1, hs2, hs3, hs4⟩
  · obtain ⟨cq128, kq128, q128a, q128b, q128c⟩ := isOf hZ rfl f16
    obtain ⟨_, _, ⟨T128, L128, k128, n128⟩, -, X128, ⟨Lc128, hQ128, l128, y128, z128⟩, st128⟩ := X12.virtualBack hx (y := (⟨"com/example/rowmotif/rowmotif/matcher/PartitionRows", "add", "([Ljava/lang/Object;)V"⟩ : MethodName)) (z := (⟨"com/example/rowmotif/rowmotif/matcher/PartitionRows", "add", "([Ljava/lang/Object;)V"⟩ : MethodName)) hown (mvT hZ (hwi hw 41 rfl)) (mvT hZ (hwi hw 42 rfl)) (notFace_of_selects (args := #[]) (mvT hZ (hwi hw 44 rfl))) (mvT hZ (hwi hw 44 rfl)) (mvT hZ (hwi hw 43 rfl)) (by decide) (backOf (W := 0) (rmA0 l Z a0 hw [] b8 b2 rg12 kr12 .null .null .null T12.heap n0 (Nat.le_trans Z0 K22.1) R12 f13 g_b8 gr12) hZ (hwi hw 45 rfl) (hwi hw 4 rfl) (by decide) (by decide)) q128a q128c (g := (mkF m 39 #[iv p1, iv p2, iv p3, iv 3, rv b2, rv b3, rv b5, rv b8, .unset, .unset, .unset, .unset] [(.ref b2), (.ref b8)])) rfl (by rw [hml]; rfl) (Steps.refl _) (argsL := [(.ref b2)]) (rest := []) (lenOf pd_4 rfl) rfl (by show 2 * 0 + _ ≤ _; exact Nat.le_of_eq rfl) (hb hby at_39) (fun _ _ => ⟨rfl, rfl, (by decide : 5 + 0 ≤ _), (by decide : 25 + 0 ≤ _)⟩)
    dsimp only [Pt.U, Pt.locs, Pt.cells, Pt.slots] at X128 l128 y128 z128 st128 hQ128
    subst l128 y128 z128
    obtain ⟨rfl, N128q, kc128, R128⟩ := hQ128
    have N128 := Fr.app N12 N128q
    have K129 : Keep h0 T128.heap [] := K22.trans kc128 (allS (Or.inr sz_b8) (allS (Or.inr szr) all0))
    have f130 := f13.keep kc128
    have f131 := f14.keep kc128
    have f132 := f15.keep kc128
    have f133 := f16.keep kc128
    have E_128 := R128.1
    obtain ⟨cq134, kq134, q134a, q134b, q134c⟩ := isOf hZ rfl E_128
    obtain ⟨_, _, ⟨T134, L134, k134, n134⟩, -, X134, ⟨Lc134, hQ134, l134, y134, z134⟩, st134⟩ := X128.virtualBack hx (y := (⟨"com/example/rowmotif/rowmotif/matcher/PartitionRows", "add", "([Ljava/lang/Object;)V"⟩ : MethodName)) (z := (⟨"com/example/rowmotif/rowmotif/matcher/PartitionRows", "add", "([Ljava/lang/Object;)V"⟩ : MethodName)) hown (mvT hZ (hwi hw 41 rfl)) (mvT hZ (hwi hw 42 rfl)) (notFace_of_selects (args := #[]) (mvT hZ (hwi hw 44 rfl))) (mvT hZ (hwi hw 44 rfl)) (mvT hZ (hwi hw 43 rfl)) (by decide) (backOf (W := 0) (rmA1 l Z a0 hw [] b8 b3 rg12 kr12 (.ref b2) .null .null T128.heap n0 (Nat.le_trans Z0 K129.1) R128 f131 g_b8 gr12) hZ (hwi hw 45 rfl) (hwi hw 4 rfl) (by decide) (by decide)) q134a q134c (g := (mkF m 51 #[iv p1, iv p2, iv p3, iv 3, rv b2, rv b3, rv b5, rv b8, .unset, .unset, .unset, .unset] [(.ref b3), (.ref b8)])) rfl (by rw [hml]; rfl) (Steps.refl _) (argsL := [(.ref b3)]) (rest := []) (lenOf pd_4 rfl) rfl (by show 2 * 0 + _ ≤ _; exact Nat.le_of_eq rfl) (hb hby at_51) (fun _ _ => ⟨rfl, rfl, (by decide : 5 + 0 ≤ _), (by decide : 25 + 0 ≤ _)⟩)
    dsimp only [Pt.U, Pt.locs, Pt.cells, Pt.slots] at X134 l134 y134 z134 st134 hQ134
    subst l134 y134 z134
    obtain ⟨rfl, N134q, kc134, R134⟩ := hQ134
    have N134 := Fr.app N128 N134q
    have K135 : Keep h0 T134.heap [] := K129.trans kc134 (allS (Or.inr sz_b8) (allS (Or.inr szr) all0))
    have f136 := f130.keep kc134
    have f137 := f131.keep kc134
    have f138 := f132.keep kc134
    have f139 := E_128.keep kc134
    have E_134 := R134.1
    obtain ⟨cq140, kq140, q140a, q140b, q140c⟩ := isOf hZ rfl E_134
    obtain ⟨_, _, ⟨T140, L140, k140, n140⟩, -, X140, ⟨Lc140, hQ140, l140, y140, z140⟩, st140⟩ := X134.virtualBack hx (y := (⟨"com/example/rowmotif/rowmotif/matcher/PartitionRows", "add", "([Ljava/lang/Object;)V"⟩ : MethodName)) (z := (⟨"com/example/rowmotif/rowmotif/matcher/PartitionRows", "add", "([Ljava/lang/Object;)V"⟩ : MethodName)) hown (mvT hZ (hwi hw 41 rfl)) (mvT hZ (hwi hw 42 rfl)) (notFace_of_selects (args := #[]) (mvT hZ (hwi hw 44 rfl))) (mvT hZ (hwi hw 44 rfl)) (mvT hZ (hwi hw 43 rfl)) (by decide) (backOf (W := 0) (rmA2 l Z a0 hw [] b8 b5 rg12 kr12 (.ref b2) (.ref b3) .null T134.heap n0 (Nat.le_trans Z0 K135.1) R134 f138 g_b8 gr12) hZ (hwi hw 45 rfl) (hwi hw 4 rfl) (by decide) (by decide)) q140a q140c (g := (mkF m 63 #[iv p1, iv p2, iv p3, iv 3, rv b2, rv b3, rv b5, rv b8, .unset, .unset, .unset, .unset] [(.ref b5), (.ref b8)])) rfl (by rw [hml]; rfl) (Steps.refl _) (argsL := [(.ref b5)]) (rest := []) (lenOf pd_4 rfl) rfl (by show 2 * 0 + _ ≤ _; exact Nat.le_of_eq rfl) (hb hby at_63) (fun _ _ => ⟨rfl, rfl, (by decide : 5 + 0 ≤ _), (by decide : 25 + 0 ≤ _)⟩)
    dsimp only [Pt.U, Pt.locs, Pt.cells, Pt.slots] at X140 l140 y140 z140 st140 hQ140
    subst l140 y140 z140
    obtain ⟨rfl, N140q, kc140, R140⟩ := hQ140
    have N140 := Fr.app N134 N140q
    have K141 : Keep h0 T140.heap [] := K135.trans kc140 (allS (Or.inr sz_b8) (allS (Or.inr szr) all0))
    have f142 := f136.keep kc140
    have f143 := f137.keep kc140
    have f144 := f138.keep kc140
    have f145 := E_134.keep kc140
    have E_140 := R140.1
    obtain ⟨_, _, ⟨T146, L146, k146, n146⟩, -, X146, ⟨Lc146, hQ146, l146, y146, z146⟩, st146⟩ := Jvm.LawKit.callS X140 hx (y := (⟨"java/lang/Math", "min", "(II)I"⟩ : MethodName)) hown (mvT hZ (hwi hw 15 rfl)) (mvT hZ (hwi hw 16 rfl)) (mvT hZ (hwi hw 17 rfl)) (mvT hZ (hwi hw 18 rfl)) (by decide) (backOf (W := 0) (rmMin l Z a0 hw [] (p2 &&& (3 : Int32)) (3 : Int32) T140.heap n0 (Nat.le_trans Z0 K141.1)) hZ (hwi hw 18 rfl) (hwi hw 17 rfl) (by decide) (by decide)) (g := (mkF m 70 #[iv p1, iv p2, iv p3, iv 3, rv b2, rv b3, rv b5, rv b8, .unset, .unset, .unset, .unset] [(.int 3), (.int (p2 &&& (3 : Int32)))])) rfl (by rw [hml]; rfl) (argsL := [(.int (p2 &&& (3 : Int32))), (.int 3)]) (rest := []) (lenOf pd_1 rfl) rfl (by show 2 * 0 + _ ≤ _; exact Nat.le_of_eq rfl) (hb hby at_70) (fun _ _ => ⟨rfl, rfl, (by decide : 5 + 0 ≤ _), (by decide : 25 + 0 ≤ _)⟩)
    dsimp only [Pt.U, Pt.locs, Pt.cells, Pt.slots] at X146 l146 y146 z146 st146 hQ146
    subst l146 y146 z146
    obtain ⟨hv146, N146q, e146q⟩ := hQ146
    have N146 := Fr.app N140 N146q
    have hkr := own_min3 p2
    obtain ⟨kk, e_kk⟩ : ∃ z : Int32, z = (if (3 : Int32) < (p2 &&& (3 : Int32)) then (3 : Int32) else (p2 &&& (3 : Int32))) := ⟨_, rfl⟩
    rw [← e_kk] at hv146 hkr
    clear e_kk
    subst hv146
    have pre147 : ∀ t_, Go p e below T146 (mkF m 75 #[iv p1, iv p2, iv p3, iv 3, rv b2, rv b3, rv b5, rv b8, iv kk, .unset, .unset, .unset] []) t_ → Go p e below s₁ (entryFrame m #[(.int p1), (.int p2), (.int p3)] maxLocals) t_ := fun t_ kt => pre23 _ (by
        show Go p e below T12 (mkF m 31 #[iv p1, iv p2, iv p3, iv 3, rv b2, rv b3, rv b5, rv b8, .unset, .unset, .unset, .unset] []) _
        refine XS.iloadN X12.here hx rfl (hb hby at_31) rfl ?_
        show Go p e below T12 (mkF m 32 #[iv p1, iv p2, iv p3, iv 3, rv b2, rv b3, rv b5, rv b8, .unset, .unset, .unset, .unset] [(.int 3)]) _
        refine XS.ifNo X12.here hx rfl (hb hby at_32) rfl ((if0 _ _).trans (tlt ((by decide) : (0 : Int32) < (3 : Int32))).2.2.2) ?_
        show Go p e below T12 (mkF m 35 #[iv p1, iv p2, iv p3, iv 3, rv b2, rv b3, rv b5, rv b8, .unset, .unset, .unset, .unset] []) _
        refine XS.aload X12.here hx rfl (hb hby at_35) rfl rfl ?_
        show Go p e below T12 (mkF m 37 #[iv p1, iv p2, iv p3, iv 3, rv b2, rv b3, rv b5, rv b8, .unset, .unset, .unset, .unset] [(.ref b8)]) _
        refine XS.aload X12.here hx rfl (hb hby at_37) rfl rfl ?_
        show Go p e below T12 (mkF m 39 #[iv p1, iv p2, iv p3, iv 3, rv b2, rv b3, rv b5, rv b8, .unset, .unset, .unset, .unset] [(.ref b2), (.ref b8)]) _
        refine st128.trans ?_
        show Go p e below T128 (mkF m 42 #[iv p1, iv p2, iv p3, iv 3, rv b2, rv b3, rv b5, rv b8, .unset, .unset, .unset, .unset] []) _
        refine XS.iloadN X128.here hx rfl (hb hby at_42) rfl ?_
        show Go p e below T128 (mkF m 43 #[iv p1, iv p2, iv p3, iv 3, rv b2, rv b3, rv b5, rv b8, .unset, .unset, .unset, .unset] [(.int 3)]) _
        refine XS.iconst X128.here hx rfl (hb hby at_43) ?_
        show Go p e below T128 (mkF m 44 #[iv p1, iv p2, iv p3, iv 3, rv b2, rv b3, rv b5, rv b8, .unset, .unset, .unset, .unset] [(.int 1), (.int 3)]) _
        refine XS.icmpNo X128.here hx rfl (hb hby at_44) rfl (tlt ((by decide) : (1 : Int32) < (3 : Int32))).2.2.2 ?_
        show Go p e below T128 (mkF m 47 #[iv p1, iv p2, iv p3, iv 3, rv b2, rv b3, rv b5, rv b8, .unset, .unset, .unset, .unset] []) _
        refine XS.aload X128.here hx rfl (hb hby at_47) rfl rfl ?_
        show Go p e below T128 (mkF m 49 #[iv p1, iv p2, iv p3, iv 3, rv b2, rv b3, rv b5, rv b8, .unset, .unset, .unset, .unset] [(.ref b8)]) _
        refine XS.aload X128.here hx rfl (hb hby at_49) rfl rfl ?_
        show Go p e below T128 (mkF m 51 #[iv p1, iv p2, iv p3, iv 3, rv b2, rv b3, rv b5, rv b8, .unset, .unset, .unset, .unset] [(.ref b3), (.ref b8)]) _
        refine st134.trans ?_
        show Go p e below T134 (mkF m 54 #[iv p1, iv p2, iv p3, iv 3, rv b2, rv b3, rv b5, rv b8, .unset, .unset, .unset, .unset] []) _
        refine XS.iloadN X134.here hx rfl (hb hby at_54) rfl ?_
        show Go p e below T134 (mkF m 55 #[iv p1, iv p2, iv p3, iv 3, rv b2, rv b3, rv b5, rv b8, .unset, .unset, .unset, .unset] [(.int 3)]) _
        refine XS.iconst X134.here hx rfl (hb hby at_55) ?_
        show Go p e below T134 (mkF m 56 #[iv p1, iv p2, iv p3, iv 3, rv b2, rv b3, rv b5, rv b8, .unset, .unset, .unset, .unset] [(.int 2), (.int 3)]) _
        refine XS.icmpNo X134.here hx rfl (hb hby at_56) rfl (tlt ((by decide) : (2 : Int32) < (3 : Int32))).2.2.2 ?_
        show Go p e below T134 (mkF m 59 #[iv p1, iv p2, iv p3, iv 3, rv b2, rv b3, rv b5, rv b8, .unset, .unset, .unset, .unset] []) _
        refine XS.aload X134.here hx rfl (hb hby at_59) rfl rfl ?_
        show Go p e below T134 (mkF m 61 #[iv p1, iv p2, iv p3, iv 3, rv b2, rv b3, rv b5, rv b8, .unset, .unset, .unset, .unset] [(.ref b8)]) _
        refine XS.aload X134.here hx rfl (hb hby at_61) rfl rfl ?_
        show Go p e below T134 (mkF m 63 #[iv p1, iv p2, iv p3, iv 3, rv b2, rv b3, rv b5, rv b8, .unset, .unset, .unset, .unset] [(.ref b5), (.ref b8)]) _
        refine st140.trans ?_
        show Go p e below T140 (mkF m 66 #[iv p1, iv p2, iv p3, iv 3, rv b2, rv b3, rv b5, rv b8, .unset, .unset, .unset, .unset] []) _
        refine XS.iloadN X140.here hx rfl (hb hby at_66) rfl ?_
        show Go p e below T140 (mkF m 67 #[iv p1, iv p2, iv p3, iv 3, rv b2, rv b3, rv b5, rv b8, .unset, .unset, .unset, .unset] [(.int p2)]) _
        refine XS.iconst X140.here hx rfl (hb hby at_67) ?_
        show Go p e below T140 (mkF m 68 #[iv p1, iv p2, iv p3, iv 3, rv b2, rv b3, rv b5, rv b8, .unset, .unset, .unset, .unset] [(.int 3), (.int p2)]) _
        refine XS.iand X140.here hx rfl (hb hby at_68) rfl ?_
        show Go p e below T140 (mkF m 69 #[iv p1, iv p2, iv p3, iv 3, rv b2, rv b3, rv b5, rv b8, .unset, .unset, .unset, .unset] [(.int (p2 &&& (3 : Int32)))]) _
        refine XS.iloadN X140.here hx rfl (hb hby at_69) rfl ?_
        show Go p e below T140 (mkF m 70 #[iv p1, iv p2, iv p3, iv 3, rv b2, rv b3, rv b5, rv b8, .unset, .unset, .unset, .unset] [(.int 3), (.int (p2 &&& (3 : Int32)))]) _
        refine st146 _ ?_
        show Go p e below T146 (mkF m 73 #[iv p1, iv p2, iv p3, iv 3, rv b2, rv b3, rv b5, rv b8, .unset, .unset, .unset, .unset] [(.int kk)]) _
        refine XS.istore X146.here hx rfl (hb hby at_73) rfl (l' := #[iv p1, iv p2, iv p3, iv 3, rv b2, rv b3, rv b5, rv b8, iv kk, .unset, .unset, .unset]) rfl ?_
        show Go p e below T146 (mkF m 75 #[iv p1, iv p2, iv p3, iv 3, rv b2, rv b3, rv b5, rv b8, iv kk, .unset, .unset, .unset] []) _
        exact kt)
    rcases hkr with rfl | rfl | rfl | rfl
    · obtain ⟨cq148, kq148, q148a, q148b, q148c⟩ := isOf hZ e146q E_140
      obtain ⟨_, _, ⟨T148, L148, k148, n148⟩, -, X148, ⟨Lc148, hQ148, l148, y148, z148⟩, st148⟩ := X146.virtualBack hx (y := (⟨"com/example/rowmotif/rowmotif/matcher/PartitionRows", "release", "(I)V"⟩ : MethodName)) (z := (⟨"com/example/rowmotif/rowmotif/matcher/PartitionRows", "release", "(I)V"⟩ : MethodName)) hown (mvT hZ (hwi hw 19 rfl)) (mvT hZ (hwi hw 20 rfl)) (notFace_of_selects (args := #[]) (mvT hZ (hwi hw 22 rfl))) (mvT hZ (hwi hw 22 rfl)) (mvT hZ (hwi hw 21 rfl)) (by decide) (backOf (W := 0) (rmR0 l Z a0 hw [] b8 (0 : Int32) (0 : Int32) T140.heap n0 (Nat.le_trans Z0 K141.1) R140.2.2.2.2.1 (by decide)) hZ (hwi hw 23 rfl) (hwi hw 4 rfl) (by decide) (by decide)) q148a q148c (g := (mkF m 79 #[iv p1, iv p2, iv p3, iv 3, rv b2, rv b3, rv b5, rv b8, iv 0, .unset, .unset, .unset] [(.int 0), (.ref b8)])) rfl (by rw [hml]; rfl) (Steps.refl _) (argsL := [(.int 0)]) (rest := []) (lenOf pd_2 rfl) rfl (by show 2 * 0 + _ ≤ _; exact Nat.le_of_eq rfl) (hb hby at_79) (fun _ _ => ⟨rfl, e146q, (by decide : 5 + 0 ≤ _), (by decide : 25 + 0 ≤ _)⟩)
      dsimp only [Pt.U, Pt.locs, Pt.cells, Pt.slots] at X148 l148 y148 z148 st148 hQ148
      subst l148 y148 z148
      obtain ⟨rfl, N148q, e148q⟩ := hQ148
      have N148 := Fr.app N146 N148q
      obtain ⟨_, _, ⟨T149, L149, k149, n149⟩, -, X149, ⟨Lc149, hQ149, l149, y149, z149⟩, st149⟩ := Jvm.LawKit.callS X148 hx (y := (⟨"java/lang/Math", "min", "(II)I"⟩ : MethodName)) hown (mvT hZ (hwi hw 15 rfl)) (mvT hZ (hwi hw 16 rfl)) (mvT hZ (hwi hw 17 rfl)) (mvT hZ (hwi hw 18 rfl)) (by decide) (backOf (W := 0) (rmMin l Z a0 hw [] p3 (3 : Int32) T140.heap n0 (Nat.le_trans Z0 K141.1)) hZ (hwi hw 18 rfl) (hwi hw 17 rfl) (by decide) (by decide)) (g := (mkF m 84 #[iv p1, iv p2, iv p3, iv 3, rv b2, rv b3, rv b5, rv b8, iv 0, .unset, .unset, .unset] [(.int 3), (.int p3)])) rfl (by rw [hml]; rfl) (argsL := [(.int p3), (.int 3)]) (rest := []) (lenOf pd_1 rfl) rfl (by show 2 * 0 + _ ≤ _; exact Nat.le_of_eq rfl) (hb hby at_84) (fun _ _ => ⟨rfl, e148q, (by decide : 5 + 0 ≤ _), (by decide : 25 + 0 ≤ _)⟩)
      dsimp only [Pt.U, Pt.locs, Pt.cells, Pt.slots] at X149 l149 y149 z149 st149 hQ149
      subst l149 y149 z149
      obtain ⟨hv149, N149q, e149q⟩ := hQ149
      have N149 := Fr.app N148 N149q
      have hbn := own_minle p3 (3 : Int32)
      obtain ⟨bb, e_bb⟩ : ∃ z : Int32, z = (if (3 : Int32) < p3 then (3 : Int32) else p3) := ⟨_, rfl⟩
      rw [← e_bb] at hv149 hbn
      clear e_bb
      subst hv149
      have pre150 : ∀ t_, Go p e below T149 (mkF m 89 #[iv p1, iv p2, iv p3, iv 3, rv b2, rv b3, rv b5, rv b8, iv 0, iv bb, .unset, .unset] []) t_ → Go p e below s₁ (entryFrame m #[(.int p1), (.int p2), (.int p3)] maxLocals) t_ := fun t_ kt => pre147 _ (by
          show Go p e below T146 (mkF m 75 #[iv p1, iv p2, iv p3, iv 3, rv b2, rv b3, rv b5, rv b8, iv 0, .unset, .unset, .unset] []) _
          refine XS.aload X146.here hx rfl (hb hby at_75) rfl rfl ?_
          show Go p e below T146 (mkF m 77 #[iv p1, iv p2, iv p3, iv 3, rv b2, rv b3, rv b5, rv b8, iv 0, .unset, .unset, .unset] [(.ref b8)]) _
          refine XS.iload X146.here hx rfl (hb hby at_77) rfl ?_
          show Go p e below T146 (mkF m 79 #[iv p1, iv p2, iv p3, iv 3, rv b2, rv b3, rv b5, rv b8, iv 0, .unset, .unset, .unset] [(.int 0), (.ref b8)]) _
          refine st148.trans ?_
          show Go p e below T148 (mkF m 82 #[iv p1, iv p2, iv p3, iv 3, rv b2, rv b3, rv b5, rv b8, iv 0, .unset, .unset, .unset] []) _
          refine XS.iloadN X148.here hx rfl (hb hby at_82) rfl ?_
          show Go p e below T148 (mkF m 83 #[iv p1, iv p2, iv p3, iv 3, rv b2, rv b3, rv b5, rv b8, iv 0, .unset, .unset, .unset] [(.int p3)]) _
          refine XS.iloadN X148.here hx rfl (hb hby at_83) rfl ?_
          show Go p e below T148 (mkF m 84 #[iv p1, iv p2, iv p3, iv 3, rv b2, rv b3, rv b5, rv b8, iv 0, .unset, .unset, .unset] [(.int 3), (.int p3)]) _
          refine st149 _ ?_
          show Go p e below T149 (mkF m 87 #[iv p1, iv p2, iv p3, iv 3, rv b2, rv b3, rv b5, rv b8, iv 0, .unset, .unset, .unset] [(.int bb)]) _
          refine XS.istore X149.here hx rfl (hb hby at_87) rfl (l' := #[iv p1, iv p2, iv p3, iv 3, rv b2, rv b3, rv b5, rv b8, iv 0, iv bb, .unset, .unset]) rfl ?_
          show Go p e below T149 (mkF m 89 #[iv p1, iv p2, iv p3, iv 3, rv b2, rv b3, rv b5, rv b8, iv 0, iv bb, .unset, .unset] []) _
          exact kt)
      by_cases hkb : (0 : Int32) < bb
      · rcases own_btw0_3 hkb hbn with rfl | rfl | rfl
        · obtain ⟨cq151, kq151, q151a, q151b, q151c⟩ := isOf hZ e149q E_140
          obtain ⟨_, _, ⟨T151, L151, k151, n151⟩, -, X151, ⟨Lc151, hQ151, l151, y151, z151⟩, st151⟩ := X149.virtualBack hx (y := (⟨"com/example/rowmotif/rowmotif/matcher/PartitionRows", "release", "(I)V"⟩ : MethodName)) (z := (⟨"com/example/rowmotif/rowmotif/matcher/PartitionRows", "release", "(I)V"⟩ : MethodName)) hown (mvT hZ (hwi hw 19 rfl)) (mvT hZ (hwi hw 20 rfl)) (notFace_of_selects (args := #[]) (mvT hZ (hwi hw 22 rfl))) (mvT hZ (hwi hw 22 rfl)) (mvT hZ (hwi hw 21 rfl)) (by decide) (backOf (W := 0) (rmR0_3_1 l Z a0 hw [] b8 rg12 kr12 (.ref b2) (.ref b3) (.ref b5) T140.heap n0 (Nat.le_trans Z0 K141.1) R140 g_b8 gr12) hZ (hwi hw 23 rfl) (hwi hw 4 rfl) (by decide) (by decide)) q151a q151c (g := (mkF m 93 #[iv p1, iv p2, iv p3, iv 3, rv b2, rv b3, rv b5, rv b8, iv 0, iv 1, .unset, .unset] [(.int 1), (.ref b8)])) rfl (by rw [hml]; rfl) (Steps.refl _) (argsL := [(.int 1)]) (rest := []) (lenOf pd_2 rfl) rfl (by show 2 * 0 + _ ≤ _; exact Nat.le_of_eq rfl) (hb hby at_93) (fun _ _ => ⟨rfl, e149q, (by decide : 5 + 0 ≤ _), (by decide : 25 + 0 ≤ _)⟩)
          dsimp only [Pt.U, Pt.locs, Pt.cells, Pt.slots] at X151 l151 y151 z151 st151 hQ151
          subst l151 y151 z151
          obtain ⟨rfl, N151q, kc151, R151⟩ := hQ151
          have N151 := Fr.app N149 N151q
          have K152 : Keep h0 T151.heap [] := K141.trans kc151 (allS (Or.inr sz_b8) (allS (Or.inr szr) all0))
          have f153 := f142.keep kc151
          have f154 := f143.keep kc151
          have f155 := f144.keep kc151
          have f156 := E_140.keep kc151
          have E_151 := R151.1
          obtain ⟨_, _, ⟨T157, L157, k157, n157⟩, -, X157, ⟨Lc157, hQ157, l157, y157, z157⟩, st157⟩ := Jvm.LawKit.callS X151 hx (y := (⟨"java/lang/Math", "max", "(II)I"⟩ : MethodName)) hown (mvT hZ (hwi hw 26 rfl)) (mvT hZ (hwi hw 27 rfl)) (mvT hZ (hwi hw 17 rfl)) (mvT hZ (hwi hw 28 rfl)) (by decide) (backOf (W := 0) (rmMax l Z a0 hw [] (0 : Int32) (1 : Int32) T151.heap n0 (Nat.le_trans Z0 K152.1)) hZ (hwi hw 28 rfl) (hwi hw 17 rfl) (by decide) (by decide)) (g := (mkF m 100 #[iv p1, iv p2, iv p3, iv 3, rv b2, rv b3, rv b5, rv b8, iv 0, iv 1, .unset, .unset] [(.int 1), (.int 0)])) rfl (by rw [hml]; rfl) (argsL := [(.int 0), (.int 1)]) (rest := []) (lenOf pd_1 rfl) rfl (by show 2 * 0 + _ ≤ _; exact Nat.le_of_eq rfl) (hb hby at_100) (fun _ _ => ⟨rfl, rfl, (by decide : 5 + 0 ≤ _), (by decide : 25 + 0 ≤ _)⟩)
          dsimp only [Pt.U, Pt.locs, Pt.cells, Pt.slots] at X157 l157 y157 z157 st157 hQ157
          subst l157 y157 z157
          obtain ⟨hv157, N157q, e157q⟩ := hQ157
          have N157 := Fr.app N151 N157q
          rw [show (if (0 : Int32) < (1 : Int32) then (1 : Int32) else (0 : Int32)) = (1 : Int32) from by decide] at hv157
          subst hv157
          have pre158 : ∀ t_, Go p e below T157 (mkF m 105 #[iv p1, iv p2, iv p3, iv 3, rv b2, rv b3, rv b5, rv b8, iv 0, iv 1, iv 1, .unset] []) t_ → Go p e below s₁ (entryFrame m #[(.int p1), (.int p2), (.int p3)] maxLocals) t_ := fun t_ kt => pre150 _ (by
              show Go p e below T149 (mkF m 89 #[iv p1, iv p2, iv p3, iv 3, rv b2, rv b3, rv b5, rv b8, iv 0, iv 1, .unset, .unset] []) _
              refine XS.aload X149.here hx rfl (hb hby at_89) rfl rfl ?_
              show Go p e below T149 (mkF m 91 #[iv p1, iv p2, iv p3, iv 3, rv b2, rv b3, rv b5, rv b8, iv 0, iv 1, .unset, .unset] [(.ref b8)]) _
              refine XS.iload X149.here hx rfl (hb hby at_91) rfl ?_
              show Go p e below T149 (mkF m 93 #[iv p1, iv p2, iv p3, iv 3, rv b2, rv b3, rv b5, rv b8, iv 0, iv 1, .unset, .unset] [(.int 1), (.ref b8)]) _
              refine st151.trans ?_
              show Go p e below T151 (mkF m 96 #[iv p1, iv p2, iv p3, iv 3, rv b2, rv b3, rv b5, rv b8, iv 0, iv 1, .unset, .unset] []) _
              refine XS.iload X151.here hx rfl (hb hby at_96) rfl ?_
              show Go p e below T151 (mkF m 98 #[iv p1, iv p2, iv p3, iv 3, rv b2, rv b3, rv b5, rv b8, iv 0, iv 1, .unset, .unset] [(.int 0)]) _
              refine XS.iload X151.here hx rfl (hb hby at_98) rfl ?_
              show Go p e below T151 (mkF m 100 #[iv p1, iv p2, iv p3, iv 3, rv b2, rv b3, rv b5, rv b8, iv 0, iv 1, .unset, .unset] [(.int 1), (.int 0)]) _
              refine st157 _ ?_
              show Go p e below T157 (mkF m 103 #[iv p1, iv p2, iv p3, iv 3, rv b2, rv b3, rv b5, rv b8, iv 0, iv 1, .unset, .unset] [(.int 1)]) _
              refine XS.istore X157.here hx rfl (hb hby at_103) rfl (l' := #[iv p1, iv p2, iv p3, iv 3, rv b2, rv b3, rv b5, rv b8, iv 0, iv 1, iv 1, .unset]) rfl ?_
              show Go p e below T157 (mkF m 105 #[iv p1, iv p2, iv p3, iv 3, rv b2, rv b3, rv b5, rv b8, iv 0, iv 1, iv 1, .unset] []) _
              exact kt)
          obtain ⟨s₂, o₂, hs1, hs2, hs3, hs4⟩ := tl3_1 p1 p2 p3 (0 : Int32) (1 : Int32) b8 b2 b3 b5 rg12 kr12 T151.heap n0 X157 hx hZ hw hby hml hown Bd.returns Bd.notSynchronized e157q N157 (Nat.le_trans Z0 K152.1) R151
          exact ⟨s₂, o₂, pre158 _ hs1, hs2, hs3, hs4⟩
        · obtain ⟨cq159, kq159, q159a, q159b, q159c⟩ := isOf hZ e149q E_140
          obtain ⟨_, _, ⟨T159, L159, k159, n159⟩, -, X159, ⟨Lc159, hQ159, l159, y159, z159⟩, st159⟩ := X149.virtualBack hx (y := (⟨"com/example/rowmotif/rowmotif/matcher/PartitionRows", "release", "(I)V"⟩ : MethodName)) (z := (⟨"com/example/rowmotif/rowmotif/matcher/PartitionRows", "release", "(I)V"⟩ : MethodName)) hown (mvT hZ (hwi hw 19 rfl)) (mvT hZ (hwi hw 20 rfl)) (notFace_of_selects (args := #[]) (mvT hZ (hwi hw 22 rfl))) (mvT hZ (hwi hw 22 rfl)) (mvT hZ (hwi hw 21 rfl)) (by decide) (backOf (W := 0) (rmR0_3_2 l Z a0 hw [] b8 rg12 kr12 (.ref b2) (.ref b3) (.ref b5) T140.heap n0 (Nat.le_trans Z0 K141.1) R140 g_b8 gr12) hZ (hwi hw 23 rfl) (hwi hw 4 rfl) (by decide) (by decide)) q159a q159c (g := (mkF m 93 #[iv p1, iv p2, iv p3, iv 3, rv b2, rv b3, rv b5, rv b8, iv 0, iv 2, .unset, .unset] [(.int 2), (.ref b8)])) rfl (by rw [hml]; rfl) (Steps.refl _) (argsL := [(.int 2)]) (rest := []) (lenOf pd_2 rfl) rfl (by show 2 * 0 + _ ≤ _; exact Nat.le_of_eq rfl) (hb hby at_93) (fun _ _ => ⟨rfl, e149q, (by decide : 5 + 0 ≤ _), (by decide : 25 + 0 ≤ _)⟩)
          dsimp only [Pt.U, Pt.locs, Pt.cells, Pt.slots] at X159 l159 y159 z159 st159 hQ159
          subst l159 y159 z159
          obtain ⟨rfl, N159q, kc159, R159⟩ := hQ159
          have N159 := Fr.app N149 N159q
          have K160 : Keep h0 T159.heap [] := K141.trans kc159 (allS (Or.inr sz_b8) (allS (Or.inr szr) all0))
          have f161 := f142.keep kc159
          have f162 := f143.keep kc159
          have f163 := f144.keep kc159
          have f164 := E_140.keep kc159
          have E_159 := R159.1
          obtain ⟨_, _, ⟨T165, L165, k165, n165⟩, -, X165, ⟨Lc165, hQ165, l165, y165, z165⟩, st165⟩ := Jvm.LawKit.callS X159 hx (y := (⟨"java/lang/Math", "max", "(II)I"⟩ : MethodName)) hown (mvT hZ (hwi hw 26 rfl)) (mvT hZ (hwi hw 27 rfl)) (mvT hZ (hwi hw 17 rfl)) (mvT hZ (hwi hw 28 rfl)) (by decide) (backOf (W := 0) (rmMax l Z a0 hw [] (0 : Int32) (2 : Int32) T159.heap n0 (Nat.le_trans Z0 K160.1)) hZ (hwi hw 28 rfl) (hwi hw 17 rfl) (by decide) (by decide)) (g := (mkF m 100 #[iv p1, iv p2, iv p3, iv 3, rv b2, rv b3, rv b5, rv b8, iv 0, iv 2, .unset, .unset] [(.int 2), (.int 0)])) rfl (by rw [hml]; rfl) (argsL := [(.int 0), (.int 2)]) (rest := []) (lenOf pd_1 rfl) rfl (by show 2 * 0 + _ ≤ _; exact Nat.le_of_eq rfl) (hb hby at_100) (fun _ _ => ⟨rfl, rfl, (by decide : 5 + 0 ≤ _), (by decide : 25 + 0 ≤ _)⟩)
          dsimp only [Pt.U, Pt.locs, Pt.cells, Pt.slots] at X165 l165 y165 z165 st165 hQ165
          subst l165 y165 z165
          obtain ⟨hv165, N165q, e165q⟩ := hQ165
          have N165 := Fr.app N159 N165q
          rw [show (if (0 : Int32) < (2 : Int32) then (2 : Int32) else (0 : Int32)) = (2 : Int32) from by decide] at hv165
          subst hv165
          have pre166 : ∀ t_, Go p e below T165 (mkF m 105 #[iv p1, iv p2, iv p3, iv 3, rv b2, rv b3, rv b5, rv b8, iv 0, iv 2, iv 2, .unset] []) t_ → Go p e below s₁ (entryFrame m #[(.int p1), (.int p2), (.int p3)] maxLocals) t_ := fun t_ kt => pre150 _ (by
              show Go p e below T149 (mkF m 89 #[iv p1, iv p2, iv p3, iv 3, rv b2, rv b3, rv b5, rv b8, iv 0, iv 2, .unset, .unset] []) _
              refine XS.aload X149.here hx rfl (hb hby at_89) rfl rfl ?_
              show Go p e below T149 (mkF m 91 #[iv p1, iv p2, iv p3, iv 3, rv b2, rv b3, rv b5, rv b8, iv 0, iv 2, .unset, .unset] [(.ref b8)]) _
              refine XS.iload X149.here hx rfl (hb hby at_91) rfl ?_
              show Go p e below T149 (mkF m 93 #[iv p1, iv p2, iv p3, iv 3, rv b2, rv b3, rv b5, rv b8, iv 0, iv 2, .unset, .unset] [(.int 2), (.ref b8)]) _
              refine st159.trans ?_
              show Go p e below T159 (mkF m 96 #[iv p1, iv p2, iv p3, iv 3, rv b2, rv b3, rv b5, rv b8, iv 0, iv 2, .unset, .unset] []) _
              refine XS.iload X159.here hx rfl (hb hby at_96) rfl ?_
              show Go p e below T159 (mkF m 98 #[iv p1, iv p2, iv p3, iv 3, rv b2, rv b3, rv b5, rv b8, iv 0, iv 2, .unset, .unset] [(.int 0)]) _
              refine XS.iload X159.here hx rfl (hb hby at_98) rfl ?_
              show Go p e below T159 (mkF m 100 #[iv p1, iv p2, iv p3, iv 3, rv b2, rv b3, rv b5, rv b8, iv 0, iv 2, .unset, .unset] [(.int 2), (.int 0)]) _
              refine st165 _ ?_
              show Go p e below T165 (mkF m 103 #[iv p1, iv p2, iv p3, iv 3, rv b2, rv b3, rv b5, rv b8, iv 0, iv 2, .unset, .unset] [(.int 2)]) _
              refine XS.istore X165.here hx rfl (hb hby at_103) rfl (l' := #[iv p1, iv p2, iv p3, iv 3, rv b2, rv b3, rv b5, rv b8, iv 0, iv 2, iv 2, .unset]) rfl ?_
              show Go p e below T165 (mkF m 105 #[iv p1, iv p2, iv p3, iv 3, rv b2, rv b3, rv b5, rv b8, iv 0, iv 2, iv 2, .unset] []) _
              exact kt)
          obtain ⟨s₂, o₂, hs1, hs2, hs3, hs4⟩ := tl3_2 p1 p2 p3 (0 : Int32) (2 : Int32) b8 b2 b3 b5 rg12 kr12 T159.heap n0 X165 hx hZ hw hby hml hown Bd.returns Bd.notSynchronized e165q N165 (Nat.le_trans Z0 K160.1) R159
          exact ⟨s₂, o₂, pre166 _ hs1, hs2, hs3, hs4⟩
        · obtain ⟨cq167, kq167, q167a, q167b, q167c⟩ := isOf hZ e149q E_140
          obtain ⟨_, _, ⟨T167, L167, k167, n167⟩, -, X167, ⟨Lc167, hQ167, l167, y167, z167⟩, st167⟩ := X149.virtualBack hx (y := (⟨"com/example/rowmotif/rowmotif/matcher/PartitionRows", "release", "(I)V"⟩ : MethodName)) (z := (⟨"com/example/rowmotif/rowmotif/matcher/PartitionRows", "release", "(I)V"⟩ : MethodName)) hown (mvT hZ (hwi hw 19 rfl)) (mvT hZ (hwi hw 20 rfl)) (notFace_of_selects (args := #[]) (mvT hZ (hwi hw 22 rfl))) (mvT hZ (hwi hw 22 rfl)) (mvT hZ (hwi hw 21 rfl)) (by decide) (backOf (W := 0) (rmR0_3_3 l Z a0 hw [] b8 rg12 kr12 (.ref b2) (.ref b3) (.ref b5) T140.heap n0 (Nat.le_trans Z0 K141.1) R140 g_b8 gr12) hZ (hwi hw 23 rfl) (hwi hw 4 rfl) (by decide) (by decide)) q167a q167c (g := (mkF m 93 #[iv p1, iv p2, iv p3, iv 3, rv b2, rv b3, rv b5, rv b8, iv 0, iv 3, .unset, .unset] [(.int 3), (.ref b8)])) rfl (by rw [hml]; rfl) (Steps.refl _) (argsL := [(.int 3)]) (rest := []) (lenOf pd_2 rfl) rfl (by show 2 * 0 + _ ≤ _; exact Nat.le_of_eq rfl) (hb hby at_93) (fun _ _ => ⟨rfl, e149q, (by decide : 5 + 0 ≤ _), (by decide : 25 + 0 ≤ _)⟩)
          dsimp only [Pt.U, Pt.locs, Pt.cells, Pt.slots] at X167 l167 y167 z167 st167 hQ167
          subst l167 y167 z167
          obtain ⟨rfl, N167q, kc167, R167⟩ := hQ167
          have N167 := Fr.app N149 N167q
          have K168 : Keep h0 T167.heap [] := K141.trans kc167 (allS (Or.inr sz_b8) (allS (Or.inr szr) all0))
          have f169 := f142.keep kc167
          have f170 := f143.keep kc167
          have f171 := f144.keep kc167
          have f172 := E_140.keep kc167
          have E_167 := R167.1
          obtain ⟨_, _, ⟨T173, L173, k173, n173⟩, -, X173, ⟨Lc173, hQ173, l173, y173, z173⟩, st173⟩ := Jvm.LawKit.callS X167 hx (y := (⟨"java/lang/Math", "max", "(II)I"⟩ : MethodName)) hown (mvT hZ (hwi hw 26 rfl)) (mvT hZ (hwi hw 27 rfl)) (mvT hZ (hwi hw 17 rfl)) (mvT hZ (hwi hw 28 rfl)) (by decide) (backOf (W := 0) (rmMax l Z a0 hw [] (0 : Int32) (3 : Int32) T167.heap n0 (Nat.le_trans Z0 K168.1)) hZ (hwi hw 28 rfl) (hwi hw 17 rfl) (by decide) (by decide)) (g := (mkF m 100 #[iv p1, iv p2, iv p3, iv 3, rv b2, rv b3, rv b5, rv b8, iv 0, iv 3, .unset, .unset] [(.int 3), (.int 0)])) rfl (by rw [hml]; rfl) (argsL := [(.int 0), (.int 3)]) (rest := []) (lenOf pd_1 rfl) rfl (by show 2 * 0 + _ ≤ _; exact Nat.le_of_eq rfl) (hb hby at_100) (fun _ _ => ⟨rfl, rfl, (by decide : 5 + 0 ≤ _), (by decide : 25 + 0 ≤ _)⟩)
          dsimp only [Pt.U, Pt.locs, Pt.cells, Pt.slots] at X173 l173 y173 z173 st173 hQ173
          subst l173 y173 z173
          obtain ⟨hv173, N173q, e173q⟩ := hQ173
          have N173 := Fr.app N167 N173q
          rw [show (if (0 : Int32) < (3 : Int32) then (3 : Int32) else (0 : Int32)) = (3 : Int32) from by decide] at hv173
          subst hv173
          have pre174 : ∀ t_, Go p e below T173 (mkF m 105 #[iv p1, iv p2, iv p3, iv 3, rv b2, rv b3, rv b5, rv b8, iv 0, iv 3, iv 3, .unset] []) t_ → Go p e below s₁ (entryFrame m #[(.int p1), (.int p2), (.int p3)] maxLocals) t_ := fun t_ kt => pre150 _ (by
              show Go p e below T149 (mkF m 89 #[iv p1, iv p2, iv p3, iv 3, rv b2, rv b3, rv b5, rv b8, iv 0, iv 3, .unset, .unset] []) _
              refine XS.aload X149.here hx rfl (hb hby at_89) rfl rfl ?_
              show Go p e below T149 (mkF m 91 #[iv p1, iv p2, iv p3, iv 3, rv b2, rv b3, rv b5, rv b8, iv 0, iv 3, .unset, .unset] [(.ref b8)]) _
              refine XS.iload X149.here hx rfl (hb hby at_91) rfl ?_
              show Go p e below T149 (mkF m 93 #[iv p1, iv p2, iv p3, iv 3, rv b2, rv b3, rv b5, rv b8, iv 0, iv 3, .unset, .unset] [(.int 3), (.ref b8)]) _
              refine st167.trans ?_
              show Go p e below T167 (mkF m 96 #[iv p1, iv p2, iv p3, iv 3, rv b2, rv b3, rv b5, rv b8, iv 0, iv 3, .unset, .unset] []) _
              refine XS.iload X167.here hx rfl (hb hby at_96) rfl ?_
              show Go p e below T167 (mkF m 98 #[iv p1, iv p2, iv p3, iv 3, rv b2, rv b3, rv b5, rv b8, iv 0, iv 3, .unset, .unset] [(.int 0)]) _
              refine XS.iload X167.here hx rfl (hb hby at_98) rfl ?_
              show Go p e below T167 (mkF m 100 #[iv p1, iv p2, iv p3, iv 3, rv b2, rv b3, rv b5, rv b8, iv 0, iv 3, .unset, .unset] [(.int 3), (.int 0)]) _
              refine st173 _ ?_
              show Go p e below T173 (mkF m 103 #[iv p1, iv p2, iv p3, iv 3, rv b2, rv b3, rv b5, rv b8, iv 0, iv 3, .unset, .unset] [(.int 3)]) _
              refine XS.istore X173.here hx rfl (hb hby at_103) rfl (l' := #[iv p1, iv p2, iv p3, iv 3, rv b2, rv b3, rv b5, rv b8, iv 0, iv 3, iv 3, .unset]) rfl ?_
              show Go p e below T173 (mkF m 105 #[iv p1, iv p2, iv p3, iv 3, rv b2, rv b3, rv b5, rv b8, iv 0, iv 3, iv 3, .unset] []) _
              exact kt)
          obtain ⟨s₂, o₂, hs1, hs2, hs3, hs4⟩ := tl3_3 p1 p2 p3 (0 : Int32) (3 : Int32) b8 b2 b3 b5 rg12 kr12 T167.heap n0 X173 hx hZ hw hby hml hown Bd.returns Bd.notSynchronized e173q N173 (Nat.le_trans Z0 K168.1) R167
          exact ⟨s₂, o₂, pre174 _ hs1, hs2, hs3, hs4⟩
      · obtain ⟨cq175, kq175, q175a, q175b, q175c⟩ := isOf hZ e149q E_140
        obtain ⟨_, _, ⟨T175, L175, k175, n175⟩, -, X175, ⟨Lc175, hQ175, l175, y175, z175⟩, st175⟩ := X149.virtualBack hx (y := (⟨"com/example/rowmotif/rowmotif/matcher/PartitionRows", "release", "(I)V"⟩ : MethodName)) (z := (⟨"com/example/rowmotif/rowmotif/matcher/PartitionRows", "release", "(I)V"⟩ : MethodName)) hown (mvT hZ (hwi hw 19 rfl)) (mvT hZ (hwi hw 20 rfl)) (notFace_of_selects (args := #[]) (mvT hZ (hwi hw 22 rfl))) (mvT hZ (hwi hw 22 rfl)) (mvT hZ (hwi hw 21 rfl)) (by decide) (backOf (W := 0) (rmR0 l Z a0 hw [] b8 bb (0 : Int32) T140.heap n0 (Nat.le_trans Z0 K141.1) R140.2.2.2.2.1 hkb) hZ (hwi hw 23 rfl) (hwi hw 4 rfl) (by decide) (by decide)) q175a q175c (g := (mkF m 93 #[iv p1, iv p2, iv p3, iv 3, rv b2, rv b3, rv b5, rv b8, iv 0, iv bb, .unset, .unset] [(.int bb), (.ref b8)])) rfl (by rw [hml]; rfl) (Steps.refl _) (argsL := [(.int bb)]) (rest := []) (lenOf pd_2 rfl) rfl (by show 2 * 0 + _ ≤ _; exact Nat.le_of_eq rfl) (hb hby at_93) (fun _ _ => ⟨rfl, e149q, (by decide : 5 + 0 ≤ _), (by decide : 25 + 0 ≤ _)⟩)
        dsimp only [Pt.U, Pt.locs, Pt.cells, Pt.slots] at X175 l175 y175 z175 st175 hQ175
        subst l175 y175 z175
        obtain ⟨rfl, N175q, e175q⟩ := hQ175
        have N175 := Fr.app N149 N175q
        obtain ⟨_, _, ⟨T176, L176, k176, n176⟩, -, X176, ⟨Lc176, hQ176, l176, y176, z176⟩, st176⟩ := Jvm.LawKit.callS X175 hx (y := (⟨"java/lang/Math", "max", "(II)I"⟩ : MethodName)) hown (mvT hZ (hwi hw 26 rfl)) (mvT hZ (hwi hw 27 rfl)) (mvT hZ (hwi hw 17 rfl)) (mvT hZ (hwi hw 28 rfl)) (by decide) (backOf (W := 0) (rmMax l Z a0 hw [] (0 : Int32) bb T140.heap n0 (Nat.le_trans Z0 K141.1)) hZ (hwi hw 28 rfl) (hwi hw 17 rfl) (by decide) (by decide)) (g := (mkF m 100 #[iv p1, iv p2, iv p3, iv 3, rv b2, rv b3, rv b5, rv b8, iv 0, iv bb, .unset, .unset] [(.int bb), (.int 0)])) rfl (by rw [hml]; rfl) (argsL := [(.int 0), (.int bb)]) (rest := []) (lenOf pd_1 rfl) rfl (by show 2 * 0 + _ ≤ _; exact Nat.le_of_eq rfl) (hb hby at_100) (fun _ _ => ⟨rfl, e175q, (by decide : 5 + 0 ≤ _), (by decide : 25 + 0 ≤ _)⟩)
        dsimp only [Pt.U, Pt.locs, Pt.cells, Pt.slots] at X176 l176 y176 z176 st176 hQ176
        subst l176 y176 z176
        obtain ⟨hv176, N176q, e176q⟩ := hQ176
        have N176 := Fr.app N175 N176q
        rw [if_neg hkb] at hv176
        subst hv176
        have pre177 : ∀ t_, Go p e below T176 (mkF m 105 #[iv p1, iv p2, iv p3, iv 3, rv b2, rv b3, rv b5, rv b8, iv 0, iv bb, iv 0, .unset] []) t_ → Go p e below s₁ (entryFrame m #[(.int p1), (.int p2), (.int p3)] maxLocals) t_ := fun t_ kt => pre150 _ (by
            show Go p e below T149 (mkF m 89 #[iv p1, iv p2, iv p3, iv 3, rv b2, rv b3, rv b5, rv b8, iv 0, iv bb, .unset, .unset] []) _
            refine XS.aload X149.here hx rfl (hb hby at_89) rfl rfl ?_
            show Go p e below T149 (mkF m 91 #[iv p1, iv p2, iv p3, iv 3, rv b2, rv b3, rv b5, rv b8, iv 0, iv bb, .unset, .unset] [(.ref b8)]) _
            refine XS.iload X149.here hx rfl (hb hby at_91) rfl ?_
            show Go p e below T149 (mkF m 93 #[iv p1, iv p2, iv p3, iv 3, rv b2, rv b3, rv b5, rv b8, iv 0, iv bb, .unset, .unset] [(.int bb), (.ref b8)]) _
            refine st175.trans ?_
            show Go p e below T175 (mkF m 96 #[iv p1, iv p2, iv p3, iv 3, rv b2, rv b3, rv b5, rv b8, iv 0, iv bb, .unset, .unset] []) _
            refine XS.iload X175.here hx rfl (hb hby at_96) rfl ?_
            show Go p e below T175 (mkF m 98 #[iv p1, iv p2, iv p3, iv 3, rv b2, rv b3, rv b5, rv b8, iv 0, iv bb, .unset, .unset] [(.int 0)]) _
            refine XS.iload X175.here hx rfl (hb hby at_98) rfl ?_
            show Go p e below T175 (mkF m 100 #[iv p1, iv p2, iv p3, iv 3, rv b2, rv b3, rv b5, rv b8, iv 0, iv bb, .unset, .unset] [(.int bb), (.int 0)]) _
            refine st176 _ ?_
            show Go p e below T176 (mkF m 103 #[iv p1, iv p2, iv p3, iv 3, rv b2, rv b3, rv b5, rv b8, iv 0, iv bb, .unset, .unset] [(.int 0)]) _
            refine XS.istore X176.here hx rfl (hb hby at_103) rfl (l' := #[iv p1, iv p2, iv p3, iv 3, rv b2, rv b3, rv b5, rv b8, iv 0, iv bb, iv 0, .unset]) rfl ?_
            show Go p e below T176 (mkF m 105 #[iv p1, iv p2, iv p3, iv 3, rv b2, rv b3, rv b5, rv b8, iv 0, iv bb, iv 0, .unset] []) _
            exact kt)
        obtain ⟨s₂, o₂, hs1, hs2, hs3, hs4⟩ := tl3_0 p1 p2 p3 (0 : Int32) bb b8 b2 b3 b5 rg12 kr12 T140.heap n0 X176 hx hZ hw hby hml hown Bd.returns Bd.notSynchronized e176q N176 (Nat.le_trans Z0 K141.1) R140
        exact ⟨s₂, o₂, pre177 _ hs1, hs2, hs3, hs4⟩
    · obtain ⟨cq178, kq178, q178a, q178b, q178c⟩ := isOf hZ e146q E_140
      obtain ⟨_, _, ⟨T178, L178, k178, n178⟩, -, X178, ⟨Lc178, hQ178, l178, y178, z178⟩, st178⟩ := X146.virtualBack hx (y := (⟨"com/example/rowmotif/rowmotif/matcher/PartitionRows", "release", "(I)V"⟩ : MethodName)) (z := (⟨"com/example/rowmotif/rowmotif/matcher/PartitionRows", "release", "(I)V"⟩ : MethodName)) hown (mvT hZ (hwi hw 19 rfl)) (mvT hZ (hwi hw 20 rfl)) (notFace_of_selects (args := #[]) (mvT hZ (hwi hw 22 rfl))) (mvT hZ (hwi hw 22 rfl)) (mvT hZ (hwi hw 21 rfl)) (by decide) (backOf (W := 0) (rmR0_3_1 l Z a0 hw [] b8 rg12 kr12 (.ref b2) (.ref b3) (.ref b5) T140.heap n0 (Nat.le_trans Z0 K141.1) R140 g_b8 gr12) hZ (hwi hw 23 rfl) (hwi hw 4 rfl) (by decide) (by decide)) q178a q178c (g := (mkF m 79 #[iv p1, iv p2, iv p3, iv 3, rv b2, rv b3, rv b5, rv b8, iv 1, .unset, .unset, .unset] [(.int 1), (.ref b8)])) rfl (by rw [hml]; rfl) (Steps.refl _) (argsL := [(.int 1)]) (rest := []) (lenOf pd_2 rfl) rfl (by show 2 * 0 + _ ≤ _; exact Nat.le_of_eq rfl) (hb hby at_79) (fun _ _ => ⟨rfl, e146q, (by decide : 5 + 0 ≤ _), (by decide : 25 + 0 ≤ _)⟩)
      dsimp only [Pt.U, Pt.locs, Pt.cells, Pt.slots] at X178 l178 y178 z178 st178 hQ178
      subst l178 y178 z178
      obtain ⟨rfl, N178q, kc178, R178⟩ := hQ178
      have N178 := Fr.app N146 N178q
      have K179 : Keep h0 T178.heap [] := K141.trans kc178 (allS (Or.inr sz_b8) (allS (Or.inr szr) all0))
      have f180 := f142.keep kc178
      have f181 := f143.keep kc178
      have f182 := f144.keep kc178
      have f183 := E_140.keep kc178
      have E_178 := R178.1
      obtain ⟨_, _, ⟨T184, L184, k184, n184⟩, -, X184, ⟨Lc184, hQ184, l184, y184, z184⟩, st184⟩ := Jvm.LawKit.callS X178 hx (y := (⟨"java/lang/Math", "min", "(II)I"⟩ : MethodName)) hown (mvT hZ (hwi hw 15 rfl)) (mvT hZ (hwi hw 16 rfl)) (mvT hZ (hwi hw 17 rfl)) (mvT hZ (hwi hw 18 rfl)) (by decide) (backOf (W := 0) (rmMin l Z a0 hw [] p3 (3 : Int32) T178.heap n0 (Nat.le_trans Z0 K179.1)) hZ (hwi hw 18 rfl) (hwi hw 17 rfl) (by decide) (by decide)) (g := (mkF m 84 #[iv p1, iv p2, iv p3, iv 3, rv b2, rv b3, rv b5, rv b8, iv 1, .unset, .unset, .unset] [(.int 3), (.int p3)])) rfl (by rw [hml]; rfl) (argsL := [(.int p3), (.int 3)]) (rest := []) (lenOf pd_1 rfl) rfl (by show 2 * 0 + _ ≤ _; exact Nat.le_of_eq rfl) (hb hby at_84) (fun _ _ => ⟨rfl, rfl, (by decide : 5 + 0 ≤ _), (by decide : 25 + 0 ≤ _)⟩)
      dsimp only [Pt.U, Pt.locs, Pt.cells, Pt.slots] at X184 l184 y184 z184 st184 hQ184
      subst l184 y184 z184
      obtain ⟨hv184, N184q, e184q⟩ := hQ184
      have N184 := Fr.app N178 N184q
      have hbn := own_minle p3 (3 : Int32)
      obtain ⟨bb, e_bb⟩ : ∃ z : Int32, z = (if (3 : Int32) < p3 then (3 : Int32) else p3) := ⟨_, rfl⟩
      rw [← e_bb] at hv184 hbn
      clear e_bb
      subst hv184
      have pre185 : ∀ t_, Go p e below T184 (mkF m 89 #[iv p1, iv p2, iv p3, iv 3, rv b2, rv b3, rv b5, rv b8, iv 1, iv bb, .unset, .unset] []) t_ → Go p e below s₁ (entryFrame m #[(.int p1), (.int p2), (.int p3)] maxLocals) t_ := fun t_ kt => pre147 _ (by
          show Go p e below T146 (mkF m 75 #[iv p1, iv p2, iv p3, iv 3, rv b2, rv b3, rv b5, rv b8, iv 1, .unset, .unset, .unset] []) _
          refine XS.aload X146.here hx rfl (hb hby at_75) rfl rfl ?_
          show Go p e below T146 (mkF m 77 #[iv p1, iv p2, iv p3, iv 3, rv b2, rv b3, rv b5, rv b8, iv 1, .unset, .unset, .unset] [(.ref b8)]) _
          refine XS.iload X146.here hx rfl (hb hby at_77) rfl ?_
          show Go p e below T146 (mkF m 79 #[iv p1, iv p2, iv p3, iv 3, rv b2, rv b3, rv b5, rv b8, iv 1, .unset, .unset, .unset] [(.int 1), (.ref b8)]) _
          refine st178.trans ?_
          show Go p e below T178 (mkF m 82 #[iv p1, iv p2, iv p3, iv 3, rv b2, rv b3, rv b5, rv b8, iv 1, .unset, .unset, .unset] []) _
          refine XS.iloadN X178.here hx rfl (hb hby at_82) rfl ?_
          show Go p e below T178 (mkF m 83 #[iv p1, iv p2, iv p3, iv 3, rv b2, rv b3, rv b5, rv b8, iv 1, .unset, .unset, .unset] [(.int p3)]) _
          refine XS.iloadN X178.here hx rfl (hb hby at_83) rfl ?_
          show Go p e below T178 (mkF m 84 #[iv p1, iv p2, iv p3, iv 3, rv b2, rv b3, rv b5, rv b8, iv 1, .unset, .unset, .unset] [(.int 3), (.int p3)]) _
          refine st184 _ ?_
          show Go p e below T184 (mkF m 87 #[iv p1, iv p2, iv p3, iv 3, rv b2, rv b3, rv b5, rv b8, iv 1, .unset, .unset, .unset] [(.int bb)]) _
          refine XS.istore X184.here hx rfl (hb hby at_87) rfl (l' := #[iv p1, iv p2, iv p3, iv 3, rv b2, rv b3, rv b5, rv b8, iv 1, iv bb, .unset, .unset]) rfl ?_
          show Go p e below T184 (mkF m 89 #[iv p1, iv p2, iv p3, iv 3, rv b2, rv b3, rv b5, rv b8, iv 1, iv bb, .unset, .unset] []) _
          exact kt)
      by_cases hkb : (1 : Int32) < bb
      · rcases own_btw1_3 hkb hbn with rfl | rfl
        · obtain ⟨cq186, kq186, q186a, q186b, q186c⟩ := isOf hZ e184q E_178
          obtain ⟨_, _, ⟨T186, L186, k186, n186⟩, -, X186, ⟨Lc186, hQ186, l186, y186, z186⟩, st186⟩ := X184.virtualBack hx (y := (⟨"com/example/rowmotif/rowmotif/matcher/PartitionRows", "release", "(I)V"⟩ : MethodName)) (z := (⟨"com/example/rowmotif/rowmotif/matcher/PartitionRows", "release", "(I)V"⟩ : MethodName)) hown (mvT hZ (hwi hw 19 rfl)) (mvT hZ (hwi hw 20 rfl)) (notFace_of_selects (args := #[]) (mvT hZ (hwi hw 22 rfl))) (mvT hZ (hwi hw 22 rfl)) (mvT hZ (hwi hw 21 rfl)) (by decide) (backOf (W := 0) (rmR1_2_1 l Z a0 hw [] b8 rg12 kr12 .null (.ref b3) (.ref b5) T178.heap n0 (Nat.le_trans Z0 K179.1) R178 g_b8 gr12) hZ (hwi hw 23 rfl) (hwi hw 4 rfl) (by decide) (by decide)) q186a q186c (g := (mkF m 93 #[iv p1, iv p2, iv p3, iv 3, rv b2, rv b3, rv b5, rv b8, iv 1, iv 2, .unset, .unset] [(.int 2), (.ref b8)])) rfl (by rw [hml]; rfl) (Steps.refl _) (argsL := [(.int 2)]) (rest := []) (lenOf pd_2 rfl) rfl (by show 2 * 0 + _ ≤ _; exact Nat.le_of_eq rfl) (hb hby at_93) (fun _ _ => ⟨rfl, e184q, (by decide : 5 + 0 ≤ _), (by decide : 25 + 0 ≤ _)⟩)
          dsimp only [Pt.U, Pt.locs, Pt.cells, Pt.slots] at X186 l186 y186 z186 st186 hQ186
          subst l186 y186 z186
          obtain ⟨rfl, N186q, kc186, R186⟩ := hQ186
          have N186 := Fr.app N184 N186q
          have K187 : Keep h0 T186.heap [] := K179.trans kc186 (allS (Or.inr sz_b8) (allS (Or.inr szr) all0))
          have f188 := f180.keep kc186
          have f189 := f181.keep kc186
          have f190 := f182.keep kc186
          have f191 := E_178.keep kc186
          have E_186 := R186.1
          obtain ⟨_, _, ⟨T192, L192, k192, n192⟩, -, X192, ⟨Lc192, hQ192, l192, y192, z192⟩, st192⟩ := Jvm.LawKit.callS X186 hx (y := (⟨"java/lang/Math", "max", "(II)I"⟩ : MethodName)) hown (mvT hZ (hwi hw 26 rfl)) (mvT hZ (hwi hw 27 rfl)) (mvT hZ (hwi hw 17 rfl)) (mvT hZ (hwi hw 28 rfl)) (by decide) (backOf (W := 0) (rmMax l Z a0 hw [] (1 : Int32) (2 : Int32) T186.heap n0 (Nat.le_trans Z0 K187.1)) hZ (hwi hw 28 rfl) (hwi hw 17 rfl) (by decide) (by decide)) (g := (mkF m 100 #[iv p1, iv p2, iv p3, iv 3, rv b2, rv b3, rv b5, rv b8, iv 1, iv 2, .unset, .unset] [(.int 2), (.int 1)])) rfl (by rw [hml]; rfl) (argsL := [(.int 1), (.int 2)]) (rest := []) (lenOf pd_1 rfl) rfl (by show 2 * 0 + _ ≤ _; exact Nat.le_of_eq rfl) (hb hby at_100) (fun _ _ => ⟨rfl, rfl, (by decide : 5 + 0 ≤ _), (by decide : 25 + 0 ≤ _)⟩)
          dsimp only [Pt.U, Pt.locs, Pt.cells, Pt.slots] at X192 l192 y192 z192 st192 hQ192
          subst l192 y192 z192
          obtain ⟨hv192, N192q, e192q⟩ := hQ192
          have N192 := Fr.app N186 N192q
          rw [show (if (1 : Int32) < (2 : Int32) then (2 : Int32) else (1 : Int32)) = (2 : Int32) from by decide] at hv192
          subst hv192
          have pre193 : ∀ t_, Go p e below T192 (mkF m 105 #[iv p1, iv p2, iv p3, iv 3, rv b2, rv b3, rv b5, rv b8, iv 1, iv 2, iv 2, .unset] []) t_ → Go p e below s₁ (entryFrame m #[(.int p1), (.int p2), (.int p3)] maxLocals) t_ := fun t_ kt => pre185 _ (by
              show Go p e below T184 (mkF m 89 #[iv p1, iv p2, iv p3, iv 3, rv b2, rv b3, rv b5, rv b8, iv 1, iv 2, .unset, .unset] []) _
              refine XS.aload X184.here hx rfl (hb hby at_89) rfl rfl ?_
              show Go p e below T184 (mkF m 91 #[iv p1, iv p2, iv p3, iv 3, rv b2, rv b3, rv b5, rv b8, iv 1, iv 2, .unset, .unset] [(.ref b8)]) _
              refine XS.iload X184.here hx rfl (hb hby at_91) rfl ?_
              show Go p e below T184 (mkF m 93 #[iv p1, iv p2, iv p3, iv 3, rv b2, rv b3, rv b5, rv b8, iv 1, iv 2, .unset, .unset] [(.int 2), (.ref b8)]) _
              refine st186.trans ?_
              show Go p e below T186 (mkF m 96 #[iv p1, iv p2, iv p3, iv 3, rv b2, rv b3, rv b5, rv b8, iv 1, iv 2, .unset, .unset] []) _
              refine XS.iload X186.here hx rfl (hb hby at_96) rfl ?_
              show Go p e below T186 (mkF m 98 #[iv p1, iv p2, iv p3, iv 3, rv b2, rv b3, rv b5, rv b8, iv 1, iv 2, .unset, .unset] [(.int 1)]) _
              refine XS.iload X186.here hx rfl (hb hby at_98) rfl ?_
              show Go p e below T186 (mkF m 100 #[iv p1, iv p2, iv p3, iv 3, rv b2, rv b3, rv b5, rv b8, iv 1, iv 2, .unset, .unset] [(.int 2), (.int 1)]) _
              refine st192 _ ?_
              show Go p e below T192 (mkF m 103 #[iv p1, iv p2, iv p3, iv 3, rv b2, rv b3, rv b5, rv b8, iv 1, iv 2, .unset, .unset] [(.int 2)]) _
              refine XS.istore X192.here hx rfl (hb hby at_103) rfl (l' := #[iv p1, iv p2, iv p3, iv 3, rv b2, rv b3, rv b5, rv b8, iv 1, iv 2, iv 2, .unset]) rfl ?_
              show Go p e below T192 (mkF m 105 #[iv p1, iv p2, iv p3, iv 3, rv b2, rv b3, rv b5, rv b8, iv 1, iv 2, iv 2, .unset] []) _
              exact kt)
          obtain ⟨s₂, o₂, hs1, hs2, hs3, hs4⟩ := tl3_2 p1 p2 p3 (1 : Int32) (2 : Int32) b8 b2 b3 b5 rg12 kr12 T186.heap n0 X192 hx hZ hw hby hml hown Bd.returns Bd.notSynchronized e192q N192 (Nat.le_trans Z0 K187.1) R186
          exact ⟨s₂, o₂, pre193 _ hs1, hs2, hs3, hs4⟩
        · obtain ⟨cq194, kq194, q194a, q194b, q194c⟩ := isOf hZ e184q E_178
          obtain ⟨_, _, ⟨T194, L194, k194, n194⟩, -, X194, ⟨Lc194, hQ194, l194, y194, z194⟩, st194⟩ := X184.virtualBack hx (y := (⟨"com/example/rowmotif/rowmotif/matcher/PartitionRows", "release", "(I)V"⟩ : MethodName)) (z := (⟨"com/example/rowmotif/rowmotif/matcher/PartitionRows", "release", "(I)V"⟩ : MethodName)) hown (mvT hZ (hwi hw 19 rfl)) (mvT hZ (hwi hw 20 rfl)) (notFace_of_selects (args := #[]) (mvT hZ (hwi hw 22 rfl))) (mvT hZ (hwi hw 22 rfl)) (mvT hZ (hwi hw 21 rfl)) (by decide) (backOf (W := 0) (rmR1_2_2 l Z a0 hw [] b8 rg12 kr12 .null (.ref b3) (.ref b5) T178.heap n0 (Nat.le_trans Z0 K179.1) R178 g_b8 gr12) hZ (hwi hw 23 rfl) (hwi hw 4 rfl) (by decide) (by decide)) q194a q194c (g := (mkF m 93 #[iv p1, iv p2, iv p3, iv 3, rv b2, rv b3, rv b5, rv b8, iv 1, iv 3, .unset, .unset] [(.int 3), (.ref b8)])) rfl (by rw [hml]; rfl) (Steps.refl _) (argsL := [(.int 3)]) (rest := []) (lenOf pd_2 rfl) rfl (by show 2 * 0 + _ ≤ _; exact Nat.le_of_eq rfl) (hb hby at_93) (fun _ _ => ⟨rfl, e184q, (by decide : 5 + 0 ≤ _), (by decide : 25 + 0 ≤ _)⟩)
          dsimp only [Pt.U, Pt.locs, Pt.cells, Pt.slots] at X194 l194 y194 z194 st194 hQ194
          subst l194 y194 z194
          obtain ⟨rfl, N194q, kc194, R194⟩ := hQ194
          have N194 := Fr.app N184 N194q
          have K195 : Keep h0 T194.heap [] := K179.trans kc194 (allS (Or.inr sz_b8) (allS (Or.inr szr) all0))
          have f196 := f180.keep kc194
          have f197 := f181.keep kc194
          have f198 := f182.keep kc194
          have f199 := E_178.keep kc194
          have E_194 := R194.1
          obtain ⟨_, _, ⟨T200, L200, k200, n200⟩, -, X200, ⟨Lc200, hQ200, l200, y200, z200⟩, st200⟩ := Jvm.LawKit.callS X194 hx (y := (⟨"java/lang/Math", "max", "(II)I"⟩ : MethodName)) hown (mvT hZ (hwi hw 26 rfl)) (mvT hZ (hwi hw 27 rfl)) (mvT hZ (hwi hw 17 rfl)) (mvT hZ (hwi hw 28 rfl)) (by decide) (backOf (W := 0) (rmMax l Z a0 hw [] (1 : Int32) (3 : Int32) T194.heap n0 (Nat.le_trans Z0 K195.1)) hZ (hwi hw 28 rfl) (hwi hw 17 rfl) (by decide) (by decide)) (g := (mkF m 100 #[iv p1, iv p2, iv p3, iv 3, rv b2, rv b3, rv b5, rv b8, iv 1, iv 3, .unset, .unset] [(.int 3), (.int 1)])) rfl (by rw [hml]; rfl) (argsL := [(.int 1), (.int 3)]) (rest := []) (lenOf pd_1 rfl) rfl (by show 2 * 0 + _ ≤ _; exact Nat.le_of_eq rfl) (hb hby at_100) (fun _ _ => ⟨rfl, rfl, (by decide : 5 + 0 ≤ _), (by decide : 25 + 0 ≤ _)⟩)
          dsimp only [Pt.U, Pt.locs, Pt.cells, Pt.slots] at X200 l200 y200 z200 st200 hQ200
          subst l200 y200 z200
          obtain ⟨hv200, N200q, e200q⟩ := hQ200
          have N200 := Fr.app N194 N200q
          rw [show (if (1 : Int32) < (3 : Int32) then (3 : Int32) else (1 : Int32)) = (3 : Int32) from by decide] at hv200
          subst hv200
          have pre201 : ∀ t_, Go p e below T200 (mkF m 105 #[iv p1, iv p2, iv p3, iv 3, rv b2, rv b3, rv b5, rv b8, iv 1, iv 3, iv 3, .unset] []) t_ → Go p e below s₁ (entryFrame m #[(.int p1), (.int p2), (.int p3)] maxLocals) t_ := fun t_ kt => pre185 _ (by
              show Go p e below T184 (mkF m 89 #[iv p1, iv p2, iv p3, iv 3, rv b2, rv b3, rv b5, rv b8, iv 1, iv 3, .unset, .unset] []) _
              refine XS.aload X184.here hx rfl (hb hby at_89) rfl rfl ?_
              show Go p e below T184 (mkF m 91 #[iv p1, iv p2, iv p3, iv 3, rv b2, rv b3, rv b5, rv b8, iv 1, iv 3, .unset, .unset] [(.ref b8)]) _
              refine XS.iload X184.here hx rfl (hb hby at_91) rfl ?_
              show Go p e below T184 (mkF m 93 #[iv p1, iv p2, iv p3, iv 3, rv b2, rv b3, rv b5, rv b8, iv 1, iv 3, .unset, .unset] [(.int 3), (.ref b8)]) _
              refine st194.trans ?_
              show Go p e below T194 (mkF m 96 #[iv p1, iv p2, iv p3, iv 3, rv b2, rv b3, rv b5, rv b8, iv 1, iv 3, .unset, .unset] []) _
              refine XS.iload X194.here hx rfl (hb hby at_96) rfl ?_
              show Go p e below T194 (mkF m 98 #[iv p1, iv p2, iv p3, iv 3, rv b2, rv b3, rv b5, rv b8, iv 1, iv 3, .unset, .unset] [(.int 1)]) _
              refine XS.iload X194.here hx rfl (hb hby at_98) rfl ?_
              show Go p e below T194 (mkF m 100 #[iv p1, iv p2, iv p3, iv 3, rv b2, rv b3, rv b5, rv b8, iv 1, iv 3, .unset, .unset] [(.int 3), (.int 1)]) _
              refine st200 _ ?_
              show Go p e below T200 (mkF m 103 #[iv p1, iv p2, iv p3, iv 3, rv b2, rv b3, rv b5, rv b8, iv 1, iv 3, .unset, .unset] [(.int 3)]) _
              refine XS.istore X200.here hx rfl (hb hby at_103) rfl (l' := #[iv p1, iv p2, iv p3, iv 3, rv b2, rv b3, rv b5, rv b8, iv 1, iv 3, iv 3, .unset]) rfl ?_
              show Go p e below T200 (mkF m 105 #[iv p1, iv p2, iv p3, iv 3, rv b2, rv b3, rv b5, rv b8, iv 1, iv 3, iv 3, .unset] []) _
              exact kt)
          obtain ⟨s₂, o₂, hs1, hs2, hs3, hs4⟩ := tl3_3 p1 p2 p3 (1 : Int32) (3 : Int32) b8 b2 b3 b5 rg12 kr12 T194.heap n0 X200 hx hZ hw hby hml hown Bd.returns Bd.notSynchronized e200q N200 (Nat.le_trans Z0 K195.1) R194
          exact ⟨s₂, o₂, pre201 _ hs1, hs2, hs3, hs4⟩
      · obtain ⟨cq202, kq202, q202a, q202b, q202c⟩ := isOf hZ e184q E_178
        obtain ⟨_, _, ⟨T202, L202, k202, n202⟩, -, X202, ⟨Lc202, hQ202, l202, y202, z202⟩, st202⟩ := X184.virtualBack hx (y := (⟨"com/example/rowmotif/rowmotif/matcher/PartitionRows", "release", "(I)V"⟩ : MethodName)) (z := (⟨"com/example/rowmotif/rowmotif/matcher/PartitionRows", "release", "(I)V"⟩ : MethodName)) hown (mvT hZ (hwi hw 19 rfl)) (mvT hZ (hwi hw 20 rfl)) (notFace_of_selects (args := #[]) (mvT hZ (hwi hw 22 rfl))) (mvT hZ (hwi hw 22 rfl)) (mvT hZ (hwi hw 21 rfl)) (by decide) (backOf (W := 0) (rmR0 l Z a0 hw [] b8 bb (1 : Int32) T178.heap n0 (Nat.le_trans Z0 K179.1) R178.2.2.2.2.1 hkb) hZ (hwi hw 23 rfl) (hwi hw 4 rfl) (by decide) (by decide)) q202a q202c (g := (mkF m 93 #[iv p1, iv p2, iv p3, iv 3, rv b2, rv b3, rv b5, rv b8, iv 1, iv bb, .unset, .unset] [(.int bb), (.ref b8)])) rfl (by rw [hml]; rfl) (Steps.refl _) (argsL := [(.int bb)]) (rest := []) (lenOf pd_2 rfl) rfl (by show 2 * 0 + _ ≤ _; exact Nat.le_of_eq rfl) (hb hby at_93) (fun _ _ => ⟨rfl, e184q, (by decide : 5 + 0 ≤ _), (by decide : 25 + 0 ≤ _)⟩)
        dsimp only [Pt.U, Pt.locs, Pt.cells, Pt.slots] at X202 l202 y202 z202 st202 hQ202
        subst l202 y202 z202
        obtain ⟨rfl, N202q, e202q⟩ := hQ202
        have N202 := Fr.app N184 N202q
        obtain ⟨_, _, ⟨T203, L203, k203, n203⟩, -, X203, ⟨Lc203, hQ203, l203, y203, z203⟩, st203⟩ := Jvm.LawKit.callS X202 hx (y := (⟨"java/lang/Math", "max", "(II)I"⟩ : MethodName)) hown (mvT hZ (hwi hw 26 rfl)) (mvT hZ (hwi hw 27 rfl)) (mvT hZ (hwi hw 17 rfl)) (mvT hZ (hwi hw 28 rfl)) (by decide) (backOf (W := 0) (rmMax l Z a0 hw [] (1 : Int32) bb T178.heap n0 (Nat.le_trans Z0 K179.1)) hZ (hwi hw 28 rfl) (hwi hw 17 rfl) (by decide) (by decide)) (g := (mkF m 100 #[iv p1, iv p2, iv p3, iv 3, rv b2, rv b3, rv b5, rv b8, iv 1, iv bb, .unset, .unset] [(.int bb), (.int 1)])) rfl (by rw [hml]; rfl) (argsL := [(.int 1), (.int bb)]) (rest := []) (lenOf pd_1 rfl) rfl (by show 2 * 0 + _ ≤ _; exact Nat.le_of_eq rfl) (hb hby at_100) (fun _ _ => ⟨rfl, e202q, (by decide : 5 + 0 ≤ _), (by decide : 25 + 0 ≤ _)⟩)
        dsimp only [Pt.U, Pt.locs, Pt.cells, Pt.slots] at X203 l203 y203 z203 st203 hQ203
        subst l203 y203 z203
        obtain ⟨hv203, N203q, e203q⟩ := hQ203
        have N203 := Fr.app N202 N203q
        rw [if_neg hkb] at hv203
        subst hv203
        have pre204 : ∀ t_, Go p e below T203 (mkF m 105 #[iv p1, iv p2, iv p3, iv 3, rv b2, rv b3, rv b5, rv b8, iv 1, iv bb, iv 1, .unset] []) t_ → Go p e below s₁ (entryFrame m #[(.int p1), (.int p2), (.int p3)] maxLocals) t_ := fun t_ kt => pre185 _ (by
            show Go p e below T184 (mkF m 89 #[iv p1, iv p2, iv p3, iv 3, rv b2, rv b3, rv b5, rv b8, iv 1, iv bb, .unset, .unset] []) _
            refine XS.aload X184.here hx rfl (hb hby at_89) rfl rfl ?_
            show Go p e below T184 (mkF m 91 #[iv p1, iv p2, iv p3, iv 3, rv b2, rv b3, rv b5, rv b8, iv 1, iv bb, .unset, .unset] [(.ref b8)]) _
            refine XS.iload X184.here hx rfl (hb hby at_91) rfl ?_
            show Go p e below T184 (mkF m 93 #[iv p1, iv p2, iv p3, iv 3, rv b2, rv b3, rv b5, rv b8, iv 1, iv bb, .unset, .unset] [(.int bb), (.ref b8)]) _
            refine st202.trans ?_
            show Go p e below T202 (mkF m 96 #[iv p1, iv p2, iv p3, iv 3, rv b2, rv b3, rv b5, rv b8, iv 1, iv bb, .unset, .unset] []) _
            refine XS.iload X202.here hx rfl (hb hby at_96) rfl ?_
            show Go p e below T202 (mkF m 98 #[iv p1, iv p2, iv p3, iv 3, rv b2, rv b3, rv b5, rv b8, iv 1, iv bb, .unset, .unset] [(.int 1)]) _
            refine XS.iload X202.here hx rfl (hb hby at_98) rfl ?_
            show Go p e below T202 (mkF m 100 #[iv p1, iv p2, iv p3, iv 3, rv b2, rv b3, rv b5, rv b8, iv 1, iv bb, .unset, .unset] [(.int bb), (.int 1)]) _
            refine st203 _ ?_
            show Go p e below T203 (mkF m 103 #[iv p1, iv p2, iv p3, iv 3, rv b2, rv b3, rv b5, rv b8, iv 1, iv bb, .unset, .unset] [(.int 1)]) _
            refine XS.istore X203.here hx rfl (hb hby at_103) rfl (l' := #[iv p1, iv p2, iv p3, iv 3, rv b2, rv b3, rv b5, rv b8, iv 1, iv bb, iv 1, .unset]) rfl ?_
            show Go p e below T203 (mkF m 105 #[iv p1, iv p2, iv p3, iv 3, rv b2, rv b3, rv b5, rv b8, iv 1, iv bb, iv 1, .unset] []) _
            exact kt)
        obtain ⟨s₂, o₂, hs1, hs2, hs3, hs4⟩ := tl3_1 p1 p2 p3 (1 : Int32) bb b8 b2 b3 b5 rg12 kr12 T178.heap n0 X203 hx hZ hw hby hml hown Bd.returns Bd.notSynchronized e203q N203 (Nat.le_trans Z0 K179.1) R178
        exact ⟨s₂, o₂, pre204 _ hs1, hs2, hs3, hs4⟩
    · obtain ⟨cq205, kq205, q205a, q205b, q205c⟩ := isOf hZ e146q E_140
      obtain ⟨_, _, ⟨T205, L205, k205, n205⟩, -, X205, ⟨Lc205, hQ205, l205, y205, z205⟩, st205⟩ := X146.virtualBack hx (y := (⟨"com/example/rowmotif/rowmotif/matcher/PartitionRows", "release", "(I)V"⟩ : MethodName)) (z := (⟨"com/example/rowmotif/rowmotif/matcher/PartitionRows", "release", "(I)V"⟩ : MethodName)) hown (mvT hZ (hwi hw 19 rfl)) (mvT hZ (hwi hw 20 rfl)) (notFace_of_selects (args := #[]) (mvT hZ (hwi hw 22 rfl))) (mvT hZ (hwi hw 22 rfl)) (mvT hZ (hwi hw 21 rfl)) (by decide) (backOf (W := 0) (rmR0_3_2 l Z a0 hw [] b8 rg12 kr12 (.ref b2) (.ref b3) (.ref b5) T140.heap n0 (Nat.le_trans Z0 K141.1) R140 g_b8 gr12) hZ (hwi hw 23 rfl) (hwi hw 4 rfl) (by decide) (by decide)) q205a q205c (g := (mkF m 79 #[iv p1, iv p2, iv p3, iv 3, rv b2, rv b3, rv b5, rv b8, iv 2, .unset, .unset, .unset] [(.int 2), (.ref b8)])) rfl (by rw [hml]; rfl) (Steps.refl _) (argsL := [(.int 2)]) (rest := []) (lenOf pd_2 rfl) rfl (by show 2 * 0 + _ ≤ _; exact Nat.le_of_eq rfl) (hb hby at_79) (fun _ _ => ⟨rfl, e146q, (by decide : 5 + 0 ≤ _), (by decide : 25 + 0 ≤ _)⟩)
      dsimp only [Pt.U, Pt.locs, Pt.cells, Pt.slots] at X205 l205 y205 z205 st205 hQ205
      subst l205 y205 z205
      obtain ⟨rfl, N205q, kc205, R205⟩ := hQ205
      have N205 := Fr.app N146 N205q
      have K206 : Keep h0 T205.heap [] := K141.trans kc205 (allS (Or.inr sz_b8) (allS (Or.inr szr) all0))
      have f207 := f142.keep kc205
      have f208 := f143.keep kc205
      have f209 := f144.keep kc205
      have f210 := E_140.keep kc205
      have E_205 := R205.1
      obtain ⟨_, _, ⟨T211, L211, k211, n211⟩, -, X211, ⟨Lc211, hQ211, l211, y211, z211⟩, st211⟩ := Jvm.LawKit.callS X205 hx (y := (⟨"java/lang/Math", "min", "(II)I"⟩ : MethodName)) hown (mvT hZ (hwi hw 15 rfl)) (mvT hZ (hwi hw 16 rfl)) (mvT hZ (hwi hw 17 rfl)) (mvT hZ (hwi hw 18 rfl)) (by decide) (backOf (W := 0) (rmMin l Z a0 hw [] p3 (3 : Int32) T205.heap n0 (Nat.le_trans Z0 K206.1)) hZ (hwi hw 18 rfl) (hwi hw 17 rfl) (by decide) (by decide)) (g := (mkF m 84 #[iv p1, iv p2, iv p3, iv 3, rv b2, rv b3, rv b5, rv b8, iv 2, .unset, .unset, .unset] [(.int 3), (.int p3)])) rfl (by rw [hml]; rfl) (argsL := [(.int p3), (.int 3)]) (rest := []) (lenOf pd_1 rfl) rfl (by show 2 * 0 + _ ≤ _; exact Nat.le_of_eq rfl) (hb hby at_84) (fun _ _ => ⟨rfl, rfl, (by decide : 5 + 0 ≤ _), (by decide : 25 + 0 ≤ _)⟩)
      dsimp only [Pt.U, Pt.locs, Pt.cells, Pt.slots] at X211 l211 y211 z211 st211 hQ211
      subst l211 y211 z211
      obtain ⟨hv211, N211q, e211q⟩ := hQ211
      have N211 := Fr.app N205 N211q
      have hbn := own_minle p3 (3 : Int32)
      obtain ⟨bb, e_bb⟩ : ∃ z : Int32, z = (if (3 : Int32) < p3 then (3 : Int32) else p3) := ⟨_, rfl⟩
      rw [← e_bb] at hv211 hbn
      clear e_bb
      subst hv211
      have pre212 : ∀ t_, Go p e below T211 (mkF m 89 #[iv p1, iv p2, iv p3, iv 3, rv b2, rv b3, rv b5, rv b8, iv 2, iv bb, .unset, .unset] []) t_ → Go p e below s₁ (entryFrame m #[(.int p1), (.int p2), (.int p3)] maxLocals) t_ := fun t_ kt => pre147 _ (by
          show Go p e below T146 (mkF m 75 #[iv p1, iv p2, iv p3, iv 3, rv b2, rv b3, rv b5, rv b8, iv 2, .unset, .unset, .unset] []) _
          refine XS.aload X146.here hx rfl (hb hby at_75) rfl rfl ?_
          show Go p e below T146 (mkF m 77 #[iv p1, iv p2, iv p3, iv 3, rv b2, rv b3, rv b5, rv b8, iv 2, .unset, .unset, .unset] [(.ref b8)]) _
          refine XS.iload X146.here hx rfl (hb hby at_77) rfl ?_
          show Go p e below T146 (mkF m 79 #[iv p1, iv p2, iv p3, iv 3, rv b2, rv b3, rv b5, rv b8, iv 2, .unset, .unset, .unset] [(.int 2), (.ref b8)]) _
          refine st205.trans ?_
          show Go p e below T205 (mkF m 82 #[iv p1, iv p2, iv p3, iv 3, rv b2, rv b3, rv b5, rv b8, iv 2, .unset, .unset, .unset] []) _
          refine XS.iloadN X205.here hx rfl (hb hby at_82) rfl ?_
          show Go p e below T205 (mkF m 83 #[iv p1, iv p2, iv p3, iv 3, rv b2, rv b3, rv b5, rv b8, iv 2, .unset, .unset, .unset] [(.int p3)]) _
          refine XS.iloadN X205.here hx rfl (hb hby at_83) rfl ?_
          show Go p e below T205 (mkF m 84 #[iv p1, iv p2, iv p3, iv 3, rv b2, rv b3, rv b5, rv b8, iv 2, .unset, .unset, .unset] [(.int 3), (.int p3)]) _
          refine st211 _ ?_
          show Go p e below T211 (mkF m 87 #[iv p1, iv p2, iv p3, iv 3, rv b2, rv b3, rv b5, rv b8, iv 2, .unset, .unset, .unset] [(.int bb)]) _
          refine XS.istore X211.here hx rfl (hb hby at_87) rfl (l' := #[iv p1, iv p2, iv p3, iv 3, rv b2, rv b3, rv b5, rv b8, iv 2, iv bb, .unset, .unset]) rfl ?_
          show Go p e below T211 (mkF m 89 #[iv p1, iv p2, iv p3, iv 3, rv b2, rv b3, rv b5, rv b8, iv 2, iv bb, .unset, .unset] []) _
          exact kt)
      by_cases hkb : (2 : Int32) < bb
      · rcases own_btw2_3 hkb hbn with rfl
        · obtain ⟨cq213, kq213, q213a, q213b, q213c⟩ := isOf hZ e211q E_205
          obtain ⟨_, _, ⟨T213, L213, k213, n213⟩, -, X213, ⟨Lc213, hQ213, l213, y213, z213⟩, st213⟩ := X211.virtualBack hx (y := (⟨"com/example/rowmotif/rowmotif/matcher/PartitionRows", "release", "(I)V"⟩ : MethodName)) (z := (⟨"com/example/rowmotif/rowmotif/matcher/PartitionRows", "release", "(I)V"⟩ : MethodName)) hown (mvT hZ (hwi hw 19 rfl)) (mvT hZ (hwi hw 20 rfl)) (notFace_of_selects (args := #[]) (mvT hZ (hwi hw 22 rfl))) (mvT hZ (hwi hw 22 rfl)) (mvT hZ (hwi hw 21 rfl)) (by decide) (backOf (W := 0) (rmR2_1_1 l Z a0 hw [] b8 rg12 kr12 .null .null (.ref b5) T205.heap n0 (Nat.le_trans Z0 K206.1) R205 g_b8 gr12) hZ (hwi hw 23 rfl) (hwi hw 4 rfl) (by decide) (by decide)) q213a q213c (g := (mkF m 93 #[iv p1, iv p2, iv p3, iv 3, rv b2, rv b3, rv b5, rv b8, iv 2, iv 3, .unset, .unset] [(.int 3), (.ref b8)])) rfl (by rw [hml]; rfl) (Steps.refl _) (argsL := [(.int 3)]) (rest := []) (lenOf pd_2 rfl) rfl (by show 2 * 0 + _ ≤ _; exact Nat.le_of_eq rfl) (hb hby at_93) (fun _ _ => ⟨rfl, e211q, (by decide : 5 + 0 ≤ _), (by decide : 25 + 0 ≤ _)⟩)
          dsimp only [Pt.U, Pt.locs, Pt.cells, Pt.slots] at X213 l213 y213 z213 st213 hQ213
          subst l213 y213 z213
          obtain ⟨rfl, N213q, kc213, R213⟩ := hQ213
          have N213 := Fr.app N211 N213q
          have K214 : Keep h0 T213.heap [] := K206.trans kc213 (allS (Or.inr sz_b8) (allS (Or.inr szr) all0))
          have f215 := f207.keep kc213
          have f216 := f208.keep kc213
          have f217 := f209.keep kc213
          have f218 := E_205.keep kc213
          have E_213 := R213.1
          obtain ⟨_, _, ⟨T219, L219, k219, n219⟩, -, X219, ⟨Lc219, hQ219, l219, y219, z219⟩, st219⟩ := Jvm.LawKit.callS X213 hx (y := (⟨"java/lang/Math", "max", "(II)I"⟩ : MethodName)) hown (mvT hZ (hwi hw 26 rfl)) (mvT hZ (hwi hw 27 rfl)) (mvT hZ (hwi hw 17 rfl)) (mvT hZ (hwi hw 28 rfl)) (by decide) (backOf (W := 0) (rmMax l Z a0 hw [] (2 : Int32) (3 : Int32) T213.heap n0 (Nat.le_trans Z0 K214.1)) hZ (hwi hw 28 rfl) (hwi hw 17 rfl) (by decide) (by decide)) (g := (mkF m 100 #[iv p1, iv p2, iv p3, iv 3, rv b2, rv b3, rv b5, rv b8, iv 2, iv 3, .unset, .unset] [(.int 3), (.int 2)])) rfl (by rw [hml]; rfl) (argsL := [(.int 2), (.int 3)]) (rest := []) (lenOf pd_1 rfl) rfl (by show 2 * 0 + _ ≤ _; exact Nat.le_of_eq rfl) (hb hby at_100) (fun _ _ => ⟨rfl, rfl, (by decide : 5 + 0 ≤ _), (by decide : 25 + 0 ≤ _)⟩)
          dsimp only [Pt.U, Pt.locs, Pt.cells, Pt.slots] at X219 l219 y219 z219 st219 hQ219
          subst l219 y219 z219
          obtain ⟨hv219, N219q, e219q⟩ := hQ219
          have N219 := Fr.app N213 N219q
          rw [show (if (2 : Int32) < (3 : Int32) then (3 : Int32) else (2 : Int32)) = (3 : Int32) from by decide] at hv219
          subst hv219
          have pre220 : ∀ t_, Go p e below T219 (mkF m 105 #[iv p1, iv p2, iv p3, iv 3, rv b2, rv b3, rv b5, rv b8, iv 2, iv 3, iv 3, .unset] []) t_ → Go p e below s₁ (entryFrame m #[(.int p1), (.int p2), (.int p3)] maxLocals) t_ := fun t_ kt => pre212 _ (by
              show Go p e below T211 (mkF m 89 #[iv p1, iv p2, iv p3, iv 3, rv b2, rv b3, rv b5, rv b8, iv 2, iv 3, .unset, .unset] []) _
              refine XS.aload X211.here hx rfl (hb hby at_89) rfl rfl ?_
              show Go p e below T211 (mkF m 91 #[iv p1, iv p2, iv p3, iv 3, rv b2, rv b3, rv b5, rv b8, iv 2, iv 3, .unset, .unset] [(.ref b8)]) _
              refine XS.iload X211.here hx rfl (hb hby at_91) rfl ?_
              show Go p e below T211 (mkF m 93 #[iv p1, iv p2, iv p3, iv 3, rv b2, rv b3, rv b5, rv b8, iv 2, iv 3, .unset, .unset] [(.int 3), (.ref b8)]) _
              refine st213.trans ?_
              show Go p e below T213 (mkF m 96 #[iv p1, iv p2, iv p3, iv 3, rv b2, rv b3, rv b5, rv b8, iv 2, iv 3, .unset, .unset] []) _
              refine XS.iload X213.here hx rfl (hb hby at_96) rfl ?_
              show Go p e below T213 (mkF m 98 #[iv p1, iv p2, iv p3, iv 3, rv b2, rv b3, rv b5, rv b8, iv 2, iv 3, .unset, .unset] [(.int 2)]) _
              refine XS.iload X213.here hx rfl (hb hby at_98) rfl ?_
              show Go p e below T213 (mkF m 100 #[iv p1, iv p2, iv p3, iv 3, rv b2, rv b3, rv b5, rv b8, iv 2, iv 3, .unset, .unset] [(.int 3), (.int 2)]) _
              refine st219 _ ?_
              show Go p e below T219 (mkF m 103 #[iv p1, iv p2, iv p3, iv 3, rv b2, rv b3, rv b5, rv b8, iv 2, iv 3, .unset, .unset] [(.int 3)]) _
              refine XS.istore X219.here hx rfl (hb hby at_103) rfl (l' := #[iv p1, iv p2, iv p3, iv 3, rv b2, rv b3, rv b5, rv b8, iv 2, iv 3, iv 3, .unset]) rfl ?_
              show Go p e below T219 (mkF m 105 #[iv p1, iv p2, iv p3, iv 3, rv b2, rv b3, rv b5, rv b8, iv 2, iv 3, iv 3, .unset] []) _
              exact kt)
          obtain ⟨s₂, o₂, hs1, hs2, hs3, hs4⟩ := tl3_3 p1 p2 p3 (2 : Int32) (3 : Int32) b8 b2 b3 b5 rg12 kr12 T213.heap n0 X219 hx hZ hw hby hml hown Bd.returns Bd.notSynchronized e219q N219 (Nat.le_trans Z0 K214.1) R213
          exact ⟨s₂, o₂, pre220 _ hs1, hs2, hs3, hs4⟩
      · obtain ⟨cq221, kq221, q221a, q221b, q221c⟩ := isOf hZ e211q E_205
        obtain ⟨_, _, ⟨T221, L221, k221, n221⟩, -, X221, ⟨Lc221, hQ221, l221, y221, z221⟩, st221⟩ := X211.virtualBack hx (y := (⟨"com/example/rowmotif/rowmotif/matcher/PartitionRows", "release", "(I)V"⟩ : MethodName)) (z := (⟨"com/example/rowmotif/rowmotif/matcher/PartitionRows", "release", "(I)V"⟩ : MethodName)) hown (mvT hZ (hwi hw 19 rfl)) (mvT hZ (hwi hw 20 rfl)) (notFace_of_selects (args := #[]) (mvT hZ (hwi hw 22 rfl))) (mvT hZ (hwi hw 22 rfl)) (mvT hZ (hwi hw 21 rfl)) (by decide) (backOf (W := 0) (rmR0 l Z a0 hw [] b8 bb (2 : Int32) T205.heap n0 (Nat.le_trans Z0 K206.1) R205.2.2.2.2.1 hkb) hZ (hwi hw 23 rfl) (hwi hw 4 rfl) (by decide) (by decide)) q221a q221c (g := (mkF m 93 #[iv p1, iv p2, iv p3, iv 3, rv b2, rv b3, rv b5, rv b8, iv 2, iv bb, .unset, .unset] [(.int bb), (.ref b8)])) rfl (by rw [hml]; rfl) (Steps.refl _) (argsL := [(.int bb)]) (rest := []) (lenOf pd_2 rfl) rfl (by show 2 * 0 + _ ≤ _; exact Nat.le_of_eq rfl) (hb hby at_93) (fun _ _ => ⟨rfl, e211q, (by decide : 5 + 0 ≤ _), (by decide : 25 + 0 ≤ _)⟩)
        dsimp only [Pt.U, Pt.locs, Pt.cells, Pt.slots] at X221 l221 y221 z221 st221 hQ221
        subst l221 y221 z221
        obtain ⟨rfl, N221q, e221q⟩ := hQ221
        have N221 := Fr.app N211 N221q
        obtain ⟨_, _, ⟨T222, L222, k222, n222⟩, -, X222, ⟨Lc222, hQ222, l222, y222, z222⟩, st222⟩ := Jvm.LawKit.callS X221 hx (y := (⟨"java/lang/Math", "max", "(II)I"⟩ : MethodName)) hown (mvT hZ (hwi hw 26 rfl)) (mvT hZ (hwi hw 27 rfl)) (mvT hZ (hwi hw 17 rfl)) (mvT hZ (hwi hw 28 rfl)) (by decide) (backOf (W := 0) (rmMax l Z a0 hw [] (2 : Int32) bb T205.heap n0 (Nat.le_trans Z0 K206.1)) hZ (hwi hw 28 rfl) (hwi hw 17 rfl) (by decide) (by decide)) (g := (mkF m 100 #[iv p1, iv p2, iv p3, iv 3, rv b2, rv b3, rv b5, rv b8, iv 2, iv bb, .unset, .unset] [(.int bb), (.int 2)])) rfl (by rw [hml]; rfl) (argsL := [(.int 2), (.int bb)]) (rest := []) (lenOf pd_1 rfl) rfl (by show 2 * 0 + _ ≤ _; exact Nat.le_of_eq rfl) (hb hby at_100) (fun _ _ => ⟨rfl, e221q, (by decide : 5 + 0 ≤ _), (by decide : 25 + 0 ≤ _)⟩)
        dsimp only [Pt.U, Pt.locs, Pt.cells, Pt.slots] at X222 l222 y222 z222 st222 hQ222
        subst l222 y222 z222
        obtain ⟨hv222, N222q, e222q⟩ := hQ222
        have N222 := Fr.app N221 N222q
        rw [if_neg hkb] at hv222
        subst hv222
        have pre223 : ∀ t_, Go p e below T222 (mkF m 105 #[iv p1, iv p2, iv p3, iv 3, rv b2, rv b3, rv b5, rv b8, iv 2, iv bb, iv 2, .unset] []) t_ → Go p e below s₁ (entryFrame m #[(.int p1), (.int p2), (.int p3)] maxLocals) t_ := fun t_ kt => pre212 _ (by
            show Go p e below T211 (mkF m 89 #[iv p1, iv p2, iv p3, iv 3, rv b2, rv b3, rv b5, rv b8, iv 2, iv bb, .unset, .unset] []) _
            refine XS.aload X211.here hx rfl (hb hby at_89) rfl rfl ?_
            show Go p e below T211 (mkF m 91 #[iv p1, iv p2, iv p3, iv 3, rv b2, rv b3, rv b5, rv b8, iv 2, iv bb, .unset, .unset] [(.ref b8)]) _
            refine XS.iload X211.here hx rfl (hb hby at_91) rfl ?_
            show Go p e below T211 (mkF m 93 #[iv p1, iv p2, iv p3, iv 3, rv b2, rv b3, rv b5, rv b8, iv 2, iv bb, .unset, .unset] [(.int bb), (.ref b8)]) _
            refine st221.trans ?_
            show Go p e below T221 (mkF m 96 #[iv p1, iv p2, iv p3, iv 3, rv b2, rv b3, rv b5, rv b8, iv 2, iv bb, .unset, .unset] []) _
            refine XS.iload X221.here hx rfl (hb hby at_96) rfl ?_
            show Go p e below T221 (mkF m 98 #[iv p1, iv p2, iv p3, iv 3, rv b2, rv b3, rv b5, rv b8, iv 2, iv bb, .unset, .unset] [(.int 2)]) _
            refine XS.iload X221.here hx rfl (hb hby at_98) rfl ?_
            show Go p e below T221 (mkF m 100 #[iv p1, iv p2, iv p3, iv 3, rv b2, rv b3, rv b5, rv b8, iv 2, iv bb, .unset, .unset] [(.int bb), (.int 2)]) _
            refine st222 _ ?_
            show Go p e below T222 (mkF m 103 #[iv p1, iv p2, iv p3, iv 3, rv b2, rv b3, rv b5, rv b8, iv 2, iv bb, .unset, .unset] [(.int 2)]) _
            refine XS.istore X222.here hx rfl (hb hby at_103) rfl (l' := #[iv p1, iv p2, iv p3, iv 3, rv b2, rv b3, rv b5, rv b8, iv 2, iv bb, iv 2, .unset]) rfl ?_
            show Go p e below T222 (mkF m 105 #[iv p1, iv p2, iv p3, iv 3, rv b2, rv b3, rv b5, rv b8, iv 2, iv bb, iv 2, .unset] []) _
            exact kt)
        obtain ⟨s₂, o₂, hs1, hs2, hs3, hs4⟩ := tl3_2 p1 p2 p3 (2 : Int32) bb b8 b2 b3 b5 rg12 kr12 T205.heap n0 X222 hx hZ hw hby hml hown Bd.returns Bd.notSynchronized e222q N222 (Nat.le_trans Z0 K206.1) R205
        exact ⟨s₂, o₂, pre223 _ hs1, hs2, hs3, hs4⟩
    · obtain ⟨cq224, kq224, q224a, q224b, q224c⟩ := isOf hZ e146q E_140
      obtain ⟨_, _, ⟨T224, L224, k224, n224⟩, -, X224, ⟨Lc224, hQ224, l224, y224, z224⟩, st224⟩ := X146.virtualBack hx (y := (⟨"com/example/rowmotif/rowmotif/matcher/PartitionRows", "release", "(I)V"⟩ : MethodName)) (z := (⟨"com/example/rowmotif/rowmotif/matcher/PartitionRows", "release", "(I)V"⟩ : MethodName)) hown (mvT hZ (hwi hw 19 rfl)) (mvT hZ (hwi hw 20 rfl)) (notFace_of_selects (args := #[]) (mvT hZ (hwi hw 22 rfl))) (mvT hZ (hwi hw 22 rfl)) (mvT hZ (hwi hw 21 rfl)) (by decide) (backOf (W := 0) (rmR0_3_3 l Z a0 hw [] b8 rg12 kr12 (.ref b2) (.ref b3) (.ref b5) T140.heap n0 (Nat.le_trans Z0 K141.1) R140 g_b8 gr12) hZ (hwi hw 23 rfl) (hwi hw 4 rfl) (by decide) (by decide)) q224a q224c (g := (mkF m 79 #[iv p1, iv p2, iv p3, iv 3, rv b2, rv b3, rv b5, rv b8, iv 3, .unset, .unset, .unset] [(.int 3), (.ref b8)])) rfl (by rw [hml]; rfl) (Steps.refl _) (argsL := [(.int 3)]) (rest := []) (lenOf pd_2 rfl) rfl (by show 2 * 0 + _ ≤ _; exact Nat.le_of_eq rfl) (hb hby at_79) (fun _ _ => ⟨rfl, e146q, (by decide : 5 + 0 ≤ _), (by decide : 25 + 0 ≤ _)⟩)
      dsimp only [Pt.U, Pt.locs, Pt.cells, Pt.slots] at X224 l224 y224 z224 st224 hQ224
      subst l224 y224 z224
      obtain ⟨rfl, N224q, kc224, R224⟩ := hQ224
      have N224 := Fr.app N146 N224q
      have K225 : Keep h0 T224.heap [] := K141.trans kc224 (allS (Or.inr sz_b8) (allS (Or.inr szr) all0))
      have f226 := f142.keep kc224
      have f227 := f143.keep kc224
      have f228 := f144.keep kc224
      have f229 := E_140.keep kc224
      have E_224 := R224.1
      obtain ⟨_, _, ⟨T230, L230, k230, n230⟩, -, X230, ⟨Lc230, hQ230, l230, y230, z230⟩, st230⟩ := Jvm.LawKit.callS X224 hx (y := (⟨"java/lang/Math", "min", "(II)I"⟩ : MethodName)) hown (mvT hZ (hwi hw 15 rfl)) (mvT hZ (hwi hw 16 rfl)) (mvT hZ (hwi hw 17 rfl)) (mvT hZ (hwi hw 18 rfl)) (by decide) (backOf (W := 0) (rmMin l Z a0 hw [] p3 (3 : Int32) T224.heap n0 (Nat.le_trans Z0 K225.1)) hZ (hwi hw 18 rfl) (hwi hw 17 rfl) (by decide) (by decide)) (g := (mkF m 84 #[iv p1, iv p2, iv p3, iv 3, rv b2, rv b3, rv b5, rv b8, iv 3, .unset, .unset, .unset] [(.int 3), (.int p3)])) rfl (by rw [hml]; rfl) (argsL := [(.int p3), (.int 3)]) (rest := []) (lenOf pd_1 rfl) rfl (by show 2 * 0 + _ ≤ _; exact Nat.le_of_eq rfl) (hb hby at_84) (fun _ _ => ⟨rfl, rfl, (by decide : 5 + 0 ≤ _), (by decide : 25 + 0 ≤ _)⟩)
      dsimp only [Pt.U, Pt.locs, Pt.cells, Pt.slots] at X230 l230 y230 z230 st230 hQ230
      subst l230 y230 z230
      obtain ⟨hv230, N230q, e230q⟩ := hQ230
      have N230 := Fr.app N224 N230q
      have hbn := own_minle p3 (3 : Int32)
      obtain ⟨bb, e_bb⟩ : ∃ z : Int32, z = (if (3 : Int32) < p3 then (3 : Int32) else p3) := ⟨_, rfl⟩
      rw [← e_bb] at hv230 hbn
      clear e_bb
      subst hv230
      obtain ⟨cq231, kq231, q231a, q231b, q231c⟩ := isOf hZ e230q E_224
      obtain ⟨_, _, ⟨T231, L231, k231, n231⟩, -, X231, ⟨Lc231, hQ231, l231, y231, z231⟩, st231⟩ := X230.virtualBack hx (y := (⟨"com/example/rowmotif/rowmotif/matcher/PartitionRows", "release", "(I)V"⟩ : MethodName)) (z := (⟨"com/example/rowmotif/rowmotif/matcher/PartitionRows", "release", "(I)V"⟩ : MethodName)) hown (mvT hZ (hwi hw 19 rfl)) (mvT hZ (hwi hw 20 rfl)) (notFace_of_selects (args := #[]) (mvT hZ (hwi hw 22 rfl))) (mvT hZ (hwi hw 22 rfl)) (mvT hZ (hwi hw 21 rfl)) (by decide) (backOf (W := 0) (rmR0 l Z a0 hw [] b8 bb (3 : Int32) T224.heap n0 (Nat.le_trans Z0 K225.1) R224.2.2.2.2.1 hbn) hZ (hwi hw 23 rfl) (hwi hw 4 rfl) (by decide) (by decide)) q231a q231c (g := (mkF m 93 #[iv p1, iv p2, iv p3, iv 3, rv b2, rv b3, rv b5, rv b8, iv 3, iv bb, .unset, .unset] [(.int bb), (.ref b8)])) rfl (by rw [hml]; rfl) (Steps.refl _) (argsL := [(.int bb)]) (rest := []) (lenOf pd_2 rfl) rfl (by show 2 * 0 + _ ≤ _; exact Nat.le_of_eq rfl) (hb hby at_93) (fun _ _ => ⟨rfl, e230q, (by decide : 5 + 0 ≤ _), (by decide : 25 + 0 ≤ _)⟩)
      dsimp only [Pt.U, Pt.locs, Pt.cells, Pt.slots] at X231 l231 y231 z231 st231 hQ231
      subst l231 y231 z231
      obtain ⟨rfl, N231q, e231q⟩ := hQ231
      have N231 := Fr.app N230 N231q
      obtain ⟨_, _, ⟨T232, L232, k232, n232⟩, -, X232, ⟨Lc232, hQ232, l232, y232, z232⟩, st232⟩ := Jvm.LawKit.callS X231 hx (y := (⟨"java/lang/Math", "max", "(II)I"⟩ : MethodName)) hown (mvT hZ (hwi hw 26 rfl)) (mvT hZ (hwi hw 27 rfl)) (mvT hZ (hwi hw 17 rfl)) (mvT hZ (hwi hw 28 rfl)) (by decide) (backOf (W := 0) (rmMax l Z a0 hw [] (3 : Int32) bb T224.heap n0 (Nat.le_trans Z0 K225.1)) hZ (hwi hw 28 rfl) (hwi hw 17 rfl) (by decide) (by decide)) (g := (mkF m 100 #[iv p1, iv p2, iv p3, iv 3, rv b2, rv b3, rv b5, rv b8, iv 3, iv bb, .unset, .unset] [(.int bb), (.int 3)])) rfl (by rw [hml]; rfl) (argsL := [(.int 3), (.int bb)]) (rest := []) (lenOf pd_1 rfl) rfl (by show 2 * 0 + _ ≤ _; exact Nat.le_of_eq rfl) (hb hby at_100) (fun _ _ => ⟨rfl, e231q, (by decide : 5 + 0 ≤ _), (by decide : 25 + 0 ≤ _)⟩)
      dsimp only [Pt.U, Pt.locs, Pt.cells, Pt.slots] at X232 l232 y232 z232 st232 hQ232
      subst l232 y232 z232
      obtain ⟨hv232, N232q, e232q⟩ := hQ232
      have N232 := Fr.app N231 N232q
      rw [if_neg hbn] at hv232
      subst hv232
      have pre233 : ∀ t_, Go p e below T232 (mkF m 105 #[iv p1, iv p2, iv p3, iv 3, rv b2, rv b3, rv b5, rv b8, iv 3, iv bb, iv 3, .unset] []) t_ → Go p e below s₁ (entryFrame m #[(.int p1), (.int p2), (.int p3)] maxLocals) t_ := fun t_ kt => pre147 _ (by
          show Go p e below T146 (mkF m 75 #[iv p1, iv p2, iv p3, iv 3, rv b2, rv b3, rv b5, rv b8, iv 3, .unset, .unset, .unset] []) _
          refine XS.aload X146.here hx rfl (hb hby at_75) rfl rfl ?_
          show Go p e below T146 (mkF m 77 #[iv p1, iv p2, iv p3, iv 3, rv b2, rv b3, rv b5, rv b8, iv 3, .unset, .unset, .unset] [(.ref b8)]) _
          refine XS.iload X146.here hx rfl (hb hby at_77) rfl ?_
          show Go p e below T146 (mkF m 79 #[iv p1, iv p2, iv p3, iv 3, rv b2, rv b3, rv b5, rv b8, iv 3, .unset, .unset, .unset] [(.int 3), (.ref b8)]) _
          refine st224.trans ?_
          show Go p e below T224 (mkF m 82 #[iv p1, iv p2, iv p3, iv 3, rv b2, rv b3, rv b5, rv b8, iv 3, .unset, .unset, .unset] []) _
          refine XS.iloadN X224.here hx rfl (hb hby at_82) rfl ?_
          show Go p e below T224 (mkF m 83 #[iv p1, iv p2, iv p3, iv 3, rv b2, rv b3, rv b5, rv b8, iv 3, .unset, .unset, .unset] [(.int p3)]) _
          refine XS.iloadN X224.here hx rfl (hb hby at_83) rfl ?_
          show Go p e below T224 (mkF m 84 #[iv p1, iv p2, iv p3, iv 3, rv b2, rv b3, rv b5, rv b8, iv 3, .unset, .unset, .unset] [(.int 3), (.int p3)]) _
          refine st230 _ ?_
          show Go p e below T230 (mkF m 87 #[iv p1, iv p2, iv p3, iv 3, rv b2, rv b3, rv b5, rv b8, iv 3, .unset, .unset, .unset] [(.int bb)]) _
          refine XS.istore X230.here hx rfl (hb hby at_87) rfl (l' := #[iv p1, iv p2, iv p3, iv 3, rv b2, rv b3, rv b5, rv b8, iv 3, iv bb, .unset, .unset]) rfl ?_
          show Go p e below T230 (mkF m 89 #[iv p1, iv p2, iv p3, iv 3, rv b2, rv b3, rv b5, rv b8, iv 3, iv bb, .unset, .unset] []) _
          refine XS.aload X230.here hx rfl (hb hby at_89) rfl rfl ?_
          show Go p e below T230 (mkF m 91 #[iv p1, iv p2, iv p3, iv 3, rv b2, rv b3, rv b5, rv b8, iv 3, iv bb, .unset, .unset] [(.ref b8)]) _
          refine XS.iload X230.here hx rfl (hb hby at_91) rfl ?_
          show Go p e below T230 (mkF m 93 #[iv p1, iv p2, iv p3, iv 3, rv b2, rv b3, rv b5, rv b8, iv 3, iv bb, .unset, .unset] [(.int bb), (.ref b8)]) _
          refine st231.trans ?_
          show Go p e below T231 (mkF m 96 #[iv p1, iv p2, iv p3, iv 3, rv b2, rv b3, rv b5, rv b8, iv 3, iv bb, .unset, .unset] []) _
          refine XS.iload X231.here hx rfl (hb hby at_96) rfl ?_
          show Go p e below T231 (mkF m 98 #[iv p1, iv p2, iv p3, iv 3, rv b2, rv b3, rv b5, rv b8, iv 3, iv bb, .unset, .unset] [(.int 3)]) _
          refine XS.iload X231.here hx rfl (hb hby at_98) rfl ?_
          show Go p e below T231 (mkF m 100 #[iv p1, iv p2, iv p3, iv 3, rv b2, rv b3, rv b5, rv b8, iv 3, iv bb, .unset, .unset] [(.int bb), (.int 3)]) _
          refine st232 _ ?_
          show Go p e below T232 (mkF m 103 #[iv p1, iv p2, iv p3, iv 3, rv b2, rv b3, rv b5, rv b8, iv 3, iv bb, .unset, .unset] [(.int 3)]) _
          refine XS.istore X232.here hx rfl (hb hby at_103) rfl (l' := #[iv p1, iv p2, iv p3, iv 3, rv b2, rv b3, rv b5, rv b8, iv 3, iv bb, iv 3, .unset]) rfl ?_
          show Go p e below T232 (mkF m 105 #[iv p1, iv p2, iv p3, iv 3, rv b2, rv b3, rv b5, rv b8, iv 3, iv bb, iv 3, .unset] []) _
          exact kt)
      obtain ⟨s₂, o₂, hs1, hs2, hs3, hs4⟩ := tl3_3 p1 p2 p3 (3 : Int32) bb b8 b2 b3 b5 rg12 kr12 T224.heap n0 X232 hx hZ hw hby hml hown Bd.returns Bd.notSynchronized e232q N232 (Nat.le_trans Z0 K225.1) R224
      exact ⟨s₂, o₂, pre233 _ hs1, hs2, hs3, hs4⟩
set_option maxRecDepth 65536 in
set_option maxHeartbeats 40000000 in
theorem comes_1 {Post : Tables → Env → Array Value → State → Outcome → State → Prop} (hpost : ∀ tb e args s v u, (limb_1_1.after args s (.returned v) u = true ∧ limb_1_2.after args s (.returned v) u = true ∧ True) → FrameEnd s (.returned v) u (Jvm.fieldLocs frame_1_writes args s ++ Jvm.arrayLocs frame_1_arrays args s ++ Jvm.staticLocs frame_1_statics s) 24 128 → Post tb e args s (.returned v) u) :
    ArmFor flags0 classFile x code maxLocals ret World_1 tables_1 room_1 Calls_1 rest_1 Pre_1 Post := by
  intro l hfl _ _ p e ha hc hk s m args below hf hA hF happ hP
  obtain ⟨hcalls, hrest, hpre⟩ := hP
  obtain ⟨-, -, -, hnamed, -, -, -, hat⟩ := (Spec.applies_iff hf).mp happ
  obtain ⟨hg, hn⟩ := and_e (Cond.before_iff.mp (show (Jvm.Cond.and given_1 narrow_1).before args s = true from hpre))
  obtain ⟨g1, g2⟩ := and_e hg
  obtain ⟨g3, g4⟩ := and_e g2
  obtain ⟨g5, g6⟩ := and_e g4
  obtain ⟨w0, w1, w2, rfl⟩ : ∃ w0 w1 w2 : Value, args = #[w0, w1, w2] := by
    have hs : args.size = 3 := by simpa [Cond.value, given_1] using g1
    obtain ⟨L⟩ := args
    match L, hs with
    | [w0, w1, w2], _ => exact ⟨w0, w1, w2, rfl⟩
  have hw := fun d (hd : d ∈ tables_1) => atoms_spec (ws := Jvm.Cond.code x code maxLocals ret :: tables_1) hat d (List.mem_cons_of_mem _ hd)
  have hfit : Fit s := fun {y c} hc i hi => by
    obtain ⟨ha, rfl⟩ := Array.getElem?_eq_some_iff.mp hc
    have q := List.all_eq_true.mp ((Array.all_eq_true_iff_forall_mem.mp hF) _ (Array.getElem_mem ha)) i (List.mem_range.mpr hi)
    simpa [Array.getElem?_eq_getElem hi] using q
  obtain ⟨i0, ei0⟩ := is_v g3
  obtain rfl : w0 = (.int i0) := Option.some.inj ei0
  obtain ⟨i1, ei1⟩ := is_v g5
  obtain rfl : w1 = (.int i1) := Option.some.inj ei1
  obtain ⟨i2, ei2⟩ := is_v g6
  obtain rfl : w2 = (.int i2) := Option.some.inj ei2
  obtain ⟨n, o, h1, h2, h3, _, L, rfl, ⟨rfl, N⟩, hq⟩ := rmL l s _ hw tables_1 i0 i1 i2 s.heap s.heap.size (Nat.le_refl _) p e ha hc hk s m _ below hf ((Spec.applies_iff_loose hf).mp happ).1 ⟨rfl, State.Warmed39.refl s, rfl⟩ trivial
  refine ⟨n, _, h1, h2, h3, hpost _ _ _ _ _ _ ⟨Cond.after_iff.mpr rfl, Cond.after_iff.mpr (eq_i res_at (Term.int_eval (1)) rfl), trivial⟩ ⟨hq.1, hq.2.1, (hq.2.2.sift fun y hy => Or.inr (N y hy)).mono (by decide) (by decide)⟩⟩
theorem main_1_1 : Claimed_1_1 := comes_1 fun _ _ _ _ _ _ h hF => ⟨h.1, hF⟩
theorem main_1_2 : Claimed_1_2 := comes_1 fun _ _ _ _ _ _ h hF => ⟨h.2.1, hF⟩
end Jvm.Pilot.@@N@@
namespace Jvm.Pilot.@@N@@
open Jvm Jvm.ClassFile Sem Op Lib Jvm.Free Jvm.Stand Jvm.Pilot.@@N@@.Jvm.D
/-! MADE BY PROGRAM (witnessworld.py) out of the Statement's table words and the real class files: 11 classes; the members and pool entries that the words name. The judged class is class 1, her method 1. -/
namespace start1
open Jvm.ClassFile
def u (s : String) : CpInfo := .utf8 (stringToUtf16 s)
/-- a pool by its gaps: so many unusable entries, then the entry; so many at the end -/
def gap : Nat → List CpInfo → List CpInfo
  | 0, r => r
  | n + 1, r => .unusable :: gap n r
def poolList (es : List (Nat × CpInfo)) (last : Nat) : List CpInfo := es.foldr (fun e r => gap e.1 (e.2 :: r)) (gap last [])
def pool (es : List (Nat × CpInfo)) (last : Nat) : Array CpInfo := ⟨poolList es last⟩
def fileOf (pool : Array CpInfo) (this : Nat) (attrs : Array Attribute := #[]) (ms : Array MethodInfo := #[]) (fl : Nat := 33) (sup : Nat := 0) (ifs : Array Nat := #[]) (fds : Array FieldInfo := #[]) : ClassFile where
  minorVersion := 0
  majorVersion := 65
  constantPool := pool
  accessFlags := fl
  thisClass := this
  superClass := sup
  interfaces := ifs
  fields := fds
  methods := ms
  attributes := attrs
def plain (name : String) (sup : Option ClassId) : Class where
  name := name
  kind := .ordinary
  loader := none
  accessFlags := 33
  super := sup
  interfaces := #[]
  cf := none
  fields := #[]
  methods := #[]
  instanceTypes := #[]
  staticTypes := #[]
  resolved := #[]
  callSites := []
  init := .initialized
  statics := none
  mirror := none

def pool0 : Array CpInfo := pool [(5, u "<init>"), (0, u "()V"), (1, .class_ 10), (1, u "java/lang/Object")] 113

def k0c0 : Code := { maxStack := 0, maxLocals := 1, code := object_method_1_code, exceptionTable := #[], attributes := #[] }
def k0m0 : Method := { name := "<init>", desc := "()V", sig := { parameters := [], returnType := none }, accessFlags := 1, code := some k0c0 }
/-- java/lang/Object -/
def k0 : Class := { plain "java/lang/Object" none with
  accessFlags := 33
  interfaces := #[]
  cf := some (fileOf pool0 8 #[] #[{ accessFlags := 1, nameIndex := 5, descriptorIndex := 6, attributes := #[] }] 33 0 #[] #[])
  fields := #[]
  methods := #[k0m0]
  instanceTypes := #[]
  staticTypes := #[]
  resolved := Array.replicate 124 none
  statics := none }

def pool1 : Array CpInfo := pool [(2, .class_ 4), (0, .nameAndType 5 6), (0, u "java/lang/Object"), (0, u "<init>"), (0, u "()V"), (0, .class_ 8), (0, u "com/example/rowmotif/rowmotif/matcher/PartitionRows"), (0, .methodref 7 3), (0, .methodref 7 11), (0, .nameAndType 12 13), (0, u "add"), (0, u "([Ljava/lang/Object;)V"), (0, .methodref 15 16), (0, .class_ 17), (0, .nameAndType 18 19), (0, u "java/lang/Math"), (0, u "min"), (0, u "(II)I"), (0, .methodref 7 21), (0, .nameAndType 22 23), (0, u "release"), (0, u "(I)V"), (0, .methodref 15 25), (0, .nameAndType 26 19), (0, u "max"), (0, .methodref 7 28), (0, .nameAndType 29 30), (0, u "size"), (0, u "()I"), (0, .methodref 7 32), (0, .nameAndType 33 30), (0, u "held"), (0, .methodref 7 35), (0, .nameAndType 36 37), (0, u "get"), (0, u "(I)[Ljava/lang/Object;"), (0, .class_ 39), (0, u "com/example/rowmotif/rowmotif/matcher/PartitionRowsReleasePinLaw"), (2, u "law"), (0, u "(III)Z")] 5

def k1m0 : Method := { name := "<init>", desc := "()V", sig := { parameters := [], returnType := none }, accessFlags := 1, code := none }
def k1c1 : Code := { maxStack := 3, maxLocals := 12, code := code, exceptionTable := #[], attributes := #[] }
def k1m1 : Method := { name := "law", desc := "(III)Z", sig := { parameters := [.int, .int, .int], returnType := some .boolean }, accessFlags := 9, code := some k1c1 }
/-- com/example/rowmotif/rowmotif/matcher/PartitionRowsReleasePinLaw -/
def k1 : Class := { plain "com/example/rowmotif/rowmotif/matcher/PartitionRowsReleasePinLaw" (some 0) with
  accessFlags := 49
  interfaces := #[]
  cf := some (fileOf pool1 38 #[] #[{ accessFlags := 1, nameIndex := 5, descriptorIndex := 6, attributes := #[] }, { accessFlags := 9, nameIndex := 42, descriptorIndex := 43, attributes := #[] }] 49 2 #[] #[])
  fields := #[]
  methods := #[k1m0, k1m1]
  instanceTypes := #[]
  staticTypes := #[]
  resolved := Array.replicate 49 none
  statics := none }

def pool2 : Array CpInfo := pool [(1, .methodref 2 3), (0, .class_ 4), (0, .nameAndType 5 6), (0, u "java/lang/Object"), (0, u "<init>"), (0, u "()V"), (0, .class_ 8), (0, u "com/example/rowmotif/rowmotif/matcher/PartitionRows"), (0, .class_ 10), (0, u "[Ljava/lang/Object;"), (0, .fieldref 7 12), (0, .nameAndType 13 14), (0, u "ring"), (0, u "[[Ljava/lang/Object;"), (0, .fieldref 7 16), (0, .nameAndType 17 18), (0, u "complete"), (0, u "Z"), (7, .methodref 7 27), (0, .nameAndType 28 29), (0, u "size"), (0, u "()I"), (2, .integer 2147483647), (2, .fieldref 7 36), (0, .nameAndType 37 38), (0, u "count"), (0, u "I"), (0, .fieldref 7 40), (0, .nameAndType 41 38), (0, u "head"), (0, .fieldref 7 43), (0, .nameAndType 44 38), (0, u "first"), (9, u "renumbered"), (0, u "J"), (0, u "INITIAL_CAPACITY"), (4, u "add"), (0, u "([Ljava/lang/Object;)V"), (4, u "get"), (0, u "(I)[Ljava/lang/Object;"), (2, u "release"), (0, u "(I)V"), (1, u "held")] 17

def k2c0 : Code := { maxStack := 2, maxLocals := 1, code := prog_78_method_1_code, exceptionTable := #[], attributes := #[] }
def k2m0 : Method := { name := "<init>", desc := "()V", sig := { parameters := [], returnType := none }, accessFlags := 1, code := some k2c0 }
def k2c1 : Code := { maxStack := 6, maxLocals := 4, code := prog_78_method_2_code, exceptionTable := #[], attributes := #[] }
def k2m1 : Method := { name := "add", desc := "([Ljava/lang/Object;)V", sig := { parameters := [(.array (.object "java/lang/Object"))], returnType := none }, accessFlags := 1, code := some k2c1 }
def k2c2 : Code := { maxStack := 2, maxLocals := 1, code := prog_78_method_5_code, exceptionTable := #[], attributes := #[] }
def k2m2 : Method := { name := "size", desc := "()I", sig := { parameters := [], returnType := some .int }, accessFlags := 1, code := some k2c2 }
def k2c3 : Code := { maxStack := 5, maxLocals := 2, code := prog_78_method_6_code, exceptionTable := #[], attributes := #[] }
def k2m3 : Method := { name := "get", desc := "(I)[Ljava/lang/Object;", sig := { parameters := [.int], returnType := some (.array (.object "java/lang/Object")) }, accessFlags := 1, code := some k2c3 }
def k2c4 : Code := { maxStack := 4, maxLocals := 2, code := prog_78_method_8_code, exceptionTable := #[], attributes := #[] }
def k2m4 : Method := { name := "release", desc := "(I)V", sig := { parameters := [.int], returnType := none }, accessFlags := 1, code := some k2c4 }
def k2c5 : Code := { maxStack := 1, maxLocals := 1, code := prog_78_method_10_code, exceptionTable := #[], attributes := #[] }
def k2m5 : Method := { name := "held", desc := "()I", sig := { parameters := [], returnType := some .int }, accessFlags := 1, code := some k2c5 }
/-- com/example/rowmotif/rowmotif/matcher/PartitionRows -/
def k2 : Class := { plain "com/example/rowmotif/rowmotif/matcher/PartitionRows" (some 0) with
  accessFlags := 33
  interfaces := #[]
  cf := some (fileOf pool2 7 #[] #[{ accessFlags := 1, nameIndex := 5, descriptorIndex := 6, attributes := #[] }, { accessFlags := 1, nameIndex := 61, descriptorIndex := 62, attributes := #[] }, { accessFlags := 1, nameIndex := 28, descriptorIndex := 29, attributes := #[] }, { accessFlags := 1, nameIndex := 67, descriptorIndex := 68, attributes := #[] }, { accessFlags := 1, nameIndex := 71, descriptorIndex := 72, attributes := #[] }, { accessFlags := 1, nameIndex := 74, descriptorIndex := 29, attributes := #[] }] 33 2 #[] #[{ accessFlags := 26, nameIndex := 56, descriptorIndex := 38, attributes := #[] }, { accessFlags := 2, nameIndex := 13, descriptorIndex := 14, attributes := #[] }, { accessFlags := 2, nameIndex := 41, descriptorIndex := 38, attributes := #[] }, { accessFlags := 2, nameIndex := 37, descriptorIndex := 38, attributes := #[] }, { accessFlags := 2, nameIndex := 44, descriptorIndex := 38, attributes := #[] }, { accessFlags := 2, nameIndex := 54, descriptorIndex := 55, attributes := #[] }, { accessFlags := 2, nameIndex := 17, descriptorIndex := 18, attributes := #[] }])
  fields := #[{ name := "INITIAL_CAPACITY", type := .int, accessFlags := 26, slot := 0, constantValue := 0 }, { name := "ring", type := (.array (.array (.object "java/lang/Object"))), accessFlags := 2, slot := 0, constantValue := 0 }, { name := "head", type := .int, accessFlags := 2, slot := 1, constantValue := 0 }, { name := "count", type := .int, accessFlags := 2, slot := 2, constantValue := 0 }, { name := "first", type := .int, accessFlags := 2, slot := 3, constantValue := 0 }, { name := "renumbered", type := .long, accessFlags := 2, slot := 4, constantValue := 0 }, { name := "complete", type := .boolean, accessFlags := 2, slot := 5, constantValue := 0 }]
  methods := #[k2m0, k2m1, k2m2, k2m3, k2m4, k2m5]
  instanceTypes := #[(.array (.array (.object "java/lang/Object"))), .int, .int, .int, .long, .boolean]
  staticTypes := #[.int]
  resolved := Array.replicate 92 none
  statics := none }

def pool3 : Array CpInfo := pool [(1, .class_ 2), (0, u "java/lang/Math"), (1, .class_ 6), (1, u "java/lang/Object"), (0, u "<init>"), (0, u "()V"), (89, .class_ 100), (1, u "java/lang/Math$RandomNumberGeneratorHolder"), (71, u "negativeZeroFloatBits"), (0, u "J"), (2, u "negativeZeroDoubleBits"), (21, u "max"), (2, u "min"), (43, u "$assertionsDisabled"), (0, u "Z"), (88, u "(II)I"), (2, u "twoToTheDoubleScaleDown"), (0, u "D"), (4, u "twoToTheDoubleScaleUp"), (9, u "E"), (3, u "PI"), (2, u "TAU"), (2, u "DEGREES_TO_RADIANS"), (0, u "RADIANS_TO_DEGREES")] 94

def k3m0 : Method := { name := "<init>", desc := "()V", sig := { parameters := [], returnType := none }, accessFlags := 2, code := none }
def k3c1 : Code := { maxStack := 2, maxLocals := 2, code := jdk_29_method_65_code, exceptionTable := #[], attributes := #[] }
def k3m1 : Method := { name := "max", desc := "(II)I", sig := { parameters := [.int, .int], returnType := some .int }, accessFlags := 9, code := some k3c1 }
def k3c2 : Code := { maxStack := 2, maxLocals := 2, code := jdk_29_method_69_code, exceptionTable := #[], attributes := #[] }
def k3m2 : Method := { name := "min", desc := "(II)I", sig := { parameters := [.int, .int], returnType := some .int }, accessFlags := 9, code := some k3c2 }
/-- java/lang/Math -/
def k3 : Class := { plain "java/lang/Math" (some 0) with
  accessFlags := 49
  interfaces := #[]
  cf := some (fileOf pool3 1 #[.nestMembers #[98]] #[{ accessFlags := 2, nameIndex := 7, descriptorIndex := 8, attributes := #[] }, { accessFlags := 9, nameIndex := 198, descriptorIndex := 335, attributes := #[] }, { accessFlags := 9, nameIndex := 201, descriptorIndex := 335, attributes := #[] }] 49 4 #[] #[{ accessFlags := 25, nameIndex := 354, descriptorIndex := 339, attributes := #[] }, { accessFlags := 25, nameIndex := 358, descriptorIndex := 339, attributes := #[] }, { accessFlags := 25, nameIndex := 361, descriptorIndex := 339, attributes := #[] }, { accessFlags := 26, nameIndex := 364, descriptorIndex := 339, attributes := #[] }, { accessFlags := 26, nameIndex := 365, descriptorIndex := 339, attributes := #[] }, { accessFlags := 26, nameIndex := 172, descriptorIndex := 173, attributes := #[] }, { accessFlags := 26, nameIndex := 176, descriptorIndex := 173, attributes := #[] }, { accessFlags := 8, nameIndex := 344, descriptorIndex := 339, attributes := #[] }, { accessFlags := 8, nameIndex := 338, descriptorIndex := 339, attributes := #[] }, { accessFlags := 4120, nameIndex := 245, descriptorIndex := 246, attributes := #[] }])
  fields := #[{ name := "E", type := .double, accessFlags := 25, slot := 0, constantValue := 0 }, { name := "PI", type := .double, accessFlags := 25, slot := 1, constantValue := 0 }, { name := "TAU", type := .double, accessFlags := 25, slot := 2, constantValue := 0 }, { name := "DEGREES_TO_RADIANS", type := .double, accessFlags := 26, slot := 3, constantValue := 0 }, { name := "RADIANS_TO_DEGREES", type := .double, accessFlags := 26, slot := 4, constantValue := 0 }, { name := "negativeZeroFloatBits", type := .long, accessFlags := 26, slot := 5, constantValue := 0 }, { name := "negativeZeroDoubleBits", type := .long, accessFlags := 26, slot := 6, constantValue := 0 }, { name := "twoToTheDoubleScaleUp", type := .double, accessFlags := 8, slot := 7, constantValue := 0 }, { name := "twoToTheDoubleScaleDown", type := .double, accessFlags := 8, slot := 8, constantValue := 0 }, { name := "$assertionsDisabled", type := .boolean, accessFlags := 4120, slot := 9, constantValue := 0 }]
  methods := #[k3m0, k3m1, k3m2]
  instanceTypes := #[]
  staticTypes := #[.double, .double, .double, .double, .double, .long, .long, .double, .double, .boolean]
  resolved := Array.replicate 460 none
  statics := none }

def pool4 : Array CpInfo := pool [(1, u "java/lang/Cloneable"), (0, .class_ 1), (0, u "java/lang/Object"), (0, .class_ 3)] 3

/-- java/lang/Cloneable -/
def k4 : Class := { plain "java/lang/Cloneable" (some 0) with
  accessFlags := 1537
  interfaces := #[]
  cf := some (fileOf pool4 2 #[] #[] 1537 4 #[] #[])
  fields := #[]
  methods := #[]
  instanceTypes := #[]
  staticTypes := #[]
  resolved := Array.replicate 8 none
  statics := none }

def pool5 : Array CpInfo := pool [(1, u "java/io/Serializable"), (0, .class_ 1), (0, u "java/lang/Object"), (0, .class_ 3)] 3

/-- java/io/Serializable -/
def k5 : Class := { plain "java/io/Serializable" (some 0) with
  accessFlags := 1537
  interfaces := #[]
  cf := some (fileOf pool5 2 #[] #[] 1537 4 #[] #[])
  fields := #[]
  methods := #[]
  instanceTypes := #[]
  staticTypes := #[]
  resolved := Array.replicate 8 none
  statics := none }

/-- the primitive byte -/
def k6 : Class := { plain "byte" none with kind := .primitive 'B', accessFlags := 0x411 }
/-- [B -/
def k7 : Class := { plain "[B" (some 0) with kind := .array 6 .byte, interfaces := #[4, 5], accessFlags := 1041 }

/-- the primitive int -/
def k8 : Class := { plain "int" none with kind := .primitive 'I', accessFlags := 0x411 }
/-- [I -/
def k9 : Class := { plain "[I" (some 0) with kind := .array 8 .int, interfaces := #[4, 5], accessFlags := 1041 }

/-- [Ljava/lang/Object; -/
def k10 : Class := { plain "[Ljava/lang/Object;" (some 0) with kind := .array 0 (.object "java/lang/Object"), interfaces := #[4, 5], accessFlags := 1041 }

/-- [[Ljava/lang/Object; -/
def k11 : Class := { plain "[[Ljava/lang/Object;" (some 0) with kind := .array 10 (.array (.object "java/lang/Object")), interfaces := #[4, 5], accessFlags := 1041 }

def heap : Heap := #[]
def classes : Array Class := #[k0, k1, k2, k3, k4, k5, k6, k7, k8, k9, k10, k11]
def interned : List (Array UInt16 × Addr) := []
def slotsUsed : Nat := 0
def theMethod : MethodId := ⟨1, 1⟩
def args0 : Array Value := #[.int 5, .int 5, .int 5]
def aboutOver (below : List Frame) : State where
  vm := { classes := classes, interned := interned.toArray }
  heap := heap
  slotsUsed := slotsUsed
  threads := #[{ frames := .invoking theMethod args0 :: below }]
def below0 : List Frame := [.native { method := ⟨0, 0⟩, args := #[] }]
def about1 : State := aboutOver below0
def p0 : Program := .bare "" "" ""
def e0 : Env := launch0.env 0 0 0
theorem w_frames : about1.frames = Frame.invoking theMethod args0 :: below0 := rfl
set_option maxRecDepth 65536 in
theorem w_args : argsFit about1.vm theMethod args0 = true := by decide +kernel
set_option maxRecDepth 65536 in
theorem w_heap : heapFits about1 = true := by decide +kernel
set_option maxRecDepth 65536 in
theorem w_runnable : about1.curStatus? = some .runnable := by decide +kernel
set_option maxRecDepth 65536 in
theorem w_alone : about1.alone = true := by decide +kernel
set_option maxRecDepth 65536 in
theorem w_named : about1.methodNamed? x = some theMethod := by decide +kernel
set_option maxRecDepth 65536 in
theorem w_hears : about1.hears theMethod below0 = true := by decide +kernel
set_option maxRecDepth 65536 in
theorem w_ripe : about1.ripe theMethod args0 below0 = true := by decide +kernel
theorem w_running : about1.status = .running := rfl
set_option maxRecDepth 65536 in
theorem w_room : about1.hasRoom e0.platform room_1 = true :=
  launch0.hasRoom_least _ room_1 (by decide +kernel) (by decide +kernel) (by decide +kernel) (by decide +kernel) (by decide +kernel) (by decide +kernel)
theorem allAtoms_all (ts : List Jvm.Cond) (a : Array Jvm.Value) (st : Jvm.State) : (allAtoms ts).before a st = ts.all (fun c => c.before a st) := by
  induction ts with
  | nil => rfl
  | cons c t ih =>
    show (Jvm.Cond.and c (allAtoms t)).before a st = _
    rw [Jvm.Cond.before_and, ih, List.all_cons]
def words1 : List Jvm.Cond := Jvm.Cond.code x code maxLocals ret :: tables_1
/-- a 'code' word, met by the world's own term for the bytes: nothing is compared byte by byte -/
theorem code_word {y : MethodName} {bytes : ByteArray} {mx : Nat} {rt : Option FieldType} {a : Array Value} {s : State} {m : MethodId} {meth : Method} {c : Code} (h1 : s.methodNamed? y = some m) (h2 : s.vm.method? m = some meth) (h3 : meth.code = some c) (h4 : c.code = bytes)
    (h5 : (c.maxLocals == mx && c.exceptionTable.isEmpty && decide (c.maxStack ≤ mostOperands) && decide (meth.sig.returnType = rt) && !meth.locks && decide (parseMethodDescriptor y.desc = some meth.sig)) = true) : (Jvm.Cond.code y bytes mx rt).before a s = true := by
  simp only [Bool.and_eq_true, beq_iff_eq, Bool.not_eq_true', decide_eq_true_eq] at h5
  obtain ⟨⟨⟨⟨⟨g1, g2⟩, g3⟩, g4⟩, g5⟩, g6⟩ := h5
  simp [Cond.before, Cond.holds, Cond.value, h1, h2, h3, h4, g1, g2, g3, g4, g5, g6]
def isCode : Jvm.Cond → Bool
  | .code _ _ _ _ => true
  | _ => false
theorem all_split {L : List Jvm.Cond} {P : Jvm.Cond → Bool} (h1 : L.all (fun c => isCode c || P c) = true) (h2 : ∀ c ∈ L.filter isCode, P c = true) : L.all P = true := by
  refine List.all_eq_true.mpr fun c hc => ?_
  have h := List.all_eq_true.mp h1 c hc
  rcases Bool.eq_false_or_eq_true (isCode c) with hi | hi
  · exact h2 c (List.mem_filter.mpr ⟨hc, hi⟩)
  · simpa [hi] using h
set_option maxRecDepth 65536 in
theorem w_c0 : (Jvm.Cond.code x code maxLocals ret).before args0 about1 = true := code_word (m := ⟨1, 1⟩) (meth := k1m1) (c := k1c1) (by decide +kernel) rfl rfl rfl (by decide +kernel)
set_option maxRecDepth 65536 in
theorem w_c1 : (Jvm.Cond.code ({ cls := "com/example/rowmotif/rowmotif/matcher/PartitionRows", name := "<init>", desc := "()V" } : Jvm.MethodName) prog_78_method_1_code (1 : Nat) (Option.none : Option Jvm.ClassFile.FieldType)).before args0 about1 = true := code_word (m := ⟨2, 0⟩) (meth := k2m0) (c := k2c0) (by decide +kernel) rfl rfl rfl (by decide +kernel)
set_option maxRecDepth 65536 in
theorem w_c2 : (Jvm.Cond.code ({ cls := "java/lang/Object", name := "<init>", desc := "()V" } : Jvm.MethodName) object_method_1_code (1 : Nat) (Option.none : Option Jvm.ClassFile.FieldType)).before args0 about1 = true := code_word (m := ⟨0, 0⟩) (meth := k0m0) (c := k0c0) (by decide +kernel) rfl rfl rfl (by decide +kernel)
set_option maxRecDepth 65536 in
theorem w_c3 : (Jvm.Cond.code ({ cls := "java/lang/Math", name := "min", desc := "(II)I" } : Jvm.MethodName) jdk_29_method_69_code (2 : Nat) (Option.some Jvm.ClassFile.FieldType.int)).before args0 about1 = true := code_word (m := ⟨3, 2⟩) (meth := k3m2) (c := k3c2) (by decide +kernel) rfl rfl rfl (by decide +kernel)
set_option maxRecDepth 65536 in
theorem w_c4 : (Jvm.Cond.code ({ cls := "com/example/rowmotif/rowmotif/matcher/PartitionRows", name := "release", desc := "(I)V" } : Jvm.MethodName) prog_78_method_8_code (2 : Nat) (Option.none : Option Jvm.ClassFile.FieldType)).before args0 about1 = true := code_word (m := ⟨2, 4⟩) (meth := k2m4) (c := k2c4) (by decide +kernel) rfl rfl rfl (by decide +kernel)
set_option maxRecDepth 65536 in
theorem w_c5 : (Jvm.Cond.code ({ cls := "java/lang/Math", name := "max", desc := "(II)I" } : Jvm.MethodName) jdk_29_method_65_code (2 : Nat) (Option.some Jvm.ClassFile.FieldType.int)).before args0 about1 = true := code_word (m := ⟨3, 1⟩) (meth := k3m1) (c := k3c1) (by decide +kernel) rfl rfl rfl (by decide +kernel)
set_option maxRecDepth 65536 in
theorem w_c6 : (Jvm.Cond.code ({ cls := "com/example/rowmotif/rowmotif/matcher/PartitionRows", name := "size", desc := "()I" } : Jvm.MethodName) prog_78_method_5_code (1 : Nat) (Option.some Jvm.ClassFile.FieldType.int)).before args0 about1 = true := code_word (m := ⟨2, 2⟩) (meth := k2m2) (c := k2c2) (by decide +kernel) rfl rfl rfl (by decide +kernel)
set_option maxRecDepth 65536 in
theorem w_c7 : (Jvm.Cond.code ({ cls := "com/example/rowmotif/rowmotif/matcher/PartitionRows", name := "held", desc := "()I" } : Jvm.MethodName) prog_78_method_10_code (1 : Nat) (Option.some Jvm.ClassFile.FieldType.int)).before args0 about1 = true := code_word (m := ⟨2, 5⟩) (meth := k2m5) (c := k2c5) (by decide +kernel) rfl rfl rfl (by decide +kernel)
set_option maxRecDepth 65536 in
theorem w_c8 : (Jvm.Cond.code ({ cls := "com/example/rowmotif/rowmotif/matcher/PartitionRows", name := "add", desc := "([Ljava/lang/Object;)V" } : Jvm.MethodName) prog_78_method_2_code (4 : Nat) (Option.none : Option Jvm.ClassFile.FieldType)).before args0 about1 = true := code_word (m := ⟨2, 1⟩) (meth := k2m1) (c := k2c1) (by decide +kernel) rfl rfl rfl (by decide +kernel)
set_option maxRecDepth 65536 in
theorem w_c9 : (Jvm.Cond.code ({ cls := "com/example/rowmotif/rowmotif/matcher/PartitionRows", name := "get", desc := "(I)[Ljava/lang/Object;" } : Jvm.MethodName) prog_78_method_6_code (2 : Nat) (Option.some (Jvm.ClassFile.FieldType.array (Jvm.ClassFile.FieldType.object "java/lang/Object")))).before args0 about1 = true := code_word (m := ⟨2, 3⟩) (meth := k2m3) (c := k2c3) (by decide +kernel) rfl rfl rfl (by decide +kernel)
def codes1 : List Jvm.Cond := [Jvm.Cond.code x code maxLocals ret, Jvm.Cond.code ({ cls := "com/example/rowmotif/rowmotif/matcher/PartitionRows", name := "<init>", desc := "()V" } : Jvm.MethodName) prog_78_method_1_code (1 : Nat) (Option.none : Option Jvm.ClassFile.FieldType), Jvm.Cond.code ({ cls := "java/lang/Object", name := "<init>", desc := "()V" } : Jvm.MethodName) object_method_1_code (1 : Nat) (Option.none : Option Jvm.ClassFile.FieldType), Jvm.Cond.code ({ cls := "java/lang/Math", name := "min", desc := "(II)I" } : Jvm.MethodName) jdk_29_method_69_code (2 : Nat) (Option.some Jvm.ClassFile.FieldType.int), Jvm.Cond.code ({ cls := "com/example/rowmotif/rowmotif/matcher/PartitionRows", name := "release", desc := "(I)V" } : Jvm.MethodName) prog_78_method_8_code (2 : Nat) (Option.none : Option Jvm.ClassFile.FieldType), Jvm.Cond.code ({ cls := "java/lang/Math", name := "max", desc := "(II)I" } : Jvm.MethodName) jdk_29_method_65_code (2 : Nat) (Option.some Jvm.ClassFile.FieldType.int), Jvm.Cond.code ({ cls := "com/example/rowmotif/rowmotif/matcher/PartitionRows", name := "size", desc := "()I" } : Jvm.MethodName) prog_78_method_5_code (1 : Nat) (Option.some Jvm.ClassFile.FieldType.int), Jvm.Cond.code ({ cls := "com/example/rowmotif/rowmotif/matcher/PartitionRows", name := "held", desc := "()I" } : Jvm.MethodName) prog_78_method_10_code (1 : Nat) (Option.some Jvm.ClassFile.FieldType.int), Jvm.Cond.code ({ cls := "com/example/rowmotif/rowmotif/matcher/PartitionRows", name := "add", desc := "([Ljava/lang/Object;)V" } : Jvm.MethodName) prog_78_method_2_code (4 : Nat) (Option.none : Option Jvm.ClassFile.FieldType), Jvm.Cond.code ({ cls := "com/example/rowmotif/rowmotif/matcher/PartitionRows", name := "get", desc := "(I)[Ljava/lang/Object;" } : Jvm.MethodName) prog_78_method_6_code (2 : Nat) (Option.some (Jvm.ClassFile.FieldType.array (Jvm.ClassFile.FieldType.object "java/lang/Object")))]
set_option maxRecDepth 65536 in
theorem codes_eq : words1.filter isCode = codes1 := rfl
theorem w_codes : ∀ c ∈ words1.filter isCode, c.before args0 about1 = true := by
  rw [codes_eq]
  intro c hc
  simp only [codes1, List.mem_cons, List.not_mem_nil, or_false] at hc
  rcases hc with rfl | rfl | rfl | rfl | rfl | rfl | rfl | rfl | rfl | rfl
  · exact w_c0
  · exact w_c1
  · exact w_c2
  · exact w_c3
  · exact w_c4
  · exact w_c5
  · exact w_c6
  · exact w_c7
  · exact w_c8
  · exact w_c9
set_option maxRecDepth 65536 in
theorem w_t1 : (words1.take 24).all (fun c => isCode c || c.before args0 about1) = true := by decide +kernel
set_option maxRecDepth 65536 in
theorem w_t2 : ((words1.drop 24).take 24).all (fun c => isCode c || c.before args0 about1) = true := by decide +kernel
set_option maxRecDepth 65536 in
theorem w_t3 : ((words1.drop 24).drop 24).all (fun c => isCode c || c.before args0 about1) = true := by decide +kernel
theorem w_tables : (allAtoms (Jvm.Cond.code x code maxLocals ret :: tables_1)).before args0 about1 = true := by
  rw [allAtoms_all]
  show words1.all (fun c => c.before args0 about1) = true
  refine all_split ?_ w_codes
  rw [← List.take_append_drop 24 words1, List.all_append, w_t1, ← List.take_append_drop 24 (words1.drop 24), List.all_append, w_t2, w_t3]
  rfl
set_option maxRecDepth 65536 in
theorem w_case : (Jvm.Cond.and given_1 narrow_1).before args0 about1 = true := by decide +kernel
theorem w_applies : (headSpec (Jvm.Cond.code x code maxLocals ret :: tables_1) room_1).applies x e0.platform about1 = true :=
  (Spec.applies_iff w_frames).mpr ⟨w_running, w_runnable, w_alone, w_named, w_hears, w_ripe, w_room, w_tables⟩
theorem atStart : AtStart classFile x code maxLocals ret World_1 tables_1 room_1 Calls_1 rest_1 Pre_1 launch0 p0 e0 about1 theMethod args0 below0 :=
  ⟨lists_1, trivial, launch0.admits_env _ _ _, launch0.least_env, fairChoices_fair.cas, fairChoices_fair.clock, w_frames, w_args, w_heap, w_applies, trivial, trivial, w_case⟩
end start1
theorem witness_1 : WitnessClaimed_1 := ⟨start1.p0, start1.e0, start1.about1, start1.theMethod, start1.args0, start1.below0, start1.atStart⟩
end Jvm.Pilot.@@N@@
