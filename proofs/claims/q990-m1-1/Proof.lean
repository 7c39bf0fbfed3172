import JvmDerived
import JvmDerived.Pilot.@@N@@Statement
import JvmDerived.Pilot.@@N@@Code
set_option linter.unusedVariables false
set_option linter.unusedSimpArgs false
namespace Jvm.RoadKit
open Sem ClassFile Op Lib Jvm.Stand Jvm.Free Jvm.LawKit
section New
variable {p : Program} {l : Launch} {e : Env} {R : Room} {s : State} {m : MethodId} {args : Array Value} {below : List Frame} {meth : Method} {c : Code} {T : State} {locs : List Loc} {cells slots : Nat}
theorem retI (X : Stand p l e R s m args below meth c T locs cells slots) (hx : p.tables.exec = Jvm.exec) {pc : Nat} {Ls : Array Slot} {z : Int32} {rest : List Value} (hret : meth.sig.returnType = some .int) (hd : decode c.code pc = .ok (.ireturn, 1)) {fs : List Frame}
    (hl : ∀ (f : JFrame) (acts : List Action), f.method = m → f.locked = none → f.entered = [] → (doReturn e (T.setTop f) acts (some (.int z))).1 = T.setFrames fs) : Steps p.tables e below (T.setTop (mkF m pc Ls (.int z :: rest))) (T.setFrames fs) := by
  have hm' : T.vm.method? m = some meth := X.method'
  have hn : narrow .int (.int z) = .int z := rfl
  show Steps p.tables e below (T.setTop { method := m, pc := pc, locals := Ls, stack := _ :: rest, locked := none }) _
  jvm_step X.here [X.here.top, hx, hd, hm', hret, hn]
  first | (intro acts; rw [hl _ acts rfl rfl rfl]) | rw [hl _ _ rfl rfl rfl]
  exact Steps.refl _
end New
end Jvm.RoadKit
namespace Jvm.Pilot.@@N@@
open Jvm Jvm.ClassFile Sem Op Lib Jvm.Free Jvm.Stand Jvm.LawKit Jvm.RoadKit Bundle Jvm.Pilot.@@N@@.Jvm.D
abbrev Go (p : Program) (e : Env) (below : List Frame) (T : State) (g : JFrame) (t : State) : Prop := Steps p.tables e below (T.setTop g) t
theorem hwi {Z : State} {a0 : Array Value} (hw : ∀ d ∈ tables_1, d.before a0 Z = true) {d : Jvm.Cond} (i : Nat) (q : tables_1[i]? = some d) : d.before a0 Z = true := hw _ (List.mem_of_getElem? q)

def Wd (Z : State) (h : Heap) (w_ADD w_SUBTRACT w_MULTIPLY w_DIVIDE w_REMAINDER w_LESS w_LESS_EQUAL w_GREATER w_GREATER_EQUAL w_EQUAL w_NOT_EQUAL w_AND w_OR : Addr) : Prop := (Sta Z h "com/example/tandem_abstraction/tandemabstraction/parser/Expression$BinaryOperator" "ADD" "Lcom/example/tandem_abstraction/tandemabstraction/parser/Expression$BinaryOperator;" (.ref w_ADD) ∧ Exa Z h w_ADD "com/example/tandem_abstraction/tandemabstraction/parser/Expression$BinaryOperator" ∧ Fld Z h w_ADD "java/lang/Enum" "ordinal" "I" (.int (0 : Int32))) ∧ (Sta Z h "com/example/tandem_abstraction/tandemabstraction/parser/Expression$BinaryOperator" "SUBTRACT" "Lcom/example/tandem_abstraction/tandemabstraction/parser/Expression$BinaryOperator;" (.ref w_SUBTRACT) ∧ Exa Z h w_SUBTRACT "com/example/tandem_abstraction/tandemabstraction/parser/Expression$BinaryOperator" ∧ Fld Z h w_SUBTRACT "java/lang/Enum" "ordinal" "I" (.int (1 : Int32))) ∧ (Sta Z h "com/example/tandem_abstraction/tandemabstraction/parser/Expression$BinaryOperator" "MULTIPLY" "Lcom/example/tandem_abstraction/tandemabstraction/parser/Expression$BinaryOperator;" (.ref w_MULTIPLY) ∧ Exa Z h w_MULTIPLY "com/example/tandem_abstraction/tandemabstraction/parser/Expression$BinaryOperator" ∧ Fld Z h w_MULTIPLY "java/lang/Enum" "ordinal" "I" (.int (2 : Int32))) ∧ (Sta Z h "com/example/tandem_abstraction/tandemabstraction/parser/Expression$BinaryOperator" "DIVIDE" "Lcom/example/tandem_abstraction/tandemabstraction/parser/Expression$BinaryOperator;" (.ref w_DIVIDE) ∧ Exa Z h w_DIVIDE "com/example/tandem_abstraction/tandemabstraction/parser/Expression$BinaryOperator" ∧ Fld Z h w_DIVIDE "java/lang/Enum" "ordinal" "I" (.int (3 : Int32))) ∧ (Sta Z h "com/example/tandem_abstraction/tandemabstraction/parser/Expression$BinaryOperator" "REMAINDER" "Lcom/example/tandem_abstraction/tandemabstraction/parser/Expression$BinaryOperator;" (.ref w_REMAINDER) ∧ Exa Z h w_REMAINDER "com/example/tandem_abstraction/tandemabstraction/parser/Expression$BinaryOperator" ∧ Fld Z h w_REMAINDER "java/lang/Enum" "ordinal" "I" (.int (4 : Int32))) ∧ (Sta Z h "com/example/tandem_abstraction/tandemabstraction/parser/Expression$BinaryOperator" "LESS" "Lcom/example/tandem_abstraction/tandemabstraction/parser/Expression$BinaryOperator;" (.ref w_LESS) ∧ Exa Z h w_LESS "com/example/tandem_abstraction/tandemabstraction/parser/Expression$BinaryOperator" ∧ Fld Z h w_LESS "java/lang/Enum" "ordinal" "I" (.int (5 : Int32))) ∧ (Sta Z h "com/example/tandem_abstraction/tandemabstraction/parser/Expression$BinaryOperator" "LESS_EQUAL" "Lcom/example/tandem_abstraction/tandemabstraction/parser/Expression$BinaryOperator;" (.ref w_LESS_EQUAL) ∧ Exa Z h w_LESS_EQUAL "com/example/tandem_abstraction/tandemabstraction/parser/Expression$BinaryOperator" ∧ Fld Z h w_LESS_EQUAL "java/lang/Enum" "ordinal" "I" (.int (6 : Int32))) ∧ (Sta Z h "com/example/tandem_abstraction/tandemabstraction/parser/Expression$BinaryOperator" "GREATER" "Lcom/example/tandem_abstraction/tandemabstraction/parser/Expression$BinaryOperator;" (.ref w_GREATER) ∧ Exa Z h w_GREATER "com/example/tandem_abstraction/tandemabstraction/parser/Expression$BinaryOperator" ∧ Fld Z h w_GREATER "java/lang/Enum" "ordinal" "I" (.int (7 : Int32))) ∧ (Sta Z h "com/example/tandem_abstraction/tandemabstraction/parser/Expression$BinaryOperator" "GREATER_EQUAL" "Lcom/example/tandem_abstraction/tandemabstraction/parser/Expression$BinaryOperator;" (.ref w_GREATER_EQUAL) ∧ Exa Z h w_GREATER_EQUAL "com/example/tandem_abstraction/tandemabstraction/parser/Expression$BinaryOperator" ∧ Fld Z h w_GREATER_EQUAL "java/lang/Enum" "ordinal" "I" (.int (8 : Int32))) ∧ (Sta Z h "com/example/tandem_abstraction/tandemabstraction/parser/Expression$BinaryOperator" "EQUAL" "Lcom/example/tandem_abstraction/tandemabstraction/parser/Expression$BinaryOperator;" (.ref w_EQUAL) ∧ Exa Z h w_EQUAL "com/example/tandem_abstraction/tandemabstraction/parser/Expression$BinaryOperator" ∧ Fld Z h w_EQUAL "java/lang/Enum" "ordinal" "I" (.int (9 : Int32))) ∧ (Sta Z h "com/example/tandem_abstraction/tandemabstraction/parser/Expression$BinaryOperator" "NOT_EQUAL" "Lcom/example/tandem_abstraction/tandemabstraction/parser/Expression$BinaryOperator;" (.ref w_NOT_EQUAL) ∧ Exa Z h w_NOT_EQUAL "com/example/tandem_abstraction/tandemabstraction/parser/Expression$BinaryOperator" ∧ Fld Z h w_NOT_EQUAL "java/lang/Enum" "ordinal" "I" (.int (10 : Int32))) ∧ (Sta Z h "com/example/tandem_abstraction/tandemabstraction/parser/Expression$BinaryOperator" "AND" "Lcom/example/tandem_abstraction/tandemabstraction/parser/Expression$BinaryOperator;" (.ref w_AND) ∧ Exa Z h w_AND "com/example/tandem_abstraction/tandemabstraction/parser/Expression$BinaryOperator" ∧ Fld Z h w_AND "java/lang/Enum" "ordinal" "I" (.int (11 : Int32))) ∧ (Sta Z h "com/example/tandem_abstraction/tandemabstraction/parser/Expression$BinaryOperator" "OR" "Lcom/example/tandem_abstraction/tandemabstraction/parser/Expression$BinaryOperator;" (.ref w_OR) ∧ Exa Z h w_OR "com/example/tandem_abstraction/tandemabstraction/parser/Expression$BinaryOperator" ∧ Fld Z h w_OR "java/lang/Enum" "ordinal" "I" (.int (12 : Int32)))
theorem Wd_ext {Z : State} {h h' : Heap} {w_ADD w_SUBTRACT w_MULTIPLY w_DIVIDE w_REMAINDER w_LESS w_LESS_EQUAL w_GREATER w_GREATER_EQUAL w_EQUAL w_NOT_EQUAL w_AND w_OR : Addr} (W : Wd Z h w_ADD w_SUBTRACT w_MULTIPLY w_DIVIDE w_REMAINDER w_LESS w_LESS_EQUAL w_GREATER w_GREATER_EQUAL w_EQUAL w_NOT_EQUAL w_AND w_OR) (E : Ext h h') : Wd Z h' w_ADD w_SUBTRACT w_MULTIPLY w_DIVIDE w_REMAINDER w_LESS w_LESS_EQUAL w_GREATER w_GREATER_EQUAL w_EQUAL w_NOT_EQUAL w_AND w_OR := by
  obtain ⟨⟨S_ADD, E_ADD, F_ADD⟩, ⟨S_SUBTRACT, E_SUBTRACT, F_SUBTRACT⟩, ⟨S_MULTIPLY, E_MULTIPLY, F_MULTIPLY⟩, ⟨S_DIVIDE, E_DIVIDE, F_DIVIDE⟩, ⟨S_REMAINDER, E_REMAINDER, F_REMAINDER⟩, ⟨S_LESS, E_LESS, F_LESS⟩, ⟨S_LESS_EQUAL, E_LESS_EQUAL, F_LESS_EQUAL⟩, ⟨S_GREATER, E_GREATER, F_GREATER⟩, ⟨S_GREATER_EQUAL, E_GREATER_EQUAL, F_GREATER_EQUAL⟩, ⟨S_EQUAL, E_EQUAL, F_EQUAL⟩, ⟨S_NOT_EQUAL, E_NOT_EQUAL, F_NOT_EQUAL⟩, ⟨S_AND, E_AND, F_AND⟩, ⟨S_OR, E_OR, F_OR⟩⟩ := W
  exact ⟨⟨S_ADD.ext E, E_ADD.ext E, F_ADD.ext E⟩, ⟨S_SUBTRACT.ext E, E_SUBTRACT.ext E, F_SUBTRACT.ext E⟩, ⟨S_MULTIPLY.ext E, E_MULTIPLY.ext E, F_MULTIPLY.ext E⟩, ⟨S_DIVIDE.ext E, E_DIVIDE.ext E, F_DIVIDE.ext E⟩, ⟨S_REMAINDER.ext E, E_REMAINDER.ext E, F_REMAINDER.ext E⟩, ⟨S_LESS.ext E, E_LESS.ext E, F_LESS.ext E⟩, ⟨S_LESS_EQUAL.ext E, E_LESS_EQUAL.ext E, F_LESS_EQUAL.ext E⟩, ⟨S_GREATER.ext E, E_GREATER.ext E, F_GREATER.ext E⟩, ⟨S_GREATER_EQUAL.ext E, E_GREATER_EQUAL.ext E, F_GREATER_EQUAL.ext E⟩, ⟨S_EQUAL.ext E, E_EQUAL.ext E, F_EQUAL.ext E⟩, ⟨S_NOT_EQUAL.ext E, E_NOT_EQUAL.ext E, F_NOT_EQUAL.ext E⟩, ⟨S_AND.ext E, E_AND.ext E, F_AND.ext E⟩, ⟨S_OR.ext E, E_OR.ext E, F_OR.ext E⟩⟩
theorem own_ext {h0 h : Heap} (K : Keep h0 h []) : Ext h0 h := ⟨K.1, fun a c q => K.2.1 a c q nin0⟩
theorem own_rng (k : Int32) (h : 0 ≤ k.toInt ∧ k.toInt < 13) : k = (0 : Int32) ∨ k = (1 : Int32) ∨ k = (2 : Int32) ∨ k = (3 : Int32) ∨ k = (4 : Int32) ∨ k = (5 : Int32) ∨ k = (6 : Int32) ∨ k = (7 : Int32) ∨ k = (8 : Int32) ∨ k = (9 : Int32) ∨ k = (10 : Int32) ∨ k = (11 : Int32) ∨ k = (12 : Int32) := by
  have q : k.toInt = 0 ∨ k.toInt = 1 ∨ k.toInt = 2 ∨ k.toInt = 3 ∨ k.toInt = 4 ∨ k.toInt = 5 ∨ k.toInt = 6 ∨ k.toInt = 7 ∨ k.toInt = 8 ∨ k.toInt = 9 ∨ k.toInt = 10 ∨ k.toInt = 11 ∨ k.toInt = 12 := by omega
  rcases q with q | q | q | q | q | q | q | q | q | q | q | q | q
  · exact Or.inl (Int32.toInt_inj.mp (by rw [q]; decide))
  · exact Or.inr (Or.inl (Int32.toInt_inj.mp (by rw [q]; decide)))
  · exact Or.inr (Or.inr (Or.inl (Int32.toInt_inj.mp (by rw [q]; decide))))
  · exact Or.inr (Or.inr (Or.inr (Or.inl (Int32.toInt_inj.mp (by rw [q]; decide)))))
  · exact Or.inr (Or.inr (Or.inr (Or.inr (Or.inl (Int32.toInt_inj.mp (by rw [q]; decide))))))
  · exact Or.inr (Or.inr (Or.inr (Or.inr (Or.inr (Or.inl (Int32.toInt_inj.mp (by rw [q]; decide)))))))
  · exact Or.inr (Or.inr (Or.inr (Or.inr (Or.inr (Or.inr (Or.inl (Int32.toInt_inj.mp (by rw [q]; decide))))))))
  · exact Or.inr (Or.inr (Or.inr (Or.inr (Or.inr (Or.inr (Or.inr (Or.inl (Int32.toInt_inj.mp (by rw [q]; decide)))))))))
  · exact Or.inr (Or.inr (Or.inr (Or.inr (Or.inr (Or.inr (Or.inr (Or.inr (Or.inl (Int32.toInt_inj.mp (by rw [q]; decide))))))))))
  · exact Or.inr (Or.inr (Or.inr (Or.inr (Or.inr (Or.inr (Or.inr (Or.inr (Or.inr (Or.inl (Int32.toInt_inj.mp (by rw [q]; decide)))))))))))
  · exact Or.inr (Or.inr (Or.inr (Or.inr (Or.inr (Or.inr (Or.inr (Or.inr (Or.inr (Or.inr (Or.inl (Int32.toInt_inj.mp (by rw [q]; decide))))))))))))
  · exact Or.inr (Or.inr (Or.inr (Or.inr (Or.inr (Or.inr (Or.inr (Or.inr (Or.inr (Or.inr (Or.inr (Or.inl (Int32.toInt_inj.mp (by rw [q]; decide)))))))))))))
  · exact Or.inr (Or.inr (Or.inr (Or.inr (Or.inr (Or.inr (Or.inr (Or.inr (Or.inr (Or.inr (Or.inr (Or.inr (Int32.toInt_inj.mp (by rw [q]; decide)))))))))))))
theorem own_mod (x m : Int32) (d : Int) (hm : m.toInt = d) (hd : 0 < d) : 0 ≤ ((x &&& (2147483647 : Int32)) % m).toInt ∧ ((x &&& (2147483647 : Int32)) % m).toInt < d := by
  have h1 := c_mask x 2147483647 31 (by decide) (by decide)
  have h2 := (c_irem (x &&& 2147483647) m d hm).1 (by omega)
  rw [h2]; exact ⟨Int.emod_nonneg _ (by omega), Int.emod_lt_of_pos _ hd⟩
theorem ef_1 (m : MethodId) (x0 : Addr) : entryFrame m #[(.ref x0)] 1 = mkF m 0 #[.val (.ref x0)] [] := by first | (simp [entryFrame, mkF, argsToLocals, Value.category]; done) | rfl
theorem pn_com_example_tandem_abstraction_tandemabstraction_parser_Expression_BinaryOperator : plainName "com/example/tandem_abstraction/tandemabstraction/parser/Expression$BinaryOperator" = true := by first | (simp [plainName, overriddenIn]; done) | decide +kernel
theorem d1_0 : decode prog_54_method_4_code 0 = .ok (.aload_n 0, 1) := by decide +kernel
theorem d1_1 : decode prog_54_method_4_code 1 = .ok (.getstatic 3, 3) := by decide +kernel
theorem d1_4 : decode prog_54_method_4_code 4 = .ok (.if_acmp .eq 35, 3) := by decide +kernel
theorem d1_39 : decode prog_54_method_4_code 39 = .ok (.iconst 0, 1) := by decide +kernel
theorem d1_40 : decode prog_54_method_4_code 40 = .ok (.ireturn, 1) := by decide +kernel
theorem d1_7 : decode prog_54_method_4_code 7 = .ok (.aload_n 0, 1) := by decide +kernel
theorem d1_8 : decode prog_54_method_4_code 8 = .ok (.getstatic 7, 3) := by decide +kernel
theorem d1_11 : decode prog_54_method_4_code 11 = .ok (.if_acmp .eq 28, 3) := by decide +kernel
theorem d1_14 : decode prog_54_method_4_code 14 = .ok (.aload_n 0, 1) := by decide +kernel
theorem d1_15 : decode prog_54_method_4_code 15 = .ok (.getstatic 10, 3) := by decide +kernel
theorem d1_18 : decode prog_54_method_4_code 18 = .ok (.if_acmp .eq 21, 3) := by decide +kernel
theorem d1_21 : decode prog_54_method_4_code 21 = .ok (.aload_n 0, 1) := by decide +kernel
theorem d1_22 : decode prog_54_method_4_code 22 = .ok (.getstatic 13, 3) := by decide +kernel
theorem d1_25 : decode prog_54_method_4_code 25 = .ok (.if_acmp .eq 14, 3) := by decide +kernel
theorem d1_28 : decode prog_54_method_4_code 28 = .ok (.aload_n 0, 1) := by decide +kernel
theorem d1_29 : decode prog_54_method_4_code 29 = .ok (.getstatic 16, 3) := by decide +kernel
theorem d1_32 : decode prog_54_method_4_code 32 = .ok (.if_acmp .eq 7, 3) := by decide +kernel
theorem d1_35 : decode prog_54_method_4_code 35 = .ok (.iconst 1, 1) := by decide +kernel
theorem d1_36 : decode prog_54_method_4_code 36 = .ok (.goto 4, 3) := by decide +kernel
def Q_rmC (Z : State) (a1 : Addr) (w_ADD : Addr) (w_SUBTRACT : Addr) (w_MULTIPLY : Addr) (w_DIVIDE : Addr) (w_REMAINDER : Addr) (w_LESS : Addr) (w_LESS_EQUAL : Addr) (w_GREATER : Addr) (w_GREATER_EQUAL : Addr) (w_EQUAL : Addr) (w_NOT_EQUAL : Addr) (w_AND : Addr) (w_OR : Addr) (h0 : Heap) (n0 : Nat) (v : Option Value) (h : Heap) (L : List Loc) : Prop := v = some (.int (if a1 = w_ADD ∨ a1 = w_SUBTRACT ∨ a1 = w_MULTIPLY ∨ a1 = w_DIVIDE ∨ a1 = w_REMAINDER then 0 else 1)) ∧ Fr n0 L ∧ h = h0
set_option maxRecDepth 65536 in
set_option maxHeartbeats 40000000 in
theorem rmC (l : Launch) (Z : State) (a0 : Array Value) (hw : ∀ d ∈ tables_1, d.before a0 Z = true) (ws : List Jvm.Cond) (a1 : Addr) (w_ADD : Addr) (w_SUBTRACT : Addr) (w_MULTIPLY : Addr) (w_DIVIDE : Addr) (w_REMAINDER : Addr) (w_LESS : Addr) (w_LESS_EQUAL : Addr) (w_GREATER : Addr) (w_GREATER_EQUAL : Addr) (w_EQUAL : Addr) (w_NOT_EQUAL : Addr) (w_AND : Addr) (w_OR : Addr) (h0 : Heap) (n0 : Nat) (Z0 : n0 ≤ h0.size) (hWd : Wd Z h0 w_ADD w_SUBTRACT w_MULTIPLY w_DIVIDE w_REMAINDER w_LESS w_LESS_EQUAL w_GREATER w_GREATER_EQUAL w_EQUAL w_NOT_EQUAL w_AND w_OR) :
    MetFree l (⟨"com/example/tandem_abstraction/tandemabstraction/parser/Expression$BinaryOperator", "isBoolean", "()Z"⟩ : MethodName) (head1 (Jvm.Cond.code (⟨"com/example/tandem_abstraction/tandemabstraction/parser/Expression$BinaryOperator", "isBoolean", "()Z"⟩ : MethodName) prog_54_method_4_code 1 (some .boolean) :: ws) ({ frames := 0, cells := 0, slots := 0, locals := 0 } : Room)) (fun av_ U_ => av_ = #[(.ref a1)] ∧ Z.Warmed39 U_.vm ∧ U_.heap = h0) (fun _ _ _ _ _ => True) (fun _ U_ o_ V_ => ∃ v_ L_, o_ = .returned v_ ∧ Q_rmC Z a1 w_ADD w_SUBTRACT w_MULTIPLY w_DIVIDE w_REMAINDER w_LESS w_LESS_EQUAL w_GREATER w_GREATER_EQUAL w_EQUAL w_NOT_EQUAL w_AND w_OR h0 n0 v_ V_.heap L_ ∧ FrameEnd U_ o_ V_ L_ ({ frames := 0, cells := 0, slots := 0, locals := 0 } : Room).cells ({ frames := 0, cells := 0, slots := 0, locals := 0 } : Room).slots) := by
  refine MetFree.of_bodySF (plainFor_of_name pn_com_example_tandem_abstraction_tandemabstraction_parser_Expression_BinaryOperator) hisR ?_
  intro p e s m args below meth c s₁ Bd hml0 hP hK
  obtain ⟨rfl, hZ, hh⟩ := hP
  have hx := Bd.exec
  have hby := Bd.bytes
  have hml : c.maxLocals = 1 := hml0
  have hown : s.vm.findClass "com/example/tandem_abstraction/tandemabstraction/parser/Expression$BinaryOperator" = some m.cls := findClass_of_methodNamed Bd.named
  have hnm := (name_of_methodNamed Bd.named Bd.method).1
  have X0 : Stand p l e ({ frames := 0, cells := 0, slots := 0, locals := 0 } : Room) s m #[(.ref a1)] below meth c s₁ [] 0 0 := Stand.of_body Bd
  have e0 : s₁.heap = h0 := by rw [← hh, Bd.state]; rfl
  have N0 := Fr.nil n0
  have pre0 : ∀ t_, Go p e below s₁ (mkF m 0 #[rv a1] []) t_ → Go p e below s₁ (entryFrame m #[(.ref a1)] 1) t_ := fun t_ kt => castTop (ef_1 m a1) kt
  have hWd0 := hWd
  obtain ⟨⟨S_ADD, E_ADD, F_ADD⟩, ⟨S_SUBTRACT, E_SUBTRACT, F_SUBTRACT⟩, ⟨S_MULTIPLY, E_MULTIPLY, F_MULTIPLY⟩, ⟨S_DIVIDE, E_DIVIDE, F_DIVIDE⟩, ⟨S_REMAINDER, E_REMAINDER, F_REMAINDER⟩, ⟨S_LESS, E_LESS, F_LESS⟩, ⟨S_LESS_EQUAL, E_LESS_EQUAL, F_LESS_EQUAL⟩, ⟨S_GREATER, E_GREATER, F_GREATER⟩, ⟨S_GREATER_EQUAL, E_GREATER_EQUAL, F_GREATER_EQUAL⟩, ⟨S_EQUAL, E_EQUAL, F_EQUAL⟩, ⟨S_NOT_EQUAL, E_NOT_EQUAL, F_NOT_EQUAL⟩, ⟨S_AND, E_AND, F_AND⟩, ⟨S_OR, E_OR, F_OR⟩⟩ := hWd
  obtain ⟨T1, X1, e1, st1⟩ := getS2 X0 hx hZ hown (host := "") (Or.inl (hwi hw 36 rfl)) Via.refl e0 S_ADD (g := (mkF m 1 #[rv a1] [(.ref a1)])) rfl (hb hby d1_1)
  have pre2 : ∀ t_, Go p e below T1 (mkF m 4 #[rv a1] [(.ref w_ADD), (.ref a1)]) t_ → Go p e below s₁ (entryFrame m #[(.ref a1)] 1) t_ := fun t_ kt => pre0 _ (by
      show Go p e below s₁ (mkF m 0 #[rv a1] []) _
      refine XS.aloadN X0.here hx rfl (hb hby d1_0) rfl rfl ?_
      show Go p e below s₁ (mkF m 1 #[rv a1] [(.ref a1)]) _
      refine st1 _ ?_
      show Go p e below T1 (mkF m 4 #[rv a1] [(.ref w_ADD), (.ref a1)]) _
      exact kt)
  by_cases hc4_3 : a1 = w_ADD
  · have pre4 : ∀ t_, Go p e below T1 (mkF m 40 #[rv a1] [(.int 0)]) t_ → Go p e below s₁ (entryFrame m #[(.ref a1)] 1) t_ := fun t_ kt => pre2 _ (by
        show Go p e below T1 (mkF m 4 #[rv a1] [(.ref w_ADD), (.ref a1)]) _
        refine Jvm.RoadKit.acmp (g := (mkF m 4 #[rv a1] [(.ref w_ADD), (.ref a1)])) X1 hx rfl rfl rfl (pc0 := 4) (pc' := 39) (same := true) rfl (hb hby d1_4) rfl (decide_eq_true (congrArg Value.ref hc4_3)) (by decide) (by decide) ?_
        show Go p e below T1 (mkF m 39 #[rv a1] []) _
        refine XS.iconst X1.here hx rfl (hb hby d1_39) ?_
        show Go p e below T1 (mkF m 40 #[rv a1] [(.int 0)]) _
        exact kt)
    obtain ⟨fs, hr, hrun, hended, hW, hsame⟩ := X1.leave (v := some (.int 0)) (fun h => by rw [Bd.returns] at h; cases h)
    refine ⟨_, _, pre4 _ ?_, hrun, hended, _, _, rfl, ?_, ⟨_, rfl⟩, hW, hsame.mono (by decide) (by decide)⟩
    · show Steps p.tables e below (T1.setTop (mkF m 40 #[rv a1] [(.int 0)])) _
      exact retN X1 hx (t := .boolean) Bd.returns (by simp) (hb hby d1_40) hr
    · show Q_rmC Z a1 w_ADD w_SUBTRACT w_MULTIPLY w_DIVIDE w_REMAINDER w_LESS w_LESS_EQUAL w_GREATER w_GREATER_EQUAL w_EQUAL w_NOT_EQUAL w_AND w_OR h0 n0 _ T1.heap _
      rw [e1]
      exact ⟨by simp [hc4_3], N0, rfl⟩
  · obtain ⟨T5, X5, e5, st5⟩ := getS2 X1 hx hZ hown (host := "") (Or.inl (hwi hw 37 rfl)) Via.refl e1 S_SUBTRACT (g := (mkF m 8 #[rv a1] [(.ref a1)])) rfl (hb hby d1_8)
    have pre6 : ∀ t_, Go p e below T5 (mkF m 11 #[rv a1] [(.ref w_SUBTRACT), (.ref a1)]) t_ → Go p e below s₁ (entryFrame m #[(.ref a1)] 1) t_ := fun t_ kt => pre2 _ (by
        show Go p e below T1 (mkF m 4 #[rv a1] [(.ref w_ADD), (.ref a1)]) _
        refine Jvm.RoadKit.acmp (g := (mkF m 4 #[rv a1] [(.ref w_ADD), (.ref a1)])) X1 hx rfl rfl rfl (pc0 := 4) (pc' := 7) (same := false) rfl (hb hby d1_4) rfl (decide_eq_false fun q => hc4_3 (Value.ref.inj q)) (by decide) (by decide) ?_
        show Go p e below T1 (mkF m 7 #[rv a1] []) _
        refine XS.aloadN X1.here hx rfl (hb hby d1_7) rfl rfl ?_
        show Go p e below T1 (mkF m 8 #[rv a1] [(.ref a1)]) _
        refine st5 _ ?_
        show Go p e below T5 (mkF m 11 #[rv a1] [(.ref w_SUBTRACT), (.ref a1)]) _
        exact kt)
    by_cases hc11_7 : a1 = w_SUBTRACT
    · have pre8 : ∀ t_, Go p e below T5 (mkF m 40 #[rv a1] [(.int 0)]) t_ → Go p e below s₁ (entryFrame m #[(.ref a1)] 1) t_ := fun t_ kt => pre6 _ (by
          show Go p e below T5 (mkF m 11 #[rv a1] [(.ref w_SUBTRACT), (.ref a1)]) _
          refine Jvm.RoadKit.acmp (g := (mkF m 11 #[rv a1] [(.ref w_SUBTRACT), (.ref a1)])) X5 hx rfl rfl rfl (pc0 := 11) (pc' := 39) (same := true) rfl (hb hby d1_11) rfl (decide_eq_true (congrArg Value.ref hc11_7)) (by decide) (by decide) ?_
          show Go p e below T5 (mkF m 39 #[rv a1] []) _
          refine XS.iconst X5.here hx rfl (hb hby d1_39) ?_
          show Go p e below T5 (mkF m 40 #[rv a1] [(.int 0)]) _
          exact kt)
      obtain ⟨fs, hr, hrun, hended, hW, hsame⟩ := X5.leave (v := some (.int 0)) (fun h => by rw [Bd.returns] at h; cases h)
      refine ⟨_, _, pre8 _ ?_, hrun, hended, _, _, rfl, ?_, ⟨_, rfl⟩, hW, hsame.mono (by decide) (by decide)⟩
      · show Steps p.tables e below (T5.setTop (mkF m 40 #[rv a1] [(.int 0)])) _
        exact retN X5 hx (t := .boolean) Bd.returns (by simp) (hb hby d1_40) hr
      · show Q_rmC Z a1 w_ADD w_SUBTRACT w_MULTIPLY w_DIVIDE w_REMAINDER w_LESS w_LESS_EQUAL w_GREATER w_GREATER_EQUAL w_EQUAL w_NOT_EQUAL w_AND w_OR h0 n0 _ T5.heap _
        rw [e5]
        exact ⟨by simp [hc4_3, hc11_7], N0, rfl⟩
    · obtain ⟨T9, X9, e9, st9⟩ := getS2 X5 hx hZ hown (host := "") (Or.inl (hwi hw 38 rfl)) Via.refl e5 S_MULTIPLY (g := (mkF m 15 #[rv a1] [(.ref a1)])) rfl (hb hby d1_15)
      have pre10 : ∀ t_, Go p e below T9 (mkF m 18 #[rv a1] [(.ref w_MULTIPLY), (.ref a1)]) t_ → Go p e below s₁ (entryFrame m #[(.ref a1)] 1) t_ := fun t_ kt => pre6 _ (by
          show Go p e below T5 (mkF m 11 #[rv a1] [(.ref w_SUBTRACT), (.ref a1)]) _
          refine Jvm.RoadKit.acmp (g := (mkF m 11 #[rv a1] [(.ref w_SUBTRACT), (.ref a1)])) X5 hx rfl rfl rfl (pc0 := 11) (pc' := 14) (same := false) rfl (hb hby d1_11) rfl (decide_eq_false fun q => hc11_7 (Value.ref.inj q)) (by decide) (by decide) ?_
          show Go p e below T5 (mkF m 14 #[rv a1] []) _
          refine XS.aloadN X5.here hx rfl (hb hby d1_14) rfl rfl ?_
          show Go p e below T5 (mkF m 15 #[rv a1] [(.ref a1)]) _
          refine st9 _ ?_
          show Go p e below T9 (mkF m 18 #[rv a1] [(.ref w_MULTIPLY), (.ref a1)]) _
          exact kt)
      by_cases hc18_11 : a1 = w_MULTIPLY
      · have pre12 : ∀ t_, Go p e below T9 (mkF m 40 #[rv a1] [(.int 0)]) t_ → Go p e below s₁ (entryFrame m #[(.ref a1)] 1) t_ := fun t_ kt => pre10 _ (by
            show Go p e below T9 (mkF m 18 #[rv a1] [(.ref w_MULTIPLY), (.ref a1)]) _
            refine Jvm.RoadKit.acmp (g := (mkF m 18 #[rv a1] [(.ref w_MULTIPLY), (.ref a1)])) X9 hx rfl rfl rfl (pc0 := 18) (pc' := 39) (same := true) rfl (hb hby d1_18) rfl (decide_eq_true (congrArg Value.ref hc18_11)) (by decide) (by decide) ?_
            show Go p e below T9 (mkF m 39 #[rv a1] []) _
            refine XS.iconst X9.here hx rfl (hb hby d1_39) ?_
            show Go p e below T9 (mkF m 40 #[rv a1] [(.int 0)]) _
            exact kt)
        obtain ⟨fs, hr, hrun, hended, hW, hsame⟩ := X9.leave (v := some (.int 0)) (fun h => by rw [Bd.returns] at h; cases h)
        refine ⟨_, _, pre12 _ ?_, hrun, hended, _, _, rfl, ?_, ⟨_, rfl⟩, hW, hsame.mono (by decide) (by decide)⟩
        · show Steps p.tables e below (T9.setTop (mkF m 40 #[rv a1] [(.int 0)])) _
          exact retN X9 hx (t := .boolean) Bd.returns (by simp) (hb hby d1_40) hr
        · show Q_rmC Z a1 w_ADD w_SUBTRACT w_MULTIPLY w_DIVIDE w_REMAINDER w_LESS w_LESS_EQUAL w_GREATER w_GREATER_EQUAL w_EQUAL w_NOT_EQUAL w_AND w_OR h0 n0 _ T9.heap _
          rw [e9]
          exact ⟨by simp [hc4_3, hc11_7, hc18_11], N0, rfl⟩
      · obtain ⟨T13, X13, e13, st13⟩ := getS2 X9 hx hZ hown (host := "") (Or.inl (hwi hw 39 rfl)) Via.refl e9 S_DIVIDE (g := (mkF m 22 #[rv a1] [(.ref a1)])) rfl (hb hby d1_22)
        have pre14 : ∀ t_, Go p e below T13 (mkF m 25 #[rv a1] [(.ref w_DIVIDE), (.ref a1)]) t_ → Go p e below s₁ (entryFrame m #[(.ref a1)] 1) t_ := fun t_ kt => pre10 _ (by
            show Go p e below T9 (mkF m 18 #[rv a1] [(.ref w_MULTIPLY), (.ref a1)]) _
            refine Jvm.RoadKit.acmp (g := (mkF m 18 #[rv a1] [(.ref w_MULTIPLY), (.ref a1)])) X9 hx rfl rfl rfl (pc0 := 18) (pc' := 21) (same := false) rfl (hb hby d1_18) rfl (decide_eq_false fun q => hc18_11 (Value.ref.inj q)) (by decide) (by decide) ?_
            show Go p e below T9 (mkF m 21 #[rv a1] []) _
            refine XS.aloadN X9.here hx rfl (hb hby d1_21) rfl rfl ?_
            show Go p e below T9 (mkF m 22 #[rv a1] [(.ref a1)]) _
            refine st13 _ ?_
            show Go p e below T13 (mkF m 25 #[rv a1] [(.ref w_DIVIDE), (.ref a1)]) _
            exact kt)
        by_cases hc25_15 : a1 = w_DIVIDE
        · have pre16 : ∀ t_, Go p e below T13 (mkF m 40 #[rv a1] [(.int 0)]) t_ → Go p e below s₁ (entryFrame m #[(.ref a1)] 1) t_ := fun t_ kt => pre14 _ (by
              show Go p e below T13 (mkF m 25 #[rv a1] [(.ref w_DIVIDE), (.ref a1)]) _
              refine Jvm.RoadKit.acmp (g := (mkF m 25 #[rv a1] [(.ref w_DIVIDE), (.ref a1)])) X13 hx rfl rfl rfl (pc0 := 25) (pc' := 39) (same := true) rfl (hb hby d1_25) rfl (decide_eq_true (congrArg Value.ref hc25_15)) (by decide) (by decide) ?_
              show Go p e below T13 (mkF m 39 #[rv a1] []) _
              refine XS.iconst X13.here hx rfl (hb hby d1_39) ?_
              show Go p e below T13 (mkF m 40 #[rv a1] [(.int 0)]) _
              exact kt)
          obtain ⟨fs, hr, hrun, hended, hW, hsame⟩ := X13.leave (v := some (.int 0)) (fun h => by rw [Bd.returns] at h; cases h)
          refine ⟨_, _, pre16 _ ?_, hrun, hended, _, _, rfl, ?_, ⟨_, rfl⟩, hW, hsame.mono (by decide) (by decide)⟩
          · show Steps p.tables e below (T13.setTop (mkF m 40 #[rv a1] [(.int 0)])) _
            exact retN X13 hx (t := .boolean) Bd.returns (by simp) (hb hby d1_40) hr
          · show Q_rmC Z a1 w_ADD w_SUBTRACT w_MULTIPLY w_DIVIDE w_REMAINDER w_LESS w_LESS_EQUAL w_GREATER w_GREATER_EQUAL w_EQUAL w_NOT_EQUAL w_AND w_OR h0 n0 _ T13.heap _
            rw [e13]
            exact ⟨by simp [hc4_3, hc11_7, hc18_11, hc25_15], N0, rfl⟩
        · obtain ⟨T17, X17, e17, st17⟩ := getS2 X13 hx hZ hown (host := "") (Or.inl (hwi hw 40 rfl)) Via.refl e13 S_REMAINDER (g := (mkF m 29 #[rv a1] [(.ref a1)])) rfl (hb hby d1_29)
          have pre18 : ∀ t_, Go p e below T17 (mkF m 32 #[rv a1] [(.ref w_REMAINDER), (.ref a1)]) t_ → Go p e below s₁ (entryFrame m #[(.ref a1)] 1) t_ := fun t_ kt => pre14 _ (by
              show Go p e below T13 (mkF m 25 #[rv a1] [(.ref w_DIVIDE), (.ref a1)]) _
              refine Jvm.RoadKit.acmp (g := (mkF m 25 #[rv a1] [(.ref w_DIVIDE), (.ref a1)])) X13 hx rfl rfl rfl (pc0 := 25) (pc' := 28) (same := false) rfl (hb hby d1_25) rfl (decide_eq_false fun q => hc25_15 (Value.ref.inj q)) (by decide) (by decide) ?_
              show Go p e below T13 (mkF m 28 #[rv a1] []) _
              refine XS.aloadN X13.here hx rfl (hb hby d1_28) rfl rfl ?_
              show Go p e below T13 (mkF m 29 #[rv a1] [(.ref a1)]) _
              refine st17 _ ?_
              show Go p e below T17 (mkF m 32 #[rv a1] [(.ref w_REMAINDER), (.ref a1)]) _
              exact kt)
          by_cases hc32_19 : a1 = w_REMAINDER
          · have pre20 : ∀ t_, Go p e below T17 (mkF m 40 #[rv a1] [(.int 0)]) t_ → Go p e below s₁ (entryFrame m #[(.ref a1)] 1) t_ := fun t_ kt => pre18 _ (by
                show Go p e below T17 (mkF m 32 #[rv a1] [(.ref w_REMAINDER), (.ref a1)]) _
                refine Jvm.RoadKit.acmp (g := (mkF m 32 #[rv a1] [(.ref w_REMAINDER), (.ref a1)])) X17 hx rfl rfl rfl (pc0 := 32) (pc' := 39) (same := true) rfl (hb hby d1_32) rfl (decide_eq_true (congrArg Value.ref hc32_19)) (by decide) (by decide) ?_
                show Go p e below T17 (mkF m 39 #[rv a1] []) _
                refine XS.iconst X17.here hx rfl (hb hby d1_39) ?_
                show Go p e below T17 (mkF m 40 #[rv a1] [(.int 0)]) _
                exact kt)
            obtain ⟨fs, hr, hrun, hended, hW, hsame⟩ := X17.leave (v := some (.int 0)) (fun h => by rw [Bd.returns] at h; cases h)
            refine ⟨_, _, pre20 _ ?_, hrun, hended, _, _, rfl, ?_, ⟨_, rfl⟩, hW, hsame.mono (by decide) (by decide)⟩
            · show Steps p.tables e below (T17.setTop (mkF m 40 #[rv a1] [(.int 0)])) _
              exact retN X17 hx (t := .boolean) Bd.returns (by simp) (hb hby d1_40) hr
            · show Q_rmC Z a1 w_ADD w_SUBTRACT w_MULTIPLY w_DIVIDE w_REMAINDER w_LESS w_LESS_EQUAL w_GREATER w_GREATER_EQUAL w_EQUAL w_NOT_EQUAL w_AND w_OR h0 n0 _ T17.heap _
              rw [e17]
              exact ⟨by simp [hc4_3, hc11_7, hc18_11, hc25_15, hc32_19], N0, rfl⟩
          · have pre21 : ∀ t_, Go p e below T17 (mkF m 40 #[rv a1] [(.int 1)]) t_ → Go p e below s₁ (entryFrame m #[(.ref a1)] 1) t_ := fun t_ kt => pre18 _ (by
                show Go p e below T17 (mkF m 32 #[rv a1] [(.ref w_REMAINDER), (.ref a1)]) _
                refine Jvm.RoadKit.acmp (g := (mkF m 32 #[rv a1] [(.ref w_REMAINDER), (.ref a1)])) X17 hx rfl rfl rfl (pc0 := 32) (pc' := 35) (same := false) rfl (hb hby d1_32) rfl (decide_eq_false fun q => hc32_19 (Value.ref.inj q)) (by decide) (by decide) ?_
                show Go p e below T17 (mkF m 35 #[rv a1] []) _
                refine XS.iconst X17.here hx rfl (hb hby d1_35) ?_
                show Go p e below T17 (mkF m 36 #[rv a1] [(.int 1)]) _
                refine XS.goto X17.here hx rfl (pc0 := 36) (pc' := 40) rfl (hb hby d1_36) (by decide) (by decide) ?_
                show Go p e below T17 (mkF m 40 #[rv a1] [(.int 1)]) _
                exact kt)
            obtain ⟨fs, hr, hrun, hended, hW, hsame⟩ := X17.leave (v := some (.int 1)) (fun h => by rw [Bd.returns] at h; cases h)
            refine ⟨_, _, pre21 _ ?_, hrun, hended, _, _, rfl, ?_, ⟨_, rfl⟩, hW, hsame.mono (by decide) (by decide)⟩
            · show Steps p.tables e below (T17.setTop (mkF m 40 #[rv a1] [(.int 1)])) _
              exact retN X17 hx (t := .boolean) Bd.returns (by simp) (hb hby d1_40) hr
            · show Q_rmC Z a1 w_ADD w_SUBTRACT w_MULTIPLY w_DIVIDE w_REMAINDER w_LESS w_LESS_EQUAL w_GREATER w_GREATER_EQUAL w_EQUAL w_NOT_EQUAL w_AND w_OR h0 n0 _ T17.heap _
              rw [e17]
              exact ⟨by simp [hc4_3, hc11_7, hc18_11, hc25_15, hc32_19], N0, rfl⟩
theorem ef_0 (m : MethodId) (x0 : Int32) : entryFrame m #[(.int x0)] maxLocals = mkF m 0 #[.val (.int x0), .unset, .unset, .unset, .unset] [] := by first | (simp [entryFrame, mkF, argsToLocals, Value.category, maxLocals]; done) | rfl
theorem pn_com_example_tandem_abstraction_tandemabstraction_parser_BinaryOperatorIsBooleanPinLaw : plainName "com/example/tandem_abstraction/tandemabstraction/parser/BinaryOperatorIsBooleanPinLaw" = true := by first | (simp [plainName, overriddenIn]; done) | decide +kernel
theorem pd_0 : parseMethodDescriptor "()Z" = some ⟨[], some .boolean⟩ := by decide +kernel
def Q_rmL (Z : State) (p1 : Int32) (w_ADD : Addr) (w_SUBTRACT : Addr) (w_MULTIPLY : Addr) (w_DIVIDE : Addr) (w_REMAINDER : Addr) (w_LESS : Addr) (w_LESS_EQUAL : Addr) (w_GREATER : Addr) (w_GREATER_EQUAL : Addr) (w_EQUAL : Addr) (w_NOT_EQUAL : Addr) (w_AND : Addr) (w_OR : Addr) (h0 : Heap) (n0 : Nat) (v : Option Value) (h : Heap) (L : List Loc) : Prop := v = some (.int 1) ∧ Fr n0 L
set_option maxRecDepth 65536 in
set_option maxHeartbeats 40000000 in
theorem rmL (l : Launch) (Z : State) (a0 : Array Value) (hw : ∀ d ∈ tables_1, d.before a0 Z = true) (ws : List Jvm.Cond) (p1 : Int32) (w_ADD : Addr) (w_SUBTRACT : Addr) (w_MULTIPLY : Addr) (w_DIVIDE : Addr) (w_REMAINDER : Addr) (w_LESS : Addr) (w_LESS_EQUAL : Addr) (w_GREATER : Addr) (w_GREATER_EQUAL : Addr) (w_EQUAL : Addr) (w_NOT_EQUAL : Addr) (w_AND : Addr) (w_OR : Addr) (h0 : Heap) (n0 : Nat) (Z0 : n0 ≤ h0.size) (hWd : Wd Z h0 w_ADD w_SUBTRACT w_MULTIPLY w_DIVIDE w_REMAINDER w_LESS w_LESS_EQUAL w_GREATER w_GREATER_EQUAL w_EQUAL w_NOT_EQUAL w_AND w_OR) :
    MetFree l x (head1 (Jvm.Cond.code x code maxLocals ret :: ws) room_1) (fun av_ U_ => av_ = #[(.int p1)] ∧ Z.Warmed39 U_.vm ∧ U_.heap = h0) (fun _ _ _ _ _ => True) (fun _ U_ o_ V_ => ∃ v_ L_, o_ = .returned v_ ∧ Q_rmL Z p1 w_ADD w_SUBTRACT w_MULTIPLY w_DIVIDE w_REMAINDER w_LESS w_LESS_EQUAL w_GREATER w_GREATER_EQUAL w_EQUAL w_NOT_EQUAL w_AND w_OR h0 n0 v_ V_.heap L_ ∧ FrameEnd U_ o_ V_ L_ room_1.cells room_1.slots) := by
  refine MetFree.of_bodySF (plainFor_of_name pn_com_example_tandem_abstraction_tandemabstraction_parser_BinaryOperatorIsBooleanPinLaw) hisR ?_
  intro p e s m args below meth c s₁ Bd hml0 hP hK
  obtain ⟨rfl, hZ, hh⟩ := hP
  have hx := Bd.exec
  have hby := Bd.bytes
  have hml : c.maxLocals = 5 := hml0
  have hown : s.vm.findClass "com/example/tandem_abstraction/tandemabstraction/parser/BinaryOperatorIsBooleanPinLaw" = some m.cls := findClass_of_methodNamed Bd.named
  have hnm := (name_of_methodNamed Bd.named Bd.method).1
  have X0 : Stand p l e room_1 s m #[(.int p1)] below meth c s₁ [] 0 0 := Stand.of_body Bd
  have e0 : s₁.heap = h0 := by rw [← hh, Bd.state]; rfl
  have N0 := Fr.nil n0
  have pre0 : ∀ t_, Go p e below s₁ (mkF m 0 #[iv p1, .unset, .unset, .unset, .unset] []) t_ → Go p e below s₁ (entryFrame m #[(.int p1)] maxLocals) t_ := fun t_ kt => castTop (ef_0 m p1) kt
  have hWd0 := hWd
  obtain ⟨⟨S_ADD, E_ADD, F_ADD⟩, ⟨S_SUBTRACT, E_SUBTRACT, F_SUBTRACT⟩, ⟨S_MULTIPLY, E_MULTIPLY, F_MULTIPLY⟩, ⟨S_DIVIDE, E_DIVIDE, F_DIVIDE⟩, ⟨S_REMAINDER, E_REMAINDER, F_REMAINDER⟩, ⟨S_LESS, E_LESS, F_LESS⟩, ⟨S_LESS_EQUAL, E_LESS_EQUAL, F_LESS_EQUAL⟩, ⟨S_GREATER, E_GREATER, F_GREATER⟩, ⟨S_GREATER_EQUAL, E_GREATER_EQUAL, F_GREATER_EQUAL⟩, ⟨S_EQUAL, E_EQUAL, F_EQUAL⟩, ⟨S_NOT_EQUAL, E_NOT_EQUAL, F_NOT_EQUAL⟩, ⟨S_AND, E_AND, F_AND⟩, ⟨S_OR, E_OR, F_OR⟩⟩ := hWd
  have hkr := own_rng _ (own_mod p1 13 13 (by decide) (by decide))
  obtain ⟨k, e_k⟩ : ∃ z : Int32, z = ((p1 &&& (2147483647 : Int32)) % (13 : Int32)) := ⟨_, rfl⟩
  have pre1 : ∀ t_, Go p e below s₁ (mkF m 8 #[iv p1, iv k, .unset, .unset, .unset] []) t_ → Go p e below s₁ (entryFrame m #[(.int p1)] maxLocals) t_ := fun t_ kt => pre0 _ (by
      subst e_k
      show Go p e below s₁ (mkF m 0 #[iv p1, .unset, .unset, .unset, .unset] []) _
      refine XS.iloadN X0.here hx rfl (hb hby at_0) rfl ?_
      show Go p e below s₁ (mkF m 1 #[iv p1, .unset, .unset, .unset, .unset] [(.int p1)]) _
      refine X0.ldcInt hx hown (mvT hZ (hwi hw 0 rfl)) (g := (mkF m 1 #[iv p1, .unset, .unset, .unset, .unset] [(.int p1)])) rfl (hb hby at_1) _ ?_
      show Go p e below s₁ (mkF m 3 #[iv p1, .unset, .unset, .unset, .unset] [(.int 2147483647), (.int p1)]) _
      refine XS.iand X0.here hx rfl (hb hby at_3) rfl ?_
      show Go p e below s₁ (mkF m 4 #[iv p1, .unset, .unset, .unset, .unset] [(.int (p1 &&& (2147483647 : Int32)))]) _
      refine XS.bipush X0.here hx rfl (hb hby at_4) ?_
      show Go p e below s₁ (mkF m 6 #[iv p1, .unset, .unset, .unset, .unset] [(.int 13), (.int (p1 &&& (2147483647 : Int32)))]) _
      refine iremM X0 hx rfl (hb hby at_6) rfl (by decide) ?_
      show Go p e below s₁ (mkF m 7 #[iv p1, .unset, .unset, .unset, .unset] [(.int ((p1 &&& (2147483647 : Int32)) % (13 : Int32)))]) _
      refine XS.istoreN X0.here hx rfl (hb hby at_7) rfl (l' := #[iv p1, iv ((p1 &&& (2147483647 : Int32)) % (13 : Int32)), .unset, .unset, .unset]) rfl ?_
      show Go p e below s₁ (mkF m 8 #[iv p1, iv ((p1 &&& (2147483647 : Int32)) % (13 : Int32)), .unset, .unset, .unset] []) _
      exact kt)
  rw [← e_k] at hkr
  clear e_k
  obtain ⟨T2, h2, k2, X2, e2, E2, A2, O2, st2⟩ := newR X0 hx hZ hown (hwi hw 1 rfl) (hwi hw 2 rfl) e0 (g := (mkF m 10 #[iv p1, iv k, .unset, .unset, .unset] [(.int 13)])) rfl (hb hby at_10) rfl (by decide) (cap := 13) (by decide) (by decide) (by decide) (by decide)
  obtain ⟨b2, g2⟩ : ∃ z, z = h0.size := ⟨_, rfl⟩
  rw [← g2] at A2 st2
  have V2 : Arv Z h2 b2 k2 (.object "com/example/tandem_abstraction/tandemabstraction/parser/Expression$BinaryOperator") (13 : Int32) [.null, .null, .null, .null, .null, .null, .null, .null, .null, .null, .null, .null, .null] .null := (Arv.new A2 (by decide)).pad (pad_rep [] .null 13)
  have sz_b2 : h0.size ≤ b2 := Nat.le_trans (Keep.refl h0 []).1 (Nat.le_of_eq g2.symm)
  have g_b2 : n0 ≤ b2 := Nat.le_trans Z0 sz_b2
  have K2 : Keep h0 h2 [] := (Keep.refl h0 []).ext E2
  obtain ⟨T3, X3, e3, st3⟩ := getS2 X2 hx hZ hown (host := "") (Or.inl (hwi hw 3 rfl)) Via.refl e2 (S_ADD.ext (own_ext K2)) (g := (mkF m 15 #[iv p1, iv k, .unset, .unset, .unset] [(.int 0), (.ref b2), (.ref b2)])) rfl (hb hby at_15)
  obtain ⟨cl4, Ar4, qa4, Sa4, Na4, Ha4, Ga4⟩ := V2
  have hin4 : ¬ ((0 : Int32) < 0 ∨ cl4.slots.size ≤ ((0 : Int32)).toNatClampNeg) := inb_of Sa4 ⟨by decide, by decide⟩
  obtain ⟨T5, h5, X5, e5, W5, st5⟩ := stR X3 hx hZ e3 Ar4 (j := (0 : Int32)) hin4 rfl (Sto.ofV Ar4 qa4 O2 (Ins.self (E_ADD.ext (own_ext K2)))) (g := (mkF m 18 #[iv p1, iv k, .unset, .unset, .unset] [(.ref w_ADD), (.int 0), (.ref b2), (.ref b2)])) rfl rfl (hb hby at_18)
  have V5 : Arv Z h5 b2 k2 (.object "com/example/tandem_abstraction/tandemabstraction/parser/Expression$BinaryOperator") (13 : Int32) [(.ref w_ADD), .null, .null, .null, .null, .null, .null, .null, .null, .null, .null, .null, .null] .null := Arv.set Ar4 qa4 Sa4 Na4 Ha4 Ga4 rfl W5 0 rfl (Nat.le_of_ble_eq_true rfl)
  have K5 : Keep h0 h5 [] := K2.wr W5 (Or.inr sz_b2)
  have N5 := Fr.snoc X5 N0 g_b2
  obtain ⟨T6, X6, e6, st6⟩ := getS2 X5 hx hZ hown (host := "") (Or.inl (hwi hw 7 rfl)) Via.refl e5 (S_SUBTRACT.ext (own_ext K5)) (g := (mkF m 21 #[iv p1, iv k, .unset, .unset, .unset] [(.int 1), (.ref b2), (.ref b2)])) rfl (hb hby at_21)
  obtain ⟨cl7, Ar7, qa7, Sa7, Na7, Ha7, Ga7⟩ := V5
  have hin7 : ¬ ((1 : Int32) < 0 ∨ cl7.slots.size ≤ ((1 : Int32)).toNatClampNeg) := inb_of Sa7 ⟨by decide, by decide⟩
  obtain ⟨T8, h8, X8, e8, W8, st8⟩ := stR X6 hx hZ e6 Ar7 (j := (1 : Int32)) hin7 rfl (Sto.ofV Ar7 qa7 O2 (Ins.self (E_SUBTRACT.ext (own_ext K5)))) (g := (mkF m 24 #[iv p1, iv k, .unset, .unset, .unset] [(.ref w_SUBTRACT), (.int 1), (.ref b2), (.ref b2)])) rfl rfl (hb hby at_24)
  have V8 : Arv Z h8 b2 k2 (.object "com/example/tandem_abstraction/tandemabstraction/parser/Expression$BinaryOperator") (13 : Int32) [(.ref w_ADD), (.ref w_SUBTRACT), .null, .null, .null, .null, .null, .null, .null, .null, .null, .null, .null] .null := Arv.set Ar7 qa7 Sa7 Na7 Ha7 Ga7 rfl W8 1 rfl (Nat.le_of_ble_eq_true rfl)
  have K8 : Keep h0 h8 [] := K5.wr W8 (Or.inr sz_b2)
  have N8 := Fr.snoc X8 N5 g_b2
  obtain ⟨T9, X9, e9, st9⟩ := getS2 X8 hx hZ hown (host := "") (Or.inl (hwi hw 9 rfl)) Via.refl e8 (S_MULTIPLY.ext (own_ext K8)) (g := (mkF m 27 #[iv p1, iv k, .unset, .unset, .unset] [(.int 2), (.ref b2), (.ref b2)])) rfl (hb hby at_27)
  obtain ⟨cl10, Ar10, qa10, Sa10, Na10, Ha10, Ga10⟩ := V8
  have hin10 : ¬ ((2 : Int32) < 0 ∨ cl10.slots.size ≤ ((2 : Int32)).toNatClampNeg) := inb_of Sa10 ⟨by decide, by decide⟩
  obtain ⟨T11, h11, X11, e11, W11, st11⟩ := stR X9 hx hZ e9 Ar10 (j := (2 : Int32)) hin10 rfl (Sto.ofV Ar10 qa10 O2 (Ins.self (E_MULTIPLY.ext (own_ext K8)))) (g := (mkF m 30 #[iv p1, iv k, .unset, .unset, .unset] [(.ref w_MULTIPLY), (.int 2), (.ref b2), (.ref b2)])) rfl rfl (hb hby at_30)
  have V11 : Arv Z h11 b2 k2 (.object "com/example/tandem_abstraction/tandemabstraction/parser/Expression$BinaryOperator") (13 : Int32) [(.ref w_ADD), (.ref w_SUBTRACT), (.ref w_MULTIPLY), .null, .null, .null, .null, .null, .null, .null, .null, .null, .null] .null := Arv.set Ar10 qa10 Sa10 Na10 Ha10 Ga10 rfl W11 2 rfl (Nat.le_of_ble_eq_true rfl)
  have K11 : Keep h0 h11 [] := K8.wr W11 (Or.inr sz_b2)
  have N11 := Fr.snoc X11 N8 g_b2
  obtain ⟨T12, X12, e12, st12⟩ := getS2 X11 hx hZ hown (host := "") (Or.inl (hwi hw 11 rfl)) Via.refl e11 (S_DIVIDE.ext (own_ext K11)) (g := (mkF m 33 #[iv p1, iv k, .unset, .unset, .unset] [(.int 3), (.ref b2), (.ref b2)])) rfl (hb hby at_33)
  obtain ⟨cl13, Ar13, qa13, Sa13, Na13, Ha13, Ga13⟩ := V11
  have hin13 : ¬ ((3 : Int32) < 0 ∨ cl13.slots.size ≤ ((3 : Int32)).toNatClampNeg) := inb_of Sa13 ⟨by decide, by decide⟩
  obtain ⟨T14, h14, X14, e14, W14, st14⟩ := stR X12 hx hZ e12 Ar13 (j := (3 : Int32)) hin13 rfl (Sto.ofV Ar13 qa13 O2 (Ins.self (E_DIVIDE.ext (own_ext K11)))) (g := (mkF m 36 #[iv p1, iv k, .unset, .unset, .unset] [(.ref w_DIVIDE), (.int 3), (.ref b2), (.ref b2)])) rfl rfl (hb hby at_36)
  have V14 : Arv Z h14 b2 k2 (.object "com/example/tandem_abstraction/tandemabstraction/parser/Expression$BinaryOperator") (13 : Int32) [(.ref w_ADD), (.ref w_SUBTRACT), (.ref w_MULTIPLY), (.ref w_DIVIDE), .null, .null, .null, .null, .null, .null, .null, .null, .null] .null := Arv.set Ar13 qa13 Sa13 Na13 Ha13 Ga13 rfl W14 3 rfl (Nat.le_of_ble_eq_true rfl)
  have K14 : Keep h0 h14 [] := K11.wr W14 (Or.inr sz_b2)
  have N14 := Fr.snoc X14 N11 g_b2
  obtain ⟨T15, X15, e15, st15⟩ := getS2 X14 hx hZ hown (host := "") (Or.inl (hwi hw 13 rfl)) Via.refl e14 (S_REMAINDER.ext (own_ext K14)) (g := (mkF m 39 #[iv p1, iv k, .unset, .unset, .unset] [(.int 4), (.ref b2), (.ref b2)])) rfl (hb hby at_39)
  obtain ⟨cl16, Ar16, qa16, Sa16, Na16, Ha16, Ga16⟩ := V14
  have hin16 : ¬ ((4 : Int32) < 0 ∨ cl16.slots.size ≤ ((4 : Int32)).toNatClampNeg) := inb_of Sa16 ⟨by decide, by decide⟩
  obtain ⟨T17, h17, X17, e17, W17, st17⟩ := stR X15 hx hZ e15 Ar16 (j := (4 : Int32)) hin16 rfl (Sto.ofV Ar16 qa16 O2 (Ins.self (E_REMAINDER.ext (own_ext K14)))) (g := (mkF m 42 #[iv p1, iv k, .unset, .unset, .unset] [(.ref w_REMAINDER), (.int 4), (.ref b2), (.ref b2)])) rfl rfl (hb hby at_42)
  have V17 : Arv Z h17 b2 k2 (.object "com/example/tandem_abstraction/tandemabstraction/parser/Expression$BinaryOperator") (13 : Int32) [(.ref w_ADD), (.ref w_SUBTRACT), (.ref w_MULTIPLY), (.ref w_DIVIDE), (.ref w_REMAINDER), .null, .null, .null, .null, .null, .null, .null, .null] .null := Arv.set Ar16 qa16 Sa16 Na16 Ha16 Ga16 rfl W17 4 rfl (Nat.le_of_ble_eq_true rfl)
  have K17 : Keep h0 h17 [] := K14.wr W17 (Or.inr sz_b2)
  have N17 := Fr.snoc X17 N14 g_b2
  obtain ⟨T18, X18, e18, st18⟩ := getS2 X17 hx hZ hown (host := "") (Or.inl (hwi hw 15 rfl)) Via.refl e17 (S_LESS.ext (own_ext K17)) (g := (mkF m 45 #[iv p1, iv k, .unset, .unset, .unset] [(.int 5), (.ref b2), (.ref b2)])) rfl (hb hby at_45)
  obtain ⟨cl19, Ar19, qa19, Sa19, Na19, Ha19, Ga19⟩ := V17
  have hin19 : ¬ ((5 : Int32) < 0 ∨ cl19.slots.size ≤ ((5 : Int32)).toNatClampNeg) := inb_of Sa19 ⟨by decide, by decide⟩
  obtain ⟨T20, h20, X20, e20, W20, st20⟩ := stR X18 hx hZ e18 Ar19 (j := (5 : Int32)) hin19 rfl (Sto.ofV Ar19 qa19 O2 (Ins.self (E_LESS.ext (own_ext K17)))) (g := (mkF m 48 #[iv p1, iv k, .unset, .unset, .unset] [(.ref w_LESS), (.int 5), (.ref b2), (.ref b2)])) rfl rfl (hb hby at_48)
  have V20 : Arv Z h20 b2 k2 (.object "com/example/tandem_abstraction/tandemabstraction/parser/Expression$BinaryOperator") (13 : Int32) [(.ref w_ADD), (.ref w_SUBTRACT), (.ref w_MULTIPLY), (.ref w_DIVIDE), (.ref w_REMAINDER), (.ref w_LESS), .null, .null, .null, .null, .null, .null, .null] .null := Arv.set Ar19 qa19 Sa19 Na19 Ha19 Ga19 rfl W20 5 rfl (Nat.le_of_ble_eq_true rfl)
  have K20 : Keep h0 h20 [] := K17.wr W20 (Or.inr sz_b2)
  have N20 := Fr.snoc X20 N17 g_b2
  obtain ⟨T21, X21, e21, st21⟩ := getS2 X20 hx hZ hown (host := "") (Or.inl (hwi hw 17 rfl)) Via.refl e20 (S_LESS_EQUAL.ext (own_ext K20)) (g := (mkF m 52 #[iv p1, iv k, .unset, .unset, .unset] [(.int 6), (.ref b2), (.ref b2)])) rfl (hb hby at_52)
  obtain ⟨cl22, Ar22, qa22, Sa22, Na22, Ha22, Ga22⟩ := V20
  have hin22 : ¬ ((6 : Int32) < 0 ∨ cl22.slots.size ≤ ((6 : Int32)).toNatClampNeg) := inb_of Sa22 ⟨by decide, by decide⟩
  obtain ⟨T23, h23, X23, e23, W23, st23⟩ := stR X21 hx hZ e21 Ar22 (j := (6 : Int32)) hin22 rfl (Sto.ofV Ar22 qa22 O2 (Ins.self (E_LESS_EQUAL.ext (own_ext K20)))) (g := (mkF m 55 #[iv p1, iv k, .unset, .unset, .unset] [(.ref w_LESS_EQUAL), (.int 6), (.ref b2), (.ref b2)])) rfl rfl (hb hby at_55)
  have V23 : Arv Z h23 b2 k2 (.object "com/example/tandem_abstraction/tandemabstraction/parser/Expression$BinaryOperator") (13 : Int32) [(.ref w_ADD), (.ref w_SUBTRACT), (.ref w_MULTIPLY), (.ref w_DIVIDE), (.ref w_REMAINDER), (.ref w_LESS), (.ref w_LESS_EQUAL), .null, .null, .null, .null, .null, .null] .null := Arv.set Ar22 qa22 Sa22 Na22 Ha22 Ga22 rfl W23 6 rfl (Nat.le_of_ble_eq_true rfl)
  have K23 : Keep h0 h23 [] := K20.wr W23 (Or.inr sz_b2)
  have N23 := Fr.snoc X23 N20 g_b2
  obtain ⟨T24, X24, e24, st24⟩ := getS2 X23 hx hZ hown (host := "") (Or.inl (hwi hw 19 rfl)) Via.refl e23 (S_GREATER.ext (own_ext K23)) (g := (mkF m 59 #[iv p1, iv k, .unset, .unset, .unset] [(.int 7), (.ref b2), (.ref b2)])) rfl (hb hby at_59)
  obtain ⟨cl25, Ar25, qa25, Sa25, Na25, Ha25, Ga25⟩ := V23
  have hin25 : ¬ ((7 : Int32) < 0 ∨ cl25.slots.size ≤ ((7 : Int32)).toNatClampNeg) := inb_of Sa25 ⟨by decide, by decide⟩
  obtain ⟨T26, h26, X26, e26, W26, st26⟩ := stR X24 hx hZ e24 Ar25 (j := (7 : Int32)) hin25 rfl (Sto.ofV Ar25 qa25 O2 (Ins.self (E_GREATER.ext (own_ext K23)))) (g := (mkF m 62 #[iv p1, iv k, .unset, .unset, .unset] [(.ref w_GREATER), (.int 7), (.ref b2), (.ref b2)])) rfl rfl (hb hby at_62)
  have V26 : Arv Z h26 b2 k2 (.object "com/example/tandem_abstraction/tandemabstraction/parser/Expression$BinaryOperator") (13 : Int32) [(.ref w_ADD), (.ref w_SUBTRACT), (.ref w_MULTIPLY), (.ref w_DIVIDE), (.ref w_REMAINDER), (.ref w_LESS), (.ref w_LESS_EQUAL), (.ref w_GREATER), .null, .null, .null, .null, .null] .null := Arv.set Ar25 qa25 Sa25 Na25 Ha25 Ga25 rfl W26 7 rfl (Nat.le_of_ble_eq_true rfl)
  have K26 : Keep h0 h26 [] := K23.wr W26 (Or.inr sz_b2)
  have N26 := Fr.snoc X26 N23 g_b2
  obtain ⟨T27, X27, e27, st27⟩ := getS2 X26 hx hZ hown (host := "") (Or.inl (hwi hw 21 rfl)) Via.refl e26 (S_GREATER_EQUAL.ext (own_ext K26)) (g := (mkF m 66 #[iv p1, iv k, .unset, .unset, .unset] [(.int 8), (.ref b2), (.ref b2)])) rfl (hb hby at_66)
  obtain ⟨cl28, Ar28, qa28, Sa28, Na28, Ha28, Ga28⟩ := V26
  have hin28 : ¬ ((8 : Int32) < 0 ∨ cl28.slots.size ≤ ((8 : Int32)).toNatClampNeg) := inb_of Sa28 ⟨by decide, by decide⟩
  obtain ⟨T29, h29, X29, e29, W29, st29⟩ := stR X27 hx hZ e27 Ar28 (j := (8 : Int32)) hin28 rfl (Sto.ofV Ar28 qa28 O2 (Ins.self (E_GREATER_EQUAL.ext (own_ext K26)))) (g := (mkF m 69 #[iv p1, iv k, .unset, .unset, .unset] [(.ref w_GREATER_EQUAL), (.int 8), (.ref b2), (.ref b2)])) rfl rfl (hb hby at_69)
  have V29 : Arv Z h29 b2 k2 (.object "com/example/tandem_abstraction/tandemabstraction/parser/Expression$BinaryOperator") (13 : Int32) [(.ref w_ADD), (.ref w_SUBTRACT), (.ref w_MULTIPLY), (.ref w_DIVIDE), (.ref w_REMAINDER), (.ref w_LESS), (.ref w_LESS_EQUAL), (.ref w_GREATER), (.ref w_GREATER_EQUAL), .null, .null, .null, .null] .null := Arv.set Ar28 qa28 Sa28 Na28 Ha28 Ga28 rfl W29 8 rfl (Nat.le_of_ble_eq_true rfl)
  have K29 : Keep h0 h29 [] := K26.wr W29 (Or.inr sz_b2)
  have N29 := Fr.snoc X29 N26 g_b2
  obtain ⟨T30, X30, e30, st30⟩ := getS2 X29 hx hZ hown (host := "") (Or.inl (hwi hw 23 rfl)) Via.refl e29 (S_EQUAL.ext (own_ext K29)) (g := (mkF m 73 #[iv p1, iv k, .unset, .unset, .unset] [(.int 9), (.ref b2), (.ref b2)])) rfl (hb hby at_73)
  obtain ⟨cl31, Ar31, qa31, Sa31, Na31, Ha31, Ga31⟩ := V29
  have hin31 : ¬ ((9 : Int32) < 0 ∨ cl31.slots.size ≤ ((9 : Int32)).toNatClampNeg) := inb_of Sa31 ⟨by decide, by decide⟩
  obtain ⟨T32, h32, X32, e32, W32, st32⟩ := stR X30 hx hZ e30 Ar31 (j := (9 : Int32)) hin31 rfl (Sto.ofV Ar31 qa31 O2 (Ins.self (E_EQUAL.ext (own_ext K29)))) (g := (mkF m 76 #[iv p1, iv k, .unset, .unset, .unset] [(.ref w_EQUAL), (.int 9), (.ref b2), (.ref b2)])) rfl rfl (hb hby at_76)
  have V32 : Arv Z h32 b2 k2 (.object "com/example/tandem_abstraction/tandemabstraction/parser/Expression$BinaryOperator") (13 : Int32) [(.ref w_ADD), (.ref w_SUBTRACT), (.ref w_MULTIPLY), (.ref w_DIVIDE), (.ref w_REMAINDER), (.ref w_LESS), (.ref w_LESS_EQUAL), (.ref w_GREATER), (.ref w_GREATER_EQUAL), (.ref w_EQUAL), .null, .null, .null] .null := Arv.set Ar31 qa31 Sa31 Na31 Ha31 Ga31 rfl W32 9 rfl (Nat.le_of_ble_eq_true rfl)
  have K32 : Keep h0 h32 [] := K29.wr W32 (Or.inr sz_b2)
  have N32 := Fr.snoc X32 N29 g_b2
  obtain ⟨T33, X33, e33, st33⟩ := getS2 X32 hx hZ hown (host := "") (Or.inl (hwi hw 25 rfl)) Via.refl e32 (S_NOT_EQUAL.ext (own_ext K32)) (g := (mkF m 80 #[iv p1, iv k, .unset, .unset, .unset] [(.int 10), (.ref b2), (.ref b2)])) rfl (hb hby at_80)
  obtain ⟨cl34, Ar34, qa34, Sa34, Na34, Ha34, Ga34⟩ := V32
  have hin34 : ¬ ((10 : Int32) < 0 ∨ cl34.slots.size ≤ ((10 : Int32)).toNatClampNeg) := inb_of Sa34 ⟨by decide, by decide⟩
  obtain ⟨T35, h35, X35, e35, W35, st35⟩ := stR X33 hx hZ e33 Ar34 (j := (10 : Int32)) hin34 rfl (Sto.ofV Ar34 qa34 O2 (Ins.self (E_NOT_EQUAL.ext (own_ext K32)))) (g := (mkF m 83 #[iv p1, iv k, .unset, .unset, .unset] [(.ref w_NOT_EQUAL), (.int 10), (.ref b2), (.ref b2)])) rfl rfl (hb hby at_83)
  have V35 : Arv Z h35 b2 k2 (.object "com/example/tandem_abstraction/tandemabstraction/parser/Expression$BinaryOperator") (13 : Int32) [(.ref w_ADD), (.ref w_SUBTRACT), (.ref w_MULTIPLY), (.ref w_DIVIDE), (.ref w_REMAINDER), (.ref w_LESS), (.ref w_LESS_EQUAL), (.ref w_GREATER), (.ref w_GREATER_EQUAL), (.ref w_EQUAL), (.ref w_NOT_EQUAL), .null, .null] .null := Arv.set Ar34 qa34 Sa34 Na34 Ha34 Ga34 rfl W35 10 rfl (Nat.le_of_ble_eq_true rfl)
  have K35 : Keep h0 h35 [] := K32.wr W35 (Or.inr sz_b2)
  have N35 := Fr.snoc X35 N32 g_b2
  obtain ⟨T36, X36, e36, st36⟩ := getS2 X35 hx hZ hown (host := "") (Or.inl (hwi hw 27 rfl)) Via.refl e35 (S_AND.ext (own_ext K35)) (g := (mkF m 87 #[iv p1, iv k, .unset, .unset, .unset] [(.int 11), (.ref b2), (.ref b2)])) rfl (hb hby at_87)
  obtain ⟨cl37, Ar37, qa37, Sa37, Na37, Ha37, Ga37⟩ := V35
  have hin37 : ¬ ((11 : Int32) < 0 ∨ cl37.slots.size ≤ ((11 : Int32)).toNatClampNeg) := inb_of Sa37 ⟨by decide, by decide⟩
  obtain ⟨T38, h38, X38, e38, W38, st38⟩ := stR X36 hx hZ e36 Ar37 (j := (11 : Int32)) hin37 rfl (Sto.ofV Ar37 qa37 O2 (Ins.self (E_AND.ext (own_ext K35)))) (g := (mkF m 90 #[iv p1, iv k, .unset, .unset, .unset] [(.ref w_AND), (.int 11), (.ref b2), (.ref b2)])) rfl rfl (hb hby at_90)
  have V38 : Arv Z h38 b2 k2 (.object "com/example/tandem_abstraction/tandemabstraction/parser/Expression$BinaryOperator") (13 : Int32) [(.ref w_ADD), (.ref w_SUBTRACT), (.ref w_MULTIPLY), (.ref w_DIVIDE), (.ref w_REMAINDER), (.ref w_LESS), (.ref w_LESS_EQUAL), (.ref w_GREATER), (.ref w_GREATER_EQUAL), (.ref w_EQUAL), (.ref w_NOT_EQUAL), (.ref w_AND), .null] .null := Arv.set Ar37 qa37 Sa37 Na37 Ha37 Ga37 rfl W38 11 rfl (Nat.le_of_ble_eq_true rfl)
  have K38 : Keep h0 h38 [] := K35.wr W38 (Or.inr sz_b2)
  have N38 := Fr.snoc X38 N35 g_b2
  obtain ⟨T39, X39, e39, st39⟩ := getS2 X38 hx hZ hown (host := "") (Or.inl (hwi hw 29 rfl)) Via.refl e38 (S_OR.ext (own_ext K38)) (g := (mkF m 94 #[iv p1, iv k, .unset, .unset, .unset] [(.int 12), (.ref b2), (.ref b2)])) rfl (hb hby at_94)
  obtain ⟨cl40, Ar40, qa40, Sa40, Na40, Ha40, Ga40⟩ := V38
  have hin40 : ¬ ((12 : Int32) < 0 ∨ cl40.slots.size ≤ ((12 : Int32)).toNatClampNeg) := inb_of Sa40 ⟨by decide, by decide⟩
  obtain ⟨T41, h41, X41, e41, W41, st41⟩ := stR X39 hx hZ e39 Ar40 (j := (12 : Int32)) hin40 rfl (Sto.ofV Ar40 qa40 O2 (Ins.self (E_OR.ext (own_ext K38)))) (g := (mkF m 97 #[iv p1, iv k, .unset, .unset, .unset] [(.ref w_OR), (.int 12), (.ref b2), (.ref b2)])) rfl rfl (hb hby at_97)
  have V41 : Arv Z h41 b2 k2 (.object "com/example/tandem_abstraction/tandemabstraction/parser/Expression$BinaryOperator") (13 : Int32) [(.ref w_ADD), (.ref w_SUBTRACT), (.ref w_MULTIPLY), (.ref w_DIVIDE), (.ref w_REMAINDER), (.ref w_LESS), (.ref w_LESS_EQUAL), (.ref w_GREATER), (.ref w_GREATER_EQUAL), (.ref w_EQUAL), (.ref w_NOT_EQUAL), (.ref w_AND), (.ref w_OR)] .null := Arv.set Ar40 qa40 Sa40 Na40 Ha40 Ga40 rfl W41 12 rfl (Nat.le_of_ble_eq_true rfl)
  have K41 : Keep h0 h41 [] := K38.wr W41 (Or.inr sz_b2)
  have N41 := Fr.snoc X41 N38 g_b2
  have pre42 : ∀ t_, Go p e below T41 (mkF m 101 #[iv p1, iv k, rv b2, .unset, .unset] [(.int 5), (.int k)]) t_ → Go p e below s₁ (entryFrame m #[(.int p1)] maxLocals) t_ := fun t_ kt => pre1 _ (by
      show Go p e below s₁ (mkF m 8 #[iv p1, iv k, .unset, .unset, .unset] []) _
      refine XS.bipush X0.here hx rfl (hb hby at_8) ?_
      show Go p e below s₁ (mkF m 10 #[iv p1, iv k, .unset, .unset, .unset] [(.int 13)]) _
      refine st2 _ ?_
      show Go p e below T2 (mkF m 13 #[iv p1, iv k, .unset, .unset, .unset] [(.ref b2)]) _
      refine XS.dup X2.here hx rfl (hb hby at_13) rfl rfl ?_
      show Go p e below T2 (mkF m 14 #[iv p1, iv k, .unset, .unset, .unset] [(.ref b2), (.ref b2)]) _
      refine XS.iconst X2.here hx rfl (hb hby at_14) ?_
      show Go p e below T2 (mkF m 15 #[iv p1, iv k, .unset, .unset, .unset] [(.int 0), (.ref b2), (.ref b2)]) _
      refine st3 _ ?_
      show Go p e below T3 (mkF m 18 #[iv p1, iv k, .unset, .unset, .unset] [(.ref w_ADD), (.int 0), (.ref b2), (.ref b2)]) _
      refine st5 _ ?_
      show Go p e below T5 (mkF m 19 #[iv p1, iv k, .unset, .unset, .unset] [(.ref b2)]) _
      refine XS.dup X5.here hx rfl (hb hby at_19) rfl rfl ?_
      show Go p e below T5 (mkF m 20 #[iv p1, iv k, .unset, .unset, .unset] [(.ref b2), (.ref b2)]) _
      refine XS.iconst X5.here hx rfl (hb hby at_20) ?_
      show Go p e below T5 (mkF m 21 #[iv p1, iv k, .unset, .unset, .unset] [(.int 1), (.ref b2), (.ref b2)]) _
      refine st6 _ ?_
      show Go p e below T6 (mkF m 24 #[iv p1, iv k, .unset, .unset, .unset] [(.ref w_SUBTRACT), (.int 1), (.ref b2), (.ref b2)]) _
      refine st8 _ ?_
      show Go p e below T8 (mkF m 25 #[iv p1, iv k, .unset, .unset, .unset] [(.ref b2)]) _
      refine XS.dup X8.here hx rfl (hb hby at_25) rfl rfl ?_
      show Go p e below T8 (mkF m 26 #[iv p1, iv k, .unset, .unset, .unset] [(.ref b2), (.ref b2)]) _
      refine XS.iconst X8.here hx rfl (hb hby at_26) ?_
      show Go p e below T8 (mkF m 27 #[iv p1, iv k, .unset, .unset, .unset] [(.int 2), (.ref b2), (.ref b2)]) _
      refine st9 _ ?_
      show Go p e below T9 (mkF m 30 #[iv p1, iv k, .unset, .unset, .unset] [(.ref w_MULTIPLY), (.int 2), (.ref b2), (.ref b2)]) _
      refine st11 _ ?_
      show Go p e below T11 (mkF m 31 #[iv p1, iv k, .unset, .unset, .unset] [(.ref b2)]) _
      refine XS.dup X11.here hx rfl (hb hby at_31) rfl rfl ?_
      show Go p e below T11 (mkF m 32 #[iv p1, iv k, .unset, .unset, .unset] [(.ref b2), (.ref b2)]) _
      refine XS.iconst X11.here hx rfl (hb hby at_32) ?_
      show Go p e below T11 (mkF m 33 #[iv p1, iv k, .unset, .unset, .unset] [(.int 3), (.ref b2), (.ref b2)]) _
      refine st12 _ ?_
      show Go p e below T12 (mkF m 36 #[iv p1, iv k, .unset, .unset, .unset] [(.ref w_DIVIDE), (.int 3), (.ref b2), (.ref b2)]) _
      refine st14 _ ?_
      show Go p e below T14 (mkF m 37 #[iv p1, iv k, .unset, .unset, .unset] [(.ref b2)]) _
      refine XS.dup X14.here hx rfl (hb hby at_37) rfl rfl ?_
      show Go p e below T14 (mkF m 38 #[iv p1, iv k, .unset, .unset, .unset] [(.ref b2), (.ref b2)]) _
      refine XS.iconst X14.here hx rfl (hb hby at_38) ?_
      show Go p e below T14 (mkF m 39 #[iv p1, iv k, .unset, .unset, .unset] [(.int 4), (.ref b2), (.ref b2)]) _
      refine st15 _ ?_
      show Go p e below T15 (mkF m 42 #[iv p1, iv k, .unset, .unset, .unset] [(.ref w_REMAINDER), (.int 4), (.ref b2), (.ref b2)]) _
      refine st17 _ ?_
      show Go p e below T17 (mkF m 43 #[iv p1, iv k, .unset, .unset, .unset] [(.ref b2)]) _
      refine XS.dup X17.here hx rfl (hb hby at_43) rfl rfl ?_
      show Go p e below T17 (mkF m 44 #[iv p1, iv k, .unset, .unset, .unset] [(.ref b2), (.ref b2)]) _
      refine XS.iconst X17.here hx rfl (hb hby at_44) ?_
      show Go p e below T17 (mkF m 45 #[iv p1, iv k, .unset, .unset, .unset] [(.int 5), (.ref b2), (.ref b2)]) _
      refine st18 _ ?_
      show Go p e below T18 (mkF m 48 #[iv p1, iv k, .unset, .unset, .unset] [(.ref w_LESS), (.int 5), (.ref b2), (.ref b2)]) _
      refine st20 _ ?_
      show Go p e below T20 (mkF m 49 #[iv p1, iv k, .unset, .unset, .unset] [(.ref b2)]) _
      refine XS.dup X20.here hx rfl (hb hby at_49) rfl rfl ?_
      show Go p e below T20 (mkF m 50 #[iv p1, iv k, .unset, .unset, .unset] [(.ref b2), (.ref b2)]) _
      refine XS.bipush X20.here hx rfl (hb hby at_50) ?_
      show Go p e below T20 (mkF m 52 #[iv p1, iv k, .unset, .unset, .unset] [(.int 6), (.ref b2), (.ref b2)]) _
      refine st21 _ ?_
      show Go p e below T21 (mkF m 55 #[iv p1, iv k, .unset, .unset, .unset] [(.ref w_LESS_EQUAL), (.int 6), (.ref b2), (.ref b2)]) _
      refine st23 _ ?_
      show Go p e below T23 (mkF m 56 #[iv p1, iv k, .unset, .unset, .unset] [(.ref b2)]) _
      refine XS.dup X23.here hx rfl (hb hby at_56) rfl rfl ?_
      show Go p e below T23 (mkF m 57 #[iv p1, iv k, .unset, .unset, .unset] [(.ref b2), (.ref b2)]) _
      refine XS.bipush X23.here hx rfl (hb hby at_57) ?_
      show Go p e below T23 (mkF m 59 #[iv p1, iv k, .unset, .unset, .unset] [(.int 7), (.ref b2), (.ref b2)]) _
      refine st24 _ ?_
      show Go p e below T24 (mkF m 62 #[iv p1, iv k, .unset, .unset, .unset] [(.ref w_GREATER), (.int 7), (.ref b2), (.ref b2)]) _
      refine st26 _ ?_
      show Go p e below T26 (mkF m 63 #[iv p1, iv k, .unset, .unset, .unset] [(.ref b2)]) _
      refine XS.dup X26.here hx rfl (hb hby at_63) rfl rfl ?_
      show Go p e below T26 (mkF m 64 #[iv p1, iv k, .unset, .unset, .unset] [(.ref b2), (.ref b2)]) _
      refine XS.bipush X26.here hx rfl (hb hby at_64) ?_
      show Go p e below T26 (mkF m 66 #[iv p1, iv k, .unset, .unset, .unset] [(.int 8), (.ref b2), (.ref b2)]) _
      refine st27 _ ?_
      show Go p e below T27 (mkF m 69 #[iv p1, iv k, .unset, .unset, .unset] [(.ref w_GREATER_EQUAL), (.int 8), (.ref b2), (.ref b2)]) _
      refine st29 _ ?_
      show Go p e below T29 (mkF m 70 #[iv p1, iv k, .unset, .unset, .unset] [(.ref b2)]) _
      refine XS.dup X29.here hx rfl (hb hby at_70) rfl rfl ?_
      show Go p e below T29 (mkF m 71 #[iv p1, iv k, .unset, .unset, .unset] [(.ref b2), (.ref b2)]) _
      refine XS.bipush X29.here hx rfl (hb hby at_71) ?_
      show Go p e below T29 (mkF m 73 #[iv p1, iv k, .unset, .unset, .unset] [(.int 9), (.ref b2), (.ref b2)]) _
      refine st30 _ ?_
      show Go p e below T30 (mkF m 76 #[iv p1, iv k, .unset, .unset, .unset] [(.ref w_EQUAL), (.int 9), (.ref b2), (.ref b2)]) _
      refine st32 _ ?_
      show Go p e below T32 (mkF m 77 #[iv p1, iv k, .unset, .unset, .unset] [(.ref b2)]) _
      refine XS.dup X32.here hx rfl (hb hby at_77) rfl rfl ?_
      show Go p e below T32 (mkF m 78 #[iv p1, iv k, .unset, .unset, .unset] [(.ref b2), (.ref b2)]) _
      refine XS.bipush X32.here hx rfl (hb hby at_78) ?_
      show Go p e below T32 (mkF m 80 #[iv p1, iv k, .unset, .unset, .unset] [(.int 10), (.ref b2), (.ref b2)]) _
      refine st33 _ ?_
      show Go p e below T33 (mkF m 83 #[iv p1, iv k, .unset, .unset, .unset] [(.ref w_NOT_EQUAL), (.int 10), (.ref b2), (.ref b2)]) _
      refine st35 _ ?_
      show Go p e below T35 (mkF m 84 #[iv p1, iv k, .unset, .unset, .unset] [(.ref b2)]) _
      refine XS.dup X35.here hx rfl (hb hby at_84) rfl rfl ?_
      show Go p e below T35 (mkF m 85 #[iv p1, iv k, .unset, .unset, .unset] [(.ref b2), (.ref b2)]) _
      refine XS.bipush X35.here hx rfl (hb hby at_85) ?_
      show Go p e below T35 (mkF m 87 #[iv p1, iv k, .unset, .unset, .unset] [(.int 11), (.ref b2), (.ref b2)]) _
      refine st36 _ ?_
      show Go p e below T36 (mkF m 90 #[iv p1, iv k, .unset, .unset, .unset] [(.ref w_AND), (.int 11), (.ref b2), (.ref b2)]) _
      refine st38 _ ?_
      show Go p e below T38 (mkF m 91 #[iv p1, iv k, .unset, .unset, .unset] [(.ref b2)]) _
      refine XS.dup X38.here hx rfl (hb hby at_91) rfl rfl ?_
      show Go p e below T38 (mkF m 92 #[iv p1, iv k, .unset, .unset, .unset] [(.ref b2), (.ref b2)]) _
      refine XS.bipush X38.here hx rfl (hb hby at_92) ?_
      show Go p e below T38 (mkF m 94 #[iv p1, iv k, .unset, .unset, .unset] [(.int 12), (.ref b2), (.ref b2)]) _
      refine st39 _ ?_
      show Go p e below T39 (mkF m 97 #[iv p1, iv k, .unset, .unset, .unset] [(.ref w_OR), (.int 12), (.ref b2), (.ref b2)]) _
      refine st41 _ ?_
      show Go p e below T41 (mkF m 98 #[iv p1, iv k, .unset, .unset, .unset] [(.ref b2)]) _
      refine XS.astoreN X41.here hx rfl (hb hby at_98) rfl rfl (l' := #[iv p1, iv k, rv b2, .unset, .unset]) rfl ?_
      show Go p e below T41 (mkF m 99 #[iv p1, iv k, rv b2, .unset, .unset] []) _
      refine XS.iloadN X41.here hx rfl (hb hby at_99) rfl ?_
      show Go p e below T41 (mkF m 100 #[iv p1, iv k, rv b2, .unset, .unset] [(.int k)]) _
      refine XS.iconst X41.here hx rfl (hb hby at_100) ?_
      show Go p e below T41 (mkF m 101 #[iv p1, iv k, rv b2, .unset, .unset] [(.int 5), (.int k)]) _
      exact kt)
  by_cases hc101_43 : k < (5 : Int32)
  · obtain ⟨cl44, Ar44, qa44, Sa44, Na44, Ha44, Ga44⟩ := V41
    have hin_a := inb_of (j := k) Sa44 (by rcases hkr with rfl | rfl | rfl | rfl | rfl | rfl | rfl | rfl | rfl | rfl | rfl | rfl | rfl <;> decide)
    obtain ⟨a, at_a, Ea, hiff⟩ : ∃ a : Addr, ([(.ref w_ADD), (.ref w_SUBTRACT), (.ref w_MULTIPLY), (.ref w_DIVIDE), (.ref w_REMAINDER), (.ref w_LESS), (.ref w_LESS_EQUAL), (.ref w_GREATER), (.ref w_GREATER_EQUAL), (.ref w_EQUAL), (.ref w_NOT_EQUAL), (.ref w_AND), (.ref w_OR)] : List Value).getD k.toNatClampNeg .null = .ref a ∧ Exa Z h41 a "com/example/tandem_abstraction/tandemabstraction/parser/Expression$BinaryOperator" ∧ ((a = w_ADD ∨ a = w_SUBTRACT ∨ a = w_MULTIPLY ∨ a = w_DIVIDE ∨ a = w_REMAINDER) ↔ k < (5 : Int32)) := by
      rcases hkr with rfl | rfl | rfl | rfl | rfl | rfl | rfl | rfl | rfl | rfl | rfl | rfl | rfl
      · exact ⟨w_ADD, rfl, (E_ADD.ext (own_ext K41)), ⟨fun _ => by decide, fun _ => by simp⟩⟩
      · exact ⟨w_SUBTRACT, rfl, (E_SUBTRACT.ext (own_ext K41)), ⟨fun _ => by decide, fun _ => by simp⟩⟩
      · exact ⟨w_MULTIPLY, rfl, (E_MULTIPLY.ext (own_ext K41)), ⟨fun _ => by decide, fun _ => by simp⟩⟩
      · exact ⟨w_DIVIDE, rfl, (E_DIVIDE.ext (own_ext K41)), ⟨fun _ => by decide, fun _ => by simp⟩⟩
      · exact ⟨w_REMAINDER, rfl, (E_REMAINDER.ext (own_ext K41)), ⟨fun _ => by decide, fun _ => by simp⟩⟩
      · exact ⟨w_LESS, rfl, (E_LESS.ext (own_ext K41)), ⟨fun q => absurd q (by simp [(Fld.ne F_LESS F_ADD (by decide)), (Fld.ne F_LESS F_SUBTRACT (by decide)), (Fld.ne F_LESS F_MULTIPLY (by decide)), (Fld.ne F_LESS F_DIVIDE (by decide)), (Fld.ne F_LESS F_REMAINDER (by decide))]), fun q => absurd q (by decide)⟩⟩
      · exact ⟨w_LESS_EQUAL, rfl, (E_LESS_EQUAL.ext (own_ext K41)), ⟨fun q => absurd q (by simp [(Fld.ne F_LESS_EQUAL F_ADD (by decide)), (Fld.ne F_LESS_EQUAL F_SUBTRACT (by decide)), (Fld.ne F_LESS_EQUAL F_MULTIPLY (by decide)), (Fld.ne F_LESS_EQUAL F_DIVIDE (by decide)), (Fld.ne F_LESS_EQUAL F_REMAINDER (by decide))]), fun q => absurd q (by decide)⟩⟩
      · exact ⟨w_GREATER, rfl, (E_GREATER.ext (own_ext K41)), ⟨fun q => absurd q (by simp [(Fld.ne F_GREATER F_ADD (by decide)), (Fld.ne F_GREATER F_SUBTRACT (by decide)), (Fld.ne F_GREATER F_MULTIPLY (by decide)), (Fld.ne F_GREATER F_DIVIDE (by decide)), (Fld.ne F_GREATER F_REMAINDER (by decide))]), fun q => absurd q (by decide)⟩⟩
      · exact ⟨w_GREATER_EQUAL, rfl, (E_GREATER_EQUAL.ext (own_ext K41)), ⟨fun q => absurd q (by simp [(Fld.ne F_GREATER_EQUAL F_ADD (by decide)), (Fld.ne F_GREATER_EQUAL F_SUBTRACT (by decide)), (Fld.ne F_GREATER_EQUAL F_MULTIPLY (by decide)), (Fld.ne F_GREATER_EQUAL F_DIVIDE (by decide)), (Fld.ne F_GREATER_EQUAL F_REMAINDER (by decide))]), fun q => absurd q (by decide)⟩⟩
      · exact ⟨w_EQUAL, rfl, (E_EQUAL.ext (own_ext K41)), ⟨fun q => absurd q (by simp [(Fld.ne F_EQUAL F_ADD (by decide)), (Fld.ne F_EQUAL F_SUBTRACT (by decide)), (Fld.ne F_EQUAL F_MULTIPLY (by decide)), (Fld.ne F_EQUAL F_DIVIDE (by decide)), (Fld.ne F_EQUAL F_REMAINDER (by decide))]), fun q => absurd q (by decide)⟩⟩
      · exact ⟨w_NOT_EQUAL, rfl, (E_NOT_EQUAL.ext (own_ext K41)), ⟨fun q => absurd q (by simp [(Fld.ne F_NOT_EQUAL F_ADD (by decide)), (Fld.ne F_NOT_EQUAL F_SUBTRACT (by decide)), (Fld.ne F_NOT_EQUAL F_MULTIPLY (by decide)), (Fld.ne F_NOT_EQUAL F_DIVIDE (by decide)), (Fld.ne F_NOT_EQUAL F_REMAINDER (by decide))]), fun q => absurd q (by decide)⟩⟩
      · exact ⟨w_AND, rfl, (E_AND.ext (own_ext K41)), ⟨fun q => absurd q (by simp [(Fld.ne F_AND F_ADD (by decide)), (Fld.ne F_AND F_SUBTRACT (by decide)), (Fld.ne F_AND F_MULTIPLY (by decide)), (Fld.ne F_AND F_DIVIDE (by decide)), (Fld.ne F_AND F_REMAINDER (by decide))]), fun q => absurd q (by decide)⟩⟩
      · exact ⟨w_OR, rfl, (E_OR.ext (own_ext K41)), ⟨fun q => absurd q (by simp [(Fld.ne F_OR F_ADD (by decide)), (Fld.ne F_OR F_SUBTRACT (by decide)), (Fld.ne F_OR F_MULTIPLY (by decide)), (Fld.ne F_OR F_DIVIDE (by decide)), (Fld.ne F_OR F_REMAINDER (by decide))]), fun q => absurd q (by decide)⟩⟩
    obtain ⟨cq45, kq45, q45a, q45b, q45c⟩ := isOf hZ e41 Ea
    obtain ⟨_, _, ⟨T45, L45, k45, n45⟩, -, X45, ⟨Lc45, hQ45, l45, y45, z45⟩, st45⟩ := X41.virtualBack hx (y := (⟨"com/example/tandem_abstraction/tandemabstraction/parser/Expression$BinaryOperator", "isBoolean", "()Z"⟩ : MethodName)) (z := (⟨"com/example/tandem_abstraction/tandemabstraction/parser/Expression$BinaryOperator", "isBoolean", "()Z"⟩ : MethodName)) hown (mvT hZ (hwi hw 31 rfl)) (mvT hZ (hwi hw 32 rfl)) (notFace_of_selects (args := #[]) (mvT hZ (hwi hw 34 rfl))) (mvT hZ (hwi hw 34 rfl)) (mvT hZ (hwi hw 33 rfl)) (by decide) (backOf (W := 0) (rmC l Z a0 hw [] a w_ADD w_SUBTRACT w_MULTIPLY w_DIVIDE w_REMAINDER w_LESS w_LESS_EQUAL w_GREATER w_GREATER_EQUAL w_EQUAL w_NOT_EQUAL w_AND w_OR h41 n0 (Nat.le_trans Z0 K41.1) (Wd_ext hWd0 (own_ext K41))) hZ (hwi hw 35 rfl) (hwi hw 4 rfl) (by decide) (by decide)) q45a q45c (g := (mkF m 124 #[iv p1, iv k, rv b2, iv 1, iv 0] [(.ref a)])) rfl (by rw [hml]; rfl) (Steps.refl _) (argsL := []) (rest := []) (lenOf pd_0 rfl) rfl (by show 2 * 0 + _ ≤ _; exact Nat.le_of_eq rfl) (hb hby at_124) (fun _ _ => ⟨rfl, e41, (by decide : 1 + 0 ≤ _), (by decide : 13 + 0 ≤ _)⟩)
    dsimp only [Pt.U, Pt.locs, Pt.cells, Pt.slots] at X45 l45 y45 z45 st45 hQ45
    subst l45 y45 z45
    obtain ⟨hv45, N45q, e45q⟩ := hQ45
    have N45 := Fr.app N41 N45q
    rw [if_pos (hiff.mpr hc101_43)] at hv45
    subst hv45
    have pre46 : ∀ t_, Go p e below T45 (mkF m 137 #[iv p1, iv k, rv b2, iv 1, iv 0] [(.int 1)]) t_ → Go p e below s₁ (entryFrame m #[(.int p1)] maxLocals) t_ := fun t_ kt => pre42 _ (by
        show Go p e below T41 (mkF m 101 #[iv p1, iv k, rv b2, .unset, .unset] [(.int 5), (.int k)]) _
        refine XS.icmpNo X41.here hx rfl (hb hby at_101) rfl (tlt hc101_43).2.1 ?_
        show Go p e below T41 (mkF m 104 #[iv p1, iv k, rv b2, .unset, .unset] []) _
        refine XS.iconst X41.here hx rfl (hb hby at_104) ?_
        show Go p e below T41 (mkF m 105 #[iv p1, iv k, rv b2, .unset, .unset] [(.int 1)]) _
        refine XS.goto X41.here hx rfl (pc0 := 105) (pc' := 109) rfl (hb hby at_105) (by decide) (by decide) ?_
        show Go p e below T41 (mkF m 109 #[iv p1, iv k, rv b2, .unset, .unset] [(.int 1)]) _
        refine XS.istoreN X41.here hx rfl (hb hby at_109) rfl (l' := #[iv p1, iv k, rv b2, iv 1, .unset]) rfl ?_
        show Go p e below T41 (mkF m 110 #[iv p1, iv k, rv b2, iv 1, .unset] []) _
        refine XS.iloadN X41.here hx rfl (hb hby at_110) rfl ?_
        show Go p e below T41 (mkF m 111 #[iv p1, iv k, rv b2, iv 1, .unset] [(.int 1)]) _
        refine XS.ifYes X41.here hx rfl (pc0 := 111) (pc' := 118) rfl (hb hby at_111) rfl ((if0 _ _).trans (feq ((by decide) : ¬ ((1 : Int32) = (0 : Int32)))).2) (by decide) (by decide) ?_
        show Go p e below T41 (mkF m 118 #[iv p1, iv k, rv b2, iv 1, .unset] []) _
        refine XS.iconst X41.here hx rfl (hb hby at_118) ?_
        show Go p e below T41 (mkF m 119 #[iv p1, iv k, rv b2, iv 1, .unset] [(.int 0)]) _
        refine XS.istore X41.here hx rfl (hb hby at_119) rfl (l' := #[iv p1, iv k, rv b2, iv 1, iv 0]) rfl ?_
        show Go p e below T41 (mkF m 121 #[iv p1, iv k, rv b2, iv 1, iv 0] []) _
        refine XS.aloadN X41.here hx rfl (hb hby at_121) rfl rfl ?_
        show Go p e below T41 (mkF m 122 #[iv p1, iv k, rv b2, iv 1, iv 0] [(.ref b2)]) _
        refine XS.iloadN X41.here hx rfl (hb hby at_122) rfl ?_
        show Go p e below T41 (mkF m 123 #[iv p1, iv k, rv b2, iv 1, iv 0] [(.int k), (.ref b2)]) _
        refine X41.aaload hx (j := k) (v := (.ref a)) (by rw [e41]; exact Ar44.1) (State.isArrayOf_alike hZ.alike Ar44.2.1) rfl Ar44.2.2 hin_a (Has.at Ha44 hin_a at_a) (g := (mkF m 123 #[iv p1, iv k, rv b2, iv 1, iv 0] [(.int k), (.ref b2)])) rfl rfl (hb hby at_123) _ ?_
        show Go p e below T41 (mkF m 124 #[iv p1, iv k, rv b2, iv 1, iv 0] [(.ref a)]) _
        refine st45.trans ?_
        show Go p e below T45 (mkF m 127 #[iv p1, iv k, rv b2, iv 1, iv 0] [(.int 0)]) _
        refine XS.iload X45.here hx rfl (hb hby at_127) rfl ?_
        show Go p e below T45 (mkF m 129 #[iv p1, iv k, rv b2, iv 1, iv 0] [(.int 0), (.int 0)]) _
        refine XS.icmpNo X45.here hx rfl (hb hby at_129) rfl (teq ((by decide) : (0 : Int32) = (0 : Int32))).2 ?_
        show Go p e below T45 (mkF m 132 #[iv p1, iv k, rv b2, iv 1, iv 0] []) _
        refine XS.iconst X45.here hx rfl (hb hby at_132) ?_
        show Go p e below T45 (mkF m 133 #[iv p1, iv k, rv b2, iv 1, iv 0] [(.int 1)]) _
        refine XS.goto X45.here hx rfl (pc0 := 133) (pc' := 137) rfl (hb hby at_133) (by decide) (by decide) ?_
        show Go p e below T45 (mkF m 137 #[iv p1, iv k, rv b2, iv 1, iv 0] [(.int 1)]) _
        exact kt)
    obtain ⟨fs, hr, hrun, hended, hW, hsame⟩ := X45.leave (v := some (.int 1)) (fun h => by rw [Bd.returns] at h; cases h)
    refine ⟨_, _, pre46 _ ?_, hrun, hended, _, _, rfl, ?_, ⟨_, rfl⟩, hW, hsame.mono (by decide) (by decide)⟩
    · show Steps p.tables e below (T45.setTop (mkF m 137 #[iv p1, iv k, rv b2, iv 1, iv 0] [(.int 1)])) _
      exact retN X45 hx (t := .boolean) Bd.returns (by simp) (hb hby at_137) hr
    · show Q_rmL Z p1 w_ADD w_SUBTRACT w_MULTIPLY w_DIVIDE w_REMAINDER w_LESS w_LESS_EQUAL w_GREATER w_GREATER_EQUAL w_EQUAL w_NOT_EQUAL w_AND w_OR h0 n0 _ T45.heap _
      rw [e45q]
      exact ⟨rfl, N45⟩
  · obtain ⟨cl47, Ar47, qa47, Sa47, Na47, Ha47, Ga47⟩ := V41
    have hin_a := inb_of (j := k) Sa47 (by rcases hkr with rfl | rfl | rfl | rfl | rfl | rfl | rfl | rfl | rfl | rfl | rfl | rfl | rfl <;> decide)
    obtain ⟨a, at_a, Ea, hiff⟩ : ∃ a : Addr, ([(.ref w_ADD), (.ref w_SUBTRACT), (.ref w_MULTIPLY), (.ref w_DIVIDE), (.ref w_REMAINDER), (.ref w_LESS), (.ref w_LESS_EQUAL), (.ref w_GREATER), (.ref w_GREATER_EQUAL), (.ref w_EQUAL), (.ref w_NOT_EQUAL), (.ref w_AND), (.ref w_OR)] : List Value).getD k.toNatClampNeg .null = .ref a ∧ Exa Z h41 a "com/example/tandem_abstraction/tandemabstraction/parser/Expression$BinaryOperator" ∧ ((a = w_ADD ∨ a = w_SUBTRACT ∨ a = w_MULTIPLY ∨ a = w_DIVIDE ∨ a = w_REMAINDER) ↔ k < (5 : Int32)) := by
      rcases hkr with rfl | rfl | rfl | rfl | rfl | rfl | rfl | rfl | rfl | rfl | rfl | rfl | rfl
      · exact ⟨w_ADD, rfl, (E_ADD.ext (own_ext K41)), ⟨fun _ => by decide, fun _ => by simp⟩⟩
      · exact ⟨w_SUBTRACT, rfl, (E_SUBTRACT.ext (own_ext K41)), ⟨fun _ => by decide, fun _ => by simp⟩⟩
      · exact ⟨w_MULTIPLY, rfl, (E_MULTIPLY.ext (own_ext K41)), ⟨fun _ => by decide, fun _ => by simp⟩⟩
      · exact ⟨w_DIVIDE, rfl, (E_DIVIDE.ext (own_ext K41)), ⟨fun _ => by decide, fun _ => by simp⟩⟩
      · exact ⟨w_REMAINDER, rfl, (E_REMAINDER.ext (own_ext K41)), ⟨fun _ => by decide, fun _ => by simp⟩⟩
      · exact ⟨w_LESS, rfl, (E_LESS.ext (own_ext K41)), ⟨fun q => absurd q (by simp [(Fld.ne F_LESS F_ADD (by decide)), (Fld.ne F_LESS F_SUBTRACT (by decide)), (Fld.ne F_LESS F_MULTIPLY (by decide)), (Fld.ne F_LESS F_DIVIDE (by decide)), (Fld.ne F_LESS F_REMAINDER (by decide))]), fun q => absurd q (by decide)⟩⟩
      · exact ⟨w_LESS_EQUAL, rfl, (E_LESS_EQUAL.ext (own_ext K41)), ⟨fun q => absurd q (by simp [(Fld.ne F_LESS_EQUAL F_ADD (by decide)), (Fld.ne F_LESS_EQUAL F_SUBTRACT (by decide)), (Fld.ne F_LESS_EQUAL F_MULTIPLY (by decide)), (Fld.ne F_LESS_EQUAL F_DIVIDE (by decide)), (Fld.ne F_LESS_EQUAL F_REMAINDER (by decide))]), fun q => absurd q (by decide)⟩⟩
      · exact ⟨w_GREATER, rfl, (E_GREATER.ext (own_ext K41)), ⟨fun q => absurd q (by simp [(Fld.ne F_GREATER F_ADD (by decide)), (Fld.ne F_GREATER F_SUBTRACT (by decide)), (Fld.ne F_GREATER F_MULTIPLY (by decide)), (Fld.ne F_GREATER F_DIVIDE (by decide)), (Fld.ne F_GREATER F_REMAINDER (by decide))]), fun q => absurd q (by decide)⟩⟩
      · exact ⟨w_GREATER_EQUAL, rfl, (E_GREATER_EQUAL.ext (own_ext K41)), ⟨fun q => absurd q (by simp [(Fld.ne F_GREATER_EQUAL F_ADD (by decide)), (Fld.ne F_GREATER_EQUAL F_SUBTRACT (by decide)), (Fld.ne F_GREATER_EQUAL F_MULTIPLY (by decide)), (Fld.ne F_GREATER_EQUAL F_DIVIDE (by decide)), (Fld.ne F_GREATER_EQUAL F_REMAINDER (by decide))]), fun q => absurd q (by decide)⟩⟩
      · exact ⟨w_EQUAL, rfl, (E_EQUAL.ext (own_ext K41)), ⟨fun q => absurd q (by simp [(Fld.ne F_EQUAL F_ADD (by decide)), (Fld.ne F_EQUAL F_SUBTRACT (by decide)), (Fld.ne F_EQUAL F_MULTIPLY (by decide)), (Fld.ne F_EQUAL F_DIVIDE (by decide)), (Fld.ne F_EQUAL F_REMAINDER (by decide))]), fun q => absurd q (by decide)⟩⟩
      · exact ⟨w_NOT_EQUAL, rfl, (E_NOT_EQUAL.ext (own_ext K41)), ⟨fun q => absurd q (by simp [(Fld.ne F_NOT_EQUAL F_ADD (by decide)), (Fld.ne F_NOT_EQUAL F_SUBTRACT (by decide)), (Fld.ne F_NOT_EQUAL F_MULTIPLY (by decide)), (Fld.ne F_NOT_EQUAL F_DIVIDE (by decide)), (Fld.ne F_NOT_EQUAL F_REMAINDER (by decide))]), fun q => absurd q (by decide)⟩⟩
      · exact ⟨w_AND, rfl, (E_AND.ext (own_ext K41)), ⟨fun q => absurd q (by simp [(Fld.ne F_AND F_ADD (by decide)), (Fld.ne F_AND F_SUBTRACT (by decide)), (Fld.ne F_AND F_MULTIPLY (by decide)), (Fld.ne F_AND F_DIVIDE (by decide)), (Fld.ne F_AND F_REMAINDER (by decide))]), fun q => absurd q (by decide)⟩⟩
      · exact ⟨w_OR, rfl, (E_OR.ext (own_ext K41)), ⟨fun q => absurd q (by simp [(Fld.ne F_OR F_ADD (by decide)), (Fld.ne F_OR F_SUBTRACT (by decide)), (Fld.ne F_OR F_MULTIPLY (by decide)), (Fld.ne F_OR F_DIVIDE (by decide)), (Fld.ne F_OR F_REMAINDER (by decide))]), fun q => absurd q (by decide)⟩⟩
    obtain ⟨cq48, kq48, q48a, q48b, q48c⟩ := isOf hZ e41 Ea
    obtain ⟨_, _, ⟨T48, L48, k48, n48⟩, -, X48, ⟨Lc48, hQ48, l48, y48, z48⟩, st48⟩ := X41.virtualBack hx (y := (⟨"com/example/tandem_abstraction/tandemabstraction/parser/Expression$BinaryOperator", "isBoolean", "()Z"⟩ : MethodName)) (z := (⟨"com/example/tandem_abstraction/tandemabstraction/parser/Expression$BinaryOperator", "isBoolean", "()Z"⟩ : MethodName)) hown (mvT hZ (hwi hw 31 rfl)) (mvT hZ (hwi hw 32 rfl)) (notFace_of_selects (args := #[]) (mvT hZ (hwi hw 34 rfl))) (mvT hZ (hwi hw 34 rfl)) (mvT hZ (hwi hw 33 rfl)) (by decide) (backOf (W := 0) (rmC l Z a0 hw [] a w_ADD w_SUBTRACT w_MULTIPLY w_DIVIDE w_REMAINDER w_LESS w_LESS_EQUAL w_GREATER w_GREATER_EQUAL w_EQUAL w_NOT_EQUAL w_AND w_OR h41 n0 (Nat.le_trans Z0 K41.1) (Wd_ext hWd0 (own_ext K41))) hZ (hwi hw 35 rfl) (hwi hw 4 rfl) (by decide) (by decide)) q48a q48c (g := (mkF m 124 #[iv p1, iv k, rv b2, iv 0, iv 1] [(.ref a)])) rfl (by rw [hml]; rfl) (Steps.refl _) (argsL := []) (rest := []) (lenOf pd_0 rfl) rfl (by show 2 * 0 + _ ≤ _; exact Nat.le_of_eq rfl) (hb hby at_124) (fun _ _ => ⟨rfl, e41, (by decide : 1 + 0 ≤ _), (by decide : 13 + 0 ≤ _)⟩)
    dsimp only [Pt.U, Pt.locs, Pt.cells, Pt.slots] at X48 l48 y48 z48 st48 hQ48
    subst l48 y48 z48
    obtain ⟨hv48, N48q, e48q⟩ := hQ48
    have N48 := Fr.app N41 N48q
    rw [if_neg (fun q => hc101_43 (hiff.mp q))] at hv48
    subst hv48
    have pre49 : ∀ t_, Go p e below T48 (mkF m 137 #[iv p1, iv k, rv b2, iv 0, iv 1] [(.int 1)]) t_ → Go p e below s₁ (entryFrame m #[(.int p1)] maxLocals) t_ := fun t_ kt => pre42 _ (by
        show Go p e below T41 (mkF m 101 #[iv p1, iv k, rv b2, .unset, .unset] [(.int 5), (.int k)]) _
        refine XS.icmpYes X41.here hx rfl (pc0 := 101) (pc' := 108) rfl (hb hby at_101) rfl (flt hc101_43).2.1 (by decide) (by decide) ?_
        show Go p e below T41 (mkF m 108 #[iv p1, iv k, rv b2, .unset, .unset] []) _
        refine XS.iconst X41.here hx rfl (hb hby at_108) ?_
        show Go p e below T41 (mkF m 109 #[iv p1, iv k, rv b2, .unset, .unset] [(.int 0)]) _
        refine XS.istoreN X41.here hx rfl (hb hby at_109) rfl (l' := #[iv p1, iv k, rv b2, iv 0, .unset]) rfl ?_
        show Go p e below T41 (mkF m 110 #[iv p1, iv k, rv b2, iv 0, .unset] []) _
        refine XS.iloadN X41.here hx rfl (hb hby at_110) rfl ?_
        show Go p e below T41 (mkF m 111 #[iv p1, iv k, rv b2, iv 0, .unset] [(.int 0)]) _
        refine XS.ifNo X41.here hx rfl (hb hby at_111) rfl ((if0 _ _).trans (teq ((by decide) : (0 : Int32) = (0 : Int32))).2) ?_
        show Go p e below T41 (mkF m 114 #[iv p1, iv k, rv b2, iv 0, .unset] []) _
        refine XS.iconst X41.here hx rfl (hb hby at_114) ?_
        show Go p e below T41 (mkF m 115 #[iv p1, iv k, rv b2, iv 0, .unset] [(.int 1)]) _
        refine XS.goto X41.here hx rfl (pc0 := 115) (pc' := 119) rfl (hb hby at_115) (by decide) (by decide) ?_
        show Go p e below T41 (mkF m 119 #[iv p1, iv k, rv b2, iv 0, .unset] [(.int 1)]) _
        refine XS.istore X41.here hx rfl (hb hby at_119) rfl (l' := #[iv p1, iv k, rv b2, iv 0, iv 1]) rfl ?_
        show Go p e below T41 (mkF m 121 #[iv p1, iv k, rv b2, iv 0, iv 1] []) _
        refine XS.aloadN X41.here hx rfl (hb hby at_121) rfl rfl ?_
        show Go p e below T41 (mkF m 122 #[iv p1, iv k, rv b2, iv 0, iv 1] [(.ref b2)]) _
        refine XS.iloadN X41.here hx rfl (hb hby at_122) rfl ?_
        show Go p e below T41 (mkF m 123 #[iv p1, iv k, rv b2, iv 0, iv 1] [(.int k), (.ref b2)]) _
        refine X41.aaload hx (j := k) (v := (.ref a)) (by rw [e41]; exact Ar47.1) (State.isArrayOf_alike hZ.alike Ar47.2.1) rfl Ar47.2.2 hin_a (Has.at Ha47 hin_a at_a) (g := (mkF m 123 #[iv p1, iv k, rv b2, iv 0, iv 1] [(.int k), (.ref b2)])) rfl rfl (hb hby at_123) _ ?_
        show Go p e below T41 (mkF m 124 #[iv p1, iv k, rv b2, iv 0, iv 1] [(.ref a)]) _
        refine st48.trans ?_
        show Go p e below T48 (mkF m 127 #[iv p1, iv k, rv b2, iv 0, iv 1] [(.int 1)]) _
        refine XS.iload X48.here hx rfl (hb hby at_127) rfl ?_
        show Go p e below T48 (mkF m 129 #[iv p1, iv k, rv b2, iv 0, iv 1] [(.int 1), (.int 1)]) _
        refine XS.icmpNo X48.here hx rfl (hb hby at_129) rfl (teq ((by decide) : (1 : Int32) = (1 : Int32))).2 ?_
        show Go p e below T48 (mkF m 132 #[iv p1, iv k, rv b2, iv 0, iv 1] []) _
        refine XS.iconst X48.here hx rfl (hb hby at_132) ?_
        show Go p e below T48 (mkF m 133 #[iv p1, iv k, rv b2, iv 0, iv 1] [(.int 1)]) _
        refine XS.goto X48.here hx rfl (pc0 := 133) (pc' := 137) rfl (hb hby at_133) (by decide) (by decide) ?_
        show Go p e below T48 (mkF m 137 #[iv p1, iv k, rv b2, iv 0, iv 1] [(.int 1)]) _
        exact kt)
    obtain ⟨fs, hr, hrun, hended, hW, hsame⟩ := X48.leave (v := some (.int 1)) (fun h => by rw [Bd.returns] at h; cases h)
    refine ⟨_, _, pre49 _ ?_, hrun, hended, _, _, rfl, ?_, ⟨_, rfl⟩, hW, hsame.mono (by decide) (by decide)⟩
    · show Steps p.tables e below (T48.setTop (mkF m 137 #[iv p1, iv k, rv b2, iv 0, iv 1] [(.int 1)])) _
      exact retN X48 hx (t := .boolean) Bd.returns (by simp) (hb hby at_137) hr
    · show Q_rmL Z p1 w_ADD w_SUBTRACT w_MULTIPLY w_DIVIDE w_REMAINDER w_LESS w_LESS_EQUAL w_GREATER w_GREATER_EQUAL w_EQUAL w_NOT_EQUAL w_AND w_OR h0 n0 _ T48.heap _
      rw [e48q]
      exact ⟨rfl, N48⟩
set_option maxRecDepth 65536 in
set_option maxHeartbeats 40000000 in
theorem comes_1 {Post : Tables → Env → Array Value → State → Outcome → State → Prop} (hpost : ∀ tb e args s v u, (limb_1_1.after args s (.returned v) u = true ∧ limb_1_2.after args s (.returned v) u = true ∧ True) → FrameEnd s (.returned v) u (Jvm.fieldLocs frame_1_writes args s ++ Jvm.arrayLocs frame_1_arrays args s ++ Jvm.staticLocs frame_1_statics s) 16 128 → Post tb e args s (.returned v) u) :
    ArmFor flags0 classFile x code maxLocals ret World_1 tables_1 room_1 Calls_1 rest_1 Pre_1 Post := by
  intro l hfl _ _ p e ha hc hk s m args below hf hA hF happ hP
  obtain ⟨hcalls, hrest, hpre⟩ := hP
  obtain ⟨-, -, -, hnamed, -, -, -, hat⟩ := (Spec.applies_iff hf).mp happ
  obtain ⟨hg, hn⟩ := and_e (Cond.before_iff.mp (show (Jvm.Cond.and given_1 narrow_1).before args s = true from hpre))
  obtain ⟨g1, g2⟩ := and_e hg
  obtain ⟨w0, rfl⟩ : ∃ w0 : Value, args = #[w0] := by
    have hs : args.size = 1 := by simpa [Cond.value, given_1] using g1
    obtain ⟨L⟩ := args
    match L, hs with
    | [w0], _ => exact ⟨w0, rfl⟩
  have hw := fun d (hd : d ∈ tables_1) => atoms_spec (ws := Jvm.Cond.code x code maxLocals ret :: tables_1) hat d (List.mem_cons_of_mem _ hd)
  have hfit : Fit s := fun {y c} hc i hi => by
    obtain ⟨ha, rfl⟩ := Array.getElem?_eq_some_iff.mp hc
    have q := List.all_eq_true.mp ((Array.all_eq_true_iff_forall_mem.mp hF) _ (Array.getElem_mem ha)) i (List.mem_range.mpr hi)
    simpa [Array.getElem?_eq_getElem hi] using q
  obtain ⟨i0, ei0⟩ := is_v g2
  obtain rfl : w0 = (.int i0) := Option.some.inj ei0
  obtain ⟨g3, g4⟩ := and_e hn
  obtain ⟨g5, g6⟩ := and_e g4
  obtain ⟨g7, g8⟩ := and_e g6
  obtain ⟨g9, g10⟩ := and_e g8
  obtain ⟨g11, g12⟩ := and_e g10
  obtain ⟨g13, g14⟩ := and_e g12
  obtain ⟨g15, g16⟩ := and_e g14
  obtain ⟨g17, g18⟩ := and_e g16
  obtain ⟨g19, g20⟩ := and_e g18
  obtain ⟨g21, g22⟩ := and_e g20
  obtain ⟨g23, g24⟩ := and_e g22
  obtain ⟨g25, g26⟩ := and_e g24
  obtain ⟨g27, g28⟩ := and_e g26
  obtain ⟨g29, g30⟩ := and_e g28
  obtain ⟨g31, g32⟩ := and_e g30
  obtain ⟨g33, g34⟩ := and_e g32
  obtain ⟨g35, g36⟩ := and_e g34
  obtain ⟨g37, g38⟩ := and_e g36
  obtain ⟨g39, g40⟩ := and_e g38
  obtain ⟨g41, g42⟩ := and_e g40
  obtain ⟨g43, g44⟩ := and_e g42
  obtain ⟨g45, g46⟩ := and_e g44
  obtain ⟨g47, g48⟩ := and_e g46
  obtain ⟨g49, g50⟩ := and_e g48
  obtain ⟨g51, g52⟩ := and_e g50
  obtain ⟨w_ADD, ev_ADD⟩ := exa_v g3
  have E_ADD : Exa s s.heap w_ADD "com/example/tandem_abstraction/tandemabstraction/parser/Expression$BinaryOperator" := Exa.start ev_ADD g3
  have S_ADD : Sta s s.heap "com/example/tandem_abstraction/tandemabstraction/parser/Expression$BinaryOperator" "ADD" "Lcom/example/tandem_abstraction/tandemabstraction/parser/Expression$BinaryOperator;" (.ref w_ADD) := Sta.start ev_ADD (Or.inr ⟨(hwi hw 4 rfl), (hwi hw 5 rfl)⟩)
  obtain ⟨w_SUBTRACT, ev_SUBTRACT⟩ := exa_v g5
  have E_SUBTRACT : Exa s s.heap w_SUBTRACT "com/example/tandem_abstraction/tandemabstraction/parser/Expression$BinaryOperator" := Exa.start ev_SUBTRACT g5
  have S_SUBTRACT : Sta s s.heap "com/example/tandem_abstraction/tandemabstraction/parser/Expression$BinaryOperator" "SUBTRACT" "Lcom/example/tandem_abstraction/tandemabstraction/parser/Expression$BinaryOperator;" (.ref w_SUBTRACT) := Sta.start ev_SUBTRACT (Or.inr ⟨(hwi hw 4 rfl), (hwi hw 8 rfl)⟩)
  obtain ⟨w_MULTIPLY, ev_MULTIPLY⟩ := exa_v g7
  have E_MULTIPLY : Exa s s.heap w_MULTIPLY "com/example/tandem_abstraction/tandemabstraction/parser/Expression$BinaryOperator" := Exa.start ev_MULTIPLY g7
  have S_MULTIPLY : Sta s s.heap "com/example/tandem_abstraction/tandemabstraction/parser/Expression$BinaryOperator" "MULTIPLY" "Lcom/example/tandem_abstraction/tandemabstraction/parser/Expression$BinaryOperator;" (.ref w_MULTIPLY) := Sta.start ev_MULTIPLY (Or.inr ⟨(hwi hw 4 rfl), (hwi hw 10 rfl)⟩)
  obtain ⟨w_DIVIDE, ev_DIVIDE⟩ := exa_v g9
  have E_DIVIDE : Exa s s.heap w_DIVIDE "com/example/tandem_abstraction/tandemabstraction/parser/Expression$BinaryOperator" := Exa.start ev_DIVIDE g9
  have S_DIVIDE : Sta s s.heap "com/example/tandem_abstraction/tandemabstraction/parser/Expression$BinaryOperator" "DIVIDE" "Lcom/example/tandem_abstraction/tandemabstraction/parser/Expression$BinaryOperator;" (.ref w_DIVIDE) := Sta.start ev_DIVIDE (Or.inr ⟨(hwi hw 4 rfl), (hwi hw 12 rfl)⟩)
  obtain ⟨w_REMAINDER, ev_REMAINDER⟩ := exa_v g11
  have E_REMAINDER : Exa s s.heap w_REMAINDER "com/example/tandem_abstraction/tandemabstraction/parser/Expression$BinaryOperator" := Exa.start ev_REMAINDER g11
  have S_REMAINDER : Sta s s.heap "com/example/tandem_abstraction/tandemabstraction/parser/Expression$BinaryOperator" "REMAINDER" "Lcom/example/tandem_abstraction/tandemabstraction/parser/Expression$BinaryOperator;" (.ref w_REMAINDER) := Sta.start ev_REMAINDER (Or.inr ⟨(hwi hw 4 rfl), (hwi hw 14 rfl)⟩)
  obtain ⟨w_LESS, ev_LESS⟩ := exa_v g13
  have E_LESS : Exa s s.heap w_LESS "com/example/tandem_abstraction/tandemabstraction/parser/Expression$BinaryOperator" := Exa.start ev_LESS g13
  have S_LESS : Sta s s.heap "com/example/tandem_abstraction/tandemabstraction/parser/Expression$BinaryOperator" "LESS" "Lcom/example/tandem_abstraction/tandemabstraction/parser/Expression$BinaryOperator;" (.ref w_LESS) := Sta.start ev_LESS (Or.inr ⟨(hwi hw 4 rfl), (hwi hw 16 rfl)⟩)
  obtain ⟨w_LESS_EQUAL, ev_LESS_EQUAL⟩ := exa_v g15
  have E_LESS_EQUAL : Exa s s.heap w_LESS_EQUAL "com/example/tandem_abstraction/tandemabstraction/parser/Expression$BinaryOperator" := Exa.start ev_LESS_EQUAL g15
  have S_LESS_EQUAL : Sta s s.heap "com/example/tandem_abstraction/tandemabstraction/parser/Expression$BinaryOperator" "LESS_EQUAL" "Lcom/example/tandem_abstraction/tandemabstraction/parser/Expression$BinaryOperator;" (.ref w_LESS_EQUAL) := Sta.start ev_LESS_EQUAL (Or.inr ⟨(hwi hw 4 rfl), (hwi hw 18 rfl)⟩)
  obtain ⟨w_GREATER, ev_GREATER⟩ := exa_v g17
  have E_GREATER : Exa s s.heap w_GREATER "com/example/tandem_abstraction/tandemabstraction/parser/Expression$BinaryOperator" := Exa.start ev_GREATER g17
  have S_GREATER : Sta s s.heap "com/example/tandem_abstraction/tandemabstraction/parser/Expression$BinaryOperator" "GREATER" "Lcom/example/tandem_abstraction/tandemabstraction/parser/Expression$BinaryOperator;" (.ref w_GREATER) := Sta.start ev_GREATER (Or.inr ⟨(hwi hw 4 rfl), (hwi hw 20 rfl)⟩)
  obtain ⟨w_GREATER_EQUAL, ev_GREATER_EQUAL⟩ := exa_v g19
  have E_GREATER_EQUAL : Exa s s.heap w_GREATER_EQUAL "com/example/tandem_abstraction/tandemabstraction/parser/Expression$BinaryOperator" := Exa.start ev_GREATER_EQUAL g19
  have S_GREATER_EQUAL : Sta s s.heap "com/example/tandem_abstraction/tandemabstraction/parser/Expression$BinaryOperator" "GREATER_EQUAL" "Lcom/example/tandem_abstraction/tandemabstraction/parser/Expression$BinaryOperator;" (.ref w_GREATER_EQUAL) := Sta.start ev_GREATER_EQUAL (Or.inr ⟨(hwi hw 4 rfl), (hwi hw 22 rfl)⟩)
  obtain ⟨w_EQUAL, ev_EQUAL⟩ := exa_v g21
  have E_EQUAL : Exa s s.heap w_EQUAL "com/example/tandem_abstraction/tandemabstraction/parser/Expression$BinaryOperator" := Exa.start ev_EQUAL g21
  have S_EQUAL : Sta s s.heap "com/example/tandem_abstraction/tandemabstraction/parser/Expression$BinaryOperator" "EQUAL" "Lcom/example/tandem_abstraction/tandemabstraction/parser/Expression$BinaryOperator;" (.ref w_EQUAL) := Sta.start ev_EQUAL (Or.inr ⟨(hwi hw 4 rfl), (hwi hw 24 rfl)⟩)
  obtain ⟨w_NOT_EQUAL, ev_NOT_EQUAL⟩ := exa_v g23
  have E_NOT_EQUAL : Exa s s.heap w_NOT_EQUAL "com/example/tandem_abstraction/tandemabstraction/parser/Expression$BinaryOperator" := Exa.start ev_NOT_EQUAL g23
  have S_NOT_EQUAL : Sta s s.heap "com/example/tandem_abstraction/tandemabstraction/parser/Expression$BinaryOperator" "NOT_EQUAL" "Lcom/example/tandem_abstraction/tandemabstraction/parser/Expression$BinaryOperator;" (.ref w_NOT_EQUAL) := Sta.start ev_NOT_EQUAL (Or.inr ⟨(hwi hw 4 rfl), (hwi hw 26 rfl)⟩)
  obtain ⟨w_AND, ev_AND⟩ := exa_v g25
  have E_AND : Exa s s.heap w_AND "com/example/tandem_abstraction/tandemabstraction/parser/Expression$BinaryOperator" := Exa.start ev_AND g25
  have S_AND : Sta s s.heap "com/example/tandem_abstraction/tandemabstraction/parser/Expression$BinaryOperator" "AND" "Lcom/example/tandem_abstraction/tandemabstraction/parser/Expression$BinaryOperator;" (.ref w_AND) := Sta.start ev_AND (Or.inr ⟨(hwi hw 4 rfl), (hwi hw 28 rfl)⟩)
  obtain ⟨w_OR, ev_OR⟩ := exa_v g27
  have E_OR : Exa s s.heap w_OR "com/example/tandem_abstraction/tandemabstraction/parser/Expression$BinaryOperator" := Exa.start ev_OR g27
  have S_OR : Sta s s.heap "com/example/tandem_abstraction/tandemabstraction/parser/Expression$BinaryOperator" "OR" "Lcom/example/tandem_abstraction/tandemabstraction/parser/Expression$BinaryOperator;" (.ref w_OR) := Sta.start ev_OR (Or.inr ⟨(hwi hw 4 rfl), (hwi hw 30 rfl)⟩)
  have F_DIVIDE : Fld s s.heap w_DIVIDE "java/lang/Enum" "ordinal" "I" (.int (3 : Int32)) := Fld.start ((fld_at ev_DIVIDE).symm.trans (eqv_i (Term.int_eval _) g29))
  have F_ADD : Fld s s.heap w_ADD "java/lang/Enum" "ordinal" "I" (.int (0 : Int32)) := Fld.start ((fld_at ev_ADD).symm.trans (eqv_i (Term.int_eval _) g31))
  have F_SUBTRACT : Fld s s.heap w_SUBTRACT "java/lang/Enum" "ordinal" "I" (.int (1 : Int32)) := Fld.start ((fld_at ev_SUBTRACT).symm.trans (eqv_i (Term.int_eval _) g33))
  have F_MULTIPLY : Fld s s.heap w_MULTIPLY "java/lang/Enum" "ordinal" "I" (.int (2 : Int32)) := Fld.start ((fld_at ev_MULTIPLY).symm.trans (eqv_i (Term.int_eval _) g35))
  have F_LESS_EQUAL : Fld s s.heap w_LESS_EQUAL "java/lang/Enum" "ordinal" "I" (.int (6 : Int32)) := Fld.start ((fld_at ev_LESS_EQUAL).symm.trans (eqv_i (Term.int_eval _) g37))
  have F_REMAINDER : Fld s s.heap w_REMAINDER "java/lang/Enum" "ordinal" "I" (.int (4 : Int32)) := Fld.start ((fld_at ev_REMAINDER).symm.trans (eqv_i (Term.int_eval _) g39))
  have F_LESS : Fld s s.heap w_LESS "java/lang/Enum" "ordinal" "I" (.int (5 : Int32)) := Fld.start ((fld_at ev_LESS).symm.trans (eqv_i (Term.int_eval _) g41))
  have F_GREATER : Fld s s.heap w_GREATER "java/lang/Enum" "ordinal" "I" (.int (7 : Int32)) := Fld.start ((fld_at ev_GREATER).symm.trans (eqv_i (Term.int_eval _) g43))
  have F_EQUAL : Fld s s.heap w_EQUAL "java/lang/Enum" "ordinal" "I" (.int (9 : Int32)) := Fld.start ((fld_at ev_EQUAL).symm.trans (eqv_i (Term.int_eval _) g45))
  have F_AND : Fld s s.heap w_AND "java/lang/Enum" "ordinal" "I" (.int (11 : Int32)) := Fld.start ((fld_at ev_AND).symm.trans (eqv_i (Term.int_eval _) g47))
  have F_GREATER_EQUAL : Fld s s.heap w_GREATER_EQUAL "java/lang/Enum" "ordinal" "I" (.int (8 : Int32)) := Fld.start ((fld_at ev_GREATER_EQUAL).symm.trans (eqv_i (Term.int_eval _) g49))
  have F_NOT_EQUAL : Fld s s.heap w_NOT_EQUAL "java/lang/Enum" "ordinal" "I" (.int (10 : Int32)) := Fld.start ((fld_at ev_NOT_EQUAL).symm.trans (eqv_i (Term.int_eval _) g51))
  have F_OR : Fld s s.heap w_OR "java/lang/Enum" "ordinal" "I" (.int (12 : Int32)) := Fld.start ((fld_at ev_OR).symm.trans (eqv_i (Term.int_eval _) g52))
  obtain ⟨n, o, h1, h2, h3, _, L, rfl, ⟨rfl, N⟩, hq⟩ := rmL l s _ hw tables_1 i0 w_ADD w_SUBTRACT w_MULTIPLY w_DIVIDE w_REMAINDER w_LESS w_LESS_EQUAL w_GREATER w_GREATER_EQUAL w_EQUAL w_NOT_EQUAL w_AND w_OR s.heap s.heap.size (Nat.le_refl _) ⟨⟨S_ADD, E_ADD, F_ADD⟩, ⟨S_SUBTRACT, E_SUBTRACT, F_SUBTRACT⟩, ⟨S_MULTIPLY, E_MULTIPLY, F_MULTIPLY⟩, ⟨S_DIVIDE, E_DIVIDE, F_DIVIDE⟩, ⟨S_REMAINDER, E_REMAINDER, F_REMAINDER⟩, ⟨S_LESS, E_LESS, F_LESS⟩, ⟨S_LESS_EQUAL, E_LESS_EQUAL, F_LESS_EQUAL⟩, ⟨S_GREATER, E_GREATER, F_GREATER⟩, ⟨S_GREATER_EQUAL, E_GREATER_EQUAL, F_GREATER_EQUAL⟩, ⟨S_EQUAL, E_EQUAL, F_EQUAL⟩, ⟨S_NOT_EQUAL, E_NOT_EQUAL, F_NOT_EQUAL⟩, ⟨S_AND, E_AND, F_AND⟩, ⟨S_OR, E_OR, F_OR⟩⟩ p e ha hc hk s m _ below hf ((Spec.applies_iff_loose hf).mp happ).1 ⟨rfl, State.Warmed39.refl s, rfl⟩ trivial
  refine ⟨n, _, h1, h2, h3, hpost _ _ _ _ _ _ ⟨Cond.after_iff.mpr rfl, Cond.after_iff.mpr (eq_i res_at (Term.int_eval (1)) rfl), trivial⟩ ⟨hq.1, hq.2.1, (hq.2.2.sift fun y hy => Or.inr (N y hy)).mono (by decide) (by decide)⟩⟩
theorem main_1_1 : Claimed_1_1 := comes_1 fun _ _ _ _ _ _ h hF => ⟨h.1, hF⟩
theorem main_1_2 : Claimed_1_2 := comes_1 fun _ _ _ _ _ _ h hF => ⟨h.2.1, hF⟩
end Jvm.Pilot.@@N@@
namespace Jvm.Pilot.@@N@@
open Jvm Jvm.ClassFile Sem Op Lib Jvm.Free Jvm.Stand Jvm.Pilot.@@N@@.Jvm.D
/-! MADE BY PROGRAM (witnessworld.py) out of the Statement's table words and the real class files: 13 classes; the members and pool entries that the words name. The judged class is class 1, her method 1. -/
namespace start1
open Jvm.ClassFile
def u (s : String) : CpInfo := .utf8 (stringToUtf16 s)
/-- a pool by its gaps: so many unusable entries, then the entry; so many at the end -/
def gap : Nat → List CpInfo → List CpInfo
  | 0, r => r
  | n + 1, r => .unusable :: gap n r
def poolList (es : List (Nat × CpInfo)) (last : Nat) : List CpInfo := es.foldr (fun e r => gap e.1 (e.2 :: r)) (gap last [])
def pool (es : List (Nat × CpInfo)) (last : Nat) : Array CpInfo := ⟨poolList es last⟩
def fileOf (pool : Array CpInfo) (this : Nat) (attrs : Array Attribute := #[]) (ms : Array MethodInfo := #[]) (fl : Nat := 33) (sup : Nat := 0) (ifs : Array Nat := #[]) (fds : Array FieldInfo := #[]) : ClassFile where
  minorVersion := 0
  majorVersion := 65
  constantPool := pool
  accessFlags := fl
  thisClass := this
  superClass := sup
  interfaces := ifs
  fields := fds
  methods := ms
  attributes := attrs
def plain (name : String) (sup : Option ClassId) : Class where
  name := name
  kind := .ordinary
  loader := none
  accessFlags := 33
  super := sup
  interfaces := #[]
  cf := none
  fields := #[]
  methods := #[]
  instanceTypes := #[]
  staticTypes := #[]
  resolved := #[]
  callSites := []
  init := .initialized
  statics := none
  mirror := none

def pool0 : Array CpInfo := pool [(5, u "<init>"), (0, u "()V"), (1, .class_ 10), (1, u "java/lang/Object")] 113

def k0m0 : Method := { name := "<init>", desc := "()V", sig := { parameters := [], returnType := none }, accessFlags := 1, code := none }
/-- java/lang/Object -/
def k0 : Class := { plain "java/lang/Object" none with
  accessFlags := 33
  interfaces := #[]
  cf := some (fileOf pool0 8 #[] #[{ accessFlags := 1, nameIndex := 5, descriptorIndex := 6, attributes := #[] }] 33 0 #[] #[])
  fields := #[]
  methods := #[k0m0]
  instanceTypes := #[]
  staticTypes := #[]
  resolved := Array.replicate 124 none
  statics := none }

def pool1 : Array CpInfo := pool [(2, .class_ 4), (1, u "java/lang/Object"), (0, u "<init>"), (0, u "()V"), (0, .integer 2147483647), (0, .class_ 9), (0, u "com/example/tandem_abstraction/tandemabstraction/parser/Expression$BinaryOperator"), (0, .fieldref 8 11), (0, .nameAndType 12 13), (0, u "ADD"), (0, u "Lcom/example/tandem_abstraction/tandemabstraction/parser/Expression$BinaryOperator;"), (0, .fieldref 8 15), (0, .nameAndType 16 13), (0, u "SUBTRACT"), (0, .fieldref 8 18), (0, .nameAndType 19 13), (0, u "MULTIPLY"), (0, .fieldref 8 21), (0, .nameAndType 22 13), (0, u "DIVIDE"), (0, .fieldref 8 24), (0, .nameAndType 25 13), (0, u "REMAINDER"), (0, .fieldref 8 27), (0, .nameAndType 28 13), (0, u "LESS"), (0, .fieldref 8 30), (0, .nameAndType 31 13), (0, u "LESS_EQUAL"), (0, .fieldref 8 33), (0, .nameAndType 34 13), (0, u "GREATER"), (0, .fieldref 8 36), (0, .nameAndType 37 13), (0, u "GREATER_EQUAL"), (0, .fieldref 8 39), (0, .nameAndType 40 13), (0, u "EQUAL"), (0, .fieldref 8 42), (0, .nameAndType 43 13), (0, u "NOT_EQUAL"), (0, .fieldref 8 45), (0, .nameAndType 46 13), (0, u "AND"), (0, .fieldref 8 48), (0, .nameAndType 49 13), (0, u "OR"), (0, .methodref 8 51), (0, .nameAndType 52 53), (0, u "isBoolean"), (0, u "()Z"), (0, .class_ 55), (0, u "com/example/tandem_abstraction/tandemabstraction/parser/BinaryOperatorIsBooleanPinLaw"), (2, u "law"), (0, u "(I)Z")] 9

def k1m0 : Method := { name := "<init>", desc := "()V", sig := { parameters := [], returnType := none }, accessFlags := 1, code := none }
def k1c1 : Code := { maxStack := 4, maxLocals := 5, code := code, exceptionTable := #[], attributes := #[] }
def k1m1 : Method := { name := "law", desc := "(I)Z", sig := { parameters := [.int], returnType := some .boolean }, accessFlags := 9, code := some k1c1 }
/-- com/example/tandem_abstraction/tandemabstraction/parser/BinaryOperatorIsBooleanPinLaw -/
def k1 : Class := { plain "com/example/tandem_abstraction/tandemabstraction/parser/BinaryOperatorIsBooleanPinLaw" (some 0) with
  accessFlags := 49
  interfaces := #[]
  cf := some (fileOf pool1 54 #[] #[{ accessFlags := 1, nameIndex := 5, descriptorIndex := 6, attributes := #[] }, { accessFlags := 9, nameIndex := 58, descriptorIndex := 59, attributes := #[] }] 49 2 #[] #[])
  fields := #[]
  methods := #[k1m0, k1m1]
  instanceTypes := #[]
  staticTypes := #[]
  resolved := Array.replicate 69 none
  statics := none }

def pool2 : Array CpInfo := pool [(1, .class_ 2), (0, u "java/lang/constant/Constable"), (0, .class_ 4), (0, u "java/lang/Object")] 6

/-- java/lang/constant/Constable -/
def k2 : Class := { plain "java/lang/constant/Constable" (some 0) with
  accessFlags := 1537
  interfaces := #[]
  cf := some (fileOf pool2 1 #[] #[] 1537 3 #[] #[])
  fields := #[]
  methods := #[]
  instanceTypes := #[]
  staticTypes := #[]
  resolved := Array.replicate 11 none
  statics := none }

def pool3 : Array CpInfo := pool [(1, .class_ 2), (0, u "java/lang/Comparable"), (0, .class_ 4), (0, u "java/lang/Object")] 7

/-- java/lang/Comparable -/
def k3 : Class := { plain "java/lang/Comparable" (some 0) with
  accessFlags := 1537
  interfaces := #[]
  cf := some (fileOf pool3 1 #[] #[] 1537 3 #[] #[])
  fields := #[]
  methods := #[]
  instanceTypes := #[]
  staticTypes := #[]
  resolved := Array.replicate 12 none
  statics := none }

def pool4 : Array CpInfo := pool [(1, .class_ 2), (0, u "java/io/Serializable"), (0, .class_ 4), (0, u "java/lang/Object")] 2

/-- java/io/Serializable -/
def k4 : Class := { plain "java/io/Serializable" (some 0) with
  accessFlags := 1537
  interfaces := #[]
  cf := some (fileOf pool4 1 #[] #[] 1537 3 #[] #[])
  fields := #[]
  methods := #[]
  instanceTypes := #[]
  staticTypes := #[]
  resolved := Array.replicate 7 none
  statics := none }

def pool5 : Array CpInfo := pool [(2, .class_ 4), (1, u "java/lang/Enum"), (0, u "name"), (0, u "Ljava/lang/String;"), (2, u "ordinal"), (0, u "I"), (1, .class_ 14), (1, u "java/lang/Object"), (4, u "hash"), (86, .class_ 108), (1, u "java/lang/Enum$EnumDesc"), (2, .class_ 112), (0, u "java/lang/constant/Constable"), (0, .class_ 114), (0, u "java/lang/Comparable"), (0, .class_ 116), (0, u "java/io/Serializable")] 87

/-- java/lang/Enum -/
def k5 : Class := { plain "java/lang/Enum" (some 0) with
  accessFlags := 1057
  interfaces := #[2, 3, 4]
  cf := some (fileOf pool5 2 #[.nestMembers #[106]] #[] 1057 12 #[111, 113, 115] #[{ accessFlags := 18, nameIndex := 5, descriptorIndex := 6, attributes := #[] }, { accessFlags := 18, nameIndex := 9, descriptorIndex := 10, attributes := #[] }, { accessFlags := 2, nameIndex := 19, descriptorIndex := 10, attributes := #[] }])
  fields := #[{ name := "name", type := (.object "java/lang/String"), accessFlags := 18, slot := 0, constantValue := 0 }, { name := "ordinal", type := .int, accessFlags := 18, slot := 1, constantValue := 0 }, { name := "hash", type := .int, accessFlags := 2, slot := 2, constantValue := 0 }]
  methods := #[]
  instanceTypes := #[(.object "java/lang/String"), .int, .int]
  staticTypes := #[]
  resolved := Array.replicate 204 none
  statics := none }

def pool6 : Array CpInfo := pool [(1, .class_ 2), (0, u "com/example/tandem_abstraction/tandemabstraction/parser/Expression$BinaryOperator"), (0, .fieldref 1 4), (0, .nameAndType 5 6), (0, u "ADD"), (0, u "Lcom/example/tandem_abstraction/tandemabstraction/parser/Expression$BinaryOperator;"), (0, .fieldref 1 8), (0, .nameAndType 9 6), (0, u "SUBTRACT"), (0, .fieldref 1 11), (0, .nameAndType 12 6), (0, u "MULTIPLY"), (0, .fieldref 1 14), (0, .nameAndType 15 6), (0, u "DIVIDE"), (0, .fieldref 1 17), (0, .nameAndType 18 6), (0, u "REMAINDER"), (2, u "LESS"), (2, u "LESS_EQUAL"), (2, u "GREATER"), (2, u "GREATER_EQUAL"), (2, u "EQUAL"), (2, u "NOT_EQUAL"), (2, u "AND"), (2, u "OR"), (2, u "$VALUES"), (0, u "[Lcom/example/tandem_abstraction/tandemabstraction/parser/Expression$BinaryOperator;"), (6, .class_ 55), (1, u "java/lang/Enum"), (31, u "isBoolean"), (0, u "()Z"), (6, .class_ 96), (0, u "com/example/tandem_abstraction/tandemabstraction/parser/Expression")] 2

def k6c0 : Code := { maxStack := 2, maxLocals := 1, code := prog_54_method_4_code, exceptionTable := #[], attributes := #[] }
def k6m0 : Method := { name := "isBoolean", desc := "()Z", sig := { parameters := [], returnType := some .boolean }, accessFlags := 1, code := some k6c0 }
/-- com/example/tandem_abstraction/tandemabstraction/parser/Expression$BinaryOperator -/
def k6 : Class := { plain "com/example/tandem_abstraction/tandemabstraction/parser/Expression$BinaryOperator" (some 5) with
  accessFlags := 16433
  interfaces := #[]
  cf := some (fileOf pool6 1 #[.nestHost 95] #[{ accessFlags := 1, nameIndex := 87, descriptorIndex := 88, attributes := #[] }] 16433 53 #[] #[{ accessFlags := 16409, nameIndex := 5, descriptorIndex := 6, attributes := #[] }, { accessFlags := 16409, nameIndex := 9, descriptorIndex := 6, attributes := #[] }, { accessFlags := 16409, nameIndex := 12, descriptorIndex := 6, attributes := #[] }, { accessFlags := 16409, nameIndex := 15, descriptorIndex := 6, attributes := #[] }, { accessFlags := 16409, nameIndex := 18, descriptorIndex := 6, attributes := #[] }, { accessFlags := 16409, nameIndex := 21, descriptorIndex := 6, attributes := #[] }, { accessFlags := 16409, nameIndex := 24, descriptorIndex := 6, attributes := #[] }, { accessFlags := 16409, nameIndex := 27, descriptorIndex := 6, attributes := #[] }, { accessFlags := 16409, nameIndex := 30, descriptorIndex := 6, attributes := #[] }, { accessFlags := 16409, nameIndex := 33, descriptorIndex := 6, attributes := #[] }, { accessFlags := 16409, nameIndex := 36, descriptorIndex := 6, attributes := #[] }, { accessFlags := 16409, nameIndex := 39, descriptorIndex := 6, attributes := #[] }, { accessFlags := 16409, nameIndex := 42, descriptorIndex := 6, attributes := #[] }, { accessFlags := 4122, nameIndex := 45, descriptorIndex := 46, attributes := #[] }])
  fields := #[{ name := "ADD", type := (.object "com/example/tandem_abstraction/tandemabstraction/parser/Expression$BinaryOperator"), accessFlags := 16409, slot := 0, constantValue := 0 }, { name := "SUBTRACT", type := (.object "com/example/tandem_abstraction/tandemabstraction/parser/Expression$BinaryOperator"), accessFlags := 16409, slot := 1, constantValue := 0 }, { name := "MULTIPLY", type := (.object "com/example/tandem_abstraction/tandemabstraction/parser/Expression$BinaryOperator"), accessFlags := 16409, slot := 2, constantValue := 0 }, { name := "DIVIDE", type := (.object "com/example/tandem_abstraction/tandemabstraction/parser/Expression$BinaryOperator"), accessFlags := 16409, slot := 3, constantValue := 0 }, { name := "REMAINDER", type := (.object "com/example/tandem_abstraction/tandemabstraction/parser/Expression$BinaryOperator"), accessFlags := 16409, slot := 4, constantValue := 0 }, { name := "LESS", type := (.object "com/example/tandem_abstraction/tandemabstraction/parser/Expression$BinaryOperator"), accessFlags := 16409, slot := 5, constantValue := 0 }, { name := "LESS_EQUAL", type := (.object "com/example/tandem_abstraction/tandemabstraction/parser/Expression$BinaryOperator"), accessFlags := 16409, slot := 6, constantValue := 0 }, { name := "GREATER", type := (.object "com/example/tandem_abstraction/tandemabstraction/parser/Expression$BinaryOperator"), accessFlags := 16409, slot := 7, constantValue := 0 }, { name := "GREATER_EQUAL", type := (.object "com/example/tandem_abstraction/tandemabstraction/parser/Expression$BinaryOperator"), accessFlags := 16409, slot := 8, constantValue := 0 }, { name := "EQUAL", type := (.object "com/example/tandem_abstraction/tandemabstraction/parser/Expression$BinaryOperator"), accessFlags := 16409, slot := 9, constantValue := 0 }, { name := "NOT_EQUAL", type := (.object "com/example/tandem_abstraction/tandemabstraction/parser/Expression$BinaryOperator"), accessFlags := 16409, slot := 10, constantValue := 0 }, { name := "AND", type := (.object "com/example/tandem_abstraction/tandemabstraction/parser/Expression$BinaryOperator"), accessFlags := 16409, slot := 11, constantValue := 0 }, { name := "OR", type := (.object "com/example/tandem_abstraction/tandemabstraction/parser/Expression$BinaryOperator"), accessFlags := 16409, slot := 12, constantValue := 0 }, { name := "$VALUES", type := (.array (.object "com/example/tandem_abstraction/tandemabstraction/parser/Expression$BinaryOperator")), accessFlags := 4122, slot := 13, constantValue := 0 }]
  methods := #[k6m0]
  instanceTypes := #[(.object "java/lang/String"), .int, .int]
  staticTypes := #[(.object "com/example/tandem_abstraction/tandemabstraction/parser/Expression$BinaryOperator"), (.object "com/example/tandem_abstraction/tandemabstraction/parser/Expression$BinaryOperator"), (.object "com/example/tandem_abstraction/tandemabstraction/parser/Expression$BinaryOperator"), (.object "com/example/tandem_abstraction/tandemabstraction/parser/Expression$BinaryOperator"), (.object "com/example/tandem_abstraction/tandemabstraction/parser/Expression$BinaryOperator"), (.object "com/example/tandem_abstraction/tandemabstraction/parser/Expression$BinaryOperator"), (.object "com/example/tandem_abstraction/tandemabstraction/parser/Expression$BinaryOperator"), (.object "com/example/tandem_abstraction/tandemabstraction/parser/Expression$BinaryOperator"), (.object "com/example/tandem_abstraction/tandemabstraction/parser/Expression$BinaryOperator"), (.object "com/example/tandem_abstraction/tandemabstraction/parser/Expression$BinaryOperator"), (.object "com/example/tandem_abstraction/tandemabstraction/parser/Expression$BinaryOperator"), (.object "com/example/tandem_abstraction/tandemabstraction/parser/Expression$BinaryOperator"), (.object "com/example/tandem_abstraction/tandemabstraction/parser/Expression$BinaryOperator"), (.array (.object "com/example/tandem_abstraction/tandemabstraction/parser/Expression$BinaryOperator"))]
  resolved := Array.replicate 99 none
  statics := some 0 }

def pool7 : Array CpInfo := pool [(1, u "java/lang/Cloneable"), (0, .class_ 1), (0, u "java/lang/Object"), (0, .class_ 3)] 3

/-- java/lang/Cloneable -/
def k7 : Class := { plain "java/lang/Cloneable" (some 0) with
  accessFlags := 1537
  interfaces := #[]
  cf := some (fileOf pool7 2 #[] #[] 1537 4 #[] #[])
  fields := #[]
  methods := #[]
  instanceTypes := #[]
  staticTypes := #[]
  resolved := Array.replicate 8 none
  statics := none }

/-- the primitive byte -/
def k8 : Class := { plain "byte" none with kind := .primitive 'B', accessFlags := 0x411 }
/-- [B -/
def k9 : Class := { plain "[B" (some 0) with kind := .array 8 .byte, interfaces := #[7, 4], accessFlags := 1041 }

/-- the primitive int -/
def k10 : Class := { plain "int" none with kind := .primitive 'I', accessFlags := 0x411 }
/-- [I -/
def k11 : Class := { plain "[I" (some 0) with kind := .array 10 .int, interfaces := #[7, 4], accessFlags := 1041 }

/-- [Lcom/example/tandem_abstraction/tandemabstraction/parser/Expression$BinaryOperator; -/
def k12 : Class := { plain "[Lcom/example/tandem_abstraction/tandemabstraction/parser/Expression$BinaryOperator;" (some 0) with kind := .array 6 (.object "com/example/tandem_abstraction/tandemabstraction/parser/Expression$BinaryOperator"), interfaces := #[7, 4], accessFlags := 1041 }

def heap : Heap := #[{ cls := 6, slots := #[.ref 1, .ref 2, .ref 3, .ref 4, .ref 5, .ref 6, .ref 7, .ref 8, .ref 9, .ref 10, .ref 11, .ref 12, .ref 13, .null], vm := .statics 6 },
  { cls := 6, slots := #[.null, .int 0, .int 0], vm := .none },
  { cls := 6, slots := #[.null, .int 1, .int 0], vm := .none },
  { cls := 6, slots := #[.null, .int 2, .int 0], vm := .none },
  { cls := 6, slots := #[.null, .int 3, .int 0], vm := .none },
  { cls := 6, slots := #[.null, .int 4, .int 0], vm := .none },
  { cls := 6, slots := #[.null, .int 5, .int 0], vm := .none },
  { cls := 6, slots := #[.null, .int 6, .int 0], vm := .none },
  { cls := 6, slots := #[.null, .int 7, .int 0], vm := .none },
  { cls := 6, slots := #[.null, .int 8, .int 0], vm := .none },
  { cls := 6, slots := #[.null, .int 9, .int 0], vm := .none },
  { cls := 6, slots := #[.null, .int 10, .int 0], vm := .none },
  { cls := 6, slots := #[.null, .int 11, .int 0], vm := .none },
  { cls := 6, slots := #[.null, .int 12, .int 0], vm := .none }]
def classes : Array Class := #[k0, k1, k2, k3, k4, k5, k6, k7, k8, k9, k10, k11, k12]
def interned : List (Array UInt16 × Addr) := []
def slotsUsed : Nat := 53
def theMethod : MethodId := ⟨1, 1⟩
def args0 : Array Value := #[.int 5]
def aboutOver (below : List Frame) : State where
  vm := { classes := classes, interned := interned.toArray }
  heap := heap
  slotsUsed := slotsUsed
  threads := #[{ frames := .invoking theMethod args0 :: below }]
def below0 : List Frame := [.native { method := ⟨0, 0⟩, args := #[] }]
def about1 : State := aboutOver below0
def p0 : Program := .bare "" "" ""
def e0 : Env := launch0.env 0 0 0
theorem w_frames : about1.frames = Frame.invoking theMethod args0 :: below0 := rfl
set_option maxRecDepth 65536 in
theorem w_args : argsFit about1.vm theMethod args0 = true := by decide +kernel
set_option maxRecDepth 65536 in
theorem w_heap : heapFits about1 = true := by decide +kernel
set_option maxRecDepth 65536 in
theorem w_runnable : about1.curStatus? = some .runnable := by decide +kernel
set_option maxRecDepth 65536 in
theorem w_alone : about1.alone = true := by decide +kernel
set_option maxRecDepth 65536 in
theorem w_named : about1.methodNamed? x = some theMethod := by decide +kernel
set_option maxRecDepth 65536 in
theorem w_hears : about1.hears theMethod below0 = true := by decide +kernel
set_option maxRecDepth 65536 in
theorem w_ripe : about1.ripe theMethod args0 below0 = true := by decide +kernel
theorem w_running : about1.status = .running := rfl
set_option maxRecDepth 65536 in
theorem w_room : about1.hasRoom e0.platform room_1 = true :=
  launch0.hasRoom_least _ room_1 (by decide +kernel) (by decide +kernel) (by decide +kernel) (by decide +kernel) (by decide +kernel) (by decide +kernel)
theorem allAtoms_all (ts : List Jvm.Cond) (a : Array Jvm.Value) (st : Jvm.State) : (allAtoms ts).before a st = ts.all (fun c => c.before a st) := by
  induction ts with
  | nil => rfl
  | cons c t ih =>
    show (Jvm.Cond.and c (allAtoms t)).before a st = _
    rw [Jvm.Cond.before_and, ih, List.all_cons]
def words1 : List Jvm.Cond := Jvm.Cond.code x code maxLocals ret :: tables_1
/-- a 'code' word, met by the world's own term for the bytes: nothing is compared byte by byte -/
theorem code_word {y : MethodName} {bytes : ByteArray} {mx : Nat} {rt : Option FieldType} {a : Array Value} {s : State} {m : MethodId} {meth : Method} {c : Code} (h1 : s.methodNamed? y = some m) (h2 : s.vm.method? m = some meth) (h3 : meth.code = some c) (h4 : c.code = bytes)
    (h5 : (c.maxLocals == mx && c.exceptionTable.isEmpty && decide (c.maxStack ≤ mostOperands) && decide (meth.sig.returnType = rt) && !meth.locks && decide (parseMethodDescriptor y.desc = some meth.sig)) = true) : (Jvm.Cond.code y bytes mx rt).before a s = true := by
  simp only [Bool.and_eq_true, beq_iff_eq, Bool.not_eq_true', decide_eq_true_eq] at h5
  obtain ⟨⟨⟨⟨⟨g1, g2⟩, g3⟩, g4⟩, g5⟩, g6⟩ := h5
  simp [Cond.before, Cond.holds, Cond.value, h1, h2, h3, h4, g1, g2, g3, g4, g5, g6]
def isCode : Jvm.Cond → Bool
  | .code _ _ _ _ => true
  | _ => false
theorem all_split {L : List Jvm.Cond} {P : Jvm.Cond → Bool} (h1 : L.all (fun c => isCode c || P c) = true) (h2 : ∀ c ∈ L.filter isCode, P c = true) : L.all P = true := by
  refine List.all_eq_true.mpr fun c hc => ?_
  have h := List.all_eq_true.mp h1 c hc
  rcases Bool.eq_false_or_eq_true (isCode c) with hi | hi
  · exact h2 c (List.mem_filter.mpr ⟨hc, hi⟩)
  · simpa [hi] using h
set_option maxRecDepth 65536 in
theorem w_c0 : (Jvm.Cond.code x code maxLocals ret).before args0 about1 = true := code_word (m := ⟨1, 1⟩) (meth := k1m1) (c := k1c1) (by decide +kernel) rfl rfl rfl (by decide +kernel)
set_option maxRecDepth 65536 in
theorem w_c1 : (Jvm.Cond.code ({ cls := "com/example/tandem_abstraction/tandemabstraction/parser/Expression$BinaryOperator", name := "isBoolean", desc := "()Z" } : Jvm.MethodName) prog_54_method_4_code (1 : Nat) (Option.some Jvm.ClassFile.FieldType.boolean)).before args0 about1 = true := code_word (m := ⟨6, 0⟩) (meth := k6m0) (c := k6c0) (by decide +kernel) rfl rfl rfl (by decide +kernel)
def codes1 : List Jvm.Cond := [Jvm.Cond.code x code maxLocals ret, Jvm.Cond.code ({ cls := "com/example/tandem_abstraction/tandemabstraction/parser/Expression$BinaryOperator", name := "isBoolean", desc := "()Z" } : Jvm.MethodName) prog_54_method_4_code (1 : Nat) (Option.some Jvm.ClassFile.FieldType.boolean)]
set_option maxRecDepth 65536 in
theorem codes_eq : words1.filter isCode = codes1 := rfl
theorem w_codes : ∀ c ∈ words1.filter isCode, c.before args0 about1 = true := by
  rw [codes_eq]
  intro c hc
  simp only [codes1, List.mem_cons, List.not_mem_nil, or_false] at hc
  rcases hc with rfl | rfl
  · exact w_c0
  · exact w_c1
set_option maxRecDepth 65536 in
theorem w_t1 : (words1.take 24).all (fun c => isCode c || c.before args0 about1) = true := by decide +kernel
set_option maxRecDepth 65536 in
theorem w_t2 : (words1.drop 24).all (fun c => isCode c || c.before args0 about1) = true := by decide +kernel
theorem w_tables : (allAtoms (Jvm.Cond.code x code maxLocals ret :: tables_1)).before args0 about1 = true := by
  rw [allAtoms_all]
  show words1.all (fun c => c.before args0 about1) = true
  refine all_split ?_ w_codes
  rw [← List.take_append_drop 24 words1, List.all_append, w_t1, w_t2]
  rfl
set_option maxRecDepth 65536 in
theorem w_case : (Jvm.Cond.and given_1 narrow_1).before args0 about1 = true := by decide +kernel
theorem w_applies : (headSpec (Jvm.Cond.code x code maxLocals ret :: tables_1) room_1).applies x e0.platform about1 = true :=
  (Spec.applies_iff w_frames).mpr ⟨w_running, w_runnable, w_alone, w_named, w_hears, w_ripe, w_room, w_tables⟩
theorem atStart : AtStart classFile x code maxLocals ret World_1 tables_1 room_1 Calls_1 rest_1 Pre_1 launch0 p0 e0 about1 theMethod args0 below0 :=
  ⟨lists_1, trivial, launch0.admits_env _ _ _, launch0.least_env, fairChoices_fair.cas, fairChoices_fair.clock, w_frames, w_args, w_heap, w_applies, trivial, trivial, w_case⟩
end start1
theorem witness_1 : WitnessClaimed_1 := ⟨start1.p0, start1.e0, start1.about1, start1.theMethod, start1.args0, start1.below0, start1.atStart⟩
end Jvm.Pilot.@@N@@
