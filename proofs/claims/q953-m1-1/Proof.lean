import JvmDerived
import JvmDerived.Pilot.@@N@@Statement
import JvmDerived.Pilot.@@N@@Code
set_option linter.unusedVariables false
set_option linter.unusedSimpArgs false
namespace Jvm.RoadKit
open Sem ClassFile Op Lib Jvm.Stand Jvm.Free Jvm.LawKit
section New
variable {p : Program} {l : Launch} {e : Env} {R : Room} {s : State} {m : MethodId} {args : Array Value} {below : List Frame} {meth : Method} {c : Code} {T : State} {locs : List Loc} {cells slots : Nat}
theorem retI (X : Stand p l e R s m args below meth c T locs cells slots) (hx : p.tables.exec = Jvm.exec) {pc : Nat} {Ls : Array Slot} {z : Int32} {rest : List Value} (hret : meth.sig.returnType = some .int) (hd : decode c.code pc = .ok (.ireturn, 1)) {fs : List Frame}
    (hl : ∀ (f : JFrame) (acts : List Action), f.method = m → f.locked = none → f.entered = [] → (doReturn e (T.setTop f) acts (some (.int z))).1 = T.setFrames fs) : Steps p.tables e below (T.setTop (mkF m pc Ls (.int z :: rest))) (T.setFrames fs) := by
  have hm' : T.vm.method? m = some meth := X.method'
  have hn : narrow .int (.int z) = .int z := rfl
  show Steps p.tables e below (T.setTop { method := m, pc := pc, locals := Ls, stack := _ :: rest, locked := none }) _
  jvm_step X.here [X.here.top, hx, hd, hm', hret, hn]
  first | (intro acts; rw [hl _ acts rfl rfl rfl]) | rw [hl _ _ rfl rfl rfl]
  exact Steps.refl _
end New
end Jvm.RoadKit
namespace Jvm.Pilot.@@N@@
open Jvm Jvm.ClassFile Sem Op Lib Jvm.Free Jvm.Stand Jvm.LawKit Jvm.RoadKit Bundle Jvm.Pilot.@@N@@.Jvm.D
abbrev Go (p : Program) (e : Env) (below : List Frame) (T : State) (g : JFrame) (t : State) : Prop := Steps p.tables e below (T.setTop g) t
theorem hwi {Z : State} {a0 : Array Value} (hw : ∀ d ∈ tables_1, d.before a0 Z = true) {d : Jvm.Cond} (i : Nat) (q : tables_1[i]? = some d) : d.before a0 Z = true := hw _ (List.mem_of_getElem? q)

def Wd (Z : State) (h : Heap) (w_CUSTOM w_UINT8 w_UINT16 w_UINT32 w_UINT64 w_STRING w_IPV4 w_HASH16 : Addr) : Prop := (Sta Z h "com/example/tagwire/tagwire/tree/TagType" "CUSTOM" "Lcom/example/tagwire/tagwire/tree/TagType;" (.ref w_CUSTOM) ∧ Exa Z h w_CUSTOM "com/example/tagwire/tagwire/tree/TagType" ∧ Fld Z h w_CUSTOM "java/lang/Enum" "ordinal" "I" (.int (0 : Int32))) ∧ (Sta Z h "com/example/tagwire/tagwire/tree/TagType" "UINT8" "Lcom/example/tagwire/tagwire/tree/TagType;" (.ref w_UINT8) ∧ Exa Z h w_UINT8 "com/example/tagwire/tagwire/tree/TagType" ∧ Fld Z h w_UINT8 "java/lang/Enum" "ordinal" "I" (.int (1 : Int32))) ∧ (Sta Z h "com/example/tagwire/tagwire/tree/TagType" "UINT16" "Lcom/example/tagwire/tagwire/tree/TagType;" (.ref w_UINT16) ∧ Exa Z h w_UINT16 "com/example/tagwire/tagwire/tree/TagType" ∧ Fld Z h w_UINT16 "java/lang/Enum" "ordinal" "I" (.int (2 : Int32))) ∧ (Sta Z h "com/example/tagwire/tagwire/tree/TagType" "UINT32" "Lcom/example/tagwire/tagwire/tree/TagType;" (.ref w_UINT32) ∧ Exa Z h w_UINT32 "com/example/tagwire/tagwire/tree/TagType" ∧ Fld Z h w_UINT32 "java/lang/Enum" "ordinal" "I" (.int (3 : Int32))) ∧ (Sta Z h "com/example/tagwire/tagwire/tree/TagType" "UINT64" "Lcom/example/tagwire/tagwire/tree/TagType;" (.ref w_UINT64) ∧ Exa Z h w_UINT64 "com/example/tagwire/tagwire/tree/TagType" ∧ Fld Z h w_UINT64 "java/lang/Enum" "ordinal" "I" (.int (4 : Int32))) ∧ (Sta Z h "com/example/tagwire/tagwire/tree/TagType" "STRING" "Lcom/example/tagwire/tagwire/tree/TagType;" (.ref w_STRING) ∧ Exa Z h w_STRING "com/example/tagwire/tagwire/tree/TagType" ∧ Fld Z h w_STRING "java/lang/Enum" "ordinal" "I" (.int (5 : Int32))) ∧ (Sta Z h "com/example/tagwire/tagwire/tree/TagType" "IPV4" "Lcom/example/tagwire/tagwire/tree/TagType;" (.ref w_IPV4) ∧ Exa Z h w_IPV4 "com/example/tagwire/tagwire/tree/TagType" ∧ Fld Z h w_IPV4 "java/lang/Enum" "ordinal" "I" (.int (6 : Int32))) ∧ (Sta Z h "com/example/tagwire/tagwire/tree/TagType" "HASH16" "Lcom/example/tagwire/tagwire/tree/TagType;" (.ref w_HASH16) ∧ Exa Z h w_HASH16 "com/example/tagwire/tagwire/tree/TagType" ∧ Fld Z h w_HASH16 "java/lang/Enum" "ordinal" "I" (.int (7 : Int32)))
theorem Wd_ext {Z : State} {h h' : Heap} {w_CUSTOM w_UINT8 w_UINT16 w_UINT32 w_UINT64 w_STRING w_IPV4 w_HASH16 : Addr} (W : Wd Z h w_CUSTOM w_UINT8 w_UINT16 w_UINT32 w_UINT64 w_STRING w_IPV4 w_HASH16) (E : Ext h h') : Wd Z h' w_CUSTOM w_UINT8 w_UINT16 w_UINT32 w_UINT64 w_STRING w_IPV4 w_HASH16 := by
  obtain ⟨⟨S_CUSTOM, E_CUSTOM, F_CUSTOM⟩, ⟨S_UINT8, E_UINT8, F_UINT8⟩, ⟨S_UINT16, E_UINT16, F_UINT16⟩, ⟨S_UINT32, E_UINT32, F_UINT32⟩, ⟨S_UINT64, E_UINT64, F_UINT64⟩, ⟨S_STRING, E_STRING, F_STRING⟩, ⟨S_IPV4, E_IPV4, F_IPV4⟩, ⟨S_HASH16, E_HASH16, F_HASH16⟩⟩ := W
  exact ⟨⟨S_CUSTOM.ext E, E_CUSTOM.ext E, F_CUSTOM.ext E⟩, ⟨S_UINT8.ext E, E_UINT8.ext E, F_UINT8.ext E⟩, ⟨S_UINT16.ext E, E_UINT16.ext E, F_UINT16.ext E⟩, ⟨S_UINT32.ext E, E_UINT32.ext E, F_UINT32.ext E⟩, ⟨S_UINT64.ext E, E_UINT64.ext E, F_UINT64.ext E⟩, ⟨S_STRING.ext E, E_STRING.ext E, F_STRING.ext E⟩, ⟨S_IPV4.ext E, E_IPV4.ext E, F_IPV4.ext E⟩, ⟨S_HASH16.ext E, E_HASH16.ext E, F_HASH16.ext E⟩⟩
theorem own_ext {h0 h : Heap} (K : Keep h0 h []) : Ext h0 h := ⟨K.1, fun a c q => K.2.1 a c q nin0⟩
theorem own_rng (k : Int32) (h : 0 ≤ k.toInt ∧ k.toInt < 8) : k = (0 : Int32) ∨ k = (1 : Int32) ∨ k = (2 : Int32) ∨ k = (3 : Int32) ∨ k = (4 : Int32) ∨ k = (5 : Int32) ∨ k = (6 : Int32) ∨ k = (7 : Int32) := by
  have q : k.toInt = 0 ∨ k.toInt = 1 ∨ k.toInt = 2 ∨ k.toInt = 3 ∨ k.toInt = 4 ∨ k.toInt = 5 ∨ k.toInt = 6 ∨ k.toInt = 7 := by omega
  rcases q with q | q | q | q | q | q | q | q
  · exact Or.inl (Int32.toInt_inj.mp (by rw [q]; decide))
  · exact Or.inr (Or.inl (Int32.toInt_inj.mp (by rw [q]; decide)))
  · exact Or.inr (Or.inr (Or.inl (Int32.toInt_inj.mp (by rw [q]; decide))))
  · exact Or.inr (Or.inr (Or.inr (Or.inl (Int32.toInt_inj.mp (by rw [q]; decide)))))
  · exact Or.inr (Or.inr (Or.inr (Or.inr (Or.inl (Int32.toInt_inj.mp (by rw [q]; decide))))))
  · exact Or.inr (Or.inr (Or.inr (Or.inr (Or.inr (Or.inl (Int32.toInt_inj.mp (by rw [q]; decide)))))))
  · exact Or.inr (Or.inr (Or.inr (Or.inr (Or.inr (Or.inr (Or.inl (Int32.toInt_inj.mp (by rw [q]; decide))))))))
  · exact Or.inr (Or.inr (Or.inr (Or.inr (Or.inr (Or.inr (Or.inr (Int32.toInt_inj.mp (by rw [q]; decide))))))))
theorem own_and7 (x : Int32) : 0 ≤ (x &&& (7 : Int32)).toInt ∧ (x &&& (7 : Int32)).toInt < 8 := by
  have h := c_mask x 7 3 (by decide) (by decide)
  omega
theorem ef_1 (m : MethodId) (x0 : Addr) : entryFrame m #[(.ref x0)] 1 = mkF m 0 #[.val (.ref x0)] [] := by first | (simp [entryFrame, mkF, argsToLocals, Value.category]; done) | rfl
theorem pn_com_example_tagwire_tagwire_tree_TagType : plainName "com/example/tagwire/tagwire/tree/TagType" = true := by first | (simp [plainName, overriddenIn]; done) | decide +kernel
theorem d1_0 : decode prog_60_method_9_code 0 = .ok (.aload_n 0, 1) := by decide +kernel
theorem d1_1 : decode prog_60_method_9_code 1 = .ok (.getstatic 7, 3) := by decide +kernel
theorem d1_4 : decode prog_60_method_9_code 4 = .ok (.if_acmp .eq 24, 3) := by decide +kernel
theorem d1_28 : decode prog_60_method_9_code 28 = .ok (.iconst 1, 1) := by decide +kernel
theorem d1_29 : decode prog_60_method_9_code 29 = .ok (.goto 4, 3) := by decide +kernel
theorem d1_33 : decode prog_60_method_9_code 33 = .ok (.ireturn, 1) := by decide +kernel
theorem d1_7 : decode prog_60_method_9_code 7 = .ok (.aload_n 0, 1) := by decide +kernel
theorem d1_8 : decode prog_60_method_9_code 8 = .ok (.getstatic 10, 3) := by decide +kernel
theorem d1_11 : decode prog_60_method_9_code 11 = .ok (.if_acmp .eq 17, 3) := by decide +kernel
theorem d1_14 : decode prog_60_method_9_code 14 = .ok (.aload_n 0, 1) := by decide +kernel
theorem d1_15 : decode prog_60_method_9_code 15 = .ok (.getstatic 13, 3) := by decide +kernel
theorem d1_18 : decode prog_60_method_9_code 18 = .ok (.if_acmp .eq 10, 3) := by decide +kernel
theorem d1_21 : decode prog_60_method_9_code 21 = .ok (.aload_n 0, 1) := by decide +kernel
theorem d1_22 : decode prog_60_method_9_code 22 = .ok (.getstatic 16, 3) := by decide +kernel
theorem d1_25 : decode prog_60_method_9_code 25 = .ok (.if_acmp .ne 7, 3) := by decide +kernel
theorem d1_32 : decode prog_60_method_9_code 32 = .ok (.iconst 0, 1) := by decide +kernel
def Q_rmC (Z : State) (a1 : Addr) (w_CUSTOM : Addr) (w_UINT8 : Addr) (w_UINT16 : Addr) (w_UINT32 : Addr) (w_UINT64 : Addr) (w_STRING : Addr) (w_IPV4 : Addr) (w_HASH16 : Addr) (h0 : Heap) (n0 : Nat) (v : Option Value) (h : Heap) (L : List Loc) : Prop := v = some (.int (if a1 = w_UINT8 ∨ a1 = w_UINT16 ∨ a1 = w_UINT32 ∨ a1 = w_UINT64 then 1 else 0)) ∧ Fr n0 L ∧ h = h0
set_option maxRecDepth 65536 in
set_option maxHeartbeats 40000000 in
theorem rmC (l : Launch) (Z : State) (a0 : Array Value) (hw : ∀ d ∈ tables_1, d.before a0 Z = true) (ws : List Jvm.Cond) (a1 : Addr) (w_CUSTOM : Addr) (w_UINT8 : Addr) (w_UINT16 : Addr) (w_UINT32 : Addr) (w_UINT64 : Addr) (w_STRING : Addr) (w_IPV4 : Addr) (w_HASH16 : Addr) (h0 : Heap) (n0 : Nat) (Z0 : n0 ≤ h0.size) (hWd : Wd Z h0 w_CUSTOM w_UINT8 w_UINT16 w_UINT32 w_UINT64 w_STRING w_IPV4 w_HASH16) :
    MetFree l (⟨"com/example/tagwire/tagwire/tree/TagType", "isInteger", "()Z"⟩ : MethodName) (head1 (Jvm.Cond.code (⟨"com/example/tagwire/tagwire/tree/TagType", "isInteger", "()Z"⟩ : MethodName) prog_60_method_9_code 1 (some .boolean) :: ws) ({ frames := 0, cells := 0, slots := 0, locals := 0 } : Room)) (fun av_ U_ => av_ = #[(.ref a1)] ∧ Z.Warmed39 U_.vm ∧ U_.heap = h0) (fun _ _ _ _ _ => True) (fun _ U_ o_ V_ => ∃ v_ L_, o_ = .returned v_ ∧ Q_rmC Z a1 w_CUSTOM w_UINT8 w_UINT16 w_UINT32 w_UINT64 w_STRING w_IPV4 w_HASH16 h0 n0 v_ V_.heap L_ ∧ FrameEnd U_ o_ V_ L_ ({ frames := 0, cells := 0, slots := 0, locals := 0 } : Room).cells ({ frames := 0, cells := 0, slots := 0, locals := 0 } : Room).slots) := by
  refine MetFree.of_bodySF (plainFor_of_name pn_com_example_tagwire_tagwire_tree_TagType) hisR ?_
  intro p e s m args below meth c s₁ Bd hml0 hP hK
  obtain ⟨rfl, hZ, hh⟩ := hP
  have hx := Bd.exec
  have hby := Bd.bytes
  have hml : c.maxLocals = 1 := hml0
  have hown : s.vm.findClass "com/example/tagwire/tagwire/tree/TagType" = some m.cls := findClass_of_methodNamed Bd.named
  have hnm := (name_of_methodNamed Bd.named Bd.method).1
  have X0 : Stand p l e ({ frames := 0, cells := 0, slots := 0, locals := 0 } : Room) s m #[(.ref a1)] below meth c s₁ [] 0 0 := Stand.of_body Bd
  have e0 : s₁.heap = h0 := by rw [← hh, Bd.state]; rfl
  have N0 := Fr.nil n0
  have pre0 : ∀ t_, Go p e below s₁ (mkF m 0 #[rv a1] []) t_ → Go p e below s₁ (entryFrame m #[(.ref a1)] 1) t_ := fun t_ kt => castTop (ef_1 m a1) kt
  have hWd0 := hWd
  obtain ⟨⟨S_CUSTOM, E_CUSTOM, F_CUSTOM⟩, ⟨S_UINT8, E_UINT8, F_UINT8⟩, ⟨S_UINT16, E_UINT16, F_UINT16⟩, ⟨S_UINT32, E_UINT32, F_UINT32⟩, ⟨S_UINT64, E_UINT64, F_UINT64⟩, ⟨S_STRING, E_STRING, F_STRING⟩, ⟨S_IPV4, E_IPV4, F_IPV4⟩, ⟨S_HASH16, E_HASH16, F_HASH16⟩⟩ := hWd
  obtain ⟨T1, X1, e1, st1⟩ := getS2 X0 hx hZ hown (host := "") (Or.inl (hwi hw 25 rfl)) Via.refl e0 S_UINT8 (g := (mkF m 1 #[rv a1] [(.ref a1)])) rfl (hb hby d1_1)
  have pre2 : ∀ t_, Go p e below T1 (mkF m 4 #[rv a1] [(.ref w_UINT8), (.ref a1)]) t_ → Go p e below s₁ (entryFrame m #[(.ref a1)] 1) t_ := fun t_ kt => pre0 _ (by
      show Go p e below s₁ (mkF m 0 #[rv a1] []) _
      refine XS.aloadN X0.here hx rfl (hb hby d1_0) rfl rfl ?_
      show Go p e below s₁ (mkF m 1 #[rv a1] [(.ref a1)]) _
      refine st1 _ ?_
      show Go p e below T1 (mkF m 4 #[rv a1] [(.ref w_UINT8), (.ref a1)]) _
      exact kt)
  by_cases hc4_3 : a1 = w_UINT8
  · have pre4 : ∀ t_, Go p e below T1 (mkF m 33 #[rv a1] [(.int 1)]) t_ → Go p e below s₁ (entryFrame m #[(.ref a1)] 1) t_ := fun t_ kt => pre2 _ (by
        show Go p e below T1 (mkF m 4 #[rv a1] [(.ref w_UINT8), (.ref a1)]) _
        refine Jvm.RoadKit.acmp (g := (mkF m 4 #[rv a1] [(.ref w_UINT8), (.ref a1)])) X1 hx rfl rfl rfl (pc0 := 4) (pc' := 28) (same := true) rfl (hb hby d1_4) rfl (decide_eq_true (congrArg Value.ref hc4_3)) (by decide) (by decide) ?_
        show Go p e below T1 (mkF m 28 #[rv a1] []) _
        refine XS.iconst X1.here hx rfl (hb hby d1_28) ?_
        show Go p e below T1 (mkF m 29 #[rv a1] [(.int 1)]) _
        refine XS.goto X1.here hx rfl (pc0 := 29) (pc' := 33) rfl (hb hby d1_29) (by decide) (by decide) ?_
        show Go p e below T1 (mkF m 33 #[rv a1] [(.int 1)]) _
        exact kt)
    obtain ⟨fs, hr, hrun, hended, hW, hsame⟩ := X1.leave (v := some (.int 1)) (fun h => by rw [Bd.returns] at h; cases h)
    refine ⟨_, _, pre4 _ ?_, hrun, hended, _, _, rfl, ?_, ⟨_, rfl⟩, hW, hsame.mono (by decide) (by decide)⟩
    · show Steps p.tables e below (T1.setTop (mkF m 33 #[rv a1] [(.int 1)])) _
      exact retN X1 hx (t := .boolean) Bd.returns (by simp) (hb hby d1_33) hr
    · show Q_rmC Z a1 w_CUSTOM w_UINT8 w_UINT16 w_UINT32 w_UINT64 w_STRING w_IPV4 w_HASH16 h0 n0 _ T1.heap _
      rw [e1]
      exact ⟨by simp [hc4_3], N0, rfl⟩
  · obtain ⟨T5, X5, e5, st5⟩ := getS2 X1 hx hZ hown (host := "") (Or.inl (hwi hw 26 rfl)) Via.refl e1 S_UINT16 (g := (mkF m 8 #[rv a1] [(.ref a1)])) rfl (hb hby d1_8)
    have pre6 : ∀ t_, Go p e below T5 (mkF m 11 #[rv a1] [(.ref w_UINT16), (.ref a1)]) t_ → Go p e below s₁ (entryFrame m #[(.ref a1)] 1) t_ := fun t_ kt => pre2 _ (by
        show Go p e below T1 (mkF m 4 #[rv a1] [(.ref w_UINT8), (.ref a1)]) _
        refine Jvm.RoadKit.acmp (g := (mkF m 4 #[rv a1] [(.ref w_UINT8), (.ref a1)])) X1 hx rfl rfl rfl (pc0 := 4) (pc' := 7) (same := false) rfl (hb hby d1_4) rfl (decide_eq_false fun q => hc4_3 (Value.ref.inj q)) (by decide) (by decide) ?_
        show Go p e below T1 (mkF m 7 #[rv a1] []) _
        refine XS.aloadN X1.here hx rfl (hb hby d1_7) rfl rfl ?_
        show Go p e below T1 (mkF m 8 #[rv a1] [(.ref a1)]) _
        refine st5 _ ?_
        show Go p e below T5 (mkF m 11 #[rv a1] [(.ref w_UINT16), (.ref a1)]) _
        exact kt)
    by_cases hc11_7 : a1 = w_UINT16
    · have pre8 : ∀ t_, Go p e below T5 (mkF m 33 #[rv a1] [(.int 1)]) t_ → Go p e below s₁ (entryFrame m #[(.ref a1)] 1) t_ := fun t_ kt => pre6 _ (by
          show Go p e below T5 (mkF m 11 #[rv a1] [(.ref w_UINT16), (.ref a1)]) _
          refine Jvm.RoadKit.acmp (g := (mkF m 11 #[rv a1] [(.ref w_UINT16), (.ref a1)])) X5 hx rfl rfl rfl (pc0 := 11) (pc' := 28) (same := true) rfl (hb hby d1_11) rfl (decide_eq_true (congrArg Value.ref hc11_7)) (by decide) (by decide) ?_
          show Go p e below T5 (mkF m 28 #[rv a1] []) _
          refine XS.iconst X5.here hx rfl (hb hby d1_28) ?_
          show Go p e below T5 (mkF m 29 #[rv a1] [(.int 1)]) _
          refine XS.goto X5.here hx rfl (pc0 := 29) (pc' := 33) rfl (hb hby d1_29) (by decide) (by decide) ?_
          show Go p e below T5 (mkF m 33 #[rv a1] [(.int 1)]) _
          exact kt)
      obtain ⟨fs, hr, hrun, hended, hW, hsame⟩ := X5.leave (v := some (.int 1)) (fun h => by rw [Bd.returns] at h; cases h)
      refine ⟨_, _, pre8 _ ?_, hrun, hended, _, _, rfl, ?_, ⟨_, rfl⟩, hW, hsame.mono (by decide) (by decide)⟩
      · show Steps p.tables e below (T5.setTop (mkF m 33 #[rv a1] [(.int 1)])) _
        exact retN X5 hx (t := .boolean) Bd.returns (by simp) (hb hby d1_33) hr
      · show Q_rmC Z a1 w_CUSTOM w_UINT8 w_UINT16 w_UINT32 w_UINT64 w_STRING w_IPV4 w_HASH16 h0 n0 _ T5.heap _
        rw [e5]
        exact ⟨by simp [hc4_3, hc11_7], N0, rfl⟩
    · obtain ⟨T9, X9, e9, st9⟩ := getS2 X5 hx hZ hown (host := "") (Or.inl (hwi hw 27 rfl)) Via.refl e5 S_UINT32 (g := (mkF m 15 #[rv a1] [(.ref a1)])) rfl (hb hby d1_15)
      have pre10 : ∀ t_, Go p e below T9 (mkF m 18 #[rv a1] [(.ref w_UINT32), (.ref a1)]) t_ → Go p e below s₁ (entryFrame m #[(.ref a1)] 1) t_ := fun t_ kt => pre6 _ (by
          show Go p e below T5 (mkF m 11 #[rv a1] [(.ref w_UINT16), (.ref a1)]) _
          refine Jvm.RoadKit.acmp (g := (mkF m 11 #[rv a1] [(.ref w_UINT16), (.ref a1)])) X5 hx rfl rfl rfl (pc0 := 11) (pc' := 14) (same := false) rfl (hb hby d1_11) rfl (decide_eq_false fun q => hc11_7 (Value.ref.inj q)) (by decide) (by decide) ?_
          show Go p e below T5 (mkF m 14 #[rv a1] []) _
          refine XS.aloadN X5.here hx rfl (hb hby d1_14) rfl rfl ?_
          show Go p e below T5 (mkF m 15 #[rv a1] [(.ref a1)]) _
          refine st9 _ ?_
          show Go p e below T9 (mkF m 18 #[rv a1] [(.ref w_UINT32), (.ref a1)]) _
          exact kt)
      by_cases hc18_11 : a1 = w_UINT32
      · have pre12 : ∀ t_, Go p e below T9 (mkF m 33 #[rv a1] [(.int 1)]) t_ → Go p e below s₁ (entryFrame m #[(.ref a1)] 1) t_ := fun t_ kt => pre10 _ (by
            show Go p e below T9 (mkF m 18 #[rv a1] [(.ref w_UINT32), (.ref a1)]) _
            refine Jvm.RoadKit.acmp (g := (mkF m 18 #[rv a1] [(.ref w_UINT32), (.ref a1)])) X9 hx rfl rfl rfl (pc0 := 18) (pc' := 28) (same := true) rfl (hb hby d1_18) rfl (decide_eq_true (congrArg Value.ref hc18_11)) (by decide) (by decide) ?_
            show Go p e below T9 (mkF m 28 #[rv a1] []) _
            refine XS.iconst X9.here hx rfl (hb hby d1_28) ?_
            show Go p e below T9 (mkF m 29 #[rv a1] [(.int 1)]) _
            refine XS.goto X9.here hx rfl (pc0 := 29) (pc' := 33) rfl (hb hby d1_29) (by decide) (by decide) ?_
            show Go p e below T9 (mkF m 33 #[rv a1] [(.int 1)]) _
            exact kt)
        obtain ⟨fs, hr, hrun, hended, hW, hsame⟩ := X9.leave (v := some (.int 1)) (fun h => by rw [Bd.returns] at h; cases h)
        refine ⟨_, _, pre12 _ ?_, hrun, hended, _, _, rfl, ?_, ⟨_, rfl⟩, hW, hsame.mono (by decide) (by decide)⟩
        · show Steps p.tables e below (T9.setTop (mkF m 33 #[rv a1] [(.int 1)])) _
          exact retN X9 hx (t := .boolean) Bd.returns (by simp) (hb hby d1_33) hr
        · show Q_rmC Z a1 w_CUSTOM w_UINT8 w_UINT16 w_UINT32 w_UINT64 w_STRING w_IPV4 w_HASH16 h0 n0 _ T9.heap _
          rw [e9]
          exact ⟨by simp [hc4_3, hc11_7, hc18_11], N0, rfl⟩
      · obtain ⟨T13, X13, e13, st13⟩ := getS2 X9 hx hZ hown (host := "") (Or.inl (hwi hw 28 rfl)) Via.refl e9 S_UINT64 (g := (mkF m 22 #[rv a1] [(.ref a1)])) rfl (hb hby d1_22)
        have pre14 : ∀ t_, Go p e below T13 (mkF m 25 #[rv a1] [(.ref w_UINT64), (.ref a1)]) t_ → Go p e below s₁ (entryFrame m #[(.ref a1)] 1) t_ := fun t_ kt => pre10 _ (by
            show Go p e below T9 (mkF m 18 #[rv a1] [(.ref w_UINT32), (.ref a1)]) _
            refine Jvm.RoadKit.acmp (g := (mkF m 18 #[rv a1] [(.ref w_UINT32), (.ref a1)])) X9 hx rfl rfl rfl (pc0 := 18) (pc' := 21) (same := false) rfl (hb hby d1_18) rfl (decide_eq_false fun q => hc18_11 (Value.ref.inj q)) (by decide) (by decide) ?_
            show Go p e below T9 (mkF m 21 #[rv a1] []) _
            refine XS.aloadN X9.here hx rfl (hb hby d1_21) rfl rfl ?_
            show Go p e below T9 (mkF m 22 #[rv a1] [(.ref a1)]) _
            refine st13 _ ?_
            show Go p e below T13 (mkF m 25 #[rv a1] [(.ref w_UINT64), (.ref a1)]) _
            exact kt)
        by_cases hc25_15 : a1 = w_UINT64
        · have pre16 : ∀ t_, Go p e below T13 (mkF m 33 #[rv a1] [(.int 1)]) t_ → Go p e below s₁ (entryFrame m #[(.ref a1)] 1) t_ := fun t_ kt => pre14 _ (by
              show Go p e below T13 (mkF m 25 #[rv a1] [(.ref w_UINT64), (.ref a1)]) _
              refine Jvm.RoadKit.acmp (g := (mkF m 25 #[rv a1] [(.ref w_UINT64), (.ref a1)])) X13 hx rfl rfl rfl (pc0 := 25) (pc' := 28) (same := true) rfl (hb hby d1_25) rfl (decide_eq_true (congrArg Value.ref hc25_15)) (by decide) (by decide) ?_
              show Go p e below T13 (mkF m 28 #[rv a1] []) _
              refine XS.iconst X13.here hx rfl (hb hby d1_28) ?_
              show Go p e below T13 (mkF m 29 #[rv a1] [(.int 1)]) _
              refine XS.goto X13.here hx rfl (pc0 := 29) (pc' := 33) rfl (hb hby d1_29) (by decide) (by decide) ?_
              show Go p e below T13 (mkF m 33 #[rv a1] [(.int 1)]) _
              exact kt)
          obtain ⟨fs, hr, hrun, hended, hW, hsame⟩ := X13.leave (v := some (.int 1)) (fun h => by rw [Bd.returns] at h; cases h)
          refine ⟨_, _, pre16 _ ?_, hrun, hended, _, _, rfl, ?_, ⟨_, rfl⟩, hW, hsame.mono (by decide) (by decide)⟩
          · show Steps p.tables e below (T13.setTop (mkF m 33 #[rv a1] [(.int 1)])) _
            exact retN X13 hx (t := .boolean) Bd.returns (by simp) (hb hby d1_33) hr
          · show Q_rmC Z a1 w_CUSTOM w_UINT8 w_UINT16 w_UINT32 w_UINT64 w_STRING w_IPV4 w_HASH16 h0 n0 _ T13.heap _
            rw [e13]
            exact ⟨by simp [hc4_3, hc11_7, hc18_11, hc25_15], N0, rfl⟩
        · have pre17 : ∀ t_, Go p e below T13 (mkF m 33 #[rv a1] [(.int 0)]) t_ → Go p e below s₁ (entryFrame m #[(.ref a1)] 1) t_ := fun t_ kt => pre14 _ (by
              show Go p e below T13 (mkF m 25 #[rv a1] [(.ref w_UINT64), (.ref a1)]) _
              refine Jvm.RoadKit.acmp (g := (mkF m 25 #[rv a1] [(.ref w_UINT64), (.ref a1)])) X13 hx rfl rfl rfl (pc0 := 25) (pc' := 32) (same := false) rfl (hb hby d1_25) rfl (decide_eq_false fun q => hc25_15 (Value.ref.inj q)) (by decide) (by decide) ?_
              show Go p e below T13 (mkF m 32 #[rv a1] []) _
              refine XS.iconst X13.here hx rfl (hb hby d1_32) ?_
              show Go p e below T13 (mkF m 33 #[rv a1] [(.int 0)]) _
              exact kt)
          obtain ⟨fs, hr, hrun, hended, hW, hsame⟩ := X13.leave (v := some (.int 0)) (fun h => by rw [Bd.returns] at h; cases h)
          refine ⟨_, _, pre17 _ ?_, hrun, hended, _, _, rfl, ?_, ⟨_, rfl⟩, hW, hsame.mono (by decide) (by decide)⟩
          · show Steps p.tables e below (T13.setTop (mkF m 33 #[rv a1] [(.int 0)])) _
            exact retN X13 hx (t := .boolean) Bd.returns (by simp) (hb hby d1_33) hr
          · show Q_rmC Z a1 w_CUSTOM w_UINT8 w_UINT16 w_UINT32 w_UINT64 w_STRING w_IPV4 w_HASH16 h0 n0 _ T13.heap _
            rw [e13]
            exact ⟨by simp [hc4_3, hc11_7, hc18_11, hc25_15], N0, rfl⟩
theorem ef_0 (m : MethodId) (x0 : Int32) : entryFrame m #[(.int x0)] maxLocals = mkF m 0 #[.val (.int x0), .unset, .unset, .unset, .unset] [] := by first | (simp [entryFrame, mkF, argsToLocals, Value.category, maxLocals]; done) | rfl
theorem pn_com_example_tagwire_tagwire_tree_TagTypeIsIntegerPinLaw : plainName "com/example/tagwire/tagwire/tree/TagTypeIsIntegerPinLaw" = true := by first | (simp [plainName, overriddenIn]; done) | decide +kernel
theorem pd_0 : parseMethodDescriptor "()Z" = some ⟨[], some .boolean⟩ := by decide +kernel
def Q_rmL (Z : State) (p1 : Int32) (w_CUSTOM : Addr) (w_UINT8 : Addr) (w_UINT16 : Addr) (w_UINT32 : Addr) (w_UINT64 : Addr) (w_STRING : Addr) (w_IPV4 : Addr) (w_HASH16 : Addr) (h0 : Heap) (n0 : Nat) (v : Option Value) (h : Heap) (L : List Loc) : Prop := v = some (.int 1) ∧ Fr n0 L
set_option maxRecDepth 65536 in
set_option maxHeartbeats 40000000 in
theorem rmL (l : Launch) (Z : State) (a0 : Array Value) (hw : ∀ d ∈ tables_1, d.before a0 Z = true) (ws : List Jvm.Cond) (p1 : Int32) (w_CUSTOM : Addr) (w_UINT8 : Addr) (w_UINT16 : Addr) (w_UINT32 : Addr) (w_UINT64 : Addr) (w_STRING : Addr) (w_IPV4 : Addr) (w_HASH16 : Addr) (h0 : Heap) (n0 : Nat) (Z0 : n0 ≤ h0.size) (hWd : Wd Z h0 w_CUSTOM w_UINT8 w_UINT16 w_UINT32 w_UINT64 w_STRING w_IPV4 w_HASH16) :
    MetFree l x (head1 (Jvm.Cond.code x code maxLocals ret :: ws) room_1) (fun av_ U_ => av_ = #[(.int p1)] ∧ Z.Warmed39 U_.vm ∧ U_.heap = h0) (fun _ _ _ _ _ => True) (fun _ U_ o_ V_ => ∃ v_ L_, o_ = .returned v_ ∧ Q_rmL Z p1 w_CUSTOM w_UINT8 w_UINT16 w_UINT32 w_UINT64 w_STRING w_IPV4 w_HASH16 h0 n0 v_ V_.heap L_ ∧ FrameEnd U_ o_ V_ L_ room_1.cells room_1.slots) := by
  refine MetFree.of_bodySF (plainFor_of_name pn_com_example_tagwire_tagwire_tree_TagTypeIsIntegerPinLaw) hisR ?_
  intro p e s m args below meth c s₁ Bd hml0 hP hK
  obtain ⟨rfl, hZ, hh⟩ := hP
  have hx := Bd.exec
  have hby := Bd.bytes
  have hml : c.maxLocals = 5 := hml0
  have hown : s.vm.findClass "com/example/tagwire/tagwire/tree/TagTypeIsIntegerPinLaw" = some m.cls := findClass_of_methodNamed Bd.named
  have hnm := (name_of_methodNamed Bd.named Bd.method).1
  have X0 : Stand p l e room_1 s m #[(.int p1)] below meth c s₁ [] 0 0 := Stand.of_body Bd
  have e0 : s₁.heap = h0 := by rw [← hh, Bd.state]; rfl
  have N0 := Fr.nil n0
  have pre0 : ∀ t_, Go p e below s₁ (mkF m 0 #[iv p1, .unset, .unset, .unset, .unset] []) t_ → Go p e below s₁ (entryFrame m #[(.int p1)] maxLocals) t_ := fun t_ kt => castTop (ef_0 m p1) kt
  have hWd0 := hWd
  obtain ⟨⟨S_CUSTOM, E_CUSTOM, F_CUSTOM⟩, ⟨S_UINT8, E_UINT8, F_UINT8⟩, ⟨S_UINT16, E_UINT16, F_UINT16⟩, ⟨S_UINT32, E_UINT32, F_UINT32⟩, ⟨S_UINT64, E_UINT64, F_UINT64⟩, ⟨S_STRING, E_STRING, F_STRING⟩, ⟨S_IPV4, E_IPV4, F_IPV4⟩, ⟨S_HASH16, E_HASH16, F_HASH16⟩⟩ := hWd
  obtain ⟨T1, h1, k1, X1, e1, E1, A1, O1, st1⟩ := newR X0 hx hZ hown (hwi hw 0 rfl) (hwi hw 1 rfl) e0 (g := (mkF m 2 #[iv p1, .unset, .unset, .unset, .unset] [(.int 8)])) rfl (hb hby at_2) rfl (by decide) (cap := 8) (by decide) (by decide) (by decide) (by decide)
  obtain ⟨b1, g1⟩ : ∃ z, z = h0.size := ⟨_, rfl⟩
  rw [← g1] at A1 st1
  have V1 : Arv Z h1 b1 k1 (.object "com/example/tagwire/tagwire/tree/TagType") (8 : Int32) [.null, .null, .null, .null, .null, .null, .null, .null] .null := (Arv.new A1 (by decide)).pad (pad_rep [] .null 8)
  have sz_b1 : h0.size ≤ b1 := Nat.le_trans (Keep.refl h0 []).1 (Nat.le_of_eq g1.symm)
  have g_b1 : n0 ≤ b1 := Nat.le_trans Z0 sz_b1
  have K1 : Keep h0 h1 [] := (Keep.refl h0 []).ext E1
  obtain ⟨T2, X2, e2, st2⟩ := getS2 X1 hx hZ hown (host := "") (Or.inl (hwi hw 2 rfl)) Via.refl e1 (S_CUSTOM.ext (own_ext K1)) (g := (mkF m 7 #[iv p1, .unset, .unset, .unset, .unset] [(.int 0), (.ref b1), (.ref b1)])) rfl (hb hby at_7)
  obtain ⟨cl3, Ar3, qa3, Sa3, Na3, Ha3, Ga3⟩ := V1
  have hin3 : ¬ ((0 : Int32) < 0 ∨ cl3.slots.size ≤ ((0 : Int32)).toNatClampNeg) := inb_of Sa3 ⟨by decide, by decide⟩
  obtain ⟨T4, h4, X4, e4, W4, st4⟩ := stR X2 hx hZ e2 Ar3 (j := (0 : Int32)) hin3 rfl (Sto.ofV Ar3 qa3 O1 (Ins.self (E_CUSTOM.ext (own_ext K1)))) (g := (mkF m 10 #[iv p1, .unset, .unset, .unset, .unset] [(.ref w_CUSTOM), (.int 0), (.ref b1), (.ref b1)])) rfl rfl (hb hby at_10)
  have V4 : Arv Z h4 b1 k1 (.object "com/example/tagwire/tagwire/tree/TagType") (8 : Int32) [(.ref w_CUSTOM), .null, .null, .null, .null, .null, .null, .null] .null := Arv.set Ar3 qa3 Sa3 Na3 Ha3 Ga3 rfl W4 0 rfl (Nat.le_of_ble_eq_true rfl)
  have K4 : Keep h0 h4 [] := K1.wr W4 (Or.inr sz_b1)
  have N4 := Fr.snoc X4 N0 g_b1
  obtain ⟨T5, X5, e5, st5⟩ := getS2 X4 hx hZ hown (host := "") (Or.inl (hwi hw 6 rfl)) Via.refl e4 (S_UINT8.ext (own_ext K4)) (g := (mkF m 13 #[iv p1, .unset, .unset, .unset, .unset] [(.int 1), (.ref b1), (.ref b1)])) rfl (hb hby at_13)
  obtain ⟨cl6, Ar6, qa6, Sa6, Na6, Ha6, Ga6⟩ := V4
  have hin6 : ¬ ((1 : Int32) < 0 ∨ cl6.slots.size ≤ ((1 : Int32)).toNatClampNeg) := inb_of Sa6 ⟨by decide, by decide⟩
  obtain ⟨T7, h7, X7, e7, W7, st7⟩ := stR X5 hx hZ e5 Ar6 (j := (1 : Int32)) hin6 rfl (Sto.ofV Ar6 qa6 O1 (Ins.self (E_UINT8.ext (own_ext K4)))) (g := (mkF m 16 #[iv p1, .unset, .unset, .unset, .unset] [(.ref w_UINT8), (.int 1), (.ref b1), (.ref b1)])) rfl rfl (hb hby at_16)
  have V7 : Arv Z h7 b1 k1 (.object "com/example/tagwire/tagwire/tree/TagType") (8 : Int32) [(.ref w_CUSTOM), (.ref w_UINT8), .null, .null, .null, .null, .null, .null] .null := Arv.set Ar6 qa6 Sa6 Na6 Ha6 Ga6 rfl W7 1 rfl (Nat.le_of_ble_eq_true rfl)
  have K7 : Keep h0 h7 [] := K4.wr W7 (Or.inr sz_b1)
  have N7 := Fr.snoc X7 N4 g_b1
  obtain ⟨T8, X8, e8, st8⟩ := getS2 X7 hx hZ hown (host := "") (Or.inl (hwi hw 8 rfl)) Via.refl e7 (S_UINT16.ext (own_ext K7)) (g := (mkF m 19 #[iv p1, .unset, .unset, .unset, .unset] [(.int 2), (.ref b1), (.ref b1)])) rfl (hb hby at_19)
  obtain ⟨cl9, Ar9, qa9, Sa9, Na9, Ha9, Ga9⟩ := V7
  have hin9 : ¬ ((2 : Int32) < 0 ∨ cl9.slots.size ≤ ((2 : Int32)).toNatClampNeg) := inb_of Sa9 ⟨by decide, by decide⟩
  obtain ⟨T10, h10, X10, e10, W10, st10⟩ := stR X8 hx hZ e8 Ar9 (j := (2 : Int32)) hin9 rfl (Sto.ofV Ar9 qa9 O1 (Ins.self (E_UINT16.ext (own_ext K7)))) (g := (mkF m 22 #[iv p1, .unset, .unset, .unset, .unset] [(.ref w_UINT16), (.int 2), (.ref b1), (.ref b1)])) rfl rfl (hb hby at_22)
  have V10 : Arv Z h10 b1 k1 (.object "com/example/tagwire/tagwire/tree/TagType") (8 : Int32) [(.ref w_CUSTOM), (.ref w_UINT8), (.ref w_UINT16), .null, .null, .null, .null, .null] .null := Arv.set Ar9 qa9 Sa9 Na9 Ha9 Ga9 rfl W10 2 rfl (Nat.le_of_ble_eq_true rfl)
  have K10 : Keep h0 h10 [] := K7.wr W10 (Or.inr sz_b1)
  have N10 := Fr.snoc X10 N7 g_b1
  obtain ⟨T11, X11, e11, st11⟩ := getS2 X10 hx hZ hown (host := "") (Or.inl (hwi hw 10 rfl)) Via.refl e10 (S_UINT32.ext (own_ext K10)) (g := (mkF m 25 #[iv p1, .unset, .unset, .unset, .unset] [(.int 3), (.ref b1), (.ref b1)])) rfl (hb hby at_25)
  obtain ⟨cl12, Ar12, qa12, Sa12, Na12, Ha12, Ga12⟩ := V10
  have hin12 : ¬ ((3 : Int32) < 0 ∨ cl12.slots.size ≤ ((3 : Int32)).toNatClampNeg) := inb_of Sa12 ⟨by decide, by decide⟩
  obtain ⟨T13, h13, X13, e13, W13, st13⟩ := stR X11 hx hZ e11 Ar12 (j := (3 : Int32)) hin12 rfl (Sto.ofV Ar12 qa12 O1 (Ins.self (E_UINT32.ext (own_ext K10)))) (g := (mkF m 28 #[iv p1, .unset, .unset, .unset, .unset] [(.ref w_UINT32), (.int 3), (.ref b1), (.ref b1)])) rfl rfl (hb hby at_28)
  have V13 : Arv Z h13 b1 k1 (.object "com/example/tagwire/tagwire/tree/TagType") (8 : Int32) [(.ref w_CUSTOM), (.ref w_UINT8), (.ref w_UINT16), (.ref w_UINT32), .null, .null, .null, .null] .null := Arv.set Ar12 qa12 Sa12 Na12 Ha12 Ga12 rfl W13 3 rfl (Nat.le_of_ble_eq_true rfl)
  have K13 : Keep h0 h13 [] := K10.wr W13 (Or.inr sz_b1)
  have N13 := Fr.snoc X13 N10 g_b1
  obtain ⟨T14, X14, e14, st14⟩ := getS2 X13 hx hZ hown (host := "") (Or.inl (hwi hw 12 rfl)) Via.refl e13 (S_UINT64.ext (own_ext K13)) (g := (mkF m 31 #[iv p1, .unset, .unset, .unset, .unset] [(.int 4), (.ref b1), (.ref b1)])) rfl (hb hby at_31)
  obtain ⟨cl15, Ar15, qa15, Sa15, Na15, Ha15, Ga15⟩ := V13
  have hin15 : ¬ ((4 : Int32) < 0 ∨ cl15.slots.size ≤ ((4 : Int32)).toNatClampNeg) := inb_of Sa15 ⟨by decide, by decide⟩
  obtain ⟨T16, h16, X16, e16, W16, st16⟩ := stR X14 hx hZ e14 Ar15 (j := (4 : Int32)) hin15 rfl (Sto.ofV Ar15 qa15 O1 (Ins.self (E_UINT64.ext (own_ext K13)))) (g := (mkF m 34 #[iv p1, .unset, .unset, .unset, .unset] [(.ref w_UINT64), (.int 4), (.ref b1), (.ref b1)])) rfl rfl (hb hby at_34)
  have V16 : Arv Z h16 b1 k1 (.object "com/example/tagwire/tagwire/tree/TagType") (8 : Int32) [(.ref w_CUSTOM), (.ref w_UINT8), (.ref w_UINT16), (.ref w_UINT32), (.ref w_UINT64), .null, .null, .null] .null := Arv.set Ar15 qa15 Sa15 Na15 Ha15 Ga15 rfl W16 4 rfl (Nat.le_of_ble_eq_true rfl)
  have K16 : Keep h0 h16 [] := K13.wr W16 (Or.inr sz_b1)
  have N16 := Fr.snoc X16 N13 g_b1
  obtain ⟨T17, X17, e17, st17⟩ := getS2 X16 hx hZ hown (host := "") (Or.inl (hwi hw 14 rfl)) Via.refl e16 (S_STRING.ext (own_ext K16)) (g := (mkF m 37 #[iv p1, .unset, .unset, .unset, .unset] [(.int 5), (.ref b1), (.ref b1)])) rfl (hb hby at_37)
  obtain ⟨cl18, Ar18, qa18, Sa18, Na18, Ha18, Ga18⟩ := V16
  have hin18 : ¬ ((5 : Int32) < 0 ∨ cl18.slots.size ≤ ((5 : Int32)).toNatClampNeg) := inb_of Sa18 ⟨by decide, by decide⟩
  obtain ⟨T19, h19, X19, e19, W19, st19⟩ := stR X17 hx hZ e17 Ar18 (j := (5 : Int32)) hin18 rfl (Sto.ofV Ar18 qa18 O1 (Ins.self (E_STRING.ext (own_ext K16)))) (g := (mkF m 40 #[iv p1, .unset, .unset, .unset, .unset] [(.ref w_STRING), (.int 5), (.ref b1), (.ref b1)])) rfl rfl (hb hby at_40)
  have V19 : Arv Z h19 b1 k1 (.object "com/example/tagwire/tagwire/tree/TagType") (8 : Int32) [(.ref w_CUSTOM), (.ref w_UINT8), (.ref w_UINT16), (.ref w_UINT32), (.ref w_UINT64), (.ref w_STRING), .null, .null] .null := Arv.set Ar18 qa18 Sa18 Na18 Ha18 Ga18 rfl W19 5 rfl (Nat.le_of_ble_eq_true rfl)
  have K19 : Keep h0 h19 [] := K16.wr W19 (Or.inr sz_b1)
  have N19 := Fr.snoc X19 N16 g_b1
  obtain ⟨T20, X20, e20, st20⟩ := getS2 X19 hx hZ hown (host := "") (Or.inl (hwi hw 16 rfl)) Via.refl e19 (S_IPV4.ext (own_ext K19)) (g := (mkF m 44 #[iv p1, .unset, .unset, .unset, .unset] [(.int 6), (.ref b1), (.ref b1)])) rfl (hb hby at_44)
  obtain ⟨cl21, Ar21, qa21, Sa21, Na21, Ha21, Ga21⟩ := V19
  have hin21 : ¬ ((6 : Int32) < 0 ∨ cl21.slots.size ≤ ((6 : Int32)).toNatClampNeg) := inb_of Sa21 ⟨by decide, by decide⟩
  obtain ⟨T22, h22, X22, e22, W22, st22⟩ := stR X20 hx hZ e20 Ar21 (j := (6 : Int32)) hin21 rfl (Sto.ofV Ar21 qa21 O1 (Ins.self (E_IPV4.ext (own_ext K19)))) (g := (mkF m 47 #[iv p1, .unset, .unset, .unset, .unset] [(.ref w_IPV4), (.int 6), (.ref b1), (.ref b1)])) rfl rfl (hb hby at_47)
  have V22 : Arv Z h22 b1 k1 (.object "com/example/tagwire/tagwire/tree/TagType") (8 : Int32) [(.ref w_CUSTOM), (.ref w_UINT8), (.ref w_UINT16), (.ref w_UINT32), (.ref w_UINT64), (.ref w_STRING), (.ref w_IPV4), .null] .null := Arv.set Ar21 qa21 Sa21 Na21 Ha21 Ga21 rfl W22 6 rfl (Nat.le_of_ble_eq_true rfl)
  have K22 : Keep h0 h22 [] := K19.wr W22 (Or.inr sz_b1)
  have N22 := Fr.snoc X22 N19 g_b1
  obtain ⟨T23, X23, e23, st23⟩ := getS2 X22 hx hZ hown (host := "") (Or.inl (hwi hw 18 rfl)) Via.refl e22 (S_HASH16.ext (own_ext K22)) (g := (mkF m 51 #[iv p1, .unset, .unset, .unset, .unset] [(.int 7), (.ref b1), (.ref b1)])) rfl (hb hby at_51)
  obtain ⟨cl24, Ar24, qa24, Sa24, Na24, Ha24, Ga24⟩ := V22
  have hin24 : ¬ ((7 : Int32) < 0 ∨ cl24.slots.size ≤ ((7 : Int32)).toNatClampNeg) := inb_of Sa24 ⟨by decide, by decide⟩
  obtain ⟨T25, h25, X25, e25, W25, st25⟩ := stR X23 hx hZ e23 Ar24 (j := (7 : Int32)) hin24 rfl (Sto.ofV Ar24 qa24 O1 (Ins.self (E_HASH16.ext (own_ext K22)))) (g := (mkF m 54 #[iv p1, .unset, .unset, .unset, .unset] [(.ref w_HASH16), (.int 7), (.ref b1), (.ref b1)])) rfl rfl (hb hby at_54)
  have V25 : Arv Z h25 b1 k1 (.object "com/example/tagwire/tagwire/tree/TagType") (8 : Int32) [(.ref w_CUSTOM), (.ref w_UINT8), (.ref w_UINT16), (.ref w_UINT32), (.ref w_UINT64), (.ref w_STRING), (.ref w_IPV4), (.ref w_HASH16)] .null := Arv.set Ar24 qa24 Sa24 Na24 Ha24 Ga24 rfl W25 7 rfl (Nat.le_of_ble_eq_true rfl)
  have K25 : Keep h0 h25 [] := K22.wr W25 (Or.inr sz_b1)
  have N25 := Fr.snoc X25 N22 g_b1
  obtain ⟨i, e_i⟩ : ∃ z : Int32, z = (p1 &&& (7 : Int32)) := ⟨_, rfl⟩
  have pre26 : ∀ t_, Go p e below T25 (mkF m 61 #[iv p1, rv b1, iv i, .unset, .unset] []) t_ → Go p e below s₁ (entryFrame m #[(.int p1)] maxLocals) t_ := fun t_ kt => pre0 _ (by
      subst e_i
      show Go p e below s₁ (mkF m 0 #[iv p1, .unset, .unset, .unset, .unset] []) _
      refine XS.bipush X0.here hx rfl (hb hby at_0) ?_
      show Go p e below s₁ (mkF m 2 #[iv p1, .unset, .unset, .unset, .unset] [(.int 8)]) _
      refine st1 _ ?_
      show Go p e below T1 (mkF m 5 #[iv p1, .unset, .unset, .unset, .unset] [(.ref b1)]) _
      refine XS.dup X1.here hx rfl (hb hby at_5) rfl rfl ?_
      show Go p e below T1 (mkF m 6 #[iv p1, .unset, .unset, .unset, .unset] [(.ref b1), (.ref b1)]) _
      refine XS.iconst X1.here hx rfl (hb hby at_6) ?_
      show Go p e below T1 (mkF m 7 #[iv p1, .unset, .unset, .unset, .unset] [(.int 0), (.ref b1), (.ref b1)]) _
      refine st2 _ ?_
      show Go p e below T2 (mkF m 10 #[iv p1, .unset, .unset, .unset, .unset] [(.ref w_CUSTOM), (.int 0), (.ref b1), (.ref b1)]) _
      refine st4 _ ?_
      show Go p e below T4 (mkF m 11 #[iv p1, .unset, .unset, .unset, .unset] [(.ref b1)]) _
      refine XS.dup X4.here hx rfl (hb hby at_11) rfl rfl ?_
      show Go p e below T4 (mkF m 12 #[iv p1, .unset, .unset, .unset, .unset] [(.ref b1), (.ref b1)]) _
      refine XS.iconst X4.here hx rfl (hb hby at_12) ?_
      show Go p e below T4 (mkF m 13 #[iv p1, .unset, .unset, .unset, .unset] [(.int 1), (.ref b1), (.ref b1)]) _
      refine st5 _ ?_
      show Go p e below T5 (mkF m 16 #[iv p1, .unset, .unset, .unset, .unset] [(.ref w_UINT8), (.int 1), (.ref b1), (.ref b1)]) _
      refine st7 _ ?_
      show Go p e below T7 (mkF m 17 #[iv p1, .unset, .unset, .unset, .unset] [(.ref b1)]) _
      refine XS.dup X7.here hx rfl (hb hby at_17) rfl rfl ?_
      show Go p e below T7 (mkF m 18 #[iv p1, .unset, .unset, .unset, .unset] [(.ref b1), (.ref b1)]) _
      refine XS.iconst X7.here hx rfl (hb hby at_18) ?_
      show Go p e below T7 (mkF m 19 #[iv p1, .unset, .unset, .unset, .unset] [(.int 2), (.ref b1), (.ref b1)]) _
      refine st8 _ ?_
      show Go p e below T8 (mkF m 22 #[iv p1, .unset, .unset, .unset, .unset] [(.ref w_UINT16), (.int 2), (.ref b1), (.ref b1)]) _
      refine st10 _ ?_
      show Go p e below T10 (mkF m 23 #[iv p1, .unset, .unset, .unset, .unset] [(.ref b1)]) _
      refine XS.dup X10.here hx rfl (hb hby at_23) rfl rfl ?_
      show Go p e below T10 (mkF m 24 #[iv p1, .unset, .unset, .unset, .unset] [(.ref b1), (.ref b1)]) _
      refine XS.iconst X10.here hx rfl (hb hby at_24) ?_
      show Go p e below T10 (mkF m 25 #[iv p1, .unset, .unset, .unset, .unset] [(.int 3), (.ref b1), (.ref b1)]) _
      refine st11 _ ?_
      show Go p e below T11 (mkF m 28 #[iv p1, .unset, .unset, .unset, .unset] [(.ref w_UINT32), (.int 3), (.ref b1), (.ref b1)]) _
      refine st13 _ ?_
      show Go p e below T13 (mkF m 29 #[iv p1, .unset, .unset, .unset, .unset] [(.ref b1)]) _
      refine XS.dup X13.here hx rfl (hb hby at_29) rfl rfl ?_
      show Go p e below T13 (mkF m 30 #[iv p1, .unset, .unset, .unset, .unset] [(.ref b1), (.ref b1)]) _
      refine XS.iconst X13.here hx rfl (hb hby at_30) ?_
      show Go p e below T13 (mkF m 31 #[iv p1, .unset, .unset, .unset, .unset] [(.int 4), (.ref b1), (.ref b1)]) _
      refine st14 _ ?_
      show Go p e below T14 (mkF m 34 #[iv p1, .unset, .unset, .unset, .unset] [(.ref w_UINT64), (.int 4), (.ref b1), (.ref b1)]) _
      refine st16 _ ?_
      show Go p e below T16 (mkF m 35 #[iv p1, .unset, .unset, .unset, .unset] [(.ref b1)]) _
      refine XS.dup X16.here hx rfl (hb hby at_35) rfl rfl ?_
      show Go p e below T16 (mkF m 36 #[iv p1, .unset, .unset, .unset, .unset] [(.ref b1), (.ref b1)]) _
      refine XS.iconst X16.here hx rfl (hb hby at_36) ?_
      show Go p e below T16 (mkF m 37 #[iv p1, .unset, .unset, .unset, .unset] [(.int 5), (.ref b1), (.ref b1)]) _
      refine st17 _ ?_
      show Go p e below T17 (mkF m 40 #[iv p1, .unset, .unset, .unset, .unset] [(.ref w_STRING), (.int 5), (.ref b1), (.ref b1)]) _
      refine st19 _ ?_
      show Go p e below T19 (mkF m 41 #[iv p1, .unset, .unset, .unset, .unset] [(.ref b1)]) _
      refine XS.dup X19.here hx rfl (hb hby at_41) rfl rfl ?_
      show Go p e below T19 (mkF m 42 #[iv p1, .unset, .unset, .unset, .unset] [(.ref b1), (.ref b1)]) _
      refine XS.bipush X19.here hx rfl (hb hby at_42) ?_
      show Go p e below T19 (mkF m 44 #[iv p1, .unset, .unset, .unset, .unset] [(.int 6), (.ref b1), (.ref b1)]) _
      refine st20 _ ?_
      show Go p e below T20 (mkF m 47 #[iv p1, .unset, .unset, .unset, .unset] [(.ref w_IPV4), (.int 6), (.ref b1), (.ref b1)]) _
      refine st22 _ ?_
      show Go p e below T22 (mkF m 48 #[iv p1, .unset, .unset, .unset, .unset] [(.ref b1)]) _
      refine XS.dup X22.here hx rfl (hb hby at_48) rfl rfl ?_
      show Go p e below T22 (mkF m 49 #[iv p1, .unset, .unset, .unset, .unset] [(.ref b1), (.ref b1)]) _
      refine XS.bipush X22.here hx rfl (hb hby at_49) ?_
      show Go p e below T22 (mkF m 51 #[iv p1, .unset, .unset, .unset, .unset] [(.int 7), (.ref b1), (.ref b1)]) _
      refine st23 _ ?_
      show Go p e below T23 (mkF m 54 #[iv p1, .unset, .unset, .unset, .unset] [(.ref w_HASH16), (.int 7), (.ref b1), (.ref b1)]) _
      refine st25 _ ?_
      show Go p e below T25 (mkF m 55 #[iv p1, .unset, .unset, .unset, .unset] [(.ref b1)]) _
      refine XS.astoreN X25.here hx rfl (hb hby at_55) rfl rfl (l' := #[iv p1, rv b1, .unset, .unset, .unset]) rfl ?_
      show Go p e below T25 (mkF m 56 #[iv p1, rv b1, .unset, .unset, .unset] []) _
      refine XS.iloadN X25.here hx rfl (hb hby at_56) rfl ?_
      show Go p e below T25 (mkF m 57 #[iv p1, rv b1, .unset, .unset, .unset] [(.int p1)]) _
      refine XS.bipush X25.here hx rfl (hb hby at_57) ?_
      show Go p e below T25 (mkF m 59 #[iv p1, rv b1, .unset, .unset, .unset] [(.int 7), (.int p1)]) _
      refine XS.iand X25.here hx rfl (hb hby at_59) rfl ?_
      show Go p e below T25 (mkF m 60 #[iv p1, rv b1, .unset, .unset, .unset] [(.int (p1 &&& (7 : Int32)))]) _
      refine XS.istoreN X25.here hx rfl (hb hby at_60) rfl (l' := #[iv p1, rv b1, iv (p1 &&& (7 : Int32)), .unset, .unset]) rfl ?_
      show Go p e below T25 (mkF m 61 #[iv p1, rv b1, iv (p1 &&& (7 : Int32)), .unset, .unset] []) _
      exact kt)
  obtain ⟨cl27, Ar27, qa27, Sa27, Na27, Ha27, Ga27⟩ := V25
  have hi8 := own_rng i (by rw [e_i]; exact own_and7 p1)
  have hin_a := inb_of (j := i) Sa27 (by clear e_i; rcases hi8 with rfl | rfl | rfl | rfl | rfl | rfl | rfl | rfl <;> decide)
  obtain ⟨a, at_a, Ea, hiff⟩ : ∃ a : Addr, ([(.ref w_CUSTOM), (.ref w_UINT8), (.ref w_UINT16), (.ref w_UINT32), (.ref w_UINT64), (.ref w_STRING), (.ref w_IPV4), (.ref w_HASH16)] : List Value).getD i.toNatClampNeg .null = .ref a ∧ Exa Z h25 a "com/example/tagwire/tagwire/tree/TagType" ∧ ((a = w_UINT8 ∨ a = w_UINT16 ∨ a = w_UINT32 ∨ a = w_UINT64) ↔ (¬ i < (1 : Int32) ∧ ¬ (4 : Int32) < i)) := by
    clear e_i
    rcases hi8 with rfl | rfl | rfl | rfl | rfl | rfl | rfl | rfl
    · exact ⟨w_CUSTOM, rfl, (E_CUSTOM.ext (own_ext K25)), ⟨fun q => absurd q (by simp [(Fld.ne F_CUSTOM F_UINT8 (by decide)), (Fld.ne F_CUSTOM F_UINT16 (by decide)), (Fld.ne F_CUSTOM F_UINT32 (by decide)), (Fld.ne F_CUSTOM F_UINT64 (by decide))]), fun q => absurd q (by decide)⟩⟩
    · exact ⟨w_UINT8, rfl, (E_UINT8.ext (own_ext K25)), ⟨fun _ => by decide, fun _ => by simp⟩⟩
    · exact ⟨w_UINT16, rfl, (E_UINT16.ext (own_ext K25)), ⟨fun _ => by decide, fun _ => by simp⟩⟩
    · exact ⟨w_UINT32, rfl, (E_UINT32.ext (own_ext K25)), ⟨fun _ => by decide, fun _ => by simp⟩⟩
    · exact ⟨w_UINT64, rfl, (E_UINT64.ext (own_ext K25)), ⟨fun _ => by decide, fun _ => by simp⟩⟩
    · exact ⟨w_STRING, rfl, (E_STRING.ext (own_ext K25)), ⟨fun q => absurd q (by simp [(Fld.ne F_STRING F_UINT8 (by decide)), (Fld.ne F_STRING F_UINT16 (by decide)), (Fld.ne F_STRING F_UINT32 (by decide)), (Fld.ne F_STRING F_UINT64 (by decide))]), fun q => absurd q (by decide)⟩⟩
    · exact ⟨w_IPV4, rfl, (E_IPV4.ext (own_ext K25)), ⟨fun q => absurd q (by simp [(Fld.ne F_IPV4 F_UINT8 (by decide)), (Fld.ne F_IPV4 F_UINT16 (by decide)), (Fld.ne F_IPV4 F_UINT32 (by decide)), (Fld.ne F_IPV4 F_UINT64 (by decide))]), fun q => absurd q (by decide)⟩⟩
    · exact ⟨w_HASH16, rfl, (E_HASH16.ext (own_ext K25)), ⟨fun q => absurd q (by simp [(Fld.ne F_HASH16 F_UINT8 (by decide)), (Fld.ne F_HASH16 F_UINT16 (by decide)), (Fld.ne F_HASH16 F_UINT32 (by decide)), (Fld.ne F_HASH16 F_UINT64 (by decide))]), fun q => absurd q (by decide)⟩⟩
  have pre28 : ∀ t_, Go p e below T25 (mkF m 67 #[iv p1, rv b1, iv i, rv a, .unset] [(.int 1), (.int i)]) t_ → Go p e below s₁ (entryFrame m #[(.int p1)] maxLocals) t_ := fun t_ kt => pre26 _ (by
      show Go p e below T25 (mkF m 61 #[iv p1, rv b1, iv i, .unset, .unset] []) _
      refine XS.aloadN X25.here hx rfl (hb hby at_61) rfl rfl ?_
      show Go p e below T25 (mkF m 62 #[iv p1, rv b1, iv i, .unset, .unset] [(.ref b1)]) _
      refine XS.iloadN X25.here hx rfl (hb hby at_62) rfl ?_
      show Go p e below T25 (mkF m 63 #[iv p1, rv b1, iv i, .unset, .unset] [(.int i), (.ref b1)]) _
      refine X25.aaload hx (j := i) (v := (.ref a)) (by rw [e25]; exact Ar27.1) (State.isArrayOf_alike hZ.alike Ar27.2.1) rfl Ar27.2.2 hin_a (Has.at Ha27 hin_a at_a) (g := (mkF m 63 #[iv p1, rv b1, iv i, .unset, .unset] [(.int i), (.ref b1)])) rfl rfl (hb hby at_63) _ ?_
      show Go p e below T25 (mkF m 64 #[iv p1, rv b1, iv i, .unset, .unset] [(.ref a)]) _
      refine XS.astoreN X25.here hx rfl (hb hby at_64) rfl rfl (l' := #[iv p1, rv b1, iv i, rv a, .unset]) rfl ?_
      show Go p e below T25 (mkF m 65 #[iv p1, rv b1, iv i, rv a, .unset] []) _
      refine XS.iloadN X25.here hx rfl (hb hby at_65) rfl ?_
      show Go p e below T25 (mkF m 66 #[iv p1, rv b1, iv i, rv a, .unset] [(.int i)]) _
      refine XS.iconst X25.here hx rfl (hb hby at_66) ?_
      show Go p e below T25 (mkF m 67 #[iv p1, rv b1, iv i, rv a, .unset] [(.int 1), (.int i)]) _
      exact kt)
  by_cases hc67_29 : i < (1 : Int32)
  · obtain ⟨cq30, kq30, q30a, q30b, q30c⟩ := isOf hZ e25 Ea
    obtain ⟨_, _, ⟨T30, L30, k30, n30⟩, -, X30, ⟨Lc30, hQ30, l30, y30, z30⟩, st30⟩ := X25.virtualBack hx (y := (⟨"com/example/tagwire/tagwire/tree/TagType", "isInteger", "()Z"⟩ : MethodName)) (z := (⟨"com/example/tagwire/tagwire/tree/TagType", "isInteger", "()Z"⟩ : MethodName)) hown (mvT hZ (hwi hw 20 rfl)) (mvT hZ (hwi hw 21 rfl)) (notFace_of_selects (args := #[]) (mvT hZ (hwi hw 23 rfl))) (mvT hZ (hwi hw 23 rfl)) (mvT hZ (hwi hw 22 rfl)) (by decide) (backOf (W := 0) (rmC l Z a0 hw [] a w_CUSTOM w_UINT8 w_UINT16 w_UINT32 w_UINT64 w_STRING w_IPV4 w_HASH16 h25 n0 (Nat.le_trans Z0 K25.1) (Wd_ext hWd0 (own_ext K25))) hZ (hwi hw 24 rfl) (hwi hw 3 rfl) (by decide) (by decide)) q30a q30c (g := (mkF m 83 #[iv p1, rv b1, iv i, rv a, iv 0] [(.ref a)])) rfl (by rw [hml]; rfl) (Steps.refl _) (argsL := []) (rest := []) (lenOf pd_0 rfl) rfl (by show 2 * 0 + _ ≤ _; exact Nat.le_of_eq rfl) (hb hby at_83) (fun _ _ => ⟨rfl, e25, (by decide : 1 + 0 ≤ _), (by decide : 8 + 0 ≤ _)⟩)
    dsimp only [Pt.U, Pt.locs, Pt.cells, Pt.slots] at X30 l30 y30 z30 st30 hQ30
    subst l30 y30 z30
    obtain ⟨hv30, N30q, e30q⟩ := hQ30
    have N30 := Fr.app N25 N30q
    rw [if_neg (fun q => (hiff.mp q).1 hc67_29)] at hv30
    subst hv30
    have pre31 : ∀ t_, Go p e below T30 (mkF m 96 #[iv p1, rv b1, iv i, rv a, iv 0] [(.int 1)]) t_ → Go p e below s₁ (entryFrame m #[(.int p1)] maxLocals) t_ := fun t_ kt => pre28 _ (by
        show Go p e below T25 (mkF m 67 #[iv p1, rv b1, iv i, rv a, .unset] [(.int 1), (.int i)]) _
        refine XS.icmpYes X25.here hx rfl (pc0 := 67) (pc' := 79) rfl (hb hby at_67) rfl (tlt hc67_29).1 (by decide) (by decide) ?_
        show Go p e below T25 (mkF m 79 #[iv p1, rv b1, iv i, rv a, .unset] []) _
        refine XS.iconst X25.here hx rfl (hb hby at_79) ?_
        show Go p e below T25 (mkF m 80 #[iv p1, rv b1, iv i, rv a, .unset] [(.int 0)]) _
        refine XS.istore X25.here hx rfl (hb hby at_80) rfl (l' := #[iv p1, rv b1, iv i, rv a, iv 0]) rfl ?_
        show Go p e below T25 (mkF m 82 #[iv p1, rv b1, iv i, rv a, iv 0] []) _
        refine XS.aloadN X25.here hx rfl (hb hby at_82) rfl rfl ?_
        show Go p e below T25 (mkF m 83 #[iv p1, rv b1, iv i, rv a, iv 0] [(.ref a)]) _
        refine st30.trans ?_
        show Go p e below T30 (mkF m 86 #[iv p1, rv b1, iv i, rv a, iv 0] [(.int 0)]) _
        refine XS.iload X30.here hx rfl (hb hby at_86) rfl ?_
        show Go p e below T30 (mkF m 88 #[iv p1, rv b1, iv i, rv a, iv 0] [(.int 0), (.int 0)]) _
        refine XS.icmpNo X30.here hx rfl (hb hby at_88) rfl (teq ((by decide) : (0 : Int32) = (0 : Int32))).2 ?_
        show Go p e below T30 (mkF m 91 #[iv p1, rv b1, iv i, rv a, iv 0] []) _
        refine XS.iconst X30.here hx rfl (hb hby at_91) ?_
        show Go p e below T30 (mkF m 92 #[iv p1, rv b1, iv i, rv a, iv 0] [(.int 1)]) _
        refine XS.goto X30.here hx rfl (pc0 := 92) (pc' := 96) rfl (hb hby at_92) (by decide) (by decide) ?_
        show Go p e below T30 (mkF m 96 #[iv p1, rv b1, iv i, rv a, iv 0] [(.int 1)]) _
        exact kt)
    obtain ⟨fs, hr, hrun, hended, hW, hsame⟩ := X30.leave (v := some (.int 1)) (fun h => by rw [Bd.returns] at h; cases h)
    refine ⟨_, _, pre31 _ ?_, hrun, hended, _, _, rfl, ?_, ⟨_, rfl⟩, hW, hsame.mono (by decide) (by decide)⟩
    · show Steps p.tables e below (T30.setTop (mkF m 96 #[iv p1, rv b1, iv i, rv a, iv 0] [(.int 1)])) _
      exact retN X30 hx (t := .boolean) Bd.returns (by simp) (hb hby at_96) hr
    · show Q_rmL Z p1 w_CUSTOM w_UINT8 w_UINT16 w_UINT32 w_UINT64 w_STRING w_IPV4 w_HASH16 h0 n0 _ T30.heap _
      rw [e30q]
      exact ⟨rfl, N30⟩
  · have pre32 : ∀ t_, Go p e below T25 (mkF m 72 #[iv p1, rv b1, iv i, rv a, .unset] [(.int 4), (.int i)]) t_ → Go p e below s₁ (entryFrame m #[(.int p1)] maxLocals) t_ := fun t_ kt => pre28 _ (by
        show Go p e below T25 (mkF m 67 #[iv p1, rv b1, iv i, rv a, .unset] [(.int 1), (.int i)]) _
        refine XS.icmpNo X25.here hx rfl (hb hby at_67) rfl (flt hc67_29).1 ?_
        show Go p e below T25 (mkF m 70 #[iv p1, rv b1, iv i, rv a, .unset] []) _
        refine XS.iloadN X25.here hx rfl (hb hby at_70) rfl ?_
        show Go p e below T25 (mkF m 71 #[iv p1, rv b1, iv i, rv a, .unset] [(.int i)]) _
        refine XS.iconst X25.here hx rfl (hb hby at_71) ?_
        show Go p e below T25 (mkF m 72 #[iv p1, rv b1, iv i, rv a, .unset] [(.int 4), (.int i)]) _
        exact kt)
    by_cases hc72_33 : (4 : Int32) < i
    · obtain ⟨cq34, kq34, q34a, q34b, q34c⟩ := isOf hZ e25 Ea
      obtain ⟨_, _, ⟨T34, L34, k34, n34⟩, -, X34, ⟨Lc34, hQ34, l34, y34, z34⟩, st34⟩ := X25.virtualBack hx (y := (⟨"com/example/tagwire/tagwire/tree/TagType", "isInteger", "()Z"⟩ : MethodName)) (z := (⟨"com/example/tagwire/tagwire/tree/TagType", "isInteger", "()Z"⟩ : MethodName)) hown (mvT hZ (hwi hw 20 rfl)) (mvT hZ (hwi hw 21 rfl)) (notFace_of_selects (args := #[]) (mvT hZ (hwi hw 23 rfl))) (mvT hZ (hwi hw 23 rfl)) (mvT hZ (hwi hw 22 rfl)) (by decide) (backOf (W := 0) (rmC l Z a0 hw [] a w_CUSTOM w_UINT8 w_UINT16 w_UINT32 w_UINT64 w_STRING w_IPV4 w_HASH16 h25 n0 (Nat.le_trans Z0 K25.1) (Wd_ext hWd0 (own_ext K25))) hZ (hwi hw 24 rfl) (hwi hw 3 rfl) (by decide) (by decide)) q34a q34c (g := (mkF m 83 #[iv p1, rv b1, iv i, rv a, iv 0] [(.ref a)])) rfl (by rw [hml]; rfl) (Steps.refl _) (argsL := []) (rest := []) (lenOf pd_0 rfl) rfl (by show 2 * 0 + _ ≤ _; exact Nat.le_of_eq rfl) (hb hby at_83) (fun _ _ => ⟨rfl, e25, (by decide : 1 + 0 ≤ _), (by decide : 8 + 0 ≤ _)⟩)
      dsimp only [Pt.U, Pt.locs, Pt.cells, Pt.slots] at X34 l34 y34 z34 st34 hQ34
      subst l34 y34 z34
      obtain ⟨hv34, N34q, e34q⟩ := hQ34
      have N34 := Fr.app N25 N34q
      rw [if_neg (fun q => (hiff.mp q).2 hc72_33)] at hv34
      subst hv34
      have pre35 : ∀ t_, Go p e below T34 (mkF m 96 #[iv p1, rv b1, iv i, rv a, iv 0] [(.int 1)]) t_ → Go p e below s₁ (entryFrame m #[(.int p1)] maxLocals) t_ := fun t_ kt => pre32 _ (by
          show Go p e below T25 (mkF m 72 #[iv p1, rv b1, iv i, rv a, .unset] [(.int 4), (.int i)]) _
          refine XS.icmpYes X25.here hx rfl (pc0 := 72) (pc' := 79) rfl (hb hby at_72) rfl (tlt hc72_33).2.2.1 (by decide) (by decide) ?_
          show Go p e below T25 (mkF m 79 #[iv p1, rv b1, iv i, rv a, .unset] []) _
          refine XS.iconst X25.here hx rfl (hb hby at_79) ?_
          show Go p e below T25 (mkF m 80 #[iv p1, rv b1, iv i, rv a, .unset] [(.int 0)]) _
          refine XS.istore X25.here hx rfl (hb hby at_80) rfl (l' := #[iv p1, rv b1, iv i, rv a, iv 0]) rfl ?_
          show Go p e below T25 (mkF m 82 #[iv p1, rv b1, iv i, rv a, iv 0] []) _
          refine XS.aloadN X25.here hx rfl (hb hby at_82) rfl rfl ?_
          show Go p e below T25 (mkF m 83 #[iv p1, rv b1, iv i, rv a, iv 0] [(.ref a)]) _
          refine st34.trans ?_
          show Go p e below T34 (mkF m 86 #[iv p1, rv b1, iv i, rv a, iv 0] [(.int 0)]) _
          refine XS.iload X34.here hx rfl (hb hby at_86) rfl ?_
          show Go p e below T34 (mkF m 88 #[iv p1, rv b1, iv i, rv a, iv 0] [(.int 0), (.int 0)]) _
          refine XS.icmpNo X34.here hx rfl (hb hby at_88) rfl (teq ((by decide) : (0 : Int32) = (0 : Int32))).2 ?_
          show Go p e below T34 (mkF m 91 #[iv p1, rv b1, iv i, rv a, iv 0] []) _
          refine XS.iconst X34.here hx rfl (hb hby at_91) ?_
          show Go p e below T34 (mkF m 92 #[iv p1, rv b1, iv i, rv a, iv 0] [(.int 1)]) _
          refine XS.goto X34.here hx rfl (pc0 := 92) (pc' := 96) rfl (hb hby at_92) (by decide) (by decide) ?_
          show Go p e below T34 (mkF m 96 #[iv p1, rv b1, iv i, rv a, iv 0] [(.int 1)]) _
          exact kt)
      obtain ⟨fs, hr, hrun, hended, hW, hsame⟩ := X34.leave (v := some (.int 1)) (fun h => by rw [Bd.returns] at h; cases h)
      refine ⟨_, _, pre35 _ ?_, hrun, hended, _, _, rfl, ?_, ⟨_, rfl⟩, hW, hsame.mono (by decide) (by decide)⟩
      · show Steps p.tables e below (T34.setTop (mkF m 96 #[iv p1, rv b1, iv i, rv a, iv 0] [(.int 1)])) _
        exact retN X34 hx (t := .boolean) Bd.returns (by simp) (hb hby at_96) hr
      · show Q_rmL Z p1 w_CUSTOM w_UINT8 w_UINT16 w_UINT32 w_UINT64 w_STRING w_IPV4 w_HASH16 h0 n0 _ T34.heap _
        rw [e34q]
        exact ⟨rfl, N34⟩
    · obtain ⟨cq36, kq36, q36a, q36b, q36c⟩ := isOf hZ e25 Ea
      obtain ⟨_, _, ⟨T36, L36, k36, n36⟩, -, X36, ⟨Lc36, hQ36, l36, y36, z36⟩, st36⟩ := X25.virtualBack hx (y := (⟨"com/example/tagwire/tagwire/tree/TagType", "isInteger", "()Z"⟩ : MethodName)) (z := (⟨"com/example/tagwire/tagwire/tree/TagType", "isInteger", "()Z"⟩ : MethodName)) hown (mvT hZ (hwi hw 20 rfl)) (mvT hZ (hwi hw 21 rfl)) (notFace_of_selects (args := #[]) (mvT hZ (hwi hw 23 rfl))) (mvT hZ (hwi hw 23 rfl)) (mvT hZ (hwi hw 22 rfl)) (by decide) (backOf (W := 0) (rmC l Z a0 hw [] a w_CUSTOM w_UINT8 w_UINT16 w_UINT32 w_UINT64 w_STRING w_IPV4 w_HASH16 h25 n0 (Nat.le_trans Z0 K25.1) (Wd_ext hWd0 (own_ext K25))) hZ (hwi hw 24 rfl) (hwi hw 3 rfl) (by decide) (by decide)) q36a q36c (g := (mkF m 83 #[iv p1, rv b1, iv i, rv a, iv 1] [(.ref a)])) rfl (by rw [hml]; rfl) (Steps.refl _) (argsL := []) (rest := []) (lenOf pd_0 rfl) rfl (by show 2 * 0 + _ ≤ _; exact Nat.le_of_eq rfl) (hb hby at_83) (fun _ _ => ⟨rfl, e25, (by decide : 1 + 0 ≤ _), (by decide : 8 + 0 ≤ _)⟩)
      dsimp only [Pt.U, Pt.locs, Pt.cells, Pt.slots] at X36 l36 y36 z36 st36 hQ36
      subst l36 y36 z36
      obtain ⟨hv36, N36q, e36q⟩ := hQ36
      have N36 := Fr.app N25 N36q
      rw [if_pos (hiff.mpr ⟨hc67_29, hc72_33⟩)] at hv36
      subst hv36
      have pre37 : ∀ t_, Go p e below T36 (mkF m 96 #[iv p1, rv b1, iv i, rv a, iv 1] [(.int 1)]) t_ → Go p e below s₁ (entryFrame m #[(.int p1)] maxLocals) t_ := fun t_ kt => pre32 _ (by
          show Go p e below T25 (mkF m 72 #[iv p1, rv b1, iv i, rv a, .unset] [(.int 4), (.int i)]) _
          refine XS.icmpNo X25.here hx rfl (hb hby at_72) rfl (flt hc72_33).2.2.1 ?_
          show Go p e below T25 (mkF m 75 #[iv p1, rv b1, iv i, rv a, .unset] []) _
          refine XS.iconst X25.here hx rfl (hb hby at_75) ?_
          show Go p e below T25 (mkF m 76 #[iv p1, rv b1, iv i, rv a, .unset] [(.int 1)]) _
          refine XS.goto X25.here hx rfl (pc0 := 76) (pc' := 80) rfl (hb hby at_76) (by decide) (by decide) ?_
          show Go p e below T25 (mkF m 80 #[iv p1, rv b1, iv i, rv a, .unset] [(.int 1)]) _
          refine XS.istore X25.here hx rfl (hb hby at_80) rfl (l' := #[iv p1, rv b1, iv i, rv a, iv 1]) rfl ?_
          show Go p e below T25 (mkF m 82 #[iv p1, rv b1, iv i, rv a, iv 1] []) _
          refine XS.aloadN X25.here hx rfl (hb hby at_82) rfl rfl ?_
          show Go p e below T25 (mkF m 83 #[iv p1, rv b1, iv i, rv a, iv 1] [(.ref a)]) _
          refine st36.trans ?_
          show Go p e below T36 (mkF m 86 #[iv p1, rv b1, iv i, rv a, iv 1] [(.int 1)]) _
          refine XS.iload X36.here hx rfl (hb hby at_86) rfl ?_
          show Go p e below T36 (mkF m 88 #[iv p1, rv b1, iv i, rv a, iv 1] [(.int 1), (.int 1)]) _
          refine XS.icmpNo X36.here hx rfl (hb hby at_88) rfl (teq ((by decide) : (1 : Int32) = (1 : Int32))).2 ?_
          show Go p e below T36 (mkF m 91 #[iv p1, rv b1, iv i, rv a, iv 1] []) _
          refine XS.iconst X36.here hx rfl (hb hby at_91) ?_
          show Go p e below T36 (mkF m 92 #[iv p1, rv b1, iv i, rv a, iv 1] [(.int 1)]) _
          refine XS.goto X36.here hx rfl (pc0 := 92) (pc' := 96) rfl (hb hby at_92) (by decide) (by decide) ?_
          show Go p e below T36 (mkF m 96 #[iv p1, rv b1, iv i, rv a, iv 1] [(.int 1)]) _
          exact kt)
      obtain ⟨fs, hr, hrun, hended, hW, hsame⟩ := X36.leave (v := some (.int 1)) (fun h => by rw [Bd.returns] at h; cases h)
      refine ⟨_, _, pre37 _ ?_, hrun, hended, _, _, rfl, ?_, ⟨_, rfl⟩, hW, hsame.mono (by decide) (by decide)⟩
      · show Steps p.tables e below (T36.setTop (mkF m 96 #[iv p1, rv b1, iv i, rv a, iv 1] [(.int 1)])) _
        exact retN X36 hx (t := .boolean) Bd.returns (by simp) (hb hby at_96) hr
      · show Q_rmL Z p1 w_CUSTOM w_UINT8 w_UINT16 w_UINT32 w_UINT64 w_STRING w_IPV4 w_HASH16 h0 n0 _ T36.heap _
        rw [e36q]
        exact ⟨rfl, N36⟩
set_option maxRecDepth 65536 in
set_option maxHeartbeats 40000000 in
theorem comes_1 {Post : Tables → Env → Array Value → State → Outcome → State → Prop} (hpost : ∀ tb e args s v u, (limb_1_1.after args s (.returned v) u = true ∧ limb_1_2.after args s (.returned v) u = true ∧ True) → FrameEnd s (.returned v) u (Jvm.fieldLocs frame_1_writes args s ++ Jvm.arrayLocs frame_1_arrays args s ++ Jvm.staticLocs frame_1_statics s) 16 128 → Post tb e args s (.returned v) u) :
    ArmFor flags0 classFile x code maxLocals ret World_1 tables_1 room_1 Calls_1 rest_1 Pre_1 Post := by
  intro l hfl _ _ p e ha hc hk s m args below hf hA hF happ hP
  obtain ⟨hcalls, hrest, hpre⟩ := hP
  obtain ⟨-, -, -, hnamed, -, -, -, hat⟩ := (Spec.applies_iff hf).mp happ
  obtain ⟨hg, hn⟩ := and_e (Cond.before_iff.mp (show (Jvm.Cond.and given_1 narrow_1).before args s = true from hpre))
  obtain ⟨g1, g2⟩ := and_e hg
  obtain ⟨w0, rfl⟩ : ∃ w0 : Value, args = #[w0] := by
    have hs : args.size = 1 := by simpa [Cond.value, given_1] using g1
    obtain ⟨L⟩ := args
    match L, hs with
    | [w0], _ => exact ⟨w0, rfl⟩
  have hw := fun d (hd : d ∈ tables_1) => atoms_spec (ws := Jvm.Cond.code x code maxLocals ret :: tables_1) hat d (List.mem_cons_of_mem _ hd)
  have hfit : Fit s := fun {y c} hc i hi => by
    obtain ⟨ha, rfl⟩ := Array.getElem?_eq_some_iff.mp hc
    have q := List.all_eq_true.mp ((Array.all_eq_true_iff_forall_mem.mp hF) _ (Array.getElem_mem ha)) i (List.mem_range.mpr hi)
    simpa [Array.getElem?_eq_getElem hi] using q
  obtain ⟨i0, ei0⟩ := is_v g2
  obtain rfl : w0 = (.int i0) := Option.some.inj ei0
  obtain ⟨g3, g4⟩ := and_e hn
  obtain ⟨g5, g6⟩ := and_e g4
  obtain ⟨g7, g8⟩ := and_e g6
  obtain ⟨g9, g10⟩ := and_e g8
  obtain ⟨g11, g12⟩ := and_e g10
  obtain ⟨g13, g14⟩ := and_e g12
  obtain ⟨g15, g16⟩ := and_e g14
  obtain ⟨g17, g18⟩ := and_e g16
  obtain ⟨g19, g20⟩ := and_e g18
  obtain ⟨g21, g22⟩ := and_e g20
  obtain ⟨g23, g24⟩ := and_e g22
  obtain ⟨g25, g26⟩ := and_e g24
  obtain ⟨g27, g28⟩ := and_e g26
  obtain ⟨g29, g30⟩ := and_e g28
  obtain ⟨g31, g32⟩ := and_e g30
  obtain ⟨w_CUSTOM, ev_CUSTOM⟩ := exa_v g3
  have E_CUSTOM : Exa s s.heap w_CUSTOM "com/example/tagwire/tagwire/tree/TagType" := Exa.start ev_CUSTOM g3
  have S_CUSTOM : Sta s s.heap "com/example/tagwire/tagwire/tree/TagType" "CUSTOM" "Lcom/example/tagwire/tagwire/tree/TagType;" (.ref w_CUSTOM) := Sta.start ev_CUSTOM (Or.inr ⟨(hwi hw 3 rfl), (hwi hw 4 rfl)⟩)
  obtain ⟨w_UINT8, ev_UINT8⟩ := exa_v g5
  have E_UINT8 : Exa s s.heap w_UINT8 "com/example/tagwire/tagwire/tree/TagType" := Exa.start ev_UINT8 g5
  have S_UINT8 : Sta s s.heap "com/example/tagwire/tagwire/tree/TagType" "UINT8" "Lcom/example/tagwire/tagwire/tree/TagType;" (.ref w_UINT8) := Sta.start ev_UINT8 (Or.inr ⟨(hwi hw 3 rfl), (hwi hw 7 rfl)⟩)
  obtain ⟨w_UINT16, ev_UINT16⟩ := exa_v g7
  have E_UINT16 : Exa s s.heap w_UINT16 "com/example/tagwire/tagwire/tree/TagType" := Exa.start ev_UINT16 g7
  have S_UINT16 : Sta s s.heap "com/example/tagwire/tagwire/tree/TagType" "UINT16" "Lcom/example/tagwire/tagwire/tree/TagType;" (.ref w_UINT16) := Sta.start ev_UINT16 (Or.inr ⟨(hwi hw 3 rfl), (hwi hw 9 rfl)⟩)
  obtain ⟨w_UINT32, ev_UINT32⟩ := exa_v g9
  have E_UINT32 : Exa s s.heap w_UINT32 "com/example/tagwire/tagwire/tree/TagType" := Exa.start ev_UINT32 g9
  have S_UINT32 : Sta s s.heap "com/example/tagwire/tagwire/tree/TagType" "UINT32" "Lcom/example/tagwire/tagwire/tree/TagType;" (.ref w_UINT32) := Sta.start ev_UINT32 (Or.inr ⟨(hwi hw 3 rfl), (hwi hw 11 rfl)⟩)
  obtain ⟨w_UINT64, ev_UINT64⟩ := exa_v g11
  have E_UINT64 : Exa s s.heap w_UINT64 "com/example/tagwire/tagwire/tree/TagType" := Exa.start ev_UINT64 g11
  have S_UINT64 : Sta s s.heap "com/example/tagwire/tagwire/tree/TagType" "UINT64" "Lcom/example/tagwire/tagwire/tree/TagType;" (.ref w_UINT64) := Sta.start ev_UINT64 (Or.inr ⟨(hwi hw 3 rfl), (hwi hw 13 rfl)⟩)
  obtain ⟨w_STRING, ev_STRING⟩ := exa_v g13
  have E_STRING : Exa s s.heap w_STRING "com/example/tagwire/tagwire/tree/TagType" := Exa.start ev_STRING g13
  have S_STRING : Sta s s.heap "com/example/tagwire/tagwire/tree/TagType" "STRING" "Lcom/example/tagwire/tagwire/tree/TagType;" (.ref w_STRING) := Sta.start ev_STRING (Or.inr ⟨(hwi hw 3 rfl), (hwi hw 15 rfl)⟩)
  obtain ⟨w_IPV4, ev_IPV4⟩ := exa_v g15
  have E_IPV4 : Exa s s.heap w_IPV4 "com/example/tagwire/tagwire/tree/TagType" := Exa.start ev_IPV4 g15
  have S_IPV4 : Sta s s.heap "com/example/tagwire/tagwire/tree/TagType" "IPV4" "Lcom/example/tagwire/tagwire/tree/TagType;" (.ref w_IPV4) := Sta.start ev_IPV4 (Or.inr ⟨(hwi hw 3 rfl), (hwi hw 17 rfl)⟩)
  obtain ⟨w_HASH16, ev_HASH16⟩ := exa_v g17
  have E_HASH16 : Exa s s.heap w_HASH16 "com/example/tagwire/tagwire/tree/TagType" := Exa.start ev_HASH16 g17
  have S_HASH16 : Sta s s.heap "com/example/tagwire/tagwire/tree/TagType" "HASH16" "Lcom/example/tagwire/tagwire/tree/TagType;" (.ref w_HASH16) := Sta.start ev_HASH16 (Or.inr ⟨(hwi hw 3 rfl), (hwi hw 19 rfl)⟩)
  have F_CUSTOM : Fld s s.heap w_CUSTOM "java/lang/Enum" "ordinal" "I" (.int (0 : Int32)) := Fld.start ((fld_at ev_CUSTOM).symm.trans (eqv_i (Term.int_eval _) g19))
  have F_UINT8 : Fld s s.heap w_UINT8 "java/lang/Enum" "ordinal" "I" (.int (1 : Int32)) := Fld.start ((fld_at ev_UINT8).symm.trans (eqv_i (Term.int_eval _) g21))
  have F_UINT16 : Fld s s.heap w_UINT16 "java/lang/Enum" "ordinal" "I" (.int (2 : Int32)) := Fld.start ((fld_at ev_UINT16).symm.trans (eqv_i (Term.int_eval _) g23))
  have F_UINT32 : Fld s s.heap w_UINT32 "java/lang/Enum" "ordinal" "I" (.int (3 : Int32)) := Fld.start ((fld_at ev_UINT32).symm.trans (eqv_i (Term.int_eval _) g25))
  have F_UINT64 : Fld s s.heap w_UINT64 "java/lang/Enum" "ordinal" "I" (.int (4 : Int32)) := Fld.start ((fld_at ev_UINT64).symm.trans (eqv_i (Term.int_eval _) g27))
  have F_IPV4 : Fld s s.heap w_IPV4 "java/lang/Enum" "ordinal" "I" (.int (6 : Int32)) := Fld.start ((fld_at ev_IPV4).symm.trans (eqv_i (Term.int_eval _) g29))
  have F_HASH16 : Fld s s.heap w_HASH16 "java/lang/Enum" "ordinal" "I" (.int (7 : Int32)) := Fld.start ((fld_at ev_HASH16).symm.trans (eqv_i (Term.int_eval _) g31))
  have F_STRING : Fld s s.heap w_STRING "java/lang/Enum" "ordinal" "I" (.int (5 : Int32)) := Fld.start ((fld_at ev_STRING).symm.trans (eqv_i (Term.int_eval _) g32))
  obtain ⟨n, o, h1, h2, h3, _, L, rfl, ⟨rfl, N⟩, hq⟩ := rmL l s _ hw tables_1 i0 w_CUSTOM w_UINT8 w_UINT16 w_UINT32 w_UINT64 w_STRING w_IPV4 w_HASH16 s.heap s.heap.size (Nat.le_refl _) ⟨⟨S_CUSTOM, E_CUSTOM, F_CUSTOM⟩, ⟨S_UINT8, E_UINT8, F_UINT8⟩, ⟨S_UINT16, E_UINT16, F_UINT16⟩, ⟨S_UINT32, E_UINT32, F_UINT32⟩, ⟨S_UINT64, E_UINT64, F_UINT64⟩, ⟨S_STRING, E_STRING, F_STRING⟩, ⟨S_IPV4, E_IPV4, F_IPV4⟩, ⟨S_HASH16, E_HASH16, F_HASH16⟩⟩ p e ha hc hk s m _ below hf ((Spec.applies_iff_loose hf).mp happ).1 ⟨rfl, State.Warmed39.refl s, rfl⟩ trivial
  refine ⟨n, _, h1, h2, h3, hpost _ _ _ _ _ _ ⟨Cond.after_iff.mpr rfl, Cond.after_iff.mpr (eq_i res_at (Term.int_eval (1)) rfl), trivial⟩ ⟨hq.1, hq.2.1, (hq.2.2.sift fun y hy => Or.inr (N y hy)).mono (by decide) (by decide)⟩⟩
theorem main_1_1 : Claimed_1_1 := comes_1 fun _ _ _ _ _ _ h hF => ⟨h.1, hF⟩
theorem main_1_2 : Claimed_1_2 := comes_1 fun _ _ _ _ _ _ h hF => ⟨h.2.1, hF⟩
end Jvm.Pilot.@@N@@
namespace Jvm.Pilot.@@N@@
open Jvm Jvm.ClassFile Sem Op Lib Jvm.Free Jvm.Stand Jvm.Pilot.@@N@@.Jvm.D
/-! MADE BY PROGRAM (witnessworld.py) out of the Statement's table words and the real class files: 13 classes; the members and pool entries that the words name. The judged class is class 1, her method 1. -/
namespace start1
open Jvm.ClassFile
def u (s : String) : CpInfo := .utf8 (stringToUtf16 s)
/-- a pool by its gaps: so many unusable entries, then the entry; so many at the end -/
def gap : Nat → List CpInfo → List CpInfo
  | 0, r => r
  | n + 1, r => .unusable :: gap n r
def poolList (es : List (Nat × CpInfo)) (last : Nat) : List CpInfo := es.foldr (fun e r => gap e.1 (e.2 :: r)) (gap last [])
def pool (es : List (Nat × CpInfo)) (last : Nat) : Array CpInfo := ⟨poolList es last⟩
def fileOf (pool : Array CpInfo) (this : Nat) (attrs : Array Attribute := #[]) (ms : Array MethodInfo := #[]) (fl : Nat := 33) (sup : Nat := 0) (ifs : Array Nat := #[]) (fds : Array FieldInfo := #[]) : ClassFile where
  minorVersion := 0
  majorVersion := 65
  constantPool := pool
  accessFlags := fl
  thisClass := this
  superClass := sup
  interfaces := ifs
  fields := fds
  methods := ms
  attributes := attrs
def plain (name : String) (sup : Option ClassId) : Class where
  name := name
  kind := .ordinary
  loader := none
  accessFlags := 33
  super := sup
  interfaces := #[]
  cf := none
  fields := #[]
  methods := #[]
  instanceTypes := #[]
  staticTypes := #[]
  resolved := #[]
  callSites := []
  init := .initialized
  statics := none
  mirror := none

def pool0 : Array CpInfo := pool [(5, u "<init>"), (0, u "()V"), (1, .class_ 10), (1, u "java/lang/Object")] 113

def k0m0 : Method := { name := "<init>", desc := "()V", sig := { parameters := [], returnType := none }, accessFlags := 1, code := none }
/-- java/lang/Object -/
def k0 : Class := { plain "java/lang/Object" none with
  accessFlags := 33
  interfaces := #[]
  cf := some (fileOf pool0 8 #[] #[{ accessFlags := 1, nameIndex := 5, descriptorIndex := 6, attributes := #[] }] 33 0 #[] #[])
  fields := #[]
  methods := #[k0m0]
  instanceTypes := #[]
  staticTypes := #[]
  resolved := Array.replicate 124 none
  statics := none }

def pool1 : Array CpInfo := pool [(2, .class_ 4), (1, u "java/lang/Object"), (0, u "<init>"), (0, u "()V"), (0, .class_ 8), (0, u "com/example/tagwire/tagwire/tree/TagType"), (0, .fieldref 7 10), (0, .nameAndType 11 12), (0, u "CUSTOM"), (0, u "Lcom/example/tagwire/tagwire/tree/TagType;"), (0, .fieldref 7 14), (0, .nameAndType 15 12), (0, u "UINT8"), (0, .fieldref 7 17), (0, .nameAndType 18 12), (0, u "UINT16"), (0, .fieldref 7 20), (0, .nameAndType 21 12), (0, u "UINT32"), (0, .fieldref 7 23), (0, .nameAndType 24 12), (0, u "UINT64"), (0, .fieldref 7 26), (0, .nameAndType 27 12), (0, u "STRING"), (0, .fieldref 7 29), (0, .nameAndType 30 12), (0, u "IPV4"), (0, .fieldref 7 32), (0, .nameAndType 33 12), (0, u "HASH16"), (0, .methodref 7 35), (0, .nameAndType 36 37), (0, u "isInteger"), (0, u "()Z"), (0, .class_ 39), (0, u "com/example/tagwire/tagwire/tree/TagTypeIsIntegerPinLaw"), (2, u "law"), (0, u "(I)Z")] 5

def k1m0 : Method := { name := "<init>", desc := "()V", sig := { parameters := [], returnType := none }, accessFlags := 1, code := none }
def k1c1 : Code := { maxStack := 4, maxLocals := 5, code := code, exceptionTable := #[], attributes := #[] }
def k1m1 : Method := { name := "law", desc := "(I)Z", sig := { parameters := [.int], returnType := some .boolean }, accessFlags := 9, code := some k1c1 }
/-- com/example/tagwire/tagwire/tree/TagTypeIsIntegerPinLaw -/
def k1 : Class := { plain "com/example/tagwire/tagwire/tree/TagTypeIsIntegerPinLaw" (some 0) with
  accessFlags := 49
  interfaces := #[]
  cf := some (fileOf pool1 38 #[] #[{ accessFlags := 1, nameIndex := 5, descriptorIndex := 6, attributes := #[] }, { accessFlags := 9, nameIndex := 42, descriptorIndex := 43, attributes := #[] }] 49 2 #[] #[])
  fields := #[]
  methods := #[k1m0, k1m1]
  instanceTypes := #[]
  staticTypes := #[]
  resolved := Array.replicate 49 none
  statics := none }

def pool2 : Array CpInfo := pool [(1, .class_ 2), (0, u "java/lang/constant/Constable"), (0, .class_ 4), (0, u "java/lang/Object")] 6

/-- java/lang/constant/Constable -/
def k2 : Class := { plain "java/lang/constant/Constable" (some 0) with
  accessFlags := 1537
  interfaces := #[]
  cf := some (fileOf pool2 1 #[] #[] 1537 3 #[] #[])
  fields := #[]
  methods := #[]
  instanceTypes := #[]
  staticTypes := #[]
  resolved := Array.replicate 11 none
  statics := none }

def pool3 : Array CpInfo := pool [(1, .class_ 2), (0, u "java/lang/Comparable"), (0, .class_ 4), (0, u "java/lang/Object")] 7

/-- java/lang/Comparable -/
def k3 : Class := { plain "java/lang/Comparable" (some 0) with
  accessFlags := 1537
  interfaces := #[]
  cf := some (fileOf pool3 1 #[] #[] 1537 3 #[] #[])
  fields := #[]
  methods := #[]
  instanceTypes := #[]
  staticTypes := #[]
  resolved := Array.replicate 12 none
  statics := none }

def pool4 : Array CpInfo := pool [(1, .class_ 2), (0, u "java/io/Serializable"), (0, .class_ 4), (0, u "java/lang/Object")] 2

/-- java/io/Serializable -/
def k4 : Class := { plain "java/io/Serializable" (some 0) with
  accessFlags := 1537
  interfaces := #[]
  cf := some (fileOf pool4 1 #[] #[] 1537 3 #[] #[])
  fields := #[]
  methods := #[]
  instanceTypes := #[]
  staticTypes := #[]
  resolved := Array.replicate 7 none
  statics := none }

def pool5 : Array CpInfo := pool [(2, .class_ 4), (1, u "java/lang/Enum"), (0, u "name"), (0, u "Ljava/lang/String;"), (2, u "ordinal"), (0, u "I"), (1, .class_ 14), (1, u "java/lang/Object"), (4, u "hash"), (86, .class_ 108), (1, u "java/lang/Enum$EnumDesc"), (2, .class_ 112), (0, u "java/lang/constant/Constable"), (0, .class_ 114), (0, u "java/lang/Comparable"), (0, .class_ 116), (0, u "java/io/Serializable")] 87

/-- java/lang/Enum -/
def k5 : Class := { plain "java/lang/Enum" (some 0) with
  accessFlags := 1057
  interfaces := #[2, 3, 4]
  cf := some (fileOf pool5 2 #[.nestMembers #[106]] #[] 1057 12 #[111, 113, 115] #[{ accessFlags := 18, nameIndex := 5, descriptorIndex := 6, attributes := #[] }, { accessFlags := 18, nameIndex := 9, descriptorIndex := 10, attributes := #[] }, { accessFlags := 2, nameIndex := 19, descriptorIndex := 10, attributes := #[] }])
  fields := #[{ name := "name", type := (.object "java/lang/String"), accessFlags := 18, slot := 0, constantValue := 0 }, { name := "ordinal", type := .int, accessFlags := 18, slot := 1, constantValue := 0 }, { name := "hash", type := .int, accessFlags := 2, slot := 2, constantValue := 0 }]
  methods := #[]
  instanceTypes := #[(.object "java/lang/String"), .int, .int]
  staticTypes := #[]
  resolved := Array.replicate 204 none
  statics := none }

def pool6 : Array CpInfo := pool [(1, .class_ 2), (0, u "com/example/tagwire/tagwire/tree/TagType"), (2, u "CUSTOM"), (0, u "Lcom/example/tagwire/tagwire/tree/TagType;"), (0, .fieldref 1 8), (0, .nameAndType 9 6), (0, u "UINT8"), (0, .fieldref 1 11), (0, .nameAndType 12 6), (0, u "UINT16"), (0, .fieldref 1 14), (0, .nameAndType 15 6), (0, u "UINT32"), (0, .fieldref 1 17), (0, .nameAndType 18 6), (0, u "UINT64"), (2, u "STRING"), (2, u "IPV4"), (2, u "HASH16"), (2, u "$VALUES"), (0, u "[Lcom/example/tagwire/tagwire/tree/TagType;"), (6, .class_ 40), (1, u "java/lang/Enum"), (8, u "code"), (0, u "I"), (2, u "word"), (0, u "Ljava/lang/String;"), (2, u "width"), (2, u "BY_CODE"), (12, u "WORDS"), (0, u "[Ljava/lang/String;"), (84, u "isInteger"), (0, u "()Z")] 46

def k6c0 : Code := { maxStack := 2, maxLocals := 1, code := prog_60_method_9_code, exceptionTable := #[], attributes := #[] }
def k6m0 : Method := { name := "isInteger", desc := "()Z", sig := { parameters := [], returnType := some .boolean }, accessFlags := 1, code := some k6c0 }
/-- com/example/tagwire/tagwire/tree/TagType -/
def k6 : Class := { plain "com/example/tagwire/tagwire/tree/TagType" (some 5) with
  accessFlags := 16433
  interfaces := #[]
  cf := some (fileOf pool6 1 #[] #[{ accessFlags := 1, nameIndex := 159, descriptorIndex := 160, attributes := #[] }] 16433 38 #[] #[{ accessFlags := 16409, nameIndex := 5, descriptorIndex := 6, attributes := #[] }, { accessFlags := 16409, nameIndex := 9, descriptorIndex := 6, attributes := #[] }, { accessFlags := 16409, nameIndex := 12, descriptorIndex := 6, attributes := #[] }, { accessFlags := 16409, nameIndex := 15, descriptorIndex := 6, attributes := #[] }, { accessFlags := 16409, nameIndex := 18, descriptorIndex := 6, attributes := #[] }, { accessFlags := 16409, nameIndex := 21, descriptorIndex := 6, attributes := #[] }, { accessFlags := 16409, nameIndex := 24, descriptorIndex := 6, attributes := #[] }, { accessFlags := 16409, nameIndex := 27, descriptorIndex := 6, attributes := #[] }, { accessFlags := 26, nameIndex := 60, descriptorIndex := 31, attributes := #[] }, { accessFlags := 26, nameIndex := 73, descriptorIndex := 74, attributes := #[] }, { accessFlags := 18, nameIndex := 49, descriptorIndex := 50, attributes := #[] }, { accessFlags := 18, nameIndex := 53, descriptorIndex := 54, attributes := #[] }, { accessFlags := 18, nameIndex := 57, descriptorIndex := 50, attributes := #[] }, { accessFlags := 4122, nameIndex := 30, descriptorIndex := 31, attributes := #[] }])
  fields := #[{ name := "CUSTOM", type := (.object "com/example/tagwire/tagwire/tree/TagType"), accessFlags := 16409, slot := 0, constantValue := 0 }, { name := "UINT8", type := (.object "com/example/tagwire/tagwire/tree/TagType"), accessFlags := 16409, slot := 1, constantValue := 0 }, { name := "UINT16", type := (.object "com/example/tagwire/tagwire/tree/TagType"), accessFlags := 16409, slot := 2, constantValue := 0 }, { name := "UINT32", type := (.object "com/example/tagwire/tagwire/tree/TagType"), accessFlags := 16409, slot := 3, constantValue := 0 }, { name := "UINT64", type := (.object "com/example/tagwire/tagwire/tree/TagType"), accessFlags := 16409, slot := 4, constantValue := 0 }, { name := "STRING", type := (.object "com/example/tagwire/tagwire/tree/TagType"), accessFlags := 16409, slot := 5, constantValue := 0 }, { name := "IPV4", type := (.object "com/example/tagwire/tagwire/tree/TagType"), accessFlags := 16409, slot := 6, constantValue := 0 }, { name := "HASH16", type := (.object "com/example/tagwire/tagwire/tree/TagType"), accessFlags := 16409, slot := 7, constantValue := 0 }, { name := "BY_CODE", type := (.array (.object "com/example/tagwire/tagwire/tree/TagType")), accessFlags := 26, slot := 8, constantValue := 0 }, { name := "WORDS", type := (.array (.object "java/lang/String")), accessFlags := 26, slot := 9, constantValue := 0 }, { name := "code", type := .int, accessFlags := 18, slot := 3, constantValue := 0 }, { name := "word", type := (.object "java/lang/String"), accessFlags := 18, slot := 4, constantValue := 0 }, { name := "width", type := .int, accessFlags := 18, slot := 5, constantValue := 0 }, { name := "$VALUES", type := (.array (.object "com/example/tagwire/tagwire/tree/TagType")), accessFlags := 4122, slot := 10, constantValue := 0 }]
  methods := #[k6m0]
  instanceTypes := #[(.object "java/lang/String"), .int, .int, .int, (.object "java/lang/String"), .int]
  staticTypes := #[(.object "com/example/tagwire/tagwire/tree/TagType"), (.object "com/example/tagwire/tagwire/tree/TagType"), (.object "com/example/tagwire/tagwire/tree/TagType"), (.object "com/example/tagwire/tagwire/tree/TagType"), (.object "com/example/tagwire/tagwire/tree/TagType"), (.object "com/example/tagwire/tagwire/tree/TagType"), (.object "com/example/tagwire/tagwire/tree/TagType"), (.object "com/example/tagwire/tagwire/tree/TagType"), (.array (.object "com/example/tagwire/tagwire/tree/TagType")), (.array (.object "java/lang/String")), (.array (.object "com/example/tagwire/tagwire/tree/TagType"))]
  resolved := Array.replicate 207 none
  statics := some 0 }

def pool7 : Array CpInfo := pool [(1, u "java/lang/Cloneable"), (0, .class_ 1), (0, u "java/lang/Object"), (0, .class_ 3)] 3

/-- java/lang/Cloneable -/
def k7 : Class := { plain "java/lang/Cloneable" (some 0) with
  accessFlags := 1537
  interfaces := #[]
  cf := some (fileOf pool7 2 #[] #[] 1537 4 #[] #[])
  fields := #[]
  methods := #[]
  instanceTypes := #[]
  staticTypes := #[]
  resolved := Array.replicate 8 none
  statics := none }

/-- the primitive byte -/
def k8 : Class := { plain "byte" none with kind := .primitive 'B', accessFlags := 0x411 }
/-- [B -/
def k9 : Class := { plain "[B" (some 0) with kind := .array 8 .byte, interfaces := #[7, 4], accessFlags := 1041 }

/-- the primitive int -/
def k10 : Class := { plain "int" none with kind := .primitive 'I', accessFlags := 0x411 }
/-- [I -/
def k11 : Class := { plain "[I" (some 0) with kind := .array 10 .int, interfaces := #[7, 4], accessFlags := 1041 }

/-- [Lcom/example/tagwire/tagwire/tree/TagType; -/
def k12 : Class := { plain "[Lcom/example/tagwire/tagwire/tree/TagType;" (some 0) with kind := .array 6 (.object "com/example/tagwire/tagwire/tree/TagType"), interfaces := #[7, 4], accessFlags := 1041 }

def heap : Heap := #[{ cls := 6, slots := #[.ref 1, .ref 2, .ref 3, .ref 4, .ref 5, .ref 6, .ref 7, .ref 8, .null, .null, .null], vm := .statics 6 },
  { cls := 6, slots := #[.null, .int 0, .int 0, .int 0, .null, .int 0], vm := .none },
  { cls := 6, slots := #[.null, .int 1, .int 0, .int 0, .null, .int 0], vm := .none },
  { cls := 6, slots := #[.null, .int 2, .int 0, .int 0, .null, .int 0], vm := .none },
  { cls := 6, slots := #[.null, .int 3, .int 0, .int 0, .null, .int 0], vm := .none },
  { cls := 6, slots := #[.null, .int 4, .int 0, .int 0, .null, .int 0], vm := .none },
  { cls := 6, slots := #[.null, .int 5, .int 0, .int 0, .null, .int 0], vm := .none },
  { cls := 6, slots := #[.null, .int 6, .int 0, .int 0, .null, .int 0], vm := .none },
  { cls := 6, slots := #[.null, .int 7, .int 0, .int 0, .null, .int 0], vm := .none }]
def classes : Array Class := #[k0, k1, k2, k3, k4, k5, k6, k7, k8, k9, k10, k11, k12]
def interned : List (Array UInt16 × Addr) := []
def slotsUsed : Nat := 59
def theMethod : MethodId := ⟨1, 1⟩
def args0 : Array Value := #[.int 5]
def aboutOver (below : List Frame) : State where
  vm := { classes := classes, interned := interned.toArray }
  heap := heap
  slotsUsed := slotsUsed
  threads := #[{ frames := .invoking theMethod args0 :: below }]
def below0 : List Frame := [.native { method := ⟨0, 0⟩, args := #[] }]
def about1 : State := aboutOver below0
def p0 : Program := .bare "" "" ""
def e0 : Env := launch0.env 0 0 0
theorem w_frames : about1.frames = Frame.invoking theMethod args0 :: below0 := rfl
set_option maxRecDepth 65536 in
theorem w_args : argsFit about1.vm theMethod args0 = true := by decide +kernel
set_option maxRecDepth 65536 in
theorem w_heap : heapFits about1 = true := by decide +kernel
set_option maxRecDepth 65536 in
theorem w_runnable : about1.curStatus? = some .runnable := by decide +kernel
set_option maxRecDepth 65536 in
theorem w_alone : about1.alone = true := by decide +kernel
set_option maxRecDepth 65536 in
theorem w_named : about1.methodNamed? x = some theMethod := by decide +kernel
set_option maxRecDepth 65536 in
theorem w_hears : about1.hears theMethod below0 = true := by decide +kernel
set_option maxRecDepth 65536 in
theorem w_ripe : about1.ripe theMethod args0 below0 = true := by decide +kernel
theorem w_running : about1.status = .running := rfl
set_option maxRecDepth 65536 in
theorem w_room : about1.hasRoom e0.platform room_1 = true :=
  launch0.hasRoom_least _ room_1 (by decide +kernel) (by decide +kernel) (by decide +kernel) (by decide +kernel) (by decide +kernel) (by decide +kernel)
theorem allAtoms_all (ts : List Jvm.Cond) (a : Array Jvm.Value) (st : Jvm.State) : (allAtoms ts).before a st = ts.all (fun c => c.before a st) := by
  induction ts with
  | nil => rfl
  | cons c t ih =>
    show (Jvm.Cond.and c (allAtoms t)).before a st = _
    rw [Jvm.Cond.before_and, ih, List.all_cons]
def words1 : List Jvm.Cond := Jvm.Cond.code x code maxLocals ret :: tables_1
/-- a 'code' word, met by the world's own term for the bytes: nothing is compared byte by byte -/
theorem code_word {y : MethodName} {bytes : ByteArray} {mx : Nat} {rt : Option FieldType} {a : Array Value} {s : State} {m : MethodId} {meth : Method} {c : Code} (h1 : s.methodNamed? y = some m) (h2 : s.vm.method? m = some meth) (h3 : meth.code = some c) (h4 : c.code = bytes)
    (h5 : (c.maxLocals == mx && c.exceptionTable.isEmpty && decide (c.maxStack ≤ mostOperands) && decide (meth.sig.returnType = rt) && !meth.locks && decide (parseMethodDescriptor y.desc = some meth.sig)) = true) : (Jvm.Cond.code y bytes mx rt).before a s = true := by
  simp only [Bool.and_eq_true, beq_iff_eq, Bool.not_eq_true', decide_eq_true_eq] at h5
  obtain ⟨⟨⟨⟨⟨g1, g2⟩, g3⟩, g4⟩, g5⟩, g6⟩ := h5
  simp [Cond.before, Cond.holds, Cond.value, h1, h2, h3, h4, g1, g2, g3, g4, g5, g6]
def isCode : Jvm.Cond → Bool
  | .code _ _ _ _ => true
  | _ => false
theorem all_split {L : List Jvm.Cond} {P : Jvm.Cond → Bool} (h1 : L.all (fun c => isCode c || P c) = true) (h2 : ∀ c ∈ L.filter isCode, P c = true) : L.all P = true := by
  refine List.all_eq_true.mpr fun c hc => ?_
  have h := List.all_eq_true.mp h1 c hc
  rcases Bool.eq_false_or_eq_true (isCode c) with hi | hi
  · exact h2 c (List.mem_filter.mpr ⟨hc, hi⟩)
  · simpa [hi] using h
set_option maxRecDepth 65536 in
theorem w_c0 : (Jvm.Cond.code x code maxLocals ret).before args0 about1 = true := code_word (m := ⟨1, 1⟩) (meth := k1m1) (c := k1c1) (by decide +kernel) rfl rfl rfl (by decide +kernel)
set_option maxRecDepth 65536 in
theorem w_c1 : (Jvm.Cond.code ({ cls := "com/example/tagwire/tagwire/tree/TagType", name := "isInteger", desc := "()Z" } : Jvm.MethodName) prog_60_method_9_code (1 : Nat) (Option.some Jvm.ClassFile.FieldType.boolean)).before args0 about1 = true := code_word (m := ⟨6, 0⟩) (meth := k6m0) (c := k6c0) (by decide +kernel) rfl rfl rfl (by decide +kernel)
def codes1 : List Jvm.Cond := [Jvm.Cond.code x code maxLocals ret, Jvm.Cond.code ({ cls := "com/example/tagwire/tagwire/tree/TagType", name := "isInteger", desc := "()Z" } : Jvm.MethodName) prog_60_method_9_code (1 : Nat) (Option.some Jvm.ClassFile.FieldType.boolean)]
set_option maxRecDepth 65536 in
theorem codes_eq : words1.filter isCode = codes1 := rfl
theorem w_codes : ∀ c ∈ words1.filter isCode, c.before args0 about1 = true := by
  rw [codes_eq]
  intro c hc
  simp only [codes1, List.mem_cons, List.not_mem_nil, or_false] at hc
  rcases hc with rfl | rfl
  · exact w_c0
  · exact w_c1
set_option maxRecDepth 65536 in
theorem w_t1 : (words1.take 24).all (fun c => isCode c || c.before args0 about1) = true := by decide +kernel
set_option maxRecDepth 65536 in
theorem w_t2 : (words1.drop 24).all (fun c => isCode c || c.before args0 about1) = true := by decide +kernel
theorem w_tables : (allAtoms (Jvm.Cond.code x code maxLocals ret :: tables_1)).before args0 about1 = true := by
  rw [allAtoms_all]
  show words1.all (fun c => c.before args0 about1) = true
  refine all_split ?_ w_codes
  rw [← List.take_append_drop 24 words1, List.all_append, w_t1, w_t2]
  rfl
set_option maxRecDepth 65536 in
theorem w_case : (Jvm.Cond.and given_1 narrow_1).before args0 about1 = true := by decide +kernel
theorem w_applies : (headSpec (Jvm.Cond.code x code maxLocals ret :: tables_1) room_1).applies x e0.platform about1 = true :=
  (Spec.applies_iff w_frames).mpr ⟨w_running, w_runnable, w_alone, w_named, w_hears, w_ripe, w_room, w_tables⟩
theorem atStart : AtStart classFile x code maxLocals ret World_1 tables_1 room_1 Calls_1 rest_1 Pre_1 launch0 p0 e0 about1 theMethod args0 below0 :=
  ⟨lists_1, trivial, launch0.admits_env _ _ _, launch0.least_env, fairChoices_fair.cas, fairChoices_fair.clock, w_frames, w_args, w_heap, w_applies, trivial, trivial, w_case⟩
end start1
theorem witness_1 : WitnessClaimed_1 := ⟨start1.p0, start1.e0, start1.about1, start1.theMethod, start1.args0, start1.below0, start1.atStart⟩
end Jvm.Pilot.@@N@@
