import JvmDerived
import JvmDerived.Pilot.@@N@@Statement
import JvmDerived.Pilot.@@N@@Code
set_option linter.unusedVariables false
set_option linter.unusedSimpArgs false
namespace Jvm.RoadKit
open Sem ClassFile Op Lib Jvm.Stand Jvm.Free Jvm.LawKit
section New
variable {p : Program} {l : Launch} {e : Env} {R : Room} {s : State} {m : MethodId} {args : Array Value} {below : List Frame} {meth : Method} {c : Code} {T : State} {locs : List Loc} {cells slots : Nat}
theorem retI (X : Stand p l e R s m args below meth c T locs cells slots) (hx : p.tables.exec = Jvm.exec) {pc : Nat} {Ls : Array Slot} {z : Int32} {rest : List Value} (hret : meth.sig.returnType = some .int) (hd : decode c.code pc = .ok (.ireturn, 1)) {fs : List Frame}
    (hl : ∀ (f : JFrame) (acts : List Action), f.method = m → f.locked = none → f.entered = [] → (doReturn e (T.setTop f) acts (some (.int z))).1 = T.setFrames fs) : Steps p.tables e below (T.setTop (mkF m pc Ls (.int z :: rest))) (T.setFrames fs) := by
  have hm' : T.vm.method? m = some meth := X.method'
  have hn : narrow .int (.int z) = .int z := rfl
  show Steps p.tables e below (T.setTop { method := m, pc := pc, locals := Ls, stack := _ :: rest, locked := none }) _
  jvm_step X.here [X.here.top, hx, hd, hm', hret, hn]
  first | (intro acts; rw [hl _ acts rfl rfl rfl]) | rw [hl _ _ rfl rfl rfl]
  exact Steps.refl _
end New
end Jvm.RoadKit
namespace Jvm.Pilot.@@N@@
open Jvm Jvm.ClassFile Sem Op Lib Jvm.Free Jvm.Stand Jvm.LawKit Jvm.RoadKit Bundle Jvm.Pilot.@@N@@.Jvm.D
abbrev Go (p : Program) (e : Env) (below : List Frame) (T : State) (g : JFrame) (t : State) : Prop := Steps p.tables e below (T.setTop g) t
theorem hwi {Z : State} {a0 : Array Value} (hw : ∀ d ∈ tables_1, d.before a0 Z = true) {d : Jvm.Cond} (i : Nat) (q : tables_1[i]? = some d) : d.before a0 Z = true := hw _ (List.mem_of_getElem? q)

def ulen (x : Int64) : Int32 := if x < 128 then 1 else if x < 2048 then 2 else if x < 65536 then 3 else if x < 2097152 then 4 else if x < 67108864 then 5 else 6
theorem own_len {args : Array Value} {first s : State} {o : Option Outcome} {idx : List Nat} {t : Term} {x : Addr} {cl : Cell} {z : Int32} (ht : t.eval args first o idx s = some (.ref x)) (ha : s.arrayAt? x = some cl) (h : (Term.length t).eval args first o idx s = some (.int z)) : cl.slots.size < 2 ^ 31 ∧ cl.slots.size.toInt32 = z := by
  simpa [Term.eval, ht, ha] using h
theorem own_msk (x : Int64) : ¬ (x &&& (2147483647 : Int64)) < (0 : Int64) := by
  have h := c_maskL x 2147483647 31 (by decide) (by decide)
  have e0 : (0 : Int64).toInt = 0 := by decide
  rw [Int64.lt_iff_toInt_lt, e0]
  omega
theorem own_sh7 {x : Int64} (h : ¬ x < (0 : Int64)) : lcmpW ((x.toUInt64 >>> ((7 : Int32) &&& 0x3f).toInt64.toUInt64).toInt64) (0 : Int64) = (0 : Int32) ↔ x < (128 : Int64) := by
  have h1 := c_lushr x 7 7 (by decide) (by decide)
  have r := rng64 x
  have e0 : (0 : Int64).toInt = 0 := by decide
  have e1 : (128 : Int64).toInt = 128 := by decide
  have e2 : ((2 ^ 7 : Nat) : Int) = 128 := by decide
  rw [Int64.lt_iff_toInt_lt, e0] at h
  rw [lw_eq, ← Int64.toInt_inj, h1, e0, e2, Int64.lt_iff_toInt_lt, e1]
  omega
theorem own_sh11 {x : Int64} (h : ¬ x < (0 : Int64)) : lcmpW ((x.toUInt64 >>> ((11 : Int32) &&& 0x3f).toInt64.toUInt64).toInt64) (0 : Int64) = (0 : Int32) ↔ x < (2048 : Int64) := by
  have h1 := c_lushr x 11 11 (by decide) (by decide)
  have r := rng64 x
  have e0 : (0 : Int64).toInt = 0 := by decide
  have e1 : (2048 : Int64).toInt = 2048 := by decide
  have e2 : ((2 ^ 11 : Nat) : Int) = 2048 := by decide
  rw [Int64.lt_iff_toInt_lt, e0] at h
  rw [lw_eq, ← Int64.toInt_inj, h1, e0, e2, Int64.lt_iff_toInt_lt, e1]
  omega
theorem own_sh16 {x : Int64} (h : ¬ x < (0 : Int64)) : lcmpW ((x.toUInt64 >>> ((16 : Int32) &&& 0x3f).toInt64.toUInt64).toInt64) (0 : Int64) = (0 : Int32) ↔ x < (65536 : Int64) := by
  have h1 := c_lushr x 16 16 (by decide) (by decide)
  have r := rng64 x
  have e0 : (0 : Int64).toInt = 0 := by decide
  have e1 : (65536 : Int64).toInt = 65536 := by decide
  have e2 : ((2 ^ 16 : Nat) : Int) = 65536 := by decide
  rw [Int64.lt_iff_toInt_lt, e0] at h
  rw [lw_eq, ← Int64.toInt_inj, h1, e0, e2, Int64.lt_iff_toInt_lt, e1]
  omega
theorem own_sh21 {x : Int64} (h : ¬ x < (0 : Int64)) : lcmpW ((x.toUInt64 >>> ((21 : Int32) &&& 0x3f).toInt64.toUInt64).toInt64) (0 : Int64) = (0 : Int32) ↔ x < (2097152 : Int64) := by
  have h1 := c_lushr x 21 21 (by decide) (by decide)
  have r := rng64 x
  have e0 : (0 : Int64).toInt = 0 := by decide
  have e1 : (2097152 : Int64).toInt = 2097152 := by decide
  have e2 : ((2 ^ 21 : Nat) : Int) = 2097152 := by decide
  rw [Int64.lt_iff_toInt_lt, e0] at h
  rw [lw_eq, ← Int64.toInt_inj, h1, e0, e2, Int64.lt_iff_toInt_lt, e1]
  omega
theorem own_sh26 {x : Int64} (h : ¬ x < (0 : Int64)) : lcmpW ((x.toUInt64 >>> ((26 : Int32) &&& 0x3f).toInt64.toUInt64).toInt64) (0 : Int64) = (0 : Int32) ↔ x < (67108864 : Int64) := by
  have h1 := c_lushr x 26 26 (by decide) (by decide)
  have r := rng64 x
  have e0 : (0 : Int64).toInt = 0 := by decide
  have e1 : (67108864 : Int64).toInt = 67108864 := by decide
  have e2 : ((2 ^ 26 : Nat) : Int) = 67108864 := by decide
  rw [Int64.lt_iff_toInt_lt, e0] at h
  rw [lw_eq, ← Int64.toInt_inj, h1, e0, e2, Int64.lt_iff_toInt_lt, e1]
  omega
theorem ef_1 (m : MethodId) (x0 : Int64) (x1 : Int64) : entryFrame m #[(.long x0), (.long x1)] 4 = mkF m 0 #[.val (.long x0), .second, .val (.long x1), .second] [] := by first | (simp [entryFrame, mkF, argsToLocals, Value.category]; done) | rfl
theorem d1_0 : decode jdk_29_method_66_code 0 = .ok (.lload_n 0, 1) := by decide +kernel
theorem d1_1 : decode jdk_29_method_66_code 1 = .ok (.lload_n 2, 1) := by decide +kernel
theorem d1_2 : decode jdk_29_method_66_code 2 = .ok (.lcmp, 1) := by decide +kernel
theorem d1_3 : decode jdk_29_method_66_code 3 = .ok (.ifCond .lt 7, 3) := by decide +kernel
theorem d1_10 : decode jdk_29_method_66_code 10 = .ok (.lload_n 2, 1) := by decide +kernel
theorem d1_11 : decode jdk_29_method_66_code 11 = .ok (.lreturn, 1) := by decide +kernel
theorem d1_6 : decode jdk_29_method_66_code 6 = .ok (.lload_n 0, 1) := by decide +kernel
theorem d1_7 : decode jdk_29_method_66_code 7 = .ok (.goto 4, 3) := by decide +kernel
def Q_rmM (Z : State) (q1 : Int64) (q2 : Int64) (h0 : Heap) (n0 : Nat) (v : Option Value) (h : Heap) (L : List Loc) : Prop := ∃ r : Int64, v = some (.long r) ∧ ¬ r < q1 ∧ Fr n0 L ∧ h = h0
set_option maxRecDepth 65536 in
set_option maxHeartbeats 40000000 in
theorem rmM (l : Launch) (Z : State) (a0 : Array Value) (hw : ∀ d ∈ tables_1, d.before a0 Z = true) (ws : List Jvm.Cond) (q1 : Int64) (q2 : Int64) (h0 : Heap) (n0 : Nat) (Z0 : n0 ≤ h0.size) :
    MetFree l (⟨"java/lang/Math", "max", "(JJ)J"⟩ : MethodName) (head1 (Jvm.Cond.code (⟨"java/lang/Math", "max", "(JJ)J"⟩ : MethodName) jdk_29_method_66_code 4 (some .long) :: ws) ({ frames := 0, cells := 0, slots := 0, locals := 0 } : Room)) (fun av_ U_ => av_ = #[(.long q1), (.long q2)] ∧ Z.Warmed39 U_.vm ∧ U_.heap = h0) (fun _ _ _ _ _ => True) (fun _ U_ o_ V_ => ∃ v_ L_, o_ = .returned v_ ∧ Q_rmM Z q1 q2 h0 n0 v_ V_.heap L_ ∧ FrameEnd U_ o_ V_ L_ ({ frames := 0, cells := 0, slots := 0, locals := 0 } : Room).cells ({ frames := 0, cells := 0, slots := 0, locals := 0 } : Room).slots) := by
  refine MetFree.of_bodySF (Jvm.Free.JP.mathPlain rfl (by decide +kernel)) hisR ?_
  intro p e s m args below meth c s₁ Bd hml0 hP hK
  obtain ⟨rfl, hZ, hh⟩ := hP
  have hx := Bd.exec
  have hby := Bd.bytes
  have hml : c.maxLocals = 4 := hml0
  have hown : s.vm.findClass "java/lang/Math" = some m.cls := findClass_of_methodNamed Bd.named
  have hnm := (name_of_methodNamed Bd.named Bd.method).1
  have X0 : Stand p l e ({ frames := 0, cells := 0, slots := 0, locals := 0 } : Room) s m #[(.long q1), (.long q2)] below meth c s₁ [] 0 0 := Stand.of_body Bd
  have e0 : s₁.heap = h0 := by rw [← hh, Bd.state]; rfl
  have N0 := Fr.nil n0
  have pre0 : ∀ t_, Go p e below s₁ (mkF m 0 #[.val (.long q1), .second, .val (.long q2), .second] []) t_ → Go p e below s₁ (entryFrame m #[(.long q1), (.long q2)] 4) t_ := fun t_ kt => castTop (ef_1 m q1 q2) kt
  have pre1 : ∀ t_, Go p e below s₁ (mkF m 3 #[.val (.long q1), .second, .val (.long q2), .second] [(.int (lcmpW q1 q2))]) t_ → Go p e below s₁ (entryFrame m #[(.long q1), (.long q2)] 4) t_ := fun t_ kt => pre0 _ (by
      show Go p e below s₁ (mkF m 0 #[.val (.long q1), .second, .val (.long q2), .second] []) _
      refine XS.lloadN X0.here hx rfl (hb hby d1_0) rfl ?_
      show Go p e below s₁ (mkF m 1 #[.val (.long q1), .second, .val (.long q2), .second] [(.long q1)]) _
      refine XS.lloadN X0.here hx rfl (hb hby d1_1) rfl ?_
      show Go p e below s₁ (mkF m 2 #[.val (.long q1), .second, .val (.long q2), .second] [(.long q2), (.long q1)]) _
      refine XS.lcmp X0.here hx rfl (hb hby d1_2) rfl ?_
      show Go p e below s₁ (mkF m 3 #[.val (.long q1), .second, .val (.long q2), .second] [(.int (lcmpW q1 q2))]) _
      exact kt)
  by_cases hc3_2 : q1 < q2
  · have pre3 : ∀ t_, Go p e below s₁ (mkF m 11 #[.val (.long q1), .second, .val (.long q2), .second] [(.long q2)]) t_ → Go p e below s₁ (entryFrame m #[(.long q1), (.long q2)] 4) t_ := fun t_ kt => pre1 _ (by
        show Go p e below s₁ (mkF m 3 #[.val (.long q1), .second, .val (.long q2), .second] [(.int (lcmpW q1 q2))]) _
        refine XS.ifYes X0.here hx rfl (pc0 := 3) (pc' := 10) rfl (hb hby d1_3) rfl ((if0 _ _).trans (tlt ((lw_lt _ _).mpr hc3_2)).1) (by decide) (by decide) ?_
        show Go p e below s₁ (mkF m 10 #[.val (.long q1), .second, .val (.long q2), .second] []) _
        refine XS.lloadN X0.here hx rfl (hb hby d1_10) rfl ?_
        show Go p e below s₁ (mkF m 11 #[.val (.long q1), .second, .val (.long q2), .second] [(.long q2)]) _
        exact kt)
    obtain ⟨fs, hr, hrun, hended, hW, hsame⟩ := X0.leave (v := some (.long q2)) (fun h => by rw [Bd.returns] at h; cases h)
    refine ⟨_, _, pre3 _ ?_, hrun, hended, _, _, rfl, ?_, ⟨_, rfl⟩, hW, hsame.mono (by decide) (by decide)⟩
    · show Steps p.tables e below (s₁.setTop (mkF m 11 #[.val (.long q1), .second, .val (.long q2), .second] [(.long q2)])) _
      jvm_step X0.here [X0.here.top, hx, (hb hby d1_11), X0.method', Bd.returns, narrow]
      first | (intro acts; rw [hr _ acts rfl rfl rfl]) | rw [hr _ _ rfl rfl rfl]
      exact Steps.refl _
    · show Q_rmM Z q1 q2 h0 n0 _ s₁.heap _
      rw [e0]
      exact ⟨_, rfl, (fun q => Int64.lt_irrefl (Int64.lt_trans hc3_2 q)), N0, rfl⟩
  · have pre4 : ∀ t_, Go p e below s₁ (mkF m 11 #[.val (.long q1), .second, .val (.long q2), .second] [(.long q1)]) t_ → Go p e below s₁ (entryFrame m #[(.long q1), (.long q2)] 4) t_ := fun t_ kt => pre1 _ (by
        show Go p e below s₁ (mkF m 3 #[.val (.long q1), .second, .val (.long q2), .second] [(.int (lcmpW q1 q2))]) _
        refine XS.ifNo X0.here hx rfl (hb hby d1_3) rfl ((if0 _ _).trans (flt (fun q => hc3_2 ((lw_lt _ _).mp q))).1) ?_
        show Go p e below s₁ (mkF m 6 #[.val (.long q1), .second, .val (.long q2), .second] []) _
        refine XS.lloadN X0.here hx rfl (hb hby d1_6) rfl ?_
        show Go p e below s₁ (mkF m 7 #[.val (.long q1), .second, .val (.long q2), .second] [(.long q1)]) _
        refine XS.goto X0.here hx rfl (pc0 := 7) (pc' := 11) rfl (hb hby d1_7) (by decide) (by decide) ?_
        show Go p e below s₁ (mkF m 11 #[.val (.long q1), .second, .val (.long q2), .second] [(.long q1)]) _
        exact kt)
    obtain ⟨fs, hr, hrun, hended, hW, hsame⟩ := X0.leave (v := some (.long q1)) (fun h => by rw [Bd.returns] at h; cases h)
    refine ⟨_, _, pre4 _ ?_, hrun, hended, _, _, rfl, ?_, ⟨_, rfl⟩, hW, hsame.mono (by decide) (by decide)⟩
    · show Steps p.tables e below (s₁.setTop (mkF m 11 #[.val (.long q1), .second, .val (.long q2), .second] [(.long q1)])) _
      jvm_step X0.here [X0.here.top, hx, (hb hby d1_11), X0.method', Bd.returns, narrow]
      first | (intro acts; rw [hr _ acts rfl rfl rfl]) | rw [hr _ _ rfl rfl rfl]
      exact Steps.refl _
    · show Q_rmM Z q1 q2 h0 n0 _ s₁.heap _
      rw [e0]
      exact ⟨_, rfl, Int64.lt_irrefl, N0, rfl⟩
theorem ef_2 (m : MethodId) (x0 : Int64) : entryFrame m #[(.long x0)] 3 = mkF m 0 #[.val (.long x0), .second, .unset] [] := by first | (simp [entryFrame, mkF, argsToLocals, Value.category]; done) | rfl
theorem pn_com_example_tagwire_tagwire_wire_NumberForm : plainName "com/example/tagwire/tagwire/wire/NumberForm" = true := by first | (simp [plainName, overriddenIn]; done) | decide +kernel
theorem d2_0 : decode prog_70_method_17_code 0 = .ok (.iconst 0, 1) := by decide +kernel
theorem d2_1 : decode prog_70_method_17_code 1 = .ok (.istore_n 2, 1) := by decide +kernel
theorem d2_2 : decode prog_70_method_17_code 2 = .ok (.iload_n 2, 1) := by decide +kernel
theorem d2_3 : decode prog_70_method_17_code 3 = .ok (.iconst 1, 1) := by decide +kernel
theorem d2_4 : decode prog_70_method_17_code 4 = .ok (.iadd, 1) := by decide +kernel
theorem d2_5 : decode prog_70_method_17_code 5 = .ok (.getstatic 134, 3) := by decide +kernel
theorem d2_8 : decode prog_70_method_17_code 8 = .ok (.arraylength, 1) := by decide +kernel
theorem d2_9 : decode prog_70_method_17_code 9 = .ok (.if_icmp .ge 21, 3) := by decide +kernel
theorem d2_12 : decode prog_70_method_17_code 12 = .ok (.lload_n 0, 1) := by decide +kernel
theorem d2_13 : decode prog_70_method_17_code 13 = .ok (.getstatic 134, 3) := by decide +kernel
theorem d2_16 : decode prog_70_method_17_code 16 = .ok (.iload_n 2, 1) := by decide +kernel
theorem d2_17 : decode prog_70_method_17_code 17 = .ok (.iconst 1, 1) := by decide +kernel
theorem d2_18 : decode prog_70_method_17_code 18 = .ok (.iadd, 1) := by decide +kernel
theorem d2_19 : decode prog_70_method_17_code 19 = .ok (.laload, 1) := by decide +kernel
theorem d2_20 : decode prog_70_method_17_code 20 = .ok (.lcmp, 1) := by decide +kernel
theorem d2_21 : decode prog_70_method_17_code 21 = .ok (.ifCond .lt 9, 3) := by decide +kernel
theorem d2_30 : decode prog_70_method_17_code 30 = .ok (.iload_n 2, 1) := by decide +kernel
theorem d2_31 : decode prog_70_method_17_code 31 = .ok (.iconst 1, 1) := by decide +kernel
theorem d2_32 : decode prog_70_method_17_code 32 = .ok (.iadd, 1) := by decide +kernel
theorem d2_33 : decode prog_70_method_17_code 33 = .ok (.ireturn, 1) := by decide +kernel
theorem d2_24 : decode prog_70_method_17_code 24 = .ok (.iinc 2 1, 3) := by decide +kernel
theorem d2_27 : decode prog_70_method_17_code 27 = .ok (.goto (-25), 3) := by decide +kernel
def Q_rmU (Z : State) (q1 : Int64) (a : Addr) (kc : ClassId) (h0 : Heap) (n0 : Nat) (v : Option Value) (h : Heap) (L : List Loc) : Prop := v = some (.int (ulen q1)) ∧ Fr n0 L ∧ h = h0
set_option maxRecDepth 65536 in
set_option maxHeartbeats 40000000 in
theorem rmU (l : Launch) (Z : State) (a0 : Array Value) (hw : ∀ d ∈ tables_1, d.before a0 Z = true) (ws : List Jvm.Cond) (q1 : Int64) (a : Addr) (kc : ClassId) (h0 : Heap) (n0 : Nat) (Z0 : n0 ≤ h0.size) (hS : Sta Z h0 "com/example/tagwire/tagwire/wire/NumberForm" "SHORTEST_FORM_FLOOR" "[J" (.ref a)) (hV : Arv Z h0 a kc .long (6 : Int32) [(.long (0 : Int64)), (.long (128 : Int64)), (.long (2048 : Int64)), (.long (65536 : Int64)), (.long (2097152 : Int64)), (.long (67108864 : Int64))] (.long (0 : Int64))) :
    MetFree l (⟨"com/example/tagwire/tagwire/wire/NumberForm", "utf8Length", "(J)I"⟩ : MethodName) (head1 (Jvm.Cond.code (⟨"com/example/tagwire/tagwire/wire/NumberForm", "utf8Length", "(J)I"⟩ : MethodName) prog_70_method_17_code 3 (some .int) :: ws) ({ frames := 0, cells := 0, slots := 0, locals := 0 } : Room)) (fun av_ U_ => av_ = #[(.long q1)] ∧ Z.Warmed39 U_.vm ∧ U_.heap = h0) (fun _ _ _ _ _ => True) (fun _ U_ o_ V_ => ∃ v_ L_, o_ = .returned v_ ∧ Q_rmU Z q1 a kc h0 n0 v_ V_.heap L_ ∧ FrameEnd U_ o_ V_ L_ ({ frames := 0, cells := 0, slots := 0, locals := 0 } : Room).cells ({ frames := 0, cells := 0, slots := 0, locals := 0 } : Room).slots) := by
  refine MetFree.of_bodySF (plainFor_of_name pn_com_example_tagwire_tagwire_wire_NumberForm) hisR ?_
  intro p e s m args below meth c s₁ Bd hml0 hP hK
  obtain ⟨rfl, hZ, hh⟩ := hP
  have hx := Bd.exec
  have hby := Bd.bytes
  have hml : c.maxLocals = 3 := hml0
  have hown : s.vm.findClass "com/example/tagwire/tagwire/wire/NumberForm" = some m.cls := findClass_of_methodNamed Bd.named
  have hnm := (name_of_methodNamed Bd.named Bd.method).1
  have X0 : Stand p l e ({ frames := 0, cells := 0, slots := 0, locals := 0 } : Room) s m #[(.long q1)] below meth c s₁ [] 0 0 := Stand.of_body Bd
  have e0 : s₁.heap = h0 := by rw [← hh, Bd.state]; rfl
  have N0 := Fr.nil n0
  have pre0 : ∀ t_, Go p e below s₁ (mkF m 0 #[.val (.long q1), .second, .unset] []) t_ → Go p e below s₁ (entryFrame m #[(.long q1)] 3) t_ := fun t_ kt => castTop (ef_2 m q1) kt
  obtain ⟨cl, Ar, qa, Sa, Na, Ha, Ga⟩ := hV
  obtain ⟨T1, X1, e1, st1⟩ := getS2 X0 hx hZ hown (host := "") (Or.inl (hwi hw 9 rfl)) Via.refl e0 hS (g := (mkF m 5 #[.val (.long q1), .second, iv 0] [(.int 1)])) rfl (hb hby d2_5)
  obtain ⟨T2, X2, e2, st2⟩ := getS2 X1 hx hZ hown (host := "") (Or.inl (hwi hw 9 rfl)) Via.refl e1 hS (g := (mkF m 13 #[.val (.long q1), .second, iv 0] [(.long q1)])) rfl (hb hby d2_13)
  have hin3 : ¬ ((1 : Int32) < 0 ∨ cl.slots.size ≤ ((1 : Int32)).toNatClampNeg) := inb_of Sa ⟨by decide, by decide⟩
  have pre4 : ∀ t_, Go p e below T2 (mkF m 21 #[.val (.long q1), .second, iv 0] [(.int (lcmpW q1 (128 : Int64)))]) t_ → Go p e below s₁ (entryFrame m #[(.long q1)] 3) t_ := fun t_ kt => pre0 _ (by
      show Go p e below s₁ (mkF m 0 #[.val (.long q1), .second, .unset] []) _
      refine XS.iconst X0.here hx rfl (hb hby d2_0) ?_
      show Go p e below s₁ (mkF m 1 #[.val (.long q1), .second, .unset] [(.int 0)]) _
      refine XS.istoreN X0.here hx rfl (hb hby d2_1) rfl (l' := #[.val (.long q1), .second, iv 0]) rfl ?_
      show Go p e below s₁ (mkF m 2 #[.val (.long q1), .second, iv 0] []) _
      refine XS.iloadN X0.here hx rfl (hb hby d2_2) rfl ?_
      show Go p e below s₁ (mkF m 3 #[.val (.long q1), .second, iv 0] [(.int 0)]) _
      refine XS.iconst X0.here hx rfl (hb hby d2_3) ?_
      show Go p e below s₁ (mkF m 4 #[.val (.long q1), .second, iv 0] [(.int 1), (.int 0)]) _
      refine XS.iadd X0.here hx rfl (hb hby d2_4) rfl ?_
      show Go p e below s₁ (mkF m 5 #[.val (.long q1), .second, iv 0] [(.int 1)]) _
      refine st1 _ ?_
      show Go p e below T1 (mkF m 8 #[.val (.long q1), .second, iv 0] [(.ref a), (.int 1)]) _
      refine X1.arraylength hx (by rw [e1]; exact Ar.1) (State.isArrayOf_alike hZ.alike Ar.2.1) (g := (mkF m 8 #[.val (.long q1), .second, iv 0] [(.ref a), (.int 1)])) rfl rfl (hb hby d2_8) _ ?_
      rw [len_of Sa Na]
      show Go p e below T1 (mkF m 9 #[.val (.long q1), .second, iv 0] [(.int 6), (.int 1)]) _
      refine XS.icmpNo X1.here hx rfl (hb hby d2_9) rfl (tlt ((by decide) : (1 : Int32) < (6 : Int32))).2.1 ?_
      show Go p e below T1 (mkF m 12 #[.val (.long q1), .second, iv 0] []) _
      refine XS.lloadN X1.here hx rfl (hb hby d2_12) rfl ?_
      show Go p e below T1 (mkF m 13 #[.val (.long q1), .second, iv 0] [(.long q1)]) _
      refine st2 _ ?_
      show Go p e below T2 (mkF m 16 #[.val (.long q1), .second, iv 0] [(.ref a), (.long q1)]) _
      refine XS.iloadN X2.here hx rfl (hb hby d2_16) rfl ?_
      show Go p e below T2 (mkF m 17 #[.val (.long q1), .second, iv 0] [(.int 0), (.ref a), (.long q1)]) _
      refine XS.iconst X2.here hx rfl (hb hby d2_17) ?_
      show Go p e below T2 (mkF m 18 #[.val (.long q1), .second, iv 0] [(.int 1), (.int 0), (.ref a), (.long q1)]) _
      refine XS.iadd X2.here hx rfl (hb hby d2_18) rfl ?_
      show Go p e below T2 (mkF m 19 #[.val (.long q1), .second, iv 0] [(.int 1), (.ref a), (.long q1)]) _
      refine X2.laload hx (j := (1 : Int32)) (v := (.long (128 : Int64))) (by rw [e2]; exact Ar.1) (State.isArrayOf_alike hZ.alike Ar.2.1) Ar.2.2 hin3 (Has.at Ha hin3 rfl) (g := (mkF m 19 #[.val (.long q1), .second, iv 0] [(.int 1), (.ref a), (.long q1)])) rfl rfl (hb hby d2_19) _ ?_
      show Go p e below T2 (mkF m 20 #[.val (.long q1), .second, iv 0] [(.long 128), (.long q1)]) _
      refine XS.lcmp X2.here hx rfl (hb hby d2_20) rfl ?_
      show Go p e below T2 (mkF m 21 #[.val (.long q1), .second, iv 0] [(.int (lcmpW q1 (128 : Int64)))]) _
      exact kt)
  by_cases hc21_5 : q1 < (128 : Int64)
  · have pre6 : ∀ t_, Go p e below T2 (mkF m 33 #[.val (.long q1), .second, iv 0] [(.int 1)]) t_ → Go p e below s₁ (entryFrame m #[(.long q1)] 3) t_ := fun t_ kt => pre4 _ (by
        show Go p e below T2 (mkF m 21 #[.val (.long q1), .second, iv 0] [(.int (lcmpW q1 (128 : Int64)))]) _
        refine XS.ifYes X2.here hx rfl (pc0 := 21) (pc' := 30) rfl (hb hby d2_21) rfl ((if0 _ _).trans (tlt ((lw_lt _ _).mpr hc21_5)).1) (by decide) (by decide) ?_
        show Go p e below T2 (mkF m 30 #[.val (.long q1), .second, iv 0] []) _
        refine XS.iloadN X2.here hx rfl (hb hby d2_30) rfl ?_
        show Go p e below T2 (mkF m 31 #[.val (.long q1), .second, iv 0] [(.int 0)]) _
        refine XS.iconst X2.here hx rfl (hb hby d2_31) ?_
        show Go p e below T2 (mkF m 32 #[.val (.long q1), .second, iv 0] [(.int 1), (.int 0)]) _
        refine XS.iadd X2.here hx rfl (hb hby d2_32) rfl ?_
        show Go p e below T2 (mkF m 33 #[.val (.long q1), .second, iv 0] [(.int 1)]) _
        exact kt)
    obtain ⟨fs, hr, hrun, hended, hW, hsame⟩ := X2.leave (v := some (.int 1)) (fun h => by rw [Bd.returns] at h; cases h)
    refine ⟨_, _, pre6 _ ?_, hrun, hended, _, _, rfl, ?_, ⟨_, rfl⟩, hW, hsame.mono (by decide) (by decide)⟩
    · show Steps p.tables e below (T2.setTop (mkF m 33 #[.val (.long q1), .second, iv 0] [(.int 1)])) _
      exact retI X2 hx Bd.returns (hb hby d2_33) hr
    · show Q_rmU Z q1 a kc h0 n0 _ T2.heap _
      rw [e2]
      exact ⟨by simp [ulen, hc21_5], N0, rfl⟩
  · obtain ⟨T7, X7, e7, st7⟩ := getS2 X2 hx hZ hown (host := "") (Or.inl (hwi hw 9 rfl)) Via.refl e2 hS (g := (mkF m 5 #[.val (.long q1), .second, iv 1] [(.int 2)])) rfl (hb hby d2_5)
    obtain ⟨T8, X8, e8, st8⟩ := getS2 X7 hx hZ hown (host := "") (Or.inl (hwi hw 9 rfl)) Via.refl e7 hS (g := (mkF m 13 #[.val (.long q1), .second, iv 1] [(.long q1)])) rfl (hb hby d2_13)
    have hin9 : ¬ ((2 : Int32) < 0 ∨ cl.slots.size ≤ ((2 : Int32)).toNatClampNeg) := inb_of Sa ⟨by decide, by decide⟩
    have pre10 : ∀ t_, Go p e below T8 (mkF m 21 #[.val (.long q1), .second, iv 1] [(.int (lcmpW q1 (2048 : Int64)))]) t_ → Go p e below s₁ (entryFrame m #[(.long q1)] 3) t_ := fun t_ kt => pre4 _ (by
        show Go p e below T2 (mkF m 21 #[.val (.long q1), .second, iv 0] [(.int (lcmpW q1 (128 : Int64)))]) _
        refine XS.ifNo X2.here hx rfl (hb hby d2_21) rfl ((if0 _ _).trans (flt (fun q => hc21_5 ((lw_lt _ _).mp q))).1) ?_
        show Go p e below T2 (mkF m 24 #[.val (.long q1), .second, iv 0] []) _
        refine XS.iinc X2.here hx rfl (hb hby d2_24) rfl (l' := #[.val (.long q1), .second, iv 1]) rfl ?_
        show Go p e below T2 (mkF m 27 #[.val (.long q1), .second, iv 1] []) _
        refine XS.goto X2.here hx rfl (pc0 := 27) (pc' := 2) rfl (hb hby d2_27) (by decide) (by decide) ?_
        show Go p e below T2 (mkF m 2 #[.val (.long q1), .second, iv 1] []) _
        refine XS.iloadN X2.here hx rfl (hb hby d2_2) rfl ?_
        show Go p e below T2 (mkF m 3 #[.val (.long q1), .second, iv 1] [(.int 1)]) _
        refine XS.iconst X2.here hx rfl (hb hby d2_3) ?_
        show Go p e below T2 (mkF m 4 #[.val (.long q1), .second, iv 1] [(.int 1), (.int 1)]) _
        refine XS.iadd X2.here hx rfl (hb hby d2_4) rfl ?_
        show Go p e below T2 (mkF m 5 #[.val (.long q1), .second, iv 1] [(.int 2)]) _
        refine st7 _ ?_
        show Go p e below T7 (mkF m 8 #[.val (.long q1), .second, iv 1] [(.ref a), (.int 2)]) _
        refine X7.arraylength hx (by rw [e7]; exact Ar.1) (State.isArrayOf_alike hZ.alike Ar.2.1) (g := (mkF m 8 #[.val (.long q1), .second, iv 1] [(.ref a), (.int 2)])) rfl rfl (hb hby d2_8) _ ?_
        rw [len_of Sa Na]
        show Go p e below T7 (mkF m 9 #[.val (.long q1), .second, iv 1] [(.int 6), (.int 2)]) _
        refine XS.icmpNo X7.here hx rfl (hb hby d2_9) rfl (tlt ((by decide) : (2 : Int32) < (6 : Int32))).2.1 ?_
        show Go p e below T7 (mkF m 12 #[.val (.long q1), .second, iv 1] []) _
        refine XS.lloadN X7.here hx rfl (hb hby d2_12) rfl ?_
        show Go p e below T7 (mkF m 13 #[.val (.long q1), .second, iv 1] [(.long q1)]) _
        refine st8 _ ?_
        show Go p e below T8 (mkF m 16 #[.val (.long q1), .second, iv 1] [(.ref a), (.long q1)]) _
        refine XS.iloadN X8.here hx rfl (hb hby d2_16) rfl ?_
        show Go p e below T8 (mkF m 17 #[.val (.long q1), .second, iv 1] [(.int 1), (.ref a), (.long q1)]) _
        refine XS.iconst X8.here hx rfl (hb hby d2_17) ?_
        show Go p e below T8 (mkF m 18 #[.val (.long q1), .second, iv 1] [(.int 1), (.int 1), (.ref a), (.long q1)]) _
        refine XS.iadd X8.here hx rfl (hb hby d2_18) rfl ?_
        show Go p e below T8 (mkF m 19 #[.val (.long q1), .second, iv 1] [(.int 2), (.ref a), (.long q1)]) _
        refine X8.laload hx (j := (2 : Int32)) (v := (.long (2048 : Int64))) (by rw [e8]; exact Ar.1) (State.isArrayOf_alike hZ.alike Ar.2.1) Ar.2.2 hin9 (Has.at Ha hin9 rfl) (g := (mkF m 19 #[.val (.long q1), .second, iv 1] [(.int 2), (.ref a), (.long q1)])) rfl rfl (hb hby d2_19) _ ?_
        show Go p e below T8 (mkF m 20 #[.val (.long q1), .second, iv 1] [(.long 2048), (.long q1)]) _
        refine XS.lcmp X8.here hx rfl (hb hby d2_20) rfl ?_
        show Go p e below T8 (mkF m 21 #[.val (.long q1), .second, iv 1] [(.int (lcmpW q1 (2048 : Int64)))]) _
        exact kt)
    by_cases hc21_11 : q1 < (2048 : Int64)
    · have pre12 : ∀ t_, Go p e below T8 (mkF m 33 #[.val (.long q1), .second, iv 1] [(.int 2)]) t_ → Go p e below s₁ (entryFrame m #[(.long q1)] 3) t_ := fun t_ kt => pre10 _ (by
          show Go p e below T8 (mkF m 21 #[.val (.long q1), .second, iv 1] [(.int (lcmpW q1 (2048 : Int64)))]) _
          refine XS.ifYes X8.here hx rfl (pc0 := 21) (pc' := 30) rfl (hb hby d2_21) rfl ((if0 _ _).trans (tlt ((lw_lt _ _).mpr hc21_11)).1) (by decide) (by decide) ?_
          show Go p e below T8 (mkF m 30 #[.val (.long q1), .second, iv 1] []) _
          refine XS.iloadN X8.here hx rfl (hb hby d2_30) rfl ?_
          show Go p e below T8 (mkF m 31 #[.val (.long q1), .second, iv 1] [(.int 1)]) _
          refine XS.iconst X8.here hx rfl (hb hby d2_31) ?_
          show Go p e below T8 (mkF m 32 #[.val (.long q1), .second, iv 1] [(.int 1), (.int 1)]) _
          refine XS.iadd X8.here hx rfl (hb hby d2_32) rfl ?_
          show Go p e below T8 (mkF m 33 #[.val (.long q1), .second, iv 1] [(.int 2)]) _
          exact kt)
      obtain ⟨fs, hr, hrun, hended, hW, hsame⟩ := X8.leave (v := some (.int 2)) (fun h => by rw [Bd.returns] at h; cases h)
      refine ⟨_, _, pre12 _ ?_, hrun, hended, _, _, rfl, ?_, ⟨_, rfl⟩, hW, hsame.mono (by decide) (by decide)⟩
      · show Steps p.tables e below (T8.setTop (mkF m 33 #[.val (.long q1), .second, iv 1] [(.int 2)])) _
        exact retI X8 hx Bd.returns (hb hby d2_33) hr
      · show Q_rmU Z q1 a kc h0 n0 _ T8.heap _
        rw [e8]
        exact ⟨by simp [ulen, hc21_5, hc21_11], N0, rfl⟩
    · obtain ⟨T13, X13, e13, st13⟩ := getS2 X8 hx hZ hown (host := "") (Or.inl (hwi hw 9 rfl)) Via.refl e8 hS (g := (mkF m 5 #[.val (.long q1), .second, iv 2] [(.int 3)])) rfl (hb hby d2_5)
      obtain ⟨T14, X14, e14, st14⟩ := getS2 X13 hx hZ hown (host := "") (Or.inl (hwi hw 9 rfl)) Via.refl e13 hS (g := (mkF m 13 #[.val (.long q1), .second, iv 2] [(.long q1)])) rfl (hb hby d2_13)
      have hin15 : ¬ ((3 : Int32) < 0 ∨ cl.slots.size ≤ ((3 : Int32)).toNatClampNeg) := inb_of Sa ⟨by decide, by decide⟩
      have pre16 : ∀ t_, Go p e below T14 (mkF m 21 #[.val (.long q1), .second, iv 2] [(.int (lcmpW q1 (65536 : Int64)))]) t_ → Go p e below s₁ (entryFrame m #[(.long q1)] 3) t_ := fun t_ kt => pre10 _ (by
          show Go p e below T8 (mkF m 21 #[.val (.long q1), .second, iv 1] [(.int (lcmpW q1 (2048 : Int64)))]) _
          refine XS.ifNo X8.here hx rfl (hb hby d2_21) rfl ((if0 _ _).trans (flt (fun q => hc21_11 ((lw_lt _ _).mp q))).1) ?_
          show Go p e below T8 (mkF m 24 #[.val (.long q1), .second, iv 1] []) _
          refine XS.iinc X8.here hx rfl (hb hby d2_24) rfl (l' := #[.val (.long q1), .second, iv 2]) rfl ?_
          show Go p e below T8 (mkF m 27 #[.val (.long q1), .second, iv 2] []) _
          refine XS.goto X8.here hx rfl (pc0 := 27) (pc' := 2) rfl (hb hby d2_27) (by decide) (by decide) ?_
          show Go p e below T8 (mkF m 2 #[.val (.long q1), .second, iv 2] []) _
          refine XS.iloadN X8.here hx rfl (hb hby d2_2) rfl ?_
          show Go p e below T8 (mkF m 3 #[.val (.long q1), .second, iv 2] [(.int 2)]) _
          refine XS.iconst X8.here hx rfl (hb hby d2_3) ?_
          show Go p e below T8 (mkF m 4 #[.val (.long q1), .second, iv 2] [(.int 1), (.int 2)]) _
          refine XS.iadd X8.here hx rfl (hb hby d2_4) rfl ?_
          show Go p e below T8 (mkF m 5 #[.val (.long q1), .second, iv 2] [(.int 3)]) _
          refine st13 _ ?_
          show Go p e below T13 (mkF m 8 #[.val (.long q1), .second, iv 2] [(.ref a), (.int 3)]) _
          refine X13.arraylength hx (by rw [e13]; exact Ar.1) (State.isArrayOf_alike hZ.alike Ar.2.1) (g := (mkF m 8 #[.val (.long q1), .second, iv 2] [(.ref a), (.int 3)])) rfl rfl (hb hby d2_8) _ ?_
          rw [len_of Sa Na]
          show Go p e below T13 (mkF m 9 #[.val (.long q1), .second, iv 2] [(.int 6), (.int 3)]) _
          refine XS.icmpNo X13.here hx rfl (hb hby d2_9) rfl (tlt ((by decide) : (3 : Int32) < (6 : Int32))).2.1 ?_
          show Go p e below T13 (mkF m 12 #[.val (.long q1), .second, iv 2] []) _
          refine XS.lloadN X13.here hx rfl (hb hby d2_12) rfl ?_
          show Go p e below T13 (mkF m 13 #[.val (.long q1), .second, iv 2] [(.long q1)]) _
          refine st14 _ ?_
          show Go p e below T14 (mkF m 16 #[.val (.long q1), .second, iv 2] [(.ref a), (.long q1)]) _
          refine XS.iloadN X14.here hx rfl (hb hby d2_16) rfl ?_
          show Go p e below T14 (mkF m 17 #[.val (.long q1), .second, iv 2] [(.int 2), (.ref a), (.long q1)]) _
          refine XS.iconst X14.here hx rfl (hb hby d2_17) ?_
          show Go p e below T14 (mkF m 18 #[.val (.long q1), .second, iv 2] [(.int 1), (.int 2), (.ref a), (.long q1)]) _
          refine XS.iadd X14.here hx rfl (hb hby d2_18) rfl ?_
          show Go p e below T14 (mkF m 19 #[.val (.long q1), .second, iv 2] [(.int 3), (.ref a), (.long q1)]) _
          refine X14.laload hx (j := (3 : Int32)) (v := (.long (65536 : Int64))) (by rw [e14]; exact Ar.1) (State.isArrayOf_alike hZ.alike Ar.2.1) Ar.2.2 hin15 (Has.at Ha hin15 rfl) (g := (mkF m 19 #[.val (.long q1), .second, iv 2] [(.int 3), (.ref a), (.long q1)])) rfl rfl (hb hby d2_19) _ ?_
          show Go p e below T14 (mkF m 20 #[.val (.long q1), .second, iv 2] [(.long 65536), (.long q1)]) _
          refine XS.lcmp X14.here hx rfl (hb hby d2_20) rfl ?_
          show Go p e below T14 (mkF m 21 #[.val (.long q1), .second, iv 2] [(.int (lcmpW q1 (65536 : Int64)))]) _
          exact kt)
      by_cases hc21_17 : q1 < (65536 : Int64)
      · have pre18 : ∀ t_, Go p e below T14 (mkF m 33 #[.val (.long q1), .second, iv 2] [(.int 3)]) t_ → Go p e below s₁ (entryFrame m #[(.long q1)] 3) t_ := fun t_ kt => pre16 _ (by
            show Go p e below T14 (mkF m 21 #[.val (.long q1), .second, iv 2] [(.int (lcmpW q1 (65536 : Int64)))]) _
            refine XS.ifYes X14.here hx rfl (pc0 := 21) (pc' := 30) rfl (hb hby d2_21) rfl ((if0 _ _).trans (tlt ((lw_lt _ _).mpr hc21_17)).1) (by decide) (by decide) ?_
            show Go p e below T14 (mkF m 30 #[.val (.long q1), .second, iv 2] []) _
            refine XS.iloadN X14.here hx rfl (hb hby d2_30) rfl ?_
            show Go p e below T14 (mkF m 31 #[.val (.long q1), .second, iv 2] [(.int 2)]) _
            refine XS.iconst X14.here hx rfl (hb hby d2_31) ?_
            show Go p e below T14 (mkF m 32 #[.val (.long q1), .second, iv 2] [(.int 1), (.int 2)]) _
            refine XS.iadd X14.here hx rfl (hb hby d2_32) rfl ?_
            show Go p e below T14 (mkF m 33 #[.val (.long q1), .second, iv 2] [(.int 3)]) _
            exact kt)
        obtain ⟨fs, hr, hrun, hended, hW, hsame⟩ := X14.leave (v := some (.int 3)) (fun h => by rw [Bd.returns] at h; cases h)
        refine ⟨_, _, pre18 _ ?_, hrun, hended, _, _, rfl, ?_, ⟨_, rfl⟩, hW, hsame.mono (by decide) (by decide)⟩
        · show Steps p.tables e below (T14.setTop (mkF m 33 #[.val (.long q1), .second, iv 2] [(.int 3)])) _
          exact retI X14 hx Bd.returns (hb hby d2_33) hr
        · show Q_rmU Z q1 a kc h0 n0 _ T14.heap _
          rw [e14]
          exact ⟨by simp [ulen, hc21_5, hc21_11, hc21_17], N0, rfl⟩
      · obtain ⟨T19, X19, e19, st19⟩ := getS2 X14 hx hZ hown (host := "") (Or.inl (hwi hw 9 rfl)) Via.refl e14 hS (g := (mkF m 5 #[.val (.long q1), .second, iv 3] [(.int 4)])) rfl (hb hby d2_5)
        obtain ⟨T20, X20, e20, st20⟩ := getS2 X19 hx hZ hown (host := "") (Or.inl (hwi hw 9 rfl)) Via.refl e19 hS (g := (mkF m 13 #[.val (.long q1), .second, iv 3] [(.long q1)])) rfl (hb hby d2_13)
        have hin21 : ¬ ((4 : Int32) < 0 ∨ cl.slots.size ≤ ((4 : Int32)).toNatClampNeg) := inb_of Sa ⟨by decide, by decide⟩
        have pre22 : ∀ t_, Go p e below T20 (mkF m 21 #[.val (.long q1), .second, iv 3] [(.int (lcmpW q1 (2097152 : Int64)))]) t_ → Go p e below s₁ (entryFrame m #[(.long q1)] 3) t_ := fun t_ kt => pre16 _ (by
            show Go p e below T14 (mkF m 21 #[.val (.long q1), .second, iv 2] [(.int (lcmpW q1 (65536 : Int64)))]) _
            refine XS.ifNo X14.here hx rfl (hb hby d2_21) rfl ((if0 _ _).trans (flt (fun q => hc21_17 ((lw_lt _ _).mp q))).1) ?_
            show Go p e below T14 (mkF m 24 #[.val (.long q1), .second, iv 2] []) _
            refine XS.iinc X14.here hx rfl (hb hby d2_24) rfl (l' := #[.val (.long q1), .second, iv 3]) rfl ?_
            show Go p e below T14 (mkF m 27 #[.val (.long q1), .second, iv 3] []) _
            refine XS.goto X14.here hx rfl (pc0 := 27) (pc' := 2) rfl (hb hby d2_27) (by decide) (by decide) ?_
            show Go p e below T14 (mkF m 2 #[.val (.long q1), .second, iv 3] []) _
            refine XS.iloadN X14.here hx rfl (hb hby d2_2) rfl ?_
            show Go p e below T14 (mkF m 3 #[.val (.long q1), .second, iv 3] [(.int 3)]) _
            refine XS.iconst X14.here hx rfl (hb hby d2_3) ?_
            show Go p e below T14 (mkF m 4 #[.val (.long q1), .second, iv 3] [(.int 1), (.int 3)]) _
            refine XS.iadd X14.here hx rfl (hb hby d2_4) rfl ?_
            show Go p e below T14 (mkF m 5 #[.val (.long q1), .second, iv 3] [(.int 4)]) _
            refine st19 _ ?_
            show Go p e below T19 (mkF m 8 #[.val (.long q1), .second, iv 3] [(.ref a), (.int 4)]) _
            refine X19.arraylength hx (by rw [e19]; exact Ar.1) (State.isArrayOf_alike hZ.alike Ar.2.1) (g := (mkF m 8 #[.val (.long q1), .second, iv 3] [(.ref a), (.int 4)])) rfl rfl (hb hby d2_8) _ ?_
            rw [len_of Sa Na]
            show Go p e below T19 (mkF m 9 #[.val (.long q1), .second, iv 3] [(.int 6), (.int 4)]) _
            refine XS.icmpNo X19.here hx rfl (hb hby d2_9) rfl (tlt ((by decide) : (4 : Int32) < (6 : Int32))).2.1 ?_
            show Go p e below T19 (mkF m 12 #[.val (.long q1), .second, iv 3] []) _
            refine XS.lloadN X19.here hx rfl (hb hby d2_12) rfl ?_
            show Go p e below T19 (mkF m 13 #[.val (.long q1), .second, iv 3] [(.long q1)]) _
            refine st20 _ ?_
            show Go p e below T20 (mkF m 16 #[.val (.long q1), .second, iv 3] [(.ref a), (.long q1)]) _
            refine XS.iloadN X20.here hx rfl (hb hby d2_16) rfl ?_
            show Go p e below T20 (mkF m 17 #[.val (.long q1), .second, iv 3] [(.int 3), (.ref a), (.long q1)]) _
            refine XS.iconst X20.here hx rfl (hb hby d2_17) ?_
            show Go p e below T20 (mkF m 18 #[.val (.long q1), .second, iv 3] [(.int 1), (.int 3), (.ref a), (.long q1)]) _
            refine XS.iadd X20.here hx rfl (hb hby d2_18) rfl ?_
            show Go p e below T20 (mkF m 19 #[.val (.long q1), .second, iv 3] [(.int 4), (.ref a), (.long q1)]) _
            refine X20.laload hx (j := (4 : Int32)) (v := (.long (2097152 : Int64))) (by rw [e20]; exact Ar.1) (State.isArrayOf_alike hZ.alike Ar.2.1) Ar.2.2 hin21 (Has.at Ha hin21 rfl) (g := (mkF m 19 #[.val (.long q1), .second, iv 3] [(.int 4), (.ref a), (.long q1)])) rfl rfl (hb hby d2_19) _ ?_
            show Go p e below T20 (mkF m 20 #[.val (.long q1), .second, iv 3] [(.long 2097152), (.long q1)]) _
            refine XS.lcmp X20.here hx rfl (hb hby d2_20) rfl ?_
            show Go p e below T20 (mkF m 21 #[.val (.long q1), .second, iv 3] [(.int (lcmpW q1 (2097152 : Int64)))]) _
            exact kt)
        by_cases hc21_23 : q1 < (2097152 : Int64)
        · have pre24 : ∀ t_, Go p e below T20 (mkF m 33 #[.val (.long q1), .second, iv 3] [(.int 4)]) t_ → Go p e below s₁ (entryFrame m #[(.long q1)] 3) t_ := fun t_ kt => pre22 _ (by
              show Go p e below T20 (mkF m 21 #[.val (.long q1), .second, iv 3] [(.int (lcmpW q1 (2097152 : Int64)))]) _
              refine XS.ifYes X20.here hx rfl (pc0 := 21) (pc' := 30) rfl (hb hby d2_21) rfl ((if0 _ _).trans (tlt ((lw_lt _ _).mpr hc21_23)).1) (by decide) (by decide) ?_
              show Go p e below T20 (mkF m 30 #[.val (.long q1), .second, iv 3] []) _
              refine XS.iloadN X20.here hx rfl (hb hby d2_30) rfl ?_
              show Go p e below T20 (mkF m 31 #[.val (.long q1), .second, iv 3] [(.int 3)]) _
              refine XS.iconst X20.here hx rfl (hb hby d2_31) ?_
              show Go p e below T20 (mkF m 32 #[.val (.long q1), .second, iv 3] [(.int 1), (.int 3)]) _
              refine XS.iadd X20.here hx rfl (hb hby d2_32) rfl ?_
              show Go p e below T20 (mkF m 33 #[.val (.long q1), .second, iv 3] [(.int 4)]) _
              exact kt)
          obtain ⟨fs, hr, hrun, hended, hW, hsame⟩ := X20.leave (v := some (.int 4)) (fun h => by rw [Bd.returns] at h; cases h)
          refine ⟨_, _, pre24 _ ?_, hrun, hended, _, _, rfl, ?_, ⟨_, rfl⟩, hW, hsame.mono (by decide) (by decide)⟩
          · show Steps p.tables e below (T20.setTop (mkF m 33 #[.val (.long q1), .second, iv 3] [(.int 4)])) _
            exact retI X20 hx Bd.returns (hb hby d2_33) hr
          · show Q_rmU Z q1 a kc h0 n0 _ T20.heap _
            rw [e20]
            exact ⟨by simp [ulen, hc21_5, hc21_11, hc21_17, hc21_23], N0, rfl⟩
        · obtain ⟨T25, X25, e25, st25⟩ := getS2 X20 hx hZ hown (host := "") (Or.inl (hwi hw 9 rfl)) Via.refl e20 hS (g := (mkF m 5 #[.val (.long q1), .second, iv 4] [(.int 5)])) rfl (hb hby d2_5)
          obtain ⟨T26, X26, e26, st26⟩ := getS2 X25 hx hZ hown (host := "") (Or.inl (hwi hw 9 rfl)) Via.refl e25 hS (g := (mkF m 13 #[.val (.long q1), .second, iv 4] [(.long q1)])) rfl (hb hby d2_13)
          have hin27 : ¬ ((5 : Int32) < 0 ∨ cl.slots.size ≤ ((5 : Int32)).toNatClampNeg) := inb_of Sa ⟨by decide, by decide⟩
          have pre28 : ∀ t_, Go p e below T26 (mkF m 21 #[.val (.long q1), .second, iv 4] [(.int (lcmpW q1 (67108864 : Int64)))]) t_ → Go p e below s₁ (entryFrame m #[(.long q1)] 3) t_ := fun t_ kt => pre22 _ (by
              show Go p e below T20 (mkF m 21 #[.val (.long q1), .second, iv 3] [(.int (lcmpW q1 (2097152 : Int64)))]) _
              refine XS.ifNo X20.here hx rfl (hb hby d2_21) rfl ((if0 _ _).trans (flt (fun q => hc21_23 ((lw_lt _ _).mp q))).1) ?_
              show Go p e below T20 (mkF m 24 #[.val (.long q1), .second, iv 3] []) _
              refine XS.iinc X20.here hx rfl (hb hby d2_24) rfl (l' := #[.val (.long q1), .second, iv 4]) rfl ?_
              show Go p e below T20 (mkF m 27 #[.val (.long q1), .second, iv 4] []) _
              refine XS.goto X20.here hx rfl (pc0 := 27) (pc' := 2) rfl (hb hby d2_27) (by decide) (by decide) ?_
              show Go p e below T20 (mkF m 2 #[.val (.long q1), .second, iv 4] []) _
              refine XS.iloadN X20.here hx rfl (hb hby d2_2) rfl ?_
              show Go p e below T20 (mkF m 3 #[.val (.long q1), .second, iv 4] [(.int 4)]) _
              refine XS.iconst X20.here hx rfl (hb hby d2_3) ?_
              show Go p e below T20 (mkF m 4 #[.val (.long q1), .second, iv 4] [(.int 1), (.int 4)]) _
              refine XS.iadd X20.here hx rfl (hb hby d2_4) rfl ?_
              show Go p e below T20 (mkF m 5 #[.val (.long q1), .second, iv 4] [(.int 5)]) _
              refine st25 _ ?_
              show Go p e below T25 (mkF m 8 #[.val (.long q1), .second, iv 4] [(.ref a), (.int 5)]) _
              refine X25.arraylength hx (by rw [e25]; exact Ar.1) (State.isArrayOf_alike hZ.alike Ar.2.1) (g := (mkF m 8 #[.val (.long q1), .second, iv 4] [(.ref a), (.int 5)])) rfl rfl (hb hby d2_8) _ ?_
              rw [len_of Sa Na]
              show Go p e below T25 (mkF m 9 #[.val (.long q1), .second, iv 4] [(.int 6), (.int 5)]) _
              refine XS.icmpNo X25.here hx rfl (hb hby d2_9) rfl (tlt ((by decide) : (5 : Int32) < (6 : Int32))).2.1 ?_
              show Go p e below T25 (mkF m 12 #[.val (.long q1), .second, iv 4] []) _
              refine XS.lloadN X25.here hx rfl (hb hby d2_12) rfl ?_
              show Go p e below T25 (mkF m 13 #[.val (.long q1), .second, iv 4] [(.long q1)]) _
              refine st26 _ ?_
              show Go p e below T26 (mkF m 16 #[.val (.long q1), .second, iv 4] [(.ref a), (.long q1)]) _
              refine XS.iloadN X26.here hx rfl (hb hby d2_16) rfl ?_
              show Go p e below T26 (mkF m 17 #[.val (.long q1), .second, iv 4] [(.int 4), (.ref a), (.long q1)]) _
              refine XS.iconst X26.here hx rfl (hb hby d2_17) ?_
              show Go p e below T26 (mkF m 18 #[.val (.long q1), .second, iv 4] [(.int 1), (.int 4), (.ref a), (.long q1)]) _
              refine XS.iadd X26.here hx rfl (hb hby d2_18) rfl ?_
              show Go p e below T26 (mkF m 19 #[.val (.long q1), .second, iv 4] [(.int 5), (.ref a), (.long q1)]) _
              refine X26.laload hx (j := (5 : Int32)) (v := (.long (67108864 : Int64))) (by rw [e26]; exact Ar.1) (State.isArrayOf_alike hZ.alike Ar.2.1) Ar.2.2 hin27 (Has.at Ha hin27 rfl) (g := (mkF m 19 #[.val (.long q1), .second, iv 4] [(.int 5), (.ref a), (.long q1)])) rfl rfl (hb hby d2_19) _ ?_
              show Go p e below T26 (mkF m 20 #[.val (.long q1), .second, iv 4] [(.long 67108864), (.long q1)]) _
              refine XS.lcmp X26.here hx rfl (hb hby d2_20) rfl ?_
              show Go p e below T26 (mkF m 21 #[.val (.long q1), .second, iv 4] [(.int (lcmpW q1 (67108864 : Int64)))]) _
              exact kt)
          by_cases hc21_29 : q1 < (67108864 : Int64)
          · have pre30 : ∀ t_, Go p e below T26 (mkF m 33 #[.val (.long q1), .second, iv 4] [(.int 5)]) t_ → Go p e below s₁ (entryFrame m #[(.long q1)] 3) t_ := fun t_ kt => pre28 _ (by
                show Go p e below T26 (mkF m 21 #[.val (.long q1), .second, iv 4] [(.int (lcmpW q1 (67108864 : Int64)))]) _
                refine XS.ifYes X26.here hx rfl (pc0 := 21) (pc' := 30) rfl (hb hby d2_21) rfl ((if0 _ _).trans (tlt ((lw_lt _ _).mpr hc21_29)).1) (by decide) (by decide) ?_
                show Go p e below T26 (mkF m 30 #[.val (.long q1), .second, iv 4] []) _
                refine XS.iloadN X26.here hx rfl (hb hby d2_30) rfl ?_
                show Go p e below T26 (mkF m 31 #[.val (.long q1), .second, iv 4] [(.int 4)]) _
                refine XS.iconst X26.here hx rfl (hb hby d2_31) ?_
                show Go p e below T26 (mkF m 32 #[.val (.long q1), .second, iv 4] [(.int 1), (.int 4)]) _
                refine XS.iadd X26.here hx rfl (hb hby d2_32) rfl ?_
                show Go p e below T26 (mkF m 33 #[.val (.long q1), .second, iv 4] [(.int 5)]) _
                exact kt)
            obtain ⟨fs, hr, hrun, hended, hW, hsame⟩ := X26.leave (v := some (.int 5)) (fun h => by rw [Bd.returns] at h; cases h)
            refine ⟨_, _, pre30 _ ?_, hrun, hended, _, _, rfl, ?_, ⟨_, rfl⟩, hW, hsame.mono (by decide) (by decide)⟩
            · show Steps p.tables e below (T26.setTop (mkF m 33 #[.val (.long q1), .second, iv 4] [(.int 5)])) _
              exact retI X26 hx Bd.returns (hb hby d2_33) hr
            · show Q_rmU Z q1 a kc h0 n0 _ T26.heap _
              rw [e26]
              exact ⟨by simp [ulen, hc21_5, hc21_11, hc21_17, hc21_23, hc21_29], N0, rfl⟩
          · obtain ⟨T31, X31, e31, st31⟩ := getS2 X26 hx hZ hown (host := "") (Or.inl (hwi hw 9 rfl)) Via.refl e26 hS (g := (mkF m 5 #[.val (.long q1), .second, iv 5] [(.int 6)])) rfl (hb hby d2_5)
            have pre32 : ∀ t_, Go p e below T31 (mkF m 33 #[.val (.long q1), .second, iv 5] [(.int 6)]) t_ → Go p e below s₁ (entryFrame m #[(.long q1)] 3) t_ := fun t_ kt => pre28 _ (by
                show Go p e below T26 (mkF m 21 #[.val (.long q1), .second, iv 4] [(.int (lcmpW q1 (67108864 : Int64)))]) _
                refine XS.ifNo X26.here hx rfl (hb hby d2_21) rfl ((if0 _ _).trans (flt (fun q => hc21_29 ((lw_lt _ _).mp q))).1) ?_
                show Go p e below T26 (mkF m 24 #[.val (.long q1), .second, iv 4] []) _
                refine XS.iinc X26.here hx rfl (hb hby d2_24) rfl (l' := #[.val (.long q1), .second, iv 5]) rfl ?_
                show Go p e below T26 (mkF m 27 #[.val (.long q1), .second, iv 5] []) _
                refine XS.goto X26.here hx rfl (pc0 := 27) (pc' := 2) rfl (hb hby d2_27) (by decide) (by decide) ?_
                show Go p e below T26 (mkF m 2 #[.val (.long q1), .second, iv 5] []) _
                refine XS.iloadN X26.here hx rfl (hb hby d2_2) rfl ?_
                show Go p e below T26 (mkF m 3 #[.val (.long q1), .second, iv 5] [(.int 5)]) _
                refine XS.iconst X26.here hx rfl (hb hby d2_3) ?_
                show Go p e below T26 (mkF m 4 #[.val (.long q1), .second, iv 5] [(.int 1), (.int 5)]) _
                refine XS.iadd X26.here hx rfl (hb hby d2_4) rfl ?_
                show Go p e below T26 (mkF m 5 #[.val (.long q1), .second, iv 5] [(.int 6)]) _
                refine st31 _ ?_
                show Go p e below T31 (mkF m 8 #[.val (.long q1), .second, iv 5] [(.ref a), (.int 6)]) _
                refine X31.arraylength hx (by rw [e31]; exact Ar.1) (State.isArrayOf_alike hZ.alike Ar.2.1) (g := (mkF m 8 #[.val (.long q1), .second, iv 5] [(.ref a), (.int 6)])) rfl rfl (hb hby d2_8) _ ?_
                rw [len_of Sa Na]
                show Go p e below T31 (mkF m 9 #[.val (.long q1), .second, iv 5] [(.int 6), (.int 6)]) _
                refine XS.icmpYes X31.here hx rfl (pc0 := 9) (pc' := 30) rfl (hb hby d2_9) rfl (flt ((by decide) : ¬ ((6 : Int32) < (6 : Int32)))).2.1 (by decide) (by decide) ?_
                show Go p e below T31 (mkF m 30 #[.val (.long q1), .second, iv 5] []) _
                refine XS.iloadN X31.here hx rfl (hb hby d2_30) rfl ?_
                show Go p e below T31 (mkF m 31 #[.val (.long q1), .second, iv 5] [(.int 5)]) _
                refine XS.iconst X31.here hx rfl (hb hby d2_31) ?_
                show Go p e below T31 (mkF m 32 #[.val (.long q1), .second, iv 5] [(.int 1), (.int 5)]) _
                refine XS.iadd X31.here hx rfl (hb hby d2_32) rfl ?_
                show Go p e below T31 (mkF m 33 #[.val (.long q1), .second, iv 5] [(.int 6)]) _
                exact kt)
            obtain ⟨fs, hr, hrun, hended, hW, hsame⟩ := X31.leave (v := some (.int 6)) (fun h => by rw [Bd.returns] at h; cases h)
            refine ⟨_, _, pre32 _ ?_, hrun, hended, _, _, rfl, ?_, ⟨_, rfl⟩, hW, hsame.mono (by decide) (by decide)⟩
            · show Steps p.tables e below (T31.setTop (mkF m 33 #[.val (.long q1), .second, iv 5] [(.int 6)])) _
              exact retI X31 hx Bd.returns (hb hby d2_33) hr
            · show Q_rmU Z q1 a kc h0 n0 _ T31.heap _
              rw [e31]
              exact ⟨by simp [ulen, hc21_5, hc21_11, hc21_17, hc21_23, hc21_29], N0, rfl⟩
theorem ef_3 (m : MethodId) (x0 : Int64) : entryFrame m #[(.long x0)] 2 = mkF m 0 #[.val (.long x0), .second] [] := by first | (simp [entryFrame, mkF, argsToLocals, Value.category]; done) | rfl
theorem pn_com_example_tagwire_tagwire_wire_NumberFormUtf8LengthPinLaw : plainName "com/example/tagwire/tagwire/wire/NumberFormUtf8LengthPinLaw" = true := by first | (simp [plainName, overriddenIn]; done) | decide +kernel
theorem d3_0 : decode method_2_code 0 = .ok (.lload_n 0, 1) := by decide +kernel
theorem d3_1 : decode method_2_code 1 = .ok (.bipush 7, 2) := by decide +kernel
theorem d3_3 : decode method_2_code 3 = .ok (.lushr, 1) := by decide +kernel
theorem d3_4 : decode method_2_code 4 = .ok (.lconst 0, 1) := by decide +kernel
theorem d3_5 : decode method_2_code 5 = .ok (.lcmp, 1) := by decide +kernel
theorem d3_6 : decode method_2_code 6 = .ok (.ifCond .ne 5, 3) := by decide +kernel
theorem d3_9 : decode method_2_code 9 = .ok (.iconst 1, 1) := by decide +kernel
theorem d3_10 : decode method_2_code 10 = .ok (.ireturn, 1) := by decide +kernel
theorem d3_11 : decode method_2_code 11 = .ok (.lload_n 0, 1) := by decide +kernel
theorem d3_12 : decode method_2_code 12 = .ok (.bipush 11, 2) := by decide +kernel
theorem d3_14 : decode method_2_code 14 = .ok (.lushr, 1) := by decide +kernel
theorem d3_15 : decode method_2_code 15 = .ok (.lconst 0, 1) := by decide +kernel
theorem d3_16 : decode method_2_code 16 = .ok (.lcmp, 1) := by decide +kernel
theorem d3_17 : decode method_2_code 17 = .ok (.ifCond .ne 5, 3) := by decide +kernel
theorem d3_20 : decode method_2_code 20 = .ok (.iconst 2, 1) := by decide +kernel
theorem d3_21 : decode method_2_code 21 = .ok (.ireturn, 1) := by decide +kernel
theorem d3_22 : decode method_2_code 22 = .ok (.lload_n 0, 1) := by decide +kernel
theorem d3_23 : decode method_2_code 23 = .ok (.bipush 16, 2) := by decide +kernel
theorem d3_25 : decode method_2_code 25 = .ok (.lushr, 1) := by decide +kernel
theorem d3_26 : decode method_2_code 26 = .ok (.lconst 0, 1) := by decide +kernel
theorem d3_27 : decode method_2_code 27 = .ok (.lcmp, 1) := by decide +kernel
theorem d3_28 : decode method_2_code 28 = .ok (.ifCond .ne 5, 3) := by decide +kernel
theorem d3_31 : decode method_2_code 31 = .ok (.iconst 3, 1) := by decide +kernel
theorem d3_32 : decode method_2_code 32 = .ok (.ireturn, 1) := by decide +kernel
theorem d3_33 : decode method_2_code 33 = .ok (.lload_n 0, 1) := by decide +kernel
theorem d3_34 : decode method_2_code 34 = .ok (.bipush 21, 2) := by decide +kernel
theorem d3_36 : decode method_2_code 36 = .ok (.lushr, 1) := by decide +kernel
theorem d3_37 : decode method_2_code 37 = .ok (.lconst 0, 1) := by decide +kernel
theorem d3_38 : decode method_2_code 38 = .ok (.lcmp, 1) := by decide +kernel
theorem d3_39 : decode method_2_code 39 = .ok (.ifCond .ne 5, 3) := by decide +kernel
theorem d3_42 : decode method_2_code 42 = .ok (.iconst 4, 1) := by decide +kernel
theorem d3_43 : decode method_2_code 43 = .ok (.ireturn, 1) := by decide +kernel
theorem d3_44 : decode method_2_code 44 = .ok (.lload_n 0, 1) := by decide +kernel
theorem d3_45 : decode method_2_code 45 = .ok (.bipush 26, 2) := by decide +kernel
theorem d3_47 : decode method_2_code 47 = .ok (.lushr, 1) := by decide +kernel
theorem d3_48 : decode method_2_code 48 = .ok (.lconst 0, 1) := by decide +kernel
theorem d3_49 : decode method_2_code 49 = .ok (.lcmp, 1) := by decide +kernel
theorem d3_50 : decode method_2_code 50 = .ok (.ifCond .ne 5, 3) := by decide +kernel
theorem d3_53 : decode method_2_code 53 = .ok (.iconst 5, 1) := by decide +kernel
theorem d3_54 : decode method_2_code 54 = .ok (.ireturn, 1) := by decide +kernel
theorem d3_55 : decode method_2_code 55 = .ok (.bipush 6, 2) := by decide +kernel
theorem d3_57 : decode method_2_code 57 = .ok (.ireturn, 1) := by decide +kernel
def Q_rmR (Z : State) (q1 : Int64) (h0 : Heap) (n0 : Nat) (v : Option Value) (h : Heap) (L : List Loc) : Prop := v = some (.int (ulen q1)) ∧ Fr n0 L ∧ h = h0
set_option maxRecDepth 65536 in
set_option maxHeartbeats 40000000 in
theorem rmR (l : Launch) (Z : State) (a0 : Array Value) (hw : ∀ d ∈ tables_1, d.before a0 Z = true) (ws : List Jvm.Cond) (q1 : Int64) (h0 : Heap) (n0 : Nat) (Z0 : n0 ≤ h0.size) (hq1 : ¬ q1 < (0 : Int64)) :
    MetFree l (⟨"com/example/tagwire/tagwire/wire/NumberFormUtf8LengthPinLaw", "reference", "(J)I"⟩ : MethodName) (head1 (Jvm.Cond.code (⟨"com/example/tagwire/tagwire/wire/NumberFormUtf8LengthPinLaw", "reference", "(J)I"⟩ : MethodName) method_2_code 2 (some .int) :: ws) ({ frames := 0, cells := 0, slots := 0, locals := 0 } : Room)) (fun av_ U_ => av_ = #[(.long q1)] ∧ Z.Warmed39 U_.vm ∧ U_.heap = h0) (fun _ _ _ _ _ => True) (fun _ U_ o_ V_ => ∃ v_ L_, o_ = .returned v_ ∧ Q_rmR Z q1 h0 n0 v_ V_.heap L_ ∧ FrameEnd U_ o_ V_ L_ ({ frames := 0, cells := 0, slots := 0, locals := 0 } : Room).cells ({ frames := 0, cells := 0, slots := 0, locals := 0 } : Room).slots) := by
  refine MetFree.of_bodySF (plainFor_of_name pn_com_example_tagwire_tagwire_wire_NumberFormUtf8LengthPinLaw) hisR ?_
  intro p e s m args below meth c s₁ Bd hml0 hP hK
  obtain ⟨rfl, hZ, hh⟩ := hP
  have hx := Bd.exec
  have hby := Bd.bytes
  have hml : c.maxLocals = 2 := hml0
  have hown : s.vm.findClass "com/example/tagwire/tagwire/wire/NumberFormUtf8LengthPinLaw" = some m.cls := findClass_of_methodNamed Bd.named
  have hnm := (name_of_methodNamed Bd.named Bd.method).1
  have X0 : Stand p l e ({ frames := 0, cells := 0, slots := 0, locals := 0 } : Room) s m #[(.long q1)] below meth c s₁ [] 0 0 := Stand.of_body Bd
  have e0 : s₁.heap = h0 := by rw [← hh, Bd.state]; rfl
  have N0 := Fr.nil n0
  have pre0 : ∀ t_, Go p e below s₁ (mkF m 0 #[.val (.long q1), .second] []) t_ → Go p e below s₁ (entryFrame m #[(.long q1)] 2) t_ := fun t_ kt => castTop (ef_3 m q1) kt
  have pre1 : ∀ t_, Go p e below s₁ (mkF m 6 #[.val (.long q1), .second] [(.int (lcmpW ((q1.toUInt64 >>> ((7 : Int32) &&& 0x3f).toInt64.toUInt64).toInt64) (0 : Int64)))]) t_ → Go p e below s₁ (entryFrame m #[(.long q1)] 2) t_ := fun t_ kt => pre0 _ (by
      show Go p e below s₁ (mkF m 0 #[.val (.long q1), .second] []) _
      refine XS.lloadN X0.here hx rfl (hb hby d3_0) rfl ?_
      show Go p e below s₁ (mkF m 1 #[.val (.long q1), .second] [(.long q1)]) _
      refine XS.bipush X0.here hx rfl (hb hby d3_1) ?_
      show Go p e below s₁ (mkF m 3 #[.val (.long q1), .second] [(.int 7), (.long q1)]) _
      refine XS.lushr X0.here hx rfl (hb hby d3_3) rfl ?_
      show Go p e below s₁ (mkF m 4 #[.val (.long q1), .second] [(.long ((q1.toUInt64 >>> ((7 : Int32) &&& 0x3f).toInt64.toUInt64).toInt64))]) _
      refine XS.lconst X0.here hx rfl (hb hby d3_4) ?_
      show Go p e below s₁ (mkF m 5 #[.val (.long q1), .second] [(.long 0), (.long ((q1.toUInt64 >>> ((7 : Int32) &&& 0x3f).toInt64.toUInt64).toInt64))]) _
      refine XS.lcmp X0.here hx rfl (hb hby d3_5) rfl ?_
      show Go p e below s₁ (mkF m 6 #[.val (.long q1), .second] [(.int (lcmpW ((q1.toUInt64 >>> ((7 : Int32) &&& 0x3f).toInt64.toUInt64).toInt64) (0 : Int64)))]) _
      exact kt)
  by_cases hc6_2 : q1 < (128 : Int64)
  · have pre3 : ∀ t_, Go p e below s₁ (mkF m 10 #[.val (.long q1), .second] [(.int 1)]) t_ → Go p e below s₁ (entryFrame m #[(.long q1)] 2) t_ := fun t_ kt => pre1 _ (by
        show Go p e below s₁ (mkF m 6 #[.val (.long q1), .second] [(.int (lcmpW ((q1.toUInt64 >>> ((7 : Int32) &&& 0x3f).toInt64.toUInt64).toInt64) (0 : Int64)))]) _
        refine XS.ifNo X0.here hx rfl (hb hby d3_6) rfl ((if0 _ _).trans (teq ((own_sh7 hq1).mpr hc6_2)).2) ?_
        show Go p e below s₁ (mkF m 9 #[.val (.long q1), .second] []) _
        refine XS.iconst X0.here hx rfl (hb hby d3_9) ?_
        show Go p e below s₁ (mkF m 10 #[.val (.long q1), .second] [(.int 1)]) _
        exact kt)
    obtain ⟨fs, hr, hrun, hended, hW, hsame⟩ := X0.leave (v := some (.int 1)) (fun h => by rw [Bd.returns] at h; cases h)
    refine ⟨_, _, pre3 _ ?_, hrun, hended, _, _, rfl, ?_, ⟨_, rfl⟩, hW, hsame.mono (by decide) (by decide)⟩
    · show Steps p.tables e below (s₁.setTop (mkF m 10 #[.val (.long q1), .second] [(.int 1)])) _
      exact retI X0 hx Bd.returns (hb hby d3_10) hr
    · show Q_rmR Z q1 h0 n0 _ s₁.heap _
      rw [e0]
      exact ⟨by simp [ulen, hc6_2], N0, rfl⟩
  · have pre4 : ∀ t_, Go p e below s₁ (mkF m 17 #[.val (.long q1), .second] [(.int (lcmpW ((q1.toUInt64 >>> ((11 : Int32) &&& 0x3f).toInt64.toUInt64).toInt64) (0 : Int64)))]) t_ → Go p e below s₁ (entryFrame m #[(.long q1)] 2) t_ := fun t_ kt => pre1 _ (by
        show Go p e below s₁ (mkF m 6 #[.val (.long q1), .second] [(.int (lcmpW ((q1.toUInt64 >>> ((7 : Int32) &&& 0x3f).toInt64.toUInt64).toInt64) (0 : Int64)))]) _
        refine XS.ifYes X0.here hx rfl (pc0 := 6) (pc' := 11) rfl (hb hby d3_6) rfl ((if0 _ _).trans (feq (fun q => hc6_2 ((own_sh7 hq1).mp q))).2) (by decide) (by decide) ?_
        show Go p e below s₁ (mkF m 11 #[.val (.long q1), .second] []) _
        refine XS.lloadN X0.here hx rfl (hb hby d3_11) rfl ?_
        show Go p e below s₁ (mkF m 12 #[.val (.long q1), .second] [(.long q1)]) _
        refine XS.bipush X0.here hx rfl (hb hby d3_12) ?_
        show Go p e below s₁ (mkF m 14 #[.val (.long q1), .second] [(.int 11), (.long q1)]) _
        refine XS.lushr X0.here hx rfl (hb hby d3_14) rfl ?_
        show Go p e below s₁ (mkF m 15 #[.val (.long q1), .second] [(.long ((q1.toUInt64 >>> ((11 : Int32) &&& 0x3f).toInt64.toUInt64).toInt64))]) _
        refine XS.lconst X0.here hx rfl (hb hby d3_15) ?_
        show Go p e below s₁ (mkF m 16 #[.val (.long q1), .second] [(.long 0), (.long ((q1.toUInt64 >>> ((11 : Int32) &&& 0x3f).toInt64.toUInt64).toInt64))]) _
        refine XS.lcmp X0.here hx rfl (hb hby d3_16) rfl ?_
        show Go p e below s₁ (mkF m 17 #[.val (.long q1), .second] [(.int (lcmpW ((q1.toUInt64 >>> ((11 : Int32) &&& 0x3f).toInt64.toUInt64).toInt64) (0 : Int64)))]) _
        exact kt)
    by_cases hc17_5 : q1 < (2048 : Int64)
    · have pre6 : ∀ t_, Go p e below s₁ (mkF m 21 #[.val (.long q1), .second] [(.int 2)]) t_ → Go p e below s₁ (entryFrame m #[(.long q1)] 2) t_ := fun t_ kt => pre4 _ (by
          show Go p e below s₁ (mkF m 17 #[.val (.long q1), .second] [(.int (lcmpW ((q1.toUInt64 >>> ((11 : Int32) &&& 0x3f).toInt64.toUInt64).toInt64) (0 : Int64)))]) _
          refine XS.ifNo X0.here hx rfl (hb hby d3_17) rfl ((if0 _ _).trans (teq ((own_sh11 hq1).mpr hc17_5)).2) ?_
          show Go p e below s₁ (mkF m 20 #[.val (.long q1), .second] []) _
          refine XS.iconst X0.here hx rfl (hb hby d3_20) ?_
          show Go p e below s₁ (mkF m 21 #[.val (.long q1), .second] [(.int 2)]) _
          exact kt)
      obtain ⟨fs, hr, hrun, hended, hW, hsame⟩ := X0.leave (v := some (.int 2)) (fun h => by rw [Bd.returns] at h; cases h)
      refine ⟨_, _, pre6 _ ?_, hrun, hended, _, _, rfl, ?_, ⟨_, rfl⟩, hW, hsame.mono (by decide) (by decide)⟩
      · show Steps p.tables e below (s₁.setTop (mkF m 21 #[.val (.long q1), .second] [(.int 2)])) _
        exact retI X0 hx Bd.returns (hb hby d3_21) hr
      · show Q_rmR Z q1 h0 n0 _ s₁.heap _
        rw [e0]
        exact ⟨by simp [ulen, hc6_2, hc17_5], N0, rfl⟩
    · have pre7 : ∀ t_, Go p e below s₁ (mkF m 28 #[.val (.long q1), .second] [(.int (lcmpW ((q1.toUInt64 >>> ((16 : Int32) &&& 0x3f).toInt64.toUInt64).toInt64) (0 : Int64)))]) t_ → Go p e below s₁ (entryFrame m #[(.long q1)] 2) t_ := fun t_ kt => pre4 _ (by
          show Go p e below s₁ (mkF m 17 #[.val (.long q1), .second] [(.int (lcmpW ((q1.toUInt64 >>> ((11 : Int32) &&& 0x3f).toInt64.toUInt64).toInt64) (0 : Int64)))]) _
          refine XS.ifYes X0.here hx rfl (pc0 := 17) (pc' := 22) rfl (hb hby d3_17) rfl ((if0 _ _).trans (feq (fun q => hc17_5 ((own_sh11 hq1).mp q))).2) (by decide) (by decide) ?_
          show Go p e below s₁ (mkF m 22 #[.val (.long q1), .second] []) _
          refine XS.lloadN X0.here hx rfl (hb hby d3_22) rfl ?_
          show Go p e below s₁ (mkF m 23 #[.val (.long q1), .second] [(.long q1)]) _
          refine XS.bipush X0.here hx rfl (hb hby d3_23) ?_
          show Go p e below s₁ (mkF m 25 #[.val (.long q1), .second] [(.int 16), (.long q1)]) _
          refine XS.lushr X0.here hx rfl (hb hby d3_25) rfl ?_
          show Go p e below s₁ (mkF m 26 #[.val (.long q1), .second] [(.long ((q1.toUInt64 >>> ((16 : Int32) &&& 0x3f).toInt64.toUInt64).toInt64))]) _
          refine XS.lconst X0.here hx rfl (hb hby d3_26) ?_
          show Go p e below s₁ (mkF m 27 #[.val (.long q1), .second] [(.long 0), (.long ((q1.toUInt64 >>> ((16 : Int32) &&& 0x3f).toInt64.toUInt64).toInt64))]) _
          refine XS.lcmp X0.here hx rfl (hb hby d3_27) rfl ?_
          show Go p e below s₁ (mkF m 28 #[.val (.long q1), .second] [(.int (lcmpW ((q1.toUInt64 >>> ((16 : Int32) &&& 0x3f).toInt64.toUInt64).toInt64) (0 : Int64)))]) _
          exact kt)
      by_cases hc28_8 : q1 < (65536 : Int64)
      · have pre9 : ∀ t_, Go p e below s₁ (mkF m 32 #[.val (.long q1), .second] [(.int 3)]) t_ → Go p e below s₁ (entryFrame m #[(.long q1)] 2) t_ := fun t_ kt => pre7 _ (by
            show Go p e below s₁ (mkF m 28 #[.val (.long q1), .second] [(.int (lcmpW ((q1.toUInt64 >>> ((16 : Int32) &&& 0x3f).toInt64.toUInt64).toInt64) (0 : Int64)))]) _
            refine XS.ifNo X0.here hx rfl (hb hby d3_28) rfl ((if0 _ _).trans (teq ((own_sh16 hq1).mpr hc28_8)).2) ?_
            show Go p e below s₁ (mkF m 31 #[.val (.long q1), .second] []) _
            refine XS.iconst X0.here hx rfl (hb hby d3_31) ?_
            show Go p e below s₁ (mkF m 32 #[.val (.long q1), .second] [(.int 3)]) _
            exact kt)
        obtain ⟨fs, hr, hrun, hended, hW, hsame⟩ := X0.leave (v := some (.int 3)) (fun h => by rw [Bd.returns] at h; cases h)
        refine ⟨_, _, pre9 _ ?_, hrun, hended, _, _, rfl, ?_, ⟨_, rfl⟩, hW, hsame.mono (by decide) (by decide)⟩
        · show Steps p.tables e below (s₁.setTop (mkF m 32 #[.val (.long q1), .second] [(.int 3)])) _
          exact retI X0 hx Bd.returns (hb hby d3_32) hr
        · show Q_rmR Z q1 h0 n0 _ s₁.heap _
          rw [e0]
          exact ⟨by simp [ulen, hc6_2, hc17_5, hc28_8], N0, rfl⟩
      · have pre10 : ∀ t_, Go p e below s₁ (mkF m 39 #[.val (.long q1), .second] [(.int (lcmpW ((q1.toUInt64 >>> ((21 : Int32) &&& 0x3f).toInt64.toUInt64).toInt64) (0 : Int64)))]) t_ → Go p e below s₁ (entryFrame m #[(.long q1)] 2) t_ := fun t_ kt => pre7 _ (by
            show Go p e below s₁ (mkF m 28 #[.val (.long q1), .second] [(.int (lcmpW ((q1.toUInt64 >>> ((16 : Int32) &&& 0x3f).toInt64.toUInt64).toInt64) (0 : Int64)))]) _
            refine XS.ifYes X0.here hx rfl (pc0 := 28) (pc' := 33) rfl (hb hby d3_28) rfl ((if0 _ _).trans (feq (fun q => hc28_8 ((own_sh16 hq1).mp q))).2) (by decide) (by decide) ?_
            show Go p e below s₁ (mkF m 33 #[.val (.long q1), .second] []) _
            refine XS.lloadN X0.here hx rfl (hb hby d3_33) rfl ?_
            show Go p e below s₁ (mkF m 34 #[.val (.long q1), .second] [(.long q1)]) _
            refine XS.bipush X0.here hx rfl (hb hby d3_34) ?_
            show Go p e below s₁ (mkF m 36 #[.val (.long q1), .second] [(.int 21), (.long q1)]) _
            refine XS.lushr X0.here hx rfl (hb hby d3_36) rfl ?_
            show Go p e below s₁ (mkF m 37 #[.val (.long q1), .second] [(.long ((q1.toUInt64 >>> ((21 : Int32) &&& 0x3f).toInt64.toUInt64).toInt64))]) _
            refine XS.lconst X0.here hx rfl (hb hby d3_37) ?_
            show Go p e below s₁ (mkF m 38 #[.val (.long q1), .second] [(.long 0), (.long ((q1.toUInt64 >>> ((21 : Int32) &&& 0x3f).toInt64.toUInt64).toInt64))]) _
            refine XS.lcmp X0.here hx rfl (hb hby d3_38) rfl ?_
            show Go p e below s₁ (mkF m 39 #[.val (.long q1), .second] [(.int (lcmpW ((q1.toUInt64 >>> ((21 : Int32) &&& 0x3f).toInt64.toUInt64).toInt64) (0 : Int64)))]) _
            exact kt)
        by_cases hc39_11 : q1 < (2097152 : Int64)
        · have pre12 : ∀ t_, Go p e below s₁ (mkF m 43 #[.val (.long q1), .second] [(.int 4)]) t_ → Go p e below s₁ (entryFrame m #[(.long q1)] 2) t_ := fun t_ kt => pre10 _ (by
              show Go p e below s₁ (mkF m 39 #[.val (.long q1), .second] [(.int (lcmpW ((q1.toUInt64 >>> ((21 : Int32) &&& 0x3f).toInt64.toUInt64).toInt64) (0 : Int64)))]) _
              refine XS.ifNo X0.here hx rfl (hb hby d3_39) rfl ((if0 _ _).trans (teq ((own_sh21 hq1).mpr hc39_11)).2) ?_
              show Go p e below s₁ (mkF m 42 #[.val (.long q1), .second] []) _
              refine XS.iconst X0.here hx rfl (hb hby d3_42) ?_
              show Go p e below s₁ (mkF m 43 #[.val (.long q1), .second] [(.int 4)]) _
              exact kt)
          obtain ⟨fs, hr, hrun, hended, hW, hsame⟩ := X0.leave (v := some (.int 4)) (fun h => by rw [Bd.returns] at h; cases h)
          refine ⟨_, _, pre12 _ ?_, hrun, hended, _, _, rfl, ?_, ⟨_, rfl⟩, hW, hsame.mono (by decide) (by decide)⟩
          · show Steps p.tables e below (s₁.setTop (mkF m 43 #[.val (.long q1), .second] [(.int 4)])) _
            exact retI X0 hx Bd.returns (hb hby d3_43) hr
          · show Q_rmR Z q1 h0 n0 _ s₁.heap _
            rw [e0]
            exact ⟨by simp [ulen, hc6_2, hc17_5, hc28_8, hc39_11], N0, rfl⟩
        · have pre13 : ∀ t_, Go p e below s₁ (mkF m 50 #[.val (.long q1), .second] [(.int (lcmpW ((q1.toUInt64 >>> ((26 : Int32) &&& 0x3f).toInt64.toUInt64).toInt64) (0 : Int64)))]) t_ → Go p e below s₁ (entryFrame m #[(.long q1)] 2) t_ := fun t_ kt => pre10 _ (by
              show Go p e below s₁ (mkF m 39 #[.val (.long q1), .second] [(.int (lcmpW ((q1.toUInt64 >>> ((21 : Int32) &&& 0x3f).toInt64.toUInt64).toInt64) (0 : Int64)))]) _
              refine XS.ifYes X0.here hx rfl (pc0 := 39) (pc' := 44) rfl (hb hby d3_39) rfl ((if0 _ _).trans (feq (fun q => hc39_11 ((own_sh21 hq1).mp q))).2) (by decide) (by decide) ?_
              show Go p e below s₁ (mkF m 44 #[.val (.long q1), .second] []) _
              refine XS.lloadN X0.here hx rfl (hb hby d3_44) rfl ?_
              show Go p e below s₁ (mkF m 45 #[.val (.long q1), .second] [(.long q1)]) _
              refine XS.bipush X0.here hx rfl (hb hby d3_45) ?_
              show Go p e below s₁ (mkF m 47 #[.val (.long q1), .second] [(.int 26), (.long q1)]) _
              refine XS.lushr X0.here hx rfl (hb hby d3_47) rfl ?_
              show Go p e below s₁ (mkF m 48 #[.val (.long q1), .second] [(.long ((q1.toUInt64 >>> ((26 : Int32) &&& 0x3f).toInt64.toUInt64).toInt64))]) _
              refine XS.lconst X0.here hx rfl (hb hby d3_48) ?_
              show Go p e below s₁ (mkF m 49 #[.val (.long q1), .second] [(.long 0), (.long ((q1.toUInt64 >>> ((26 : Int32) &&& 0x3f).toInt64.toUInt64).toInt64))]) _
              refine XS.lcmp X0.here hx rfl (hb hby d3_49) rfl ?_
              show Go p e below s₁ (mkF m 50 #[.val (.long q1), .second] [(.int (lcmpW ((q1.toUInt64 >>> ((26 : Int32) &&& 0x3f).toInt64.toUInt64).toInt64) (0 : Int64)))]) _
              exact kt)
          by_cases hc50_14 : q1 < (67108864 : Int64)
          · have pre15 : ∀ t_, Go p e below s₁ (mkF m 54 #[.val (.long q1), .second] [(.int 5)]) t_ → Go p e below s₁ (entryFrame m #[(.long q1)] 2) t_ := fun t_ kt => pre13 _ (by
                show Go p e below s₁ (mkF m 50 #[.val (.long q1), .second] [(.int (lcmpW ((q1.toUInt64 >>> ((26 : Int32) &&& 0x3f).toInt64.toUInt64).toInt64) (0 : Int64)))]) _
                refine XS.ifNo X0.here hx rfl (hb hby d3_50) rfl ((if0 _ _).trans (teq ((own_sh26 hq1).mpr hc50_14)).2) ?_
                show Go p e below s₁ (mkF m 53 #[.val (.long q1), .second] []) _
                refine XS.iconst X0.here hx rfl (hb hby d3_53) ?_
                show Go p e below s₁ (mkF m 54 #[.val (.long q1), .second] [(.int 5)]) _
                exact kt)
            obtain ⟨fs, hr, hrun, hended, hW, hsame⟩ := X0.leave (v := some (.int 5)) (fun h => by rw [Bd.returns] at h; cases h)
            refine ⟨_, _, pre15 _ ?_, hrun, hended, _, _, rfl, ?_, ⟨_, rfl⟩, hW, hsame.mono (by decide) (by decide)⟩
            · show Steps p.tables e below (s₁.setTop (mkF m 54 #[.val (.long q1), .second] [(.int 5)])) _
              exact retI X0 hx Bd.returns (hb hby d3_54) hr
            · show Q_rmR Z q1 h0 n0 _ s₁.heap _
              rw [e0]
              exact ⟨by simp [ulen, hc6_2, hc17_5, hc28_8, hc39_11, hc50_14], N0, rfl⟩
          · have pre16 : ∀ t_, Go p e below s₁ (mkF m 57 #[.val (.long q1), .second] [(.int 6)]) t_ → Go p e below s₁ (entryFrame m #[(.long q1)] 2) t_ := fun t_ kt => pre13 _ (by
                show Go p e below s₁ (mkF m 50 #[.val (.long q1), .second] [(.int (lcmpW ((q1.toUInt64 >>> ((26 : Int32) &&& 0x3f).toInt64.toUInt64).toInt64) (0 : Int64)))]) _
                refine XS.ifYes X0.here hx rfl (pc0 := 50) (pc' := 55) rfl (hb hby d3_50) rfl ((if0 _ _).trans (feq (fun q => hc50_14 ((own_sh26 hq1).mp q))).2) (by decide) (by decide) ?_
                show Go p e below s₁ (mkF m 55 #[.val (.long q1), .second] []) _
                refine XS.bipush X0.here hx rfl (hb hby d3_55) ?_
                show Go p e below s₁ (mkF m 57 #[.val (.long q1), .second] [(.int 6)]) _
                exact kt)
            obtain ⟨fs, hr, hrun, hended, hW, hsame⟩ := X0.leave (v := some (.int 6)) (fun h => by rw [Bd.returns] at h; cases h)
            refine ⟨_, _, pre16 _ ?_, hrun, hended, _, _, rfl, ?_, ⟨_, rfl⟩, hW, hsame.mono (by decide) (by decide)⟩
            · show Steps p.tables e below (s₁.setTop (mkF m 57 #[.val (.long q1), .second] [(.int 6)])) _
              exact retI X0 hx Bd.returns (hb hby d3_57) hr
            · show Q_rmR Z q1 h0 n0 _ s₁.heap _
              rw [e0]
              exact ⟨by simp [ulen, hc6_2, hc17_5, hc28_8, hc39_11, hc50_14], N0, rfl⟩
theorem ef_0 (m : MethodId) (x0 : Int64) (x1 : Int32) (x2 : Int32) (x3 : Int32) : entryFrame m #[(.long x0), (.int x1), (.int x2), (.int x3)] maxLocals = mkF m 0 #[.val (.long x0), .second, .val (.int x1), .val (.int x2), .val (.int x3), .unset, .unset, .unset, .unset, .unset] [] := by first | (simp [entryFrame, mkF, argsToLocals, Value.category, maxLocals]; done) | rfl
theorem pd_0 : parseMethodDescriptor "(JJ)J" = some ⟨[.long, .long], some .long⟩ := by decide +kernel
theorem pd_1 : parseMethodDescriptor "(J)I" = some ⟨[.long], some .int⟩ := by decide +kernel
def Q_rmL (Z : State) (q1 : Int64) (p2 : Int32) (p3 : Int32) (p4 : Int32) (a : Addr) (kc : ClassId) (h0 : Heap) (n0 : Nat) (v : Option Value) (h : Heap) (L : List Loc) : Prop := v = some (.int 1) ∧ Fr n0 L
set_option maxRecDepth 65536 in
set_option maxHeartbeats 40000000 in
theorem rmL (l : Launch) (Z : State) (a0 : Array Value) (hw : ∀ d ∈ tables_1, d.before a0 Z = true) (ws : List Jvm.Cond) (q1 : Int64) (p2 : Int32) (p3 : Int32) (p4 : Int32) (a : Addr) (kc : ClassId) (h0 : Heap) (n0 : Nat) (Z0 : n0 ≤ h0.size) (hS : Sta Z h0 "com/example/tagwire/tagwire/wire/NumberForm" "SHORTEST_FORM_FLOOR" "[J" (.ref a)) (hV : Arv Z h0 a kc .long (6 : Int32) [(.long (0 : Int64)), (.long (128 : Int64)), (.long (2048 : Int64)), (.long (65536 : Int64)), (.long (2097152 : Int64)), (.long (67108864 : Int64))] (.long (0 : Int64))) :
    MetFree l x (head1 (Jvm.Cond.code x code maxLocals ret :: ws) room_1) (fun av_ U_ => av_ = #[(.long q1), (.int p2), (.int p3), (.int p4)] ∧ Z.Warmed39 U_.vm ∧ U_.heap = h0) (fun _ _ _ _ _ => True) (fun _ U_ o_ V_ => ∃ v_ L_, o_ = .returned v_ ∧ Q_rmL Z q1 p2 p3 p4 a kc h0 n0 v_ V_.heap L_ ∧ FrameEnd U_ o_ V_ L_ room_1.cells room_1.slots) := by
  refine MetFree.of_bodySF (plainFor_of_name pn_com_example_tagwire_tagwire_wire_NumberFormUtf8LengthPinLaw) hisR ?_
  intro p e s m args below meth c s₁ Bd hml0 hP hK
  obtain ⟨rfl, hZ, hh⟩ := hP
  have hx := Bd.exec
  have hby := Bd.bytes
  have hml : c.maxLocals = 10 := hml0
  have hown : s.vm.findClass "com/example/tagwire/tagwire/wire/NumberFormUtf8LengthPinLaw" = some m.cls := findClass_of_methodNamed Bd.named
  have hnm := (name_of_methodNamed Bd.named Bd.method).1
  have X0 : Stand p l e room_1 s m #[(.long q1), (.int p2), (.int p3), (.int p4)] below meth c s₁ [] 0 0 := Stand.of_body Bd
  have e0 : s₁.heap = h0 := by rw [← hh, Bd.state]; rfl
  have N0 := Fr.nil n0
  have pre0 : ∀ t_, Go p e below s₁ (mkF m 0 #[.val (.long q1), .second, iv p2, iv p3, iv p4, .unset, .unset, .unset, .unset, .unset] []) t_ → Go p e below s₁ (entryFrame m #[(.long q1), (.int p2), (.int p3), (.int p4)] maxLocals) t_ := fun t_ kt => castTop (ef_0 m q1 p2 p3 p4) kt
  have pre1 : ∀ t_, Go p e below s₁ (mkF m 4 #[.val (.long q1), .second, iv p2, iv p3, iv p4, .unset, .unset, .unset, .unset, .unset] [(.int (p4 &&& (1 : Int32)))]) t_ → Go p e below s₁ (entryFrame m #[(.long q1), (.int p2), (.int p3), (.int p4)] maxLocals) t_ := fun t_ kt => pre0 _ (by
      show Go p e below s₁ (mkF m 0 #[.val (.long q1), .second, iv p2, iv p3, iv p4, .unset, .unset, .unset, .unset, .unset] []) _
      refine XS.iload X0.here hx rfl (hb hby at_0) rfl ?_
      show Go p e below s₁ (mkF m 2 #[.val (.long q1), .second, iv p2, iv p3, iv p4, .unset, .unset, .unset, .unset, .unset] [(.int p4)]) _
      refine XS.iconst X0.here hx rfl (hb hby at_2) ?_
      show Go p e below s₁ (mkF m 3 #[.val (.long q1), .second, iv p2, iv p3, iv p4, .unset, .unset, .unset, .unset, .unset] [(.int 1), (.int p4)]) _
      refine XS.iand X0.here hx rfl (hb hby at_3) rfl ?_
      show Go p e below s₁ (mkF m 4 #[.val (.long q1), .second, iv p2, iv p3, iv p4, .unset, .unset, .unset, .unset, .unset] [(.int (p4 &&& (1 : Int32)))]) _
      exact kt)
  by_cases hc4_2 : (p4 &&& (1 : Int32)) = (0 : Int32)
  · obtain ⟨_, _, ⟨T3, L3, k3, n3⟩, -, X3, ⟨Lc3, hQ3, l3, y3, z3⟩, st3⟩ := Jvm.LawKit.callS X0 hx (y := (⟨"java/lang/Math", "max", "(JJ)J"⟩ : MethodName)) hown (mvT hZ (hwi hw 1 rfl)) (mvT hZ (hwi hw 2 rfl)) (mvT hZ (hwi hw 3 rfl)) (mvT hZ (hwi hw 4 rfl)) (by decide) (backOf (W := 0) (rmM l Z a0 hw [] (0 : Int64) (((1 : Int64) <<< (((p2 &&& (2147483647 : Int32)) % (31 : Int32)) &&& 0x3f).toInt64) + (((p3 &&& (3 : Int32)) - (2 : Int32)).toInt64)) h0 n0 Z0) hZ (hwi hw 4 rfl) (hwi hw 3 rfl) (by decide) (by decide)) (g := (mkF m 42 #[.val (.long q1), .second, iv p2, iv p3, iv p4, .unset, .unset, iv ((p2 &&& (2147483647 : Int32)) % (31 : Int32)), .val (.long ((1 : Int64) <<< (((p2 &&& (2147483647 : Int32)) % (31 : Int32)) &&& 0x3f).toInt64)), .second] [(.long (((1 : Int64) <<< (((p2 &&& (2147483647 : Int32)) % (31 : Int32)) &&& 0x3f).toInt64) + (((p3 &&& (3 : Int32)) - (2 : Int32)).toInt64))), (.long 0)])) rfl (by rw [hml]; rfl) (argsL := [(.long 0), (.long (((1 : Int64) <<< (((p2 &&& (2147483647 : Int32)) % (31 : Int32)) &&& 0x3f).toInt64) + (((p3 &&& (3 : Int32)) - (2 : Int32)).toInt64)))]) (rest := []) (lenOf pd_0 rfl) rfl (by show 2 * 0 + _ ≤ _; exact Nat.le_of_eq rfl) (hb hby at_42) (fun _ _ => ⟨rfl, e0, (by decide : 0 + 0 ≤ _), (by decide : 0 + 0 ≤ _)⟩)
    dsimp only [Pt.U, Pt.locs, Pt.cells, Pt.slots] at X3 l3 y3 z3 st3 hQ3
    subst l3 y3 z3
    obtain ⟨r3, rfl, hr3, N3q, e3q⟩ := hQ3
    have N3 := Fr.app N0 N3q
    have pre4 : ∀ t_, Go p e below T3 (mkF m 47 #[.val (.long q1), .second, iv p2, iv p3, iv p4, .val (.long r3), .second, iv ((p2 &&& (2147483647 : Int32)) % (31 : Int32)), .val (.long ((1 : Int64) <<< (((p2 &&& (2147483647 : Int32)) % (31 : Int32)) &&& 0x3f).toInt64)), .second] []) t_ → Go p e below s₁ (entryFrame m #[(.long q1), (.int p2), (.int p3), (.int p4)] maxLocals) t_ := fun t_ kt => pre1 _ (by
        show Go p e below s₁ (mkF m 4 #[.val (.long q1), .second, iv p2, iv p3, iv p4, .unset, .unset, .unset, .unset, .unset] [(.int (p4 &&& (1 : Int32)))]) _
        refine XS.ifYes X0.here hx rfl (pc0 := 4) (pc' := 17) rfl (hb hby at_4) rfl ((if0 _ _).trans (teq hc4_2).1) (by decide) (by decide) ?_
        show Go p e below s₁ (mkF m 17 #[.val (.long q1), .second, iv p2, iv p3, iv p4, .unset, .unset, .unset, .unset, .unset] []) _
        refine XS.iloadN X0.here hx rfl (hb hby at_17) rfl ?_
        show Go p e below s₁ (mkF m 18 #[.val (.long q1), .second, iv p2, iv p3, iv p4, .unset, .unset, .unset, .unset, .unset] [(.int p2)]) _
        refine X0.ldcInt hx hown (mvT hZ (hwi hw 0 rfl)) (g := (mkF m 18 #[.val (.long q1), .second, iv p2, iv p3, iv p4, .unset, .unset, .unset, .unset, .unset] [(.int p2)])) rfl (hb hby at_18) _ ?_
        show Go p e below s₁ (mkF m 20 #[.val (.long q1), .second, iv p2, iv p3, iv p4, .unset, .unset, .unset, .unset, .unset] [(.int 2147483647), (.int p2)]) _
        refine XS.iand X0.here hx rfl (hb hby at_20) rfl ?_
        show Go p e below s₁ (mkF m 21 #[.val (.long q1), .second, iv p2, iv p3, iv p4, .unset, .unset, .unset, .unset, .unset] [(.int (p2 &&& (2147483647 : Int32)))]) _
        refine XS.bipush X0.here hx rfl (hb hby at_21) ?_
        show Go p e below s₁ (mkF m 23 #[.val (.long q1), .second, iv p2, iv p3, iv p4, .unset, .unset, .unset, .unset, .unset] [(.int 31), (.int (p2 &&& (2147483647 : Int32)))]) _
        refine iremM X0 hx rfl (hb hby at_23) rfl (by decide) ?_
        show Go p e below s₁ (mkF m 24 #[.val (.long q1), .second, iv p2, iv p3, iv p4, .unset, .unset, .unset, .unset, .unset] [(.int ((p2 &&& (2147483647 : Int32)) % (31 : Int32)))]) _
        refine XS.istore X0.here hx rfl (hb hby at_24) rfl (l' := #[.val (.long q1), .second, iv p2, iv p3, iv p4, .unset, .unset, iv ((p2 &&& (2147483647 : Int32)) % (31 : Int32)), .unset, .unset]) rfl ?_
        show Go p e below s₁ (mkF m 26 #[.val (.long q1), .second, iv p2, iv p3, iv p4, .unset, .unset, iv ((p2 &&& (2147483647 : Int32)) % (31 : Int32)), .unset, .unset] []) _
        refine XS.lconst X0.here hx rfl (hb hby at_26) ?_
        show Go p e below s₁ (mkF m 27 #[.val (.long q1), .second, iv p2, iv p3, iv p4, .unset, .unset, iv ((p2 &&& (2147483647 : Int32)) % (31 : Int32)), .unset, .unset] [(.long 1)]) _
        refine XS.iload X0.here hx rfl (hb hby at_27) rfl ?_
        show Go p e below s₁ (mkF m 29 #[.val (.long q1), .second, iv p2, iv p3, iv p4, .unset, .unset, iv ((p2 &&& (2147483647 : Int32)) % (31 : Int32)), .unset, .unset] [(.int ((p2 &&& (2147483647 : Int32)) % (31 : Int32))), (.long 1)]) _
        refine XS.lshl X0.here hx rfl (hb hby at_29) rfl ?_
        show Go p e below s₁ (mkF m 30 #[.val (.long q1), .second, iv p2, iv p3, iv p4, .unset, .unset, iv ((p2 &&& (2147483647 : Int32)) % (31 : Int32)), .unset, .unset] [(.long ((1 : Int64) <<< (((p2 &&& (2147483647 : Int32)) % (31 : Int32)) &&& 0x3f).toInt64))]) _
        refine XS.lstore X0.here hx rfl (hb hby at_30) rfl (l' := #[.val (.long q1), .second, iv p2, iv p3, iv p4, .unset, .unset, iv ((p2 &&& (2147483647 : Int32)) % (31 : Int32)), .val (.long ((1 : Int64) <<< (((p2 &&& (2147483647 : Int32)) % (31 : Int32)) &&& 0x3f).toInt64)), .second]) rfl ?_
        show Go p e below s₁ (mkF m 32 #[.val (.long q1), .second, iv p2, iv p3, iv p4, .unset, .unset, iv ((p2 &&& (2147483647 : Int32)) % (31 : Int32)), .val (.long ((1 : Int64) <<< (((p2 &&& (2147483647 : Int32)) % (31 : Int32)) &&& 0x3f).toInt64)), .second] []) _
        refine XS.lconst X0.here hx rfl (hb hby at_32) ?_
        show Go p e below s₁ (mkF m 33 #[.val (.long q1), .second, iv p2, iv p3, iv p4, .unset, .unset, iv ((p2 &&& (2147483647 : Int32)) % (31 : Int32)), .val (.long ((1 : Int64) <<< (((p2 &&& (2147483647 : Int32)) % (31 : Int32)) &&& 0x3f).toInt64)), .second] [(.long 0)]) _
        refine XS.lload X0.here hx rfl (hb hby at_33) rfl ?_
        show Go p e below s₁ (mkF m 35 #[.val (.long q1), .second, iv p2, iv p3, iv p4, .unset, .unset, iv ((p2 &&& (2147483647 : Int32)) % (31 : Int32)), .val (.long ((1 : Int64) <<< (((p2 &&& (2147483647 : Int32)) % (31 : Int32)) &&& 0x3f).toInt64)), .second] [(.long ((1 : Int64) <<< (((p2 &&& (2147483647 : Int32)) % (31 : Int32)) &&& 0x3f).toInt64)), (.long 0)]) _
        refine XS.iloadN X0.here hx rfl (hb hby at_35) rfl ?_
        show Go p e below s₁ (mkF m 36 #[.val (.long q1), .second, iv p2, iv p3, iv p4, .unset, .unset, iv ((p2 &&& (2147483647 : Int32)) % (31 : Int32)), .val (.long ((1 : Int64) <<< (((p2 &&& (2147483647 : Int32)) % (31 : Int32)) &&& 0x3f).toInt64)), .second] [(.int p3), (.long ((1 : Int64) <<< (((p2 &&& (2147483647 : Int32)) % (31 : Int32)) &&& 0x3f).toInt64)), (.long 0)]) _
        refine XS.iconst X0.here hx rfl (hb hby at_36) ?_
        show Go p e below s₁ (mkF m 37 #[.val (.long q1), .second, iv p2, iv p3, iv p4, .unset, .unset, iv ((p2 &&& (2147483647 : Int32)) % (31 : Int32)), .val (.long ((1 : Int64) <<< (((p2 &&& (2147483647 : Int32)) % (31 : Int32)) &&& 0x3f).toInt64)), .second] [(.int 3), (.int p3), (.long ((1 : Int64) <<< (((p2 &&& (2147483647 : Int32)) % (31 : Int32)) &&& 0x3f).toInt64)), (.long 0)]) _
        refine XS.iand X0.here hx rfl (hb hby at_37) rfl ?_
        show Go p e below s₁ (mkF m 38 #[.val (.long q1), .second, iv p2, iv p3, iv p4, .unset, .unset, iv ((p2 &&& (2147483647 : Int32)) % (31 : Int32)), .val (.long ((1 : Int64) <<< (((p2 &&& (2147483647 : Int32)) % (31 : Int32)) &&& 0x3f).toInt64)), .second] [(.int (p3 &&& (3 : Int32))), (.long ((1 : Int64) <<< (((p2 &&& (2147483647 : Int32)) % (31 : Int32)) &&& 0x3f).toInt64)), (.long 0)]) _
        refine XS.iconst X0.here hx rfl (hb hby at_38) ?_
        show Go p e below s₁ (mkF m 39 #[.val (.long q1), .second, iv p2, iv p3, iv p4, .unset, .unset, iv ((p2 &&& (2147483647 : Int32)) % (31 : Int32)), .val (.long ((1 : Int64) <<< (((p2 &&& (2147483647 : Int32)) % (31 : Int32)) &&& 0x3f).toInt64)), .second] [(.int 2), (.int (p3 &&& (3 : Int32))), (.long ((1 : Int64) <<< (((p2 &&& (2147483647 : Int32)) % (31 : Int32)) &&& 0x3f).toInt64)), (.long 0)]) _
        refine XS.isub X0.here hx rfl (hb hby at_39) rfl ?_
        show Go p e below s₁ (mkF m 40 #[.val (.long q1), .second, iv p2, iv p3, iv p4, .unset, .unset, iv ((p2 &&& (2147483647 : Int32)) % (31 : Int32)), .val (.long ((1 : Int64) <<< (((p2 &&& (2147483647 : Int32)) % (31 : Int32)) &&& 0x3f).toInt64)), .second] [(.int ((p3 &&& (3 : Int32)) - (2 : Int32))), (.long ((1 : Int64) <<< (((p2 &&& (2147483647 : Int32)) % (31 : Int32)) &&& 0x3f).toInt64)), (.long 0)]) _
        refine XS.i2l X0.here hx rfl (hb hby at_40) rfl ?_
        show Go p e below s₁ (mkF m 41 #[.val (.long q1), .second, iv p2, iv p3, iv p4, .unset, .unset, iv ((p2 &&& (2147483647 : Int32)) % (31 : Int32)), .val (.long ((1 : Int64) <<< (((p2 &&& (2147483647 : Int32)) % (31 : Int32)) &&& 0x3f).toInt64)), .second] [(.long (((p3 &&& (3 : Int32)) - (2 : Int32)).toInt64)), (.long ((1 : Int64) <<< (((p2 &&& (2147483647 : Int32)) % (31 : Int32)) &&& 0x3f).toInt64)), (.long 0)]) _
        refine XS.ladd X0.here hx rfl (hb hby at_41) rfl ?_
        show Go p e below s₁ (mkF m 42 #[.val (.long q1), .second, iv p2, iv p3, iv p4, .unset, .unset, iv ((p2 &&& (2147483647 : Int32)) % (31 : Int32)), .val (.long ((1 : Int64) <<< (((p2 &&& (2147483647 : Int32)) % (31 : Int32)) &&& 0x3f).toInt64)), .second] [(.long (((1 : Int64) <<< (((p2 &&& (2147483647 : Int32)) % (31 : Int32)) &&& 0x3f).toInt64) + (((p3 &&& (3 : Int32)) - (2 : Int32)).toInt64))), (.long 0)]) _
        refine st3 _ ?_
        show Go p e below T3 (mkF m 45 #[.val (.long q1), .second, iv p2, iv p3, iv p4, .unset, .unset, iv ((p2 &&& (2147483647 : Int32)) % (31 : Int32)), .val (.long ((1 : Int64) <<< (((p2 &&& (2147483647 : Int32)) % (31 : Int32)) &&& 0x3f).toInt64)), .second] [(.long r3)]) _
        refine XS.lstore X3.here hx rfl (hb hby at_45) rfl (l' := #[.val (.long q1), .second, iv p2, iv p3, iv p4, .val (.long r3), .second, iv ((p2 &&& (2147483647 : Int32)) % (31 : Int32)), .val (.long ((1 : Int64) <<< (((p2 &&& (2147483647 : Int32)) % (31 : Int32)) &&& 0x3f).toInt64)), .second]) rfl ?_
        show Go p e below T3 (mkF m 47 #[.val (.long q1), .second, iv p2, iv p3, iv p4, .val (.long r3), .second, iv ((p2 &&& (2147483647 : Int32)) % (31 : Int32)), .val (.long ((1 : Int64) <<< (((p2 &&& (2147483647 : Int32)) % (31 : Int32)) &&& 0x3f).toInt64)), .second] []) _
        exact kt)
    obtain ⟨_, _, ⟨T5, L5, k5, n5⟩, -, X5, ⟨Lc5, hQ5, l5, y5, z5⟩, st5⟩ := Jvm.LawKit.callS X3 hx (y := (⟨"com/example/tagwire/tagwire/wire/NumberForm", "utf8Length", "(J)I"⟩ : MethodName)) hown (mvT hZ (hwi hw 5 rfl)) (mvT hZ (hwi hw 6 rfl)) (mvT hZ (hwi hw 7 rfl)) (mvT hZ (hwi hw 8 rfl)) (by decide) (backOf (W := 0) (rmU l Z a0 hw [] r3 a kc h0 n0 Z0 hS hV) hZ (hwi hw 8 rfl) (hwi hw 7 rfl) (by decide) (by decide)) (g := (mkF m 49 #[.val (.long q1), .second, iv p2, iv p3, iv p4, .val (.long r3), .second, iv ((p2 &&& (2147483647 : Int32)) % (31 : Int32)), .val (.long ((1 : Int64) <<< (((p2 &&& (2147483647 : Int32)) % (31 : Int32)) &&& 0x3f).toInt64)), .second] [(.long r3)])) rfl (by rw [hml]; rfl) (argsL := [(.long r3)]) (rest := []) (lenOf pd_1 rfl) rfl (by show 2 * 0 + _ ≤ _; exact Nat.le_of_eq rfl) (hb hby at_49) (fun _ _ => ⟨rfl, e3q, (by decide : 0 + 0 ≤ _), (by decide : 0 + 0 ≤ _)⟩)
    dsimp only [Pt.U, Pt.locs, Pt.cells, Pt.slots] at X5 l5 y5 z5 st5 hQ5
    subst l5 y5 z5
    obtain ⟨rfl, N5q, e5q⟩ := hQ5
    have N5 := Fr.app N3 N5q
    obtain ⟨_, _, ⟨T6, L6, k6, n6⟩, -, X6, ⟨Lc6, hQ6, l6, y6, z6⟩, st6⟩ := Jvm.LawKit.callS X5 hx (y := (⟨"com/example/tagwire/tagwire/wire/NumberFormUtf8LengthPinLaw", "reference", "(J)I"⟩ : MethodName)) hown (mvT hZ (hwi hw 11 rfl)) (mvT hZ (hwi hw 12 rfl)) (mvT hZ (hwi hw 13 rfl)) (mvT hZ (hwi hw 14 rfl)) (by decide) (backOf (W := 1) (rmR l Z a0 hw [] r3 h0 n0 Z0 hr3) hZ (hwi hw 14 rfl) (hwi hw 13 rfl) (by decide) (by decide)) (g := (mkF m 54 #[.val (.long q1), .second, iv p2, iv p3, iv p4, .val (.long r3), .second, iv ((p2 &&& (2147483647 : Int32)) % (31 : Int32)), .val (.long ((1 : Int64) <<< (((p2 &&& (2147483647 : Int32)) % (31 : Int32)) &&& 0x3f).toInt64)), .second] [(.long r3), (.int (ulen r3))])) rfl (by rw [hml]; rfl) (argsL := [(.long r3)]) (rest := [(.int (ulen r3))]) (lenOf pd_1 rfl) rfl (by show 2 * 0 + _ ≤ _; exact Nat.le_of_eq rfl) (hb hby at_54) (fun _ _ => ⟨rfl, e5q, (by decide : 0 + 0 ≤ _), (by decide : 0 + 0 ≤ _)⟩)
    dsimp only [Pt.U, Pt.locs, Pt.cells, Pt.slots] at X6 l6 y6 z6 st6 hQ6
    subst l6 y6 z6
    obtain ⟨rfl, N6q, e6q⟩ := hQ6
    have N6 := Fr.app N5 N6q
    have pre7 : ∀ t_, Go p e below T6 (mkF m 65 #[.val (.long q1), .second, iv p2, iv p3, iv p4, .val (.long r3), .second, iv ((p2 &&& (2147483647 : Int32)) % (31 : Int32)), .val (.long ((1 : Int64) <<< (((p2 &&& (2147483647 : Int32)) % (31 : Int32)) &&& 0x3f).toInt64)), .second] [(.int 1)]) t_ → Go p e below s₁ (entryFrame m #[(.long q1), (.int p2), (.int p3), (.int p4)] maxLocals) t_ := fun t_ kt => pre4 _ (by
        show Go p e below T3 (mkF m 47 #[.val (.long q1), .second, iv p2, iv p3, iv p4, .val (.long r3), .second, iv ((p2 &&& (2147483647 : Int32)) % (31 : Int32)), .val (.long ((1 : Int64) <<< (((p2 &&& (2147483647 : Int32)) % (31 : Int32)) &&& 0x3f).toInt64)), .second] []) _
        refine XS.lload X3.here hx rfl (hb hby at_47) rfl ?_
        show Go p e below T3 (mkF m 49 #[.val (.long q1), .second, iv p2, iv p3, iv p4, .val (.long r3), .second, iv ((p2 &&& (2147483647 : Int32)) % (31 : Int32)), .val (.long ((1 : Int64) <<< (((p2 &&& (2147483647 : Int32)) % (31 : Int32)) &&& 0x3f).toInt64)), .second] [(.long r3)]) _
        refine st5 _ ?_
        show Go p e below T5 (mkF m 52 #[.val (.long q1), .second, iv p2, iv p3, iv p4, .val (.long r3), .second, iv ((p2 &&& (2147483647 : Int32)) % (31 : Int32)), .val (.long ((1 : Int64) <<< (((p2 &&& (2147483647 : Int32)) % (31 : Int32)) &&& 0x3f).toInt64)), .second] [(.int (ulen r3))]) _
        refine XS.lload X5.here hx rfl (hb hby at_52) rfl ?_
        show Go p e below T5 (mkF m 54 #[.val (.long q1), .second, iv p2, iv p3, iv p4, .val (.long r3), .second, iv ((p2 &&& (2147483647 : Int32)) % (31 : Int32)), .val (.long ((1 : Int64) <<< (((p2 &&& (2147483647 : Int32)) % (31 : Int32)) &&& 0x3f).toInt64)), .second] [(.long r3), (.int (ulen r3))]) _
        refine st6 _ ?_
        show Go p e below T6 (mkF m 57 #[.val (.long q1), .second, iv p2, iv p3, iv p4, .val (.long r3), .second, iv ((p2 &&& (2147483647 : Int32)) % (31 : Int32)), .val (.long ((1 : Int64) <<< (((p2 &&& (2147483647 : Int32)) % (31 : Int32)) &&& 0x3f).toInt64)), .second] [(.int (ulen r3)), (.int (ulen r3))]) _
        refine XS.icmpNo X6.here hx rfl (hb hby at_57) rfl (teq (rfl : (ulen r3) = (ulen r3))).2 ?_
        show Go p e below T6 (mkF m 60 #[.val (.long q1), .second, iv p2, iv p3, iv p4, .val (.long r3), .second, iv ((p2 &&& (2147483647 : Int32)) % (31 : Int32)), .val (.long ((1 : Int64) <<< (((p2 &&& (2147483647 : Int32)) % (31 : Int32)) &&& 0x3f).toInt64)), .second] []) _
        refine XS.iconst X6.here hx rfl (hb hby at_60) ?_
        show Go p e below T6 (mkF m 61 #[.val (.long q1), .second, iv p2, iv p3, iv p4, .val (.long r3), .second, iv ((p2 &&& (2147483647 : Int32)) % (31 : Int32)), .val (.long ((1 : Int64) <<< (((p2 &&& (2147483647 : Int32)) % (31 : Int32)) &&& 0x3f).toInt64)), .second] [(.int 1)]) _
        refine XS.goto X6.here hx rfl (pc0 := 61) (pc' := 65) rfl (hb hby at_61) (by decide) (by decide) ?_
        show Go p e below T6 (mkF m 65 #[.val (.long q1), .second, iv p2, iv p3, iv p4, .val (.long r3), .second, iv ((p2 &&& (2147483647 : Int32)) % (31 : Int32)), .val (.long ((1 : Int64) <<< (((p2 &&& (2147483647 : Int32)) % (31 : Int32)) &&& 0x3f).toInt64)), .second] [(.int 1)]) _
        exact kt)
    obtain ⟨fs, hr, hrun, hended, hW, hsame⟩ := X6.leave (v := some (.int 1)) (fun h => by rw [Bd.returns] at h; cases h)
    refine ⟨_, _, pre7 _ ?_, hrun, hended, _, _, rfl, ?_, ⟨_, rfl⟩, hW, hsame.mono (by decide) (by decide)⟩
    · show Steps p.tables e below (T6.setTop (mkF m 65 #[.val (.long q1), .second, iv p2, iv p3, iv p4, .val (.long r3), .second, iv ((p2 &&& (2147483647 : Int32)) % (31 : Int32)), .val (.long ((1 : Int64) <<< (((p2 &&& (2147483647 : Int32)) % (31 : Int32)) &&& 0x3f).toInt64)), .second] [(.int 1)])) _
      exact retN X6 hx (t := .boolean) Bd.returns (by simp) (hb hby at_65) hr
    · show Q_rmL Z q1 p2 p3 p4 a kc h0 n0 _ T6.heap _
      rw [e6q]
      exact ⟨rfl, N6⟩
  · have hval := own_msk q1
    obtain ⟨val, e_val⟩ : ∃ z : Int64, z = (q1 &&& (2147483647 : Int64)) := ⟨_, rfl⟩
    have pre8 : ∀ t_, Go p e below s₁ (mkF m 47 #[.val (.long q1), .second, iv p2, iv p3, iv p4, .val (.long val), .second, .unset, .unset, .unset] []) t_ → Go p e below s₁ (entryFrame m #[(.long q1), (.int p2), (.int p3), (.int p4)] maxLocals) t_ := fun t_ kt => pre1 _ (by
        subst e_val
        show Go p e below s₁ (mkF m 4 #[.val (.long q1), .second, iv p2, iv p3, iv p4, .unset, .unset, .unset, .unset, .unset] [(.int (p4 &&& (1 : Int32)))]) _
        refine XS.ifNo X0.here hx rfl (hb hby at_4) rfl ((if0 _ _).trans (feq hc4_2).1) ?_
        show Go p e below s₁ (mkF m 7 #[.val (.long q1), .second, iv p2, iv p3, iv p4, .unset, .unset, .unset, .unset, .unset] []) _
        refine XS.lloadN X0.here hx rfl (hb hby at_7) rfl ?_
        show Go p e below s₁ (mkF m 8 #[.val (.long q1), .second, iv p2, iv p3, iv p4, .unset, .unset, .unset, .unset, .unset] [(.long q1)]) _
        refine X0.ldc2Long hx hown (mvT hZ (hwi hw 15 rfl)) (g := (mkF m 8 #[.val (.long q1), .second, iv p2, iv p3, iv p4, .unset, .unset, .unset, .unset, .unset] [(.long q1)])) rfl (hb hby at_8) _ ?_
        show Go p e below s₁ (mkF m 11 #[.val (.long q1), .second, iv p2, iv p3, iv p4, .unset, .unset, .unset, .unset, .unset] [(.long 2147483647), (.long q1)]) _
        refine XS.land X0.here hx rfl (hb hby at_11) rfl ?_
        show Go p e below s₁ (mkF m 12 #[.val (.long q1), .second, iv p2, iv p3, iv p4, .unset, .unset, .unset, .unset, .unset] [(.long (q1 &&& (2147483647 : Int64)))]) _
        refine XS.lstore X0.here hx rfl (hb hby at_12) rfl (l' := #[.val (.long q1), .second, iv p2, iv p3, iv p4, .val (.long (q1 &&& (2147483647 : Int64))), .second, .unset, .unset, .unset]) rfl ?_
        show Go p e below s₁ (mkF m 14 #[.val (.long q1), .second, iv p2, iv p3, iv p4, .val (.long (q1 &&& (2147483647 : Int64))), .second, .unset, .unset, .unset] []) _
        refine XS.goto X0.here hx rfl (pc0 := 14) (pc' := 47) rfl (hb hby at_14) (by decide) (by decide) ?_
        show Go p e below s₁ (mkF m 47 #[.val (.long q1), .second, iv p2, iv p3, iv p4, .val (.long (q1 &&& (2147483647 : Int64))), .second, .unset, .unset, .unset] []) _
        exact kt)
    rw [← e_val] at hval
    obtain ⟨_, _, ⟨T9, L9, k9, n9⟩, -, X9, ⟨Lc9, hQ9, l9, y9, z9⟩, st9⟩ := Jvm.LawKit.callS X0 hx (y := (⟨"com/example/tagwire/tagwire/wire/NumberForm", "utf8Length", "(J)I"⟩ : MethodName)) hown (mvT hZ (hwi hw 5 rfl)) (mvT hZ (hwi hw 6 rfl)) (mvT hZ (hwi hw 7 rfl)) (mvT hZ (hwi hw 8 rfl)) (by decide) (backOf (W := 0) (rmU l Z a0 hw [] val a kc h0 n0 Z0 hS hV) hZ (hwi hw 8 rfl) (hwi hw 7 rfl) (by decide) (by decide)) (g := (mkF m 49 #[.val (.long q1), .second, iv p2, iv p3, iv p4, .val (.long val), .second, .unset, .unset, .unset] [(.long val)])) rfl (by rw [hml]; rfl) (argsL := [(.long val)]) (rest := []) (lenOf pd_1 rfl) rfl (by show 2 * 0 + _ ≤ _; exact Nat.le_of_eq rfl) (hb hby at_49) (fun _ _ => ⟨rfl, e0, (by decide : 0 + 0 ≤ _), (by decide : 0 + 0 ≤ _)⟩)
    dsimp only [Pt.U, Pt.locs, Pt.cells, Pt.slots] at X9 l9 y9 z9 st9 hQ9
    subst l9 y9 z9
    obtain ⟨rfl, N9q, e9q⟩ := hQ9
    have N9 := Fr.app N0 N9q
    obtain ⟨_, _, ⟨T10, L10, k10, n10⟩, -, X10, ⟨Lc10, hQ10, l10, y10, z10⟩, st10⟩ := Jvm.LawKit.callS X9 hx (y := (⟨"com/example/tagwire/tagwire/wire/NumberFormUtf8LengthPinLaw", "reference", "(J)I"⟩ : MethodName)) hown (mvT hZ (hwi hw 11 rfl)) (mvT hZ (hwi hw 12 rfl)) (mvT hZ (hwi hw 13 rfl)) (mvT hZ (hwi hw 14 rfl)) (by decide) (backOf (W := 1) (rmR l Z a0 hw [] val h0 n0 Z0 hval) hZ (hwi hw 14 rfl) (hwi hw 13 rfl) (by decide) (by decide)) (g := (mkF m 54 #[.val (.long q1), .second, iv p2, iv p3, iv p4, .val (.long val), .second, .unset, .unset, .unset] [(.long val), (.int (ulen val))])) rfl (by rw [hml]; rfl) (argsL := [(.long val)]) (rest := [(.int (ulen val))]) (lenOf pd_1 rfl) rfl (by show 2 * 0 + _ ≤ _; exact Nat.le_of_eq rfl) (hb hby at_54) (fun _ _ => ⟨rfl, e9q, (by decide : 0 + 0 ≤ _), (by decide : 0 + 0 ≤ _)⟩)
    dsimp only [Pt.U, Pt.locs, Pt.cells, Pt.slots] at X10 l10 y10 z10 st10 hQ10
    subst l10 y10 z10
    obtain ⟨rfl, N10q, e10q⟩ := hQ10
    have N10 := Fr.app N9 N10q
    have pre11 : ∀ t_, Go p e below T10 (mkF m 65 #[.val (.long q1), .second, iv p2, iv p3, iv p4, .val (.long val), .second, .unset, .unset, .unset] [(.int 1)]) t_ → Go p e below s₁ (entryFrame m #[(.long q1), (.int p2), (.int p3), (.int p4)] maxLocals) t_ := fun t_ kt => pre8 _ (by
        show Go p e below s₁ (mkF m 47 #[.val (.long q1), .second, iv p2, iv p3, iv p4, .val (.long val), .second, .unset, .unset, .unset] []) _
        refine XS.lload X0.here hx rfl (hb hby at_47) rfl ?_
        show Go p e below s₁ (mkF m 49 #[.val (.long q1), .second, iv p2, iv p3, iv p4, .val (.long val), .second, .unset, .unset, .unset] [(.long val)]) _
        refine st9 _ ?_
        show Go p e below T9 (mkF m 52 #[.val (.long q1), .second, iv p2, iv p3, iv p4, .val (.long val), .second, .unset, .unset, .unset] [(.int (ulen val))]) _
        refine XS.lload X9.here hx rfl (hb hby at_52) rfl ?_
        show Go p e below T9 (mkF m 54 #[.val (.long q1), .second, iv p2, iv p3, iv p4, .val (.long val), .second, .unset, .unset, .unset] [(.long val), (.int (ulen val))]) _
        refine st10 _ ?_
        show Go p e below T10 (mkF m 57 #[.val (.long q1), .second, iv p2, iv p3, iv p4, .val (.long val), .second, .unset, .unset, .unset] [(.int (ulen val)), (.int (ulen val))]) _
        refine XS.icmpNo X10.here hx rfl (hb hby at_57) rfl (teq (rfl : (ulen val) = (ulen val))).2 ?_
        show Go p e below T10 (mkF m 60 #[.val (.long q1), .second, iv p2, iv p3, iv p4, .val (.long val), .second, .unset, .unset, .unset] []) _
        refine XS.iconst X10.here hx rfl (hb hby at_60) ?_
        show Go p e below T10 (mkF m 61 #[.val (.long q1), .second, iv p2, iv p3, iv p4, .val (.long val), .second, .unset, .unset, .unset] [(.int 1)]) _
        refine XS.goto X10.here hx rfl (pc0 := 61) (pc' := 65) rfl (hb hby at_61) (by decide) (by decide) ?_
        show Go p e below T10 (mkF m 65 #[.val (.long q1), .second, iv p2, iv p3, iv p4, .val (.long val), .second, .unset, .unset, .unset] [(.int 1)]) _
        exact kt)
    obtain ⟨fs, hr, hrun, hended, hW, hsame⟩ := X10.leave (v := some (.int 1)) (fun h => by rw [Bd.returns] at h; cases h)
    refine ⟨_, _, pre11 _ ?_, hrun, hended, _, _, rfl, ?_, ⟨_, rfl⟩, hW, hsame.mono (by decide) (by decide)⟩
    · show Steps p.tables e below (T10.setTop (mkF m 65 #[.val (.long q1), .second, iv p2, iv p3, iv p4, .val (.long val), .second, .unset, .unset, .unset] [(.int 1)])) _
      exact retN X10 hx (t := .boolean) Bd.returns (by simp) (hb hby at_65) hr
    · show Q_rmL Z q1 p2 p3 p4 a kc h0 n0 _ T10.heap _
      rw [e10q]
      exact ⟨rfl, N10⟩
set_option maxRecDepth 65536 in
set_option maxHeartbeats 40000000 in
theorem comes_1 {Post : Tables → Env → Array Value → State → Outcome → State → Prop} (hpost : ∀ tb e args s v u, (limb_1_1.after args s (.returned v) u = true ∧ limb_1_2.after args s (.returned v) u = true ∧ True) → FrameEnd s (.returned v) u (Jvm.fieldLocs frame_1_writes args s ++ Jvm.arrayLocs frame_1_arrays args s ++ Jvm.staticLocs frame_1_statics s) 0 0 → Post tb e args s (.returned v) u) :
    ArmFor flags0 classFile x code maxLocals ret World_1 tables_1 room_1 Calls_1 rest_1 Pre_1 Post := by
  intro l hfl _ _ p e ha hc hk s m args below hf hA hF happ hP
  obtain ⟨hcalls, hrest, hpre⟩ := hP
  obtain ⟨-, -, -, hnamed, -, -, -, hat⟩ := (Spec.applies_iff hf).mp happ
  obtain ⟨hg, hn⟩ := and_e (Cond.before_iff.mp (show (Jvm.Cond.and given_1 narrow_1).before args s = true from hpre))
  obtain ⟨g1, g2⟩ := and_e hg
  obtain ⟨g3, g4⟩ := and_e g2
  obtain ⟨g5, g6⟩ := and_e g4
  obtain ⟨g7, g8⟩ := and_e g6
  obtain ⟨w0, w1, w2, w3, rfl⟩ : ∃ w0 w1 w2 w3 : Value, args = #[w0, w1, w2, w3] := by
    have hs : args.size = 4 := by simpa [Cond.value, given_1] using g1
    obtain ⟨L⟩ := args
    match L, hs with
    | [w0, w1, w2, w3], _ => exact ⟨w0, w1, w2, w3, rfl⟩
  have hw := fun d (hd : d ∈ tables_1) => atoms_spec (ws := Jvm.Cond.code x code maxLocals ret :: tables_1) hat d (List.mem_cons_of_mem _ hd)
  have hfit : Fit s := fun {y c} hc i hi => by
    obtain ⟨ha, rfl⟩ := Array.getElem?_eq_some_iff.mp hc
    have q := List.all_eq_true.mp ((Array.all_eq_true_iff_forall_mem.mp hF) _ (Array.getElem_mem ha)) i (List.mem_range.mpr hi)
    simpa [Array.getElem?_eq_getElem hi] using q
  obtain ⟨i0, ei0⟩ := isL_v g3
  obtain rfl : w0 = (.long i0) := Option.some.inj ei0
  obtain ⟨i1, ei1⟩ := is_v g5
  obtain rfl : w1 = (.int i1) := Option.some.inj ei1
  obtain ⟨i2, ei2⟩ := is_v g7
  obtain rfl : w2 = (.int i2) := Option.some.inj ei2
  obtain ⟨i3, ei3⟩ := is_v g8
  obtain rfl : w3 = (.int i3) := Option.some.inj ei3
  obtain ⟨g9, g10⟩ := and_e hn
  obtain ⟨g11, g12⟩ := and_e g10
  obtain ⟨g13, g14⟩ := and_e g12
  obtain ⟨g15, g16⟩ := and_e g14
  obtain ⟨g17, g18⟩ := and_e g16
  obtain ⟨g19, g20⟩ := and_e g18
  obtain ⟨g21, g22⟩ := and_e g20
  obtain ⟨wA, evA⟩ := arr_v g9
  obtain ⟨cl, Ar⟩ := Arr.start evA g9
  have hS : Sta s s.heap "com/example/tagwire/tagwire/wire/NumberForm" "SHORTEST_FORM_FLOOR" "[J" (.ref wA) := Sta.start evA (Or.inr ⟨(hwi hw 7 rfl), (hwi hw 10 rfl)⟩)
  have hat0 : s.arrayAt? wA = some cl := IntBox.arrayAt_of Ar.1 Ar.2.1 Ar.2.2
  have hlen := own_len evA hat0 (eqv_i (Term.int_eval _) g11)
  have hV : Arv s s.heap wA cl.cls .long (6 : Int32) [(.long (0 : Int64)), (.long (128 : Int64)), (.long (2048 : Int64)), (.long (65536 : Int64)), (.long (2097152 : Int64)), (.long (67108864 : Int64))] (.long (0 : Int64)) := Arv.start hfit Ar hlen.1 hlen.2 (by decide) rfl ⟨(elem_in (eqv_l (long_at _) g13) evA (Term.int_eval (0)) Ar.1).2, (elem_in (eqv_l (long_at _) g15) evA (Term.int_eval (1)) Ar.1).2, (elem_in (eqv_l (long_at _) g17) evA (Term.int_eval (2)) Ar.1).2, (elem_in (eqv_l (long_at _) g19) evA (Term.int_eval (3)) Ar.1).2, (elem_in (eqv_l (long_at _) g21) evA (Term.int_eval (4)) Ar.1).2, (elem_in (eqv_l (long_at _) g22) evA (Term.int_eval (5)) Ar.1).2, trivial⟩
  obtain ⟨n, o, h1, h2, h3, _, L, rfl, ⟨rfl, N⟩, hq⟩ := rmL l s _ hw tables_1 i0 i1 i2 i3 wA cl.cls s.heap s.heap.size (Nat.le_refl _) hS hV p e ha hc hk s m _ below hf ((Spec.applies_iff_loose hf).mp happ).1 ⟨rfl, State.Warmed39.refl s, rfl⟩ trivial
  refine ⟨n, _, h1, h2, h3, hpost _ _ _ _ _ _ ⟨Cond.after_iff.mpr rfl, Cond.after_iff.mpr (eq_i res_at (Term.int_eval (1)) rfl), trivial⟩ ⟨hq.1, hq.2.1, (hq.2.2.sift fun y hy => Or.inr (N y hy)).mono (by decide) (by decide)⟩⟩
theorem main_1_1 : Claimed_1_1 := comes_1 fun _ _ _ _ _ _ h hF => ⟨h.1, hF⟩
theorem main_1_2 : Claimed_1_2 := comes_1 fun _ _ _ _ _ _ h hF => ⟨h.2.1, hF⟩
end Jvm.Pilot.@@N@@
namespace Jvm.Pilot.@@N@@
open Jvm Jvm.ClassFile Sem Op Lib Jvm.Free Jvm.Stand Jvm.Pilot.@@N@@.Jvm.D
/-! MADE BY PROGRAM (witnessworld.py) out of the Statement's table words and the real class files: 15 classes; the members and pool entries that the words name. The judged class is class 1, her method 2. -/
namespace start1
open Jvm.ClassFile
def u (s : String) : CpInfo := .utf8 (stringToUtf16 s)
/-- a pool by its gaps: so many unusable entries, then the entry; so many at the end -/
def gap : Nat → List CpInfo → List CpInfo
  | 0, r => r
  | n + 1, r => .unusable :: gap n r
def poolList (es : List (Nat × CpInfo)) (last : Nat) : List CpInfo := es.foldr (fun e r => gap e.1 (e.2 :: r)) (gap last [])
def pool (es : List (Nat × CpInfo)) (last : Nat) : Array CpInfo := ⟨poolList es last⟩
def fileOf (pool : Array CpInfo) (this : Nat) (attrs : Array Attribute := #[]) (ms : Array MethodInfo := #[]) (fl : Nat := 33) (sup : Nat := 0) (ifs : Array Nat := #[]) (fds : Array FieldInfo := #[]) : ClassFile where
  minorVersion := 0
  majorVersion := 65
  constantPool := pool
  accessFlags := fl
  thisClass := this
  superClass := sup
  interfaces := ifs
  fields := fds
  methods := ms
  attributes := attrs
def plain (name : String) (sup : Option ClassId) : Class where
  name := name
  kind := .ordinary
  loader := none
  accessFlags := 33
  super := sup
  interfaces := #[]
  cf := none
  fields := #[]
  methods := #[]
  instanceTypes := #[]
  staticTypes := #[]
  resolved := #[]
  callSites := []
  init := .initialized
  statics := none
  mirror := none

def pool0 : Array CpInfo := pool [(5, u "<init>"), (0, u "()V"), (1, .class_ 10), (1, u "java/lang/Object")] 113

def k0m0 : Method := { name := "<init>", desc := "()V", sig := { parameters := [], returnType := none }, accessFlags := 1, code := none }
/-- java/lang/Object -/
def k0 : Class := { plain "java/lang/Object" none with
  accessFlags := 33
  interfaces := #[]
  cf := some (fileOf pool0 8 #[] #[{ accessFlags := 1, nameIndex := 5, descriptorIndex := 6, attributes := #[] }] 33 0 #[] #[])
  fields := #[]
  methods := #[k0m0]
  instanceTypes := #[]
  staticTypes := #[]
  resolved := Array.replicate 124 none
  statics := none }

def pool1 : Array CpInfo := pool [(2, .class_ 4), (1, u "java/lang/Object"), (0, u "<init>"), (0, u "()V"), (0, .long 2147483647), (1, .integer 2147483647), (0, .methodref 11 12), (0, .class_ 13), (0, .nameAndType 14 15), (0, u "java/lang/Math"), (0, u "max"), (0, u "(JJ)J"), (0, .methodref 17 18), (0, .class_ 19), (0, .nameAndType 20 21), (0, u "com/example/tagwire/tagwire/wire/NumberForm"), (0, u "utf8Length"), (0, u "(J)I"), (0, .methodref 23 24), (0, .class_ 25), (0, .nameAndType 26 21), (0, u "com/example/tagwire/tagwire/wire/NumberFormUtf8LengthPinLaw"), (0, u "reference"), (3, u "law"), (0, u "(JIII)Z")] 2

def k1m0 : Method := { name := "<init>", desc := "()V", sig := { parameters := [], returnType := none }, accessFlags := 2, code := none }
def k1c1 : Code := { maxStack := 4, maxLocals := 2, code := method_2_code, exceptionTable := #[], attributes := #[] }
def k1m1 : Method := { name := "reference", desc := "(J)I", sig := { parameters := [.long], returnType := some .int }, accessFlags := 10, code := some k1c1 }
def k1c2 : Code := { maxStack := 6, maxLocals := 10, code := code, exceptionTable := #[], attributes := #[] }
def k1m2 : Method := { name := "law", desc := "(JIII)Z", sig := { parameters := [.long, .int, .int, .int], returnType := some .boolean }, accessFlags := 9, code := some k1c2 }
/-- com/example/tagwire/tagwire/wire/NumberFormUtf8LengthPinLaw -/
def k1 : Class := { plain "com/example/tagwire/tagwire/wire/NumberFormUtf8LengthPinLaw" (some 0) with
  accessFlags := 49
  interfaces := #[]
  cf := some (fileOf pool1 23 #[] #[{ accessFlags := 2, nameIndex := 5, descriptorIndex := 6, attributes := #[] }, { accessFlags := 10, nameIndex := 26, descriptorIndex := 21, attributes := #[] }, { accessFlags := 9, nameIndex := 30, descriptorIndex := 31, attributes := #[] }] 49 2 #[] #[])
  fields := #[]
  methods := #[k1m0, k1m1, k1m2]
  instanceTypes := #[]
  staticTypes := #[]
  resolved := Array.replicate 34 none
  statics := none }

def pool2 : Array CpInfo := pool [(1, .class_ 2), (0, u "java/lang/Math"), (1, .class_ 6), (1, u "java/lang/Object"), (0, u "<init>"), (0, u "()V"), (89, .class_ 100), (1, u "java/lang/Math$RandomNumberGeneratorHolder"), (20, u "(JJ)J"), (50, u "negativeZeroFloatBits"), (0, u "J"), (2, u "negativeZeroDoubleBits"), (21, u "max"), (46, u "$assertionsDisabled"), (0, u "Z"), (91, u "twoToTheDoubleScaleDown"), (0, u "D"), (4, u "twoToTheDoubleScaleUp"), (9, u "E"), (3, u "PI"), (2, u "TAU"), (2, u "DEGREES_TO_RADIANS"), (0, u "RADIANS_TO_DEGREES")] 94

def k2m0 : Method := { name := "<init>", desc := "()V", sig := { parameters := [], returnType := none }, accessFlags := 2, code := none }
def k2c1 : Code := { maxStack := 4, maxLocals := 4, code := jdk_29_method_66_code, exceptionTable := #[], attributes := #[] }
def k2m1 : Method := { name := "max", desc := "(JJ)J", sig := { parameters := [.long, .long], returnType := some .long }, accessFlags := 9, code := some k2c1 }
/-- java/lang/Math -/
def k2 : Class := { plain "java/lang/Math" (some 0) with
  accessFlags := 49
  interfaces := #[]
  cf := some (fileOf pool2 1 #[.nestMembers #[98]] #[{ accessFlags := 2, nameIndex := 7, descriptorIndex := 8, attributes := #[] }, { accessFlags := 9, nameIndex := 198, descriptorIndex := 121, attributes := #[] }] 49 4 #[] #[{ accessFlags := 25, nameIndex := 354, descriptorIndex := 339, attributes := #[] }, { accessFlags := 25, nameIndex := 358, descriptorIndex := 339, attributes := #[] }, { accessFlags := 25, nameIndex := 361, descriptorIndex := 339, attributes := #[] }, { accessFlags := 26, nameIndex := 364, descriptorIndex := 339, attributes := #[] }, { accessFlags := 26, nameIndex := 365, descriptorIndex := 339, attributes := #[] }, { accessFlags := 26, nameIndex := 172, descriptorIndex := 173, attributes := #[] }, { accessFlags := 26, nameIndex := 176, descriptorIndex := 173, attributes := #[] }, { accessFlags := 8, nameIndex := 344, descriptorIndex := 339, attributes := #[] }, { accessFlags := 8, nameIndex := 338, descriptorIndex := 339, attributes := #[] }, { accessFlags := 4120, nameIndex := 245, descriptorIndex := 246, attributes := #[] }])
  fields := #[{ name := "E", type := .double, accessFlags := 25, slot := 0, constantValue := 0 }, { name := "PI", type := .double, accessFlags := 25, slot := 1, constantValue := 0 }, { name := "TAU", type := .double, accessFlags := 25, slot := 2, constantValue := 0 }, { name := "DEGREES_TO_RADIANS", type := .double, accessFlags := 26, slot := 3, constantValue := 0 }, { name := "RADIANS_TO_DEGREES", type := .double, accessFlags := 26, slot := 4, constantValue := 0 }, { name := "negativeZeroFloatBits", type := .long, accessFlags := 26, slot := 5, constantValue := 0 }, { name := "negativeZeroDoubleBits", type := .long, accessFlags := 26, slot := 6, constantValue := 0 }, { name := "twoToTheDoubleScaleUp", type := .double, accessFlags := 8, slot := 7, constantValue := 0 }, { name := "twoToTheDoubleScaleDown", type := .double, accessFlags := 8, slot := 8, constantValue := 0 }, { name := "$assertionsDisabled", type := .boolean, accessFlags := 4120, slot := 9, constantValue := 0 }]
  methods := #[k2m0, k2m1]
  instanceTypes := #[]
  staticTypes := #[.double, .double, .double, .double, .double, .long, .long, .double, .double, .boolean]
  resolved := Array.replicate 460 none
  statics := none }

def pool3 : Array CpInfo := pool [(1, .class_ 2), (0, u "java/lang/constant/Constable"), (0, .class_ 4), (0, u "java/lang/Object")] 6

/-- java/lang/constant/Constable -/
def k3 : Class := { plain "java/lang/constant/Constable" (some 0) with
  accessFlags := 1537
  interfaces := #[]
  cf := some (fileOf pool3 1 #[] #[] 1537 3 #[] #[])
  fields := #[]
  methods := #[]
  instanceTypes := #[]
  staticTypes := #[]
  resolved := Array.replicate 11 none
  statics := none }

def pool4 : Array CpInfo := pool [(1, .class_ 2), (0, u "java/lang/Comparable"), (0, .class_ 4), (0, u "java/lang/Object")] 7

/-- java/lang/Comparable -/
def k4 : Class := { plain "java/lang/Comparable" (some 0) with
  accessFlags := 1537
  interfaces := #[]
  cf := some (fileOf pool4 1 #[] #[] 1537 3 #[] #[])
  fields := #[]
  methods := #[]
  instanceTypes := #[]
  staticTypes := #[]
  resolved := Array.replicate 12 none
  statics := none }

def pool5 : Array CpInfo := pool [(1, .class_ 2), (0, u "java/io/Serializable"), (0, .class_ 4), (0, u "java/lang/Object")] 2

/-- java/io/Serializable -/
def k5 : Class := { plain "java/io/Serializable" (some 0) with
  accessFlags := 1537
  interfaces := #[]
  cf := some (fileOf pool5 1 #[] #[] 1537 3 #[] #[])
  fields := #[]
  methods := #[]
  instanceTypes := #[]
  staticTypes := #[]
  resolved := Array.replicate 7 none
  statics := none }

def pool6 : Array CpInfo := pool [(2, .class_ 4), (1, u "java/lang/Enum"), (0, u "name"), (0, u "Ljava/lang/String;"), (2, u "ordinal"), (0, u "I"), (1, .class_ 14), (1, u "java/lang/Object"), (4, u "hash"), (86, .class_ 108), (1, u "java/lang/Enum$EnumDesc"), (2, .class_ 112), (0, u "java/lang/constant/Constable"), (0, .class_ 114), (0, u "java/lang/Comparable"), (0, .class_ 116), (0, u "java/io/Serializable")] 87

/-- java/lang/Enum -/
def k6 : Class := { plain "java/lang/Enum" (some 0) with
  accessFlags := 1057
  interfaces := #[3, 4, 5]
  cf := some (fileOf pool6 2 #[.nestMembers #[106]] #[] 1057 12 #[111, 113, 115] #[{ accessFlags := 18, nameIndex := 5, descriptorIndex := 6, attributes := #[] }, { accessFlags := 18, nameIndex := 9, descriptorIndex := 10, attributes := #[] }, { accessFlags := 2, nameIndex := 19, descriptorIndex := 10, attributes := #[] }])
  fields := #[{ name := "name", type := (.object "java/lang/String"), accessFlags := 18, slot := 0, constantValue := 0 }, { name := "ordinal", type := .int, accessFlags := 18, slot := 1, constantValue := 0 }, { name := "hash", type := .int, accessFlags := 2, slot := 2, constantValue := 0 }]
  methods := #[]
  instanceTypes := #[(.object "java/lang/String"), .int, .int]
  staticTypes := #[]
  resolved := Array.replicate 204 none
  statics := none }

def pool7 : Array CpInfo := pool [(1, .class_ 2), (0, u "com/example/tagwire/tagwire/wire/NumberForm"), (2, u "FIXED"), (0, u "Lcom/example/tagwire/tagwire/wire/NumberForm;"), (2, u "LARGE_COUNTS"), (2, u "UTF8"), (2, u "$VALUES"), (0, u "[Lcom/example/tagwire/tagwire/wire/NumberForm;"), (6, .class_ 25), (1, u "java/lang/Enum"), (8, u "packetHeader"), (0, u "I"), (2, u "tagHeader"), (2, u "childCount"), (2, u "ruleWidths"), (0, u "Z"), (35, u "utf8Length"), (0, u "(J)I"), (19, u "SHORTS"), (0, u "Ljava/lang/invoke/VarHandle;"), (12, u "INTS"), (17, .fieldref 1 135), (0, .nameAndType 136 137), (0, u "SHORTEST_FORM_FLOOR"), (0, u "[J"), (34, u "LARGE_COUNT_MARK"), (2, u "MAX_SHORT_COUNT"), (0, u "MAX_LARGE_COUNT"), (0, u "J")] 23

def k7c0 : Code := { maxStack := 5, maxLocals := 3, code := prog_70_method_17_code, exceptionTable := #[], attributes := #[] }
def k7m0 : Method := { name := "utf8Length", desc := "(J)I", sig := { parameters := [.long], returnType := some .int }, accessFlags := 8, code := some k7c0 }
/-- com/example/tagwire/tagwire/wire/NumberForm -/
def k7 : Class := { plain "com/example/tagwire/tagwire/wire/NumberForm" (some 6) with
  accessFlags := 16432
  interfaces := #[]
  cf := some (fileOf pool7 1 #[] #[{ accessFlags := 8, nameIndex := 81, descriptorIndex := 82, attributes := #[] }] 16432 23 #[] #[{ accessFlags := 16409, nameIndex := 5, descriptorIndex := 6, attributes := #[] }, { accessFlags := 16409, nameIndex := 9, descriptorIndex := 6, attributes := #[] }, { accessFlags := 16409, nameIndex := 12, descriptorIndex := 6, attributes := #[] }, { accessFlags := 24, nameIndex := 172, descriptorIndex := 35, attributes := #[] }, { accessFlags := 26, nameIndex := 175, descriptorIndex := 35, attributes := #[] }, { accessFlags := 26, nameIndex := 176, descriptorIndex := 177, attributes := #[] }, { accessFlags := 26, nameIndex := 102, descriptorIndex := 103, attributes := #[] }, { accessFlags := 26, nameIndex := 116, descriptorIndex := 103, attributes := #[] }, { accessFlags := 26, nameIndex := 136, descriptorIndex := 137, attributes := #[] }, { accessFlags := 16, nameIndex := 34, descriptorIndex := 35, attributes := #[] }, { accessFlags := 16, nameIndex := 38, descriptorIndex := 35, attributes := #[] }, { accessFlags := 16, nameIndex := 41, descriptorIndex := 35, attributes := #[] }, { accessFlags := 16, nameIndex := 44, descriptorIndex := 45, attributes := #[] }, { accessFlags := 4122, nameIndex := 15, descriptorIndex := 16, attributes := #[] }])
  fields := #[{ name := "FIXED", type := (.object "com/example/tagwire/tagwire/wire/NumberForm"), accessFlags := 16409, slot := 0, constantValue := 0 }, { name := "LARGE_COUNTS", type := (.object "com/example/tagwire/tagwire/wire/NumberForm"), accessFlags := 16409, slot := 1, constantValue := 0 }, { name := "UTF8", type := (.object "com/example/tagwire/tagwire/wire/NumberForm"), accessFlags := 16409, slot := 2, constantValue := 0 }, { name := "LARGE_COUNT_MARK", type := .int, accessFlags := 24, slot := 3, constantValue := 0 }, { name := "MAX_SHORT_COUNT", type := .int, accessFlags := 26, slot := 4, constantValue := 0 }, { name := "MAX_LARGE_COUNT", type := .long, accessFlags := 26, slot := 5, constantValue := 0 }, { name := "SHORTS", type := (.object "java/lang/invoke/VarHandle"), accessFlags := 26, slot := 6, constantValue := 0 }, { name := "INTS", type := (.object "java/lang/invoke/VarHandle"), accessFlags := 26, slot := 7, constantValue := 0 }, { name := "SHORTEST_FORM_FLOOR", type := (.array .long), accessFlags := 26, slot := 8, constantValue := 0 }, { name := "packetHeader", type := .int, accessFlags := 16, slot := 3, constantValue := 0 }, { name := "tagHeader", type := .int, accessFlags := 16, slot := 4, constantValue := 0 }, { name := "childCount", type := .int, accessFlags := 16, slot := 5, constantValue := 0 }, { name := "ruleWidths", type := .boolean, accessFlags := 16, slot := 6, constantValue := 0 }, { name := "$VALUES", type := (.array (.object "com/example/tagwire/tagwire/wire/NumberForm")), accessFlags := 4122, slot := 9, constantValue := 0 }]
  methods := #[k7m0]
  instanceTypes := #[(.object "java/lang/String"), .int, .int, .int, .int, .int, .boolean]
  staticTypes := #[(.object "com/example/tagwire/tagwire/wire/NumberForm"), (.object "com/example/tagwire/tagwire/wire/NumberForm"), (.object "com/example/tagwire/tagwire/wire/NumberForm"), .int, .int, .long, (.object "java/lang/invoke/VarHandle"), (.object "java/lang/invoke/VarHandle"), (.array .long), (.array (.object "com/example/tagwire/tagwire/wire/NumberForm"))]
  resolved := Array.replicate 201 none
  statics := some 0 }

def pool8 : Array CpInfo := pool [(1, u "java/lang/Cloneable"), (0, .class_ 1), (0, u "java/lang/Object"), (0, .class_ 3)] 3

/-- java/lang/Cloneable -/
def k8 : Class := { plain "java/lang/Cloneable" (some 0) with
  accessFlags := 1537
  interfaces := #[]
  cf := some (fileOf pool8 2 #[] #[] 1537 4 #[] #[])
  fields := #[]
  methods := #[]
  instanceTypes := #[]
  staticTypes := #[]
  resolved := Array.replicate 8 none
  statics := none }

/-- the primitive byte -/
def k9 : Class := { plain "byte" none with kind := .primitive 'B', accessFlags := 0x411 }
/-- [B -/
def k10 : Class := { plain "[B" (some 0) with kind := .array 9 .byte, interfaces := #[8, 5], accessFlags := 1041 }

/-- the primitive int -/
def k11 : Class := { plain "int" none with kind := .primitive 'I', accessFlags := 0x411 }
/-- [I -/
def k12 : Class := { plain "[I" (some 0) with kind := .array 11 .int, interfaces := #[8, 5], accessFlags := 1041 }

/-- the primitive long -/
def k13 : Class := { plain "long" none with kind := .primitive 'J', accessFlags := 0x411 }
/-- [J -/
def k14 : Class := { plain "[J" (some 0) with kind := .array 13 .long, interfaces := #[8, 5], accessFlags := 1041 }

def heap : Heap := #[{ cls := 7, slots := #[.null, .null, .null, .int 0, .int 0, .long 0, .null, .null, .ref 1, .null], vm := .statics 7 },
  { cls := 14, slots := #[.long 0, .long 128, .long 2048, .long 65536, .long 2097152, .long 67108864], vm := .none }]
def classes : Array Class := #[k0, k1, k2, k3, k4, k5, k6, k7, k8, k9, k10, k11, k12, k13, k14]
def interned : List (Array UInt16 × Addr) := []
def slotsUsed : Nat := 16
def theMethod : MethodId := ⟨1, 2⟩
def args0 : Array Value := #[.long 5, .int 5, .int 5, .int 5]
def aboutOver (below : List Frame) : State where
  vm := { classes := classes, interned := interned.toArray }
  heap := heap
  slotsUsed := slotsUsed
  threads := #[{ frames := .invoking theMethod args0 :: below }]
def below0 : List Frame := [.native { method := ⟨0, 0⟩, args := #[] }]
def about1 : State := aboutOver below0
def p0 : Program := .bare "" "" ""
def e0 : Env := launch0.env 0 0 0
theorem w_frames : about1.frames = Frame.invoking theMethod args0 :: below0 := rfl
set_option maxRecDepth 65536 in
theorem w_args : argsFit about1.vm theMethod args0 = true := by decide +kernel
set_option maxRecDepth 65536 in
theorem w_heap : heapFits about1 = true := by decide +kernel
set_option maxRecDepth 65536 in
theorem w_runnable : about1.curStatus? = some .runnable := by decide +kernel
set_option maxRecDepth 65536 in
theorem w_alone : about1.alone = true := by decide +kernel
set_option maxRecDepth 65536 in
theorem w_named : about1.methodNamed? x = some theMethod := by decide +kernel
set_option maxRecDepth 65536 in
theorem w_hears : about1.hears theMethod below0 = true := by decide +kernel
set_option maxRecDepth 65536 in
theorem w_ripe : about1.ripe theMethod args0 below0 = true := by decide +kernel
theorem w_running : about1.status = .running := rfl
set_option maxRecDepth 65536 in
theorem w_room : about1.hasRoom e0.platform room_1 = true :=
  launch0.hasRoom_least _ room_1 (by decide +kernel) (by decide +kernel) (by decide +kernel) (by decide +kernel) (by decide +kernel) (by decide +kernel)
theorem allAtoms_all (ts : List Jvm.Cond) (a : Array Jvm.Value) (st : Jvm.State) : (allAtoms ts).before a st = ts.all (fun c => c.before a st) := by
  induction ts with
  | nil => rfl
  | cons c t ih =>
    show (Jvm.Cond.and c (allAtoms t)).before a st = _
    rw [Jvm.Cond.before_and, ih, List.all_cons]
def words1 : List Jvm.Cond := Jvm.Cond.code x code maxLocals ret :: tables_1
/-- a 'code' word, met by the world's own term for the bytes: nothing is compared byte by byte -/
theorem code_word {y : MethodName} {bytes : ByteArray} {mx : Nat} {rt : Option FieldType} {a : Array Value} {s : State} {m : MethodId} {meth : Method} {c : Code} (h1 : s.methodNamed? y = some m) (h2 : s.vm.method? m = some meth) (h3 : meth.code = some c) (h4 : c.code = bytes)
    (h5 : (c.maxLocals == mx && c.exceptionTable.isEmpty && decide (c.maxStack ≤ mostOperands) && decide (meth.sig.returnType = rt) && !meth.locks && decide (parseMethodDescriptor y.desc = some meth.sig)) = true) : (Jvm.Cond.code y bytes mx rt).before a s = true := by
  simp only [Bool.and_eq_true, beq_iff_eq, Bool.not_eq_true', decide_eq_true_eq] at h5
  obtain ⟨⟨⟨⟨⟨g1, g2⟩, g3⟩, g4⟩, g5⟩, g6⟩ := h5
  simp [Cond.before, Cond.holds, Cond.value, h1, h2, h3, h4, g1, g2, g3, g4, g5, g6]
def isCode : Jvm.Cond → Bool
  | .code _ _ _ _ => true
  | _ => false
theorem all_split {L : List Jvm.Cond} {P : Jvm.Cond → Bool} (h1 : L.all (fun c => isCode c || P c) = true) (h2 : ∀ c ∈ L.filter isCode, P c = true) : L.all P = true := by
  refine List.all_eq_true.mpr fun c hc => ?_
  have h := List.all_eq_true.mp h1 c hc
  rcases Bool.eq_false_or_eq_true (isCode c) with hi | hi
  · exact h2 c (List.mem_filter.mpr ⟨hc, hi⟩)
  · simpa [hi] using h
set_option maxRecDepth 65536 in
theorem w_c0 : (Jvm.Cond.code x code maxLocals ret).before args0 about1 = true := code_word (m := ⟨1, 2⟩) (meth := k1m2) (c := k1c2) (by decide +kernel) rfl rfl rfl (by decide +kernel)
set_option maxRecDepth 65536 in
theorem w_c1 : (Jvm.Cond.code ({ cls := "java/lang/Math", name := "max", desc := "(JJ)J" } : Jvm.MethodName) jdk_29_method_66_code (4 : Nat) (Option.some Jvm.ClassFile.FieldType.long)).before args0 about1 = true := code_word (m := ⟨2, 1⟩) (meth := k2m1) (c := k2c1) (by decide +kernel) rfl rfl rfl (by decide +kernel)
set_option maxRecDepth 65536 in
theorem w_c2 : (Jvm.Cond.code ({ cls := "com/example/tagwire/tagwire/wire/NumberForm", name := "utf8Length", desc := "(J)I" } : Jvm.MethodName) prog_70_method_17_code (3 : Nat) (Option.some Jvm.ClassFile.FieldType.int)).before args0 about1 = true := code_word (m := ⟨7, 0⟩) (meth := k7m0) (c := k7c0) (by decide +kernel) rfl rfl rfl (by decide +kernel)
set_option maxRecDepth 65536 in
theorem w_c3 : (Jvm.Cond.code ({ cls := "com/example/tagwire/tagwire/wire/NumberFormUtf8LengthPinLaw", name := "reference", desc := "(J)I" } : Jvm.MethodName) method_2_code (2 : Nat) (Option.some Jvm.ClassFile.FieldType.int)).before args0 about1 = true := code_word (m := ⟨1, 1⟩) (meth := k1m1) (c := k1c1) (by decide +kernel) rfl rfl rfl (by decide +kernel)
def codes1 : List Jvm.Cond := [Jvm.Cond.code x code maxLocals ret, Jvm.Cond.code ({ cls := "java/lang/Math", name := "max", desc := "(JJ)J" } : Jvm.MethodName) jdk_29_method_66_code (4 : Nat) (Option.some Jvm.ClassFile.FieldType.long), Jvm.Cond.code ({ cls := "com/example/tagwire/tagwire/wire/NumberForm", name := "utf8Length", desc := "(J)I" } : Jvm.MethodName) prog_70_method_17_code (3 : Nat) (Option.some Jvm.ClassFile.FieldType.int), Jvm.Cond.code ({ cls := "com/example/tagwire/tagwire/wire/NumberFormUtf8LengthPinLaw", name := "reference", desc := "(J)I" } : Jvm.MethodName) method_2_code (2 : Nat) (Option.some Jvm.ClassFile.FieldType.int)]
set_option maxRecDepth 65536 in
theorem codes_eq : words1.filter isCode = codes1 := rfl
theorem w_codes : ∀ c ∈ words1.filter isCode, c.before args0 about1 = true := by
  rw [codes_eq]
  intro c hc
  simp only [codes1, List.mem_cons, List.not_mem_nil, or_false] at hc
  rcases hc with rfl | rfl | rfl | rfl
  · exact w_c0
  · exact w_c1
  · exact w_c2
  · exact w_c3
set_option maxRecDepth 65536 in
theorem w_t1 : words1.all (fun c => isCode c || c.before args0 about1) = true := by decide +kernel
theorem w_tables : (allAtoms (Jvm.Cond.code x code maxLocals ret :: tables_1)).before args0 about1 = true := by
  rw [allAtoms_all]
  show words1.all (fun c => c.before args0 about1) = true
  refine all_split ?_ w_codes
  rw [w_t1]
set_option maxRecDepth 65536 in
theorem w_case : (Jvm.Cond.and given_1 narrow_1).before args0 about1 = true := by decide +kernel
theorem w_applies : (headSpec (Jvm.Cond.code x code maxLocals ret :: tables_1) room_1).applies x e0.platform about1 = true :=
  (Spec.applies_iff w_frames).mpr ⟨w_running, w_runnable, w_alone, w_named, w_hears, w_ripe, w_room, w_tables⟩
theorem atStart : AtStart classFile x code maxLocals ret World_1 tables_1 room_1 Calls_1 rest_1 Pre_1 launch0 p0 e0 about1 theMethod args0 below0 :=
  ⟨lists_1, trivial, launch0.admits_env _ _ _, launch0.least_env, fairChoices_fair.cas, fairChoices_fair.clock, w_frames, w_args, w_heap, w_applies, trivial, trivial, w_case⟩
end start1
theorem witness_1 : WitnessClaimed_1 := ⟨start1.p0, start1.e0, start1.about1, start1.theMethod, start1.args0, start1.below0, start1.atStart⟩
end Jvm.Pilot.@@N@@
