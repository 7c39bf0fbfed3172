import JvmDerived
import JvmDerived.Pilot.@@N@@Statement
import JvmDerived.Pilot.@@N@@Code
set_option linter.unusedVariables false
set_option linter.unusedSimpArgs false
namespace Jvm.RoadKit
open Sem ClassFile Op Lib Jvm.Stand Jvm.Free Jvm.LawKit
section New
variable {p : Program} {l : Launch} {e : Env} {R : Room} {s : State} {m : MethodId} {args : Array Value} {below : List Frame} {meth : Method} {c : Code} {T : State} {locs : List Loc} {cells slots : Nat}
theorem retI (X : Stand p l e R s m args below meth c T locs cells slots) (hx : p.tables.exec = Jvm.exec) {pc : Nat} {Ls : Array Slot} {z : Int32} {rest : List Value} (hret : meth.sig.returnType = some .int) (hd : decode c.code pc = .ok (.ireturn, 1)) {fs : List Frame}
    (hl : ∀ (f : JFrame) (acts : List Action), f.method = m → f.locked = none → f.entered = [] → (doReturn e (T.setTop f) acts (some (.int z))).1 = T.setFrames fs) : Steps p.tables e below (T.setTop (mkF m pc Ls (.int z :: rest))) (T.setFrames fs) := by
  have hm' : T.vm.method? m = some meth := X.method'
  have hn : narrow .int (.int z) = .int z := rfl
  show Steps p.tables e below (T.setTop { method := m, pc := pc, locals := Ls, stack := _ :: rest, locked := none }) _
  jvm_step X.here [X.here.top, hx, hd, hm', hret, hn]
  first | (intro acts; rw [hl _ acts rfl rfl rfl]) | rw [hl _ _ rfl rfl rfl]
  exact Steps.refl _
end New
end Jvm.RoadKit
namespace Jvm.Pilot.@@N@@
open Jvm Jvm.ClassFile Sem Op Lib Jvm.Free Jvm.Stand Jvm.LawKit Jvm.RoadKit Bundle Jvm.Pilot.@@N@@.Jvm.D
abbrev Go (p : Program) (e : Env) (below : List Frame) (T : State) (g : JFrame) (t : State) : Prop := Steps p.tables e below (T.setTop g) t
theorem hwi {Z : State} {a0 : Array Value} (hw : ∀ d ∈ tables_1, d.before a0 Z = true) {d : Jvm.Cond} (i : Nat) (q : tables_1[i]? = some d) : d.before a0 Z = true := hw _ (List.mem_of_getElem? q)

def Wd (Z : State) (h : Heap) (w_MAJOR w_MINOR : Addr) : Prop := (Sta Z h "com/example/archstave/archstave/core/node/VersionType" "MAJOR" "Lcom/example/archstave/archstave/core/node/VersionType;" (.ref w_MAJOR) ∧ Exa Z h w_MAJOR "com/example/archstave/archstave/core/node/VersionType" ∧ Fld Z h w_MAJOR "java/lang/Enum" "ordinal" "I" (.int (0 : Int32))) ∧ (Sta Z h "com/example/archstave/archstave/core/node/VersionType" "MINOR" "Lcom/example/archstave/archstave/core/node/VersionType;" (.ref w_MINOR) ∧ Exa Z h w_MINOR "com/example/archstave/archstave/core/node/VersionType" ∧ Fld Z h w_MINOR "java/lang/Enum" "ordinal" "I" (.int (1 : Int32)))
theorem Wd_ext {Z : State} {h h' : Heap} {w_MAJOR w_MINOR : Addr} (W : Wd Z h w_MAJOR w_MINOR) (E : Ext h h') : Wd Z h' w_MAJOR w_MINOR := by
  obtain ⟨⟨S_MAJOR, E_MAJOR, F_MAJOR⟩, ⟨S_MINOR, E_MINOR, F_MINOR⟩⟩ := W
  exact ⟨⟨S_MAJOR.ext E, E_MAJOR.ext E, F_MAJOR.ext E⟩, ⟨S_MINOR.ext E, E_MINOR.ext E, F_MINOR.ext E⟩⟩
theorem own_ext {h0 h : Heap} (K : Keep h0 h []) : Ext h0 h := ⟨K.1, fun a c q => K.2.1 a c q nin0⟩
theorem own_lsw {tb : Tables} [Ours tb] {e : Env} {below : List Frame} {T target : State} {m : MethodId} {c : Code} {g : JFrame} (h : At T m c below) (hx : tb.exec = Jvm.exec) (hg : g.method = m) {dflt : Int} {pairs : Array (Int × Int)} {len : Nat} {o : Int} {pc0 pc' : Nat} (hpc : g.pc = pc0) (hd : decode c.code g.pc = .ok (.lookupswitch dflt pairs, len)) {i : Int32} {rest : List Value} (hs : g.stack = .int i :: rest)
    (hord : (pairs.toList.zip (pairs.toList.drop 1)).all (fun (a, next) => a.1 < next.1) = true) (hoff : lookupswitch.offset pairs.toList dflt i.toInt = o) (ho : 0 ≤ (pc0 : Int) + o) (hp : ((pc0 : Int) + o).toNat = pc')
    (hr : Steps tb e below (T.setTop { g with pc := pc', stack := rest }) target) : Steps tb e below (T.setTop g) target := by
  subst hg hpc hp
  jvm_step h [h.top, hx, hd, hs, hord, hoff, ho, lookupswitch.wp_chain]
  refine ⟨?_, hr⟩
  simpa using hord
theorem own_len {args : Array Value} {first s : State} {o : Option Outcome} {idx : List Nat} {t : Term} {x : Addr} {cl : Cell} {z : Int32} (ht : t.eval args first o idx s = some (.ref x)) (ha : s.arrayAt? x = some cl) (h : (Term.length t).eval args first o idx s = some (.int z)) : cl.slots.size < 2 ^ 31 ∧ cl.slots.size.toInt32 = z := by
  simpa [Term.eval, ht, ha] using h
theorem own_lt {x y : Int32} {a b : Int} (hx : x.toInt = a) (hy : y.toInt = b) (h : b ≤ a) : ¬ x < y := by
  rw [Int32.lt_iff_toInt_lt, hx, hy]; omega
theorem own_add1 {x : Int32} (h0 : 0 ≤ x.toInt) (h1 : x.toInt < 2147483647) : (x + (1 : Int32)).toInt = x.toInt + 1 := by
  have c := c_iadd x 1
  have r := rng32 (x + (1 : Int32))
  have e1 : (1 : Int32).toInt = 1 := by decide
  rw [e1] at c
  omega
theorem own_ok {x : Int32} (h0 : 0 ≤ x.toInt) (h1 : x.toInt < 2147483647) : ¬ (((x ^^^ (x + (1 : Int32))) &&& ((1 : Int32) ^^^ (x + (1 : Int32)))) < (0 : Int32)) := by
  have a := own_add1 h0 h1
  have e1 : (1 : Int32).toInt = 1 := by decide
  have p := (c_xorS x (x + 1)).2.2.2 h0 (by omega)
  have q := (c_andS (x ^^^ (x + (1 : Int32))) ((1 : Int32) ^^^ (x + (1 : Int32)))).2.1 p
  exact own_lt rfl (by decide) q
theorem own_ge {x : Int32} {k : Int32} (n : Int) (hk : k.toInt = n) (h : n ≤ x.toInt) : ¬ x < k := own_lt rfl hk h
theorem own_mj (x m : Int32) (d : Int) (hm : m.toInt = d) (hd : 0 < d) (hd2 : d ≤ 2147483647) : 1 ≤ ((1 : Int32) + (x &&& (2147483647 : Int32)) % m).toInt ∧ ((1 : Int32) + (x &&& (2147483647 : Int32)) % m).toInt ≤ d := by
  have h1 := c_mask x 2147483647 31 (by decide) (by decide)
  have h2 := (c_irem (x &&& 2147483647) m d hm).1 (by omega)
  have h3 := Int.emod_nonneg (x &&& (2147483647 : Int32)).toInt (show d ≠ 0 by omega)
  have h4 := Int.emod_lt_of_pos (x &&& (2147483647 : Int32)).toInt hd
  have c := c_iadd 1 ((x &&& (2147483647 : Int32)) % m)
  have r := rng32 ((1 : Int32) + (x &&& (2147483647 : Int32)) % m)
  have e1 : (1 : Int32).toInt = 1 := by decide
  rw [e1, h2] at c
  omega
theorem own_mn (x m : Int32) (d : Int) (hm : m.toInt = d) (hd : 0 < d) : 0 ≤ ((x &&& (2147483647 : Int32)) % m).toInt ∧ ((x &&& (2147483647 : Int32)) % m).toInt < d := by
  have h1 := c_mask x 2147483647 31 (by decide) (by decide)
  have h2 := (c_irem (x &&& 2147483647) m d hm).1 (by omega)
  rw [h2]; exact ⟨Int.emod_nonneg _ (by omega), Int.emod_lt_of_pos _ hd⟩
theorem own_m0 (x : Int32) : 0 ≤ (x &&& (2147483647 : Int32)).toInt := by
  have h1 := c_mask x 2147483647 31 (by decide) (by decide)
  omega
theorem ef_2 (m : MethodId) (x0 : Addr) : entryFrame m #[(.ref x0)] 1 = mkF m 0 #[.val (.ref x0)] [] := by first | (simp [entryFrame, mkF, argsToLocals, Value.category]; done) | rfl
theorem pn_java_lang_Record : plainName "java/lang/Record" = true := by first | (simp [plainName, overriddenIn]; done) | decide +kernel
theorem d2_0 : decode jdk_30_method_1_code 0 = .ok (.aload_n 0, 1) := by decide +kernel
theorem d2_1 : decode jdk_30_method_1_code 1 = .ok (.invokespecial 1, 3) := by decide +kernel
theorem d2_4 : decode jdk_30_method_1_code 4 = .ok (.return_, 1) := by decide +kernel
def Q_rmR (Z : State) (a1 : Addr) (h0 : Heap) (n0 : Nat) (v : Option Value) (h : Heap) (L : List Loc) : Prop := v = none ∧ Fr n0 L ∧ h = h0
set_option maxRecDepth 65536 in
set_option maxHeartbeats 40000000 in
theorem rmR (l : Launch) (Z : State) (a0 : Array Value) (hw : ∀ d ∈ tables_1, d.before a0 Z = true) (ws : List Jvm.Cond) (a1 : Addr) (h0 : Heap) (n0 : Nat) (Z0 : n0 ≤ h0.size) :
    MetFree l (⟨"java/lang/Record", "<init>", "()V"⟩ : MethodName) (head1 (Jvm.Cond.code (⟨"java/lang/Record", "<init>", "()V"⟩ : MethodName) jdk_30_method_1_code 1 none :: ws) ({ frames := 1, cells := 0, slots := 0, locals := 12 } : Room)) (fun av_ U_ => av_ = #[(.ref a1)] ∧ Z.Warmed39 U_.vm ∧ U_.heap = h0) (fun _ _ _ _ _ => True) (fun _ U_ o_ V_ => ∃ v_ L_, o_ = .returned v_ ∧ Q_rmR Z a1 h0 n0 v_ V_.heap L_ ∧ FrameEnd U_ o_ V_ L_ ({ frames := 1, cells := 0, slots := 0, locals := 12 } : Room).cells ({ frames := 1, cells := 0, slots := 0, locals := 12 } : Room).slots) := by
  refine MetFree.of_bodySF (plainFor_of_name pn_java_lang_Record) hisR ?_
  intro p e s m args below meth c s₁ Bd hml0 hP hK
  obtain ⟨rfl, hZ, hh⟩ := hP
  have hx := Bd.exec
  have hby := Bd.bytes
  have hml : c.maxLocals = 1 := hml0
  have hown : s.vm.findClass "java/lang/Record" = some m.cls := findClass_of_methodNamed Bd.named
  have hnm := (name_of_methodNamed Bd.named Bd.method).1
  have X0 : Stand p l e ({ frames := 1, cells := 0, slots := 0, locals := 12 } : Room) s m #[(.ref a1)] below meth c s₁ [] 0 0 := Stand.of_body Bd
  have e0 : s₁.heap = h0 := by rw [← hh, Bd.state]; rfl
  have N0 := Fr.nil n0
  have pre0 : ∀ t_, Go p e below s₁ (mkF m 0 #[rv a1] []) t_ → Go p e below s₁ (entryFrame m #[(.ref a1)] 1) t_ := fun t_ kt => castTop (ef_2 m a1) kt
  obtain ⟨T1, X1, e1, st1⟩ := initO X0 hx hZ hown (hwi hw 12 rfl) (hwi hw 13 rfl) (hwi hw 14 rfl) e0 (g := (mkF m 1 #[rv a1] [(.ref a1)])) rfl (by rw [hml]; rfl) rfl (hb hby d2_1) (by decide) (W := 0) (by show 2 * 0 + _ ≤ _; exact Nat.le_of_eq rfl) (by decide)
  have pre2 : ∀ t_, Go p e below T1 (mkF m 4 #[rv a1] []) t_ → Go p e below s₁ (entryFrame m #[(.ref a1)] 1) t_ := fun t_ kt => pre0 _ (by
      show Go p e below s₁ (mkF m 0 #[rv a1] []) _
      refine XS.aloadN X0.here hx rfl (hb hby d2_0) rfl rfl ?_
      show Go p e below s₁ (mkF m 1 #[rv a1] [(.ref a1)]) _
      refine st1 _ ?_
      show Go p e below T1 (mkF m 4 #[rv a1] []) _
      exact kt)
  obtain ⟨fs, hr, hrun, hended, hW, hsame⟩ := X1.leave (v := none) (fun _ => rfl)
  refine ⟨_, _, pre2 _ ?_, hrun, hended, _, _, rfl, ?_, ⟨_, rfl⟩, hW, hsame.mono (by decide) (by decide)⟩
  · show Steps p.tables e below (T1.setTop (mkF m 4 #[rv a1] [])) _
    exact X1.returnOut hx Bd.returns (hb hby d2_4) hr
  · show Q_rmR Z a1 h0 n0 _ T1.heap _
    rw [e1]
    exact ⟨rfl, N0, rfl⟩
theorem ef_1 (m : MethodId) (x0 : Addr) (x1 : Int32) (x2 : Int32) : entryFrame m #[(.ref x0), (.int x1), (.int x2)] 3 = mkF m 0 #[.val (.ref x0), .val (.int x1), .val (.int x2)] [] := by first | (simp [entryFrame, mkF, argsToLocals, Value.category]; done) | rfl
theorem pn_com_example_archstave_archstave_core_node_VersionLabel : plainName "com/example/archstave/archstave/core/node/VersionLabel" = true := by first | (simp [plainName, overriddenIn]; done) | decide +kernel
theorem d1_0 : decode prog_85_method_1_code 0 = .ok (.aload_n 0, 1) := by decide +kernel
theorem d1_1 : decode prog_85_method_1_code 1 = .ok (.invokespecial 1, 3) := by decide +kernel
theorem pd_1 : parseMethodDescriptor "()V" = some ⟨[], none⟩ := by decide +kernel
theorem d1_4 : decode prog_85_method_1_code 4 = .ok (.iload_n 1, 1) := by decide +kernel
theorem d1_5 : decode prog_85_method_1_code 5 = .ok (.iconst 1, 1) := by decide +kernel
theorem d1_6 : decode prog_85_method_1_code 6 = .ok (.if_icmp .lt 7, 3) := by decide +kernel
theorem d1_9 : decode prog_85_method_1_code 9 = .ok (.iload_n 2, 1) := by decide +kernel
theorem d1_10 : decode prog_85_method_1_code 10 = .ok (.ifCond .ge 18, 3) := by decide +kernel
theorem d1_28 : decode prog_85_method_1_code 28 = .ok (.aload_n 0, 1) := by decide +kernel
theorem d1_29 : decode prog_85_method_1_code 29 = .ok (.iload_n 1, 1) := by decide +kernel
theorem d1_30 : decode prog_85_method_1_code 30 = .ok (.putfield 16, 3) := by decide +kernel
theorem d1_33 : decode prog_85_method_1_code 33 = .ok (.aload_n 0, 1) := by decide +kernel
theorem d1_34 : decode prog_85_method_1_code 34 = .ok (.iload_n 2, 1) := by decide +kernel
theorem d1_35 : decode prog_85_method_1_code 35 = .ok (.putfield 22, 3) := by decide +kernel
theorem d1_38 : decode prog_85_method_1_code 38 = .ok (.return_, 1) := by decide +kernel
def Q_rmI (Z : State) (a : Addr) (p1 : Int32) (p2 : Int32) (h0 : Heap) (n0 : Nat) (v : Option Value) (h : Heap) (L : List Loc) : Prop := v = none ∧ Fr n0 L ∧ Keep h0 h [a] ∧ Exa Z h a "com/example/archstave/archstave/core/node/VersionLabel" ∧ Fld Z h a "com/example/archstave/archstave/core/node/VersionLabel" "major" "I" (.int p1) ∧ Fld Z h a "com/example/archstave/archstave/core/node/VersionLabel" "minor" "I" (.int p2)
set_option maxRecDepth 65536 in
set_option maxHeartbeats 40000000 in
theorem rmI (l : Launch) (Z : State) (a0 : Array Value) (hw : ∀ d ∈ tables_1, d.before a0 Z = true) (ws : List Jvm.Cond) (a : Addr) (p1 : Int32) (p2 : Int32) (h0 : Heap) (n0 : Nat) (Z0 : n0 ≤ h0.size) (E_a : Exa Z h0 a "com/example/archstave/archstave/core/node/VersionLabel") (g_a : n0 ≤ a) (F_major : Fld Z h0 a "com/example/archstave/archstave/core/node/VersionLabel" "major" "I" (.int 0)) (F_minor : Fld Z h0 a "com/example/archstave/archstave/core/node/VersionLabel" "minor" "I" (.int 0)) (hmaj : ¬ (p1 < (1 : Int32))) (hmin : ¬ (p2 < (0 : Int32))) :
    MetFree l (⟨"com/example/archstave/archstave/core/node/VersionLabel", "<init>", "(II)V"⟩ : MethodName) (head1 (Jvm.Cond.code (⟨"com/example/archstave/archstave/core/node/VersionLabel", "<init>", "(II)V"⟩ : MethodName) prog_85_method_1_code 3 none :: ws) ({ frames := 2, cells := 0, slots := 0, locals := 24 } : Room)) (fun av_ U_ => av_ = #[(.ref a), (.int p1), (.int p2)] ∧ Z.Warmed39 U_.vm ∧ U_.heap = h0) (fun _ _ _ _ _ => True) (fun _ U_ o_ V_ => ∃ v_ L_, o_ = .returned v_ ∧ Q_rmI Z a p1 p2 h0 n0 v_ V_.heap L_ ∧ FrameEnd U_ o_ V_ L_ ({ frames := 2, cells := 0, slots := 0, locals := 24 } : Room).cells ({ frames := 2, cells := 0, slots := 0, locals := 24 } : Room).slots) := by
  refine MetFree.of_bodySF (plainFor_of_name pn_com_example_archstave_archstave_core_node_VersionLabel) hisR ?_
  intro p e s m args below meth c s₁ Bd hml0 hP hK
  obtain ⟨rfl, hZ, hh⟩ := hP
  have hx := Bd.exec
  have hby := Bd.bytes
  have hml : c.maxLocals = 3 := hml0
  have hown : s.vm.findClass "com/example/archstave/archstave/core/node/VersionLabel" = some m.cls := findClass_of_methodNamed Bd.named
  have hnm := (name_of_methodNamed Bd.named Bd.method).1
  have X0 : Stand p l e ({ frames := 2, cells := 0, slots := 0, locals := 24 } : Room) s m #[(.ref a), (.int p1), (.int p2)] below meth c s₁ [] 0 0 := Stand.of_body Bd
  have e0 : s₁.heap = h0 := by rw [← hh, Bd.state]; rfl
  have N0 := Fr.nil n0
  have pre0 : ∀ t_, Go p e below s₁ (mkF m 0 #[rv a, iv p1, iv p2] []) t_ → Go p e below s₁ (entryFrame m #[(.ref a), (.int p1), (.int p2)] 3) t_ := fun t_ kt => castTop (ef_1 m a p1 p2) kt
  obtain ⟨_, _, ⟨T1, L1, k1, n1⟩, -, X1, ⟨Lc1, hQ1, l1, y1, z1⟩, st1⟩ := X0.specialBack hx (y := (⟨"java/lang/Record", "<init>", "()V"⟩ : MethodName)) rfl hown (mvT hZ (hwi hw 7 rfl)) (mvT hZ (hwi hw 8 rfl)) (mvT hZ (hwi hw 11 rfl)) (by decide) (backOf (W := 0) (rmR l Z a0 hw [] a h0 n0 Z0) hZ (hwi hw 11 rfl) (hwi hw 10 rfl) (by decide) (by decide)) (g := (mkF m 1 #[rv a, iv p1, iv p2] [(.ref a)])) rfl (by rw [hml]; rfl) (Steps.refl _) (a := a) (argsL := []) (rest := []) (lenOf pd_1 rfl) rfl (by show 2 * 0 + _ ≤ _; exact Nat.le_of_eq rfl) (hb hby d1_1) (fun _ _ => ⟨rfl, e0, (by decide : 0 + 0 ≤ _), (by decide : 0 + 0 ≤ _)⟩)
  dsimp only [Pt.U, Pt.locs, Pt.cells, Pt.slots] at X1 l1 y1 z1 st1 hQ1
  subst l1 y1 z1
  obtain ⟨rfl, N1q, e1q⟩ := hQ1
  have N1 := Fr.app N0 N1q
  obtain ⟨T2, h2, X2, e2, W2, st2⟩ := putF X1 hx hZ hown (host := "") (Or.inl (hwi hw 15 rfl)) Via.refl e1q F_major E_a (Or.inr ⟨(hwi hw 16 rfl), rfl, hnm⟩) (hwi hw 2 rfl) (ty := .int) (by decide) rfl rfl (g := (mkF m 30 #[rv a, iv p1, iv p2] [(.int p1), (.ref a)])) rfl rfl (hb hby d1_30)
  have f3 := E_a.wr W2
  have f5 := F_minor.other W2 (Or.inr (slot_ne (Or.inr (hwi hw 18 rfl)) (Or.inr (hwi hw 16 rfl)) (by decide) (t := .int) (t' := .int) (by decide) (by decide)))
  have K2 : Keep h0 h2 [a] := (Keep.refl h0 [a]).wr W2 (Or.inl (List.mem_of_getElem? (i := 0) rfl))
  have N2 := Fr.snoc X2 N1 g_a
  have f6 : Fld Z h2 a "com/example/archstave/archstave/core/node/VersionLabel" "major" "I" (.int p1) := F_major.same W2
  obtain ⟨T7, h7, X7, e7, W7, st7⟩ := putF X2 hx hZ hown (host := "") (Or.inl (hwi hw 17 rfl)) Via.refl e2 f5 f3 (Or.inr ⟨(hwi hw 18 rfl), rfl, hnm⟩) (hwi hw 2 rfl) (ty := .int) (by decide) rfl rfl (g := (mkF m 35 #[rv a, iv p1, iv p2] [(.int p2), (.ref a)])) rfl rfl (hb hby d1_35)
  have f8 := f3.wr W7
  have f9 := f6.other W7 (Or.inr (slot_ne (Or.inr (hwi hw 16 rfl)) (Or.inr (hwi hw 18 rfl)) (by decide) (t := .int) (t' := .int) (by decide) (by decide)))
  have K7 : Keep h0 h7 [a] := K2.wr W7 (Or.inl (List.mem_of_getElem? (i := 0) rfl))
  have N7 := Fr.snoc X7 N2 g_a
  have f11 : Fld Z h7 a "com/example/archstave/archstave/core/node/VersionLabel" "minor" "I" (.int p2) := f5.same W7
  have pre12 : ∀ t_, Go p e below T7 (mkF m 38 #[rv a, iv p1, iv p2] []) t_ → Go p e below s₁ (entryFrame m #[(.ref a), (.int p1), (.int p2)] 3) t_ := fun t_ kt => pre0 _ (by
      show Go p e below s₁ (mkF m 0 #[rv a, iv p1, iv p2] []) _
      refine XS.aloadN X0.here hx rfl (hb hby d1_0) rfl rfl ?_
      show Go p e below s₁ (mkF m 1 #[rv a, iv p1, iv p2] [(.ref a)]) _
      refine st1.trans ?_
      show Go p e below T1 (mkF m 4 #[rv a, iv p1, iv p2] []) _
      refine XS.iloadN X1.here hx rfl (hb hby d1_4) rfl ?_
      show Go p e below T1 (mkF m 5 #[rv a, iv p1, iv p2] [(.int p1)]) _
      refine XS.iconst X1.here hx rfl (hb hby d1_5) ?_
      show Go p e below T1 (mkF m 6 #[rv a, iv p1, iv p2] [(.int 1), (.int p1)]) _
      refine XS.icmpNo X1.here hx rfl (hb hby d1_6) rfl (flt hmaj).1 ?_
      show Go p e below T1 (mkF m 9 #[rv a, iv p1, iv p2] []) _
      refine XS.iloadN X1.here hx rfl (hb hby d1_9) rfl ?_
      show Go p e below T1 (mkF m 10 #[rv a, iv p1, iv p2] [(.int p2)]) _
      refine XS.ifYes X1.here hx rfl (pc0 := 10) (pc' := 28) rfl (hb hby d1_10) rfl ((if0 _ _).trans (flt hmin).2.1) (by decide) (by decide) ?_
      show Go p e below T1 (mkF m 28 #[rv a, iv p1, iv p2] []) _
      refine XS.aloadN X1.here hx rfl (hb hby d1_28) rfl rfl ?_
      show Go p e below T1 (mkF m 29 #[rv a, iv p1, iv p2] [(.ref a)]) _
      refine XS.iloadN X1.here hx rfl (hb hby d1_29) rfl ?_
      show Go p e below T1 (mkF m 30 #[rv a, iv p1, iv p2] [(.int p1), (.ref a)]) _
      refine st2 _ ?_
      show Go p e below T2 (mkF m 33 #[rv a, iv p1, iv p2] []) _
      refine XS.aloadN X2.here hx rfl (hb hby d1_33) rfl rfl ?_
      show Go p e below T2 (mkF m 34 #[rv a, iv p1, iv p2] [(.ref a)]) _
      refine XS.iloadN X2.here hx rfl (hb hby d1_34) rfl ?_
      show Go p e below T2 (mkF m 35 #[rv a, iv p1, iv p2] [(.int p2), (.ref a)]) _
      refine st7 _ ?_
      show Go p e below T7 (mkF m 38 #[rv a, iv p1, iv p2] []) _
      exact kt)
  obtain ⟨fs, hr, hrun, hended, hW, hsame⟩ := X7.leave (v := none) (fun _ => rfl)
  refine ⟨_, _, pre12 _ ?_, hrun, hended, _, _, rfl, ?_, ⟨_, rfl⟩, hW, hsame.mono (by decide) (by decide)⟩
  · show Steps p.tables e below (T7.setTop (mkF m 38 #[rv a, iv p1, iv p2] [])) _
    exact X7.returnOut hx Bd.returns (hb hby d1_38) hr
  · show Q_rmI Z a p1 p2 h0 n0 _ T7.heap _
    rw [e7]
    exact ⟨rfl, N7, K7, f8, f9, f11⟩
theorem ef_5 (m : MethodId) (x0 : Addr) : entryFrame m #[(.ref x0)] 1 = mkF m 0 #[.val (.ref x0)] [] := by first | (simp [entryFrame, mkF, argsToLocals, Value.category]; done) | rfl
theorem pn_java_lang_Enum : plainName "java/lang/Enum" = true := by first | (simp [plainName, overriddenIn]; done) | decide +kernel
theorem d5_0 : decode jdk_37_method_2_code 0 = .ok (.aload_n 0, 1) := by decide +kernel
theorem d5_1 : decode jdk_37_method_2_code 1 = .ok (.getfield 7, 3) := by decide +kernel
theorem d5_4 : decode jdk_37_method_2_code 4 = .ok (.ireturn, 1) := by decide +kernel
def Q_rmO (Z : State) (a1 : Addr) (o : Int32) (h0 : Heap) (n0 : Nat) (v : Option Value) (h : Heap) (L : List Loc) : Prop := v = some (.int o) ∧ Fr n0 L ∧ h = h0
set_option maxRecDepth 65536 in
set_option maxHeartbeats 40000000 in
theorem rmO (l : Launch) (Z : State) (a0 : Array Value) (hw : ∀ d ∈ tables_1, d.before a0 Z = true) (ws : List Jvm.Cond) (a1 : Addr) (o : Int32) (h0 : Heap) (n0 : Nat) (Z0 : n0 ≤ h0.size) (Fo : Fld Z h0 a1 "java/lang/Enum" "ordinal" "I" (.int o)) :
    MetFree l (⟨"java/lang/Enum", "ordinal", "()I"⟩ : MethodName) (head1 (Jvm.Cond.code (⟨"java/lang/Enum", "ordinal", "()I"⟩ : MethodName) jdk_37_method_2_code 1 (some .int) :: ws) ({ frames := 0, cells := 0, slots := 0, locals := 0 } : Room)) (fun av_ U_ => av_ = #[(.ref a1)] ∧ Z.Warmed39 U_.vm ∧ U_.heap = h0) (fun _ _ _ _ _ => True) (fun _ U_ o_ V_ => ∃ v_ L_, o_ = .returned v_ ∧ Q_rmO Z a1 o h0 n0 v_ V_.heap L_ ∧ FrameEnd U_ o_ V_ L_ ({ frames := 0, cells := 0, slots := 0, locals := 0 } : Room).cells ({ frames := 0, cells := 0, slots := 0, locals := 0 } : Room).slots) := by
  refine MetFree.of_bodySF (plainFor_of_name pn_java_lang_Enum) hisR ?_
  intro p e s m args below meth c s₁ Bd hml0 hP hK
  obtain ⟨rfl, hZ, hh⟩ := hP
  have hx := Bd.exec
  have hby := Bd.bytes
  have hml : c.maxLocals = 1 := hml0
  have hown : s.vm.findClass "java/lang/Enum" = some m.cls := findClass_of_methodNamed Bd.named
  have hnm := (name_of_methodNamed Bd.named Bd.method).1
  have X0 : Stand p l e ({ frames := 0, cells := 0, slots := 0, locals := 0 } : Room) s m #[(.ref a1)] below meth c s₁ [] 0 0 := Stand.of_body Bd
  have e0 : s₁.heap = h0 := by rw [← hh, Bd.state]; rfl
  have N0 := Fr.nil n0
  have pre0 : ∀ t_, Go p e below s₁ (mkF m 0 #[rv a1] []) t_ → Go p e below s₁ (entryFrame m #[(.ref a1)] 1) t_ := fun t_ kt => castTop (ef_5 m a1) kt
  obtain ⟨T1, X1, e1, st1⟩ := getF X0 hx hZ hown (host := "") (Or.inl (hwi hw 37 rfl)) Via.refl e0 Fo (g := (mkF m 1 #[rv a1] [(.ref a1)])) rfl rfl (hb hby d5_1)
  have pre2 : ∀ t_, Go p e below T1 (mkF m 4 #[rv a1] [(.int o)]) t_ → Go p e below s₁ (entryFrame m #[(.ref a1)] 1) t_ := fun t_ kt => pre0 _ (by
      show Go p e below s₁ (mkF m 0 #[rv a1] []) _
      refine XS.aloadN X0.here hx rfl (hb hby d5_0) rfl rfl ?_
      show Go p e below s₁ (mkF m 1 #[rv a1] [(.ref a1)]) _
      refine st1 _ ?_
      show Go p e below T1 (mkF m 4 #[rv a1] [(.int o)]) _
      exact kt)
  obtain ⟨fs, hr, hrun, hended, hW, hsame⟩ := X1.leave (v := some (.int o)) (fun h => by rw [Bd.returns] at h; cases h)
  refine ⟨_, _, pre2 _ ?_, hrun, hended, _, _, rfl, ?_, ⟨_, rfl⟩, hW, hsame.mono (by decide) (by decide)⟩
  · show Steps p.tables e below (T1.setTop (mkF m 4 #[rv a1] [(.int o)])) _
    exact retI X1 hx Bd.returns (hb hby d5_4) hr
  · show Q_rmO Z a1 o h0 n0 _ T1.heap _
    rw [e1]
    exact ⟨rfl, N0, rfl⟩
theorem ef_7 (m : MethodId) (x0 : Addr) : entryFrame m #[(.ref x0)] 1 = mkF m 0 #[.val (.ref x0)] [] := by first | (simp [entryFrame, mkF, argsToLocals, Value.category]; done) | rfl
theorem d7_0 : decode prog_85_method_7_code 0 = .ok (.aload_n 0, 1) := by decide +kernel
theorem d7_1 : decode prog_85_method_7_code 1 = .ok (.getfield 16, 3) := by decide +kernel
theorem d7_4 : decode prog_85_method_7_code 4 = .ok (.ireturn, 1) := by decide +kernel
def Q_rmGmajor (Z : State) (a1 : Addr) (o : Int32) (h0 : Heap) (n0 : Nat) (v : Option Value) (h : Heap) (L : List Loc) : Prop := v = some (.int o) ∧ Fr n0 L ∧ h = h0
set_option maxRecDepth 65536 in
set_option maxHeartbeats 40000000 in
theorem rmGmajor (l : Launch) (Z : State) (a0 : Array Value) (hw : ∀ d ∈ tables_1, d.before a0 Z = true) (ws : List Jvm.Cond) (a1 : Addr) (o : Int32) (h0 : Heap) (n0 : Nat) (Z0 : n0 ≤ h0.size) (Fo : Fld Z h0 a1 "com/example/archstave/archstave/core/node/VersionLabel" "major" "I" (.int o)) :
    MetFree l (⟨"com/example/archstave/archstave/core/node/VersionLabel", "major", "()I"⟩ : MethodName) (head1 (Jvm.Cond.code (⟨"com/example/archstave/archstave/core/node/VersionLabel", "major", "()I"⟩ : MethodName) prog_85_method_7_code 1 (some .int) :: ws) ({ frames := 0, cells := 0, slots := 0, locals := 0 } : Room)) (fun av_ U_ => av_ = #[(.ref a1)] ∧ Z.Warmed39 U_.vm ∧ U_.heap = h0) (fun _ _ _ _ _ => True) (fun _ U_ o_ V_ => ∃ v_ L_, o_ = .returned v_ ∧ Q_rmGmajor Z a1 o h0 n0 v_ V_.heap L_ ∧ FrameEnd U_ o_ V_ L_ ({ frames := 0, cells := 0, slots := 0, locals := 0 } : Room).cells ({ frames := 0, cells := 0, slots := 0, locals := 0 } : Room).slots) := by
  refine MetFree.of_bodySF (plainFor_of_name pn_com_example_archstave_archstave_core_node_VersionLabel) hisR ?_
  intro p e s m args below meth c s₁ Bd hml0 hP hK
  obtain ⟨rfl, hZ, hh⟩ := hP
  have hx := Bd.exec
  have hby := Bd.bytes
  have hml : c.maxLocals = 1 := hml0
  have hown : s.vm.findClass "com/example/archstave/archstave/core/node/VersionLabel" = some m.cls := findClass_of_methodNamed Bd.named
  have hnm := (name_of_methodNamed Bd.named Bd.method).1
  have X0 : Stand p l e ({ frames := 0, cells := 0, slots := 0, locals := 0 } : Room) s m #[(.ref a1)] below meth c s₁ [] 0 0 := Stand.of_body Bd
  have e0 : s₁.heap = h0 := by rw [← hh, Bd.state]; rfl
  have N0 := Fr.nil n0
  have pre0 : ∀ t_, Go p e below s₁ (mkF m 0 #[rv a1] []) t_ → Go p e below s₁ (entryFrame m #[(.ref a1)] 1) t_ := fun t_ kt => castTop (ef_7 m a1) kt
  obtain ⟨T1, X1, e1, st1⟩ := getF X0 hx hZ hown (host := "") (Or.inl (hwi hw 15 rfl)) Via.refl e0 Fo (g := (mkF m 1 #[rv a1] [(.ref a1)])) rfl rfl (hb hby d7_1)
  have pre2 : ∀ t_, Go p e below T1 (mkF m 4 #[rv a1] [(.int o)]) t_ → Go p e below s₁ (entryFrame m #[(.ref a1)] 1) t_ := fun t_ kt => pre0 _ (by
      show Go p e below s₁ (mkF m 0 #[rv a1] []) _
      refine XS.aloadN X0.here hx rfl (hb hby d7_0) rfl rfl ?_
      show Go p e below s₁ (mkF m 1 #[rv a1] [(.ref a1)]) _
      refine st1 _ ?_
      show Go p e below T1 (mkF m 4 #[rv a1] [(.int o)]) _
      exact kt)
  obtain ⟨fs, hr, hrun, hended, hW, hsame⟩ := X1.leave (v := some (.int o)) (fun h => by rw [Bd.returns] at h; cases h)
  refine ⟨_, _, pre2 _ ?_, hrun, hended, _, _, rfl, ?_, ⟨_, rfl⟩, hW, hsame.mono (by decide) (by decide)⟩
  · show Steps p.tables e below (T1.setTop (mkF m 4 #[rv a1] [(.int o)])) _
    exact retI X1 hx Bd.returns (hb hby d7_4) hr
  · show Q_rmGmajor Z a1 o h0 n0 _ T1.heap _
    rw [e1]
    exact ⟨rfl, N0, rfl⟩
theorem ef_8 (m : MethodId) (x0 : Addr) : entryFrame m #[(.ref x0)] 1 = mkF m 0 #[.val (.ref x0)] [] := by first | (simp [entryFrame, mkF, argsToLocals, Value.category]; done) | rfl
theorem d8_0 : decode prog_85_method_8_code 0 = .ok (.aload_n 0, 1) := by decide +kernel
theorem d8_1 : decode prog_85_method_8_code 1 = .ok (.getfield 22, 3) := by decide +kernel
theorem d8_4 : decode prog_85_method_8_code 4 = .ok (.ireturn, 1) := by decide +kernel
def Q_rmGminor (Z : State) (a1 : Addr) (o : Int32) (h0 : Heap) (n0 : Nat) (v : Option Value) (h : Heap) (L : List Loc) : Prop := v = some (.int o) ∧ Fr n0 L ∧ h = h0
set_option maxRecDepth 65536 in
set_option maxHeartbeats 40000000 in
theorem rmGminor (l : Launch) (Z : State) (a0 : Array Value) (hw : ∀ d ∈ tables_1, d.before a0 Z = true) (ws : List Jvm.Cond) (a1 : Addr) (o : Int32) (h0 : Heap) (n0 : Nat) (Z0 : n0 ≤ h0.size) (Fo : Fld Z h0 a1 "com/example/archstave/archstave/core/node/VersionLabel" "minor" "I" (.int o)) :
    MetFree l (⟨"com/example/archstave/archstave/core/node/VersionLabel", "minor", "()I"⟩ : MethodName) (head1 (Jvm.Cond.code (⟨"com/example/archstave/archstave/core/node/VersionLabel", "minor", "()I"⟩ : MethodName) prog_85_method_8_code 1 (some .int) :: ws) ({ frames := 0, cells := 0, slots := 0, locals := 0 } : Room)) (fun av_ U_ => av_ = #[(.ref a1)] ∧ Z.Warmed39 U_.vm ∧ U_.heap = h0) (fun _ _ _ _ _ => True) (fun _ U_ o_ V_ => ∃ v_ L_, o_ = .returned v_ ∧ Q_rmGminor Z a1 o h0 n0 v_ V_.heap L_ ∧ FrameEnd U_ o_ V_ L_ ({ frames := 0, cells := 0, slots := 0, locals := 0 } : Room).cells ({ frames := 0, cells := 0, slots := 0, locals := 0 } : Room).slots) := by
  refine MetFree.of_bodySF (plainFor_of_name pn_com_example_archstave_archstave_core_node_VersionLabel) hisR ?_
  intro p e s m args below meth c s₁ Bd hml0 hP hK
  obtain ⟨rfl, hZ, hh⟩ := hP
  have hx := Bd.exec
  have hby := Bd.bytes
  have hml : c.maxLocals = 1 := hml0
  have hown : s.vm.findClass "com/example/archstave/archstave/core/node/VersionLabel" = some m.cls := findClass_of_methodNamed Bd.named
  have hnm := (name_of_methodNamed Bd.named Bd.method).1
  have X0 : Stand p l e ({ frames := 0, cells := 0, slots := 0, locals := 0 } : Room) s m #[(.ref a1)] below meth c s₁ [] 0 0 := Stand.of_body Bd
  have e0 : s₁.heap = h0 := by rw [← hh, Bd.state]; rfl
  have N0 := Fr.nil n0
  have pre0 : ∀ t_, Go p e below s₁ (mkF m 0 #[rv a1] []) t_ → Go p e below s₁ (entryFrame m #[(.ref a1)] 1) t_ := fun t_ kt => castTop (ef_8 m a1) kt
  obtain ⟨T1, X1, e1, st1⟩ := getF X0 hx hZ hown (host := "") (Or.inl (hwi hw 17 rfl)) Via.refl e0 Fo (g := (mkF m 1 #[rv a1] [(.ref a1)])) rfl rfl (hb hby d8_1)
  have pre2 : ∀ t_, Go p e below T1 (mkF m 4 #[rv a1] [(.int o)]) t_ → Go p e below s₁ (entryFrame m #[(.ref a1)] 1) t_ := fun t_ kt => pre0 _ (by
      show Go p e below s₁ (mkF m 0 #[rv a1] []) _
      refine XS.aloadN X0.here hx rfl (hb hby d8_0) rfl rfl ?_
      show Go p e below s₁ (mkF m 1 #[rv a1] [(.ref a1)]) _
      refine st1 _ ?_
      show Go p e below T1 (mkF m 4 #[rv a1] [(.int o)]) _
      exact kt)
  obtain ⟨fs, hr, hrun, hended, hW, hsame⟩ := X1.leave (v := some (.int o)) (fun h => by rw [Bd.returns] at h; cases h)
  refine ⟨_, _, pre2 _ ?_, hrun, hended, _, _, rfl, ?_, ⟨_, rfl⟩, hW, hsame.mono (by decide) (by decide)⟩
  · show Steps p.tables e below (T1.setTop (mkF m 4 #[rv a1] [(.int o)])) _
    exact retI X1 hx Bd.returns (hb hby d8_4) hr
  · show Q_rmGminor Z a1 o h0 n0 _ T1.heap _
    rw [e1]
    exact ⟨rfl, N0, rfl⟩
theorem ef_6 (m : MethodId) (x0 : Int32) (x1 : Int32) : entryFrame m #[(.int x0), (.int x1)] 3 = mkF m 0 #[.val (.int x0), .val (.int x1), .unset] [] := by first | (simp [entryFrame, mkF, argsToLocals, Value.category]; done) | rfl
theorem d6_0 : decode jdk_29_method_24_code 0 = .ok (.iload_n 0, 1) := by decide +kernel
theorem d6_1 : decode jdk_29_method_24_code 1 = .ok (.iload_n 1, 1) := by decide +kernel
theorem d6_2 : decode jdk_29_method_24_code 2 = .ok (.iadd, 1) := by decide +kernel
theorem d6_3 : decode jdk_29_method_24_code 3 = .ok (.istore_n 2, 1) := by decide +kernel
theorem d6_4 : decode jdk_29_method_24_code 4 = .ok (.iload_n 0, 1) := by decide +kernel
theorem d6_5 : decode jdk_29_method_24_code 5 = .ok (.iload_n 2, 1) := by decide +kernel
theorem d6_6 : decode jdk_29_method_24_code 6 = .ok (.ixor, 1) := by decide +kernel
theorem d6_7 : decode jdk_29_method_24_code 7 = .ok (.iload_n 1, 1) := by decide +kernel
theorem d6_8 : decode jdk_29_method_24_code 8 = .ok (.iload_n 2, 1) := by decide +kernel
theorem d6_9 : decode jdk_29_method_24_code 9 = .ok (.ixor, 1) := by decide +kernel
theorem d6_10 : decode jdk_29_method_24_code 10 = .ok (.iand, 1) := by decide +kernel
theorem d6_11 : decode jdk_29_method_24_code 11 = .ok (.ifCond .ge 13, 3) := by decide +kernel
theorem d6_24 : decode jdk_29_method_24_code 24 = .ok (.iload_n 2, 1) := by decide +kernel
theorem d6_25 : decode jdk_29_method_24_code 25 = .ok (.ireturn, 1) := by decide +kernel
def Q_rmA (Z : State) (p1 : Int32) (p2 : Int32) (h0 : Heap) (n0 : Nat) (v : Option Value) (h : Heap) (L : List Loc) : Prop := v = some (.int (p1 + p2)) ∧ Fr n0 L ∧ h = h0
set_option maxRecDepth 65536 in
set_option maxHeartbeats 40000000 in
theorem rmA (l : Launch) (Z : State) (a0 : Array Value) (hw : ∀ d ∈ tables_1, d.before a0 Z = true) (ws : List Jvm.Cond) (p1 : Int32) (p2 : Int32) (h0 : Heap) (n0 : Nat) (Z0 : n0 ≤ h0.size) (hov : ¬ (((p1 ^^^ (p1 + p2)) &&& (p2 ^^^ (p1 + p2))) < (0 : Int32))) :
    MetFree l (⟨"java/lang/Math", "addExact", "(II)I"⟩ : MethodName) (head1 (Jvm.Cond.code (⟨"java/lang/Math", "addExact", "(II)I"⟩ : MethodName) jdk_29_method_24_code 3 (some .int) :: ws) ({ frames := 0, cells := 0, slots := 0, locals := 0 } : Room)) (fun av_ U_ => av_ = #[(.int p1), (.int p2)] ∧ Z.Warmed39 U_.vm ∧ U_.heap = h0) (fun _ _ _ _ _ => True) (fun _ U_ o_ V_ => ∃ v_ L_, o_ = .returned v_ ∧ Q_rmA Z p1 p2 h0 n0 v_ V_.heap L_ ∧ FrameEnd U_ o_ V_ L_ ({ frames := 0, cells := 0, slots := 0, locals := 0 } : Room).cells ({ frames := 0, cells := 0, slots := 0, locals := 0 } : Room).slots) := by
  refine MetFree.of_bodySF (Jvm.Free.JP.mathPlain rfl (by decide +kernel)) hisR ?_
  intro p e s m args below meth c s₁ Bd hml0 hP hK
  obtain ⟨rfl, hZ, hh⟩ := hP
  have hx := Bd.exec
  have hby := Bd.bytes
  have hml : c.maxLocals = 3 := hml0
  have hown : s.vm.findClass "java/lang/Math" = some m.cls := findClass_of_methodNamed Bd.named
  have hnm := (name_of_methodNamed Bd.named Bd.method).1
  have X0 : Stand p l e ({ frames := 0, cells := 0, slots := 0, locals := 0 } : Room) s m #[(.int p1), (.int p2)] below meth c s₁ [] 0 0 := Stand.of_body Bd
  have e0 : s₁.heap = h0 := by rw [← hh, Bd.state]; rfl
  have N0 := Fr.nil n0
  have pre0 : ∀ t_, Go p e below s₁ (mkF m 0 #[iv p1, iv p2, .unset] []) t_ → Go p e below s₁ (entryFrame m #[(.int p1), (.int p2)] 3) t_ := fun t_ kt => castTop (ef_6 m p1 p2) kt
  have pre1 : ∀ t_, Go p e below s₁ (mkF m 25 #[iv p1, iv p2, iv (p1 + p2)] [(.int (p1 + p2))]) t_ → Go p e below s₁ (entryFrame m #[(.int p1), (.int p2)] 3) t_ := fun t_ kt => pre0 _ (by
      show Go p e below s₁ (mkF m 0 #[iv p1, iv p2, .unset] []) _
      refine XS.iloadN X0.here hx rfl (hb hby d6_0) rfl ?_
      show Go p e below s₁ (mkF m 1 #[iv p1, iv p2, .unset] [(.int p1)]) _
      refine XS.iloadN X0.here hx rfl (hb hby d6_1) rfl ?_
      show Go p e below s₁ (mkF m 2 #[iv p1, iv p2, .unset] [(.int p2), (.int p1)]) _
      refine XS.iadd X0.here hx rfl (hb hby d6_2) rfl ?_
      show Go p e below s₁ (mkF m 3 #[iv p1, iv p2, .unset] [(.int (p1 + p2))]) _
      refine XS.istoreN X0.here hx rfl (hb hby d6_3) rfl (l' := #[iv p1, iv p2, iv (p1 + p2)]) rfl ?_
      show Go p e below s₁ (mkF m 4 #[iv p1, iv p2, iv (p1 + p2)] []) _
      refine XS.iloadN X0.here hx rfl (hb hby d6_4) rfl ?_
      show Go p e below s₁ (mkF m 5 #[iv p1, iv p2, iv (p1 + p2)] [(.int p1)]) _
      refine XS.iloadN X0.here hx rfl (hb hby d6_5) rfl ?_
      show Go p e below s₁ (mkF m 6 #[iv p1, iv p2, iv (p1 + p2)] [(.int (p1 + p2)), (.int p1)]) _
      refine XS.ixor X0.here hx rfl (hb hby d6_6) rfl ?_
      show Go p e below s₁ (mkF m 7 #[iv p1, iv p2, iv (p1 + p2)] [(.int (p1 ^^^ (p1 + p2)))]) _
      refine XS.iloadN X0.here hx rfl (hb hby d6_7) rfl ?_
      show Go p e below s₁ (mkF m 8 #[iv p1, iv p2, iv (p1 + p2)] [(.int p2), (.int (p1 ^^^ (p1 + p2)))]) _
      refine XS.iloadN X0.here hx rfl (hb hby d6_8) rfl ?_
      show Go p e below s₁ (mkF m 9 #[iv p1, iv p2, iv (p1 + p2)] [(.int (p1 + p2)), (.int p2), (.int (p1 ^^^ (p1 + p2)))]) _
      refine XS.ixor X0.here hx rfl (hb hby d6_9) rfl ?_
      show Go p e below s₁ (mkF m 10 #[iv p1, iv p2, iv (p1 + p2)] [(.int (p2 ^^^ (p1 + p2))), (.int (p1 ^^^ (p1 + p2)))]) _
      refine XS.iand X0.here hx rfl (hb hby d6_10) rfl ?_
      show Go p e below s₁ (mkF m 11 #[iv p1, iv p2, iv (p1 + p2)] [(.int ((p1 ^^^ (p1 + p2)) &&& (p2 ^^^ (p1 + p2))))]) _
      refine XS.ifYes X0.here hx rfl (pc0 := 11) (pc' := 24) rfl (hb hby d6_11) rfl ((if0 _ _).trans (flt hov).2.1) (by decide) (by decide) ?_
      show Go p e below s₁ (mkF m 24 #[iv p1, iv p2, iv (p1 + p2)] []) _
      refine XS.iloadN X0.here hx rfl (hb hby d6_24) rfl ?_
      show Go p e below s₁ (mkF m 25 #[iv p1, iv p2, iv (p1 + p2)] [(.int (p1 + p2))]) _
      exact kt)
  obtain ⟨fs, hr, hrun, hended, hW, hsame⟩ := X0.leave (v := some (.int (p1 + p2))) (fun h => by rw [Bd.returns] at h; cases h)
  refine ⟨_, _, pre1 _ ?_, hrun, hended, _, _, rfl, ?_, ⟨_, rfl⟩, hW, hsame.mono (by decide) (by decide)⟩
  · show Steps p.tables e below (s₁.setTop (mkF m 25 #[iv p1, iv p2, iv (p1 + p2)] [(.int (p1 + p2))])) _
    exact retI X0 hx Bd.returns (hb hby d6_25) hr
  · show Q_rmA Z p1 p2 h0 n0 _ s₁.heap _
    rw [e0]
    exact ⟨rfl, N0, rfl⟩
theorem ef_4 (m : MethodId) (x0 : Addr) (x1 : Addr) : entryFrame m #[(.ref x0), (.ref x1)] 2 = mkF m 0 #[.val (.ref x0), .val (.ref x1)] [] := by first | (simp [entryFrame, mkF, argsToLocals, Value.category]; done) | rfl
theorem d4_0 : decode prog_85_method_3_code 0 = .ok (.getstatic 72, 3) := by decide +kernel
theorem d4_3 : decode prog_85_method_3_code 3 = .ok (.aload_n 1, 1) := by decide +kernel
theorem d4_4 : decode prog_85_method_3_code 4 = .ok (.invokevirtual 78, 3) := by decide +kernel
theorem pd_3 : parseMethodDescriptor "()I" = some ⟨[], some .int⟩ := by decide +kernel
theorem d4_7 : decode prog_85_method_3_code 7 = .ok (.iaload, 1) := by decide +kernel
theorem d4_8 : decode prog_85_method_3_code 8 = .ok (.lookupswitch 28 #[(1, 38), (2, 57)], 28) := by decide +kernel
theorem d4_46 : decode prog_85_method_3_code 46 = .ok (.new 17, 3) := by decide +kernel
theorem d4_49 : decode prog_85_method_3_code 49 = .ok (.dup, 1) := by decide +kernel
theorem d4_50 : decode prog_85_method_3_code 50 = .ok (.aload_n 0, 1) := by decide +kernel
theorem d4_51 : decode prog_85_method_3_code 51 = .ok (.getfield 16, 3) := by decide +kernel
theorem d4_54 : decode prog_85_method_3_code 54 = .ok (.iconst 1, 1) := by decide +kernel
theorem d4_55 : decode prog_85_method_3_code 55 = .ok (.invokestatic 89, 3) := by decide +kernel
theorem pd_4 : parseMethodDescriptor "(II)I" = some ⟨[.int, .int], some .int⟩ := by decide +kernel
theorem d4_58 : decode prog_85_method_3_code 58 = .ok (.iconst 0, 1) := by decide +kernel
theorem d4_59 : decode prog_85_method_3_code 59 = .ok (.invokespecial 65, 3) := by decide +kernel
theorem pd_0 : parseMethodDescriptor "(II)V" = some ⟨[.int, .int], none⟩ := by decide +kernel
theorem d4_62 : decode prog_85_method_3_code 62 = .ok (.goto 22, 3) := by decide +kernel
theorem d4_84 : decode prog_85_method_3_code 84 = .ok (.areturn, 1) := by decide +kernel
def Q_rmX0 (Z : State) (a : Addr) (vt : Addr) (p1 : Int32) (p2 : Int32) (am : Addr) (km : ClassId) (h0 : Heap) (n0 : Nat) (v : Option Value) (h : Heap) (L : List Loc) : Prop := ∃ b : Addr, v = some (.ref b) ∧ Fr n0 L ∧ Keep h0 h [] ∧ Exa Z h b "com/example/archstave/archstave/core/node/VersionLabel" ∧ Fld Z h b "com/example/archstave/archstave/core/node/VersionLabel" "major" "I" (.int (p1 + (1 : Int32))) ∧ Fld Z h b "com/example/archstave/archstave/core/node/VersionLabel" "minor" "I" (.int (0 : Int32))
set_option maxRecDepth 65536 in
set_option maxHeartbeats 40000000 in
theorem rmX0 (l : Launch) (Z : State) (a0 : Array Value) (hw : ∀ d ∈ tables_1, d.before a0 Z = true) (ws : List Jvm.Cond) (a : Addr) (vt : Addr) (p1 : Int32) (p2 : Int32) (am : Addr) (km : ClassId) (h0 : Heap) (n0 : Nat) (Z0 : n0 ≤ h0.size) (E_a : Exa Z h0 a "com/example/archstave/archstave/core/node/VersionLabel") (F_major : Fld Z h0 a "com/example/archstave/archstave/core/node/VersionLabel" "major" "I" (.int p1)) (F_minor : Fld Z h0 a "com/example/archstave/archstave/core/node/VersionLabel" "minor" "I" (.int p2)) (Et : Exa Z h0 vt "com/example/archstave/archstave/core/node/VersionType") (Ft : Fld Z h0 vt "java/lang/Enum" "ordinal" "I" (.int (0 : Int32))) (hS : Sta Z h0 "com/example/archstave/archstave/core/node/VersionLabel$1" "$SwitchMap$com$example$archstave$archstave$core$node$VersionType" "[I" (.ref am)) (hV : Arv Z h0 am km .int (2 : Int32) [(.int (1 : Int32)), (.int (2 : Int32))] (.int (0 : Int32))) (hov : ¬ (((p1 ^^^ (p1 + (1 : Int32))) &&& ((1 : Int32) ^^^ (p1 + (1 : Int32)))) < (0 : Int32))) (hmaj : ¬ ((p1 + (1 : Int32)) < (1 : Int32))) (hmin : ¬ ((0 : Int32) < (0 : Int32))) :
    MetFree l (⟨"com/example/archstave/archstave/core/node/VersionLabel", "next", "(Lcom/example/archstave/archstave/core/node/VersionType;)Lcom/example/archstave/archstave/core/node/VersionLabel;"⟩ : MethodName) (head1 (Jvm.Cond.code (⟨"com/example/archstave/archstave/core/node/VersionLabel", "next", "(Lcom/example/archstave/archstave/core/node/VersionType;)Lcom/example/archstave/archstave/core/node/VersionLabel;"⟩ : MethodName) prog_85_method_3_code 2 (some (.object "com/example/archstave/archstave/core/node/VersionLabel")) :: ws) ({ frames := 3, cells := 1, slots := 2, locals := 48 } : Room)) (fun av_ U_ => av_ = #[(.ref a), (.ref vt)] ∧ Z.Warmed39 U_.vm ∧ U_.heap = h0) (fun _ _ _ _ _ => True) (fun _ U_ o_ V_ => ∃ v_ L_, o_ = .returned v_ ∧ Q_rmX0 Z a vt p1 p2 am km h0 n0 v_ V_.heap L_ ∧ FrameEnd U_ o_ V_ L_ ({ frames := 3, cells := 1, slots := 2, locals := 48 } : Room).cells ({ frames := 3, cells := 1, slots := 2, locals := 48 } : Room).slots) := by
  refine MetFree.of_bodySF (plainFor_of_name pn_com_example_archstave_archstave_core_node_VersionLabel) hisR ?_
  intro p e s m args below meth c s₁ Bd hml0 hP hK
  obtain ⟨rfl, hZ, hh⟩ := hP
  have hx := Bd.exec
  have hby := Bd.bytes
  have hml : c.maxLocals = 2 := hml0
  have hown : s.vm.findClass "com/example/archstave/archstave/core/node/VersionLabel" = some m.cls := findClass_of_methodNamed Bd.named
  have hnm := (name_of_methodNamed Bd.named Bd.method).1
  have X0 : Stand p l e ({ frames := 3, cells := 1, slots := 2, locals := 48 } : Room) s m #[(.ref a), (.ref vt)] below meth c s₁ [] 0 0 := Stand.of_body Bd
  have e0 : s₁.heap = h0 := by rw [← hh, Bd.state]; rfl
  have N0 := Fr.nil n0
  have pre0 : ∀ t_, Go p e below s₁ (mkF m 0 #[rv a, rv vt] []) t_ → Go p e below s₁ (entryFrame m #[(.ref a), (.ref vt)] 2) t_ := fun t_ kt => castTop (ef_4 m a vt) kt
  obtain ⟨T1, X1, e1, st1⟩ := getS2 X0 hx hZ hown (host := "") (Or.inl (hwi hw 27 rfl)) Via.refl e0 hS (g := (mkF m 0 #[rv a, rv vt] [])) rfl (hb hby d4_0)
  obtain ⟨cq2, kq2, q2a, q2b, q2c⟩ := isOf hZ e1 Et
  obtain ⟨_, _, ⟨T2, L2, k2, n2⟩, -, X2, ⟨Lc2, hQ2, l2, y2, z2⟩, st2⟩ := X1.virtualBackUp hx (owner := "java/lang/Enum") (x := (⟨"com/example/archstave/archstave/core/node/VersionType", "ordinal", "()I"⟩ : MethodName)) (y := (⟨"java/lang/Enum", "ordinal", "()I"⟩ : MethodName)) hown (mvT hZ (hwi hw 30 rfl)) (mvT hZ (hwi hw 31 rfl)) (mvT hZ (hwi hw 32 rfl)) (by decide) (mvT hZ (hwi hw 34 rfl)) (mvT hZ (hwi hw 33 rfl)) (backOf (W := 1) (rmO l Z a0 hw [] vt 0 h0 n0 Z0 Ft) hZ (hwi hw 36 rfl) (hwi hw 35 rfl) (by decide) (by decide)) q2a q2c (g := (mkF m 4 #[rv a, rv vt] [(.ref vt), (.ref am)])) rfl (by rw [hml]; rfl) (Steps.refl _) (argsL := []) (rest := [(.ref am)]) (lenOf pd_3 rfl) rfl (by show 2 * 0 + _ ≤ _; exact Nat.le_of_eq rfl) (hb hby d4_4) (fun _ _ => ⟨rfl, e1, (by decide : 0 + 0 ≤ _), (by decide : 0 + 0 ≤ _)⟩)
  dsimp only [Pt.U, Pt.locs, Pt.cells, Pt.slots] at X2 l2 y2 z2 st2 hQ2
  subst l2 y2 z2
  obtain ⟨rfl, N2q, e2q⟩ := hQ2
  have N2 := Fr.app N0 N2q
  obtain ⟨cl3, Ar3, qa3, Sa3, Na3, Ha3, Ga3⟩ := hV
  have hin3 : ¬ ((0 : Int32) < 0 ∨ cl3.slots.size ≤ ((0 : Int32)).toNatClampNeg) := inb_of Sa3 ⟨by decide, by decide⟩
  have V3 : Arv Z h0 am km .int (2 : Int32) [(.int 1), (.int 2)] (.int 0) := ⟨cl3, Ar3, qa3, Sa3, Na3, Ha3, Ga3⟩
  obtain ⟨T4, h4, X4, e4, E4, A4, D4, -, st4⟩ := newO X2 hx hZ hown (hwi hw 39 rfl) (hwi hw 2 rfl) (hwi hw 3 rfl) e2q (g := (mkF m 46 #[rv a, rv vt] [])) rfl (hb hby d4_46) (by decide) (by decide)
  obtain ⟨b4, g4⟩ : ∃ z, z = h0.size := ⟨_, rfl⟩
  rw [← g4] at A4 D4 st4
  have ne_a_b4 : a ≠ b4 := Nat.ne_of_lt (Nat.lt_of_lt_of_le E_a.lt (Nat.le_of_eq g4.symm))
  have ne_am_b4 : am ≠ b4 := Nat.ne_of_lt (Nat.lt_of_lt_of_le V3.lt (Nat.le_of_eq g4.symm))
  have sz_b4 : h0.size ≤ b4 := Nat.le_trans (Keep.refl h0 []).1 (Nat.le_of_eq g4.symm)
  have g_b4 : n0 ≤ b4 := Nat.le_trans Z0 sz_b4
  have f5 := E_a.ext E4
  have f6 := F_major.ext E4
  have f7 := F_minor.ext E4
  have f8 := V3.ext E4
  have K4 : Keep h0 h4 [] := (Keep.refl h0 []).ext E4
  have F_major_b4 : Fld Z h4 b4 "com/example/archstave/archstave/core/node/VersionLabel" "major" "I" (.int 0) := D4 (Or.inr (hwi hw 16 rfl)) (ty := .int) (by decide)
  have F_minor_b4 : Fld Z h4 b4 "com/example/archstave/archstave/core/node/VersionLabel" "minor" "I" (.int 0) := D4 (Or.inr (hwi hw 18 rfl)) (ty := .int) (by decide)
  obtain ⟨T9, X9, e9, st9⟩ := getF X4 hx hZ hown (host := "") (Or.inl (hwi hw 15 rfl)) Via.refl e4 f6 (g := (mkF m 51 #[rv a, rv vt] [(.ref a), (.ref b4), (.ref b4)])) rfl rfl (hb hby d4_51)
  obtain ⟨_, _, ⟨T10, L10, k10, n10⟩, -, X10, ⟨Lc10, hQ10, l10, y10, z10⟩, st10⟩ := Jvm.LawKit.callS X9 hx (y := (⟨"java/lang/Math", "addExact", "(II)I"⟩ : MethodName)) hown (mvT hZ (hwi hw 40 rfl)) (mvT hZ (hwi hw 41 rfl)) (mvT hZ (hwi hw 42 rfl)) (mvT hZ (hwi hw 43 rfl)) (by decide) (backOf (W := 2) (rmA l Z a0 hw [] p1 (1 : Int32) h4 n0 (Nat.le_trans Z0 K4.1) hov) hZ (hwi hw 43 rfl) (hwi hw 42 rfl) (by decide) (by decide)) (g := (mkF m 55 #[rv a, rv vt] [(.int 1), (.int p1), (.ref b4), (.ref b4)])) rfl (by rw [hml]; rfl) (argsL := [(.int p1), (.int 1)]) (rest := [(.ref b4), (.ref b4)]) (lenOf pd_4 rfl) rfl (by show 2 * 0 + _ ≤ _; exact Nat.le_of_eq rfl) (hb hby d4_55) (fun _ _ => ⟨rfl, e9, (by decide : 1 + 0 ≤ _), (by decide : 2 + 0 ≤ _)⟩)
  dsimp only [Pt.U, Pt.locs, Pt.cells, Pt.slots] at X10 l10 y10 z10 st10 hQ10
  subst l10 y10 z10
  obtain ⟨rfl, N10q, e10q⟩ := hQ10
  have N10 := Fr.app N2 N10q
  obtain ⟨_, _, ⟨T11, L11, k11, n11⟩, -, X11, ⟨Lc11, hQ11, l11, y11, z11⟩, st11⟩ := X10.specialBack hx (y := (⟨"com/example/archstave/archstave/core/node/VersionLabel", "<init>", "(II)V"⟩ : MethodName)) rfl hown (mvT hZ (hwi hw 44 rfl)) (mvT hZ (hwi hw 5 rfl)) (mvT hZ (hwi hw 6 rfl)) (by decide) (backOf (W := 1) (rmI l Z a0 hw [] b4 (p1 + (1 : Int32)) (0 : Int32) h4 n0 (Nat.le_trans Z0 K4.1) A4 g_b4 F_major_b4 F_minor_b4 hmaj hmin) hZ (hwi hw 6 rfl) (hwi hw 3 rfl) (by decide) (by decide)) (g := (mkF m 59 #[rv a, rv vt] [(.int 0), (.int (p1 + (1 : Int32))), (.ref b4), (.ref b4)])) rfl (by rw [hml]; rfl) (Steps.refl _) (a := b4) (argsL := [(.int (p1 + (1 : Int32))), (.int 0)]) (rest := [(.ref b4)]) (lenOf pd_0 rfl) rfl (by show 2 * 0 + _ ≤ _; exact Nat.le_of_eq rfl) (hb hby d4_59) (fun _ _ => ⟨rfl, e10q, (by decide : 1 + 0 ≤ _), (by decide : 2 + 0 ≤ _)⟩)
  dsimp only [Pt.U, Pt.locs, Pt.cells, Pt.slots] at X11 l11 y11 z11 st11 hQ11
  subst l11 y11 z11
  obtain ⟨rfl, N11q, kc11, -, Fc11_0, Fc11_1⟩ := hQ11
  have N11 := Fr.app N10 N11q
  have f12 := f5.keep kc11
  have f13 := f6.keep kc11 (ninS ne_a_b4 nin0)
  have f14 := f7.keep kc11 (ninS ne_a_b4 nin0)
  have f15 := f8.keep kc11 (ninS ne_am_b4 nin0)
  have f16 := A4.keep kc11
  have K19 : Keep h0 T11.heap [] := K4.trans kc11 (allS (Or.inr sz_b4) all0)
  have pre20 : ∀ t_, Go p e below T11 (mkF m 84 #[rv a, rv vt] [(.ref b4)]) t_ → Go p e below s₁ (entryFrame m #[(.ref a), (.ref vt)] 2) t_ := fun t_ kt => pre0 _ (by
      show Go p e below s₁ (mkF m 0 #[rv a, rv vt] []) _
      refine st1 _ ?_
      show Go p e below T1 (mkF m 3 #[rv a, rv vt] [(.ref am)]) _
      refine XS.aloadN X1.here hx rfl (hb hby d4_3) rfl rfl ?_
      show Go p e below T1 (mkF m 4 #[rv a, rv vt] [(.ref vt), (.ref am)]) _
      refine st2.trans ?_
      show Go p e below T2 (mkF m 7 #[rv a, rv vt] [(.int 0), (.ref am)]) _
      refine X2.iaload hx (j := (0 : Int32)) (v := (.int 1)) (by rw [e2q]; exact Ar3.1) (State.isArrayOf_alike hZ.alike Ar3.2.1) Ar3.2.2 hin3 (Has.at Ha3 hin3 rfl) (g := (mkF m 7 #[rv a, rv vt] [(.int 0), (.ref am)])) rfl rfl (hb hby d4_7) _ ?_
      show Go p e below T2 (mkF m 8 #[rv a, rv vt] [(.int 1)]) _
      refine own_lsw X2.here hx rfl (pc0 := 8) (pc' := 46) rfl (hb hby d4_8) rfl (by decide) (o := 38) (by decide) (by decide) (by decide) ?_
      show Go p e below T2 (mkF m 46 #[rv a, rv vt] []) _
      refine st4 _ ?_
      show Go p e below T4 (mkF m 49 #[rv a, rv vt] [(.ref b4)]) _
      refine XS.dup X4.here hx rfl (hb hby d4_49) rfl rfl ?_
      show Go p e below T4 (mkF m 50 #[rv a, rv vt] [(.ref b4), (.ref b4)]) _
      refine XS.aloadN X4.here hx rfl (hb hby d4_50) rfl rfl ?_
      show Go p e below T4 (mkF m 51 #[rv a, rv vt] [(.ref a), (.ref b4), (.ref b4)]) _
      refine st9 _ ?_
      show Go p e below T9 (mkF m 54 #[rv a, rv vt] [(.int p1), (.ref b4), (.ref b4)]) _
      refine XS.iconst X9.here hx rfl (hb hby d4_54) ?_
      show Go p e below T9 (mkF m 55 #[rv a, rv vt] [(.int 1), (.int p1), (.ref b4), (.ref b4)]) _
      refine st10 _ ?_
      show Go p e below T10 (mkF m 58 #[rv a, rv vt] [(.int (p1 + (1 : Int32))), (.ref b4), (.ref b4)]) _
      refine XS.iconst X10.here hx rfl (hb hby d4_58) ?_
      show Go p e below T10 (mkF m 59 #[rv a, rv vt] [(.int 0), (.int (p1 + (1 : Int32))), (.ref b4), (.ref b4)]) _
      refine st11.trans ?_
      show Go p e below T11 (mkF m 62 #[rv a, rv vt] [(.ref b4)]) _
      refine XS.goto X11.here hx rfl (pc0 := 62) (pc' := 84) rfl (hb hby d4_62) (by decide) (by decide) ?_
      show Go p e below T11 (mkF m 84 #[rv a, rv vt] [(.ref b4)]) _
      exact kt)
  obtain ⟨fs, hr, hrun, hended, hW, hsame⟩ := X11.leave (v := some (.ref b4)) (fun h => by rw [Bd.returns] at h; cases h)
  refine ⟨_, _, pre20 _ ?_, hrun, hended, _, _, rfl, ?_, ⟨_, rfl⟩, hW, hsame.mono (by decide) (by decide)⟩
  · show Steps p.tables e below (T11.setTop (mkF m 84 #[rv a, rv vt] [(.ref b4)])) _
    jvm_step X11.here [X11.here.top, hx, (hb hby d4_84), X11.method', Bd.returns, Value.isRef, FieldType.isReference]
    first | (intro acts; rw [hr _ acts rfl rfl rfl]) | rw [hr _ _ rfl rfl rfl]
    exact Steps.refl _
  · show Q_rmX0 Z a vt p1 p2 am km h0 n0 _ T11.heap _
    exact ⟨b4, rfl, N11, K19, f16, Fc11_0, Fc11_1⟩
theorem d4_65 : decode prog_85_method_3_code 65 = .ok (.new 17, 3) := by decide +kernel
theorem d4_68 : decode prog_85_method_3_code 68 = .ok (.dup, 1) := by decide +kernel
theorem d4_69 : decode prog_85_method_3_code 69 = .ok (.aload_n 0, 1) := by decide +kernel
theorem d4_70 : decode prog_85_method_3_code 70 = .ok (.getfield 16, 3) := by decide +kernel
theorem d4_73 : decode prog_85_method_3_code 73 = .ok (.aload_n 0, 1) := by decide +kernel
theorem d4_74 : decode prog_85_method_3_code 74 = .ok (.getfield 22, 3) := by decide +kernel
theorem d4_77 : decode prog_85_method_3_code 77 = .ok (.iconst 1, 1) := by decide +kernel
theorem d4_78 : decode prog_85_method_3_code 78 = .ok (.invokestatic 89, 3) := by decide +kernel
theorem d4_81 : decode prog_85_method_3_code 81 = .ok (.invokespecial 65, 3) := by decide +kernel
def Q_rmX1 (Z : State) (a : Addr) (vt : Addr) (p1 : Int32) (p2 : Int32) (am : Addr) (km : ClassId) (h0 : Heap) (n0 : Nat) (v : Option Value) (h : Heap) (L : List Loc) : Prop := ∃ b : Addr, v = some (.ref b) ∧ Fr n0 L ∧ Keep h0 h [] ∧ Exa Z h b "com/example/archstave/archstave/core/node/VersionLabel" ∧ Fld Z h b "com/example/archstave/archstave/core/node/VersionLabel" "major" "I" (.int p1) ∧ Fld Z h b "com/example/archstave/archstave/core/node/VersionLabel" "minor" "I" (.int (p2 + (1 : Int32)))
set_option maxRecDepth 65536 in
set_option maxHeartbeats 40000000 in
theorem rmX1 (l : Launch) (Z : State) (a0 : Array Value) (hw : ∀ d ∈ tables_1, d.before a0 Z = true) (ws : List Jvm.Cond) (a : Addr) (vt : Addr) (p1 : Int32) (p2 : Int32) (am : Addr) (km : ClassId) (h0 : Heap) (n0 : Nat) (Z0 : n0 ≤ h0.size) (E_a : Exa Z h0 a "com/example/archstave/archstave/core/node/VersionLabel") (F_major : Fld Z h0 a "com/example/archstave/archstave/core/node/VersionLabel" "major" "I" (.int p1)) (F_minor : Fld Z h0 a "com/example/archstave/archstave/core/node/VersionLabel" "minor" "I" (.int p2)) (Et : Exa Z h0 vt "com/example/archstave/archstave/core/node/VersionType") (Ft : Fld Z h0 vt "java/lang/Enum" "ordinal" "I" (.int (1 : Int32))) (hS : Sta Z h0 "com/example/archstave/archstave/core/node/VersionLabel$1" "$SwitchMap$com$example$archstave$archstave$core$node$VersionType" "[I" (.ref am)) (hV : Arv Z h0 am km .int (2 : Int32) [(.int (1 : Int32)), (.int (2 : Int32))] (.int (0 : Int32))) (hov : ¬ (((p2 ^^^ (p2 + (1 : Int32))) &&& ((1 : Int32) ^^^ (p2 + (1 : Int32)))) < (0 : Int32))) (hmaj : ¬ (p1 < (1 : Int32))) (hmin : ¬ ((p2 + (1 : Int32)) < (0 : Int32))) :
    MetFree l (⟨"com/example/archstave/archstave/core/node/VersionLabel", "next", "(Lcom/example/archstave/archstave/core/node/VersionType;)Lcom/example/archstave/archstave/core/node/VersionLabel;"⟩ : MethodName) (head1 (Jvm.Cond.code (⟨"com/example/archstave/archstave/core/node/VersionLabel", "next", "(Lcom/example/archstave/archstave/core/node/VersionType;)Lcom/example/archstave/archstave/core/node/VersionLabel;"⟩ : MethodName) prog_85_method_3_code 2 (some (.object "com/example/archstave/archstave/core/node/VersionLabel")) :: ws) ({ frames := 3, cells := 1, slots := 2, locals := 48 } : Room)) (fun av_ U_ => av_ = #[(.ref a), (.ref vt)] ∧ Z.Warmed39 U_.vm ∧ U_.heap = h0) (fun _ _ _ _ _ => True) (fun _ U_ o_ V_ => ∃ v_ L_, o_ = .returned v_ ∧ Q_rmX1 Z a vt p1 p2 am km h0 n0 v_ V_.heap L_ ∧ FrameEnd U_ o_ V_ L_ ({ frames := 3, cells := 1, slots := 2, locals := 48 } : Room).cells ({ frames := 3, cells := 1, slots := 2, locals := 48 } : Room).slots) := by
  refine MetFree.of_bodySF (plainFor_of_name pn_com_example_archstave_archstave_core_node_VersionLabel) hisR ?_
  intro p e s m args below meth c s₁ Bd hml0 hP hK
  obtain ⟨rfl, hZ, hh⟩ := hP
  have hx := Bd.exec
  have hby := Bd.bytes
  have hml : c.maxLocals = 2 := hml0
  have hown : s.vm.findClass "com/example/archstave/archstave/core/node/VersionLabel" = some m.cls := findClass_of_methodNamed Bd.named
  have hnm := (name_of_methodNamed Bd.named Bd.method).1
  have X0 : Stand p l e ({ frames := 3, cells := 1, slots := 2, locals := 48 } : Room) s m #[(.ref a), (.ref vt)] below meth c s₁ [] 0 0 := Stand.of_body Bd
  have e0 : s₁.heap = h0 := by rw [← hh, Bd.state]; rfl
  have N0 := Fr.nil n0
  have pre0 : ∀ t_, Go p e below s₁ (mkF m 0 #[rv a, rv vt] []) t_ → Go p e below s₁ (entryFrame m #[(.ref a), (.ref vt)] 2) t_ := fun t_ kt => castTop (ef_4 m a vt) kt
  obtain ⟨T1, X1, e1, st1⟩ := getS2 X0 hx hZ hown (host := "") (Or.inl (hwi hw 27 rfl)) Via.refl e0 hS (g := (mkF m 0 #[rv a, rv vt] [])) rfl (hb hby d4_0)
  obtain ⟨cq2, kq2, q2a, q2b, q2c⟩ := isOf hZ e1 Et
  obtain ⟨_, _, ⟨T2, L2, k2, n2⟩, -, X2, ⟨Lc2, hQ2, l2, y2, z2⟩, st2⟩ := X1.virtualBackUp hx (owner := "java/lang/Enum") (x := (⟨"com/example/archstave/archstave/core/node/VersionType", "ordinal", "()I"⟩ : MethodName)) (y := (⟨"java/lang/Enum", "ordinal", "()I"⟩ : MethodName)) hown (mvT hZ (hwi hw 30 rfl)) (mvT hZ (hwi hw 31 rfl)) (mvT hZ (hwi hw 32 rfl)) (by decide) (mvT hZ (hwi hw 34 rfl)) (mvT hZ (hwi hw 33 rfl)) (backOf (W := 1) (rmO l Z a0 hw [] vt 1 h0 n0 Z0 Ft) hZ (hwi hw 36 rfl) (hwi hw 35 rfl) (by decide) (by decide)) q2a q2c (g := (mkF m 4 #[rv a, rv vt] [(.ref vt), (.ref am)])) rfl (by rw [hml]; rfl) (Steps.refl _) (argsL := []) (rest := [(.ref am)]) (lenOf pd_3 rfl) rfl (by show 2 * 0 + _ ≤ _; exact Nat.le_of_eq rfl) (hb hby d4_4) (fun _ _ => ⟨rfl, e1, (by decide : 0 + 0 ≤ _), (by decide : 0 + 0 ≤ _)⟩)
  dsimp only [Pt.U, Pt.locs, Pt.cells, Pt.slots] at X2 l2 y2 z2 st2 hQ2
  subst l2 y2 z2
  obtain ⟨rfl, N2q, e2q⟩ := hQ2
  have N2 := Fr.app N0 N2q
  obtain ⟨cl3, Ar3, qa3, Sa3, Na3, Ha3, Ga3⟩ := hV
  have hin3 : ¬ ((1 : Int32) < 0 ∨ cl3.slots.size ≤ ((1 : Int32)).toNatClampNeg) := inb_of Sa3 ⟨by decide, by decide⟩
  have V3 : Arv Z h0 am km .int (2 : Int32) [(.int 1), (.int 2)] (.int 0) := ⟨cl3, Ar3, qa3, Sa3, Na3, Ha3, Ga3⟩
  obtain ⟨T4, h4, X4, e4, E4, A4, D4, -, st4⟩ := newO X2 hx hZ hown (hwi hw 39 rfl) (hwi hw 2 rfl) (hwi hw 3 rfl) e2q (g := (mkF m 65 #[rv a, rv vt] [])) rfl (hb hby d4_65) (by decide) (by decide)
  obtain ⟨b4, g4⟩ : ∃ z, z = h0.size := ⟨_, rfl⟩
  rw [← g4] at A4 D4 st4
  have ne_a_b4 : a ≠ b4 := Nat.ne_of_lt (Nat.lt_of_lt_of_le E_a.lt (Nat.le_of_eq g4.symm))
  have ne_am_b4 : am ≠ b4 := Nat.ne_of_lt (Nat.lt_of_lt_of_le V3.lt (Nat.le_of_eq g4.symm))
  have sz_b4 : h0.size ≤ b4 := Nat.le_trans (Keep.refl h0 []).1 (Nat.le_of_eq g4.symm)
  have g_b4 : n0 ≤ b4 := Nat.le_trans Z0 sz_b4
  have f5 := E_a.ext E4
  have f6 := F_major.ext E4
  have f7 := F_minor.ext E4
  have f8 := V3.ext E4
  have K4 : Keep h0 h4 [] := (Keep.refl h0 []).ext E4
  have F_major_b4 : Fld Z h4 b4 "com/example/archstave/archstave/core/node/VersionLabel" "major" "I" (.int 0) := D4 (Or.inr (hwi hw 16 rfl)) (ty := .int) (by decide)
  have F_minor_b4 : Fld Z h4 b4 "com/example/archstave/archstave/core/node/VersionLabel" "minor" "I" (.int 0) := D4 (Or.inr (hwi hw 18 rfl)) (ty := .int) (by decide)
  obtain ⟨T9, X9, e9, st9⟩ := getF X4 hx hZ hown (host := "") (Or.inl (hwi hw 15 rfl)) Via.refl e4 f6 (g := (mkF m 70 #[rv a, rv vt] [(.ref a), (.ref b4), (.ref b4)])) rfl rfl (hb hby d4_70)
  obtain ⟨T10, X10, e10, st10⟩ := getF X9 hx hZ hown (host := "") (Or.inl (hwi hw 17 rfl)) Via.refl e9 f7 (g := (mkF m 74 #[rv a, rv vt] [(.ref a), (.int p1), (.ref b4), (.ref b4)])) rfl rfl (hb hby d4_74)
  obtain ⟨_, _, ⟨T11, L11, k11, n11⟩, -, X11, ⟨Lc11, hQ11, l11, y11, z11⟩, st11⟩ := Jvm.LawKit.callS X10 hx (y := (⟨"java/lang/Math", "addExact", "(II)I"⟩ : MethodName)) hown (mvT hZ (hwi hw 40 rfl)) (mvT hZ (hwi hw 41 rfl)) (mvT hZ (hwi hw 42 rfl)) (mvT hZ (hwi hw 43 rfl)) (by decide) (backOf (W := 3) (rmA l Z a0 hw [] p2 (1 : Int32) h4 n0 (Nat.le_trans Z0 K4.1) hov) hZ (hwi hw 43 rfl) (hwi hw 42 rfl) (by decide) (by decide)) (g := (mkF m 78 #[rv a, rv vt] [(.int 1), (.int p2), (.int p1), (.ref b4), (.ref b4)])) rfl (by rw [hml]; rfl) (argsL := [(.int p2), (.int 1)]) (rest := [(.int p1), (.ref b4), (.ref b4)]) (lenOf pd_4 rfl) rfl (by show 2 * 0 + _ ≤ _; exact Nat.le_of_eq rfl) (hb hby d4_78) (fun _ _ => ⟨rfl, e10, (by decide : 1 + 0 ≤ _), (by decide : 2 + 0 ≤ _)⟩)
  dsimp only [Pt.U, Pt.locs, Pt.cells, Pt.slots] at X11 l11 y11 z11 st11 hQ11
  subst l11 y11 z11
  obtain ⟨rfl, N11q, e11q⟩ := hQ11
  have N11 := Fr.app N2 N11q
  obtain ⟨_, _, ⟨T12, L12, k12, n12⟩, -, X12, ⟨Lc12, hQ12, l12, y12, z12⟩, st12⟩ := X11.specialBack hx (y := (⟨"com/example/archstave/archstave/core/node/VersionLabel", "<init>", "(II)V"⟩ : MethodName)) rfl hown (mvT hZ (hwi hw 44 rfl)) (mvT hZ (hwi hw 5 rfl)) (mvT hZ (hwi hw 6 rfl)) (by decide) (backOf (W := 1) (rmI l Z a0 hw [] b4 p1 (p2 + (1 : Int32)) h4 n0 (Nat.le_trans Z0 K4.1) A4 g_b4 F_major_b4 F_minor_b4 hmaj hmin) hZ (hwi hw 6 rfl) (hwi hw 3 rfl) (by decide) (by decide)) (g := (mkF m 81 #[rv a, rv vt] [(.int (p2 + (1 : Int32))), (.int p1), (.ref b4), (.ref b4)])) rfl (by rw [hml]; rfl) (Steps.refl _) (a := b4) (argsL := [(.int p1), (.int (p2 + (1 : Int32)))]) (rest := [(.ref b4)]) (lenOf pd_0 rfl) rfl (by show 2 * 0 + _ ≤ _; exact Nat.le_of_eq rfl) (hb hby d4_81) (fun _ _ => ⟨rfl, e11q, (by decide : 1 + 0 ≤ _), (by decide : 2 + 0 ≤ _)⟩)
  dsimp only [Pt.U, Pt.locs, Pt.cells, Pt.slots] at X12 l12 y12 z12 st12 hQ12
  subst l12 y12 z12
  obtain ⟨rfl, N12q, kc12, -, Fc12_0, Fc12_1⟩ := hQ12
  have N12 := Fr.app N11 N12q
  have f13 := f5.keep kc12
  have f14 := f6.keep kc12 (ninS ne_a_b4 nin0)
  have f15 := f7.keep kc12 (ninS ne_a_b4 nin0)
  have f16 := f8.keep kc12 (ninS ne_am_b4 nin0)
  have f17 := A4.keep kc12
  have K20 : Keep h0 T12.heap [] := K4.trans kc12 (allS (Or.inr sz_b4) all0)
  have pre21 : ∀ t_, Go p e below T12 (mkF m 84 #[rv a, rv vt] [(.ref b4)]) t_ → Go p e below s₁ (entryFrame m #[(.ref a), (.ref vt)] 2) t_ := fun t_ kt => pre0 _ (by
      show Go p e below s₁ (mkF m 0 #[rv a, rv vt] []) _
      refine st1 _ ?_
      show Go p e below T1 (mkF m 3 #[rv a, rv vt] [(.ref am)]) _
      refine XS.aloadN X1.here hx rfl (hb hby d4_3) rfl rfl ?_
      show Go p e below T1 (mkF m 4 #[rv a, rv vt] [(.ref vt), (.ref am)]) _
      refine st2.trans ?_
      show Go p e below T2 (mkF m 7 #[rv a, rv vt] [(.int 1), (.ref am)]) _
      refine X2.iaload hx (j := (1 : Int32)) (v := (.int 2)) (by rw [e2q]; exact Ar3.1) (State.isArrayOf_alike hZ.alike Ar3.2.1) Ar3.2.2 hin3 (Has.at Ha3 hin3 rfl) (g := (mkF m 7 #[rv a, rv vt] [(.int 1), (.ref am)])) rfl rfl (hb hby d4_7) _ ?_
      show Go p e below T2 (mkF m 8 #[rv a, rv vt] [(.int 2)]) _
      refine own_lsw X2.here hx rfl (pc0 := 8) (pc' := 65) rfl (hb hby d4_8) rfl (by decide) (o := 57) (by decide) (by decide) (by decide) ?_
      show Go p e below T2 (mkF m 65 #[rv a, rv vt] []) _
      refine st4 _ ?_
      show Go p e below T4 (mkF m 68 #[rv a, rv vt] [(.ref b4)]) _
      refine XS.dup X4.here hx rfl (hb hby d4_68) rfl rfl ?_
      show Go p e below T4 (mkF m 69 #[rv a, rv vt] [(.ref b4), (.ref b4)]) _
      refine XS.aloadN X4.here hx rfl (hb hby d4_69) rfl rfl ?_
      show Go p e below T4 (mkF m 70 #[rv a, rv vt] [(.ref a), (.ref b4), (.ref b4)]) _
      refine st9 _ ?_
      show Go p e below T9 (mkF m 73 #[rv a, rv vt] [(.int p1), (.ref b4), (.ref b4)]) _
      refine XS.aloadN X9.here hx rfl (hb hby d4_73) rfl rfl ?_
      show Go p e below T9 (mkF m 74 #[rv a, rv vt] [(.ref a), (.int p1), (.ref b4), (.ref b4)]) _
      refine st10 _ ?_
      show Go p e below T10 (mkF m 77 #[rv a, rv vt] [(.int p2), (.int p1), (.ref b4), (.ref b4)]) _
      refine XS.iconst X10.here hx rfl (hb hby d4_77) ?_
      show Go p e below T10 (mkF m 78 #[rv a, rv vt] [(.int 1), (.int p2), (.int p1), (.ref b4), (.ref b4)]) _
      refine st11 _ ?_
      show Go p e below T11 (mkF m 81 #[rv a, rv vt] [(.int (p2 + (1 : Int32))), (.int p1), (.ref b4), (.ref b4)]) _
      refine st12.trans ?_
      show Go p e below T12 (mkF m 84 #[rv a, rv vt] [(.ref b4)]) _
      exact kt)
  obtain ⟨fs, hr, hrun, hended, hW, hsame⟩ := X12.leave (v := some (.ref b4)) (fun h => by rw [Bd.returns] at h; cases h)
  refine ⟨_, _, pre21 _ ?_, hrun, hended, _, _, rfl, ?_, ⟨_, rfl⟩, hW, hsame.mono (by decide) (by decide)⟩
  · show Steps p.tables e below (T12.setTop (mkF m 84 #[rv a, rv vt] [(.ref b4)])) _
    jvm_step X12.here [X12.here.top, hx, (hb hby d4_84), X12.method', Bd.returns, Value.isRef, FieldType.isReference]
    first | (intro acts; rw [hr _ acts rfl rfl rfl]) | rw [hr _ _ rfl rfl rfl]
    exact Steps.refl _
  · show Q_rmX1 Z a vt p1 p2 am km h0 n0 _ T12.heap _
    exact ⟨b4, rfl, N12, K20, f17, Fc12_0, Fc12_1⟩
theorem ef_0 (m : MethodId) (x0 : Int32) (x1 : Int32) (x2 : Int32) : entryFrame m #[(.int x0), (.int x1), (.int x2)] maxLocals = mkF m 0 #[.val (.int x0), .val (.int x1), .val (.int x2), .unset, .unset, .unset, .unset, .unset, .unset, .unset, .unset, .unset] [] := by first | (simp [entryFrame, mkF, argsToLocals, Value.category, maxLocals]; done) | rfl
theorem pn_com_example_archstave_archstave_core_node_VersionLabelNextPinLaw : plainName "com/example/archstave/archstave/core/node/VersionLabelNextPinLaw" = true := by first | (simp [plainName, overriddenIn]; done) | decide +kernel
theorem pd_2 : parseMethodDescriptor "(Lcom/example/archstave/archstave/core/node/VersionType;)Lcom/example/archstave/archstave/core/node/VersionLabel;" = some ⟨[(.object "com/example/archstave/archstave/core/node/VersionType")], some (.object "com/example/archstave/archstave/core/node/VersionLabel")⟩ := by decide +kernel
def Q_rmL (Z : State) (p1 : Int32) (p2 : Int32) (p3 : Int32) (am : Addr) (km : ClassId) (w_MAJOR : Addr) (w_MINOR : Addr) (h0 : Heap) (n0 : Nat) (v : Option Value) (h : Heap) (L : List Loc) : Prop := v = some (.int 1) ∧ Fr n0 L
set_option maxRecDepth 65536 in
set_option maxHeartbeats 40000000 in
theorem rmL (l : Launch) (Z : State) (a0 : Array Value) (hw : ∀ d ∈ tables_1, d.before a0 Z = true) (ws : List Jvm.Cond) (p1 : Int32) (p2 : Int32) (p3 : Int32) (am : Addr) (km : ClassId) (w_MAJOR : Addr) (w_MINOR : Addr) (h0 : Heap) (n0 : Nat) (Z0 : n0 ≤ h0.size) (hWd : Wd Z h0 w_MAJOR w_MINOR) (hS : Sta Z h0 "com/example/archstave/archstave/core/node/VersionLabel$1" "$SwitchMap$com$example$archstave$archstave$core$node$VersionType" "[I" (.ref am)) (hV : Arv Z h0 am km .int (2 : Int32) [(.int (1 : Int32)), (.int (2 : Int32))] (.int (0 : Int32))) :
    MetFree l x (head1 (Jvm.Cond.code x code maxLocals ret :: ws) room_1) (fun av_ U_ => av_ = #[(.int p1), (.int p2), (.int p3)] ∧ Z.Warmed39 U_.vm ∧ U_.heap = h0) (fun _ _ _ _ _ => True) (fun _ U_ o_ V_ => ∃ v_ L_, o_ = .returned v_ ∧ Q_rmL Z p1 p2 p3 am km w_MAJOR w_MINOR h0 n0 v_ V_.heap L_ ∧ FrameEnd U_ o_ V_ L_ room_1.cells room_1.slots) := by
  refine MetFree.of_bodySF (plainFor_of_name pn_com_example_archstave_archstave_core_node_VersionLabelNextPinLaw) hisR ?_
  intro p e s m args below meth c s₁ Bd hml0 hP hK
  obtain ⟨rfl, hZ, hh⟩ := hP
  have hx := Bd.exec
  have hby := Bd.bytes
  have hml : c.maxLocals = 12 := hml0
  have hown : s.vm.findClass "com/example/archstave/archstave/core/node/VersionLabelNextPinLaw" = some m.cls := findClass_of_methodNamed Bd.named
  have hnm := (name_of_methodNamed Bd.named Bd.method).1
  have X0 : Stand p l e room_1 s m #[(.int p1), (.int p2), (.int p3)] below meth c s₁ [] 0 0 := Stand.of_body Bd
  have e0 : s₁.heap = h0 := by rw [← hh, Bd.state]; rfl
  have N0 := Fr.nil n0
  have pre0 : ∀ t_, Go p e below s₁ (mkF m 0 #[iv p1, iv p2, iv p3, .unset, .unset, .unset, .unset, .unset, .unset, .unset, .unset, .unset] []) t_ → Go p e below s₁ (entryFrame m #[(.int p1), (.int p2), (.int p3)] maxLocals) t_ := fun t_ kt => castTop (ef_0 m p1 p2 p3) kt
  obtain ⟨⟨S_MAJOR, E_MAJOR, F_MAJOR⟩, ⟨S_MINOR, E_MINOR, F_MINOR⟩⟩ := hWd
  have pre1 : ∀ t_, Go p e below s₁ (mkF m 3 #[iv p1, iv p2, iv p3, .unset, .unset, .unset, .unset, .unset, .unset, .unset, .unset, .unset] [(.int (p3 &&& (1 : Int32)))]) t_ → Go p e below s₁ (entryFrame m #[(.int p1), (.int p2), (.int p3)] maxLocals) t_ := fun t_ kt => pre0 _ (by
      show Go p e below s₁ (mkF m 0 #[iv p1, iv p2, iv p3, .unset, .unset, .unset, .unset, .unset, .unset, .unset, .unset, .unset] []) _
      refine XS.iloadN X0.here hx rfl (hb hby at_0) rfl ?_
      show Go p e below s₁ (mkF m 1 #[iv p1, iv p2, iv p3, .unset, .unset, .unset, .unset, .unset, .unset, .unset, .unset, .unset] [(.int p3)]) _
      refine XS.iconst X0.here hx rfl (hb hby at_1) ?_
      show Go p e below s₁ (mkF m 2 #[iv p1, iv p2, iv p3, .unset, .unset, .unset, .unset, .unset, .unset, .unset, .unset, .unset] [(.int 1), (.int p3)]) _
      refine XS.iand X0.here hx rfl (hb hby at_2) rfl ?_
      show Go p e below s₁ (mkF m 3 #[iv p1, iv p2, iv p3, .unset, .unset, .unset, .unset, .unset, .unset, .unset, .unset, .unset] [(.int (p3 &&& (1 : Int32)))]) _
      exact kt)
  by_cases hc3_2 : (p3 &&& (1 : Int32)) = (0 : Int32)
  · have hmj := own_mj p1 2147483647 2147483647 (by decide) (by decide) (by decide)
    have hmn := own_mn p2 2147483647 2147483647 (by decide) (by decide)
    obtain ⟨mj, e_mj⟩ : ∃ z : Int32, z = ((1 : Int32) + ((p1 &&& (2147483647 : Int32)) % (2147483647 : Int32))) := ⟨_, rfl⟩
    have pre3 : ∀ t_, Go p e below s₁ (mkF m 60 #[iv p1, iv p2, iv p3, iv 0, iv (p1 &&& (2147483647 : Int32)), iv (p2 &&& (2147483647 : Int32)), iv mj, iv ((p2 &&& (2147483647 : Int32)) % (2147483647 : Int32)), .unset, .unset, .unset, .unset] []) t_ → Go p e below s₁ (entryFrame m #[(.int p1), (.int p2), (.int p3)] maxLocals) t_ := fun t_ kt => pre1 _ (by
        subst e_mj
        show Go p e below s₁ (mkF m 3 #[iv p1, iv p2, iv p3, .unset, .unset, .unset, .unset, .unset, .unset, .unset, .unset, .unset] [(.int (p3 &&& (1 : Int32)))]) _
        refine XS.ifYes X0.here hx rfl (pc0 := 3) (pc' := 10) rfl (hb hby at_3) rfl ((if0 _ _).trans (teq hc3_2).1) (by decide) (by decide) ?_
        show Go p e below s₁ (mkF m 10 #[iv p1, iv p2, iv p3, .unset, .unset, .unset, .unset, .unset, .unset, .unset, .unset, .unset] []) _
        refine XS.iconst X0.here hx rfl (hb hby at_10) ?_
        show Go p e below s₁ (mkF m 11 #[iv p1, iv p2, iv p3, .unset, .unset, .unset, .unset, .unset, .unset, .unset, .unset, .unset] [(.int 0)]) _
        refine XS.istoreN X0.here hx rfl (hb hby at_11) rfl (l' := #[iv p1, iv p2, iv p3, iv 0, .unset, .unset, .unset, .unset, .unset, .unset, .unset, .unset]) rfl ?_
        show Go p e below s₁ (mkF m 12 #[iv p1, iv p2, iv p3, iv 0, .unset, .unset, .unset, .unset, .unset, .unset, .unset, .unset] []) _
        refine XS.iloadN X0.here hx rfl (hb hby at_12) rfl ?_
        show Go p e below s₁ (mkF m 13 #[iv p1, iv p2, iv p3, iv 0, .unset, .unset, .unset, .unset, .unset, .unset, .unset, .unset] [(.int p1)]) _
        refine X0.ldcInt hx hown (mvT hZ (hwi hw 0 rfl)) (g := (mkF m 13 #[iv p1, iv p2, iv p3, iv 0, .unset, .unset, .unset, .unset, .unset, .unset, .unset, .unset] [(.int p1)])) rfl (hb hby at_13) _ ?_
        show Go p e below s₁ (mkF m 15 #[iv p1, iv p2, iv p3, iv 0, .unset, .unset, .unset, .unset, .unset, .unset, .unset, .unset] [(.int 2147483647), (.int p1)]) _
        refine XS.iand X0.here hx rfl (hb hby at_15) rfl ?_
        show Go p e below s₁ (mkF m 16 #[iv p1, iv p2, iv p3, iv 0, .unset, .unset, .unset, .unset, .unset, .unset, .unset, .unset] [(.int (p1 &&& (2147483647 : Int32)))]) _
        refine XS.istore X0.here hx rfl (hb hby at_16) rfl (l' := #[iv p1, iv p2, iv p3, iv 0, iv (p1 &&& (2147483647 : Int32)), .unset, .unset, .unset, .unset, .unset, .unset, .unset]) rfl ?_
        show Go p e below s₁ (mkF m 18 #[iv p1, iv p2, iv p3, iv 0, iv (p1 &&& (2147483647 : Int32)), .unset, .unset, .unset, .unset, .unset, .unset, .unset] []) _
        refine XS.iloadN X0.here hx rfl (hb hby at_18) rfl ?_
        show Go p e below s₁ (mkF m 19 #[iv p1, iv p2, iv p3, iv 0, iv (p1 &&& (2147483647 : Int32)), .unset, .unset, .unset, .unset, .unset, .unset, .unset] [(.int p2)]) _
        refine X0.ldcInt hx hown (mvT hZ (hwi hw 0 rfl)) (g := (mkF m 19 #[iv p1, iv p2, iv p3, iv 0, iv (p1 &&& (2147483647 : Int32)), .unset, .unset, .unset, .unset, .unset, .unset, .unset] [(.int p2)])) rfl (hb hby at_19) _ ?_
        show Go p e below s₁ (mkF m 21 #[iv p1, iv p2, iv p3, iv 0, iv (p1 &&& (2147483647 : Int32)), .unset, .unset, .unset, .unset, .unset, .unset, .unset] [(.int 2147483647), (.int p2)]) _
        refine XS.iand X0.here hx rfl (hb hby at_21) rfl ?_
        show Go p e below s₁ (mkF m 22 #[iv p1, iv p2, iv p3, iv 0, iv (p1 &&& (2147483647 : Int32)), .unset, .unset, .unset, .unset, .unset, .unset, .unset] [(.int (p2 &&& (2147483647 : Int32)))]) _
        refine XS.istore X0.here hx rfl (hb hby at_22) rfl (l' := #[iv p1, iv p2, iv p3, iv 0, iv (p1 &&& (2147483647 : Int32)), iv (p2 &&& (2147483647 : Int32)), .unset, .unset, .unset, .unset, .unset, .unset]) rfl ?_
        show Go p e below s₁ (mkF m 24 #[iv p1, iv p2, iv p3, iv 0, iv (p1 &&& (2147483647 : Int32)), iv (p2 &&& (2147483647 : Int32)), .unset, .unset, .unset, .unset, .unset, .unset] []) _
        refine XS.iloadN X0.here hx rfl (hb hby at_24) rfl ?_
        show Go p e below s₁ (mkF m 25 #[iv p1, iv p2, iv p3, iv 0, iv (p1 &&& (2147483647 : Int32)), iv (p2 &&& (2147483647 : Int32)), .unset, .unset, .unset, .unset, .unset, .unset] [(.int 0)]) _
        refine XS.ifYes X0.here hx rfl (pc0 := 25) (pc' := 44) rfl (hb hby at_25) rfl ((if0 _ _).trans (teq ((by decide) : (0 : Int32) = (0 : Int32))).1) (by decide) (by decide) ?_
        show Go p e below s₁ (mkF m 44 #[iv p1, iv p2, iv p3, iv 0, iv (p1 &&& (2147483647 : Int32)), iv (p2 &&& (2147483647 : Int32)), .unset, .unset, .unset, .unset, .unset, .unset] []) _
        refine XS.iconst X0.here hx rfl (hb hby at_44) ?_
        show Go p e below s₁ (mkF m 45 #[iv p1, iv p2, iv p3, iv 0, iv (p1 &&& (2147483647 : Int32)), iv (p2 &&& (2147483647 : Int32)), .unset, .unset, .unset, .unset, .unset, .unset] [(.int 1)]) _
        refine XS.iload X0.here hx rfl (hb hby at_45) rfl ?_
        show Go p e below s₁ (mkF m 47 #[iv p1, iv p2, iv p3, iv 0, iv (p1 &&& (2147483647 : Int32)), iv (p2 &&& (2147483647 : Int32)), .unset, .unset, .unset, .unset, .unset, .unset] [(.int (p1 &&& (2147483647 : Int32))), (.int 1)]) _
        refine X0.ldcInt hx hown (mvT hZ (hwi hw 0 rfl)) (g := (mkF m 47 #[iv p1, iv p2, iv p3, iv 0, iv (p1 &&& (2147483647 : Int32)), iv (p2 &&& (2147483647 : Int32)), .unset, .unset, .unset, .unset, .unset, .unset] [(.int (p1 &&& (2147483647 : Int32))), (.int 1)])) rfl (hb hby at_47) _ ?_
        show Go p e below s₁ (mkF m 49 #[iv p1, iv p2, iv p3, iv 0, iv (p1 &&& (2147483647 : Int32)), iv (p2 &&& (2147483647 : Int32)), .unset, .unset, .unset, .unset, .unset, .unset] [(.int 2147483647), (.int (p1 &&& (2147483647 : Int32))), (.int 1)]) _
        refine iremM X0 hx rfl (hb hby at_49) rfl (by decide) ?_
        show Go p e below s₁ (mkF m 50 #[iv p1, iv p2, iv p3, iv 0, iv (p1 &&& (2147483647 : Int32)), iv (p2 &&& (2147483647 : Int32)), .unset, .unset, .unset, .unset, .unset, .unset] [(.int ((p1 &&& (2147483647 : Int32)) % (2147483647 : Int32))), (.int 1)]) _
        refine XS.iadd X0.here hx rfl (hb hby at_50) rfl ?_
        show Go p e below s₁ (mkF m 51 #[iv p1, iv p2, iv p3, iv 0, iv (p1 &&& (2147483647 : Int32)), iv (p2 &&& (2147483647 : Int32)), .unset, .unset, .unset, .unset, .unset, .unset] [(.int ((1 : Int32) + ((p1 &&& (2147483647 : Int32)) % (2147483647 : Int32))))]) _
        refine XS.istore X0.here hx rfl (hb hby at_51) rfl (l' := #[iv p1, iv p2, iv p3, iv 0, iv (p1 &&& (2147483647 : Int32)), iv (p2 &&& (2147483647 : Int32)), iv ((1 : Int32) + ((p1 &&& (2147483647 : Int32)) % (2147483647 : Int32))), .unset, .unset, .unset, .unset, .unset]) rfl ?_
        show Go p e below s₁ (mkF m 53 #[iv p1, iv p2, iv p3, iv 0, iv (p1 &&& (2147483647 : Int32)), iv (p2 &&& (2147483647 : Int32)), iv ((1 : Int32) + ((p1 &&& (2147483647 : Int32)) % (2147483647 : Int32))), .unset, .unset, .unset, .unset, .unset] []) _
        refine XS.iload X0.here hx rfl (hb hby at_53) rfl ?_
        show Go p e below s₁ (mkF m 55 #[iv p1, iv p2, iv p3, iv 0, iv (p1 &&& (2147483647 : Int32)), iv (p2 &&& (2147483647 : Int32)), iv ((1 : Int32) + ((p1 &&& (2147483647 : Int32)) % (2147483647 : Int32))), .unset, .unset, .unset, .unset, .unset] [(.int (p2 &&& (2147483647 : Int32)))]) _
        refine X0.ldcInt hx hown (mvT hZ (hwi hw 0 rfl)) (g := (mkF m 55 #[iv p1, iv p2, iv p3, iv 0, iv (p1 &&& (2147483647 : Int32)), iv (p2 &&& (2147483647 : Int32)), iv ((1 : Int32) + ((p1 &&& (2147483647 : Int32)) % (2147483647 : Int32))), .unset, .unset, .unset, .unset, .unset] [(.int (p2 &&& (2147483647 : Int32)))])) rfl (hb hby at_55) _ ?_
        show Go p e below s₁ (mkF m 57 #[iv p1, iv p2, iv p3, iv 0, iv (p1 &&& (2147483647 : Int32)), iv (p2 &&& (2147483647 : Int32)), iv ((1 : Int32) + ((p1 &&& (2147483647 : Int32)) % (2147483647 : Int32))), .unset, .unset, .unset, .unset, .unset] [(.int 2147483647), (.int (p2 &&& (2147483647 : Int32)))]) _
        refine iremM X0 hx rfl (hb hby at_57) rfl (by decide) ?_
        show Go p e below s₁ (mkF m 58 #[iv p1, iv p2, iv p3, iv 0, iv (p1 &&& (2147483647 : Int32)), iv (p2 &&& (2147483647 : Int32)), iv ((1 : Int32) + ((p1 &&& (2147483647 : Int32)) % (2147483647 : Int32))), .unset, .unset, .unset, .unset, .unset] [(.int ((p2 &&& (2147483647 : Int32)) % (2147483647 : Int32)))]) _
        refine XS.istore X0.here hx rfl (hb hby at_58) rfl (l' := #[iv p1, iv p2, iv p3, iv 0, iv (p1 &&& (2147483647 : Int32)), iv (p2 &&& (2147483647 : Int32)), iv ((1 : Int32) + ((p1 &&& (2147483647 : Int32)) % (2147483647 : Int32))), iv ((p2 &&& (2147483647 : Int32)) % (2147483647 : Int32)), .unset, .unset, .unset, .unset]) rfl ?_
        show Go p e below s₁ (mkF m 60 #[iv p1, iv p2, iv p3, iv 0, iv (p1 &&& (2147483647 : Int32)), iv (p2 &&& (2147483647 : Int32)), iv ((1 : Int32) + ((p1 &&& (2147483647 : Int32)) % (2147483647 : Int32))), iv ((p2 &&& (2147483647 : Int32)) % (2147483647 : Int32)), .unset, .unset, .unset, .unset] []) _
        exact kt)
    rw [← e_mj] at hmj
    obtain ⟨mn, e_mn⟩ : ∃ z : Int32, z = ((p2 &&& (2147483647 : Int32)) % (2147483647 : Int32)) := ⟨_, rfl⟩
    have pre4 : ∀ t_, Go p e below s₁ (mkF m 60 #[iv p1, iv p2, iv p3, iv 0, iv (p1 &&& (2147483647 : Int32)), iv (p2 &&& (2147483647 : Int32)), iv mj, iv mn, .unset, .unset, .unset, .unset] []) t_ → Go p e below s₁ (entryFrame m #[(.int p1), (.int p2), (.int p3)] maxLocals) t_ := fun t_ kt => pre3 _ (by
        subst e_mn
        exact kt)
    rw [← e_mn] at hmn
    obtain ⟨T5, h5, X5, e5, E5, A5, D5, -, st5⟩ := newO X0 hx hZ hown (hwi hw 1 rfl) (hwi hw 2 rfl) (hwi hw 3 rfl) e0 (g := (mkF m 60 #[iv p1, iv p2, iv p3, iv 0, iv (p1 &&& (2147483647 : Int32)), iv (p2 &&& (2147483647 : Int32)), iv mj, iv mn, .unset, .unset, .unset, .unset] [])) rfl (hb hby at_60) (by decide) (by decide)
    obtain ⟨b5, g5⟩ : ∃ z, z = h0.size := ⟨_, rfl⟩
    rw [← g5] at A5 D5 st5
    have sz_b5 : h0.size ≤ b5 := Nat.le_trans (Keep.refl h0 []).1 (Nat.le_of_eq g5.symm)
    have g_b5 : n0 ≤ b5 := Nat.le_trans Z0 sz_b5
    have K5 : Keep h0 h5 [] := (Keep.refl h0 []).ext E5
    have F_major_b5 : Fld Z h5 b5 "com/example/archstave/archstave/core/node/VersionLabel" "major" "I" (.int 0) := D5 (Or.inr (hwi hw 16 rfl)) (ty := .int) (by decide)
    have F_minor_b5 : Fld Z h5 b5 "com/example/archstave/archstave/core/node/VersionLabel" "minor" "I" (.int 0) := D5 (Or.inr (hwi hw 18 rfl)) (ty := .int) (by decide)
    obtain ⟨_, _, ⟨T6, L6, k6, n6⟩, -, X6, ⟨Lc6, hQ6, l6, y6, z6⟩, st6⟩ := X5.specialBack hx (y := (⟨"com/example/archstave/archstave/core/node/VersionLabel", "<init>", "(II)V"⟩ : MethodName)) rfl hown (mvT hZ (hwi hw 4 rfl)) (mvT hZ (hwi hw 5 rfl)) (mvT hZ (hwi hw 6 rfl)) (by decide) (backOf (W := 1) (rmI l Z a0 hw [] b5 mj mn h5 n0 (Nat.le_trans Z0 K5.1) A5 g_b5 F_major_b5 F_minor_b5 (own_ge 1 (by decide) hmj.1) (own_ge 0 (by decide) hmn.1)) hZ (hwi hw 6 rfl) (hwi hw 3 rfl) (by decide) (by decide)) (g := (mkF m 68 #[iv p1, iv p2, iv p3, iv 0, iv (p1 &&& (2147483647 : Int32)), iv (p2 &&& (2147483647 : Int32)), iv mj, iv mn, .unset, .unset, .unset, .unset] [(.int mn), (.int mj), (.ref b5), (.ref b5)])) rfl (by rw [hml]; rfl) (Steps.refl _) (a := b5) (argsL := [(.int mj), (.int mn)]) (rest := [(.ref b5)]) (lenOf pd_0 rfl) rfl (by show 2 * 0 + _ ≤ _; exact Nat.le_of_eq rfl) (hb hby at_68) (fun _ _ => ⟨rfl, e5, (by decide : 1 + 0 ≤ _), (by decide : 2 + 0 ≤ _)⟩)
    dsimp only [Pt.U, Pt.locs, Pt.cells, Pt.slots] at X6 l6 y6 z6 st6 hQ6
    subst l6 y6 z6
    obtain ⟨rfl, N6q, kc6, -, Fc6_0, Fc6_1⟩ := hQ6
    have N6 := Fr.app N0 N6q
    have f7 := A5.keep kc6
    have K10 : Keep h0 T6.heap [] := K5.trans kc6 (allS (Or.inr sz_b5) all0)
    obtain ⟨T11, X11, e11, st11⟩ := getS2 X6 hx hZ hown (host := "") (Or.inl (hwi hw 19 rfl)) Via.refl rfl (S_MINOR.ext (own_ext K10)) (g := (mkF m 83 #[iv p1, iv p2, iv p3, iv 0, iv (p1 &&& (2147483647 : Int32)), iv (p2 &&& (2147483647 : Int32)), iv mj, iv mn, rv b5, .unset, .unset, .unset] [])) rfl (hb hby at_83)
    obtain ⟨cq12, kq12, q12a, q12b, q12c⟩ := isOf hZ e11 f7
    obtain ⟨_, _, ⟨T12, L12, k12, n12⟩, -, X12, ⟨Lc12, hQ12, l12, y12, z12⟩, st12⟩ := X11.virtualBack hx (y := (⟨"com/example/archstave/archstave/core/node/VersionLabel", "next", "(Lcom/example/archstave/archstave/core/node/VersionType;)Lcom/example/archstave/archstave/core/node/VersionLabel;"⟩ : MethodName)) (z := (⟨"com/example/archstave/archstave/core/node/VersionLabel", "next", "(Lcom/example/archstave/archstave/core/node/VersionType;)Lcom/example/archstave/archstave/core/node/VersionLabel;"⟩ : MethodName)) hown (mvT hZ (hwi hw 22 rfl)) (mvT hZ (hwi hw 23 rfl)) (notFace_of_selects (args := #[]) (mvT hZ (hwi hw 25 rfl))) (mvT hZ (hwi hw 25 rfl)) (mvT hZ (hwi hw 24 rfl)) (by decide) (backOf (W := 0) (rmX1 l Z a0 hw [] b5 w_MINOR mj mn am km T6.heap n0 (Nat.le_trans Z0 K10.1) f7 Fc6_0 Fc6_1 (E_MINOR.ext (own_ext K10)) (F_MINOR.ext (own_ext K10)) (hS.ext (own_ext K10)) (hV.ext (own_ext K10)) (own_ok hmn.1 (by omega)) (own_ge 1 (by decide) hmj.1) (own_ge 0 (by decide) (by rw [own_add1 (by omega) (by omega)]; omega))) hZ (hwi hw 26 rfl) (hwi hw 3 rfl) (by decide) (by decide)) q12a q12c (g := (mkF m 92 #[iv p1, iv p2, iv p3, iv 0, iv (p1 &&& (2147483647 : Int32)), iv (p2 &&& (2147483647 : Int32)), iv mj, iv mn, rv b5, rv w_MINOR, .unset, .unset] [(.ref w_MINOR), (.ref b5)])) rfl (by rw [hml]; rfl) (Steps.refl _) (argsL := [(.ref w_MINOR)]) (rest := []) (lenOf pd_2 rfl) rfl (by show 2 * 0 + _ ≤ _; exact Nat.le_of_eq rfl) (hb hby at_92) (fun _ _ => ⟨rfl, e11, (by decide : 1 + 1 ≤ _), (by decide : 2 + 2 ≤ _)⟩)
    dsimp only [Pt.U, Pt.locs, Pt.cells, Pt.slots] at X12 l12 y12 z12 st12 hQ12
    subst l12 y12 z12
    obtain ⟨c12, rfl, N12q, kc12, Ec12, Fc12_0, Fc12_1⟩ := hQ12
    have N12 := Fr.app N6 N12q
    have f13 := f7.keep kc12
    have f14 := Fc6_0.keep kc12 nin0
    have f15 := Fc6_1.keep kc12 nin0
    have K16 : Keep h0 T12.heap [] := K10.trans kc12 all0
    obtain ⟨cq17, kq17, q17a, q17b, q17c⟩ := isOf hZ rfl f13
    obtain ⟨_, _, ⟨T17, L17, k17, n17⟩, -, X17, ⟨Lc17, hQ17, l17, y17, z17⟩, st17⟩ := X12.virtualBack hx (y := (⟨"com/example/archstave/archstave/core/node/VersionLabel", "major", "()I"⟩ : MethodName)) (z := (⟨"com/example/archstave/archstave/core/node/VersionLabel", "major", "()I"⟩ : MethodName)) hown (mvT hZ (hwi hw 45 rfl)) (mvT hZ (hwi hw 46 rfl)) (notFace_of_selects (args := #[]) (mvT hZ (hwi hw 48 rfl))) (mvT hZ (hwi hw 48 rfl)) (mvT hZ (hwi hw 47 rfl)) (by decide) (backOf (W := 0) (rmGmajor l Z a0 hw [] b5 mj T12.heap n0 (Nat.le_trans Z0 K16.1) f14) hZ (hwi hw 49 rfl) (hwi hw 3 rfl) (by decide) (by decide)) q17a q17c (g := (mkF m 99 #[iv p1, iv p2, iv p3, iv 0, iv (p1 &&& (2147483647 : Int32)), iv (p2 &&& (2147483647 : Int32)), iv mj, iv mn, rv b5, rv w_MINOR, rv c12, .unset] [(.ref b5)])) rfl (by rw [hml]; rfl) (Steps.refl _) (argsL := []) (rest := []) (lenOf pd_3 rfl) rfl (by show 2 * 0 + _ ≤ _; exact Nat.le_of_eq rfl) (hb hby at_99) (fun _ _ => ⟨rfl, rfl, (by decide : 2 + 0 ≤ _), (by decide : 4 + 0 ≤ _)⟩)
    dsimp only [Pt.U, Pt.locs, Pt.cells, Pt.slots] at X17 l17 y17 z17 st17 hQ17
    subst l17 y17 z17
    obtain ⟨rfl, N17q, e17q⟩ := hQ17
    have N17 := Fr.app N12 N17q
    obtain ⟨cq18, kq18, q18a, q18b, q18c⟩ := isOf hZ e17q f13
    obtain ⟨_, _, ⟨T18, L18, k18, n18⟩, -, X18, ⟨Lc18, hQ18, l18, y18, z18⟩, st18⟩ := X17.virtualBack hx (y := (⟨"com/example/archstave/archstave/core/node/VersionLabel", "minor", "()I"⟩ : MethodName)) (z := (⟨"com/example/archstave/archstave/core/node/VersionLabel", "minor", "()I"⟩ : MethodName)) hown (mvT hZ (hwi hw 50 rfl)) (mvT hZ (hwi hw 51 rfl)) (notFace_of_selects (args := #[]) (mvT hZ (hwi hw 53 rfl))) (mvT hZ (hwi hw 53 rfl)) (mvT hZ (hwi hw 52 rfl)) (by decide) (backOf (W := 0) (rmGminor l Z a0 hw [] b5 mn T12.heap n0 (Nat.le_trans Z0 K16.1) f15) hZ (hwi hw 54 rfl) (hwi hw 3 rfl) (by decide) (by decide)) q18a q18c (g := (mkF m 109 #[iv p1, iv p2, iv p3, iv 0, iv (p1 &&& (2147483647 : Int32)), iv (p2 &&& (2147483647 : Int32)), iv mj, iv mn, rv b5, rv w_MINOR, rv c12, .unset] [(.ref b5)])) rfl (by rw [hml]; rfl) (Steps.refl _) (argsL := []) (rest := []) (lenOf pd_3 rfl) rfl (by show 2 * 0 + _ ≤ _; exact Nat.le_of_eq rfl) (hb hby at_109) (fun _ _ => ⟨rfl, e17q, (by decide : 2 + 0 ≤ _), (by decide : 4 + 0 ≤ _)⟩)
    dsimp only [Pt.U, Pt.locs, Pt.cells, Pt.slots] at X18 l18 y18 z18 st18 hQ18
    subst l18 y18 z18
    obtain ⟨rfl, N18q, e18q⟩ := hQ18
    have N18 := Fr.app N17 N18q
    obtain ⟨cq19, kq19, q19a, q19b, q19c⟩ := isOf hZ e18q Ec12
    obtain ⟨_, _, ⟨T19, L19, k19, n19⟩, -, X19, ⟨Lc19, hQ19, l19, y19, z19⟩, st19⟩ := X18.virtualBack hx (y := (⟨"com/example/archstave/archstave/core/node/VersionLabel", "major", "()I"⟩ : MethodName)) (z := (⟨"com/example/archstave/archstave/core/node/VersionLabel", "major", "()I"⟩ : MethodName)) hown (mvT hZ (hwi hw 45 rfl)) (mvT hZ (hwi hw 46 rfl)) (notFace_of_selects (args := #[]) (mvT hZ (hwi hw 48 rfl))) (mvT hZ (hwi hw 48 rfl)) (mvT hZ (hwi hw 47 rfl)) (by decide) (backOf (W := 0) (rmGmajor l Z a0 hw [] c12 mj T12.heap n0 (Nat.le_trans Z0 K16.1) Fc12_0) hZ (hwi hw 49 rfl) (hwi hw 3 rfl) (by decide) (by decide)) q19a q19c (g := (mkF m 166 #[iv p1, iv p2, iv p3, iv 0, iv (p1 &&& (2147483647 : Int32)), iv (p2 &&& (2147483647 : Int32)), iv mj, iv mn, rv b5, rv w_MINOR, rv c12, iv 1] [(.ref c12)])) rfl (by rw [hml]; rfl) (Steps.refl _) (argsL := []) (rest := []) (lenOf pd_3 rfl) rfl (by show 2 * 0 + _ ≤ _; exact Nat.le_of_eq rfl) (hb hby at_166) (fun _ _ => ⟨rfl, e18q, (by decide : 2 + 0 ≤ _), (by decide : 4 + 0 ≤ _)⟩)
    dsimp only [Pt.U, Pt.locs, Pt.cells, Pt.slots] at X19 l19 y19 z19 st19 hQ19
    subst l19 y19 z19
    obtain ⟨rfl, N19q, e19q⟩ := hQ19
    have N19 := Fr.app N18 N19q
    obtain ⟨cq20, kq20, q20a, q20b, q20c⟩ := isOf hZ e19q Ec12
    obtain ⟨_, _, ⟨T20, L20, k20, n20⟩, -, X20, ⟨Lc20, hQ20, l20, y20, z20⟩, st20⟩ := X19.virtualBack hx (y := (⟨"com/example/archstave/archstave/core/node/VersionLabel", "minor", "()I"⟩ : MethodName)) (z := (⟨"com/example/archstave/archstave/core/node/VersionLabel", "minor", "()I"⟩ : MethodName)) hown (mvT hZ (hwi hw 50 rfl)) (mvT hZ (hwi hw 51 rfl)) (notFace_of_selects (args := #[]) (mvT hZ (hwi hw 53 rfl))) (mvT hZ (hwi hw 53 rfl)) (mvT hZ (hwi hw 52 rfl)) (by decide) (backOf (W := 0) (rmGminor l Z a0 hw [] c12 (mn + (1 : Int32)) T12.heap n0 (Nat.le_trans Z0 K16.1) Fc12_1) hZ (hwi hw 54 rfl) (hwi hw 3 rfl) (by decide) (by decide)) q20a q20c (g := (mkF m 176 #[iv p1, iv p2, iv p3, iv 0, iv (p1 &&& (2147483647 : Int32)), iv (p2 &&& (2147483647 : Int32)), iv mj, iv mn, rv b5, rv w_MINOR, rv c12, iv 1] [(.ref c12)])) rfl (by rw [hml]; rfl) (Steps.refl _) (argsL := []) (rest := []) (lenOf pd_3 rfl) rfl (by show 2 * 0 + _ ≤ _; exact Nat.le_of_eq rfl) (hb hby at_176) (fun _ _ => ⟨rfl, e19q, (by decide : 2 + 0 ≤ _), (by decide : 4 + 0 ≤ _)⟩)
    dsimp only [Pt.U, Pt.locs, Pt.cells, Pt.slots] at X20 l20 y20 z20 st20 hQ20
    subst l20 y20 z20
    obtain ⟨rfl, N20q, e20q⟩ := hQ20
    have N20 := Fr.app N19 N20q
    have pre21 : ∀ t_, Go p e below T20 (mkF m 191 #[iv p1, iv p2, iv p3, iv 0, iv (p1 &&& (2147483647 : Int32)), iv (p2 &&& (2147483647 : Int32)), iv mj, iv mn, rv b5, rv w_MINOR, rv c12, iv 1] [(.int 1)]) t_ → Go p e below s₁ (entryFrame m #[(.int p1), (.int p2), (.int p3)] maxLocals) t_ := fun t_ kt => pre4 _ (by
        show Go p e below s₁ (mkF m 60 #[iv p1, iv p2, iv p3, iv 0, iv (p1 &&& (2147483647 : Int32)), iv (p2 &&& (2147483647 : Int32)), iv mj, iv mn, .unset, .unset, .unset, .unset] []) _
        refine st5 _ ?_
        show Go p e below T5 (mkF m 63 #[iv p1, iv p2, iv p3, iv 0, iv (p1 &&& (2147483647 : Int32)), iv (p2 &&& (2147483647 : Int32)), iv mj, iv mn, .unset, .unset, .unset, .unset] [(.ref b5)]) _
        refine XS.dup X5.here hx rfl (hb hby at_63) rfl rfl ?_
        show Go p e below T5 (mkF m 64 #[iv p1, iv p2, iv p3, iv 0, iv (p1 &&& (2147483647 : Int32)), iv (p2 &&& (2147483647 : Int32)), iv mj, iv mn, .unset, .unset, .unset, .unset] [(.ref b5), (.ref b5)]) _
        refine XS.iload X5.here hx rfl (hb hby at_64) rfl ?_
        show Go p e below T5 (mkF m 66 #[iv p1, iv p2, iv p3, iv 0, iv (p1 &&& (2147483647 : Int32)), iv (p2 &&& (2147483647 : Int32)), iv mj, iv mn, .unset, .unset, .unset, .unset] [(.int mj), (.ref b5), (.ref b5)]) _
        refine XS.iload X5.here hx rfl (hb hby at_66) rfl ?_
        show Go p e below T5 (mkF m 68 #[iv p1, iv p2, iv p3, iv 0, iv (p1 &&& (2147483647 : Int32)), iv (p2 &&& (2147483647 : Int32)), iv mj, iv mn, .unset, .unset, .unset, .unset] [(.int mn), (.int mj), (.ref b5), (.ref b5)]) _
        refine st6.trans ?_
        show Go p e below T6 (mkF m 71 #[iv p1, iv p2, iv p3, iv 0, iv (p1 &&& (2147483647 : Int32)), iv (p2 &&& (2147483647 : Int32)), iv mj, iv mn, .unset, .unset, .unset, .unset] [(.ref b5)]) _
        refine XS.astore X6.here hx rfl (hb hby at_71) rfl rfl (l' := #[iv p1, iv p2, iv p3, iv 0, iv (p1 &&& (2147483647 : Int32)), iv (p2 &&& (2147483647 : Int32)), iv mj, iv mn, rv b5, .unset, .unset, .unset]) rfl ?_
        show Go p e below T6 (mkF m 73 #[iv p1, iv p2, iv p3, iv 0, iv (p1 &&& (2147483647 : Int32)), iv (p2 &&& (2147483647 : Int32)), iv mj, iv mn, rv b5, .unset, .unset, .unset] []) _
        refine XS.iloadN X6.here hx rfl (hb hby at_73) rfl ?_
        show Go p e below T6 (mkF m 74 #[iv p1, iv p2, iv p3, iv 0, iv (p1 &&& (2147483647 : Int32)), iv (p2 &&& (2147483647 : Int32)), iv mj, iv mn, rv b5, .unset, .unset, .unset] [(.int 0)]) _
        refine XS.ifYes X6.here hx rfl (pc0 := 74) (pc' := 83) rfl (hb hby at_74) rfl ((if0 _ _).trans (teq ((by decide) : (0 : Int32) = (0 : Int32))).1) (by decide) (by decide) ?_
        show Go p e below T6 (mkF m 83 #[iv p1, iv p2, iv p3, iv 0, iv (p1 &&& (2147483647 : Int32)), iv (p2 &&& (2147483647 : Int32)), iv mj, iv mn, rv b5, .unset, .unset, .unset] []) _
        refine st11 _ ?_
        show Go p e below T11 (mkF m 86 #[iv p1, iv p2, iv p3, iv 0, iv (p1 &&& (2147483647 : Int32)), iv (p2 &&& (2147483647 : Int32)), iv mj, iv mn, rv b5, .unset, .unset, .unset] [(.ref w_MINOR)]) _
        refine XS.astore X11.here hx rfl (hb hby at_86) rfl rfl (l' := #[iv p1, iv p2, iv p3, iv 0, iv (p1 &&& (2147483647 : Int32)), iv (p2 &&& (2147483647 : Int32)), iv mj, iv mn, rv b5, rv w_MINOR, .unset, .unset]) rfl ?_
        show Go p e below T11 (mkF m 88 #[iv p1, iv p2, iv p3, iv 0, iv (p1 &&& (2147483647 : Int32)), iv (p2 &&& (2147483647 : Int32)), iv mj, iv mn, rv b5, rv w_MINOR, .unset, .unset] []) _
        refine XS.aload X11.here hx rfl (hb hby at_88) rfl rfl ?_
        show Go p e below T11 (mkF m 90 #[iv p1, iv p2, iv p3, iv 0, iv (p1 &&& (2147483647 : Int32)), iv (p2 &&& (2147483647 : Int32)), iv mj, iv mn, rv b5, rv w_MINOR, .unset, .unset] [(.ref b5)]) _
        refine XS.aload X11.here hx rfl (hb hby at_90) rfl rfl ?_
        show Go p e below T11 (mkF m 92 #[iv p1, iv p2, iv p3, iv 0, iv (p1 &&& (2147483647 : Int32)), iv (p2 &&& (2147483647 : Int32)), iv mj, iv mn, rv b5, rv w_MINOR, .unset, .unset] [(.ref w_MINOR), (.ref b5)]) _
        refine st12.trans ?_
        show Go p e below T12 (mkF m 95 #[iv p1, iv p2, iv p3, iv 0, iv (p1 &&& (2147483647 : Int32)), iv (p2 &&& (2147483647 : Int32)), iv mj, iv mn, rv b5, rv w_MINOR, .unset, .unset] [(.ref c12)]) _
        refine XS.astore X12.here hx rfl (hb hby at_95) rfl rfl (l' := #[iv p1, iv p2, iv p3, iv 0, iv (p1 &&& (2147483647 : Int32)), iv (p2 &&& (2147483647 : Int32)), iv mj, iv mn, rv b5, rv w_MINOR, rv c12, .unset]) rfl ?_
        show Go p e below T12 (mkF m 97 #[iv p1, iv p2, iv p3, iv 0, iv (p1 &&& (2147483647 : Int32)), iv (p2 &&& (2147483647 : Int32)), iv mj, iv mn, rv b5, rv w_MINOR, rv c12, .unset] []) _
        refine XS.aload X12.here hx rfl (hb hby at_97) rfl rfl ?_
        show Go p e below T12 (mkF m 99 #[iv p1, iv p2, iv p3, iv 0, iv (p1 &&& (2147483647 : Int32)), iv (p2 &&& (2147483647 : Int32)), iv mj, iv mn, rv b5, rv w_MINOR, rv c12, .unset] [(.ref b5)]) _
        refine st17.trans ?_
        show Go p e below T17 (mkF m 102 #[iv p1, iv p2, iv p3, iv 0, iv (p1 &&& (2147483647 : Int32)), iv (p2 &&& (2147483647 : Int32)), iv mj, iv mn, rv b5, rv w_MINOR, rv c12, .unset] [(.int mj)]) _
        refine XS.iload X17.here hx rfl (hb hby at_102) rfl ?_
        show Go p e below T17 (mkF m 104 #[iv p1, iv p2, iv p3, iv 0, iv (p1 &&& (2147483647 : Int32)), iv (p2 &&& (2147483647 : Int32)), iv mj, iv mn, rv b5, rv w_MINOR, rv c12, .unset] [(.int mj), (.int mj)]) _
        refine XS.icmpNo X17.here hx rfl (hb hby at_104) rfl (teq (rfl : mj = mj)).2 ?_
        show Go p e below T17 (mkF m 107 #[iv p1, iv p2, iv p3, iv 0, iv (p1 &&& (2147483647 : Int32)), iv (p2 &&& (2147483647 : Int32)), iv mj, iv mn, rv b5, rv w_MINOR, rv c12, .unset] []) _
        refine XS.aload X17.here hx rfl (hb hby at_107) rfl rfl ?_
        show Go p e below T17 (mkF m 109 #[iv p1, iv p2, iv p3, iv 0, iv (p1 &&& (2147483647 : Int32)), iv (p2 &&& (2147483647 : Int32)), iv mj, iv mn, rv b5, rv w_MINOR, rv c12, .unset] [(.ref b5)]) _
        refine st18.trans ?_
        show Go p e below T18 (mkF m 112 #[iv p1, iv p2, iv p3, iv 0, iv (p1 &&& (2147483647 : Int32)), iv (p2 &&& (2147483647 : Int32)), iv mj, iv mn, rv b5, rv w_MINOR, rv c12, .unset] [(.int mn)]) _
        refine XS.iload X18.here hx rfl (hb hby at_112) rfl ?_
        show Go p e below T18 (mkF m 114 #[iv p1, iv p2, iv p3, iv 0, iv (p1 &&& (2147483647 : Int32)), iv (p2 &&& (2147483647 : Int32)), iv mj, iv mn, rv b5, rv w_MINOR, rv c12, .unset] [(.int mn), (.int mn)]) _
        refine XS.icmpNo X18.here hx rfl (hb hby at_114) rfl (teq (rfl : mn = mn)).2 ?_
        show Go p e below T18 (mkF m 117 #[iv p1, iv p2, iv p3, iv 0, iv (p1 &&& (2147483647 : Int32)), iv (p2 &&& (2147483647 : Int32)), iv mj, iv mn, rv b5, rv w_MINOR, rv c12, .unset] []) _
        refine XS.iconst X18.here hx rfl (hb hby at_117) ?_
        show Go p e below T18 (mkF m 118 #[iv p1, iv p2, iv p3, iv 0, iv (p1 &&& (2147483647 : Int32)), iv (p2 &&& (2147483647 : Int32)), iv mj, iv mn, rv b5, rv w_MINOR, rv c12, .unset] [(.int 1)]) _
        refine XS.goto X18.here hx rfl (pc0 := 118) (pc' := 122) rfl (hb hby at_118) (by decide) (by decide) ?_
        show Go p e below T18 (mkF m 122 #[iv p1, iv p2, iv p3, iv 0, iv (p1 &&& (2147483647 : Int32)), iv (p2 &&& (2147483647 : Int32)), iv mj, iv mn, rv b5, rv w_MINOR, rv c12, .unset] [(.int 1)]) _
        refine XS.istore X18.here hx rfl (hb hby at_122) rfl (l' := #[iv p1, iv p2, iv p3, iv 0, iv (p1 &&& (2147483647 : Int32)), iv (p2 &&& (2147483647 : Int32)), iv mj, iv mn, rv b5, rv w_MINOR, rv c12, iv 1]) rfl ?_
        show Go p e below T18 (mkF m 124 #[iv p1, iv p2, iv p3, iv 0, iv (p1 &&& (2147483647 : Int32)), iv (p2 &&& (2147483647 : Int32)), iv mj, iv mn, rv b5, rv w_MINOR, rv c12, iv 1] []) _
        refine XS.iloadN X18.here hx rfl (hb hby at_124) rfl ?_
        show Go p e below T18 (mkF m 125 #[iv p1, iv p2, iv p3, iv 0, iv (p1 &&& (2147483647 : Int32)), iv (p2 &&& (2147483647 : Int32)), iv mj, iv mn, rv b5, rv w_MINOR, rv c12, iv 1] [(.int 0)]) _
        refine XS.ifYes X18.here hx rfl (pc0 := 125) (pc' := 159) rfl (hb hby at_125) rfl ((if0 _ _).trans (teq ((by decide) : (0 : Int32) = (0 : Int32))).1) (by decide) (by decide) ?_
        show Go p e below T18 (mkF m 159 #[iv p1, iv p2, iv p3, iv 0, iv (p1 &&& (2147483647 : Int32)), iv (p2 &&& (2147483647 : Int32)), iv mj, iv mn, rv b5, rv w_MINOR, rv c12, iv 1] []) _
        refine XS.iload X18.here hx rfl (hb hby at_159) rfl ?_
        show Go p e below T18 (mkF m 161 #[iv p1, iv p2, iv p3, iv 0, iv (p1 &&& (2147483647 : Int32)), iv (p2 &&& (2147483647 : Int32)), iv mj, iv mn, rv b5, rv w_MINOR, rv c12, iv 1] [(.int 1)]) _
        refine XS.ifNo X18.here hx rfl (hb hby at_161) rfl ((if0 _ _).trans (feq ((by decide) : ¬ ((1 : Int32) = (0 : Int32)))).1) ?_
        show Go p e below T18 (mkF m 164 #[iv p1, iv p2, iv p3, iv 0, iv (p1 &&& (2147483647 : Int32)), iv (p2 &&& (2147483647 : Int32)), iv mj, iv mn, rv b5, rv w_MINOR, rv c12, iv 1] []) _
        refine XS.aload X18.here hx rfl (hb hby at_164) rfl rfl ?_
        show Go p e below T18 (mkF m 166 #[iv p1, iv p2, iv p3, iv 0, iv (p1 &&& (2147483647 : Int32)), iv (p2 &&& (2147483647 : Int32)), iv mj, iv mn, rv b5, rv w_MINOR, rv c12, iv 1] [(.ref c12)]) _
        refine st19.trans ?_
        show Go p e below T19 (mkF m 169 #[iv p1, iv p2, iv p3, iv 0, iv (p1 &&& (2147483647 : Int32)), iv (p2 &&& (2147483647 : Int32)), iv mj, iv mn, rv b5, rv w_MINOR, rv c12, iv 1] [(.int mj)]) _
        refine XS.iload X19.here hx rfl (hb hby at_169) rfl ?_
        show Go p e below T19 (mkF m 171 #[iv p1, iv p2, iv p3, iv 0, iv (p1 &&& (2147483647 : Int32)), iv (p2 &&& (2147483647 : Int32)), iv mj, iv mn, rv b5, rv w_MINOR, rv c12, iv 1] [(.int mj), (.int mj)]) _
        refine XS.icmpNo X19.here hx rfl (hb hby at_171) rfl (teq (rfl : mj = mj)).2 ?_
        show Go p e below T19 (mkF m 174 #[iv p1, iv p2, iv p3, iv 0, iv (p1 &&& (2147483647 : Int32)), iv (p2 &&& (2147483647 : Int32)), iv mj, iv mn, rv b5, rv w_MINOR, rv c12, iv 1] []) _
        refine XS.aload X19.here hx rfl (hb hby at_174) rfl rfl ?_
        show Go p e below T19 (mkF m 176 #[iv p1, iv p2, iv p3, iv 0, iv (p1 &&& (2147483647 : Int32)), iv (p2 &&& (2147483647 : Int32)), iv mj, iv mn, rv b5, rv w_MINOR, rv c12, iv 1] [(.ref c12)]) _
        refine st20.trans ?_
        show Go p e below T20 (mkF m 179 #[iv p1, iv p2, iv p3, iv 0, iv (p1 &&& (2147483647 : Int32)), iv (p2 &&& (2147483647 : Int32)), iv mj, iv mn, rv b5, rv w_MINOR, rv c12, iv 1] [(.int (mn + (1 : Int32)))]) _
        refine XS.iload X20.here hx rfl (hb hby at_179) rfl ?_
        show Go p e below T20 (mkF m 181 #[iv p1, iv p2, iv p3, iv 0, iv (p1 &&& (2147483647 : Int32)), iv (p2 &&& (2147483647 : Int32)), iv mj, iv mn, rv b5, rv w_MINOR, rv c12, iv 1] [(.int mn), (.int (mn + (1 : Int32)))]) _
        refine XS.iconst X20.here hx rfl (hb hby at_181) ?_
        show Go p e below T20 (mkF m 182 #[iv p1, iv p2, iv p3, iv 0, iv (p1 &&& (2147483647 : Int32)), iv (p2 &&& (2147483647 : Int32)), iv mj, iv mn, rv b5, rv w_MINOR, rv c12, iv 1] [(.int 1), (.int mn), (.int (mn + (1 : Int32)))]) _
        refine XS.iadd X20.here hx rfl (hb hby at_182) rfl ?_
        show Go p e below T20 (mkF m 183 #[iv p1, iv p2, iv p3, iv 0, iv (p1 &&& (2147483647 : Int32)), iv (p2 &&& (2147483647 : Int32)), iv mj, iv mn, rv b5, rv w_MINOR, rv c12, iv 1] [(.int (mn + (1 : Int32))), (.int (mn + (1 : Int32)))]) _
        refine XS.icmpNo X20.here hx rfl (hb hby at_183) rfl (teq (rfl : (mn + (1 : Int32)) = (mn + (1 : Int32)))).2 ?_
        show Go p e below T20 (mkF m 186 #[iv p1, iv p2, iv p3, iv 0, iv (p1 &&& (2147483647 : Int32)), iv (p2 &&& (2147483647 : Int32)), iv mj, iv mn, rv b5, rv w_MINOR, rv c12, iv 1] []) _
        refine XS.iconst X20.here hx rfl (hb hby at_186) ?_
        show Go p e below T20 (mkF m 187 #[iv p1, iv p2, iv p3, iv 0, iv (p1 &&& (2147483647 : Int32)), iv (p2 &&& (2147483647 : Int32)), iv mj, iv mn, rv b5, rv w_MINOR, rv c12, iv 1] [(.int 1)]) _
        refine XS.goto X20.here hx rfl (pc0 := 187) (pc' := 191) rfl (hb hby at_187) (by decide) (by decide) ?_
        show Go p e below T20 (mkF m 191 #[iv p1, iv p2, iv p3, iv 0, iv (p1 &&& (2147483647 : Int32)), iv (p2 &&& (2147483647 : Int32)), iv mj, iv mn, rv b5, rv w_MINOR, rv c12, iv 1] [(.int 1)]) _
        exact kt)
    obtain ⟨fs, hr, hrun, hended, hW, hsame⟩ := X20.leave (v := some (.int 1)) (fun h => by rw [Bd.returns] at h; cases h)
    refine ⟨_, _, pre21 _ ?_, hrun, hended, _, _, rfl, ?_, ⟨_, rfl⟩, hW, hsame.mono (by decide) (by decide)⟩
    · show Steps p.tables e below (T20.setTop (mkF m 191 #[iv p1, iv p2, iv p3, iv 0, iv (p1 &&& (2147483647 : Int32)), iv (p2 &&& (2147483647 : Int32)), iv mj, iv mn, rv b5, rv w_MINOR, rv c12, iv 1] [(.int 1)])) _
      exact retN X20 hx (t := .boolean) Bd.returns (by simp) (hb hby at_191) hr
    · show Q_rmL Z p1 p2 p3 am km w_MAJOR w_MINOR h0 n0 _ T20.heap _
      rw [e20q]
      exact ⟨rfl, N20⟩
  · have hmj := own_mj p1 2147483646 2147483646 (by decide) (by decide) (by decide)
    have hmn := own_m0 p2
    obtain ⟨mj, e_mj⟩ : ∃ z : Int32, z = ((1 : Int32) + ((p1 &&& (2147483647 : Int32)) % (2147483646 : Int32))) := ⟨_, rfl⟩
    have pre22 : ∀ t_, Go p e below s₁ (mkF m 60 #[iv p1, iv p2, iv p3, iv 1, iv (p1 &&& (2147483647 : Int32)), iv (p2 &&& (2147483647 : Int32)), iv mj, iv (p2 &&& (2147483647 : Int32)), .unset, .unset, .unset, .unset] []) t_ → Go p e below s₁ (entryFrame m #[(.int p1), (.int p2), (.int p3)] maxLocals) t_ := fun t_ kt => pre1 _ (by
        subst e_mj
        show Go p e below s₁ (mkF m 3 #[iv p1, iv p2, iv p3, .unset, .unset, .unset, .unset, .unset, .unset, .unset, .unset, .unset] [(.int (p3 &&& (1 : Int32)))]) _
        refine XS.ifNo X0.here hx rfl (hb hby at_3) rfl ((if0 _ _).trans (feq hc3_2).1) ?_
        show Go p e below s₁ (mkF m 6 #[iv p1, iv p2, iv p3, .unset, .unset, .unset, .unset, .unset, .unset, .unset, .unset, .unset] []) _
        refine XS.iconst X0.here hx rfl (hb hby at_6) ?_
        show Go p e below s₁ (mkF m 7 #[iv p1, iv p2, iv p3, .unset, .unset, .unset, .unset, .unset, .unset, .unset, .unset, .unset] [(.int 1)]) _
        refine XS.goto X0.here hx rfl (pc0 := 7) (pc' := 11) rfl (hb hby at_7) (by decide) (by decide) ?_
        show Go p e below s₁ (mkF m 11 #[iv p1, iv p2, iv p3, .unset, .unset, .unset, .unset, .unset, .unset, .unset, .unset, .unset] [(.int 1)]) _
        refine XS.istoreN X0.here hx rfl (hb hby at_11) rfl (l' := #[iv p1, iv p2, iv p3, iv 1, .unset, .unset, .unset, .unset, .unset, .unset, .unset, .unset]) rfl ?_
        show Go p e below s₁ (mkF m 12 #[iv p1, iv p2, iv p3, iv 1, .unset, .unset, .unset, .unset, .unset, .unset, .unset, .unset] []) _
        refine XS.iloadN X0.here hx rfl (hb hby at_12) rfl ?_
        show Go p e below s₁ (mkF m 13 #[iv p1, iv p2, iv p3, iv 1, .unset, .unset, .unset, .unset, .unset, .unset, .unset, .unset] [(.int p1)]) _
        refine X0.ldcInt hx hown (mvT hZ (hwi hw 0 rfl)) (g := (mkF m 13 #[iv p1, iv p2, iv p3, iv 1, .unset, .unset, .unset, .unset, .unset, .unset, .unset, .unset] [(.int p1)])) rfl (hb hby at_13) _ ?_
        show Go p e below s₁ (mkF m 15 #[iv p1, iv p2, iv p3, iv 1, .unset, .unset, .unset, .unset, .unset, .unset, .unset, .unset] [(.int 2147483647), (.int p1)]) _
        refine XS.iand X0.here hx rfl (hb hby at_15) rfl ?_
        show Go p e below s₁ (mkF m 16 #[iv p1, iv p2, iv p3, iv 1, .unset, .unset, .unset, .unset, .unset, .unset, .unset, .unset] [(.int (p1 &&& (2147483647 : Int32)))]) _
        refine XS.istore X0.here hx rfl (hb hby at_16) rfl (l' := #[iv p1, iv p2, iv p3, iv 1, iv (p1 &&& (2147483647 : Int32)), .unset, .unset, .unset, .unset, .unset, .unset, .unset]) rfl ?_
        show Go p e below s₁ (mkF m 18 #[iv p1, iv p2, iv p3, iv 1, iv (p1 &&& (2147483647 : Int32)), .unset, .unset, .unset, .unset, .unset, .unset, .unset] []) _
        refine XS.iloadN X0.here hx rfl (hb hby at_18) rfl ?_
        show Go p e below s₁ (mkF m 19 #[iv p1, iv p2, iv p3, iv 1, iv (p1 &&& (2147483647 : Int32)), .unset, .unset, .unset, .unset, .unset, .unset, .unset] [(.int p2)]) _
        refine X0.ldcInt hx hown (mvT hZ (hwi hw 0 rfl)) (g := (mkF m 19 #[iv p1, iv p2, iv p3, iv 1, iv (p1 &&& (2147483647 : Int32)), .unset, .unset, .unset, .unset, .unset, .unset, .unset] [(.int p2)])) rfl (hb hby at_19) _ ?_
        show Go p e below s₁ (mkF m 21 #[iv p1, iv p2, iv p3, iv 1, iv (p1 &&& (2147483647 : Int32)), .unset, .unset, .unset, .unset, .unset, .unset, .unset] [(.int 2147483647), (.int p2)]) _
        refine XS.iand X0.here hx rfl (hb hby at_21) rfl ?_
        show Go p e below s₁ (mkF m 22 #[iv p1, iv p2, iv p3, iv 1, iv (p1 &&& (2147483647 : Int32)), .unset, .unset, .unset, .unset, .unset, .unset, .unset] [(.int (p2 &&& (2147483647 : Int32)))]) _
        refine XS.istore X0.here hx rfl (hb hby at_22) rfl (l' := #[iv p1, iv p2, iv p3, iv 1, iv (p1 &&& (2147483647 : Int32)), iv (p2 &&& (2147483647 : Int32)), .unset, .unset, .unset, .unset, .unset, .unset]) rfl ?_
        show Go p e below s₁ (mkF m 24 #[iv p1, iv p2, iv p3, iv 1, iv (p1 &&& (2147483647 : Int32)), iv (p2 &&& (2147483647 : Int32)), .unset, .unset, .unset, .unset, .unset, .unset] []) _
        refine XS.iloadN X0.here hx rfl (hb hby at_24) rfl ?_
        show Go p e below s₁ (mkF m 25 #[iv p1, iv p2, iv p3, iv 1, iv (p1 &&& (2147483647 : Int32)), iv (p2 &&& (2147483647 : Int32)), .unset, .unset, .unset, .unset, .unset, .unset] [(.int 1)]) _
        refine XS.ifNo X0.here hx rfl (hb hby at_25) rfl ((if0 _ _).trans (feq ((by decide) : ¬ ((1 : Int32) = (0 : Int32)))).1) ?_
        show Go p e below s₁ (mkF m 28 #[iv p1, iv p2, iv p3, iv 1, iv (p1 &&& (2147483647 : Int32)), iv (p2 &&& (2147483647 : Int32)), .unset, .unset, .unset, .unset, .unset, .unset] []) _
        refine XS.iconst X0.here hx rfl (hb hby at_28) ?_
        show Go p e below s₁ (mkF m 29 #[iv p1, iv p2, iv p3, iv 1, iv (p1 &&& (2147483647 : Int32)), iv (p2 &&& (2147483647 : Int32)), .unset, .unset, .unset, .unset, .unset, .unset] [(.int 1)]) _
        refine XS.iload X0.here hx rfl (hb hby at_29) rfl ?_
        show Go p e below s₁ (mkF m 31 #[iv p1, iv p2, iv p3, iv 1, iv (p1 &&& (2147483647 : Int32)), iv (p2 &&& (2147483647 : Int32)), .unset, .unset, .unset, .unset, .unset, .unset] [(.int (p1 &&& (2147483647 : Int32))), (.int 1)]) _
        refine X0.ldcInt hx hown (mvT hZ (hwi hw 55 rfl)) (g := (mkF m 31 #[iv p1, iv p2, iv p3, iv 1, iv (p1 &&& (2147483647 : Int32)), iv (p2 &&& (2147483647 : Int32)), .unset, .unset, .unset, .unset, .unset, .unset] [(.int (p1 &&& (2147483647 : Int32))), (.int 1)])) rfl (hb hby at_31) _ ?_
        show Go p e below s₁ (mkF m 33 #[iv p1, iv p2, iv p3, iv 1, iv (p1 &&& (2147483647 : Int32)), iv (p2 &&& (2147483647 : Int32)), .unset, .unset, .unset, .unset, .unset, .unset] [(.int 2147483646), (.int (p1 &&& (2147483647 : Int32))), (.int 1)]) _
        refine iremM X0 hx rfl (hb hby at_33) rfl (by decide) ?_
        show Go p e below s₁ (mkF m 34 #[iv p1, iv p2, iv p3, iv 1, iv (p1 &&& (2147483647 : Int32)), iv (p2 &&& (2147483647 : Int32)), .unset, .unset, .unset, .unset, .unset, .unset] [(.int ((p1 &&& (2147483647 : Int32)) % (2147483646 : Int32))), (.int 1)]) _
        refine XS.iadd X0.here hx rfl (hb hby at_34) rfl ?_
        show Go p e below s₁ (mkF m 35 #[iv p1, iv p2, iv p3, iv 1, iv (p1 &&& (2147483647 : Int32)), iv (p2 &&& (2147483647 : Int32)), .unset, .unset, .unset, .unset, .unset, .unset] [(.int ((1 : Int32) + ((p1 &&& (2147483647 : Int32)) % (2147483646 : Int32))))]) _
        refine XS.istore X0.here hx rfl (hb hby at_35) rfl (l' := #[iv p1, iv p2, iv p3, iv 1, iv (p1 &&& (2147483647 : Int32)), iv (p2 &&& (2147483647 : Int32)), iv ((1 : Int32) + ((p1 &&& (2147483647 : Int32)) % (2147483646 : Int32))), .unset, .unset, .unset, .unset, .unset]) rfl ?_
        show Go p e below s₁ (mkF m 37 #[iv p1, iv p2, iv p3, iv 1, iv (p1 &&& (2147483647 : Int32)), iv (p2 &&& (2147483647 : Int32)), iv ((1 : Int32) + ((p1 &&& (2147483647 : Int32)) % (2147483646 : Int32))), .unset, .unset, .unset, .unset, .unset] []) _
        refine XS.iload X0.here hx rfl (hb hby at_37) rfl ?_
        show Go p e below s₁ (mkF m 39 #[iv p1, iv p2, iv p3, iv 1, iv (p1 &&& (2147483647 : Int32)), iv (p2 &&& (2147483647 : Int32)), iv ((1 : Int32) + ((p1 &&& (2147483647 : Int32)) % (2147483646 : Int32))), .unset, .unset, .unset, .unset, .unset] [(.int (p2 &&& (2147483647 : Int32)))]) _
        refine XS.istore X0.here hx rfl (hb hby at_39) rfl (l' := #[iv p1, iv p2, iv p3, iv 1, iv (p1 &&& (2147483647 : Int32)), iv (p2 &&& (2147483647 : Int32)), iv ((1 : Int32) + ((p1 &&& (2147483647 : Int32)) % (2147483646 : Int32))), iv (p2 &&& (2147483647 : Int32)), .unset, .unset, .unset, .unset]) rfl ?_
        show Go p e below s₁ (mkF m 41 #[iv p1, iv p2, iv p3, iv 1, iv (p1 &&& (2147483647 : Int32)), iv (p2 &&& (2147483647 : Int32)), iv ((1 : Int32) + ((p1 &&& (2147483647 : Int32)) % (2147483646 : Int32))), iv (p2 &&& (2147483647 : Int32)), .unset, .unset, .unset, .unset] []) _
        refine XS.goto X0.here hx rfl (pc0 := 41) (pc' := 60) rfl (hb hby at_41) (by decide) (by decide) ?_
        show Go p e below s₁ (mkF m 60 #[iv p1, iv p2, iv p3, iv 1, iv (p1 &&& (2147483647 : Int32)), iv (p2 &&& (2147483647 : Int32)), iv ((1 : Int32) + ((p1 &&& (2147483647 : Int32)) % (2147483646 : Int32))), iv (p2 &&& (2147483647 : Int32)), .unset, .unset, .unset, .unset] []) _
        exact kt)
    rw [← e_mj] at hmj
    obtain ⟨mn, e_mn⟩ : ∃ z : Int32, z = (p2 &&& (2147483647 : Int32)) := ⟨_, rfl⟩
    have pre23 : ∀ t_, Go p e below s₁ (mkF m 60 #[iv p1, iv p2, iv p3, iv 1, iv (p1 &&& (2147483647 : Int32)), iv (p2 &&& (2147483647 : Int32)), iv mj, iv mn, .unset, .unset, .unset, .unset] []) t_ → Go p e below s₁ (entryFrame m #[(.int p1), (.int p2), (.int p3)] maxLocals) t_ := fun t_ kt => pre22 _ (by
        subst e_mn
        exact kt)
    rw [← e_mn] at hmn
    obtain ⟨T24, h24, X24, e24, E24, A24, D24, -, st24⟩ := newO X0 hx hZ hown (hwi hw 1 rfl) (hwi hw 2 rfl) (hwi hw 3 rfl) e0 (g := (mkF m 60 #[iv p1, iv p2, iv p3, iv 1, iv (p1 &&& (2147483647 : Int32)), iv (p2 &&& (2147483647 : Int32)), iv mj, iv mn, .unset, .unset, .unset, .unset] [])) rfl (hb hby at_60) (by decide) (by decide)
    obtain ⟨b24, g24⟩ : ∃ z, z = h0.size := ⟨_, rfl⟩
    rw [← g24] at A24 D24 st24
    have sz_b24 : h0.size ≤ b24 := Nat.le_trans (Keep.refl h0 []).1 (Nat.le_of_eq g24.symm)
    have g_b24 : n0 ≤ b24 := Nat.le_trans Z0 sz_b24
    have K24 : Keep h0 h24 [] := (Keep.refl h0 []).ext E24
    have F_major_b24 : Fld Z h24 b24 "com/example/archstave/archstave/core/node/VersionLabel" "major" "I" (.int 0) := D24 (Or.inr (hwi hw 16 rfl)) (ty := .int) (by decide)
    have F_minor_b24 : Fld Z h24 b24 "com/example/archstave/archstave/core/node/VersionLabel" "minor" "I" (.int 0) := D24 (Or.inr (hwi hw 18 rfl)) (ty := .int) (by decide)
    obtain ⟨_, _, ⟨T25, L25, k25, n25⟩, -, X25, ⟨Lc25, hQ25, l25, y25, z25⟩, st25⟩ := X24.specialBack hx (y := (⟨"com/example/archstave/archstave/core/node/VersionLabel", "<init>", "(II)V"⟩ : MethodName)) rfl hown (mvT hZ (hwi hw 4 rfl)) (mvT hZ (hwi hw 5 rfl)) (mvT hZ (hwi hw 6 rfl)) (by decide) (backOf (W := 1) (rmI l Z a0 hw [] b24 mj mn h24 n0 (Nat.le_trans Z0 K24.1) A24 g_b24 F_major_b24 F_minor_b24 (own_ge 1 (by decide) hmj.1) (own_ge 0 (by decide) hmn)) hZ (hwi hw 6 rfl) (hwi hw 3 rfl) (by decide) (by decide)) (g := (mkF m 68 #[iv p1, iv p2, iv p3, iv 1, iv (p1 &&& (2147483647 : Int32)), iv (p2 &&& (2147483647 : Int32)), iv mj, iv mn, .unset, .unset, .unset, .unset] [(.int mn), (.int mj), (.ref b24), (.ref b24)])) rfl (by rw [hml]; rfl) (Steps.refl _) (a := b24) (argsL := [(.int mj), (.int mn)]) (rest := [(.ref b24)]) (lenOf pd_0 rfl) rfl (by show 2 * 0 + _ ≤ _; exact Nat.le_of_eq rfl) (hb hby at_68) (fun _ _ => ⟨rfl, e24, (by decide : 1 + 0 ≤ _), (by decide : 2 + 0 ≤ _)⟩)
    dsimp only [Pt.U, Pt.locs, Pt.cells, Pt.slots] at X25 l25 y25 z25 st25 hQ25
    subst l25 y25 z25
    obtain ⟨rfl, N25q, kc25, -, Fc25_0, Fc25_1⟩ := hQ25
    have N25 := Fr.app N0 N25q
    have f26 := A24.keep kc25
    have K29 : Keep h0 T25.heap [] := K24.trans kc25 (allS (Or.inr sz_b24) all0)
    obtain ⟨T30, X30, e30, st30⟩ := getS2 X25 hx hZ hown (host := "") (Or.inl (hwi hw 56 rfl)) Via.refl rfl (S_MAJOR.ext (own_ext K29)) (g := (mkF m 77 #[iv p1, iv p2, iv p3, iv 1, iv (p1 &&& (2147483647 : Int32)), iv (p2 &&& (2147483647 : Int32)), iv mj, iv mn, rv b24, .unset, .unset, .unset] [])) rfl (hb hby at_77)
    obtain ⟨cq31, kq31, q31a, q31b, q31c⟩ := isOf hZ e30 f26
    obtain ⟨_, _, ⟨T31, L31, k31, n31⟩, -, X31, ⟨Lc31, hQ31, l31, y31, z31⟩, st31⟩ := X30.virtualBack hx (y := (⟨"com/example/archstave/archstave/core/node/VersionLabel", "next", "(Lcom/example/archstave/archstave/core/node/VersionType;)Lcom/example/archstave/archstave/core/node/VersionLabel;"⟩ : MethodName)) (z := (⟨"com/example/archstave/archstave/core/node/VersionLabel", "next", "(Lcom/example/archstave/archstave/core/node/VersionType;)Lcom/example/archstave/archstave/core/node/VersionLabel;"⟩ : MethodName)) hown (mvT hZ (hwi hw 22 rfl)) (mvT hZ (hwi hw 23 rfl)) (notFace_of_selects (args := #[]) (mvT hZ (hwi hw 25 rfl))) (mvT hZ (hwi hw 25 rfl)) (mvT hZ (hwi hw 24 rfl)) (by decide) (backOf (W := 0) (rmX0 l Z a0 hw [] b24 w_MAJOR mj mn am km T25.heap n0 (Nat.le_trans Z0 K29.1) f26 Fc25_0 Fc25_1 (E_MAJOR.ext (own_ext K29)) (F_MAJOR.ext (own_ext K29)) (hS.ext (own_ext K29)) (hV.ext (own_ext K29)) (own_ok (by omega) (by omega)) (own_ge 1 (by decide) (by rw [own_add1 (by omega) (by omega)]; omega)) (by decide)) hZ (hwi hw 26 rfl) (hwi hw 3 rfl) (by decide) (by decide)) q31a q31c (g := (mkF m 92 #[iv p1, iv p2, iv p3, iv 1, iv (p1 &&& (2147483647 : Int32)), iv (p2 &&& (2147483647 : Int32)), iv mj, iv mn, rv b24, rv w_MAJOR, .unset, .unset] [(.ref w_MAJOR), (.ref b24)])) rfl (by rw [hml]; rfl) (Steps.refl _) (argsL := [(.ref w_MAJOR)]) (rest := []) (lenOf pd_2 rfl) rfl (by show 2 * 0 + _ ≤ _; exact Nat.le_of_eq rfl) (hb hby at_92) (fun _ _ => ⟨rfl, e30, (by decide : 1 + 1 ≤ _), (by decide : 2 + 2 ≤ _)⟩)
    dsimp only [Pt.U, Pt.locs, Pt.cells, Pt.slots] at X31 l31 y31 z31 st31 hQ31
    subst l31 y31 z31
    obtain ⟨c31, rfl, N31q, kc31, Ec31, Fc31_0, Fc31_1⟩ := hQ31
    have N31 := Fr.app N25 N31q
    have f32 := f26.keep kc31
    have f33 := Fc25_0.keep kc31 nin0
    have f34 := Fc25_1.keep kc31 nin0
    have K35 : Keep h0 T31.heap [] := K29.trans kc31 all0
    obtain ⟨cq36, kq36, q36a, q36b, q36c⟩ := isOf hZ rfl f32
    obtain ⟨_, _, ⟨T36, L36, k36, n36⟩, -, X36, ⟨Lc36, hQ36, l36, y36, z36⟩, st36⟩ := X31.virtualBack hx (y := (⟨"com/example/archstave/archstave/core/node/VersionLabel", "major", "()I"⟩ : MethodName)) (z := (⟨"com/example/archstave/archstave/core/node/VersionLabel", "major", "()I"⟩ : MethodName)) hown (mvT hZ (hwi hw 45 rfl)) (mvT hZ (hwi hw 46 rfl)) (notFace_of_selects (args := #[]) (mvT hZ (hwi hw 48 rfl))) (mvT hZ (hwi hw 48 rfl)) (mvT hZ (hwi hw 47 rfl)) (by decide) (backOf (W := 0) (rmGmajor l Z a0 hw [] b24 mj T31.heap n0 (Nat.le_trans Z0 K35.1) f33) hZ (hwi hw 49 rfl) (hwi hw 3 rfl) (by decide) (by decide)) q36a q36c (g := (mkF m 99 #[iv p1, iv p2, iv p3, iv 1, iv (p1 &&& (2147483647 : Int32)), iv (p2 &&& (2147483647 : Int32)), iv mj, iv mn, rv b24, rv w_MAJOR, rv c31, .unset] [(.ref b24)])) rfl (by rw [hml]; rfl) (Steps.refl _) (argsL := []) (rest := []) (lenOf pd_3 rfl) rfl (by show 2 * 0 + _ ≤ _; exact Nat.le_of_eq rfl) (hb hby at_99) (fun _ _ => ⟨rfl, rfl, (by decide : 2 + 0 ≤ _), (by decide : 4 + 0 ≤ _)⟩)
    dsimp only [Pt.U, Pt.locs, Pt.cells, Pt.slots] at X36 l36 y36 z36 st36 hQ36
    subst l36 y36 z36
    obtain ⟨rfl, N36q, e36q⟩ := hQ36
    have N36 := Fr.app N31 N36q
    obtain ⟨cq37, kq37, q37a, q37b, q37c⟩ := isOf hZ e36q f32
    obtain ⟨_, _, ⟨T37, L37, k37, n37⟩, -, X37, ⟨Lc37, hQ37, l37, y37, z37⟩, st37⟩ := X36.virtualBack hx (y := (⟨"com/example/archstave/archstave/core/node/VersionLabel", "minor", "()I"⟩ : MethodName)) (z := (⟨"com/example/archstave/archstave/core/node/VersionLabel", "minor", "()I"⟩ : MethodName)) hown (mvT hZ (hwi hw 50 rfl)) (mvT hZ (hwi hw 51 rfl)) (notFace_of_selects (args := #[]) (mvT hZ (hwi hw 53 rfl))) (mvT hZ (hwi hw 53 rfl)) (mvT hZ (hwi hw 52 rfl)) (by decide) (backOf (W := 0) (rmGminor l Z a0 hw [] b24 mn T31.heap n0 (Nat.le_trans Z0 K35.1) f34) hZ (hwi hw 54 rfl) (hwi hw 3 rfl) (by decide) (by decide)) q37a q37c (g := (mkF m 109 #[iv p1, iv p2, iv p3, iv 1, iv (p1 &&& (2147483647 : Int32)), iv (p2 &&& (2147483647 : Int32)), iv mj, iv mn, rv b24, rv w_MAJOR, rv c31, .unset] [(.ref b24)])) rfl (by rw [hml]; rfl) (Steps.refl _) (argsL := []) (rest := []) (lenOf pd_3 rfl) rfl (by show 2 * 0 + _ ≤ _; exact Nat.le_of_eq rfl) (hb hby at_109) (fun _ _ => ⟨rfl, e36q, (by decide : 2 + 0 ≤ _), (by decide : 4 + 0 ≤ _)⟩)
    dsimp only [Pt.U, Pt.locs, Pt.cells, Pt.slots] at X37 l37 y37 z37 st37 hQ37
    subst l37 y37 z37
    obtain ⟨rfl, N37q, e37q⟩ := hQ37
    have N37 := Fr.app N36 N37q
    obtain ⟨cq38, kq38, q38a, q38b, q38c⟩ := isOf hZ e37q Ec31
    obtain ⟨_, _, ⟨T38, L38, k38, n38⟩, -, X38, ⟨Lc38, hQ38, l38, y38, z38⟩, st38⟩ := X37.virtualBack hx (y := (⟨"com/example/archstave/archstave/core/node/VersionLabel", "major", "()I"⟩ : MethodName)) (z := (⟨"com/example/archstave/archstave/core/node/VersionLabel", "major", "()I"⟩ : MethodName)) hown (mvT hZ (hwi hw 45 rfl)) (mvT hZ (hwi hw 46 rfl)) (notFace_of_selects (args := #[]) (mvT hZ (hwi hw 48 rfl))) (mvT hZ (hwi hw 48 rfl)) (mvT hZ (hwi hw 47 rfl)) (by decide) (backOf (W := 0) (rmGmajor l Z a0 hw [] c31 (mj + (1 : Int32)) T31.heap n0 (Nat.le_trans Z0 K35.1) Fc31_0) hZ (hwi hw 49 rfl) (hwi hw 3 rfl) (by decide) (by decide)) q38a q38c (g := (mkF m 135 #[iv p1, iv p2, iv p3, iv 1, iv (p1 &&& (2147483647 : Int32)), iv (p2 &&& (2147483647 : Int32)), iv mj, iv mn, rv b24, rv w_MAJOR, rv c31, iv 1] [(.ref c31)])) rfl (by rw [hml]; rfl) (Steps.refl _) (argsL := []) (rest := []) (lenOf pd_3 rfl) rfl (by show 2 * 0 + _ ≤ _; exact Nat.le_of_eq rfl) (hb hby at_135) (fun _ _ => ⟨rfl, e37q, (by decide : 2 + 0 ≤ _), (by decide : 4 + 0 ≤ _)⟩)
    dsimp only [Pt.U, Pt.locs, Pt.cells, Pt.slots] at X38 l38 y38 z38 st38 hQ38
    subst l38 y38 z38
    obtain ⟨rfl, N38q, e38q⟩ := hQ38
    have N38 := Fr.app N37 N38q
    obtain ⟨cq39, kq39, q39a, q39b, q39c⟩ := isOf hZ e38q Ec31
    obtain ⟨_, _, ⟨T39, L39, k39, n39⟩, -, X39, ⟨Lc39, hQ39, l39, y39, z39⟩, st39⟩ := X38.virtualBack hx (y := (⟨"com/example/archstave/archstave/core/node/VersionLabel", "minor", "()I"⟩ : MethodName)) (z := (⟨"com/example/archstave/archstave/core/node/VersionLabel", "minor", "()I"⟩ : MethodName)) hown (mvT hZ (hwi hw 50 rfl)) (mvT hZ (hwi hw 51 rfl)) (notFace_of_selects (args := #[]) (mvT hZ (hwi hw 53 rfl))) (mvT hZ (hwi hw 53 rfl)) (mvT hZ (hwi hw 52 rfl)) (by decide) (backOf (W := 0) (rmGminor l Z a0 hw [] c31 (0 : Int32) T31.heap n0 (Nat.le_trans Z0 K35.1) Fc31_1) hZ (hwi hw 54 rfl) (hwi hw 3 rfl) (by decide) (by decide)) q39a q39c (g := (mkF m 147 #[iv p1, iv p2, iv p3, iv 1, iv (p1 &&& (2147483647 : Int32)), iv (p2 &&& (2147483647 : Int32)), iv mj, iv mn, rv b24, rv w_MAJOR, rv c31, iv 1] [(.ref c31)])) rfl (by rw [hml]; rfl) (Steps.refl _) (argsL := []) (rest := []) (lenOf pd_3 rfl) rfl (by show 2 * 0 + _ ≤ _; exact Nat.le_of_eq rfl) (hb hby at_147) (fun _ _ => ⟨rfl, e38q, (by decide : 2 + 0 ≤ _), (by decide : 4 + 0 ≤ _)⟩)
    dsimp only [Pt.U, Pt.locs, Pt.cells, Pt.slots] at X39 l39 y39 z39 st39 hQ39
    subst l39 y39 z39
    obtain ⟨rfl, N39q, e39q⟩ := hQ39
    have N39 := Fr.app N38 N39q
    have pre40 : ∀ t_, Go p e below T39 (mkF m 158 #[iv p1, iv p2, iv p3, iv 1, iv (p1 &&& (2147483647 : Int32)), iv (p2 &&& (2147483647 : Int32)), iv mj, iv mn, rv b24, rv w_MAJOR, rv c31, iv 1] [(.int 1)]) t_ → Go p e below s₁ (entryFrame m #[(.int p1), (.int p2), (.int p3)] maxLocals) t_ := fun t_ kt => pre23 _ (by
        show Go p e below s₁ (mkF m 60 #[iv p1, iv p2, iv p3, iv 1, iv (p1 &&& (2147483647 : Int32)), iv (p2 &&& (2147483647 : Int32)), iv mj, iv mn, .unset, .unset, .unset, .unset] []) _
        refine st24 _ ?_
        show Go p e below T24 (mkF m 63 #[iv p1, iv p2, iv p3, iv 1, iv (p1 &&& (2147483647 : Int32)), iv (p2 &&& (2147483647 : Int32)), iv mj, iv mn, .unset, .unset, .unset, .unset] [(.ref b24)]) _
        refine XS.dup X24.here hx rfl (hb hby at_63) rfl rfl ?_
        show Go p e below T24 (mkF m 64 #[iv p1, iv p2, iv p3, iv 1, iv (p1 &&& (2147483647 : Int32)), iv (p2 &&& (2147483647 : Int32)), iv mj, iv mn, .unset, .unset, .unset, .unset] [(.ref b24), (.ref b24)]) _
        refine XS.iload X24.here hx rfl (hb hby at_64) rfl ?_
        show Go p e below T24 (mkF m 66 #[iv p1, iv p2, iv p3, iv 1, iv (p1 &&& (2147483647 : Int32)), iv (p2 &&& (2147483647 : Int32)), iv mj, iv mn, .unset, .unset, .unset, .unset] [(.int mj), (.ref b24), (.ref b24)]) _
        refine XS.iload X24.here hx rfl (hb hby at_66) rfl ?_
        show Go p e below T24 (mkF m 68 #[iv p1, iv p2, iv p3, iv 1, iv (p1 &&& (2147483647 : Int32)), iv (p2 &&& (2147483647 : Int32)), iv mj, iv mn, .unset, .unset, .unset, .unset] [(.int mn), (.int mj), (.ref b24), (.ref b24)]) _
        refine st25.trans ?_
        show Go p e below T25 (mkF m 71 #[iv p1, iv p2, iv p3, iv 1, iv (p1 &&& (2147483647 : Int32)), iv (p2 &&& (2147483647 : Int32)), iv mj, iv mn, .unset, .unset, .unset, .unset] [(.ref b24)]) _
        refine XS.astore X25.here hx rfl (hb hby at_71) rfl rfl (l' := #[iv p1, iv p2, iv p3, iv 1, iv (p1 &&& (2147483647 : Int32)), iv (p2 &&& (2147483647 : Int32)), iv mj, iv mn, rv b24, .unset, .unset, .unset]) rfl ?_
        show Go p e below T25 (mkF m 73 #[iv p1, iv p2, iv p3, iv 1, iv (p1 &&& (2147483647 : Int32)), iv (p2 &&& (2147483647 : Int32)), iv mj, iv mn, rv b24, .unset, .unset, .unset] []) _
        refine XS.iloadN X25.here hx rfl (hb hby at_73) rfl ?_
        show Go p e below T25 (mkF m 74 #[iv p1, iv p2, iv p3, iv 1, iv (p1 &&& (2147483647 : Int32)), iv (p2 &&& (2147483647 : Int32)), iv mj, iv mn, rv b24, .unset, .unset, .unset] [(.int 1)]) _
        refine XS.ifNo X25.here hx rfl (hb hby at_74) rfl ((if0 _ _).trans (feq ((by decide) : ¬ ((1 : Int32) = (0 : Int32)))).1) ?_
        show Go p e below T25 (mkF m 77 #[iv p1, iv p2, iv p3, iv 1, iv (p1 &&& (2147483647 : Int32)), iv (p2 &&& (2147483647 : Int32)), iv mj, iv mn, rv b24, .unset, .unset, .unset] []) _
        refine st30 _ ?_
        show Go p e below T30 (mkF m 80 #[iv p1, iv p2, iv p3, iv 1, iv (p1 &&& (2147483647 : Int32)), iv (p2 &&& (2147483647 : Int32)), iv mj, iv mn, rv b24, .unset, .unset, .unset] [(.ref w_MAJOR)]) _
        refine XS.goto X30.here hx rfl (pc0 := 80) (pc' := 86) rfl (hb hby at_80) (by decide) (by decide) ?_
        show Go p e below T30 (mkF m 86 #[iv p1, iv p2, iv p3, iv 1, iv (p1 &&& (2147483647 : Int32)), iv (p2 &&& (2147483647 : Int32)), iv mj, iv mn, rv b24, .unset, .unset, .unset] [(.ref w_MAJOR)]) _
        refine XS.astore X30.here hx rfl (hb hby at_86) rfl rfl (l' := #[iv p1, iv p2, iv p3, iv 1, iv (p1 &&& (2147483647 : Int32)), iv (p2 &&& (2147483647 : Int32)), iv mj, iv mn, rv b24, rv w_MAJOR, .unset, .unset]) rfl ?_
        show Go p e below T30 (mkF m 88 #[iv p1, iv p2, iv p3, iv 1, iv (p1 &&& (2147483647 : Int32)), iv (p2 &&& (2147483647 : Int32)), iv mj, iv mn, rv b24, rv w_MAJOR, .unset, .unset] []) _
        refine XS.aload X30.here hx rfl (hb hby at_88) rfl rfl ?_
        show Go p e below T30 (mkF m 90 #[iv p1, iv p2, iv p3, iv 1, iv (p1 &&& (2147483647 : Int32)), iv (p2 &&& (2147483647 : Int32)), iv mj, iv mn, rv b24, rv w_MAJOR, .unset, .unset] [(.ref b24)]) _
        refine XS.aload X30.here hx rfl (hb hby at_90) rfl rfl ?_
        show Go p e below T30 (mkF m 92 #[iv p1, iv p2, iv p3, iv 1, iv (p1 &&& (2147483647 : Int32)), iv (p2 &&& (2147483647 : Int32)), iv mj, iv mn, rv b24, rv w_MAJOR, .unset, .unset] [(.ref w_MAJOR), (.ref b24)]) _
        refine st31.trans ?_
        show Go p e below T31 (mkF m 95 #[iv p1, iv p2, iv p3, iv 1, iv (p1 &&& (2147483647 : Int32)), iv (p2 &&& (2147483647 : Int32)), iv mj, iv mn, rv b24, rv w_MAJOR, .unset, .unset] [(.ref c31)]) _
        refine XS.astore X31.here hx rfl (hb hby at_95) rfl rfl (l' := #[iv p1, iv p2, iv p3, iv 1, iv (p1 &&& (2147483647 : Int32)), iv (p2 &&& (2147483647 : Int32)), iv mj, iv mn, rv b24, rv w_MAJOR, rv c31, .unset]) rfl ?_
        show Go p e below T31 (mkF m 97 #[iv p1, iv p2, iv p3, iv 1, iv (p1 &&& (2147483647 : Int32)), iv (p2 &&& (2147483647 : Int32)), iv mj, iv mn, rv b24, rv w_MAJOR, rv c31, .unset] []) _
        refine XS.aload X31.here hx rfl (hb hby at_97) rfl rfl ?_
        show Go p e below T31 (mkF m 99 #[iv p1, iv p2, iv p3, iv 1, iv (p1 &&& (2147483647 : Int32)), iv (p2 &&& (2147483647 : Int32)), iv mj, iv mn, rv b24, rv w_MAJOR, rv c31, .unset] [(.ref b24)]) _
        refine st36.trans ?_
        show Go p e below T36 (mkF m 102 #[iv p1, iv p2, iv p3, iv 1, iv (p1 &&& (2147483647 : Int32)), iv (p2 &&& (2147483647 : Int32)), iv mj, iv mn, rv b24, rv w_MAJOR, rv c31, .unset] [(.int mj)]) _
        refine XS.iload X36.here hx rfl (hb hby at_102) rfl ?_
        show Go p e below T36 (mkF m 104 #[iv p1, iv p2, iv p3, iv 1, iv (p1 &&& (2147483647 : Int32)), iv (p2 &&& (2147483647 : Int32)), iv mj, iv mn, rv b24, rv w_MAJOR, rv c31, .unset] [(.int mj), (.int mj)]) _
        refine XS.icmpNo X36.here hx rfl (hb hby at_104) rfl (teq (rfl : mj = mj)).2 ?_
        show Go p e below T36 (mkF m 107 #[iv p1, iv p2, iv p3, iv 1, iv (p1 &&& (2147483647 : Int32)), iv (p2 &&& (2147483647 : Int32)), iv mj, iv mn, rv b24, rv w_MAJOR, rv c31, .unset] []) _
        refine XS.aload X36.here hx rfl (hb hby at_107) rfl rfl ?_
        show Go p e below T36 (mkF m 109 #[iv p1, iv p2, iv p3, iv 1, iv (p1 &&& (2147483647 : Int32)), iv (p2 &&& (2147483647 : Int32)), iv mj, iv mn, rv b24, rv w_MAJOR, rv c31, .unset] [(.ref b24)]) _
        refine st37.trans ?_
        show Go p e below T37 (mkF m 112 #[iv p1, iv p2, iv p3, iv 1, iv (p1 &&& (2147483647 : Int32)), iv (p2 &&& (2147483647 : Int32)), iv mj, iv mn, rv b24, rv w_MAJOR, rv c31, .unset] [(.int mn)]) _
        refine XS.iload X37.here hx rfl (hb hby at_112) rfl ?_
        show Go p e below T37 (mkF m 114 #[iv p1, iv p2, iv p3, iv 1, iv (p1 &&& (2147483647 : Int32)), iv (p2 &&& (2147483647 : Int32)), iv mj, iv mn, rv b24, rv w_MAJOR, rv c31, .unset] [(.int mn), (.int mn)]) _
        refine XS.icmpNo X37.here hx rfl (hb hby at_114) rfl (teq (rfl : mn = mn)).2 ?_
        show Go p e below T37 (mkF m 117 #[iv p1, iv p2, iv p3, iv 1, iv (p1 &&& (2147483647 : Int32)), iv (p2 &&& (2147483647 : Int32)), iv mj, iv mn, rv b24, rv w_MAJOR, rv c31, .unset] []) _
        refine XS.iconst X37.here hx rfl (hb hby at_117) ?_
        show Go p e below T37 (mkF m 118 #[iv p1, iv p2, iv p3, iv 1, iv (p1 &&& (2147483647 : Int32)), iv (p2 &&& (2147483647 : Int32)), iv mj, iv mn, rv b24, rv w_MAJOR, rv c31, .unset] [(.int 1)]) _
        refine XS.goto X37.here hx rfl (pc0 := 118) (pc' := 122) rfl (hb hby at_118) (by decide) (by decide) ?_
        show Go p e below T37 (mkF m 122 #[iv p1, iv p2, iv p3, iv 1, iv (p1 &&& (2147483647 : Int32)), iv (p2 &&& (2147483647 : Int32)), iv mj, iv mn, rv b24, rv w_MAJOR, rv c31, .unset] [(.int 1)]) _
        refine XS.istore X37.here hx rfl (hb hby at_122) rfl (l' := #[iv p1, iv p2, iv p3, iv 1, iv (p1 &&& (2147483647 : Int32)), iv (p2 &&& (2147483647 : Int32)), iv mj, iv mn, rv b24, rv w_MAJOR, rv c31, iv 1]) rfl ?_
        show Go p e below T37 (mkF m 124 #[iv p1, iv p2, iv p3, iv 1, iv (p1 &&& (2147483647 : Int32)), iv (p2 &&& (2147483647 : Int32)), iv mj, iv mn, rv b24, rv w_MAJOR, rv c31, iv 1] []) _
        refine XS.iloadN X37.here hx rfl (hb hby at_124) rfl ?_
        show Go p e below T37 (mkF m 125 #[iv p1, iv p2, iv p3, iv 1, iv (p1 &&& (2147483647 : Int32)), iv (p2 &&& (2147483647 : Int32)), iv mj, iv mn, rv b24, rv w_MAJOR, rv c31, iv 1] [(.int 1)]) _
        refine XS.ifNo X37.here hx rfl (hb hby at_125) rfl ((if0 _ _).trans (feq ((by decide) : ¬ ((1 : Int32) = (0 : Int32)))).1) ?_
        show Go p e below T37 (mkF m 128 #[iv p1, iv p2, iv p3, iv 1, iv (p1 &&& (2147483647 : Int32)), iv (p2 &&& (2147483647 : Int32)), iv mj, iv mn, rv b24, rv w_MAJOR, rv c31, iv 1] []) _
        refine XS.iload X37.here hx rfl (hb hby at_128) rfl ?_
        show Go p e below T37 (mkF m 130 #[iv p1, iv p2, iv p3, iv 1, iv (p1 &&& (2147483647 : Int32)), iv (p2 &&& (2147483647 : Int32)), iv mj, iv mn, rv b24, rv w_MAJOR, rv c31, iv 1] [(.int 1)]) _
        refine XS.ifNo X37.here hx rfl (hb hby at_130) rfl ((if0 _ _).trans (feq ((by decide) : ¬ ((1 : Int32) = (0 : Int32)))).1) ?_
        show Go p e below T37 (mkF m 133 #[iv p1, iv p2, iv p3, iv 1, iv (p1 &&& (2147483647 : Int32)), iv (p2 &&& (2147483647 : Int32)), iv mj, iv mn, rv b24, rv w_MAJOR, rv c31, iv 1] []) _
        refine XS.aload X37.here hx rfl (hb hby at_133) rfl rfl ?_
        show Go p e below T37 (mkF m 135 #[iv p1, iv p2, iv p3, iv 1, iv (p1 &&& (2147483647 : Int32)), iv (p2 &&& (2147483647 : Int32)), iv mj, iv mn, rv b24, rv w_MAJOR, rv c31, iv 1] [(.ref c31)]) _
        refine st38.trans ?_
        show Go p e below T38 (mkF m 138 #[iv p1, iv p2, iv p3, iv 1, iv (p1 &&& (2147483647 : Int32)), iv (p2 &&& (2147483647 : Int32)), iv mj, iv mn, rv b24, rv w_MAJOR, rv c31, iv 1] [(.int (mj + (1 : Int32)))]) _
        refine XS.iload X38.here hx rfl (hb hby at_138) rfl ?_
        show Go p e below T38 (mkF m 140 #[iv p1, iv p2, iv p3, iv 1, iv (p1 &&& (2147483647 : Int32)), iv (p2 &&& (2147483647 : Int32)), iv mj, iv mn, rv b24, rv w_MAJOR, rv c31, iv 1] [(.int mj), (.int (mj + (1 : Int32)))]) _
        refine XS.iconst X38.here hx rfl (hb hby at_140) ?_
        show Go p e below T38 (mkF m 141 #[iv p1, iv p2, iv p3, iv 1, iv (p1 &&& (2147483647 : Int32)), iv (p2 &&& (2147483647 : Int32)), iv mj, iv mn, rv b24, rv w_MAJOR, rv c31, iv 1] [(.int 1), (.int mj), (.int (mj + (1 : Int32)))]) _
        refine XS.iadd X38.here hx rfl (hb hby at_141) rfl ?_
        show Go p e below T38 (mkF m 142 #[iv p1, iv p2, iv p3, iv 1, iv (p1 &&& (2147483647 : Int32)), iv (p2 &&& (2147483647 : Int32)), iv mj, iv mn, rv b24, rv w_MAJOR, rv c31, iv 1] [(.int (mj + (1 : Int32))), (.int (mj + (1 : Int32)))]) _
        refine XS.icmpNo X38.here hx rfl (hb hby at_142) rfl (teq (rfl : (mj + (1 : Int32)) = (mj + (1 : Int32)))).2 ?_
        show Go p e below T38 (mkF m 145 #[iv p1, iv p2, iv p3, iv 1, iv (p1 &&& (2147483647 : Int32)), iv (p2 &&& (2147483647 : Int32)), iv mj, iv mn, rv b24, rv w_MAJOR, rv c31, iv 1] []) _
        refine XS.aload X38.here hx rfl (hb hby at_145) rfl rfl ?_
        show Go p e below T38 (mkF m 147 #[iv p1, iv p2, iv p3, iv 1, iv (p1 &&& (2147483647 : Int32)), iv (p2 &&& (2147483647 : Int32)), iv mj, iv mn, rv b24, rv w_MAJOR, rv c31, iv 1] [(.ref c31)]) _
        refine st39.trans ?_
        show Go p e below T39 (mkF m 150 #[iv p1, iv p2, iv p3, iv 1, iv (p1 &&& (2147483647 : Int32)), iv (p2 &&& (2147483647 : Int32)), iv mj, iv mn, rv b24, rv w_MAJOR, rv c31, iv 1] [(.int 0)]) _
        refine XS.ifNo X39.here hx rfl (hb hby at_150) rfl ((if0 _ _).trans (teq ((by decide) : (0 : Int32) = (0 : Int32))).2) ?_
        show Go p e below T39 (mkF m 153 #[iv p1, iv p2, iv p3, iv 1, iv (p1 &&& (2147483647 : Int32)), iv (p2 &&& (2147483647 : Int32)), iv mj, iv mn, rv b24, rv w_MAJOR, rv c31, iv 1] []) _
        refine XS.iconst X39.here hx rfl (hb hby at_153) ?_
        show Go p e below T39 (mkF m 154 #[iv p1, iv p2, iv p3, iv 1, iv (p1 &&& (2147483647 : Int32)), iv (p2 &&& (2147483647 : Int32)), iv mj, iv mn, rv b24, rv w_MAJOR, rv c31, iv 1] [(.int 1)]) _
        refine XS.goto X39.here hx rfl (pc0 := 154) (pc' := 158) rfl (hb hby at_154) (by decide) (by decide) ?_
        show Go p e below T39 (mkF m 158 #[iv p1, iv p2, iv p3, iv 1, iv (p1 &&& (2147483647 : Int32)), iv (p2 &&& (2147483647 : Int32)), iv mj, iv mn, rv b24, rv w_MAJOR, rv c31, iv 1] [(.int 1)]) _
        exact kt)
    obtain ⟨fs, hr, hrun, hended, hW, hsame⟩ := X39.leave (v := some (.int 1)) (fun h => by rw [Bd.returns] at h; cases h)
    refine ⟨_, _, pre40 _ ?_, hrun, hended, _, _, rfl, ?_, ⟨_, rfl⟩, hW, hsame.mono (by decide) (by decide)⟩
    · show Steps p.tables e below (T39.setTop (mkF m 158 #[iv p1, iv p2, iv p3, iv 1, iv (p1 &&& (2147483647 : Int32)), iv (p2 &&& (2147483647 : Int32)), iv mj, iv mn, rv b24, rv w_MAJOR, rv c31, iv 1] [(.int 1)])) _
      exact retN X39 hx (t := .boolean) Bd.returns (by simp) (hb hby at_158) hr
    · show Q_rmL Z p1 p2 p3 am km w_MAJOR w_MINOR h0 n0 _ T39.heap _
      rw [e39q]
      exact ⟨rfl, N39⟩
set_option maxRecDepth 65536 in
set_option maxHeartbeats 40000000 in
theorem comes_1 {Post : Tables → Env → Array Value → State → Outcome → State → Prop} (hpost : ∀ tb e args s v u, (limb_1_1.after args s (.returned v) u = true ∧ limb_1_2.after args s (.returned v) u = true ∧ True) → FrameEnd s (.returned v) u (Jvm.fieldLocs frame_1_writes args s ++ Jvm.arrayLocs frame_1_arrays args s ++ Jvm.staticLocs frame_1_statics s) 16 128 → Post tb e args s (.returned v) u) :
    ArmFor flags0 classFile x code maxLocals ret World_1 tables_1 room_1 Calls_1 rest_1 Pre_1 Post := by
  intro l hfl _ _ p e ha hc hk s m args below hf hA hF happ hP
  obtain ⟨hcalls, hrest, hpre⟩ := hP
  obtain ⟨-, -, -, hnamed, -, -, -, hat⟩ := (Spec.applies_iff hf).mp happ
  obtain ⟨hg, hn⟩ := and_e (Cond.before_iff.mp (show (Jvm.Cond.and given_1 narrow_1).before args s = true from hpre))
  obtain ⟨g1, g2⟩ := and_e hg
  obtain ⟨g3, g4⟩ := and_e g2
  obtain ⟨g5, g6⟩ := and_e g4
  obtain ⟨w0, w1, w2, rfl⟩ : ∃ w0 w1 w2 : Value, args = #[w0, w1, w2] := by
    have hs : args.size = 3 := by simpa [Cond.value, given_1] using g1
    obtain ⟨L⟩ := args
    match L, hs with
    | [w0, w1, w2], _ => exact ⟨w0, w1, w2, rfl⟩
  have hw := fun d (hd : d ∈ tables_1) => atoms_spec (ws := Jvm.Cond.code x code maxLocals ret :: tables_1) hat d (List.mem_cons_of_mem _ hd)
  have hfit : Fit s := fun {y c} hc i hi => by
    obtain ⟨ha, rfl⟩ := Array.getElem?_eq_some_iff.mp hc
    have q := List.all_eq_true.mp ((Array.all_eq_true_iff_forall_mem.mp hF) _ (Array.getElem_mem ha)) i (List.mem_range.mpr hi)
    simpa [Array.getElem?_eq_getElem hi] using q
  obtain ⟨i0, ei0⟩ := is_v g3
  obtain rfl : w0 = (.int i0) := Option.some.inj ei0
  obtain ⟨i1, ei1⟩ := is_v g5
  obtain rfl : w1 = (.int i1) := Option.some.inj ei1
  obtain ⟨i2, ei2⟩ := is_v g6
  obtain rfl : w2 = (.int i2) := Option.some.inj ei2
  obtain ⟨g7, g8⟩ := and_e hn
  obtain ⟨g9, g10⟩ := and_e g8
  obtain ⟨g11, g12⟩ := and_e g10
  obtain ⟨g13, g14⟩ := and_e g12
  obtain ⟨g15, g16⟩ := and_e g14
  obtain ⟨g17, g18⟩ := and_e g16
  obtain ⟨g19, g20⟩ := and_e g18
  obtain ⟨w_MINOR, ev_MINOR⟩ := exa_v g7
  have E_MINOR : Exa s s.heap w_MINOR "com/example/archstave/archstave/core/node/VersionType" := Exa.start ev_MINOR g7
  have S_MINOR : Sta s s.heap "com/example/archstave/archstave/core/node/VersionType" "MINOR" "Lcom/example/archstave/archstave/core/node/VersionType;" (.ref w_MINOR) := Sta.start ev_MINOR (Or.inr ⟨(hwi hw 20 rfl), (hwi hw 21 rfl)⟩)
  obtain ⟨w_MAJOR, ev_MAJOR⟩ := exa_v g17
  have E_MAJOR : Exa s s.heap w_MAJOR "com/example/archstave/archstave/core/node/VersionType" := Exa.start ev_MAJOR g17
  have S_MAJOR : Sta s s.heap "com/example/archstave/archstave/core/node/VersionType" "MAJOR" "Lcom/example/archstave/archstave/core/node/VersionType;" (.ref w_MAJOR) := Sta.start ev_MAJOR (Or.inr ⟨(hwi hw 20 rfl), (hwi hw 57 rfl)⟩)
  have F_MINOR : Fld s s.heap w_MINOR "java/lang/Enum" "ordinal" "I" (.int (1 : Int32)) := Fld.start ((fld_at ev_MINOR).symm.trans (eqv_i (Term.int_eval _) g13))
  have F_MAJOR : Fld s s.heap w_MAJOR "java/lang/Enum" "ordinal" "I" (.int (0 : Int32)) := Fld.start ((fld_at ev_MAJOR).symm.trans (eqv_i (Term.int_eval _) g19))
  obtain ⟨wA, evA⟩ := arr_v g9
  obtain ⟨cl, Ar⟩ := Arr.start evA g9
  have hS : Sta s s.heap "com/example/archstave/archstave/core/node/VersionLabel$1" "$SwitchMap$com$example$archstave$archstave$core$node$VersionType" "[I" (.ref wA) := Sta.start evA (Or.inr ⟨(hwi hw 28 rfl), (hwi hw 29 rfl)⟩)
  have hat0 : s.arrayAt? wA = some cl := IntBox.arrayAt_of Ar.1 Ar.2.1 Ar.2.2
  have hlen := own_len evA hat0 (eqv_i (Term.int_eval _) g11)
  have hV : Arv s s.heap wA cl.cls .int (2 : Int32) [(.int (1 : Int32)), (.int (2 : Int32))] (.int (0 : Int32)) := Arv.start hfit Ar hlen.1 hlen.2 (by decide) rfl ⟨(elem_in (eqv_i (Term.int_eval _) g20) evA (Term.int_eval (0)) Ar.1).2, (elem_in (eqv_i (Term.int_eval _) g15) evA (Term.int_eval (1)) Ar.1).2, trivial⟩
  obtain ⟨n, o, h1, h2, h3, _, L, rfl, ⟨rfl, N⟩, hq⟩ := rmL l s _ hw tables_1 i0 i1 i2 wA cl.cls w_MAJOR w_MINOR s.heap s.heap.size (Nat.le_refl _) ⟨⟨S_MAJOR, E_MAJOR, F_MAJOR⟩, ⟨S_MINOR, E_MINOR, F_MINOR⟩⟩ hS hV p e ha hc hk s m _ below hf ((Spec.applies_iff_loose hf).mp happ).1 ⟨rfl, State.Warmed39.refl s, rfl⟩ trivial
  refine ⟨n, _, h1, h2, h3, hpost _ _ _ _ _ _ ⟨Cond.after_iff.mpr rfl, Cond.after_iff.mpr (eq_i res_at (Term.int_eval (1)) rfl), trivial⟩ ⟨hq.1, hq.2.1, (hq.2.2.sift fun y hy => Or.inr (N y hy)).mono (by decide) (by decide)⟩⟩
theorem main_1_1 : Claimed_1_1 := comes_1 fun _ _ _ _ _ _ h hF => ⟨h.1, hF⟩
theorem main_1_2 : Claimed_1_2 := comes_1 fun _ _ _ _ _ _ h hF => ⟨h.2.1, hF⟩
end Jvm.Pilot.@@N@@
namespace Jvm.Pilot.@@N@@
open Jvm Jvm.ClassFile Sem Op Lib Jvm.Free Jvm.Stand Jvm.Pilot.@@N@@.Jvm.D
/-! MADE BY PROGRAM (witnessworld.py) out of the Statement's table words and the real class files: 16 classes; the members and pool entries that the words name. The judged class is class 1, her method 1. -/
namespace start1
open Jvm.ClassFile
def u (s : String) : CpInfo := .utf8 (stringToUtf16 s)
/-- a pool by its gaps: so many unusable entries, then the entry; so many at the end -/
def gap : Nat → List CpInfo → List CpInfo
  | 0, r => r
  | n + 1, r => .unusable :: gap n r
def poolList (es : List (Nat × CpInfo)) (last : Nat) : List CpInfo := es.foldr (fun e r => gap e.1 (e.2 :: r)) (gap last [])
def pool (es : List (Nat × CpInfo)) (last : Nat) : Array CpInfo := ⟨poolList es last⟩
def fileOf (pool : Array CpInfo) (this : Nat) (attrs : Array Attribute := #[]) (ms : Array MethodInfo := #[]) (fl : Nat := 33) (sup : Nat := 0) (ifs : Array Nat := #[]) (fds : Array FieldInfo := #[]) : ClassFile where
  minorVersion := 0
  majorVersion := 65
  constantPool := pool
  accessFlags := fl
  thisClass := this
  superClass := sup
  interfaces := ifs
  fields := fds
  methods := ms
  attributes := attrs
def plain (name : String) (sup : Option ClassId) : Class where
  name := name
  kind := .ordinary
  loader := none
  accessFlags := 33
  super := sup
  interfaces := #[]
  cf := none
  fields := #[]
  methods := #[]
  instanceTypes := #[]
  staticTypes := #[]
  resolved := #[]
  callSites := []
  init := .initialized
  statics := none
  mirror := none

def pool0 : Array CpInfo := pool [(5, u "<init>"), (0, u "()V"), (1, .class_ 10), (1, u "java/lang/Object")] 113

def k0c0 : Code := { maxStack := 0, maxLocals := 1, code := object_method_1_code, exceptionTable := #[], attributes := #[] }
def k0m0 : Method := { name := "<init>", desc := "()V", sig := { parameters := [], returnType := none }, accessFlags := 1, code := some k0c0 }
/-- java/lang/Object -/
def k0 : Class := { plain "java/lang/Object" none with
  accessFlags := 33
  interfaces := #[]
  cf := some (fileOf pool0 8 #[] #[{ accessFlags := 1, nameIndex := 5, descriptorIndex := 6, attributes := #[] }] 33 0 #[] #[])
  fields := #[]
  methods := #[k0m0]
  instanceTypes := #[]
  staticTypes := #[]
  resolved := Array.replicate 124 none
  statics := none }

def pool1 : Array CpInfo := pool [(2, .class_ 4), (1, u "java/lang/Object"), (0, u "<init>"), (0, u "()V"), (0, .integer 2147483647), (2, .integer 2147483646), (0, .class_ 12), (0, u "com/example/archstave/archstave/core/node/VersionLabel"), (0, .methodref 11 14), (0, .nameAndType 5 15), (0, u "(II)V"), (0, .fieldref 17 18), (0, .class_ 19), (0, .nameAndType 20 21), (0, u "com/example/archstave/archstave/core/node/VersionType"), (0, u "MAJOR"), (0, u "Lcom/example/archstave/archstave/core/node/VersionType;"), (0, .fieldref 17 23), (0, .nameAndType 24 21), (0, u "MINOR"), (0, .methodref 11 26), (0, .nameAndType 27 28), (0, u "next"), (0, u "(Lcom/example/archstave/archstave/core/node/VersionType;)Lcom/example/archstave/archstave/core/node/VersionLabel;"), (0, .methodref 11 30), (0, .nameAndType 31 32), (0, u "major"), (0, u "()I"), (0, .methodref 11 34), (0, .nameAndType 35 32), (0, u "minor"), (0, .class_ 37), (0, u "com/example/archstave/archstave/core/node/VersionLabelNextPinLaw"), (2, u "law"), (0, u "(III)Z")] 3

def k1m0 : Method := { name := "<init>", desc := "()V", sig := { parameters := [], returnType := none }, accessFlags := 1, code := none }
def k1c1 : Code := { maxStack := 4, maxLocals := 12, code := code, exceptionTable := #[], attributes := #[] }
def k1m1 : Method := { name := "law", desc := "(III)Z", sig := { parameters := [.int, .int, .int], returnType := some .boolean }, accessFlags := 9, code := some k1c1 }
/-- com/example/archstave/archstave/core/node/VersionLabelNextPinLaw -/
def k1 : Class := { plain "com/example/archstave/archstave/core/node/VersionLabelNextPinLaw" (some 0) with
  accessFlags := 49
  interfaces := #[]
  cf := some (fileOf pool1 36 #[] #[{ accessFlags := 1, nameIndex := 5, descriptorIndex := 6, attributes := #[] }, { accessFlags := 9, nameIndex := 40, descriptorIndex := 41, attributes := #[] }] 49 2 #[] #[])
  fields := #[]
  methods := #[k1m0, k1m1]
  instanceTypes := #[]
  staticTypes := #[]
  resolved := Array.replicate 45 none
  statics := none }

def pool2 : Array CpInfo := pool [(1, .methodref 2 3), (0, .class_ 4), (0, .nameAndType 5 6), (0, u "java/lang/Object"), (0, u "<init>"), (0, u "()V"), (0, .class_ 8), (0, u "java/lang/Record")] 13

def k2c0 : Code := { maxStack := 1, maxLocals := 1, code := jdk_30_method_1_code, exceptionTable := #[], attributes := #[] }
def k2m0 : Method := { name := "<init>", desc := "()V", sig := { parameters := [], returnType := none }, accessFlags := 4, code := some k2c0 }
/-- java/lang/Record -/
def k2 : Class := { plain "java/lang/Record" (some 0) with
  accessFlags := 1057
  interfaces := #[]
  cf := some (fileOf pool2 7 #[] #[{ accessFlags := 4, nameIndex := 5, descriptorIndex := 6, attributes := #[] }] 1057 2 #[] #[])
  fields := #[]
  methods := #[k2m0]
  instanceTypes := #[]
  staticTypes := #[]
  resolved := Array.replicate 22 none
  statics := none }

def pool3 : Array CpInfo := pool [(1, .methodref 2 3), (0, .class_ 4), (0, .nameAndType 5 6), (0, u "java/lang/Record"), (0, u "<init>"), (0, u "()V"), (9, .fieldref 17 18), (0, .class_ 19), (0, .nameAndType 20 21), (0, u "com/example/archstave/archstave/core/node/VersionLabel"), (0, u "major"), (0, u "I"), (0, .fieldref 17 23), (0, .nameAndType 24 21), (0, u "minor"), (2, u "TEXT"), (0, u "Ljava/util/regex/Pattern;"), (36, .methodref 17 66), (0, .nameAndType 5 67), (0, u "(II)V"), (4, .fieldref 73 74), (0, .class_ 75), (0, .nameAndType 76 77), (0, u "com/example/archstave/archstave/core/node/VersionLabel$1"), (0, u "$SwitchMap$com$example$archstave$archstave$core$node$VersionType"), (0, u "[I"), (0, .methodref 79 80), (0, .class_ 81), (0, .nameAndType 82 83), (0, u "com/example/archstave/archstave/core/node/VersionType"), (0, u "ordinal"), (0, u "()I"), (5, .methodref 90 91), (0, .class_ 92), (0, .nameAndType 93 94), (0, u "java/lang/Math"), (0, u "addExact"), (0, u "(II)I"), (10, u "FIRST"), (0, u "Lcom/example/archstave/archstave/core/node/VersionLabel;"), (14, u "next"), (0, u "(Lcom/example/archstave/archstave/core/node/VersionType;)Lcom/example/archstave/archstave/core/node/VersionLabel;")] 35

def k3c0 : Code := { maxStack := 4, maxLocals := 3, code := prog_85_method_1_code, exceptionTable := #[], attributes := #[] }
def k3m0 : Method := { name := "<init>", desc := "(II)V", sig := { parameters := [.int, .int], returnType := none }, accessFlags := 1, code := some k3c0 }
def k3c1 : Code := { maxStack := 5, maxLocals := 2, code := prog_85_method_3_code, exceptionTable := #[], attributes := #[] }
def k3m1 : Method := { name := "next", desc := "(Lcom/example/archstave/archstave/core/node/VersionType;)Lcom/example/archstave/archstave/core/node/VersionLabel;", sig := { parameters := [(.object "com/example/archstave/archstave/core/node/VersionType")], returnType := some (.object "com/example/archstave/archstave/core/node/VersionLabel") }, accessFlags := 1, code := some k3c1 }
def k3c2 : Code := { maxStack := 1, maxLocals := 1, code := prog_85_method_7_code, exceptionTable := #[], attributes := #[] }
def k3m2 : Method := { name := "major", desc := "()I", sig := { parameters := [], returnType := some .int }, accessFlags := 1, code := some k3c2 }
def k3c3 : Code := { maxStack := 1, maxLocals := 1, code := prog_85_method_8_code, exceptionTable := #[], attributes := #[] }
def k3m3 : Method := { name := "minor", desc := "()I", sig := { parameters := [], returnType := some .int }, accessFlags := 1, code := some k3c3 }
/-- com/example/archstave/archstave/core/node/VersionLabel -/
def k3 : Class := { plain "com/example/archstave/archstave/core/node/VersionLabel" (some 2) with
  accessFlags := 49
  interfaces := #[]
  cf := some (fileOf pool3 17 #[.nestMembers #[73]] #[{ accessFlags := 1, nameIndex := 5, descriptorIndex := 67, attributes := #[] }, { accessFlags := 1, nameIndex := 121, descriptorIndex := 122, attributes := #[] }, { accessFlags := 1, nameIndex := 20, descriptorIndex := 83, attributes := #[] }, { accessFlags := 1, nameIndex := 24, descriptorIndex := 83, attributes := #[] }] 49 2 #[] #[{ accessFlags := 18, nameIndex := 20, descriptorIndex := 21, attributes := #[] }, { accessFlags := 18, nameIndex := 24, descriptorIndex := 21, attributes := #[] }, { accessFlags := 25, nameIndex := 105, descriptorIndex := 106, attributes := #[] }, { accessFlags := 26, nameIndex := 27, descriptorIndex := 28, attributes := #[] }])
  fields := #[{ name := "major", type := .int, accessFlags := 18, slot := 0, constantValue := 0 }, { name := "minor", type := .int, accessFlags := 18, slot := 1, constantValue := 0 }, { name := "FIRST", type := (.object "com/example/archstave/archstave/core/node/VersionLabel"), accessFlags := 25, slot := 0, constantValue := 0 }, { name := "TEXT", type := (.object "java/util/regex/Pattern"), accessFlags := 26, slot := 1, constantValue := 0 }]
  methods := #[k3m0, k3m1, k3m2, k3m3]
  instanceTypes := #[.int, .int]
  staticTypes := #[(.object "com/example/archstave/archstave/core/node/VersionLabel"), (.object "java/util/regex/Pattern")]
  resolved := Array.replicate 158 none
  statics := none }

def pool4 : Array CpInfo := pool [(1, .class_ 2), (0, u "java/lang/constant/Constable"), (0, .class_ 4), (0, u "java/lang/Object")] 6

/-- java/lang/constant/Constable -/
def k4 : Class := { plain "java/lang/constant/Constable" (some 0) with
  accessFlags := 1537
  interfaces := #[]
  cf := some (fileOf pool4 1 #[] #[] 1537 3 #[] #[])
  fields := #[]
  methods := #[]
  instanceTypes := #[]
  staticTypes := #[]
  resolved := Array.replicate 11 none
  statics := none }

def pool5 : Array CpInfo := pool [(1, .class_ 2), (0, u "java/lang/Comparable"), (0, .class_ 4), (0, u "java/lang/Object")] 7

/-- java/lang/Comparable -/
def k5 : Class := { plain "java/lang/Comparable" (some 0) with
  accessFlags := 1537
  interfaces := #[]
  cf := some (fileOf pool5 1 #[] #[] 1537 3 #[] #[])
  fields := #[]
  methods := #[]
  instanceTypes := #[]
  staticTypes := #[]
  resolved := Array.replicate 12 none
  statics := none }

def pool6 : Array CpInfo := pool [(1, .class_ 2), (0, u "java/io/Serializable"), (0, .class_ 4), (0, u "java/lang/Object")] 2

/-- java/io/Serializable -/
def k6 : Class := { plain "java/io/Serializable" (some 0) with
  accessFlags := 1537
  interfaces := #[]
  cf := some (fileOf pool6 1 #[] #[] 1537 3 #[] #[])
  fields := #[]
  methods := #[]
  instanceTypes := #[]
  staticTypes := #[]
  resolved := Array.replicate 7 none
  statics := none }

def pool7 : Array CpInfo := pool [(2, .class_ 4), (1, u "java/lang/Enum"), (0, u "name"), (0, u "Ljava/lang/String;"), (0, .fieldref 2 8), (0, .nameAndType 9 10), (0, u "ordinal"), (0, u "I"), (1, .class_ 14), (1, u "java/lang/Object"), (4, u "hash"), (86, .class_ 108), (1, u "java/lang/Enum$EnumDesc"), (2, .class_ 112), (0, u "java/lang/constant/Constable"), (0, .class_ 114), (0, u "java/lang/Comparable"), (0, .class_ 116), (0, u "java/io/Serializable"), (9, u "()I")] 77

def k7c0 : Code := { maxStack := 1, maxLocals := 1, code := jdk_37_method_2_code, exceptionTable := #[], attributes := #[] }
def k7m0 : Method := { name := "ordinal", desc := "()I", sig := { parameters := [], returnType := some .int }, accessFlags := 17, code := some k7c0 }
/-- java/lang/Enum -/
def k7 : Class := { plain "java/lang/Enum" (some 0) with
  accessFlags := 1057
  interfaces := #[4, 5, 6]
  cf := some (fileOf pool7 2 #[.nestMembers #[106]] #[{ accessFlags := 17, nameIndex := 9, descriptorIndex := 126, attributes := #[] }] 1057 12 #[111, 113, 115] #[{ accessFlags := 18, nameIndex := 5, descriptorIndex := 6, attributes := #[] }, { accessFlags := 18, nameIndex := 9, descriptorIndex := 10, attributes := #[] }, { accessFlags := 2, nameIndex := 19, descriptorIndex := 10, attributes := #[] }])
  fields := #[{ name := "name", type := (.object "java/lang/String"), accessFlags := 18, slot := 0, constantValue := 0 }, { name := "ordinal", type := .int, accessFlags := 18, slot := 1, constantValue := 0 }, { name := "hash", type := .int, accessFlags := 2, slot := 2, constantValue := 0 }]
  methods := #[k7m0]
  instanceTypes := #[(.object "java/lang/String"), .int, .int]
  staticTypes := #[]
  resolved := Array.replicate 204 none
  statics := none }

def pool8 : Array CpInfo := pool [(1, .class_ 2), (0, u "com/example/archstave/archstave/core/node/VersionType"), (2, u "MAJOR"), (0, u "Lcom/example/archstave/archstave/core/node/VersionType;"), (2, u "MINOR"), (2, u "$VALUES"), (0, u "[Lcom/example/archstave/archstave/core/node/VersionType;"), (6, .class_ 22), (1, u "java/lang/Enum")] 24

/-- com/example/archstave/archstave/core/node/VersionType -/
def k8 : Class := { plain "com/example/archstave/archstave/core/node/VersionType" (some 7) with
  accessFlags := 16433
  interfaces := #[]
  cf := some (fileOf pool8 1 #[] #[] 16433 20 #[] #[{ accessFlags := 16409, nameIndex := 5, descriptorIndex := 6, attributes := #[] }, { accessFlags := 16409, nameIndex := 9, descriptorIndex := 6, attributes := #[] }, { accessFlags := 4122, nameIndex := 12, descriptorIndex := 13, attributes := #[] }])
  fields := #[{ name := "MAJOR", type := (.object "com/example/archstave/archstave/core/node/VersionType"), accessFlags := 16409, slot := 0, constantValue := 0 }, { name := "MINOR", type := (.object "com/example/archstave/archstave/core/node/VersionType"), accessFlags := 16409, slot := 1, constantValue := 0 }, { name := "$VALUES", type := (.array (.object "com/example/archstave/archstave/core/node/VersionType")), accessFlags := 4122, slot := 2, constantValue := 0 }]
  methods := #[]
  instanceTypes := #[(.object "java/lang/String"), .int, .int]
  staticTypes := #[(.object "com/example/archstave/archstave/core/node/VersionType"), (.object "com/example/archstave/archstave/core/node/VersionType"), (.array (.object "com/example/archstave/archstave/core/node/VersionType"))]
  resolved := Array.replicate 47 none
  statics := some 0 }

def pool9 : Array CpInfo := pool [(8, .class_ 10), (1, u "com/example/archstave/archstave/core/node/VersionLabel$1"), (0, u "$SwitchMap$com$example$archstave$archstave$core$node$VersionType"), (0, u "[I"), (13, .class_ 27), (0, u "java/lang/Object"), (8, .class_ 37), (0, u "com/example/archstave/archstave/core/node/VersionLabel")] 2

/-- com/example/archstave/archstave/core/node/VersionLabel$1 -/
def k9 : Class := { plain "com/example/archstave/archstave/core/node/VersionLabel$1" (some 0) with
  accessFlags := 4128
  interfaces := #[]
  cf := some (fileOf pool9 8 #[.nestHost 36] #[] 4128 26 #[] #[{ accessFlags := 4120, nameIndex := 11, descriptorIndex := 12, attributes := #[] }])
  fields := #[{ name := "$SwitchMap$com$example$archstave$archstave$core$node$VersionType", type := (.array .int), accessFlags := 4120, slot := 0, constantValue := 0 }]
  methods := #[]
  instanceTypes := #[]
  staticTypes := #[(.array .int)]
  resolved := Array.replicate 40 none
  statics := some 1 }

def pool10 : Array CpInfo := pool [(1, .class_ 2), (0, u "java/lang/Math"), (1, .class_ 6), (1, u "java/lang/Object"), (0, u "<init>"), (0, u "()V"), (89, .class_ 100), (1, u "java/lang/Math$RandomNumberGeneratorHolder"), (71, u "negativeZeroFloatBits"), (0, u "J"), (2, u "negativeZeroDoubleBits"), (68, u "$assertionsDisabled"), (0, u "Z"), (88, u "(II)I"), (2, u "twoToTheDoubleScaleDown"), (0, u "D"), (4, u "twoToTheDoubleScaleUp"), (9, u "E"), (3, u "PI"), (2, u "TAU"), (2, u "DEGREES_TO_RADIANS"), (0, u "RADIANS_TO_DEGREES"), (27, u "addExact")] 66

def k10m0 : Method := { name := "<init>", desc := "()V", sig := { parameters := [], returnType := none }, accessFlags := 2, code := none }
def k10c1 : Code := { maxStack := 3, maxLocals := 3, code := jdk_29_method_24_code, exceptionTable := #[], attributes := #[] }
def k10m1 : Method := { name := "addExact", desc := "(II)I", sig := { parameters := [.int, .int], returnType := some .int }, accessFlags := 9, code := some k10c1 }
/-- java/lang/Math -/
def k10 : Class := { plain "java/lang/Math" (some 0) with
  accessFlags := 49
  interfaces := #[]
  cf := some (fileOf pool10 1 #[.nestMembers #[98]] #[{ accessFlags := 2, nameIndex := 7, descriptorIndex := 8, attributes := #[] }, { accessFlags := 9, nameIndex := 393, descriptorIndex := 335, attributes := #[] }] 49 4 #[] #[{ accessFlags := 25, nameIndex := 354, descriptorIndex := 339, attributes := #[] }, { accessFlags := 25, nameIndex := 358, descriptorIndex := 339, attributes := #[] }, { accessFlags := 25, nameIndex := 361, descriptorIndex := 339, attributes := #[] }, { accessFlags := 26, nameIndex := 364, descriptorIndex := 339, attributes := #[] }, { accessFlags := 26, nameIndex := 365, descriptorIndex := 339, attributes := #[] }, { accessFlags := 26, nameIndex := 172, descriptorIndex := 173, attributes := #[] }, { accessFlags := 26, nameIndex := 176, descriptorIndex := 173, attributes := #[] }, { accessFlags := 8, nameIndex := 344, descriptorIndex := 339, attributes := #[] }, { accessFlags := 8, nameIndex := 338, descriptorIndex := 339, attributes := #[] }, { accessFlags := 4120, nameIndex := 245, descriptorIndex := 246, attributes := #[] }])
  fields := #[{ name := "E", type := .double, accessFlags := 25, slot := 0, constantValue := 0 }, { name := "PI", type := .double, accessFlags := 25, slot := 1, constantValue := 0 }, { name := "TAU", type := .double, accessFlags := 25, slot := 2, constantValue := 0 }, { name := "DEGREES_TO_RADIANS", type := .double, accessFlags := 26, slot := 3, constantValue := 0 }, { name := "RADIANS_TO_DEGREES", type := .double, accessFlags := 26, slot := 4, constantValue := 0 }, { name := "negativeZeroFloatBits", type := .long, accessFlags := 26, slot := 5, constantValue := 0 }, { name := "negativeZeroDoubleBits", type := .long, accessFlags := 26, slot := 6, constantValue := 0 }, { name := "twoToTheDoubleScaleUp", type := .double, accessFlags := 8, slot := 7, constantValue := 0 }, { name := "twoToTheDoubleScaleDown", type := .double, accessFlags := 8, slot := 8, constantValue := 0 }, { name := "$assertionsDisabled", type := .boolean, accessFlags := 4120, slot := 9, constantValue := 0 }]
  methods := #[k10m0, k10m1]
  instanceTypes := #[]
  staticTypes := #[.double, .double, .double, .double, .double, .long, .long, .double, .double, .boolean]
  resolved := Array.replicate 460 none
  statics := none }

def pool11 : Array CpInfo := pool [(1, u "java/lang/Cloneable"), (0, .class_ 1), (0, u "java/lang/Object"), (0, .class_ 3)] 3

/-- java/lang/Cloneable -/
def k11 : Class := { plain "java/lang/Cloneable" (some 0) with
  accessFlags := 1537
  interfaces := #[]
  cf := some (fileOf pool11 2 #[] #[] 1537 4 #[] #[])
  fields := #[]
  methods := #[]
  instanceTypes := #[]
  staticTypes := #[]
  resolved := Array.replicate 8 none
  statics := none }

/-- the primitive byte -/
def k12 : Class := { plain "byte" none with kind := .primitive 'B', accessFlags := 0x411 }
/-- [B -/
def k13 : Class := { plain "[B" (some 0) with kind := .array 12 .byte, interfaces := #[11, 6], accessFlags := 1041 }

/-- the primitive int -/
def k14 : Class := { plain "int" none with kind := .primitive 'I', accessFlags := 0x411 }
/-- [I -/
def k15 : Class := { plain "[I" (some 0) with kind := .array 14 .int, interfaces := #[11, 6], accessFlags := 1041 }

def heap : Heap := #[{ cls := 8, slots := #[.ref 2, .ref 3, .null], vm := .statics 8 },
  { cls := 9, slots := #[.ref 4], vm := .statics 9 },
  { cls := 8, slots := #[.null, .int 0, .int 0], vm := .none },
  { cls := 8, slots := #[.null, .int 1, .int 0], vm := .none },
  { cls := 15, slots := #[.int 1, .int 2], vm := .none }]
def classes : Array Class := #[k0, k1, k2, k3, k4, k5, k6, k7, k8, k9, k10, k11, k12, k13, k14, k15]
def interned : List (Array UInt16 × Addr) := []
def slotsUsed : Nat := 12
def theMethod : MethodId := ⟨1, 1⟩
def args0 : Array Value := #[.int 5, .int 5, .int 5]
def aboutOver (below : List Frame) : State where
  vm := { classes := classes, interned := interned.toArray }
  heap := heap
  slotsUsed := slotsUsed
  threads := #[{ frames := .invoking theMethod args0 :: below }]
def below0 : List Frame := [.native { method := ⟨0, 0⟩, args := #[] }]
def about1 : State := aboutOver below0
def p0 : Program := .bare "" "" ""
def e0 : Env := launch0.env 0 0 0
theorem w_frames : about1.frames = Frame.invoking theMethod args0 :: below0 := rfl
set_option maxRecDepth 65536 in
theorem w_args : argsFit about1.vm theMethod args0 = true := by decide +kernel
set_option maxRecDepth 65536 in
theorem w_heap : heapFits about1 = true := by decide +kernel
set_option maxRecDepth 65536 in
theorem w_runnable : about1.curStatus? = some .runnable := by decide +kernel
set_option maxRecDepth 65536 in
theorem w_alone : about1.alone = true := by decide +kernel
set_option maxRecDepth 65536 in
theorem w_named : about1.methodNamed? x = some theMethod := by decide +kernel
set_option maxRecDepth 65536 in
theorem w_hears : about1.hears theMethod below0 = true := by decide +kernel
set_option maxRecDepth 65536 in
theorem w_ripe : about1.ripe theMethod args0 below0 = true := by decide +kernel
theorem w_running : about1.status = .running := rfl
set_option maxRecDepth 65536 in
theorem w_room : about1.hasRoom e0.platform room_1 = true :=
  launch0.hasRoom_least _ room_1 (by decide +kernel) (by decide +kernel) (by decide +kernel) (by decide +kernel) (by decide +kernel) (by decide +kernel)
theorem allAtoms_all (ts : List Jvm.Cond) (a : Array Jvm.Value) (st : Jvm.State) : (allAtoms ts).before a st = ts.all (fun c => c.before a st) := by
  induction ts with
  | nil => rfl
  | cons c t ih =>
    show (Jvm.Cond.and c (allAtoms t)).before a st = _
    rw [Jvm.Cond.before_and, ih, List.all_cons]
def words1 : List Jvm.Cond := Jvm.Cond.code x code maxLocals ret :: tables_1
/-- a 'code' word, met by the world's own term for the bytes: nothing is compared byte by byte -/
theorem code_word {y : MethodName} {bytes : ByteArray} {mx : Nat} {rt : Option FieldType} {a : Array Value} {s : State} {m : MethodId} {meth : Method} {c : Code} (h1 : s.methodNamed? y = some m) (h2 : s.vm.method? m = some meth) (h3 : meth.code = some c) (h4 : c.code = bytes)
    (h5 : (c.maxLocals == mx && c.exceptionTable.isEmpty && decide (c.maxStack ≤ mostOperands) && decide (meth.sig.returnType = rt) && !meth.locks && decide (parseMethodDescriptor y.desc = some meth.sig)) = true) : (Jvm.Cond.code y bytes mx rt).before a s = true := by
  simp only [Bool.and_eq_true, beq_iff_eq, Bool.not_eq_true', decide_eq_true_eq] at h5
  obtain ⟨⟨⟨⟨⟨g1, g2⟩, g3⟩, g4⟩, g5⟩, g6⟩ := h5
  simp [Cond.before, Cond.holds, Cond.value, h1, h2, h3, h4, g1, g2, g3, g4, g5, g6]
def isCode : Jvm.Cond → Bool
  | .code _ _ _ _ => true
  | _ => false
theorem all_split {L : List Jvm.Cond} {P : Jvm.Cond → Bool} (h1 : L.all (fun c => isCode c || P c) = true) (h2 : ∀ c ∈ L.filter isCode, P c = true) : L.all P = true := by
  refine List.all_eq_true.mpr fun c hc => ?_
  have h := List.all_eq_true.mp h1 c hc
  rcases Bool.eq_false_or_eq_true (isCode c) with hi | hi
  · exact h2 c (List.mem_filter.mpr ⟨hc, hi⟩)
  · simpa [hi] using h
set_option maxRecDepth 65536 in
theorem w_c0 : (Jvm.Cond.code x code maxLocals ret).before args0 about1 = true := code_word (m := ⟨1, 1⟩) (meth := k1m1) (c := k1c1) (by decide +kernel) rfl rfl rfl (by decide +kernel)
set_option maxRecDepth 65536 in
theorem w_c1 : (Jvm.Cond.code ({ cls := "com/example/archstave/archstave/core/node/VersionLabel", name := "<init>", desc := "(II)V" } : Jvm.MethodName) prog_85_method_1_code (3 : Nat) (Option.none : Option Jvm.ClassFile.FieldType)).before args0 about1 = true := code_word (m := ⟨3, 0⟩) (meth := k3m0) (c := k3c0) (by decide +kernel) rfl rfl rfl (by decide +kernel)
set_option maxRecDepth 65536 in
theorem w_c2 : (Jvm.Cond.code ({ cls := "java/lang/Record", name := "<init>", desc := "()V" } : Jvm.MethodName) jdk_30_method_1_code (1 : Nat) (Option.none : Option Jvm.ClassFile.FieldType)).before args0 about1 = true := code_word (m := ⟨2, 0⟩) (meth := k2m0) (c := k2c0) (by decide +kernel) rfl rfl rfl (by decide +kernel)
set_option maxRecDepth 65536 in
theorem w_c3 : (Jvm.Cond.code ({ cls := "java/lang/Object", name := "<init>", desc := "()V" } : Jvm.MethodName) object_method_1_code (1 : Nat) (Option.none : Option Jvm.ClassFile.FieldType)).before args0 about1 = true := code_word (m := ⟨0, 0⟩) (meth := k0m0) (c := k0c0) (by decide +kernel) rfl rfl rfl (by decide +kernel)
set_option maxRecDepth 65536 in
theorem w_c4 : (Jvm.Cond.code ({ cls := "com/example/archstave/archstave/core/node/VersionLabel", name := "next", desc := "(Lcom/example/archstave/archstave/core/node/VersionType;)Lcom/example/archstave/archstave/core/node/VersionLabel;" } : Jvm.MethodName) prog_85_method_3_code (2 : Nat) (Option.some (Jvm.ClassFile.FieldType.object "com/example/archstave/archstave/core/node/VersionLabel"))).before args0 about1 = true := code_word (m := ⟨3, 1⟩) (meth := k3m1) (c := k3c1) (by decide +kernel) rfl rfl rfl (by decide +kernel)
set_option maxRecDepth 65536 in
theorem w_c5 : (Jvm.Cond.code ({ cls := "java/lang/Enum", name := "ordinal", desc := "()I" } : Jvm.MethodName) jdk_37_method_2_code (1 : Nat) (Option.some Jvm.ClassFile.FieldType.int)).before args0 about1 = true := code_word (m := ⟨7, 0⟩) (meth := k7m0) (c := k7c0) (by decide +kernel) rfl rfl rfl (by decide +kernel)
set_option maxRecDepth 65536 in
theorem w_c6 : (Jvm.Cond.code ({ cls := "java/lang/Math", name := "addExact", desc := "(II)I" } : Jvm.MethodName) jdk_29_method_24_code (3 : Nat) (Option.some Jvm.ClassFile.FieldType.int)).before args0 about1 = true := code_word (m := ⟨10, 1⟩) (meth := k10m1) (c := k10c1) (by decide +kernel) rfl rfl rfl (by decide +kernel)
set_option maxRecDepth 65536 in
theorem w_c7 : (Jvm.Cond.code ({ cls := "com/example/archstave/archstave/core/node/VersionLabel", name := "major", desc := "()I" } : Jvm.MethodName) prog_85_method_7_code (1 : Nat) (Option.some Jvm.ClassFile.FieldType.int)).before args0 about1 = true := code_word (m := ⟨3, 2⟩) (meth := k3m2) (c := k3c2) (by decide +kernel) rfl rfl rfl (by decide +kernel)
set_option maxRecDepth 65536 in
theorem w_c8 : (Jvm.Cond.code ({ cls := "com/example/archstave/archstave/core/node/VersionLabel", name := "minor", desc := "()I" } : Jvm.MethodName) prog_85_method_8_code (1 : Nat) (Option.some Jvm.ClassFile.FieldType.int)).before args0 about1 = true := code_word (m := ⟨3, 3⟩) (meth := k3m3) (c := k3c3) (by decide +kernel) rfl rfl rfl (by decide +kernel)
def codes1 : List Jvm.Cond := [Jvm.Cond.code x code maxLocals ret, Jvm.Cond.code ({ cls := "com/example/archstave/archstave/core/node/VersionLabel", name := "<init>", desc := "(II)V" } : Jvm.MethodName) prog_85_method_1_code (3 : Nat) (Option.none : Option Jvm.ClassFile.FieldType), Jvm.Cond.code ({ cls := "java/lang/Record", name := "<init>", desc := "()V" } : Jvm.MethodName) jdk_30_method_1_code (1 : Nat) (Option.none : Option Jvm.ClassFile.FieldType), Jvm.Cond.code ({ cls := "java/lang/Object", name := "<init>", desc := "()V" } : Jvm.MethodName) object_method_1_code (1 : Nat) (Option.none : Option Jvm.ClassFile.FieldType), Jvm.Cond.code ({ cls := "com/example/archstave/archstave/core/node/VersionLabel", name := "next", desc := "(Lcom/example/archstave/archstave/core/node/VersionType;)Lcom/example/archstave/archstave/core/node/VersionLabel;" } : Jvm.MethodName) prog_85_method_3_code (2 : Nat) (Option.some (Jvm.ClassFile.FieldType.object "com/example/archstave/archstave/core/node/VersionLabel")), Jvm.Cond.code ({ cls := "java/lang/Enum", name := "ordinal", desc := "()I" } : Jvm.MethodName) jdk_37_method_2_code (1 : Nat) (Option.some Jvm.ClassFile.FieldType.int), Jvm.Cond.code ({ cls := "java/lang/Math", name := "addExact", desc := "(II)I" } : Jvm.MethodName) jdk_29_method_24_code (3 : Nat) (Option.some Jvm.ClassFile.FieldType.int), Jvm.Cond.code ({ cls := "com/example/archstave/archstave/core/node/VersionLabel", name := "major", desc := "()I" } : Jvm.MethodName) prog_85_method_7_code (1 : Nat) (Option.some Jvm.ClassFile.FieldType.int), Jvm.Cond.code ({ cls := "com/example/archstave/archstave/core/node/VersionLabel", name := "minor", desc := "()I" } : Jvm.MethodName) prog_85_method_8_code (1 : Nat) (Option.some Jvm.ClassFile.FieldType.int)]
set_option maxRecDepth 65536 in
theorem codes_eq : words1.filter isCode = codes1 := rfl
theorem w_codes : ∀ c ∈ words1.filter isCode, c.before args0 about1 = true := by
  rw [codes_eq]
  intro c hc
  simp only [codes1, List.mem_cons, List.not_mem_nil, or_false] at hc
  rcases hc with rfl | rfl | rfl | rfl | rfl | rfl | rfl | rfl | rfl
  · exact w_c0
  · exact w_c1
  · exact w_c2
  · exact w_c3
  · exact w_c4
  · exact w_c5
  · exact w_c6
  · exact w_c7
  · exact w_c8
set_option maxRecDepth 65536 in
theorem w_t1 : (words1.take 24).all (fun c => isCode c || c.before args0 about1) = true := by decide +kernel
set_option maxRecDepth 65536 in
theorem w_t2 : ((words1.drop 24).take 24).all (fun c => isCode c || c.before args0 about1) = true := by decide +kernel
set_option maxRecDepth 65536 in
theorem w_t3 : ((words1.drop 24).drop 24).all (fun c => isCode c || c.before args0 about1) = true := by decide +kernel
theorem w_tables : (allAtoms (Jvm.Cond.code x code maxLocals ret :: tables_1)).before args0 about1 = true := by
  rw [allAtoms_all]
  show words1.all (fun c => c.before args0 about1) = true
  refine all_split ?_ w_codes
  rw [← List.take_append_drop 24 words1, List.all_append, w_t1, ← List.take_append_drop 24 (words1.drop 24), List.all_append, w_t2, w_t3]
  rfl
set_option maxRecDepth 65536 in
theorem w_case : (Jvm.Cond.and given_1 narrow_1).before args0 about1 = true := by decide +kernel
theorem w_applies : (headSpec (Jvm.Cond.code x code maxLocals ret :: tables_1) room_1).applies x e0.platform about1 = true :=
  (Spec.applies_iff w_frames).mpr ⟨w_running, w_runnable, w_alone, w_named, w_hears, w_ripe, w_room, w_tables⟩
theorem atStart : AtStart classFile x code maxLocals ret World_1 tables_1 room_1 Calls_1 rest_1 Pre_1 launch0 p0 e0 about1 theMethod args0 below0 :=
  ⟨lists_1, trivial, launch0.admits_env _ _ _, launch0.least_env, fairChoices_fair.cas, fairChoices_fair.clock, w_frames, w_args, w_heap, w_applies, trivial, trivial, w_case⟩
end start1
theorem witness_1 : WitnessClaimed_1 := ⟨start1.p0, start1.e0, start1.about1, start1.theMethod, start1.args0, start1.below0, start1.atStart⟩
end Jvm.Pilot.@@N@@
