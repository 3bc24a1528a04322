import JvmDerived
import JvmDerived.Pilot.@@N@@Statement
import JvmDerived.Pilot.@@N@@Code
set_option linter.unusedVariables false
set_option linter.unusedSimpArgs false
namespace Jvm.RoadKit
open Sem ClassFile Op Lib Jvm.Stand Jvm.Free Jvm.LawKit
section Own
variable {p : Program} {l : Launch} {e : Env} {R : Room} {s : State} {m : MethodId} {args : Array Value} {below : List Frame} {meth : Method} {c : Code} {T T' : State} {locs : List Loc} {cells slots : Nat} {CC SS : Nat} {Q : Option Value → Heap → List Loc → Prop} {g g' : JFrame}
/-- from the frame g over T the run returns, and what it leaves is as Q says -/
def Done (p : Program) (e : Env) (s : State) (below : List Frame) (CC SS : Nat) (Q : Option Value → Heap → List Loc → Prop) (T : State) (g : JFrame) : Prop :=
  ∃ s₂ o, Steps p.tables e below (T.setTop g) s₂ ∧ s₂.status = .running ∧ Ended s₂ below o ∧ ∃ v L, o = .returned v ∧ Q v s₂.heap L ∧ FrameEnd s o s₂ L CC SS
theorem Done.go (st : ∀ t, Steps p.tables e below (T'.setTop g') t → Steps p.tables e below (T.setTop g) t) (k : Done p e s below CC SS Q T' g') : Done p e s below CC SS Q T g := by
  obtain ⟨s2, o, h, r⟩ := k; exact ⟨s2, o, st _ h, r⟩
theorem Done.via (st : Steps p.tables e below (T.setTop g) (T'.setTop g')) (k : Done p e s below CC SS Q T' g') : Done p e s below CC SS Q T g := by
  obtain ⟨s2, o, h, r⟩ := k; exact ⟨s2, o, st.trans h, r⟩
theorem Done.ret (X : Stand p l e R s m args below meth c T locs cells slots) (hlk : meth.locks = false) {v : Option Value} (hv : meth.sig.returnType = none → v = none)
    (st : ∀ fs : List Frame, (∀ (f : JFrame) (acts : List Action), f.method = m → f.locked = none → f.entered = [] → (doReturn e (T.setTop f) acts v).1 = T.setFrames fs) → Steps p.tables e below (T.setTop g) (T.setFrames fs))
    (hq : Q v T.heap locs) (hc : cells ≤ CC) (hs : slots ≤ SS) : Done p e s below CC SS Q T g := by
  obtain ⟨fs, hr, hrun, hended, hW, hsame⟩ := X.leave (v := v) hv hlk
  exact ⟨_, _, st fs hr, hrun, hended, _, _, rfl, hq, ⟨_, rfl⟩, hW, hsame.mono hc hs⟩
theorem Done.retI (X : Stand p l e R s m args below meth c T locs cells slots) (hx : p.tables.exec = Jvm.exec) (hlk : meth.locks = false) {pc : Nat} {Ls : Array Slot} {z : Int32} {rest : List Value} (hret : meth.sig.returnType = some .int) (hd : decode c.code pc = .ok (.ireturn, 1))
    (hq : Q (some (.int z)) T.heap locs) (hc : cells ≤ CC) (hs : slots ≤ SS) : Done p e s below CC SS Q T (mkF m pc Ls (.int z :: rest)) := by
  refine Done.ret X hlk (fun h => by rw [hret] at h; cases h) (fun fs hl => ?_) hq hc hs
  have hm' : T.vm.method? m = some meth := X.method'
  have hn : narrow .int (.int z) = .int z := rfl
  show Steps p.tables e below (T.setTop { method := m, pc := pc, locals := Ls, stack := _ :: rest, locked := none }) _
  jvm_step X.here [X.here.top, hx, hd, hm', hret, hn]
  first | (intro acts; rw [hl _ acts rfl rfl rfl]) | rw [hl _ _ rfl rfl rfl]
  exact Steps.refl _
theorem Done.retJ (X : Stand p l e R s m args below meth c T locs cells slots) (hx : p.tables.exec = Jvm.exec) (hlk : meth.locks = false) {pc : Nat} {Ls : Array Slot} {z : Int64} {rest : List Value} (hret : meth.sig.returnType = some .long) (hd : decode c.code pc = .ok (.lreturn, 1))
    (hq : Q (some (.long z)) T.heap locs) (hc : cells ≤ CC) (hs : slots ≤ SS) : Done p e s below CC SS Q T (mkF m pc Ls (.long z :: rest)) := by
  refine Done.ret X hlk (fun h => by rw [hret] at h; cases h) (fun fs hl => ?_) hq hc hs
  have hm' : T.vm.method? m = some meth := X.method'
  show Steps p.tables e below (T.setTop { method := m, pc := pc, locals := Ls, stack := _ :: rest, locked := none }) _
  jvm_step X.here [X.here.top, hx, hd, hm', hret]
  first | (intro acts; rw [hl _ acts rfl rfl rfl]) | rw [hl _ _ rfl rfl rfl]
  exact Steps.refl _
theorem Done.retR (X : Stand p l e R s m args below meth c T locs cells slots) (hx : p.tables.exec = Jvm.exec) (hlk : meth.locks = false) {pc : Nat} {Ls : Array Slot} {v : Value} {t : FieldType} {rest : List Value} (hret : meth.sig.returnType = some t) (ht : t.isReference = true) (hv : v.isRef = true) (hd : decode c.code pc = .ok (.areturn, 1))
    (hq : Q (some v) T.heap locs) (hc : cells ≤ CC) (hs : slots ≤ SS) : Done p e s below CC SS Q T (mkF m pc Ls (v :: rest)) := by
  refine Done.ret X hlk (fun h => by rw [hret] at h; cases h) (fun fs hl => ?_) hq hc hs
  have hm' : T.vm.method? m = some meth := X.method'
  show Steps p.tables e below (T.setTop { method := m, pc := pc, locals := Ls, stack := _ :: rest, locked := none }) _
  jvm_step X.here [X.here.top, hx, hd, hm', hret, ht, hv]
  first | (intro acts; rw [hl _ acts rfl rfl rfl]) | rw [hl _ _ rfl rfl rfl]
  exact Steps.refl _
theorem Done.retV (X : Stand p l e R s m args below meth c T locs cells slots) (hx : p.tables.exec = Jvm.exec) (hlk : meth.locks = false) {pc : Nat} {Ls : Array Slot} (hret : meth.sig.returnType = none) (hd : decode c.code pc = .ok (.return_, 1))
    (hq : Q none T.heap locs) (hc : cells ≤ CC) (hs : slots ≤ SS) : Done p e s below CC SS Q T (mkF m pc Ls []) :=
  Done.ret X hlk (fun _ => rfl) (fun fs hl => X.returnOut hx hret hd hl) hq hc hs
theorem Done.retN (X : Stand p l e R s m args below meth c T locs cells slots) (hx : p.tables.exec = Jvm.exec) (hlk : meth.locks = false) {pc : Nat} {Ls : Array Slot} {z z' : Int32} {t : FieldType} {rest : List Value} (hret : meth.sig.returnType = some t) (ht : t = .boolean ∨ t = .byte ∨ t = .char ∨ t = .short) (hz : nar t z = z')
    (hd : decode c.code pc = .ok (.ireturn, 1)) (hq : Q (some (.int z')) T.heap locs) (hc : cells ≤ CC) (hs : slots ≤ SS) : Done p e s below CC SS Q T (mkF m pc Ls (.int z :: rest)) := by
  subst hz
  exact Done.ret X hlk (fun h => by rw [hret] at h; cases h) (fun fs hl => Jvm.RoadKit.retN X hx hret ht hd hl) hq hc hs
theorem own_narB (x : Int32) : nar .byte x.toInt8.toInt32 = x.toInt8.toInt32 := by simp [nar]
end Own
end Jvm.RoadKit
namespace Jvm.Pilot.@@N@@
open Jvm Jvm.ClassFile Sem Op Lib Jvm.Free Jvm.Stand Jvm.LawKit Jvm.RoadKit Bundle Jvm.Pilot.@@N@@.Jvm.D
theorem own_asc (a v : Int64) : a + v - a = v := by
  rw [Int64.add_comm, Int64.add_sub_cancel]
theorem own_neg {v : Int64} (h : 0 < v) : ¬ 0 < -v := by
  have h0 : (0 : Int64).toInt = 0 := rfl
  have h1 := v.toInt_lt
  have h2 := v.le_toInt
  rw [Int64.lt_iff_toInt_lt, h0] at h
  rw [Int64.lt_iff_toInt_lt, h0, Int64.toInt_neg, Int.bmod_eq_of_le (by omega) (by omega)]
  omega
theorem own_inv {v : Int64} (h : v < 0) : ¬ (v ^^^ (-1 : Int64)) < 0 := by
  have h0 : (0 : Int64).toInt = 0 := rfl
  rw [Int64.lt_iff_toInt_lt, h0] at h
  rw [Int64.lt_iff_toInt_lt, h0]
  have := (c_xorSL v (-1)).1 h (by decide)
  omega
theorem own_narZ {x : Int32} (h : x = 0 ∨ x = 1) : narrow .boolean (.int x) = .int x := by rcases h with rfl | rfl <;> rfl
theorem own_fitZ {x : Int32} (h : x = 0 ∨ x = 1) : fits .boolean (.int x) = true := by rcases h with rfl | rfl <;> rfl
theorem own_pd0 : parseMethodDescriptor "()V" = some ⟨[], none⟩ := by decide +kernel
theorem own_pd1 : parseMethodDescriptor "(ZJ)V" = some ⟨[.boolean, .long], none⟩ := by decide +kernel
theorem own_pd2 : parseMethodDescriptor "(II)J" = some ⟨[.int, .int], some .long⟩ := by decide +kernel
def Q2 (h0 : Heap) (n0 : Nat) (v : Option Value) (h : Heap) (L : List Loc) : Prop := v = none ∧ Fr n0 L ∧ h = h0
theorem d2_0 : decode jdk_30_method_1_code 0 = .ok (.aload_n 0, 1) := by decide +kernel
theorem d2_1 : decode jdk_30_method_1_code 1 = .ok (.invokespecial 1, 3) := by decide +kernel
theorem d2_4 : decode jdk_30_method_1_code 4 = .ok (.return_, 1) := by decide +kernel
theorem own_pn0 : plainName "java/lang/Record" = true := by first | (simp [plainName, overriddenIn]; done) | decide +kernel
theorem ef_rm2 (m : MethodId) (a1 : Addr) : entryFrame m #[(.ref a1)] 1 = mkF m 0 #[.val (.ref a1)] [] := by first | (simp [entryFrame, mkF, argsToLocals, Value.category]; done) | rfl
set_option maxRecDepth 65536 in
set_option maxHeartbeats 40000000 in
theorem rm2 (l : Launch) (Z : State) (a0 : Array Value) (hw : ∀ d ∈ tables_1, d.before a0 Z = true) (ws : List Jvm.Cond) (a1 : Addr) (h0 : Heap) (n0 : Nat) (Z0 : n0 ≤ h0.size) :
    MetFree l (⟨"java/lang/Record", "<init>", "()V"⟩ : MethodName) (head1 (Jvm.Cond.code (⟨"java/lang/Record", "<init>", "()V"⟩ : MethodName) jdk_30_method_1_code 1 none :: ws) ({ frames := 1, cells := 0, slots := 0, locals := 12 } : Room)) (fun a U => a = #[(.ref a1)] ∧ Z.Warmed39 U.vm ∧ U.heap = h0) (fun _ _ _ _ _ => True) (fun _ U o U' => ∃ v L, o = .returned v ∧ Q2 h0 n0 v U'.heap L ∧ FrameEnd U o U' L 0 0) := by
  refine MetFree.of_bodySF (plainFor_of_name own_pn0) hisR ?_
  intro p e s m args below meth c s₁ Bd hml0 hP hK
  obtain ⟨rfl, hZ, hh⟩ := hP
  have hx := Bd.exec
  have hby := Bd.bytes
  have hml : c.maxLocals = 1 := hml0
  have hown : s.vm.findClass "java/lang/Record" = some m.cls := findClass_of_methodNamed Bd.named
  have hnm := (name_of_methodNamed Bd.named Bd.method).1
  have hlk : meth.locks = false := Bd.notSynchronized
  have hrt := Bd.returns
  have X0 : Stand p l e ({ frames := 1, cells := 0, slots := 0, locals := 12 } : Room) s m #[(.ref a1)] below meth c s₁ [] 0 0 := Stand.of_body Bd
  have e0 : s₁.heap = h0 := by rw [← hh, Bd.state]; rfl
  have N0 := Fr.nil n0
  show Done p e s below 0 0 (Q2 h0 n0) s₁ (entryFrame m #[(.ref a1)] 1)
  rw [ef_rm2]
  show Done p e s below _ _ _ s₁ (mkF m 0 #[.val (.ref a1)] [])
  refine Done.go (fun _ k => XS.aloadN X0.here hx rfl (hb hby d2_0) rfl rfl k) ?_
  show Done p e s below _ _ _ s₁ (mkF m 1 #[.val (.ref a1)] [(.ref a1)])
  obtain ⟨T1, X1, e1, st1⟩ := initO X0 hx hZ hown (hw _ (List.mem_of_getElem? (i := 11) rfl)) (hw _ (List.mem_of_getElem? (i := 12) rfl)) (hw _ (List.mem_of_getElem? (i := 13) rfl)) e0 (g := (mkF m 1 #[.val (.ref a1)] [(.ref a1)])) rfl (by rw [hml]; rfl) rfl (hb hby d2_1) (by decide) (W := 0) (by show 2 * 0 + _ ≤ _; exact Nat.le_of_eq rfl) (by decide)
  refine Done.go st1 ?_
  show Done p e s below _ _ _ T1 (mkF m 4 #[.val (.ref a1)] [])
  refine Done.retV X1 hx hlk hrt (hb hby d2_4) ?_ (by first | decide | omega) (by first | decide | omega)
  rw [e1]
  exact ⟨rfl, N0, rfl⟩
def Q1 (Z : State) (a1 : Addr) (p2 : Int32) (q3 : Int64) (h0 : Heap) (n0 : Nat) (v : Option Value) (h : Heap) (L : List Loc) : Prop := v = none ∧ Fr n0 L ∧ Keep h0 h [a1] ∧ Exa Z h a1 "com/example/scholium/scholium/model/Cursor" ∧ Fld Z h a1 "com/example/scholium/scholium/model/Cursor" "endAligned" "Z" (.int p2) ∧ Fld Z h a1 "com/example/scholium/scholium/model/Cursor" "value" "J" (.long q3)
theorem d1_0 : decode prog_25_method_1_code 0 = .ok (.aload_n 0, 1) := by decide +kernel
theorem d1_1 : decode prog_25_method_1_code 1 = .ok (.invokespecial 1, 3) := by decide +kernel
theorem d1_4 : decode prog_25_method_1_code 4 = .ok (.iload_n 1, 1) := by decide +kernel
theorem d1_5 : decode prog_25_method_1_code 5 = .ok (.ifCond .eq 23, 3) := by decide +kernel
theorem d1_8 : decode prog_25_method_1_code 8 = .ok (.lload_n 2, 1) := by decide +kernel
theorem d1_9 : decode prog_25_method_1_code 9 = .ok (.lconst 0, 1) := by decide +kernel
theorem d1_10 : decode prog_25_method_1_code 10 = .ok (.lcmp, 1) := by decide +kernel
theorem d1_11 : decode prog_25_method_1_code 11 = .ok (.ifCond .le 17, 3) := by decide +kernel
theorem d1_14 : decode prog_25_method_1_code 14 = .ok (.new 7, 3) := by decide +kernel
theorem d1_17 : decode prog_25_method_1_code 17 = .ok (.dup, 1) := by decide +kernel
theorem d1_18 : decode prog_25_method_1_code 18 = .ok (.lload_n 2, 1) := by decide +kernel
theorem d1_24 : decode prog_25_method_1_code 24 = .ok (.invokespecial 13, 3) := by decide +kernel
theorem d1_27 : decode prog_25_method_1_code 27 = .ok (.athrow, 1) := by decide +kernel
theorem d1_28 : decode prog_25_method_1_code 28 = .ok (.iload_n 1, 1) := by decide +kernel
theorem d1_29 : decode prog_25_method_1_code 29 = .ok (.ifCond .ne 23, 3) := by decide +kernel
theorem d1_32 : decode prog_25_method_1_code 32 = .ok (.lload_n 2, 1) := by decide +kernel
theorem d1_33 : decode prog_25_method_1_code 33 = .ok (.lconst 0, 1) := by decide +kernel
theorem d1_34 : decode prog_25_method_1_code 34 = .ok (.lcmp, 1) := by decide +kernel
theorem d1_35 : decode prog_25_method_1_code 35 = .ok (.ifCond .ge 17, 3) := by decide +kernel
theorem d1_38 : decode prog_25_method_1_code 38 = .ok (.new 7, 3) := by decide +kernel
theorem d1_41 : decode prog_25_method_1_code 41 = .ok (.dup, 1) := by decide +kernel
theorem d1_42 : decode prog_25_method_1_code 42 = .ok (.lload_n 2, 1) := by decide +kernel
theorem d1_48 : decode prog_25_method_1_code 48 = .ok (.invokespecial 13, 3) := by decide +kernel
theorem d1_51 : decode prog_25_method_1_code 51 = .ok (.athrow, 1) := by decide +kernel
theorem d1_52 : decode prog_25_method_1_code 52 = .ok (.aload_n 0, 1) := by decide +kernel
theorem d1_53 : decode prog_25_method_1_code 53 = .ok (.iload_n 1, 1) := by decide +kernel
theorem d1_54 : decode prog_25_method_1_code 54 = .ok (.putfield 17, 3) := by decide +kernel
theorem d1_57 : decode prog_25_method_1_code 57 = .ok (.aload_n 0, 1) := by decide +kernel
theorem d1_58 : decode prog_25_method_1_code 58 = .ok (.lload_n 2, 1) := by decide +kernel
theorem d1_59 : decode prog_25_method_1_code 59 = .ok (.putfield 23, 3) := by decide +kernel
theorem d1_62 : decode prog_25_method_1_code 62 = .ok (.return_, 1) := by decide +kernel
theorem own_pn1 : plainName "com/example/scholium/scholium/model/Cursor" = true := by first | (simp [plainName, overriddenIn]; done) | decide +kernel
theorem ef_rm1 (m : MethodId) (a1 : Addr) (p2 : Int32) (q3 : Int64) : entryFrame m #[(.ref a1), (.int p2), (.long q3)] 4 = mkF m 0 #[.val (.ref a1), .val (.int p2), .val (.long q3), .second] [] := by first | (simp [entryFrame, mkF, argsToLocals, Value.category]; done) | rfl
set_option maxRecDepth 65536 in
set_option maxHeartbeats 40000000 in
theorem rm1 (l : Launch) (Z : State) (a0 : Array Value) (hw : ∀ d ∈ tables_1, d.before a0 Z = true) (ws : List Jvm.Cond) (a1 : Addr) (p2 : Int32) (q3 : Int64) (h0 : Heap) (n0 : Nat) (Z0 : n0 ≤ h0.size) (F1 : Fld Z h0 a1 "com/example/scholium/scholium/model/Cursor" "endAligned" "Z" (.int (0 : Int32))) (F2 : Fld Z h0 a1 "com/example/scholium/scholium/model/Cursor" "value" "J" (.long (0 : Int64))) (E1 : Exa Z h0 a1 "com/example/scholium/scholium/model/Cursor") (g1 : n0 ≤ a1) (hz : p2 = 0 ∨ p2 = 1) (hok1 : ¬ p2 = 0 → ¬ 0 < q3) (hok2 : p2 = 0 → ¬ q3 < 0) :
    MetFree l (⟨"com/example/scholium/scholium/model/Cursor", "<init>", "(ZJ)V"⟩ : MethodName) (head1 (Jvm.Cond.code (⟨"com/example/scholium/scholium/model/Cursor", "<init>", "(ZJ)V"⟩ : MethodName) prog_25_method_1_code 4 none :: ws) ({ frames := 2, cells := 0, slots := 0, locals := 24 } : Room)) (fun a U => a = #[(.ref a1), (.int p2), (.long q3)] ∧ Z.Warmed39 U.vm ∧ U.heap = h0) (fun _ _ _ _ _ => True) (fun _ U o U' => ∃ v L, o = .returned v ∧ Q1 Z a1 p2 q3 h0 n0 v U'.heap L ∧ FrameEnd U o U' L 0 0) := by
  refine MetFree.of_bodySF (plainFor_of_name own_pn1) hisR ?_
  intro p e s m args below meth c s₁ Bd hml0 hP hK
  obtain ⟨rfl, hZ, hh⟩ := hP
  have hx := Bd.exec
  have hby := Bd.bytes
  have hml : c.maxLocals = 4 := hml0
  have hown : s.vm.findClass "com/example/scholium/scholium/model/Cursor" = some m.cls := findClass_of_methodNamed Bd.named
  have hnm := (name_of_methodNamed Bd.named Bd.method).1
  have hlk : meth.locks = false := Bd.notSynchronized
  have hrt := Bd.returns
  have X0 : Stand p l e ({ frames := 2, cells := 0, slots := 0, locals := 24 } : Room) s m #[(.ref a1), (.int p2), (.long q3)] below meth c s₁ [] 0 0 := Stand.of_body Bd
  have e0 : s₁.heap = h0 := by rw [← hh, Bd.state]; rfl
  have N0 := Fr.nil n0
  show Done p e s below 0 0 (Q1 Z a1 p2 q3 h0 n0) s₁ (entryFrame m #[(.ref a1), (.int p2), (.long q3)] 4)
  rw [ef_rm1]
  show Done p e s below _ _ _ s₁ (mkF m 0 #[.val (.ref a1), .val (.int p2), .val (.long q3), .second] [])
  refine Done.go (fun _ k => XS.aloadN X0.here hx rfl (hb hby d1_0) rfl rfl k) ?_
  show Done p e s below _ _ _ s₁ (mkF m 1 #[.val (.ref a1), .val (.int p2), .val (.long q3), .second] [(.ref a1)])
  obtain ⟨_, _, ⟨T2, L2, k2, n2⟩, -, X2, ⟨Lc2, hQ2, l2, y2, z2⟩, st2⟩ := X0.specialBack hx (y := (⟨"java/lang/Record", "<init>", "()V"⟩ : MethodName)) rfl hown (mvT hZ (hw _ (List.mem_of_getElem? (i := 6) rfl))) (mvT hZ (hw _ (List.mem_of_getElem? (i := 7) rfl))) (mvT hZ (hw _ (List.mem_of_getElem? (i := 10) rfl))) (by decide) (backOf (W := 0) (rm2 l Z a0 hw [] a1 h0 n0 Z0) hZ (hw _ (List.mem_of_getElem? (i := 10) rfl)) (hw _ (List.mem_of_getElem? (i := 9) rfl)) (by decide) (by decide)) (g := (mkF m 1 #[.val (.ref a1), .val (.int p2), .val (.long q3), .second] [(.ref a1)])) rfl (by rw [hml]; rfl) (Steps.refl _) (a := a1) (argsL := []) (rest := []) (lenOf own_pd0 rfl) rfl (by show 2 * 0 + _ ≤ _; exact Nat.le_of_eq rfl) (hb hby d1_1) (fun _ _ => ⟨rfl, e0, (by first | decide | omega : 0 + 0 ≤ _), (by first | decide | omega : 0 + 0 ≤ _)⟩)
  dsimp only [Pt.U, Pt.locs, Pt.cells, Pt.slots] at X2 l2 y2 z2 st2 hQ2
  subst l2 y2 z2
  obtain ⟨rfl, N2q, e2⟩ := hQ2
  have N2 := Fr.app N0 N2q
  refine Done.via st2 ?_
  show Done p e s below _ _ _ T2 (mkF m 4 #[.val (.ref a1), .val (.int p2), .val (.long q3), .second] [])
  refine Done.go (fun _ k => XS.iloadN X2.here hx rfl (hb hby d1_4) rfl k) ?_
  show Done p e s below _ _ _ T2 (mkF m 5 #[.val (.ref a1), .val (.int p2), .val (.long q3), .second] [(.int p2)])
  by_cases hc5 : p2 = (0 : Int32)
  · skip
    refine Done.go (fun _ k => XS.ifYes X2.here hx rfl (pc0 := 5) (pc' := 28) rfl (hb hby d1_5) rfl ((if0 _ _).trans (teq hc5).1) (by decide) (by decide) k) ?_
    show Done p e s below _ _ _ T2 (mkF m 28 #[.val (.ref a1), .val (.int p2), .val (.long q3), .second] [])
    refine Done.go (fun _ k => XS.iloadN X2.here hx rfl (hb hby d1_28) rfl k) ?_
    show Done p e s below _ _ _ T2 (mkF m 29 #[.val (.ref a1), .val (.int p2), .val (.long q3), .second] [(.int p2)])
    refine Done.go (fun _ k => XS.ifNo X2.here hx rfl (hb hby d1_29) rfl ((if0 _ _).trans (teq hc5).2) k) ?_
    show Done p e s below _ _ _ T2 (mkF m 32 #[.val (.ref a1), .val (.int p2), .val (.long q3), .second] [])
    refine Done.go (fun _ k => XS.lloadN X2.here hx rfl (hb hby d1_32) rfl k) ?_
    show Done p e s below _ _ _ T2 (mkF m 33 #[.val (.ref a1), .val (.int p2), .val (.long q3), .second] [(.long q3)])
    refine Done.go (fun _ k => XS.lconst X2.here hx rfl (hb hby d1_33) k) ?_
    show Done p e s below _ _ _ T2 (mkF m 34 #[.val (.ref a1), .val (.int p2), .val (.long q3), .second] [(.long (0 : Int64)), (.long q3)])
    refine Done.go (fun _ k => XS.lcmp X2.here hx rfl (hb hby d1_34) rfl k) ?_
    show Done p e s below _ _ _ T2 (mkF m 35 #[.val (.ref a1), .val (.int p2), .val (.long q3), .second] [(.int (lcmpW q3 (0 : Int64)))])
    refine Done.go (fun _ k => XS.ifYes X2.here hx rfl (pc0 := 35) (pc' := 52) rfl (hb hby d1_35) rfl ((if0 _ _).trans (flt (fun h => hok2 hc5 ((lw_lt _ _).mp h))).2.1) (by decide) (by decide) k) ?_
    show Done p e s below _ _ _ T2 (mkF m 52 #[.val (.ref a1), .val (.int p2), .val (.long q3), .second] [])
    refine Done.go (fun _ k => XS.aloadN X2.here hx rfl (hb hby d1_52) rfl rfl k) ?_
    show Done p e s below _ _ _ T2 (mkF m 53 #[.val (.ref a1), .val (.int p2), .val (.long q3), .second] [(.ref a1)])
    refine Done.go (fun _ k => XS.iloadN X2.here hx rfl (hb hby d1_53) rfl k) ?_
    show Done p e s below _ _ _ T2 (mkF m 54 #[.val (.ref a1), .val (.int p2), .val (.long q3), .second] [(.int p2), (.ref a1)])
    obtain ⟨T3, h3, X3, e3, W3, st3⟩ := putFN X2 hx hZ hown (hw _ (List.mem_of_getElem? (i := 14) rfl)) Via.refl e2 F1 E1 (Or.inr ⟨(hw _ (List.mem_of_getElem? (i := 15) rfl)), rfl, hnm⟩) (hw _ (List.mem_of_getElem? (i := 1) rfl)) (ty := .boolean) (v' := .int p2) (by decide) (own_narZ hz) (own_fitZ hz) (g := (mkF m 54 #[.val (.ref a1), .val (.int p2), .val (.long q3), .second] [(.int p2), (.ref a1)])) rfl rfl (hb hby d1_54)
    have Fw3 : Fld Z h3 a1 "com/example/scholium/scholium/model/Cursor" "endAligned" "Z" (.int p2) := F1.same W3
    have N3 := Fr.snoc X3 N2 g1
    have Z3 : n0 ≤ h3.size := by rw [W3.size]; exact Z0
    have K3 : Keep h0 h3 [a1] := (Keep.refl h0 [a1]).wr W3 (Or.inl (List.mem_of_getElem? (i := 0) rfl))
    refine Done.go st3 ?_
    show Done p e s below _ _ _ T3 (mkF m 57 #[.val (.ref a1), .val (.int p2), .val (.long q3), .second] [])
    refine Done.go (fun _ k => XS.aloadN X3.here hx rfl (hb hby d1_57) rfl rfl k) ?_
    show Done p e s below _ _ _ T3 (mkF m 58 #[.val (.ref a1), .val (.int p2), .val (.long q3), .second] [(.ref a1)])
    refine Done.go (fun _ k => XS.lloadN X3.here hx rfl (hb hby d1_58) rfl k) ?_
    show Done p e s below _ _ _ T3 (mkF m 59 #[.val (.ref a1), .val (.int p2), .val (.long q3), .second] [(.long q3), (.ref a1)])
    have f4 := (E1.wr W3)
    have f5 := (F2.other W3 (Or.inr (slot_ne (Or.inr (hw _ (List.mem_of_getElem? (i := 17) rfl))) (Or.inr (hw _ (List.mem_of_getElem? (i := 15) rfl))) (by decide) (t := .long) (t' := .boolean) (by decide) (by decide))))
    obtain ⟨T6, h6, X6, e6, W6, st6⟩ := putF X3 hx hZ hown (host := "") (Or.inl (hw _ (List.mem_of_getElem? (i := 16) rfl))) Via.refl e3 f5 f4 (Or.inr ⟨(hw _ (List.mem_of_getElem? (i := 17) rfl)), rfl, hnm⟩) (hw _ (List.mem_of_getElem? (i := 1) rfl)) (ty := .long) (by decide) rfl rfl (g := (mkF m 59 #[.val (.ref a1), .val (.int p2), .val (.long q3), .second] [(.long q3), (.ref a1)])) rfl rfl (hb hby d1_59)
    have Fw6 : Fld Z h6 a1 "com/example/scholium/scholium/model/Cursor" "value" "J" (.long q3) := f5.same W6
    have N6 := Fr.snoc X6 N3 g1
    have Z6 : n0 ≤ h6.size := by rw [W6.size]; exact Z3
    have K6 : Keep h0 h6 [a1] := K3.wr W6 (Or.inl (List.mem_of_getElem? (i := 0) rfl))
    refine Done.go st6 ?_
    show Done p e s below _ _ _ T6 (mkF m 62 #[.val (.ref a1), .val (.int p2), .val (.long q3), .second] [])
    refine Done.retV X6 hx hlk hrt (hb hby d1_62) ?_ (by first | decide | omega) (by first | decide | omega)
    rw [e6]
    have f7 := (f4.wr W6)
    have f8 := (Fw3.other W6 (Or.inr (slot_ne (Or.inr (hw _ (List.mem_of_getElem? (i := 15) rfl))) (Or.inr (hw _ (List.mem_of_getElem? (i := 17) rfl))) (by decide) (t := .boolean) (t' := .long) (by decide) (by decide))))
    exact ⟨rfl, N6, K6, f7, f8, Fw6⟩
  · skip
    refine Done.go (fun _ k => XS.ifNo X2.here hx rfl (hb hby d1_5) rfl ((if0 _ _).trans (feq hc5).1) k) ?_
    show Done p e s below _ _ _ T2 (mkF m 8 #[.val (.ref a1), .val (.int p2), .val (.long q3), .second] [])
    refine Done.go (fun _ k => XS.lloadN X2.here hx rfl (hb hby d1_8) rfl k) ?_
    show Done p e s below _ _ _ T2 (mkF m 9 #[.val (.ref a1), .val (.int p2), .val (.long q3), .second] [(.long q3)])
    refine Done.go (fun _ k => XS.lconst X2.here hx rfl (hb hby d1_9) k) ?_
    show Done p e s below _ _ _ T2 (mkF m 10 #[.val (.ref a1), .val (.int p2), .val (.long q3), .second] [(.long (0 : Int64)), (.long q3)])
    refine Done.go (fun _ k => XS.lcmp X2.here hx rfl (hb hby d1_10) rfl k) ?_
    show Done p e s below _ _ _ T2 (mkF m 11 #[.val (.ref a1), .val (.int p2), .val (.long q3), .second] [(.int (lcmpW q3 (0 : Int64)))])
    refine Done.go (fun _ k => XS.ifYes X2.here hx rfl (pc0 := 11) (pc' := 28) rfl (hb hby d1_11) rfl ((if0 _ _).trans (flt (fun h => hok1 hc5 ((lw_gt _ _).mp h))).2.2.2) (by decide) (by decide) k) ?_
    show Done p e s below _ _ _ T2 (mkF m 28 #[.val (.ref a1), .val (.int p2), .val (.long q3), .second] [])
    refine Done.go (fun _ k => XS.iloadN X2.here hx rfl (hb hby d1_28) rfl k) ?_
    show Done p e s below _ _ _ T2 (mkF m 29 #[.val (.ref a1), .val (.int p2), .val (.long q3), .second] [(.int p2)])
    refine Done.go (fun _ k => XS.ifYes X2.here hx rfl (pc0 := 29) (pc' := 52) rfl (hb hby d1_29) rfl ((if0 _ _).trans (feq hc5).2) (by decide) (by decide) k) ?_
    show Done p e s below _ _ _ T2 (mkF m 52 #[.val (.ref a1), .val (.int p2), .val (.long q3), .second] [])
    refine Done.go (fun _ k => XS.aloadN X2.here hx rfl (hb hby d1_52) rfl rfl k) ?_
    show Done p e s below _ _ _ T2 (mkF m 53 #[.val (.ref a1), .val (.int p2), .val (.long q3), .second] [(.ref a1)])
    refine Done.go (fun _ k => XS.iloadN X2.here hx rfl (hb hby d1_53) rfl k) ?_
    show Done p e s below _ _ _ T2 (mkF m 54 #[.val (.ref a1), .val (.int p2), .val (.long q3), .second] [(.int p2), (.ref a1)])
    obtain ⟨T9, h9, X9, e9, W9, st9⟩ := putFN X2 hx hZ hown (hw _ (List.mem_of_getElem? (i := 14) rfl)) Via.refl e2 F1 E1 (Or.inr ⟨(hw _ (List.mem_of_getElem? (i := 15) rfl)), rfl, hnm⟩) (hw _ (List.mem_of_getElem? (i := 1) rfl)) (ty := .boolean) (v' := .int p2) (by decide) (own_narZ hz) (own_fitZ hz) (g := (mkF m 54 #[.val (.ref a1), .val (.int p2), .val (.long q3), .second] [(.int p2), (.ref a1)])) rfl rfl (hb hby d1_54)
    have Fw9 : Fld Z h9 a1 "com/example/scholium/scholium/model/Cursor" "endAligned" "Z" (.int p2) := F1.same W9
    have N9 := Fr.snoc X9 N2 g1
    have Z9 : n0 ≤ h9.size := by rw [W9.size]; exact Z0
    have K9 : Keep h0 h9 [a1] := (Keep.refl h0 [a1]).wr W9 (Or.inl (List.mem_of_getElem? (i := 0) rfl))
    refine Done.go st9 ?_
    show Done p e s below _ _ _ T9 (mkF m 57 #[.val (.ref a1), .val (.int p2), .val (.long q3), .second] [])
    refine Done.go (fun _ k => XS.aloadN X9.here hx rfl (hb hby d1_57) rfl rfl k) ?_
    show Done p e s below _ _ _ T9 (mkF m 58 #[.val (.ref a1), .val (.int p2), .val (.long q3), .second] [(.ref a1)])
    refine Done.go (fun _ k => XS.lloadN X9.here hx rfl (hb hby d1_58) rfl k) ?_
    show Done p e s below _ _ _ T9 (mkF m 59 #[.val (.ref a1), .val (.int p2), .val (.long q3), .second] [(.long q3), (.ref a1)])
    have f10 := (E1.wr W9)
    have f11 := (F2.other W9 (Or.inr (slot_ne (Or.inr (hw _ (List.mem_of_getElem? (i := 17) rfl))) (Or.inr (hw _ (List.mem_of_getElem? (i := 15) rfl))) (by decide) (t := .long) (t' := .boolean) (by decide) (by decide))))
    obtain ⟨T12, h12, X12, e12, W12, st12⟩ := putF X9 hx hZ hown (host := "") (Or.inl (hw _ (List.mem_of_getElem? (i := 16) rfl))) Via.refl e9 f11 f10 (Or.inr ⟨(hw _ (List.mem_of_getElem? (i := 17) rfl)), rfl, hnm⟩) (hw _ (List.mem_of_getElem? (i := 1) rfl)) (ty := .long) (by decide) rfl rfl (g := (mkF m 59 #[.val (.ref a1), .val (.int p2), .val (.long q3), .second] [(.long q3), (.ref a1)])) rfl rfl (hb hby d1_59)
    have Fw12 : Fld Z h12 a1 "com/example/scholium/scholium/model/Cursor" "value" "J" (.long q3) := f11.same W12
    have N12 := Fr.snoc X12 N9 g1
    have Z12 : n0 ≤ h12.size := by rw [W12.size]; exact Z9
    have K12 : Keep h0 h12 [a1] := K9.wr W12 (Or.inl (List.mem_of_getElem? (i := 0) rfl))
    refine Done.go st12 ?_
    show Done p e s below _ _ _ T12 (mkF m 62 #[.val (.ref a1), .val (.int p2), .val (.long q3), .second] [])
    refine Done.retV X12 hx hlk hrt (hb hby d1_62) ?_ (by first | decide | omega) (by first | decide | omega)
    rw [e12]
    have f13 := (f10.wr W12)
    have f14 := (Fw9.other W12 (Or.inr (slot_ne (Or.inr (hw _ (List.mem_of_getElem? (i := 15) rfl))) (Or.inr (hw _ (List.mem_of_getElem? (i := 17) rfl))) (by decide) (t := .boolean) (t' := .long) (by decide) (by decide))))
    exact ⟨rfl, N12, K12, f13, f14, Fw12⟩
def own_pos (f : Int32) (q : Int64) (b e : Int32) : Int64 := if f = 0 then b.toInt64 + q else e.toInt64 + q
def Q4 (f : Int32) (q : Int64) (b e : Int32) (h0 : Heap) (n0 : Nat) (v : Option Value) (h : Heap) (L : List Loc) : Prop := v = some (.long (own_pos f q b e)) ∧ Fr n0 L ∧ h = h0
theorem d4_0 : decode prog_25_method_3_code 0 = .ok (.aload_n 0, 1) := by decide +kernel
theorem d4_1 : decode prog_25_method_3_code 1 = .ok (.getfield 17, 3) := by decide +kernel
theorem d4_4 : decode prog_25_method_3_code 4 = .ok (.ifCond .eq 13, 3) := by decide +kernel
theorem d4_7 : decode prog_25_method_3_code 7 = .ok (.iload_n 2, 1) := by decide +kernel
theorem d4_8 : decode prog_25_method_3_code 8 = .ok (.i2l, 1) := by decide +kernel
theorem d4_9 : decode prog_25_method_3_code 9 = .ok (.aload_n 0, 1) := by decide +kernel
theorem d4_10 : decode prog_25_method_3_code 10 = .ok (.getfield 23, 3) := by decide +kernel
theorem d4_13 : decode prog_25_method_3_code 13 = .ok (.ladd, 1) := by decide +kernel
theorem d4_14 : decode prog_25_method_3_code 14 = .ok (.goto 10, 3) := by decide +kernel
theorem d4_17 : decode prog_25_method_3_code 17 = .ok (.iload_n 1, 1) := by decide +kernel
theorem d4_18 : decode prog_25_method_3_code 18 = .ok (.i2l, 1) := by decide +kernel
theorem d4_19 : decode prog_25_method_3_code 19 = .ok (.aload_n 0, 1) := by decide +kernel
theorem d4_20 : decode prog_25_method_3_code 20 = .ok (.getfield 23, 3) := by decide +kernel
theorem d4_23 : decode prog_25_method_3_code 23 = .ok (.ladd, 1) := by decide +kernel
theorem d4_24 : decode prog_25_method_3_code 24 = .ok (.lreturn, 1) := by decide +kernel
theorem ef_rm4 (m : MethodId) (a1 : Addr) (p2 : Int32) (p3 : Int32) : entryFrame m #[(.ref a1), (.int p2), (.int p3)] 3 = mkF m 0 #[.val (.ref a1), .val (.int p2), .val (.int p3)] [] := by first | (simp [entryFrame, mkF, argsToLocals, Value.category]; done) | rfl
set_option maxRecDepth 65536 in
set_option maxHeartbeats 40000000 in
theorem rm4 (l : Launch) (Z : State) (a0 : Array Value) (hw : ∀ d ∈ tables_1, d.before a0 Z = true) (ws : List Jvm.Cond) (a1 : Addr) (p2 : Int32) (p3 : Int32) (w4 : Int32) (w6 : Int64) (h0 : Heap) (n0 : Nat) (Z0 : n0 ≤ h0.size) (F1 : Fld Z h0 a1 "com/example/scholium/scholium/model/Cursor" "endAligned" "Z" (.int w4)) (F2 : Fld Z h0 a1 "com/example/scholium/scholium/model/Cursor" "value" "J" (.long w6)) :
    MetFree l (⟨"com/example/scholium/scholium/model/Cursor", "position", "(II)J"⟩ : MethodName) (head1 (Jvm.Cond.code (⟨"com/example/scholium/scholium/model/Cursor", "position", "(II)J"⟩ : MethodName) prog_25_method_3_code 3 (some .long) :: ws) ({ frames := 0, cells := 0, slots := 0, locals := 0 } : Room)) (fun a U => a = #[(.ref a1), (.int p2), (.int p3)] ∧ Z.Warmed39 U.vm ∧ U.heap = h0) (fun _ _ _ _ _ => True) (fun _ U o U' => ∃ v L, o = .returned v ∧ Q4 w4 w6 p2 p3 h0 n0 v U'.heap L ∧ FrameEnd U o U' L 0 0) := by
  refine MetFree.of_bodySF (plainFor_of_name own_pn1) hisR ?_
  intro p e s m args below meth c s₁ Bd hml0 hP hK
  obtain ⟨rfl, hZ, hh⟩ := hP
  have hx := Bd.exec
  have hby := Bd.bytes
  have hml : c.maxLocals = 3 := hml0
  have hown : s.vm.findClass "com/example/scholium/scholium/model/Cursor" = some m.cls := findClass_of_methodNamed Bd.named
  have hnm := (name_of_methodNamed Bd.named Bd.method).1
  have hlk : meth.locks = false := Bd.notSynchronized
  have hrt := Bd.returns
  have X0 : Stand p l e ({ frames := 0, cells := 0, slots := 0, locals := 0 } : Room) s m #[(.ref a1), (.int p2), (.int p3)] below meth c s₁ [] 0 0 := Stand.of_body Bd
  have e0 : s₁.heap = h0 := by rw [← hh, Bd.state]; rfl
  have N0 := Fr.nil n0
  show Done p e s below 0 0 (Q4 w4 w6 p2 p3 h0 n0) s₁ (entryFrame m #[(.ref a1), (.int p2), (.int p3)] 3)
  rw [ef_rm4]
  show Done p e s below _ _ _ s₁ (mkF m 0 #[.val (.ref a1), .val (.int p2), .val (.int p3)] [])
  refine Done.go (fun _ k => XS.aloadN X0.here hx rfl (hb hby d4_0) rfl rfl k) ?_
  show Done p e s below _ _ _ s₁ (mkF m 1 #[.val (.ref a1), .val (.int p2), .val (.int p3)] [(.ref a1)])
  obtain ⟨T15, X15, e15, st15⟩ := getF X0 hx hZ hown (host := "") (Or.inl (hw _ (List.mem_of_getElem? (i := 14) rfl))) Via.refl e0 F1 (g := (mkF m 1 #[.val (.ref a1), .val (.int p2), .val (.int p3)] [(.ref a1)])) rfl rfl (hb hby d4_1)
  refine Done.go st15 ?_
  show Done p e s below _ _ _ T15 (mkF m 4 #[.val (.ref a1), .val (.int p2), .val (.int p3)] [(.int w4)])
  by_cases hc4 : w4 = (0 : Int32)
  · skip
    refine Done.go (fun _ k => XS.ifYes X15.here hx rfl (pc0 := 4) (pc' := 17) rfl (hb hby d4_4) rfl ((if0 _ _).trans (teq hc4).1) (by decide) (by decide) k) ?_
    show Done p e s below _ _ _ T15 (mkF m 17 #[.val (.ref a1), .val (.int p2), .val (.int p3)] [])
    refine Done.go (fun _ k => XS.iloadN X15.here hx rfl (hb hby d4_17) rfl k) ?_
    show Done p e s below _ _ _ T15 (mkF m 18 #[.val (.ref a1), .val (.int p2), .val (.int p3)] [(.int p2)])
    refine Done.go (fun _ k => XS.i2l X15.here hx rfl (hb hby d4_18) rfl k) ?_
    show Done p e s below _ _ _ T15 (mkF m 19 #[.val (.ref a1), .val (.int p2), .val (.int p3)] [(.long (p2.toInt64))])
    refine Done.go (fun _ k => XS.aloadN X15.here hx rfl (hb hby d4_19) rfl rfl k) ?_
    show Done p e s below _ _ _ T15 (mkF m 20 #[.val (.ref a1), .val (.int p2), .val (.int p3)] [(.ref a1), (.long (p2.toInt64))])
    obtain ⟨T16, X16, e16, st16⟩ := getF X15 hx hZ hown (host := "") (Or.inl (hw _ (List.mem_of_getElem? (i := 16) rfl))) Via.refl e15 F2 (g := (mkF m 20 #[.val (.ref a1), .val (.int p2), .val (.int p3)] [(.ref a1), (.long (p2.toInt64))])) rfl rfl (hb hby d4_20)
    refine Done.go st16 ?_
    show Done p e s below _ _ _ T16 (mkF m 23 #[.val (.ref a1), .val (.int p2), .val (.int p3)] [(.long w6), (.long (p2.toInt64))])
    refine Done.go (fun _ k => XS.ladd X16.here hx rfl (hb hby d4_23) rfl k) ?_
    show Done p e s below _ _ _ T16 (mkF m 24 #[.val (.ref a1), .val (.int p2), .val (.int p3)] [(.long ((p2.toInt64) + w6))])
    refine Done.retJ X16 hx hlk hrt (hb hby d4_24) ?_ (by first | decide | omega) (by first | decide | omega)
    rw [e16]
    exact ⟨by simp [own_pos, hc4], N0, rfl⟩
  · skip
    refine Done.go (fun _ k => XS.ifNo X15.here hx rfl (hb hby d4_4) rfl ((if0 _ _).trans (feq hc4).1) k) ?_
    show Done p e s below _ _ _ T15 (mkF m 7 #[.val (.ref a1), .val (.int p2), .val (.int p3)] [])
    refine Done.go (fun _ k => XS.iloadN X15.here hx rfl (hb hby d4_7) rfl k) ?_
    show Done p e s below _ _ _ T15 (mkF m 8 #[.val (.ref a1), .val (.int p2), .val (.int p3)] [(.int p3)])
    refine Done.go (fun _ k => XS.i2l X15.here hx rfl (hb hby d4_8) rfl k) ?_
    show Done p e s below _ _ _ T15 (mkF m 9 #[.val (.ref a1), .val (.int p2), .val (.int p3)] [(.long (p3.toInt64))])
    refine Done.go (fun _ k => XS.aloadN X15.here hx rfl (hb hby d4_9) rfl rfl k) ?_
    show Done p e s below _ _ _ T15 (mkF m 10 #[.val (.ref a1), .val (.int p2), .val (.int p3)] [(.ref a1), (.long (p3.toInt64))])
    obtain ⟨T17, X17, e17, st17⟩ := getF X15 hx hZ hown (host := "") (Or.inl (hw _ (List.mem_of_getElem? (i := 16) rfl))) Via.refl e15 F2 (g := (mkF m 10 #[.val (.ref a1), .val (.int p2), .val (.int p3)] [(.ref a1), (.long (p3.toInt64))])) rfl rfl (hb hby d4_10)
    refine Done.go st17 ?_
    show Done p e s below _ _ _ T17 (mkF m 13 #[.val (.ref a1), .val (.int p2), .val (.int p3)] [(.long w6), (.long (p3.toInt64))])
    refine Done.go (fun _ k => XS.ladd X17.here hx rfl (hb hby d4_13) rfl k) ?_
    show Done p e s below _ _ _ T17 (mkF m 14 #[.val (.ref a1), .val (.int p2), .val (.int p3)] [(.long ((p3.toInt64) + w6))])
    refine Done.go (fun _ k => XS.goto X17.here hx rfl (pc0 := 14) (pc' := 24) rfl (hb hby d4_14) (by decide) (by decide) k) ?_
    show Done p e s below _ _ _ T17 (mkF m 24 #[.val (.ref a1), .val (.int p2), .val (.int p3)] [(.long ((p3.toInt64) + w6))])
    refine Done.retJ X17 hx hlk hrt (hb hby d4_24) ?_ (by first | decide | omega) (by first | decide | omega)
    rw [e17]
    exact ⟨by simp [own_pos, hc4], N0, rfl⟩
def Q0 (n0 : Nat) (v : Option Value) (h : Heap) (L : List Loc) : Prop := v = some (.int 1) ∧ Fr n0 L
theorem own_pn2 : plainName "com/example/scholium/scholium/model/CursorPositionPinLaw" = true := by first | (simp [plainName, overriddenIn]; done) | decide +kernel
theorem ef_rm0 (m : MethodId) (p0 : Int32) (q1 : Int64) (p2 : Int32) (p3 : Int32) (p4 : Int32) : entryFrame m #[(.int p0), (.long q1), (.int p2), (.int p3), (.int p4)] maxLocals = mkF m 0 #[.val (.int p0), .val (.long q1), .second, .val (.int p2), .val (.int p3), .val (.int p4), .unset, .unset, .unset, .unset, .unset, .unset, .unset, .unset, .unset, .unset] [] := by first | (simp [entryFrame, mkF, argsToLocals, Value.category, maxLocals]; done) | rfl
set_option maxRecDepth 65536 in
set_option maxHeartbeats 40000000 in
theorem rm0 (l : Launch) (Z : State) (a0 : Array Value) (hw : ∀ d ∈ tables_1, d.before a0 Z = true) (ws : List Jvm.Cond) (p0 : Int32) (q1 : Int64) (p2 : Int32) (p3 : Int32) (p4 : Int32) (h0 : Heap) (n0 : Nat) (Z0 : n0 ≤ h0.size) :
    MetFree l x (head1 (Jvm.Cond.code x code maxLocals ret :: ws) room_1) (fun a U => a = #[(.int p0), (.long q1), (.int p2), (.int p3), (.int p4)] ∧ Z.Warmed39 U.vm ∧ U.heap = h0) (fun _ _ _ _ _ => True) (fun _ U o U' => ∃ v L, o = .returned v ∧ Q0 n0 v U'.heap L ∧ FrameEnd U o U' L 16 128) := by
  refine MetFree.of_bodySF (plainFor_of_name own_pn2) hisR ?_
  intro p e s m args below meth c s₁ Bd hml0 hP hK
  obtain ⟨rfl, hZ, hh⟩ := hP
  have hx := Bd.exec
  have hby := Bd.bytes
  have hml : c.maxLocals = 16 := hml0
  have hown : s.vm.findClass "com/example/scholium/scholium/model/CursorPositionPinLaw" = some m.cls := findClass_of_methodNamed Bd.named
  have hnm := (name_of_methodNamed Bd.named Bd.method).1
  have hlk : meth.locks = false := Bd.notSynchronized
  have hrt := Bd.returns
  have X0 : Stand p l e room_1 s m #[(.int p0), (.long q1), (.int p2), (.int p3), (.int p4)] below meth c s₁ [] 0 0 := Stand.of_body Bd
  have e0 : s₁.heap = h0 := by rw [← hh, Bd.state]; rfl
  have N0 := Fr.nil n0
  show Done p e s below 16 128 (Q0 n0) s₁ (entryFrame m #[(.int p0), (.long q1), (.int p2), (.int p3), (.int p4)] maxLocals)
  rw [ef_rm0]
  have J52 : ∀ (fl : Int32) (val : Int64), (fl = 0 ∨ fl = 1) → (¬ fl = 0 → ¬ 0 < val) → (fl = 0 → ¬ val < 0) → Done p e s below 16 128 (Q0 n0) s₁ (mkF m 52 #[.val (.int p0), .val (.long q1), .second, .val (.int p2), .val (.int p3), .val (.int p4), .val (.int fl), .val (.long val), .second, .unset, .unset, .unset, .unset, .unset, .unset, .unset] []) := by
    intro fl val hz hok1 hok2
    show Done p e s below _ _ _ s₁ (mkF m 52 #[.val (.int p0), .val (.long q1), .second, .val (.int p2), .val (.int p3), .val (.int p4), .val (.int fl), .val (.long val), .second, .unset, .unset, .unset, .unset, .unset, .unset, .unset] [])
    obtain ⟨T18, h18, X18, e18, E18, A18, D18, -, st18⟩ := newO X0 hx hZ hown (hw _ (List.mem_of_getElem? (i := 0) rfl)) (hw _ (List.mem_of_getElem? (i := 1) rfl)) (hw _ (List.mem_of_getElem? (i := 2) rfl)) e0 (g := (mkF m 52 #[.val (.int p0), .val (.long q1), .second, .val (.int p2), .val (.int p3), .val (.int p4), .val (.int fl), .val (.long val), .second, .unset, .unset, .unset, .unset, .unset, .unset, .unset] [])) rfl (hb hby at_52) (by first | decide | omega) (by first | decide | omega)
    obtain ⟨b18, g18⟩ : ∃ z, z = h0.size := ⟨_, rfl⟩
    rw [← g18] at A18 D18 st18
    have gz_b18 : n0 ≤ b18 := Nat.le_trans Z0 (Nat.le_of_eq g18.symm)
    have Z18 : n0 ≤ h18.size := Nat.le_trans Z0 E18.1
    have F18_endAligned : Fld Z h18 b18 "com/example/scholium/scholium/model/Cursor" "endAligned" "Z" (.int (0 : Int32)) := D18 (Or.inr (hw _ (List.mem_of_getElem? (i := 15) rfl))) (ty := .boolean) (by decide)
    have F18_value : Fld Z h18 b18 "com/example/scholium/scholium/model/Cursor" "value" "J" (.long (0 : Int64)) := D18 (Or.inr (hw _ (List.mem_of_getElem? (i := 17) rfl))) (ty := .long) (by decide)
    refine Done.go st18 ?_
    show Done p e s below _ _ _ T18 (mkF m 55 #[.val (.int p0), .val (.long q1), .second, .val (.int p2), .val (.int p3), .val (.int p4), .val (.int fl), .val (.long val), .second, .unset, .unset, .unset, .unset, .unset, .unset, .unset] [(.ref b18)])
    refine Done.go (fun _ k => XS.dup X18.here hx rfl (hb hby at_55) rfl rfl k) ?_
    show Done p e s below _ _ _ T18 (mkF m 56 #[.val (.int p0), .val (.long q1), .second, .val (.int p2), .val (.int p3), .val (.int p4), .val (.int fl), .val (.long val), .second, .unset, .unset, .unset, .unset, .unset, .unset, .unset] [(.ref b18), (.ref b18)])
    refine Done.go (fun _ k => XS.iload X18.here hx rfl (hb hby at_56) rfl k) ?_
    show Done p e s below _ _ _ T18 (mkF m 58 #[.val (.int p0), .val (.long q1), .second, .val (.int p2), .val (.int p3), .val (.int p4), .val (.int fl), .val (.long val), .second, .unset, .unset, .unset, .unset, .unset, .unset, .unset] [(.int fl), (.ref b18), (.ref b18)])
    refine Done.go (fun _ k => XS.lload X18.here hx rfl (hb hby at_58) rfl k) ?_
    show Done p e s below _ _ _ T18 (mkF m 60 #[.val (.int p0), .val (.long q1), .second, .val (.int p2), .val (.int p3), .val (.int p4), .val (.int fl), .val (.long val), .second, .unset, .unset, .unset, .unset, .unset, .unset, .unset] [(.long val), (.int fl), (.ref b18), (.ref b18)])
    obtain ⟨_, _, ⟨T19, L19, k19, n19⟩, -, X19, ⟨Lc19, hQ19, l19, y19, z19⟩, st19⟩ := X18.specialBack hx (y := (⟨"com/example/scholium/scholium/model/Cursor", "<init>", "(ZJ)V"⟩ : MethodName)) rfl hown (mvT hZ (hw _ (List.mem_of_getElem? (i := 3) rfl))) (mvT hZ (hw _ (List.mem_of_getElem? (i := 4) rfl))) (mvT hZ (hw _ (List.mem_of_getElem? (i := 5) rfl))) (by decide) (backOf (W := 1) (rm1 l Z a0 hw [] b18 fl val h18 n0 Z18 F18_endAligned F18_value A18 gz_b18 hz hok1 hok2) hZ (hw _ (List.mem_of_getElem? (i := 5) rfl)) (hw _ (List.mem_of_getElem? (i := 2) rfl)) (by decide) (by decide)) (g := (mkF m 60 #[.val (.int p0), .val (.long q1), .second, .val (.int p2), .val (.int p3), .val (.int p4), .val (.int fl), .val (.long val), .second, .unset, .unset, .unset, .unset, .unset, .unset, .unset] [(.long val), (.int fl), (.ref b18), (.ref b18)])) rfl (by rw [hml]; rfl) (Steps.refl _) (a := b18) (argsL := [(.int fl), (.long val)]) (rest := [(.ref b18)]) (lenOf own_pd1 rfl) rfl (by show 2 * 0 + _ ≤ _; exact Nat.le_of_eq rfl) (hb hby at_60) (fun _ _ => ⟨rfl, e18, (by first | decide | omega : (0 + 1) + 0 ≤ _), (by first | decide | omega : (0 + 2) + 0 ≤ _)⟩)
    dsimp only [Pt.U, Pt.locs, Pt.cells, Pt.slots] at X19 l19 y19 z19 st19 hQ19
    subst l19 y19 z19
    obtain ⟨rfl, N19q, K19k, E19x, Fa19, Fb19⟩ := hQ19
    have N19 := Fr.app N0 N19q
    refine Done.via st19 ?_
    have Z19 : n0 ≤ T19.heap.size := Nat.le_trans Z18 K19k.1
    show Done p e s below _ _ _ T19 (mkF m 63 #[.val (.int p0), .val (.long q1), .second, .val (.int p2), .val (.int p3), .val (.int p4), .val (.int fl), .val (.long val), .second, .unset, .unset, .unset, .unset, .unset, .unset, .unset] [(.ref b18)])
    refine Done.go (fun _ k => XS.astore X19.here hx rfl (hb hby at_63) rfl rfl (l' := #[.val (.int p0), .val (.long q1), .second, .val (.int p2), .val (.int p3), .val (.int p4), .val (.int fl), .val (.long val), .second, .val (.ref b18), .unset, .unset, .unset, .unset, .unset, .unset]) rfl k) ?_
    show Done p e s below _ _ _ T19 (mkF m 65 #[.val (.int p0), .val (.long q1), .second, .val (.int p2), .val (.int p3), .val (.int p4), .val (.int fl), .val (.long val), .second, .val (.ref b18), .unset, .unset, .unset, .unset, .unset, .unset] [])
    refine Done.go (fun _ k => XS.aload X19.here hx rfl (hb hby at_65) rfl rfl k) ?_
    show Done p e s below _ _ _ T19 (mkF m 67 #[.val (.int p0), .val (.long q1), .second, .val (.int p2), .val (.int p3), .val (.int p4), .val (.int fl), .val (.long val), .second, .val (.ref b18), .unset, .unset, .unset, .unset, .unset, .unset] [(.ref b18)])
    refine Done.go (fun _ k => XS.iloadN X19.here hx rfl (hb hby at_67) rfl k) ?_
    show Done p e s below _ _ _ T19 (mkF m 68 #[.val (.int p0), .val (.long q1), .second, .val (.int p2), .val (.int p3), .val (.int p4), .val (.int fl), .val (.long val), .second, .val (.ref b18), .unset, .unset, .unset, .unset, .unset, .unset] [(.int p2), (.ref b18)])
    refine Done.go (fun _ k => XS.iload X19.here hx rfl (hb hby at_68) rfl k) ?_
    show Done p e s below _ _ _ T19 (mkF m 70 #[.val (.int p0), .val (.long q1), .second, .val (.int p2), .val (.int p3), .val (.int p4), .val (.int fl), .val (.long val), .second, .val (.ref b18), .unset, .unset, .unset, .unset, .unset, .unset] [(.int p3), (.int p2), (.ref b18)])
    obtain ⟨cq20, kq20, q20a, q20b, q20c⟩ := isOf hZ rfl E19x
    obtain ⟨_, _, ⟨T20, L20, k20, n20⟩, -, X20, ⟨Lc20, hQ20, l20, y20, z20⟩, st20⟩ := X19.virtualBack hx (y := (⟨"com/example/scholium/scholium/model/Cursor", "position", "(II)J"⟩ : MethodName)) (z := (⟨"com/example/scholium/scholium/model/Cursor", "position", "(II)J"⟩ : MethodName)) hown (mvT hZ (hw _ (List.mem_of_getElem? (i := 18) rfl))) (mvT hZ (hw _ (List.mem_of_getElem? (i := 19) rfl))) (notFace_of_selects (args := #[]) (mvT hZ (hw _ (List.mem_of_getElem? (i := 21) rfl)))) (mvT hZ (hw _ (List.mem_of_getElem? (i := 21) rfl))) (mvT hZ (hw _ (List.mem_of_getElem? (i := 20) rfl))) (by decide) (backOf (W := 0) (rm4 l Z a0 hw [] b18 p2 p3 fl val T19.heap n0 Z19 Fa19 Fb19) hZ (hw _ (List.mem_of_getElem? (i := 22) rfl)) (hw _ (List.mem_of_getElem? (i := 2) rfl)) (by decide) (by decide)) q20a q20c (g := (mkF m 70 #[.val (.int p0), .val (.long q1), .second, .val (.int p2), .val (.int p3), .val (.int p4), .val (.int fl), .val (.long val), .second, .val (.ref b18), .unset, .unset, .unset, .unset, .unset, .unset] [(.int p3), (.int p2), (.ref b18)])) rfl (by rw [hml]; rfl) (Steps.refl _) (argsL := [(.int p2), (.int p3)]) (rest := []) (lenOf own_pd2 rfl) rfl (by show 2 * 0 + _ ≤ _; exact Nat.le_of_eq rfl) (hb hby at_70) (fun _ _ => ⟨rfl, rfl, (by first | decide | omega : ((0 + 1) + 0) + 0 ≤ _), (by first | decide | omega : ((0 + 2) + 0) + 0 ≤ _)⟩)
    dsimp only [Pt.U, Pt.locs, Pt.cells, Pt.slots] at X20 l20 y20 z20 st20 hQ20
    subst l20 y20 z20
    obtain ⟨rfl, N20q, e20⟩ := hQ20
    have N20 := Fr.app N19 N20q
    refine Done.via st20 ?_
    show Done p e s below _ _ _ T20 (mkF m 73 #[.val (.int p0), .val (.long q1), .second, .val (.int p2), .val (.int p3), .val (.int p4), .val (.int fl), .val (.long val), .second, .val (.ref b18), .unset, .unset, .unset, .unset, .unset, .unset] [(.long (own_pos fl val p2 p3))])
    refine Done.go (fun _ k => XS.lstore X20.here hx rfl (hb hby at_73) rfl (l' := #[.val (.int p0), .val (.long q1), .second, .val (.int p2), .val (.int p3), .val (.int p4), .val (.int fl), .val (.long val), .second, .val (.ref b18), .val (.long (own_pos fl val p2 p3)), .second, .unset, .unset, .unset, .unset]) rfl k) ?_
    show Done p e s below _ _ _ T20 (mkF m 75 #[.val (.int p0), .val (.long q1), .second, .val (.int p2), .val (.int p3), .val (.int p4), .val (.int fl), .val (.long val), .second, .val (.ref b18), .val (.long (own_pos fl val p2 p3)), .second, .unset, .unset, .unset, .unset] [])
    refine Done.go (fun _ k => XS.iload X20.here hx rfl (hb hby at_75) rfl k) ?_
    show Done p e s below _ _ _ T20 (mkF m 77 #[.val (.int p0), .val (.long q1), .second, .val (.int p2), .val (.int p3), .val (.int p4), .val (.int fl), .val (.long val), .second, .val (.ref b18), .val (.long (own_pos fl val p2 p3)), .second, .unset, .unset, .unset, .unset] [(.int fl)])
    by_cases hc77 : fl = (0 : Int32)
    · skip
      refine Done.go (fun _ k => XS.ifYes X20.here hx rfl (pc0 := 77) (pc' := 86) rfl (hb hby at_77) rfl ((if0 _ _).trans (teq hc77).1) (by decide) (by decide) k) ?_
      show Done p e s below _ _ _ T20 (mkF m 86 #[.val (.int p0), .val (.long q1), .second, .val (.int p2), .val (.int p3), .val (.int p4), .val (.int fl), .val (.long val), .second, .val (.ref b18), .val (.long (own_pos fl val p2 p3)), .second, .unset, .unset, .unset, .unset] [])
      refine Done.go (fun _ k => XS.iloadN X20.here hx rfl (hb hby at_86) rfl k) ?_
      show Done p e s below _ _ _ T20 (mkF m 87 #[.val (.int p0), .val (.long q1), .second, .val (.int p2), .val (.int p3), .val (.int p4), .val (.int fl), .val (.long val), .second, .val (.ref b18), .val (.long (own_pos fl val p2 p3)), .second, .unset, .unset, .unset, .unset] [(.int p2)])
      refine Done.go (fun _ k => XS.i2l X20.here hx rfl (hb hby at_87) rfl k) ?_
      show Done p e s below _ _ _ T20 (mkF m 88 #[.val (.int p0), .val (.long q1), .second, .val (.int p2), .val (.int p3), .val (.int p4), .val (.int fl), .val (.long val), .second, .val (.ref b18), .val (.long (own_pos fl val p2 p3)), .second, .unset, .unset, .unset, .unset] [(.long (p2.toInt64))])
      refine Done.go (fun _ k => XS.lstore X20.here hx rfl (hb hby at_88) rfl (l' := #[.val (.int p0), .val (.long q1), .second, .val (.int p2), .val (.int p3), .val (.int p4), .val (.int fl), .val (.long val), .second, .val (.ref b18), .val (.long (own_pos fl val p2 p3)), .second, .val (.long (p2.toInt64)), .second, .unset, .unset]) rfl k) ?_
      show Done p e s below _ _ _ T20 (mkF m 90 #[.val (.int p0), .val (.long q1), .second, .val (.int p2), .val (.int p3), .val (.int p4), .val (.int fl), .val (.long val), .second, .val (.ref b18), .val (.long (own_pos fl val p2 p3)), .second, .val (.long (p2.toInt64)), .second, .unset, .unset] [])
      refine Done.go (fun _ k => XS.iload X20.here hx rfl (hb hby at_90) rfl k) ?_
      show Done p e s below _ _ _ T20 (mkF m 92 #[.val (.int p0), .val (.long q1), .second, .val (.int p2), .val (.int p3), .val (.int p4), .val (.int fl), .val (.long val), .second, .val (.ref b18), .val (.long (own_pos fl val p2 p3)), .second, .val (.long (p2.toInt64)), .second, .unset, .unset] [(.int fl)])
      refine Done.go (fun _ k => XS.ifYes X20.here hx rfl (pc0 := 92) (pc' := 107) rfl (hb hby at_92) rfl ((if0 _ _).trans (teq hc77).1) (by decide) (by decide) k) ?_
      show Done p e s below _ _ _ T20 (mkF m 107 #[.val (.int p0), .val (.long q1), .second, .val (.int p2), .val (.int p3), .val (.int p4), .val (.int fl), .val (.long val), .second, .val (.ref b18), .val (.long (own_pos fl val p2 p3)), .second, .val (.long (p2.toInt64)), .second, .unset, .unset] [])
      refine Done.go (fun _ k => XS.aload X20.here hx rfl (hb hby at_107) rfl rfl k) ?_
      show Done p e s below _ _ _ T20 (mkF m 109 #[.val (.int p0), .val (.long q1), .second, .val (.int p2), .val (.int p3), .val (.int p4), .val (.int fl), .val (.long val), .second, .val (.ref b18), .val (.long (own_pos fl val p2 p3)), .second, .val (.long (p2.toInt64)), .second, .unset, .unset] [(.ref b18)])
      refine Done.go (fun _ k => XS.iloadN X20.here hx rfl (hb hby at_109) rfl k) ?_
      show Done p e s below _ _ _ T20 (mkF m 110 #[.val (.int p0), .val (.long q1), .second, .val (.int p2), .val (.int p3), .val (.int p4), .val (.int fl), .val (.long val), .second, .val (.ref b18), .val (.long (own_pos fl val p2 p3)), .second, .val (.long (p2.toInt64)), .second, .unset, .unset] [(.int p2), (.ref b18)])
      refine Done.go (fun _ k => XS.iload X20.here hx rfl (hb hby at_110) rfl k) ?_
      show Done p e s below _ _ _ T20 (mkF m 112 #[.val (.int p0), .val (.long q1), .second, .val (.int p2), .val (.int p3), .val (.int p4), .val (.int fl), .val (.long val), .second, .val (.ref b18), .val (.long (own_pos fl val p2 p3)), .second, .val (.long (p2.toInt64)), .second, .unset, .unset] [(.int p4), (.int p2), (.ref b18)])
      obtain ⟨cq21, kq21, q21a, q21b, q21c⟩ := isOf hZ e20 E19x
      obtain ⟨_, _, ⟨T21, L21, k21, n21⟩, -, X21, ⟨Lc21, hQ21, l21, y21, z21⟩, st21⟩ := X20.virtualBack hx (y := (⟨"com/example/scholium/scholium/model/Cursor", "position", "(II)J"⟩ : MethodName)) (z := (⟨"com/example/scholium/scholium/model/Cursor", "position", "(II)J"⟩ : MethodName)) hown (mvT hZ (hw _ (List.mem_of_getElem? (i := 18) rfl))) (mvT hZ (hw _ (List.mem_of_getElem? (i := 19) rfl))) (notFace_of_selects (args := #[]) (mvT hZ (hw _ (List.mem_of_getElem? (i := 21) rfl)))) (mvT hZ (hw _ (List.mem_of_getElem? (i := 21) rfl))) (mvT hZ (hw _ (List.mem_of_getElem? (i := 20) rfl))) (by decide) (backOf (W := 0) (rm4 l Z a0 hw [] b18 p2 p4 fl val T19.heap n0 Z19 Fa19 Fb19) hZ (hw _ (List.mem_of_getElem? (i := 22) rfl)) (hw _ (List.mem_of_getElem? (i := 2) rfl)) (by decide) (by decide)) q21a q21c (g := (mkF m 112 #[.val (.int p0), .val (.long q1), .second, .val (.int p2), .val (.int p3), .val (.int p4), .val (.int fl), .val (.long val), .second, .val (.ref b18), .val (.long (own_pos fl val p2 p3)), .second, .val (.long (p2.toInt64)), .second, .unset, .unset] [(.int p4), (.int p2), (.ref b18)])) rfl (by rw [hml]; rfl) (Steps.refl _) (argsL := [(.int p2), (.int p4)]) (rest := []) (lenOf own_pd2 rfl) rfl (by show 2 * 0 + _ ≤ _; exact Nat.le_of_eq rfl) (hb hby at_112) (fun _ _ => ⟨rfl, e20, (by first | decide | omega : (((0 + 1) + 0) + 0) + 0 ≤ _), (by first | decide | omega : (((0 + 2) + 0) + 0) + 0 ≤ _)⟩)
      dsimp only [Pt.U, Pt.locs, Pt.cells, Pt.slots] at X21 l21 y21 z21 st21 hQ21
      subst l21 y21 z21
      obtain ⟨rfl, N21q, e21⟩ := hQ21
      have N21 := Fr.app N20 N21q
      refine Done.via st21 ?_
      show Done p e s below _ _ _ T21 (mkF m 115 #[.val (.int p0), .val (.long q1), .second, .val (.int p2), .val (.int p3), .val (.int p4), .val (.int fl), .val (.long val), .second, .val (.ref b18), .val (.long (own_pos fl val p2 p3)), .second, .val (.long (p2.toInt64)), .second, .unset, .unset] [(.long (own_pos fl val p2 p4))])
      refine Done.go (fun _ k => XS.lstore X21.here hx rfl (hb hby at_115) rfl (l' := #[.val (.int p0), .val (.long q1), .second, .val (.int p2), .val (.int p3), .val (.int p4), .val (.int fl), .val (.long val), .second, .val (.ref b18), .val (.long (own_pos fl val p2 p3)), .second, .val (.long (p2.toInt64)), .second, .val (.long (own_pos fl val p2 p4)), .second]) rfl k) ?_
      show Done p e s below _ _ _ T21 (mkF m 117 #[.val (.int p0), .val (.long q1), .second, .val (.int p2), .val (.int p3), .val (.int p4), .val (.int fl), .val (.long val), .second, .val (.ref b18), .val (.long (own_pos fl val p2 p3)), .second, .val (.long (p2.toInt64)), .second, .val (.long (own_pos fl val p2 p4)), .second] [])
      refine Done.go (fun _ k => XS.lload X21.here hx rfl (hb hby at_117) rfl k) ?_
      show Done p e s below _ _ _ T21 (mkF m 119 #[.val (.int p0), .val (.long q1), .second, .val (.int p2), .val (.int p3), .val (.int p4), .val (.int fl), .val (.long val), .second, .val (.ref b18), .val (.long (own_pos fl val p2 p3)), .second, .val (.long (p2.toInt64)), .second, .val (.long (own_pos fl val p2 p4)), .second] [(.long (own_pos fl val p2 p3))])
      refine Done.go (fun _ k => XS.lload X21.here hx rfl (hb hby at_119) rfl k) ?_
      show Done p e s below _ _ _ T21 (mkF m 121 #[.val (.int p0), .val (.long q1), .second, .val (.int p2), .val (.int p3), .val (.int p4), .val (.int fl), .val (.long val), .second, .val (.ref b18), .val (.long (own_pos fl val p2 p3)), .second, .val (.long (p2.toInt64)), .second, .val (.long (own_pos fl val p2 p4)), .second] [(.long (p2.toInt64)), (.long (own_pos fl val p2 p3))])
      refine Done.go (fun _ k => XS.lsub X21.here hx rfl (hb hby at_121) rfl k) ?_
      show Done p e s below _ _ _ T21 (mkF m 122 #[.val (.int p0), .val (.long q1), .second, .val (.int p2), .val (.int p3), .val (.int p4), .val (.int fl), .val (.long val), .second, .val (.ref b18), .val (.long (own_pos fl val p2 p3)), .second, .val (.long (p2.toInt64)), .second, .val (.long (own_pos fl val p2 p4)), .second] [(.long ((own_pos fl val p2 p3) - (p2.toInt64)))])
      refine Done.go (fun _ k => XS.lload X21.here hx rfl (hb hby at_122) rfl k) ?_
      show Done p e s below _ _ _ T21 (mkF m 124 #[.val (.int p0), .val (.long q1), .second, .val (.int p2), .val (.int p3), .val (.int p4), .val (.int fl), .val (.long val), .second, .val (.ref b18), .val (.long (own_pos fl val p2 p3)), .second, .val (.long (p2.toInt64)), .second, .val (.long (own_pos fl val p2 p4)), .second] [(.long val), (.long ((own_pos fl val p2 p3) - (p2.toInt64)))])
      refine Done.go (fun _ k => XS.lcmp X21.here hx rfl (hb hby at_124) rfl k) ?_
      show Done p e s below _ _ _ T21 (mkF m 125 #[.val (.int p0), .val (.long q1), .second, .val (.int p2), .val (.int p3), .val (.int p4), .val (.int fl), .val (.long val), .second, .val (.ref b18), .val (.long (own_pos fl val p2 p3)), .second, .val (.long (p2.toInt64)), .second, .val (.long (own_pos fl val p2 p4)), .second] [(.int (lcmpW ((own_pos fl val p2 p3) - (p2.toInt64)) val))])
      refine Done.go (fun _ k => XS.ifNo X21.here hx rfl (hb hby at_125) rfl ((if0 _ _).trans (teq ((lw_eq _ _).mpr (by simp only [own_pos, hc77, if_true, if_false]; exact own_asc _ _))).2) k) ?_
      show Done p e s below _ _ _ T21 (mkF m 128 #[.val (.int p0), .val (.long q1), .second, .val (.int p2), .val (.int p3), .val (.int p4), .val (.int fl), .val (.long val), .second, .val (.ref b18), .val (.long (own_pos fl val p2 p3)), .second, .val (.long (p2.toInt64)), .second, .val (.long (own_pos fl val p2 p4)), .second] [])
      refine Done.go (fun _ k => XS.lload X21.here hx rfl (hb hby at_128) rfl k) ?_
      show Done p e s below _ _ _ T21 (mkF m 130 #[.val (.int p0), .val (.long q1), .second, .val (.int p2), .val (.int p3), .val (.int p4), .val (.int fl), .val (.long val), .second, .val (.ref b18), .val (.long (own_pos fl val p2 p3)), .second, .val (.long (p2.toInt64)), .second, .val (.long (own_pos fl val p2 p4)), .second] [(.long (own_pos fl val p2 p4))])
      refine Done.go (fun _ k => XS.lload X21.here hx rfl (hb hby at_130) rfl k) ?_
      show Done p e s below _ _ _ T21 (mkF m 132 #[.val (.int p0), .val (.long q1), .second, .val (.int p2), .val (.int p3), .val (.int p4), .val (.int fl), .val (.long val), .second, .val (.ref b18), .val (.long (own_pos fl val p2 p3)), .second, .val (.long (p2.toInt64)), .second, .val (.long (own_pos fl val p2 p4)), .second] [(.long (own_pos fl val p2 p3)), (.long (own_pos fl val p2 p4))])
      refine Done.go (fun _ k => XS.lcmp X21.here hx rfl (hb hby at_132) rfl k) ?_
      show Done p e s below _ _ _ T21 (mkF m 133 #[.val (.int p0), .val (.long q1), .second, .val (.int p2), .val (.int p3), .val (.int p4), .val (.int fl), .val (.long val), .second, .val (.ref b18), .val (.long (own_pos fl val p2 p3)), .second, .val (.long (p2.toInt64)), .second, .val (.long (own_pos fl val p2 p4)), .second] [(.int (lcmpW (own_pos fl val p2 p4) (own_pos fl val p2 p3)))])
      refine Done.go (fun _ k => XS.ifNo X21.here hx rfl (hb hby at_133) rfl ((if0 _ _).trans (teq ((lw_eq _ _).mpr (by simp only [own_pos, hc77, if_true, if_false]))).2) k) ?_
      show Done p e s below _ _ _ T21 (mkF m 136 #[.val (.int p0), .val (.long q1), .second, .val (.int p2), .val (.int p3), .val (.int p4), .val (.int fl), .val (.long val), .second, .val (.ref b18), .val (.long (own_pos fl val p2 p3)), .second, .val (.long (p2.toInt64)), .second, .val (.long (own_pos fl val p2 p4)), .second] [])
      refine Done.go (fun _ k => XS.iconst X21.here hx rfl (hb hby at_136) k) ?_
      show Done p e s below _ _ _ T21 (mkF m 137 #[.val (.int p0), .val (.long q1), .second, .val (.int p2), .val (.int p3), .val (.int p4), .val (.int fl), .val (.long val), .second, .val (.ref b18), .val (.long (own_pos fl val p2 p3)), .second, .val (.long (p2.toInt64)), .second, .val (.long (own_pos fl val p2 p4)), .second] [(.int (1 : Int32))])
      refine Done.go (fun _ k => XS.goto X21.here hx rfl (pc0 := 137) (pc' := 141) rfl (hb hby at_137) (by decide) (by decide) k) ?_
      show Done p e s below _ _ _ T21 (mkF m 141 #[.val (.int p0), .val (.long q1), .second, .val (.int p2), .val (.int p3), .val (.int p4), .val (.int fl), .val (.long val), .second, .val (.ref b18), .val (.long (own_pos fl val p2 p3)), .second, .val (.long (p2.toInt64)), .second, .val (.long (own_pos fl val p2 p4)), .second] [(.int (1 : Int32))])
      refine Done.retN X21 hx hlk (t := .boolean) hrt (by simp) (z' := (1 : Int32)) rfl (hb hby at_141) ?_ (by first | decide | omega) (by first | decide | omega)
      rw [e21]
      exact ⟨rfl, N21⟩
    · skip
      refine Done.go (fun _ k => XS.ifNo X20.here hx rfl (hb hby at_77) rfl ((if0 _ _).trans (feq hc77).1) k) ?_
      show Done p e s below _ _ _ T20 (mkF m 80 #[.val (.int p0), .val (.long q1), .second, .val (.int p2), .val (.int p3), .val (.int p4), .val (.int fl), .val (.long val), .second, .val (.ref b18), .val (.long (own_pos fl val p2 p3)), .second, .unset, .unset, .unset, .unset] [])
      refine Done.go (fun _ k => XS.iload X20.here hx rfl (hb hby at_80) rfl k) ?_
      show Done p e s below _ _ _ T20 (mkF m 82 #[.val (.int p0), .val (.long q1), .second, .val (.int p2), .val (.int p3), .val (.int p4), .val (.int fl), .val (.long val), .second, .val (.ref b18), .val (.long (own_pos fl val p2 p3)), .second, .unset, .unset, .unset, .unset] [(.int p3)])
      refine Done.go (fun _ k => XS.i2l X20.here hx rfl (hb hby at_82) rfl k) ?_
      show Done p e s below _ _ _ T20 (mkF m 83 #[.val (.int p0), .val (.long q1), .second, .val (.int p2), .val (.int p3), .val (.int p4), .val (.int fl), .val (.long val), .second, .val (.ref b18), .val (.long (own_pos fl val p2 p3)), .second, .unset, .unset, .unset, .unset] [(.long (p3.toInt64))])
      refine Done.go (fun _ k => XS.goto X20.here hx rfl (pc0 := 83) (pc' := 88) rfl (hb hby at_83) (by decide) (by decide) k) ?_
      show Done p e s below _ _ _ T20 (mkF m 88 #[.val (.int p0), .val (.long q1), .second, .val (.int p2), .val (.int p3), .val (.int p4), .val (.int fl), .val (.long val), .second, .val (.ref b18), .val (.long (own_pos fl val p2 p3)), .second, .unset, .unset, .unset, .unset] [(.long (p3.toInt64))])
      refine Done.go (fun _ k => XS.lstore X20.here hx rfl (hb hby at_88) rfl (l' := #[.val (.int p0), .val (.long q1), .second, .val (.int p2), .val (.int p3), .val (.int p4), .val (.int fl), .val (.long val), .second, .val (.ref b18), .val (.long (own_pos fl val p2 p3)), .second, .val (.long (p3.toInt64)), .second, .unset, .unset]) rfl k) ?_
      show Done p e s below _ _ _ T20 (mkF m 90 #[.val (.int p0), .val (.long q1), .second, .val (.int p2), .val (.int p3), .val (.int p4), .val (.int fl), .val (.long val), .second, .val (.ref b18), .val (.long (own_pos fl val p2 p3)), .second, .val (.long (p3.toInt64)), .second, .unset, .unset] [])
      refine Done.go (fun _ k => XS.iload X20.here hx rfl (hb hby at_90) rfl k) ?_
      show Done p e s below _ _ _ T20 (mkF m 92 #[.val (.int p0), .val (.long q1), .second, .val (.int p2), .val (.int p3), .val (.int p4), .val (.int fl), .val (.long val), .second, .val (.ref b18), .val (.long (own_pos fl val p2 p3)), .second, .val (.long (p3.toInt64)), .second, .unset, .unset] [(.int fl)])
      refine Done.go (fun _ k => XS.ifNo X20.here hx rfl (hb hby at_92) rfl ((if0 _ _).trans (feq hc77).1) k) ?_
      show Done p e s below _ _ _ T20 (mkF m 95 #[.val (.int p0), .val (.long q1), .second, .val (.int p2), .val (.int p3), .val (.int p4), .val (.int fl), .val (.long val), .second, .val (.ref b18), .val (.long (own_pos fl val p2 p3)), .second, .val (.long (p3.toInt64)), .second, .unset, .unset] [])
      refine Done.go (fun _ k => XS.aload X20.here hx rfl (hb hby at_95) rfl rfl k) ?_
      show Done p e s below _ _ _ T20 (mkF m 97 #[.val (.int p0), .val (.long q1), .second, .val (.int p2), .val (.int p3), .val (.int p4), .val (.int fl), .val (.long val), .second, .val (.ref b18), .val (.long (own_pos fl val p2 p3)), .second, .val (.long (p3.toInt64)), .second, .unset, .unset] [(.ref b18)])
      refine Done.go (fun _ k => XS.iload X20.here hx rfl (hb hby at_97) rfl k) ?_
      show Done p e s below _ _ _ T20 (mkF m 99 #[.val (.int p0), .val (.long q1), .second, .val (.int p2), .val (.int p3), .val (.int p4), .val (.int fl), .val (.long val), .second, .val (.ref b18), .val (.long (own_pos fl val p2 p3)), .second, .val (.long (p3.toInt64)), .second, .unset, .unset] [(.int p4), (.ref b18)])
      refine Done.go (fun _ k => XS.iload X20.here hx rfl (hb hby at_99) rfl k) ?_
      show Done p e s below _ _ _ T20 (mkF m 101 #[.val (.int p0), .val (.long q1), .second, .val (.int p2), .val (.int p3), .val (.int p4), .val (.int fl), .val (.long val), .second, .val (.ref b18), .val (.long (own_pos fl val p2 p3)), .second, .val (.long (p3.toInt64)), .second, .unset, .unset] [(.int p3), (.int p4), (.ref b18)])
      obtain ⟨cq22, kq22, q22a, q22b, q22c⟩ := isOf hZ e20 E19x
      obtain ⟨_, _, ⟨T22, L22, k22, n22⟩, -, X22, ⟨Lc22, hQ22, l22, y22, z22⟩, st22⟩ := X20.virtualBack hx (y := (⟨"com/example/scholium/scholium/model/Cursor", "position", "(II)J"⟩ : MethodName)) (z := (⟨"com/example/scholium/scholium/model/Cursor", "position", "(II)J"⟩ : MethodName)) hown (mvT hZ (hw _ (List.mem_of_getElem? (i := 18) rfl))) (mvT hZ (hw _ (List.mem_of_getElem? (i := 19) rfl))) (notFace_of_selects (args := #[]) (mvT hZ (hw _ (List.mem_of_getElem? (i := 21) rfl)))) (mvT hZ (hw _ (List.mem_of_getElem? (i := 21) rfl))) (mvT hZ (hw _ (List.mem_of_getElem? (i := 20) rfl))) (by decide) (backOf (W := 0) (rm4 l Z a0 hw [] b18 p4 p3 fl val T19.heap n0 Z19 Fa19 Fb19) hZ (hw _ (List.mem_of_getElem? (i := 22) rfl)) (hw _ (List.mem_of_getElem? (i := 2) rfl)) (by decide) (by decide)) q22a q22c (g := (mkF m 101 #[.val (.int p0), .val (.long q1), .second, .val (.int p2), .val (.int p3), .val (.int p4), .val (.int fl), .val (.long val), .second, .val (.ref b18), .val (.long (own_pos fl val p2 p3)), .second, .val (.long (p3.toInt64)), .second, .unset, .unset] [(.int p3), (.int p4), (.ref b18)])) rfl (by rw [hml]; rfl) (Steps.refl _) (argsL := [(.int p4), (.int p3)]) (rest := []) (lenOf own_pd2 rfl) rfl (by show 2 * 0 + _ ≤ _; exact Nat.le_of_eq rfl) (hb hby at_101) (fun _ _ => ⟨rfl, e20, (by first | decide | omega : (((0 + 1) + 0) + 0) + 0 ≤ _), (by first | decide | omega : (((0 + 2) + 0) + 0) + 0 ≤ _)⟩)
      dsimp only [Pt.U, Pt.locs, Pt.cells, Pt.slots] at X22 l22 y22 z22 st22 hQ22
      subst l22 y22 z22
      obtain ⟨rfl, N22q, e22⟩ := hQ22
      have N22 := Fr.app N20 N22q
      refine Done.via st22 ?_
      show Done p e s below _ _ _ T22 (mkF m 104 #[.val (.int p0), .val (.long q1), .second, .val (.int p2), .val (.int p3), .val (.int p4), .val (.int fl), .val (.long val), .second, .val (.ref b18), .val (.long (own_pos fl val p2 p3)), .second, .val (.long (p3.toInt64)), .second, .unset, .unset] [(.long (own_pos fl val p4 p3))])
      refine Done.go (fun _ k => XS.goto X22.here hx rfl (pc0 := 104) (pc' := 115) rfl (hb hby at_104) (by decide) (by decide) k) ?_
      show Done p e s below _ _ _ T22 (mkF m 115 #[.val (.int p0), .val (.long q1), .second, .val (.int p2), .val (.int p3), .val (.int p4), .val (.int fl), .val (.long val), .second, .val (.ref b18), .val (.long (own_pos fl val p2 p3)), .second, .val (.long (p3.toInt64)), .second, .unset, .unset] [(.long (own_pos fl val p4 p3))])
      refine Done.go (fun _ k => XS.lstore X22.here hx rfl (hb hby at_115) rfl (l' := #[.val (.int p0), .val (.long q1), .second, .val (.int p2), .val (.int p3), .val (.int p4), .val (.int fl), .val (.long val), .second, .val (.ref b18), .val (.long (own_pos fl val p2 p3)), .second, .val (.long (p3.toInt64)), .second, .val (.long (own_pos fl val p4 p3)), .second]) rfl k) ?_
      show Done p e s below _ _ _ T22 (mkF m 117 #[.val (.int p0), .val (.long q1), .second, .val (.int p2), .val (.int p3), .val (.int p4), .val (.int fl), .val (.long val), .second, .val (.ref b18), .val (.long (own_pos fl val p2 p3)), .second, .val (.long (p3.toInt64)), .second, .val (.long (own_pos fl val p4 p3)), .second] [])
      refine Done.go (fun _ k => XS.lload X22.here hx rfl (hb hby at_117) rfl k) ?_
      show Done p e s below _ _ _ T22 (mkF m 119 #[.val (.int p0), .val (.long q1), .second, .val (.int p2), .val (.int p3), .val (.int p4), .val (.int fl), .val (.long val), .second, .val (.ref b18), .val (.long (own_pos fl val p2 p3)), .second, .val (.long (p3.toInt64)), .second, .val (.long (own_pos fl val p4 p3)), .second] [(.long (own_pos fl val p2 p3))])
      refine Done.go (fun _ k => XS.lload X22.here hx rfl (hb hby at_119) rfl k) ?_
      show Done p e s below _ _ _ T22 (mkF m 121 #[.val (.int p0), .val (.long q1), .second, .val (.int p2), .val (.int p3), .val (.int p4), .val (.int fl), .val (.long val), .second, .val (.ref b18), .val (.long (own_pos fl val p2 p3)), .second, .val (.long (p3.toInt64)), .second, .val (.long (own_pos fl val p4 p3)), .second] [(.long (p3.toInt64)), (.long (own_pos fl val p2 p3))])
      refine Done.go (fun _ k => XS.lsub X22.here hx rfl (hb hby at_121) rfl k) ?_
      show Done p e s below _ _ _ T22 (mkF m 122 #[.val (.int p0), .val (.long q1), .second, .val (.int p2), .val (.int p3), .val (.int p4), .val (.int fl), .val (.long val), .second, .val (.ref b18), .val (.long (own_pos fl val p2 p3)), .second, .val (.long (p3.toInt64)), .second, .val (.long (own_pos fl val p4 p3)), .second] [(.long ((own_pos fl val p2 p3) - (p3.toInt64)))])
      refine Done.go (fun _ k => XS.lload X22.here hx rfl (hb hby at_122) rfl k) ?_
      show Done p e s below _ _ _ T22 (mkF m 124 #[.val (.int p0), .val (.long q1), .second, .val (.int p2), .val (.int p3), .val (.int p4), .val (.int fl), .val (.long val), .second, .val (.ref b18), .val (.long (own_pos fl val p2 p3)), .second, .val (.long (p3.toInt64)), .second, .val (.long (own_pos fl val p4 p3)), .second] [(.long val), (.long ((own_pos fl val p2 p3) - (p3.toInt64)))])
      refine Done.go (fun _ k => XS.lcmp X22.here hx rfl (hb hby at_124) rfl k) ?_
      show Done p e s below _ _ _ T22 (mkF m 125 #[.val (.int p0), .val (.long q1), .second, .val (.int p2), .val (.int p3), .val (.int p4), .val (.int fl), .val (.long val), .second, .val (.ref b18), .val (.long (own_pos fl val p2 p3)), .second, .val (.long (p3.toInt64)), .second, .val (.long (own_pos fl val p4 p3)), .second] [(.int (lcmpW ((own_pos fl val p2 p3) - (p3.toInt64)) val))])
      refine Done.go (fun _ k => XS.ifNo X22.here hx rfl (hb hby at_125) rfl ((if0 _ _).trans (teq ((lw_eq _ _).mpr (by simp only [own_pos, hc77, if_true, if_false]; exact own_asc _ _))).2) k) ?_
      show Done p e s below _ _ _ T22 (mkF m 128 #[.val (.int p0), .val (.long q1), .second, .val (.int p2), .val (.int p3), .val (.int p4), .val (.int fl), .val (.long val), .second, .val (.ref b18), .val (.long (own_pos fl val p2 p3)), .second, .val (.long (p3.toInt64)), .second, .val (.long (own_pos fl val p4 p3)), .second] [])
      refine Done.go (fun _ k => XS.lload X22.here hx rfl (hb hby at_128) rfl k) ?_
      show Done p e s below _ _ _ T22 (mkF m 130 #[.val (.int p0), .val (.long q1), .second, .val (.int p2), .val (.int p3), .val (.int p4), .val (.int fl), .val (.long val), .second, .val (.ref b18), .val (.long (own_pos fl val p2 p3)), .second, .val (.long (p3.toInt64)), .second, .val (.long (own_pos fl val p4 p3)), .second] [(.long (own_pos fl val p4 p3))])
      refine Done.go (fun _ k => XS.lload X22.here hx rfl (hb hby at_130) rfl k) ?_
      show Done p e s below _ _ _ T22 (mkF m 132 #[.val (.int p0), .val (.long q1), .second, .val (.int p2), .val (.int p3), .val (.int p4), .val (.int fl), .val (.long val), .second, .val (.ref b18), .val (.long (own_pos fl val p2 p3)), .second, .val (.long (p3.toInt64)), .second, .val (.long (own_pos fl val p4 p3)), .second] [(.long (own_pos fl val p2 p3)), (.long (own_pos fl val p4 p3))])
      refine Done.go (fun _ k => XS.lcmp X22.here hx rfl (hb hby at_132) rfl k) ?_
      show Done p e s below _ _ _ T22 (mkF m 133 #[.val (.int p0), .val (.long q1), .second, .val (.int p2), .val (.int p3), .val (.int p4), .val (.int fl), .val (.long val), .second, .val (.ref b18), .val (.long (own_pos fl val p2 p3)), .second, .val (.long (p3.toInt64)), .second, .val (.long (own_pos fl val p4 p3)), .second] [(.int (lcmpW (own_pos fl val p4 p3) (own_pos fl val p2 p3)))])
      refine Done.go (fun _ k => XS.ifNo X22.here hx rfl (hb hby at_133) rfl ((if0 _ _).trans (teq ((lw_eq _ _).mpr (by simp only [own_pos, hc77, if_true, if_false]))).2) k) ?_
      show Done p e s below _ _ _ T22 (mkF m 136 #[.val (.int p0), .val (.long q1), .second, .val (.int p2), .val (.int p3), .val (.int p4), .val (.int fl), .val (.long val), .second, .val (.ref b18), .val (.long (own_pos fl val p2 p3)), .second, .val (.long (p3.toInt64)), .second, .val (.long (own_pos fl val p4 p3)), .second] [])
      refine Done.go (fun _ k => XS.iconst X22.here hx rfl (hb hby at_136) k) ?_
      show Done p e s below _ _ _ T22 (mkF m 137 #[.val (.int p0), .val (.long q1), .second, .val (.int p2), .val (.int p3), .val (.int p4), .val (.int fl), .val (.long val), .second, .val (.ref b18), .val (.long (own_pos fl val p2 p3)), .second, .val (.long (p3.toInt64)), .second, .val (.long (own_pos fl val p4 p3)), .second] [(.int (1 : Int32))])
      refine Done.go (fun _ k => XS.goto X22.here hx rfl (pc0 := 137) (pc' := 141) rfl (hb hby at_137) (by decide) (by decide) k) ?_
      show Done p e s below _ _ _ T22 (mkF m 141 #[.val (.int p0), .val (.long q1), .second, .val (.int p2), .val (.int p3), .val (.int p4), .val (.int fl), .val (.long val), .second, .val (.ref b18), .val (.long (own_pos fl val p2 p3)), .second, .val (.long (p3.toInt64)), .second, .val (.long (own_pos fl val p4 p3)), .second] [(.int (1 : Int32))])
      refine Done.retN X22 hx hlk (t := .boolean) hrt (by simp) (z' := (1 : Int32)) rfl (hb hby at_141) ?_ (by first | decide | omega) (by first | decide | omega)
      rw [e22]
      exact ⟨rfl, N22⟩
  show Done p e s below _ _ _ s₁ (mkF m 0 #[.val (.int p0), .val (.long q1), .second, .val (.int p2), .val (.int p3), .val (.int p4), .unset, .unset, .unset, .unset, .unset, .unset, .unset, .unset, .unset, .unset] [])
  refine Done.go (fun _ k => XS.iloadN X0.here hx rfl (hb hby at_0) rfl k) ?_
  show Done p e s below _ _ _ s₁ (mkF m 1 #[.val (.int p0), .val (.long q1), .second, .val (.int p2), .val (.int p3), .val (.int p4), .unset, .unset, .unset, .unset, .unset, .unset, .unset, .unset, .unset, .unset] [(.int p0)])
  refine Done.go (fun _ k => XS.iconst X0.here hx rfl (hb hby at_1) k) ?_
  show Done p e s below _ _ _ s₁ (mkF m 2 #[.val (.int p0), .val (.long q1), .second, .val (.int p2), .val (.int p3), .val (.int p4), .unset, .unset, .unset, .unset, .unset, .unset, .unset, .unset, .unset, .unset] [(.int (1 : Int32)), (.int p0)])
  refine Done.go (fun _ k => XS.iand X0.here hx rfl (hb hby at_2) rfl k) ?_
  show Done p e s below _ _ _ s₁ (mkF m 3 #[.val (.int p0), .val (.long q1), .second, .val (.int p2), .val (.int p3), .val (.int p4), .unset, .unset, .unset, .unset, .unset, .unset, .unset, .unset, .unset, .unset] [(.int (p0 &&& (1 : Int32)))])
  by_cases hc3 : (p0 &&& (1 : Int32)) = (0 : Int32)
  · skip
    refine Done.go (fun _ k => XS.ifYes X0.here hx rfl (pc0 := 3) (pc' := 10) rfl (hb hby at_3) rfl ((if0 _ _).trans (teq hc3).1) (by decide) (by decide) k) ?_
    show Done p e s below _ _ _ s₁ (mkF m 10 #[.val (.int p0), .val (.long q1), .second, .val (.int p2), .val (.int p3), .val (.int p4), .unset, .unset, .unset, .unset, .unset, .unset, .unset, .unset, .unset, .unset] [])
    refine Done.go (fun _ k => XS.iconst X0.here hx rfl (hb hby at_10) k) ?_
    show Done p e s below _ _ _ s₁ (mkF m 11 #[.val (.int p0), .val (.long q1), .second, .val (.int p2), .val (.int p3), .val (.int p4), .unset, .unset, .unset, .unset, .unset, .unset, .unset, .unset, .unset, .unset] [(.int (0 : Int32))])
    refine Done.go (fun _ k => XS.istore X0.here hx rfl (hb hby at_11) rfl (l' := #[.val (.int p0), .val (.long q1), .second, .val (.int p2), .val (.int p3), .val (.int p4), .val (.int (0 : Int32)), .unset, .unset, .unset, .unset, .unset, .unset, .unset, .unset, .unset]) rfl k) ?_
    show Done p e s below _ _ _ s₁ (mkF m 13 #[.val (.int p0), .val (.long q1), .second, .val (.int p2), .val (.int p3), .val (.int p4), .val (.int (0 : Int32)), .unset, .unset, .unset, .unset, .unset, .unset, .unset, .unset, .unset] [])
    refine Done.go (fun _ k => XS.iload X0.here hx rfl (hb hby at_13) rfl k) ?_
    show Done p e s below _ _ _ s₁ (mkF m 15 #[.val (.int p0), .val (.long q1), .second, .val (.int p2), .val (.int p3), .val (.int p4), .val (.int (0 : Int32)), .unset, .unset, .unset, .unset, .unset, .unset, .unset, .unset, .unset] [(.int (0 : Int32))])
    refine Done.go (fun _ k => XS.ifYes X0.here hx rfl (pc0 := 15) (pc' := 35) rfl (hb hby at_15) rfl ((if0 _ _).trans (teq rfl).1) (by decide) (by decide) k) ?_
    show Done p e s below _ _ _ s₁ (mkF m 35 #[.val (.int p0), .val (.long q1), .second, .val (.int p2), .val (.int p3), .val (.int p4), .val (.int (0 : Int32)), .unset, .unset, .unset, .unset, .unset, .unset, .unset, .unset, .unset] [])
    refine Done.go (fun _ k => XS.lloadN X0.here hx rfl (hb hby at_35) rfl k) ?_
    show Done p e s below _ _ _ s₁ (mkF m 36 #[.val (.int p0), .val (.long q1), .second, .val (.int p2), .val (.int p3), .val (.int p4), .val (.int (0 : Int32)), .unset, .unset, .unset, .unset, .unset, .unset, .unset, .unset, .unset] [(.long q1)])
    refine Done.go (fun _ k => XS.lconst X0.here hx rfl (hb hby at_36) k) ?_
    show Done p e s below _ _ _ s₁ (mkF m 37 #[.val (.int p0), .val (.long q1), .second, .val (.int p2), .val (.int p3), .val (.int p4), .val (.int (0 : Int32)), .unset, .unset, .unset, .unset, .unset, .unset, .unset, .unset, .unset] [(.long (0 : Int64)), (.long q1)])
    refine Done.go (fun _ k => XS.lcmp X0.here hx rfl (hb hby at_37) rfl k) ?_
    show Done p e s below _ _ _ s₁ (mkF m 38 #[.val (.int p0), .val (.long q1), .second, .val (.int p2), .val (.int p3), .val (.int p4), .val (.int (0 : Int32)), .unset, .unset, .unset, .unset, .unset, .unset, .unset, .unset, .unset] [(.int (lcmpW q1 (0 : Int64)))])
    by_cases hc38 : (lcmpW q1 (0 : Int64)) < (0 : Int32)
    · skip
      refine Done.go (fun _ k => XS.ifYes X0.here hx rfl (pc0 := 38) (pc' := 45) rfl (hb hby at_38) rfl ((if0 _ _).trans (tlt hc38).1) (by decide) (by decide) k) ?_
      show Done p e s below _ _ _ s₁ (mkF m 45 #[.val (.int p0), .val (.long q1), .second, .val (.int p2), .val (.int p3), .val (.int p4), .val (.int (0 : Int32)), .unset, .unset, .unset, .unset, .unset, .unset, .unset, .unset, .unset] [])
      refine Done.go (fun _ k => XS.lloadN X0.here hx rfl (hb hby at_45) rfl k) ?_
      show Done p e s below _ _ _ s₁ (mkF m 46 #[.val (.int p0), .val (.long q1), .second, .val (.int p2), .val (.int p3), .val (.int p4), .val (.int (0 : Int32)), .unset, .unset, .unset, .unset, .unset, .unset, .unset, .unset, .unset] [(.long q1)])
      refine Done.go (fun t k => X0.ldc2Long hx hown (mvT hZ (hw _ (List.mem_of_getElem? (i := 23) rfl))) (g := (mkF m 46 #[.val (.int p0), .val (.long q1), .second, .val (.int p2), .val (.int p3), .val (.int p4), .val (.int (0 : Int32)), .unset, .unset, .unset, .unset, .unset, .unset, .unset, .unset, .unset] [(.long q1)])) rfl (hb hby at_46) t k) ?_
      show Done p e s below _ _ _ s₁ (mkF m 49 #[.val (.int p0), .val (.long q1), .second, .val (.int p2), .val (.int p3), .val (.int p4), .val (.int (0 : Int32)), .unset, .unset, .unset, .unset, .unset, .unset, .unset, .unset, .unset] [(.long (-1 : Int64)), (.long q1)])
      refine Done.go (fun _ k => XS.lxor X0.here hx rfl (hb hby at_49) rfl k) ?_
      show Done p e s below _ _ _ s₁ (mkF m 50 #[.val (.int p0), .val (.long q1), .second, .val (.int p2), .val (.int p3), .val (.int p4), .val (.int (0 : Int32)), .unset, .unset, .unset, .unset, .unset, .unset, .unset, .unset, .unset] [(.long (q1 ^^^ (-1 : Int64)))])
      refine Done.go (fun _ k => XS.lstore X0.here hx rfl (hb hby at_50) rfl (l' := #[.val (.int p0), .val (.long q1), .second, .val (.int p2), .val (.int p3), .val (.int p4), .val (.int (0 : Int32)), .val (.long (q1 ^^^ (-1 : Int64))), .second, .unset, .unset, .unset, .unset, .unset, .unset, .unset]) rfl k) ?_
      show Done p e s below _ _ _ s₁ (mkF m 52 #[.val (.int p0), .val (.long q1), .second, .val (.int p2), .val (.int p3), .val (.int p4), .val (.int (0 : Int32)), .val (.long (q1 ^^^ (-1 : Int64))), .second, .unset, .unset, .unset, .unset, .unset, .unset, .unset] [])
      exact J52 _ _ (Or.inl rfl) (fun h => absurd rfl h) (fun _ => own_inv ((lw_lt _ _).mp hc38))
    · skip
      refine Done.go (fun _ k => XS.ifNo X0.here hx rfl (hb hby at_38) rfl ((if0 _ _).trans (flt hc38).1) k) ?_
      show Done p e s below _ _ _ s₁ (mkF m 41 #[.val (.int p0), .val (.long q1), .second, .val (.int p2), .val (.int p3), .val (.int p4), .val (.int (0 : Int32)), .unset, .unset, .unset, .unset, .unset, .unset, .unset, .unset, .unset] [])
      refine Done.go (fun _ k => XS.lloadN X0.here hx rfl (hb hby at_41) rfl k) ?_
      show Done p e s below _ _ _ s₁ (mkF m 42 #[.val (.int p0), .val (.long q1), .second, .val (.int p2), .val (.int p3), .val (.int p4), .val (.int (0 : Int32)), .unset, .unset, .unset, .unset, .unset, .unset, .unset, .unset, .unset] [(.long q1)])
      refine Done.go (fun _ k => XS.goto X0.here hx rfl (pc0 := 42) (pc' := 50) rfl (hb hby at_42) (by decide) (by decide) k) ?_
      show Done p e s below _ _ _ s₁ (mkF m 50 #[.val (.int p0), .val (.long q1), .second, .val (.int p2), .val (.int p3), .val (.int p4), .val (.int (0 : Int32)), .unset, .unset, .unset, .unset, .unset, .unset, .unset, .unset, .unset] [(.long q1)])
      refine Done.go (fun _ k => XS.lstore X0.here hx rfl (hb hby at_50) rfl (l' := #[.val (.int p0), .val (.long q1), .second, .val (.int p2), .val (.int p3), .val (.int p4), .val (.int (0 : Int32)), .val (.long q1), .second, .unset, .unset, .unset, .unset, .unset, .unset, .unset]) rfl k) ?_
      show Done p e s below _ _ _ s₁ (mkF m 52 #[.val (.int p0), .val (.long q1), .second, .val (.int p2), .val (.int p3), .val (.int p4), .val (.int (0 : Int32)), .val (.long q1), .second, .unset, .unset, .unset, .unset, .unset, .unset, .unset] [])
      exact J52 _ _ (Or.inl rfl) (fun h => absurd rfl h) (fun _ => fun h => hc38 ((lw_lt _ _).mpr h))
  · skip
    refine Done.go (fun _ k => XS.ifNo X0.here hx rfl (hb hby at_3) rfl ((if0 _ _).trans (feq hc3).1) k) ?_
    show Done p e s below _ _ _ s₁ (mkF m 6 #[.val (.int p0), .val (.long q1), .second, .val (.int p2), .val (.int p3), .val (.int p4), .unset, .unset, .unset, .unset, .unset, .unset, .unset, .unset, .unset, .unset] [])
    refine Done.go (fun _ k => XS.iconst X0.here hx rfl (hb hby at_6) k) ?_
    show Done p e s below _ _ _ s₁ (mkF m 7 #[.val (.int p0), .val (.long q1), .second, .val (.int p2), .val (.int p3), .val (.int p4), .unset, .unset, .unset, .unset, .unset, .unset, .unset, .unset, .unset, .unset] [(.int (1 : Int32))])
    refine Done.go (fun _ k => XS.goto X0.here hx rfl (pc0 := 7) (pc' := 11) rfl (hb hby at_7) (by decide) (by decide) k) ?_
    show Done p e s below _ _ _ s₁ (mkF m 11 #[.val (.int p0), .val (.long q1), .second, .val (.int p2), .val (.int p3), .val (.int p4), .unset, .unset, .unset, .unset, .unset, .unset, .unset, .unset, .unset, .unset] [(.int (1 : Int32))])
    refine Done.go (fun _ k => XS.istore X0.here hx rfl (hb hby at_11) rfl (l' := #[.val (.int p0), .val (.long q1), .second, .val (.int p2), .val (.int p3), .val (.int p4), .val (.int (1 : Int32)), .unset, .unset, .unset, .unset, .unset, .unset, .unset, .unset, .unset]) rfl k) ?_
    show Done p e s below _ _ _ s₁ (mkF m 13 #[.val (.int p0), .val (.long q1), .second, .val (.int p2), .val (.int p3), .val (.int p4), .val (.int (1 : Int32)), .unset, .unset, .unset, .unset, .unset, .unset, .unset, .unset, .unset] [])
    refine Done.go (fun _ k => XS.iload X0.here hx rfl (hb hby at_13) rfl k) ?_
    show Done p e s below _ _ _ s₁ (mkF m 15 #[.val (.int p0), .val (.long q1), .second, .val (.int p2), .val (.int p3), .val (.int p4), .val (.int (1 : Int32)), .unset, .unset, .unset, .unset, .unset, .unset, .unset, .unset, .unset] [(.int (1 : Int32))])
    refine Done.go (fun _ k => XS.ifNo X0.here hx rfl (hb hby at_15) rfl ((if0 _ _).trans (feq (by decide)).1) k) ?_
    show Done p e s below _ _ _ s₁ (mkF m 18 #[.val (.int p0), .val (.long q1), .second, .val (.int p2), .val (.int p3), .val (.int p4), .val (.int (1 : Int32)), .unset, .unset, .unset, .unset, .unset, .unset, .unset, .unset, .unset] [])
    refine Done.go (fun _ k => XS.lloadN X0.here hx rfl (hb hby at_18) rfl k) ?_
    show Done p e s below _ _ _ s₁ (mkF m 19 #[.val (.int p0), .val (.long q1), .second, .val (.int p2), .val (.int p3), .val (.int p4), .val (.int (1 : Int32)), .unset, .unset, .unset, .unset, .unset, .unset, .unset, .unset, .unset] [(.long q1)])
    refine Done.go (fun _ k => XS.lconst X0.here hx rfl (hb hby at_19) k) ?_
    show Done p e s below _ _ _ s₁ (mkF m 20 #[.val (.int p0), .val (.long q1), .second, .val (.int p2), .val (.int p3), .val (.int p4), .val (.int (1 : Int32)), .unset, .unset, .unset, .unset, .unset, .unset, .unset, .unset, .unset] [(.long (0 : Int64)), (.long q1)])
    refine Done.go (fun _ k => XS.lcmp X0.here hx rfl (hb hby at_20) rfl k) ?_
    show Done p e s below _ _ _ s₁ (mkF m 21 #[.val (.int p0), .val (.long q1), .second, .val (.int p2), .val (.int p3), .val (.int p4), .val (.int (1 : Int32)), .unset, .unset, .unset, .unset, .unset, .unset, .unset, .unset, .unset] [(.int (lcmpW q1 (0 : Int64)))])
    by_cases hc21 : (0 : Int32) < (lcmpW q1 (0 : Int64))
    · skip
      refine Done.go (fun _ k => XS.ifYes X0.here hx rfl (pc0 := 21) (pc' := 28) rfl (hb hby at_21) rfl ((if0 _ _).trans (tlt hc21).2.2.1) (by decide) (by decide) k) ?_
      show Done p e s below _ _ _ s₁ (mkF m 28 #[.val (.int p0), .val (.long q1), .second, .val (.int p2), .val (.int p3), .val (.int p4), .val (.int (1 : Int32)), .unset, .unset, .unset, .unset, .unset, .unset, .unset, .unset, .unset] [])
      refine Done.go (fun _ k => XS.lloadN X0.here hx rfl (hb hby at_28) rfl k) ?_
      show Done p e s below _ _ _ s₁ (mkF m 29 #[.val (.int p0), .val (.long q1), .second, .val (.int p2), .val (.int p3), .val (.int p4), .val (.int (1 : Int32)), .unset, .unset, .unset, .unset, .unset, .unset, .unset, .unset, .unset] [(.long q1)])
      refine Done.go (fun _ k => XS.lneg X0.here hx rfl (hb hby at_29) rfl k) ?_
      show Done p e s below _ _ _ s₁ (mkF m 30 #[.val (.int p0), .val (.long q1), .second, .val (.int p2), .val (.int p3), .val (.int p4), .val (.int (1 : Int32)), .unset, .unset, .unset, .unset, .unset, .unset, .unset, .unset, .unset] [(.long (-q1))])
      refine Done.go (fun _ k => XS.lstore X0.here hx rfl (hb hby at_30) rfl (l' := #[.val (.int p0), .val (.long q1), .second, .val (.int p2), .val (.int p3), .val (.int p4), .val (.int (1 : Int32)), .val (.long (-q1)), .second, .unset, .unset, .unset, .unset, .unset, .unset, .unset]) rfl k) ?_
      show Done p e s below _ _ _ s₁ (mkF m 32 #[.val (.int p0), .val (.long q1), .second, .val (.int p2), .val (.int p3), .val (.int p4), .val (.int (1 : Int32)), .val (.long (-q1)), .second, .unset, .unset, .unset, .unset, .unset, .unset, .unset] [])
      refine Done.go (fun _ k => XS.goto X0.here hx rfl (pc0 := 32) (pc' := 52) rfl (hb hby at_32) (by decide) (by decide) k) ?_
      show Done p e s below _ _ _ s₁ (mkF m 52 #[.val (.int p0), .val (.long q1), .second, .val (.int p2), .val (.int p3), .val (.int p4), .val (.int (1 : Int32)), .val (.long (-q1)), .second, .unset, .unset, .unset, .unset, .unset, .unset, .unset] [])
      exact J52 _ _ (Or.inr rfl) (fun _ => own_neg ((lw_gt _ _).mp hc21)) (fun h => absurd h (by decide))
    · skip
      refine Done.go (fun _ k => XS.ifNo X0.here hx rfl (hb hby at_21) rfl ((if0 _ _).trans (flt hc21).2.2.1) k) ?_
      show Done p e s below _ _ _ s₁ (mkF m 24 #[.val (.int p0), .val (.long q1), .second, .val (.int p2), .val (.int p3), .val (.int p4), .val (.int (1 : Int32)), .unset, .unset, .unset, .unset, .unset, .unset, .unset, .unset, .unset] [])
      refine Done.go (fun _ k => XS.lloadN X0.here hx rfl (hb hby at_24) rfl k) ?_
      show Done p e s below _ _ _ s₁ (mkF m 25 #[.val (.int p0), .val (.long q1), .second, .val (.int p2), .val (.int p3), .val (.int p4), .val (.int (1 : Int32)), .unset, .unset, .unset, .unset, .unset, .unset, .unset, .unset, .unset] [(.long q1)])
      refine Done.go (fun _ k => XS.goto X0.here hx rfl (pc0 := 25) (pc' := 30) rfl (hb hby at_25) (by decide) (by decide) k) ?_
      show Done p e s below _ _ _ s₁ (mkF m 30 #[.val (.int p0), .val (.long q1), .second, .val (.int p2), .val (.int p3), .val (.int p4), .val (.int (1 : Int32)), .unset, .unset, .unset, .unset, .unset, .unset, .unset, .unset, .unset] [(.long q1)])
      refine Done.go (fun _ k => XS.lstore X0.here hx rfl (hb hby at_30) rfl (l' := #[.val (.int p0), .val (.long q1), .second, .val (.int p2), .val (.int p3), .val (.int p4), .val (.int (1 : Int32)), .val (.long q1), .second, .unset, .unset, .unset, .unset, .unset, .unset, .unset]) rfl k) ?_
      show Done p e s below _ _ _ s₁ (mkF m 32 #[.val (.int p0), .val (.long q1), .second, .val (.int p2), .val (.int p3), .val (.int p4), .val (.int (1 : Int32)), .val (.long q1), .second, .unset, .unset, .unset, .unset, .unset, .unset, .unset] [])
      refine Done.go (fun _ k => XS.goto X0.here hx rfl (pc0 := 32) (pc' := 52) rfl (hb hby at_32) (by decide) (by decide) k) ?_
      show Done p e s below _ _ _ s₁ (mkF m 52 #[.val (.int p0), .val (.long q1), .second, .val (.int p2), .val (.int p3), .val (.int p4), .val (.int (1 : Int32)), .val (.long q1), .second, .unset, .unset, .unset, .unset, .unset, .unset, .unset] [])
      exact J52 _ _ (Or.inr rfl) (fun _ => fun h => hc21 ((lw_gt _ _).mpr h)) (fun h => absurd h (by decide))
set_option maxRecDepth 65536 in
set_option maxHeartbeats 40000000 in
theorem comes_1 {Post : Tables → Env → Array Value → State → Outcome → State → Prop} (hpost : ∀ tb e args s v u, (limb_1_1.after args s (.returned v) u = true ∧ limb_1_2.after args s (.returned v) u = true ∧ True) → FrameEnd s (.returned v) u (Jvm.fieldLocs frame_1_writes args s ++ Jvm.arrayLocs frame_1_arrays args s ++ Jvm.staticLocs frame_1_statics s) 16 128 → Post tb e args s (.returned v) u) :
    ArmFor flags0 classFile x code maxLocals ret World_1 tables_1 room_1 Calls_1 rest_1 Pre_1 Post := by
  intro l hfl _ _ p e ha hc hk s m args below hf hA hF happ hP
  obtain ⟨hcalls, hrest, hpre⟩ := hP
  obtain ⟨-, -, -, hnamed, -, -, -, hat⟩ := (Spec.applies_iff hf).mp happ
  obtain ⟨hg, hn⟩ := and_e (Cond.before_iff.mp (show (Jvm.Cond.and given_1 narrow_1).before args s = true from hpre))
  obtain ⟨hcount, hg⟩ := and_e hg
  obtain ⟨hv0, hg⟩ := and_e hg
  obtain ⟨hv1, hg⟩ := and_e hg
  obtain ⟨hv2, hg⟩ := and_e hg
  obtain ⟨hv3, hg⟩ := and_e hg
  have hv4 := hg
  obtain ⟨w0, w1, w2, w3, w4, rfl⟩ : ∃ w0 w1 w2 w3 w4 : Value, args = #[w0, w1, w2, w3, w4] := by
    have hs : args.size = 5 := by simpa [Cond.value, given_1] using hcount
    obtain ⟨L⟩ := args
    match L, hs with
    | [w0, w1, w2, w3, w4], _ => exact ⟨w0, w1, w2, w3, w4, rfl⟩
  have hw := fun d (hd : d ∈ tables_1) => atoms_spec (ws := Jvm.Cond.code x code maxLocals ret :: tables_1) hat d (List.mem_cons_of_mem _ hd)
  have hfit : Fit s := fun {y c} hc i hi => by
    obtain ⟨ha, rfl⟩ := Array.getElem?_eq_some_iff.mp hc
    have q := List.all_eq_true.mp ((Array.all_eq_true_iff_forall_mem.mp hF) _ (Array.getElem_mem ha)) i (List.mem_range.mpr hi)
    simpa [Array.getElem?_eq_getElem hi] using q
  obtain ⟨i0, ei0⟩ := is_v hv0
  obtain rfl : w0 = (.int i0) := Option.some.inj ei0
  obtain ⟨i1, ei1⟩ := isL_v hv1
  obtain rfl : w1 = (.long i1) := Option.some.inj ei1
  obtain ⟨i2, ei2⟩ := is_v hv2
  obtain rfl : w2 = (.int i2) := Option.some.inj ei2
  obtain ⟨i3, ei3⟩ := is_v hv3
  obtain rfl : w3 = (.int i3) := Option.some.inj ei3
  obtain ⟨i4, ei4⟩ := is_v hv4
  obtain rfl : w4 = (.int i4) := Option.some.inj ei4
  obtain ⟨n, o, h1, h2, h3, _, L, rfl, ⟨rfl, N⟩, hq⟩ := rm0 l s _ hw tables_1 i0 i1 i2 i3 i4 s.heap s.heap.size (Nat.le_refl _)  p e ha hc hk s m _ below hf ((Spec.applies_iff_loose hf).mp happ).1 ⟨rfl, State.Warmed39.refl s, rfl⟩ trivial
  refine ⟨n, _, h1, h2, h3, hpost _ _ _ _ _ _ ⟨Cond.after_iff.mpr rfl, Cond.after_iff.mpr (eq_i res_at (Term.int_eval (1)) rfl), trivial⟩ ⟨hq.1, hq.2.1, (hq.2.2.sift fun y hy => Or.inr (N y hy)).mono (by decide) (by decide)⟩⟩
theorem main_1_1 : Claimed_1_1 := comes_1 fun _ _ _ _ _ _ h hF => ⟨h.1, hF⟩
theorem main_1_2 : Claimed_1_2 := comes_1 fun _ _ _ _ _ _ h hF => ⟨h.2.1, hF⟩
end Jvm.Pilot.@@N@@
namespace Jvm.Pilot.@@N@@
open Jvm Jvm.ClassFile Sem Op Lib Jvm.Free Jvm.Stand Jvm.Pilot.@@N@@.Jvm.D
/-! MADE BY PROGRAM (witnessworld.py) out of the Statement's table words and the real class files: 10 classes; the members and pool entries that the words name. The judged class is class 1, her method 1. -/
namespace start1
open Jvm.ClassFile
def u (s : String) : CpInfo := .utf8 (stringToUtf16 s)
/-- a pool by its gaps: so many unusable entries, then the entry; so many at the end -/
def gap : Nat → List CpInfo → List CpInfo
  | 0, r => r
  | n + 1, r => .unusable :: gap n r
def poolList (es : List (Nat × CpInfo)) (last : Nat) : List CpInfo := es.foldr (fun e r => gap e.1 (e.2 :: r)) (gap last [])
def pool (es : List (Nat × CpInfo)) (last : Nat) : Array CpInfo := ⟨poolList es last⟩
def fileOf (pool : Array CpInfo) (this : Nat) (attrs : Array Attribute := #[]) (ms : Array MethodInfo := #[]) (fl : Nat := 33) (sup : Nat := 0) (ifs : Array Nat := #[]) (fds : Array FieldInfo := #[]) : ClassFile where
  minorVersion := 0
  majorVersion := 65
  constantPool := pool
  accessFlags := fl
  thisClass := this
  superClass := sup
  interfaces := ifs
  fields := fds
  methods := ms
  attributes := attrs
def plain (name : String) (sup : Option ClassId) : Class where
  name := name
  kind := .ordinary
  loader := none
  accessFlags := 33
  super := sup
  interfaces := #[]
  cf := none
  fields := #[]
  methods := #[]
  instanceTypes := #[]
  staticTypes := #[]
  resolved := #[]
  callSites := []
  init := .initialized
  statics := none
  mirror := none

def pool0 : Array CpInfo := pool [(5, u "<init>"), (0, u "()V"), (1, .class_ 10), (1, u "java/lang/Object")] 113

def k0c0 : Code := { maxStack := 0, maxLocals := 1, code := object_method_1_code, exceptionTable := #[], attributes := #[] }
def k0m0 : Method := { name := "<init>", desc := "()V", sig := { parameters := [], returnType := none }, accessFlags := 1, code := some k0c0 }
/-- java/lang/Object -/
def k0 : Class := { plain "java/lang/Object" none with
  accessFlags := 33
  interfaces := #[]
  cf := some (fileOf pool0 8 #[] #[{ accessFlags := 1, nameIndex := 5, descriptorIndex := 6, attributes := #[] }] 33 0 #[] #[])
  fields := #[]
  methods := #[k0m0]
  instanceTypes := #[]
  staticTypes := #[]
  resolved := Array.replicate 124 none
  statics := none }

def pool1 : Array CpInfo := pool [(2, .class_ 4), (1, u "java/lang/Object"), (0, u "<init>"), (0, u "()V"), (0, .long 18446744073709551615), (1, .class_ 10), (0, u "com/example/scholium/scholium/model/Cursor"), (0, .methodref 9 12), (0, .nameAndType 5 13), (0, u "(ZJ)V"), (0, .methodref 9 15), (0, .nameAndType 16 17), (0, u "position"), (0, u "(II)J"), (0, .class_ 19), (0, u "com/example/scholium/scholium/model/CursorPositionPinLaw"), (2, u "law"), (0, u "(IJIII)Z")] 3

def k1m0 : Method := { name := "<init>", desc := "()V", sig := { parameters := [], returnType := none }, accessFlags := 1, code := none }
def k1c1 : Code := { maxStack := 5, maxLocals := 16, code := code, exceptionTable := #[], attributes := #[] }
def k1m1 : Method := { name := "law", desc := "(IJIII)Z", sig := { parameters := [.int, .long, .int, .int, .int], returnType := some .boolean }, accessFlags := 9, code := some k1c1 }
/-- com/example/scholium/scholium/model/CursorPositionPinLaw -/
def k1 : Class := { plain "com/example/scholium/scholium/model/CursorPositionPinLaw" (some 0) with
  accessFlags := 49
  interfaces := #[]
  cf := some (fileOf pool1 18 #[] #[{ accessFlags := 1, nameIndex := 5, descriptorIndex := 6, attributes := #[] }, { accessFlags := 9, nameIndex := 22, descriptorIndex := 23, attributes := #[] }] 49 2 #[] #[])
  fields := #[]
  methods := #[k1m0, k1m1]
  instanceTypes := #[]
  staticTypes := #[]
  resolved := Array.replicate 27 none
  statics := none }

def pool2 : Array CpInfo := pool [(1, .methodref 2 3), (0, .class_ 4), (0, .nameAndType 5 6), (0, u "java/lang/Object"), (0, u "<init>"), (0, u "()V"), (0, .class_ 8), (0, u "java/lang/Record")] 13

def k2c0 : Code := { maxStack := 1, maxLocals := 1, code := jdk_30_method_1_code, exceptionTable := #[], attributes := #[] }
def k2m0 : Method := { name := "<init>", desc := "()V", sig := { parameters := [], returnType := none }, accessFlags := 4, code := some k2c0 }
/-- java/lang/Record -/
def k2 : Class := { plain "java/lang/Record" (some 0) with
  accessFlags := 1057
  interfaces := #[]
  cf := some (fileOf pool2 7 #[] #[{ accessFlags := 4, nameIndex := 5, descriptorIndex := 6, attributes := #[] }] 1057 2 #[] #[])
  fields := #[]
  methods := #[k2m0]
  instanceTypes := #[]
  staticTypes := #[]
  resolved := Array.replicate 22 none
  statics := none }

def pool3 : Array CpInfo := pool [(1, .methodref 2 3), (0, .class_ 4), (0, .nameAndType 5 6), (0, u "java/lang/Record"), (0, u "<init>"), (0, u "()V"), (10, .fieldref 18 19), (0, .class_ 20), (0, .nameAndType 21 22), (0, u "com/example/scholium/scholium/model/Cursor"), (0, u "endAligned"), (0, u "Z"), (0, .fieldref 18 24), (0, .nameAndType 25 26), (0, u "value"), (0, u "J"), (2, u "(ZJ)V"), (18, u "position"), (0, u "(II)J")] 36

def k3c0 : Code := { maxStack := 4, maxLocals := 4, code := prog_25_method_1_code, exceptionTable := #[], attributes := #[] }
def k3m0 : Method := { name := "<init>", desc := "(ZJ)V", sig := { parameters := [.boolean, .long], returnType := none }, accessFlags := 1, code := some k3c0 }
def k3c1 : Code := { maxStack := 4, maxLocals := 3, code := prog_25_method_3_code, exceptionTable := #[], attributes := #[] }
def k3m1 : Method := { name := "position", desc := "(II)J", sig := { parameters := [.int, .int], returnType := some .long }, accessFlags := 1, code := some k3c1 }
/-- com/example/scholium/scholium/model/Cursor -/
def k3 : Class := { plain "com/example/scholium/scholium/model/Cursor" (some 2) with
  accessFlags := 49
  interfaces := #[]
  cf := some (fileOf pool3 18 #[] #[{ accessFlags := 1, nameIndex := 5, descriptorIndex := 29, attributes := #[] }, { accessFlags := 1, nameIndex := 48, descriptorIndex := 49, attributes := #[] }] 49 2 #[] #[{ accessFlags := 18, nameIndex := 21, descriptorIndex := 22, attributes := #[] }, { accessFlags := 18, nameIndex := 25, descriptorIndex := 26, attributes := #[] }])
  fields := #[{ name := "endAligned", type := .boolean, accessFlags := 18, slot := 0, constantValue := 0 }, { name := "value", type := .long, accessFlags := 18, slot := 1, constantValue := 0 }]
  methods := #[k3m0, k3m1]
  instanceTypes := #[.boolean, .long]
  staticTypes := #[]
  resolved := Array.replicate 86 none
  statics := none }

def pool4 : Array CpInfo := pool [(1, u "java/lang/Cloneable"), (0, .class_ 1), (0, u "java/lang/Object"), (0, .class_ 3)] 3

/-- java/lang/Cloneable -/
def k4 : Class := { plain "java/lang/Cloneable" (some 0) with
  accessFlags := 1537
  interfaces := #[]
  cf := some (fileOf pool4 2 #[] #[] 1537 4 #[] #[])
  fields := #[]
  methods := #[]
  instanceTypes := #[]
  staticTypes := #[]
  resolved := Array.replicate 8 none
  statics := none }

def pool5 : Array CpInfo := pool [(1, u "java/io/Serializable"), (0, .class_ 1), (0, u "java/lang/Object"), (0, .class_ 3)] 3

/-- java/io/Serializable -/
def k5 : Class := { plain "java/io/Serializable" (some 0) with
  accessFlags := 1537
  interfaces := #[]
  cf := some (fileOf pool5 2 #[] #[] 1537 4 #[] #[])
  fields := #[]
  methods := #[]
  instanceTypes := #[]
  staticTypes := #[]
  resolved := Array.replicate 8 none
  statics := none }

/-- the primitive byte -/
def k6 : Class := { plain "byte" none with kind := .primitive 'B', accessFlags := 0x411 }
/-- [B -/
def k7 : Class := { plain "[B" (some 0) with kind := .array 6 .byte, interfaces := #[4, 5], accessFlags := 1041 }

/-- the primitive int -/
def k8 : Class := { plain "int" none with kind := .primitive 'I', accessFlags := 0x411 }
/-- [I -/
def k9 : Class := { plain "[I" (some 0) with kind := .array 8 .int, interfaces := #[4, 5], accessFlags := 1041 }

def heap : Heap := #[]
def classes : Array Class := #[k0, k1, k2, k3, k4, k5, k6, k7, k8, k9]
def interned : List (Array UInt16 × Addr) := []
def slotsUsed : Nat := 0
def theMethod : MethodId := ⟨1, 1⟩
def args0 : Array Value := #[.int 5, .long 5, .int 1, .int 2, .int 3]
def aboutOver (below : List Frame) : State where
  vm := { classes := classes, interned := interned.toArray }
  heap := heap
  slotsUsed := slotsUsed
  threads := #[{ frames := .invoking theMethod args0 :: below }]
def below0 : List Frame := [.native { method := ⟨0, 0⟩, args := #[] }]
def about1 : State := aboutOver below0
def p0 : Program := .bare "" "" ""
def e0 : Env := launch0.env 0 0 0
theorem w_frames : about1.frames = Frame.invoking theMethod args0 :: below0 := rfl
set_option maxRecDepth 65536 in
theorem w_args : argsFit about1.vm theMethod args0 = true := by decide +kernel
set_option maxRecDepth 65536 in
theorem w_heap : heapFits about1 = true := by decide +kernel
set_option maxRecDepth 65536 in
theorem w_runnable : about1.curStatus? = some .runnable := by decide +kernel
set_option maxRecDepth 65536 in
theorem w_alone : about1.alone = true := by decide +kernel
set_option maxRecDepth 65536 in
theorem w_named : about1.methodNamed? x = some theMethod := by decide +kernel
set_option maxRecDepth 65536 in
theorem w_hears : about1.hears theMethod below0 = true := by decide +kernel
set_option maxRecDepth 65536 in
theorem w_ripe : about1.ripe theMethod args0 below0 = true := by decide +kernel
theorem w_running : about1.status = .running := rfl
set_option maxRecDepth 65536 in
theorem w_room : about1.hasRoom e0.platform room_1 = true :=
  launch0.hasRoom_least _ room_1 (by decide +kernel) (by decide +kernel) (by decide +kernel) (by decide +kernel) (by decide +kernel) (by decide +kernel)
theorem allAtoms_all (ts : List Jvm.Cond) (a : Array Jvm.Value) (st : Jvm.State) : (allAtoms ts).before a st = ts.all (fun c => c.before a st) := by
  induction ts with
  | nil => rfl
  | cons c t ih =>
    show (Jvm.Cond.and c (allAtoms t)).before a st = _
    rw [Jvm.Cond.before_and, ih, List.all_cons]
def words1 : List Jvm.Cond := Jvm.Cond.code x code maxLocals ret :: tables_1
/-- a 'code' word, met by the world's own term for the bytes: nothing is compared byte by byte -/
theorem code_word {y : MethodName} {bytes : ByteArray} {mx : Nat} {rt : Option FieldType} {a : Array Value} {s : State} {m : MethodId} {meth : Method} {c : Code} (h1 : s.methodNamed? y = some m) (h2 : s.vm.method? m = some meth) (h3 : meth.code = some c) (h4 : c.code = bytes)
    (h5 : (c.maxLocals == mx && c.exceptionTable.isEmpty && decide (c.maxStack ≤ mostOperands) && decide (meth.sig.returnType = rt) && !meth.locks && decide (parseMethodDescriptor y.desc = some meth.sig)) = true) : (Jvm.Cond.code y bytes mx rt).before a s = true := by
  simp only [Bool.and_eq_true, beq_iff_eq, Bool.not_eq_true', decide_eq_true_eq] at h5
  obtain ⟨⟨⟨⟨⟨g1, g2⟩, g3⟩, g4⟩, g5⟩, g6⟩ := h5
  simp [Cond.before, Cond.holds, Cond.value, h1, h2, h3, h4, g1, g2, g3, g4, g5, g6]
def isCode : Jvm.Cond → Bool
  | .code _ _ _ _ => true
  | _ => false
theorem all_split {L : List Jvm.Cond} {P : Jvm.Cond → Bool} (h1 : L.all (fun c => isCode c || P c) = true) (h2 : ∀ c ∈ L.filter isCode, P c = true) : L.all P = true := by
  refine List.all_eq_true.mpr fun c hc => ?_
  have h := List.all_eq_true.mp h1 c hc
  rcases Bool.eq_false_or_eq_true (isCode c) with hi | hi
  · exact h2 c (List.mem_filter.mpr ⟨hc, hi⟩)
  · simpa [hi] using h
set_option maxRecDepth 65536 in
theorem w_c0 : (Jvm.Cond.code x code maxLocals ret).before args0 about1 = true := code_word (m := ⟨1, 1⟩) (meth := k1m1) (c := k1c1) (by decide +kernel) rfl rfl rfl (by decide +kernel)
set_option maxRecDepth 65536 in
theorem w_c1 : (Jvm.Cond.code ({ cls := "com/example/scholium/scholium/model/Cursor", name := "<init>", desc := "(ZJ)V" } : Jvm.MethodName) prog_25_method_1_code (4 : Nat) (Option.none : Option Jvm.ClassFile.FieldType)).before args0 about1 = true := code_word (m := ⟨3, 0⟩) (meth := k3m0) (c := k3c0) (by decide +kernel) rfl rfl rfl (by decide +kernel)
set_option maxRecDepth 65536 in
theorem w_c2 : (Jvm.Cond.code ({ cls := "java/lang/Record", name := "<init>", desc := "()V" } : Jvm.MethodName) jdk_30_method_1_code (1 : Nat) (Option.none : Option Jvm.ClassFile.FieldType)).before args0 about1 = true := code_word (m := ⟨2, 0⟩) (meth := k2m0) (c := k2c0) (by decide +kernel) rfl rfl rfl (by decide +kernel)
set_option maxRecDepth 65536 in
theorem w_c3 : (Jvm.Cond.code ({ cls := "java/lang/Object", name := "<init>", desc := "()V" } : Jvm.MethodName) object_method_1_code (1 : Nat) (Option.none : Option Jvm.ClassFile.FieldType)).before args0 about1 = true := code_word (m := ⟨0, 0⟩) (meth := k0m0) (c := k0c0) (by decide +kernel) rfl rfl rfl (by decide +kernel)
set_option maxRecDepth 65536 in
theorem w_c4 : (Jvm.Cond.code ({ cls := "com/example/scholium/scholium/model/Cursor", name := "position", desc := "(II)J" } : Jvm.MethodName) prog_25_method_3_code (3 : Nat) (Option.some Jvm.ClassFile.FieldType.long)).before args0 about1 = true := code_word (m := ⟨3, 1⟩) (meth := k3m1) (c := k3c1) (by decide +kernel) rfl rfl rfl (by decide +kernel)
def codes1 : List Jvm.Cond := [Jvm.Cond.code x code maxLocals ret, Jvm.Cond.code ({ cls := "com/example/scholium/scholium/model/Cursor", name := "<init>", desc := "(ZJ)V" } : Jvm.MethodName) prog_25_method_1_code (4 : Nat) (Option.none : Option Jvm.ClassFile.FieldType), Jvm.Cond.code ({ cls := "java/lang/Record", name := "<init>", desc := "()V" } : Jvm.MethodName) jdk_30_method_1_code (1 : Nat) (Option.none : Option Jvm.ClassFile.FieldType), Jvm.Cond.code ({ cls := "java/lang/Object", name := "<init>", desc := "()V" } : Jvm.MethodName) object_method_1_code (1 : Nat) (Option.none : Option Jvm.ClassFile.FieldType), Jvm.Cond.code ({ cls := "com/example/scholium/scholium/model/Cursor", name := "position", desc := "(II)J" } : Jvm.MethodName) prog_25_method_3_code (3 : Nat) (Option.some Jvm.ClassFile.FieldType.long)]
set_option maxRecDepth 65536 in
theorem codes_eq : words1.filter isCode = codes1 := rfl
theorem w_codes : ∀ c ∈ words1.filter isCode, c.before args0 about1 = true := by
  rw [codes_eq]
  intro c hc
  simp only [codes1, List.mem_cons, List.not_mem_nil, or_false] at hc
  rcases hc with rfl | rfl | rfl | rfl | rfl
  · exact w_c0
  · exact w_c1
  · exact w_c2
  · exact w_c3
  · exact w_c4
set_option maxRecDepth 65536 in
theorem w_t1 : (words1.take 24).all (fun c => isCode c || c.before args0 about1) = true := by decide +kernel
set_option maxRecDepth 65536 in
theorem w_t2 : (words1.drop 24).all (fun c => isCode c || c.before args0 about1) = true := by decide +kernel
theorem w_tables : (allAtoms (Jvm.Cond.code x code maxLocals ret :: tables_1)).before args0 about1 = true := by
  rw [allAtoms_all]
  show words1.all (fun c => c.before args0 about1) = true
  refine all_split ?_ w_codes
  rw [← List.take_append_drop 24 words1, List.all_append, w_t1, w_t2]
  rfl
set_option maxRecDepth 65536 in
theorem w_case : (Jvm.Cond.and given_1 narrow_1).before args0 about1 = true := by decide +kernel
theorem w_applies : (headSpec (Jvm.Cond.code x code maxLocals ret :: tables_1) room_1).applies x e0.platform about1 = true :=
  (Spec.applies_iff w_frames).mpr ⟨w_running, w_runnable, w_alone, w_named, w_hears, w_ripe, w_room, w_tables⟩
theorem atStart : AtStart classFile x code maxLocals ret World_1 tables_1 room_1 Calls_1 rest_1 Pre_1 launch0 p0 e0 about1 theMethod args0 below0 :=
  ⟨lists_1, trivial, launch0.admits_env _ _ _, launch0.least_env, fairChoices_fair.cas, fairChoices_fair.clock, w_frames, w_args, w_heap, w_applies, trivial, trivial, w_case⟩
end start1
theorem witness_1 : WitnessClaimed_1 := ⟨start1.p0, start1.e0, start1.about1, start1.theMethod, start1.args0, start1.below0, start1.atStart⟩
end Jvm.Pilot.@@N@@
