import JvmDerived
import JvmDerived.Pilot.@@N@@Statement
import JvmDerived.Pilot.@@N@@Code
set_option linter.unusedVariables false
set_option linter.unusedSimpArgs false
namespace Jvm.RoadKit
open Sem ClassFile Op Lib Jvm.Stand Jvm.Free Jvm.LawKit
section Own
variable {p : Program} {l : Launch} {e : Env} {R : Room} {s : State} {m : MethodId} {args : Array Value} {below : List Frame} {meth : Method} {c : Code} {T T' : State} {locs : List Loc} {cells slots : Nat} {CC SS : Nat} {Q : Option Value → Heap → List Loc → Prop} {g g' : JFrame}
/-- from the frame g over T the run returns, and what it leaves is as Q says -/
def Done (p : Program) (e : Env) (s : State) (below : List Frame) (CC SS : Nat) (Q : Option Value → Heap → List Loc → Prop) (T : State) (g : JFrame) : Prop :=
  ∃ s₂ o, Steps p.tables e below (T.setTop g) s₂ ∧ s₂.status = .running ∧ Ended s₂ below o ∧ ∃ v L, o = .returned v ∧ Q v s₂.heap L ∧ FrameEnd s o s₂ L CC SS
theorem Done.go (st : ∀ t, Steps p.tables e below (T'.setTop g') t → Steps p.tables e below (T.setTop g) t) (k : Done p e s below CC SS Q T' g') : Done p e s below CC SS Q T g := by
  obtain ⟨s2, o, h, r⟩ := k; exact ⟨s2, o, st _ h, r⟩
theorem Done.via (st : Steps p.tables e below (T.setTop g) (T'.setTop g')) (k : Done p e s below CC SS Q T' g') : Done p e s below CC SS Q T g := by
  obtain ⟨s2, o, h, r⟩ := k; exact ⟨s2, o, st.trans h, r⟩
theorem Done.ret (X : Stand p l e R s m args below meth c T locs cells slots) (hlk : meth.locks = false) {v : Option Value} (hv : meth.sig.returnType = none → v = none)
    (st : ∀ fs : List Frame, (∀ (f : JFrame) (acts : List Action), f.method = m → f.locked = none → f.entered = [] → (doReturn e (T.setTop f) acts v).1 = T.setFrames fs) → Steps p.tables e below (T.setTop g) (T.setFrames fs))
    (hq : Q v T.heap locs) (hc : cells ≤ CC) (hs : slots ≤ SS) : Done p e s below CC SS Q T g := by
  obtain ⟨fs, hr, hrun, hended, hW, hsame⟩ := X.leave (v := v) hv hlk
  exact ⟨_, _, st fs hr, hrun, hended, _, _, rfl, hq, ⟨_, rfl⟩, hW, hsame.mono hc hs⟩
theorem Done.retI (X : Stand p l e R s m args below meth c T locs cells slots) (hx : p.tables.exec = Jvm.exec) (hlk : meth.locks = false) {pc : Nat} {Ls : Array Slot} {z : Int32} {rest : List Value} (hret : meth.sig.returnType = some .int) (hd : decode c.code pc = .ok (.ireturn, 1))
    (hq : Q (some (.int z)) T.heap locs) (hc : cells ≤ CC) (hs : slots ≤ SS) : Done p e s below CC SS Q T (mkF m pc Ls (.int z :: rest)) := by
  refine Done.ret X hlk (fun h => by rw [hret] at h; cases h) (fun fs hl => ?_) hq hc hs
  have hm' : T.vm.method? m = some meth := X.method'
  have hn : narrow .int (.int z) = .int z := rfl
  show Steps p.tables e below (T.setTop { method := m, pc := pc, locals := Ls, stack := _ :: rest, locked := none }) _
  jvm_step X.here [X.here.top, hx, hd, hm', hret, hn]
  first | (intro acts; rw [hl _ acts rfl rfl rfl]) | rw [hl _ _ rfl rfl rfl]
  exact Steps.refl _
theorem Done.retJ (X : Stand p l e R s m args below meth c T locs cells slots) (hx : p.tables.exec = Jvm.exec) (hlk : meth.locks = false) {pc : Nat} {Ls : Array Slot} {z : Int64} {rest : List Value} (hret : meth.sig.returnType = some .long) (hd : decode c.code pc = .ok (.lreturn, 1))
    (hq : Q (some (.long z)) T.heap locs) (hc : cells ≤ CC) (hs : slots ≤ SS) : Done p e s below CC SS Q T (mkF m pc Ls (.long z :: rest)) := by
  refine Done.ret X hlk (fun h => by rw [hret] at h; cases h) (fun fs hl => ?_) hq hc hs
  have hm' : T.vm.method? m = some meth := X.method'
  show Steps p.tables e below (T.setTop { method := m, pc := pc, locals := Ls, stack := _ :: rest, locked := none }) _
  jvm_step X.here [X.here.top, hx, hd, hm', hret]
  first | (intro acts; rw [hl _ acts rfl rfl rfl]) | rw [hl _ _ rfl rfl rfl]
  exact Steps.refl _
theorem Done.retR (X : Stand p l e R s m args below meth c T locs cells slots) (hx : p.tables.exec = Jvm.exec) (hlk : meth.locks = false) {pc : Nat} {Ls : Array Slot} {v : Value} {t : FieldType} {rest : List Value} (hret : meth.sig.returnType = some t) (ht : t.isReference = true) (hv : v.isRef = true) (hd : decode c.code pc = .ok (.areturn, 1))
    (hq : Q (some v) T.heap locs) (hc : cells ≤ CC) (hs : slots ≤ SS) : Done p e s below CC SS Q T (mkF m pc Ls (v :: rest)) := by
  refine Done.ret X hlk (fun h => by rw [hret] at h; cases h) (fun fs hl => ?_) hq hc hs
  have hm' : T.vm.method? m = some meth := X.method'
  show Steps p.tables e below (T.setTop { method := m, pc := pc, locals := Ls, stack := _ :: rest, locked := none }) _
  jvm_step X.here [X.here.top, hx, hd, hm', hret, ht, hv]
  first | (intro acts; rw [hl _ acts rfl rfl rfl]) | rw [hl _ _ rfl rfl rfl]
  exact Steps.refl _
theorem Done.retV (X : Stand p l e R s m args below meth c T locs cells slots) (hx : p.tables.exec = Jvm.exec) (hlk : meth.locks = false) {pc : Nat} {Ls : Array Slot} (hret : meth.sig.returnType = none) (hd : decode c.code pc = .ok (.return_, 1))
    (hq : Q none T.heap locs) (hc : cells ≤ CC) (hs : slots ≤ SS) : Done p e s below CC SS Q T (mkF m pc Ls []) :=
  Done.ret X hlk (fun _ => rfl) (fun fs hl => X.returnOut hx hret hd hl) hq hc hs
theorem Done.retN (X : Stand p l e R s m args below meth c T locs cells slots) (hx : p.tables.exec = Jvm.exec) (hlk : meth.locks = false) {pc : Nat} {Ls : Array Slot} {z z' : Int32} {t : FieldType} {rest : List Value} (hret : meth.sig.returnType = some t) (ht : t = .boolean ∨ t = .byte ∨ t = .char ∨ t = .short) (hz : nar t z = z')
    (hd : decode c.code pc = .ok (.ireturn, 1)) (hq : Q (some (.int z')) T.heap locs) (hc : cells ≤ CC) (hs : slots ≤ SS) : Done p e s below CC SS Q T (mkF m pc Ls (.int z :: rest)) := by
  subst hz
  exact Done.ret X hlk (fun h => by rw [hret] at h; cases h) (fun fs hl => Jvm.RoadKit.retN X hx hret ht hd hl) hq hc hs
theorem own_narB (x : Int32) : nar .byte x.toInt8.toInt32 = x.toInt8.toInt32 := by simp [nar]
end Own
end Jvm.RoadKit
namespace Jvm.RoadKit
open Sem ClassFile Op Lib Jvm.Stand Jvm.Free Jvm.LawKit
section OwnA
variable {p : Program} {l : Launch} {e : Env} {R : Room} {s : State} {m : MethodId} {args : Array Value} {below : List Frame} {meth : Method} {c : Code} {T T' : State} {locs : List Loc} {cells slots : Nat} {CC SS : Nat} {Q : Option Value → Heap → List Loc → Prop} {g g' : JFrame} {Z : State} {h h' : Heap} {a b : Addr} {ty : FieldType} {n : Nat} {f f' : Nat → Int32} {ws : List Addr} {sl : Nat} {v : Value}
/-- an array of n places at a; place i holds f i -/
def Ari (Z : State) (h : Heap) (a : Addr) (ty : FieldType) (n : Nat) (f : Nat → Int32) : Prop := ∃ cl : Cell, Arr Z h a cl ty ∧ cl.slots.size = n ∧ n < 2 ^ 31 ∧ ∀ i, i < n → cl.slots[i]? = some (.int (f i))
theorem Ari.lt (F : Ari Z h a ty n f) : a < h.size := by obtain ⟨_, A, -⟩ := F; exact A.lt
theorem Ari.ext (F : Ari Z h a ty n f) (E : Ext h h') : Ari Z h' a ty n f := by obtain ⟨cl, A, r⟩ := F; exact ⟨cl, A.ext E, r⟩
theorem Ari.other (F : Ari Z h b ty n f) (W : Wr h h' a sl v) (q : b ≠ a) : Ari Z h' b ty n f := by obtain ⟨cl, A, r⟩ := F; exact ⟨cl, A.other W q, r⟩
theorem Ari.keep (F : Ari Z h a ty n f) (K : Keep h h' ws) (q : a ∉ ws) : Ari Z h' a ty n f := by obtain ⟨cl, A, r⟩ := F; exact ⟨cl, ⟨K.2.1 a cl A.1 q, A.2⟩, r⟩
theorem Ari.congr (F : Ari Z h a ty n f) (q : ∀ i, i < n → f i = f' i) : Ari Z h a ty n f' := by obtain ⟨cl, A, r1, r2, r⟩ := F; exact ⟨cl, A, r1, r2, fun i hi => by rw [r i hi, q i hi]⟩
theorem Ari.small (F : Ari Z h a ty n f) : n < 2 ^ 31 := by obtain ⟨_, _, _, r, _⟩ := F; exact r
theorem Ari.set {j : Nat} {w : Int32} (F : Ari Z h a ty n f) (W : Wr h h' a j (.int w)) : Ari Z h' a ty n (fun i => if i = j then w else f i) := by
  obtain ⟨cl, A, r1, r2, r⟩ := F
  refine ⟨_, A.same W, by rw [sz_set]; exact r1, r2, fun i hi => ?_⟩
  by_cases u : i = j
  · subst u; simp [Cell.setSlot, r1, hi]
  · have := r i hi; simp only [Cell.setSlot, if_neg u]; rw [Array.getElem?_setIfInBounds_ne (Ne.symm u)]; exact this
theorem Ari.new {k : ClassId} {z : Int32} (A : Arr Z h a (newA k ty z) ty) (q : ¬ z < 0) (hz : z.toNatClampNeg = n) (hd : defaultValue ty = .int 0) : Ari Z h a ty n (fun _ => 0) :=
  ⟨_, A, by rw [sz_new, hz], by have := (back32 q).2; rw [hz] at this; exact this, fun i hi => by simp [newA, hz, hi, hd]⟩
theorem Ari.inb {cl : Cell} {j : Int32} {i : Nat} (hs : cl.slots.size = n) (hj : ¬ j < 0) (hi : j.toNatClampNeg = i) (hn : i < n) : ¬ (j < 0 ∨ cl.slots.size ≤ j.toNatClampNeg) := by
  rintro (q | q)
  · exact hj q
  · rw [hs, hi] at q; omega
theorem own_stB (X : Stand p l e R s m args below meth c T locs cells slots) (hx : p.tables.exec = Jvm.exec) (hZ : Z.Warmed39 s.vm) (eT : T.heap = h) (F : Ari Z h a .byte n f) {j x : Int32} (i : Nat) (hj : ¬ j < 0) (hi : j.toNatClampNeg = i) (hn : i < n) {g : JFrame} (hg : g.method = m) {rest : List Value} (hs : g.stack = .int x :: .int j :: .ref a :: rest) (hd : decode c.code g.pc = .ok (.bastore, 1)) :
    ∃ T' h', Stand p l e R s m args below meth c T' (locs ++ [⟨a, i⟩]) cells slots ∧ T'.heap = h' ∧ Wr h h' a i (.int (nar .byte x)) ∧ Ari Z h' a .byte n (fun k => if k = i then nar .byte x else f k) ∧ ∀ target, Steps p.tables e below (T'.setTop { g with pc := g.pc + 1, stack := rest }) target → Steps p.tables e below (T.setTop g) target := by
  obtain ⟨cl, A, r1, r2, r⟩ := F
  obtain ⟨T', h', X', e', W, st⟩ := stB X hx hZ eT A (j := j) (x := x) (Ari.inb r1 hj hi hn) hg hs hd
  rw [hi] at X' W
  exact ⟨T', h', X', e', W, Ari.set ⟨cl, A, r1, r2, r⟩ W, st⟩
theorem Done.ldB (X : Stand p l e R s m args below meth c T locs cells slots) (hx : p.tables.exec = Jvm.exec) (hZ : Z.Warmed39 s.vm) (eT : T.heap = h) (F : Ari Z h a .byte n f) {j w : Int32} (i : Nat) (hj : ¬ j < 0) (hi : j.toNatClampNeg = i) (hn : i < n) (hw : f i = w) {pc : Nat} {Ls : Array Slot} {rest : List Value} (hd : decode c.code pc = .ok (.baload, 1))
    (k : Done p e s below CC SS Q T (mkF m (pc + 1) Ls (.int w :: rest))) : Done p e s below CC SS Q T (mkF m pc Ls (.int j :: .ref a :: rest)) := by
  obtain ⟨cl, A, r1, r2, r⟩ := F
  refine Done.go (fun t kk => X.baloadBytes hx (j := j) (v := .int w) (by rw [eT]; exact A.1) (State.isArrayOf_alike hZ.alike A.2.1) A.2.2 (Ari.inb r1 hj hi hn) (by rw [hi, ← hw]; exact r i hn) (g := (mkF m pc Ls (.int j :: .ref a :: rest))) rfl rfl hd t kk) k
theorem Done.len (X : Stand p l e R s m args below meth c T locs cells slots) (hx : p.tables.exec = Jvm.exec) (hZ : Z.Warmed39 s.vm) (eT : T.heap = h) (F : Ari Z h a ty n f) {z : Int32} (hz : n.toInt32 = z) {pc : Nat} {Ls : Array Slot} {rest : List Value} (hd : decode c.code pc = .ok (.arraylength, 1))
    (k : Done p e s below CC SS Q T (mkF m (pc + 1) Ls (.int z :: rest))) : Done p e s below CC SS Q T (mkF m pc Ls (.ref a :: rest)) := by
  obtain ⟨cl, A, r1, r2, r⟩ := F
  subst r1 hz
  exact Done.go (fun t kk => X.arraylength hx (by rw [eT]; exact A.1) (State.isArrayOf_alike hZ.alike A.2.1) (g := (mkF m pc Ls (.ref a :: rest))) rfl rfl hd t kk) k
theorem own_nt {a b : Prop} (h : a ↔ b) (q : ¬ a) : ¬ b := fun r => q (h.mpr r)
theorem own_lt32 {x y : Int32} (hx : ¬ x < 0) (hy : ¬ y < 0) : x < y ↔ x.toNatClampNeg < y.toNatClampNeg := by
  have h0 : (0 : Int32).toInt = 0 := rfl
  rw [Int32.lt_iff_toInt_lt, h0] at hx hy
  rw [Int32.lt_iff_toInt_lt]
  simp only [Int32.toNatClampNeg]; omega
theorem own_mask (x m : Int32) (k : Nat) (hk : k ≤ 31) (hm : m.toBitVec.toNat = 2 ^ k - 1) : ¬ (x &&& m) < 0 ∧ (x &&& m).toNatClampNeg < 2 ^ k := by
  have h := c_mask x m k hk hm
  have hp : (0 : Int) < (2 ^ k : Nat) := by exact_mod_cast Nat.two_pow_pos k
  have h1 := Int.emod_nonneg x.toInt (Int.ne_of_gt hp)
  have h2 := Int.emod_lt_of_pos x.toInt hp
  have h0 : (0 : Int32).toInt = 0 := rfl
  rw [Int32.lt_iff_toInt_lt, h0]
  simp only [Int32.toNatClampNeg]
  constructor
  · omega
  · rw [h]; omega
end OwnA
end Jvm.RoadKit
namespace Jvm.Pilot.@@N@@
open Jvm Jvm.ClassFile Sem Op Lib Jvm.Free Jvm.Stand Jvm.LawKit Jvm.RoadKit Bundle Jvm.Pilot.@@N@@.Jvm.D
abbrev own_isd (b : Int32) : Prop := ¬ b < 48 ∧ ¬ (57 : Int32) < b
def own_dig (b : Int32) : Int32 := if own_isd b then 1 else 0
def own_rec (n : Nat) (f : Nat → Int32) : Int32 := if 5 ≤ n ∧ own_isd (f 0) ∧ own_isd (f 1) ∧ own_isd (f 2) ∧ own_isd (f 3) ∧ own_isd (f 4) then 1 else 0
/-- one digit more -/
theorem own_step {t b : Int32} {M : Int} (hM : M ≤ 10000) (h : 0 ≤ t.toInt ∧ t.toInt < M) (d : own_isd b) : 0 ≤ ((t * 10 + b) - 48).toInt ∧ ((t * 10 + b) - 48).toInt < 10 * M := by
  obtain ⟨h1, h2⟩ := h
  obtain ⟨d1, d2⟩ := d
  rw [Int32.lt_iff_toInt_lt] at d1 d2
  have e48 : (48 : Int32).toInt = 48 := rfl
  have e57 : (57 : Int32).toInt = 57 := rfl
  have e10 : (10 : Int32).toInt = 10 := rfl
  rw [e48] at d1; rw [e57] at d2
  have a1 := c_imul t 10
  have a2 := c_iadd (t * 10) b
  have a3 := c_isub (t * 10 + b) 48
  have r1 := rng32 (t * 10)
  have r2 := rng32 (t * 10 + b)
  have r3 := rng32 (t * 10 + b - 48)
  rw [e10] at a1; rw [e48] at a3
  have q1 : (t * 10).toInt = 10 * t.toInt := by omega
  have q2 : (t * 10 + b).toInt = 10 * t.toInt + b.toInt := by omega
  omega
theorem own_nneg {t : Int32} (h : 0 ≤ t.toInt) : ¬ t < 0 := by
  rw [Int32.lt_iff_toInt_lt]; have : (0 : Int32).toInt = 0 := rfl; omega
def own_sel (b0 b1 b2 b3 b4 b5 b6 : Int32) : Nat → Int32
  | 0 => b0 | 1 => b1 | 2 => b2 | 3 => b3 | 4 => b4 | 5 => b5 | _ => b6
theorem own_len32 {z : Int32} {n : Nat} (h0 : ¬ z < 0) (hn : z.toNatClampNeg = n) : n.toInt32 = z := by subst hn; exact (back32 h0).1
theorem own_dig0 {b : Int32} (h : ¬ own_dig b = 0) : own_isd b := by
  by_cases q : own_isd b
  · exact q
  · exact absurd (if_neg q) h
theorem own_dig1 {b : Int32} (h : own_dig b = 0) : ¬ own_isd b := by
  intro q; unfold own_dig at h; rw [if_pos q] at h; exact absurd h (by decide)
theorem own_pd0 : parseMethodDescriptor "([BII)I" = some ⟨[(.array .byte), .int, .int], some .int⟩ := by decide +kernel
theorem own_pd1 : parseMethodDescriptor "(IIII)B" = some ⟨[.int, .int, .int, .int], some .byte⟩ := by decide +kernel
theorem own_pd2 : parseMethodDescriptor "([B)Z" = some ⟨[(.array .byte)], some .boolean⟩ := by decide +kernel
theorem own_pd3 : parseMethodDescriptor "(B)Z" = some ⟨[.byte], some .boolean⟩ := by decide +kernel
def Q1 (h0 : Heap) (n0 : Nat) (v : Option Value) (h : Heap) (L : List Loc) : Prop := ∃ r : Int32, v = some (.int r) ∧ nar .byte r = r ∧ Fr n0 L ∧ h = h0
theorem d1_0 : decode method_3_code 0 = .ok (.iload_n 0, 1) := by decide +kernel
theorem d1_1 : decode method_3_code 1 = .ok (.iload_n 1, 1) := by decide +kernel
theorem d1_2 : decode method_3_code 2 = .ok (.iushr, 1) := by decide +kernel
theorem d1_3 : decode method_3_code 3 = .ok (.sipush 255, 3) := by decide +kernel
theorem d1_6 : decode method_3_code 6 = .ok (.iand, 1) := by decide +kernel
theorem d1_7 : decode method_3_code 7 = .ok (.istore 4, 2) := by decide +kernel
theorem d1_9 : decode method_3_code 9 = .ok (.iload_n 2, 1) := by decide +kernel
theorem d1_10 : decode method_3_code 10 = .ok (.iload_n 3, 1) := by decide +kernel
theorem d1_11 : decode method_3_code 11 = .ok (.iushr, 1) := by decide +kernel
theorem d1_12 : decode method_3_code 12 = .ok (.iconst 1, 1) := by decide +kernel
theorem d1_13 : decode method_3_code 13 = .ok (.iand, 1) := by decide +kernel
theorem d1_14 : decode method_3_code 14 = .ok (.ifCond .eq 13, 3) := by decide +kernel
theorem d1_17 : decode method_3_code 17 = .ok (.bipush 44, 2) := by decide +kernel
theorem d1_19 : decode method_3_code 19 = .ok (.iload 4, 2) := by decide +kernel
theorem d1_21 : decode method_3_code 21 = .ok (.bipush 15, 2) := by decide +kernel
theorem d1_23 : decode method_3_code 23 = .ok (.iand, 1) := by decide +kernel
theorem d1_24 : decode method_3_code 24 = .ok (.iadd, 1) := by decide +kernel
theorem d1_25 : decode method_3_code 25 = .ok (.i2b, 1) := by decide +kernel
theorem d1_26 : decode method_3_code 26 = .ok (.ireturn, 1) := by decide +kernel
theorem d1_27 : decode method_3_code 27 = .ok (.iload 4, 2) := by decide +kernel
theorem d1_29 : decode method_3_code 29 = .ok (.i2b, 1) := by decide +kernel
theorem d1_30 : decode method_3_code 30 = .ok (.ireturn, 1) := by decide +kernel
theorem own_pn0 : plainName "spinecode/marc/Iso2709ReaderRecognisesPinLaw" = true := by first | (simp [plainName, overriddenIn]; done) | decide +kernel
theorem ef_rm1 (m : MethodId) (p1 : Int32) (p2 : Int32) (p3 : Int32) (p4 : Int32) : entryFrame m #[(.int p1), (.int p2), (.int p3), (.int p4)] 5 = mkF m 0 #[.val (.int p1), .val (.int p2), .val (.int p3), .val (.int p4), .unset] [] := by first | (simp [entryFrame, mkF, argsToLocals, Value.category]; done) | rfl
set_option maxRecDepth 65536 in
set_option maxHeartbeats 40000000 in
theorem rm1 (l : Launch) (Z : State) (a0 : Array Value) (hw : ∀ d ∈ tables_1, d.before a0 Z = true) (ws : List Jvm.Cond) (p1 : Int32) (p2 : Int32) (p3 : Int32) (p4 : Int32) (h0 : Heap) (n0 : Nat) (Z0 : n0 ≤ h0.size) :
    MetFree l (⟨"spinecode/marc/Iso2709ReaderRecognisesPinLaw", "pick", "(IIII)B"⟩ : MethodName) (head1 (Jvm.Cond.code (⟨"spinecode/marc/Iso2709ReaderRecognisesPinLaw", "pick", "(IIII)B"⟩ : MethodName) method_3_code 5 (some .byte) :: ws) ({ frames := 0, cells := 0, slots := 0, locals := 0 } : Room)) (fun a U => a = #[(.int p1), (.int p2), (.int p3), (.int p4)] ∧ Z.Warmed39 U.vm ∧ U.heap = h0) (fun _ _ _ _ _ => True) (fun _ U o U' => ∃ v L, o = .returned v ∧ Q1 h0 n0 v U'.heap L ∧ FrameEnd U o U' L 0 0) := by
  refine MetFree.of_bodySF (plainFor_of_name own_pn0) hisR ?_
  intro p e s m args below meth c s₁ Bd hml0 hP hK
  obtain ⟨rfl, hZ, hh⟩ := hP
  have hx := Bd.exec
  have hby := Bd.bytes
  have hml : c.maxLocals = 5 := hml0
  have hown : s.vm.findClass "spinecode/marc/Iso2709ReaderRecognisesPinLaw" = some m.cls := findClass_of_methodNamed Bd.named
  have hnm := (name_of_methodNamed Bd.named Bd.method).1
  have hlk : meth.locks = false := Bd.notSynchronized
  have hrt := Bd.returns
  have X0 : Stand p l e ({ frames := 0, cells := 0, slots := 0, locals := 0 } : Room) s m #[(.int p1), (.int p2), (.int p3), (.int p4)] below meth c s₁ [] 0 0 := Stand.of_body Bd
  have e0 : s₁.heap = h0 := by rw [← hh, Bd.state]; rfl
  have N0 := Fr.nil n0
  show Done p e s below 0 0 (Q1 h0 n0) s₁ (entryFrame m #[(.int p1), (.int p2), (.int p3), (.int p4)] 5)
  rw [ef_rm1]
  show Done p e s below _ _ _ s₁ (mkF m 0 #[.val (.int p1), .val (.int p2), .val (.int p3), .val (.int p4), .unset] [])
  refine Done.go (fun _ k => XS.iloadN X0.here hx rfl (hb hby d1_0) rfl k) ?_
  show Done p e s below _ _ _ s₁ (mkF m 1 #[.val (.int p1), .val (.int p2), .val (.int p3), .val (.int p4), .unset] [(.int p1)])
  refine Done.go (fun _ k => XS.iloadN X0.here hx rfl (hb hby d1_1) rfl k) ?_
  show Done p e s below _ _ _ s₁ (mkF m 2 #[.val (.int p1), .val (.int p2), .val (.int p3), .val (.int p4), .unset] [(.int p2), (.int p1)])
  refine Done.go (fun _ k => XS.iushr X0.here hx rfl (hb hby d1_2) rfl k) ?_
  show Done p e s below _ _ _ s₁ (mkF m 3 #[.val (.int p1), .val (.int p2), .val (.int p3), .val (.int p4), .unset] [(.int ((p1.toUInt32 >>> (p2 &&& 31).toUInt32).toInt32))])
  refine Done.go (fun _ k => XS.sipush X0.here hx rfl (hb hby d1_3) k) ?_
  show Done p e s below _ _ _ s₁ (mkF m 6 #[.val (.int p1), .val (.int p2), .val (.int p3), .val (.int p4), .unset] [(.int (255 : Int32)), (.int ((p1.toUInt32 >>> (p2 &&& 31).toUInt32).toInt32))])
  refine Done.go (fun _ k => XS.iand X0.here hx rfl (hb hby d1_6) rfl k) ?_
  show Done p e s below _ _ _ s₁ (mkF m 7 #[.val (.int p1), .val (.int p2), .val (.int p3), .val (.int p4), .unset] [(.int (((p1.toUInt32 >>> (p2 &&& 31).toUInt32).toInt32) &&& (255 : Int32)))])
  refine Done.go (fun _ k => XS.istore X0.here hx rfl (hb hby d1_7) rfl (l' := #[.val (.int p1), .val (.int p2), .val (.int p3), .val (.int p4), .val (.int (((p1.toUInt32 >>> (p2 &&& 31).toUInt32).toInt32) &&& (255 : Int32)))]) rfl k) ?_
  show Done p e s below _ _ _ s₁ (mkF m 9 #[.val (.int p1), .val (.int p2), .val (.int p3), .val (.int p4), .val (.int (((p1.toUInt32 >>> (p2 &&& 31).toUInt32).toInt32) &&& (255 : Int32)))] [])
  refine Done.go (fun _ k => XS.iloadN X0.here hx rfl (hb hby d1_9) rfl k) ?_
  show Done p e s below _ _ _ s₁ (mkF m 10 #[.val (.int p1), .val (.int p2), .val (.int p3), .val (.int p4), .val (.int (((p1.toUInt32 >>> (p2 &&& 31).toUInt32).toInt32) &&& (255 : Int32)))] [(.int p3)])
  refine Done.go (fun _ k => XS.iloadN X0.here hx rfl (hb hby d1_10) rfl k) ?_
  show Done p e s below _ _ _ s₁ (mkF m 11 #[.val (.int p1), .val (.int p2), .val (.int p3), .val (.int p4), .val (.int (((p1.toUInt32 >>> (p2 &&& 31).toUInt32).toInt32) &&& (255 : Int32)))] [(.int p4), (.int p3)])
  refine Done.go (fun _ k => XS.iushr X0.here hx rfl (hb hby d1_11) rfl k) ?_
  show Done p e s below _ _ _ s₁ (mkF m 12 #[.val (.int p1), .val (.int p2), .val (.int p3), .val (.int p4), .val (.int (((p1.toUInt32 >>> (p2 &&& 31).toUInt32).toInt32) &&& (255 : Int32)))] [(.int ((p3.toUInt32 >>> (p4 &&& 31).toUInt32).toInt32))])
  refine Done.go (fun _ k => XS.iconst X0.here hx rfl (hb hby d1_12) k) ?_
  show Done p e s below _ _ _ s₁ (mkF m 13 #[.val (.int p1), .val (.int p2), .val (.int p3), .val (.int p4), .val (.int (((p1.toUInt32 >>> (p2 &&& 31).toUInt32).toInt32) &&& (255 : Int32)))] [(.int (1 : Int32)), (.int ((p3.toUInt32 >>> (p4 &&& 31).toUInt32).toInt32))])
  refine Done.go (fun _ k => XS.iand X0.here hx rfl (hb hby d1_13) rfl k) ?_
  show Done p e s below _ _ _ s₁ (mkF m 14 #[.val (.int p1), .val (.int p2), .val (.int p3), .val (.int p4), .val (.int (((p1.toUInt32 >>> (p2 &&& 31).toUInt32).toInt32) &&& (255 : Int32)))] [(.int (((p3.toUInt32 >>> (p4 &&& 31).toUInt32).toInt32) &&& (1 : Int32)))])
  by_cases hc14 : (((p3.toUInt32 >>> (p4 &&& 31).toUInt32).toInt32) &&& (1 : Int32)) = (0 : Int32)
  · skip
    refine Done.go (fun _ k => XS.ifYes X0.here hx rfl (pc0 := 14) (pc' := 27) rfl (hb hby d1_14) rfl ((if0 _ _).trans (teq hc14).1) (by decide) (by decide) k) ?_
    show Done p e s below _ _ _ s₁ (mkF m 27 #[.val (.int p1), .val (.int p2), .val (.int p3), .val (.int p4), .val (.int (((p1.toUInt32 >>> (p2 &&& 31).toUInt32).toInt32) &&& (255 : Int32)))] [])
    refine Done.go (fun _ k => XS.iload X0.here hx rfl (hb hby d1_27) rfl k) ?_
    show Done p e s below _ _ _ s₁ (mkF m 29 #[.val (.int p1), .val (.int p2), .val (.int p3), .val (.int p4), .val (.int (((p1.toUInt32 >>> (p2 &&& 31).toUInt32).toInt32) &&& (255 : Int32)))] [(.int (((p1.toUInt32 >>> (p2 &&& 31).toUInt32).toInt32) &&& (255 : Int32)))])
    refine Done.go (fun _ k => XS.i2b X0.here hx rfl (hb hby d1_29) rfl k) ?_
    show Done p e s below _ _ _ s₁ (mkF m 30 #[.val (.int p1), .val (.int p2), .val (.int p3), .val (.int p4), .val (.int (((p1.toUInt32 >>> (p2 &&& 31).toUInt32).toInt32) &&& (255 : Int32)))] [(.int ((((p1.toUInt32 >>> (p2 &&& 31).toUInt32).toInt32) &&& (255 : Int32)).toInt8.toInt32))])
    refine Done.retN X0 hx hlk (t := .byte) hrt (by simp) (z' := ((((p1.toUInt32 >>> (p2 &&& 31).toUInt32).toInt32) &&& (255 : Int32)).toInt8.toInt32)) (own_narB _) (hb hby d1_30) ?_ (by first | decide | omega) (by first | decide | omega)
    rw [e0]
    exact ⟨_, rfl, own_narB _, N0, rfl⟩
  · skip
    refine Done.go (fun _ k => XS.ifNo X0.here hx rfl (hb hby d1_14) rfl ((if0 _ _).trans (feq hc14).1) k) ?_
    show Done p e s below _ _ _ s₁ (mkF m 17 #[.val (.int p1), .val (.int p2), .val (.int p3), .val (.int p4), .val (.int (((p1.toUInt32 >>> (p2 &&& 31).toUInt32).toInt32) &&& (255 : Int32)))] [])
    refine Done.go (fun _ k => XS.bipush X0.here hx rfl (hb hby d1_17) k) ?_
    show Done p e s below _ _ _ s₁ (mkF m 19 #[.val (.int p1), .val (.int p2), .val (.int p3), .val (.int p4), .val (.int (((p1.toUInt32 >>> (p2 &&& 31).toUInt32).toInt32) &&& (255 : Int32)))] [(.int (44 : Int32))])
    refine Done.go (fun _ k => XS.iload X0.here hx rfl (hb hby d1_19) rfl k) ?_
    show Done p e s below _ _ _ s₁ (mkF m 21 #[.val (.int p1), .val (.int p2), .val (.int p3), .val (.int p4), .val (.int (((p1.toUInt32 >>> (p2 &&& 31).toUInt32).toInt32) &&& (255 : Int32)))] [(.int (((p1.toUInt32 >>> (p2 &&& 31).toUInt32).toInt32) &&& (255 : Int32))), (.int (44 : Int32))])
    refine Done.go (fun _ k => XS.bipush X0.here hx rfl (hb hby d1_21) k) ?_
    show Done p e s below _ _ _ s₁ (mkF m 23 #[.val (.int p1), .val (.int p2), .val (.int p3), .val (.int p4), .val (.int (((p1.toUInt32 >>> (p2 &&& 31).toUInt32).toInt32) &&& (255 : Int32)))] [(.int (15 : Int32)), (.int (((p1.toUInt32 >>> (p2 &&& 31).toUInt32).toInt32) &&& (255 : Int32))), (.int (44 : Int32))])
    refine Done.go (fun _ k => XS.iand X0.here hx rfl (hb hby d1_23) rfl k) ?_
    show Done p e s below _ _ _ s₁ (mkF m 24 #[.val (.int p1), .val (.int p2), .val (.int p3), .val (.int p4), .val (.int (((p1.toUInt32 >>> (p2 &&& 31).toUInt32).toInt32) &&& (255 : Int32)))] [(.int ((((p1.toUInt32 >>> (p2 &&& 31).toUInt32).toInt32) &&& (255 : Int32)) &&& (15 : Int32))), (.int (44 : Int32))])
    refine Done.go (fun _ k => XS.iadd X0.here hx rfl (hb hby d1_24) rfl k) ?_
    show Done p e s below _ _ _ s₁ (mkF m 25 #[.val (.int p1), .val (.int p2), .val (.int p3), .val (.int p4), .val (.int (((p1.toUInt32 >>> (p2 &&& 31).toUInt32).toInt32) &&& (255 : Int32)))] [(.int ((44 : Int32) + ((((p1.toUInt32 >>> (p2 &&& 31).toUInt32).toInt32) &&& (255 : Int32)) &&& (15 : Int32))))])
    refine Done.go (fun _ k => XS.i2b X0.here hx rfl (hb hby d1_25) rfl k) ?_
    show Done p e s below _ _ _ s₁ (mkF m 26 #[.val (.int p1), .val (.int p2), .val (.int p3), .val (.int p4), .val (.int (((p1.toUInt32 >>> (p2 &&& 31).toUInt32).toInt32) &&& (255 : Int32)))] [(.int (((44 : Int32) + ((((p1.toUInt32 >>> (p2 &&& 31).toUInt32).toInt32) &&& (255 : Int32)) &&& (15 : Int32))).toInt8.toInt32))])
    refine Done.retN X0 hx hlk (t := .byte) hrt (by simp) (z' := (((44 : Int32) + ((((p1.toUInt32 >>> (p2 &&& 31).toUInt32).toInt32) &&& (255 : Int32)) &&& (15 : Int32))).toInt8.toInt32)) (own_narB _) (hb hby d1_26) ?_ (by first | decide | omega) (by first | decide | omega)
    rw [e0]
    exact ⟨_, rfl, own_narB _, N0, rfl⟩
def Q3 (p1 : Int32) (h0 : Heap) (n0 : Nat) (v : Option Value) (h : Heap) (L : List Loc) : Prop := v = some (.int (own_dig p1)) ∧ Fr n0 L ∧ h = h0
theorem d3_0 : decode method_4_code 0 = .ok (.iload_n 0, 1) := by decide +kernel
theorem d3_1 : decode method_4_code 1 = .ok (.bipush 48, 2) := by decide +kernel
theorem d3_3 : decode method_4_code 3 = .ok (.if_icmp .lt 13, 3) := by decide +kernel
theorem d3_6 : decode method_4_code 6 = .ok (.iload_n 0, 1) := by decide +kernel
theorem d3_7 : decode method_4_code 7 = .ok (.bipush 57, 2) := by decide +kernel
theorem d3_9 : decode method_4_code 9 = .ok (.if_icmp .gt 7, 3) := by decide +kernel
theorem d3_12 : decode method_4_code 12 = .ok (.iconst 1, 1) := by decide +kernel
theorem d3_13 : decode method_4_code 13 = .ok (.goto 4, 3) := by decide +kernel
theorem d3_16 : decode method_4_code 16 = .ok (.iconst 0, 1) := by decide +kernel
theorem d3_17 : decode method_4_code 17 = .ok (.ireturn, 1) := by decide +kernel
theorem ef_rm3 (m : MethodId) (p1 : Int32) : entryFrame m #[(.int p1)] 1 = mkF m 0 #[.val (.int p1)] [] := by first | (simp [entryFrame, mkF, argsToLocals, Value.category]; done) | rfl
set_option maxRecDepth 65536 in
set_option maxHeartbeats 40000000 in
theorem rm3 (l : Launch) (Z : State) (a0 : Array Value) (hw : ∀ d ∈ tables_1, d.before a0 Z = true) (ws : List Jvm.Cond) (p1 : Int32) (h0 : Heap) (n0 : Nat) (Z0 : n0 ≤ h0.size) :
    MetFree l (⟨"spinecode/marc/Iso2709ReaderRecognisesPinLaw", "isDigit", "(B)Z"⟩ : MethodName) (head1 (Jvm.Cond.code (⟨"spinecode/marc/Iso2709ReaderRecognisesPinLaw", "isDigit", "(B)Z"⟩ : MethodName) method_4_code 1 (some .boolean) :: ws) ({ frames := 0, cells := 0, slots := 0, locals := 0 } : Room)) (fun a U => a = #[(.int p1)] ∧ Z.Warmed39 U.vm ∧ U.heap = h0) (fun _ _ _ _ _ => True) (fun _ U o U' => ∃ v L, o = .returned v ∧ Q3 p1 h0 n0 v U'.heap L ∧ FrameEnd U o U' L 0 0) := by
  refine MetFree.of_bodySF (plainFor_of_name own_pn0) hisR ?_
  intro p e s m args below meth c s₁ Bd hml0 hP hK
  obtain ⟨rfl, hZ, hh⟩ := hP
  have hx := Bd.exec
  have hby := Bd.bytes
  have hml : c.maxLocals = 1 := hml0
  have hown : s.vm.findClass "spinecode/marc/Iso2709ReaderRecognisesPinLaw" = some m.cls := findClass_of_methodNamed Bd.named
  have hnm := (name_of_methodNamed Bd.named Bd.method).1
  have hlk : meth.locks = false := Bd.notSynchronized
  have hrt := Bd.returns
  have X0 : Stand p l e ({ frames := 0, cells := 0, slots := 0, locals := 0 } : Room) s m #[(.int p1)] below meth c s₁ [] 0 0 := Stand.of_body Bd
  have e0 : s₁.heap = h0 := by rw [← hh, Bd.state]; rfl
  have N0 := Fr.nil n0
  show Done p e s below 0 0 (Q3 p1 h0 n0) s₁ (entryFrame m #[(.int p1)] 1)
  rw [ef_rm3]
  show Done p e s below _ _ _ s₁ (mkF m 0 #[.val (.int p1)] [])
  refine Done.go (fun _ k => XS.iloadN X0.here hx rfl (hb hby d3_0) rfl k) ?_
  show Done p e s below _ _ _ s₁ (mkF m 1 #[.val (.int p1)] [(.int p1)])
  refine Done.go (fun _ k => XS.bipush X0.here hx rfl (hb hby d3_1) k) ?_
  show Done p e s below _ _ _ s₁ (mkF m 3 #[.val (.int p1)] [(.int (48 : Int32)), (.int p1)])
  by_cases hc3 : p1 < (48 : Int32)
  · skip
    refine Done.go (fun _ k => XS.icmpYes X0.here hx rfl (pc0 := 3) (pc' := 16) rfl (hb hby d3_3) rfl (tlt hc3).1 (by decide) (by decide) k) ?_
    show Done p e s below _ _ _ s₁ (mkF m 16 #[.val (.int p1)] [])
    refine Done.go (fun _ k => XS.iconst X0.here hx rfl (hb hby d3_16) k) ?_
    show Done p e s below _ _ _ s₁ (mkF m 17 #[.val (.int p1)] [(.int (0 : Int32))])
    refine Done.retN X0 hx hlk (t := .boolean) hrt (by simp) (z' := (0 : Int32)) rfl (hb hby d3_17) ?_ (by first | decide | omega) (by first | decide | omega)
    rw [e0]
    exact ⟨by simp [own_dig, own_isd, hc3], N0, rfl⟩
  · skip
    refine Done.go (fun _ k => XS.icmpNo X0.here hx rfl (hb hby d3_3) rfl (flt hc3).1 k) ?_
    show Done p e s below _ _ _ s₁ (mkF m 6 #[.val (.int p1)] [])
    refine Done.go (fun _ k => XS.iloadN X0.here hx rfl (hb hby d3_6) rfl k) ?_
    show Done p e s below _ _ _ s₁ (mkF m 7 #[.val (.int p1)] [(.int p1)])
    refine Done.go (fun _ k => XS.bipush X0.here hx rfl (hb hby d3_7) k) ?_
    show Done p e s below _ _ _ s₁ (mkF m 9 #[.val (.int p1)] [(.int (57 : Int32)), (.int p1)])
    by_cases hc9 : (57 : Int32) < p1
    · skip
      refine Done.go (fun _ k => XS.icmpYes X0.here hx rfl (pc0 := 9) (pc' := 16) rfl (hb hby d3_9) rfl (tlt hc9).2.2.1 (by decide) (by decide) k) ?_
      show Done p e s below _ _ _ s₁ (mkF m 16 #[.val (.int p1)] [])
      refine Done.go (fun _ k => XS.iconst X0.here hx rfl (hb hby d3_16) k) ?_
      show Done p e s below _ _ _ s₁ (mkF m 17 #[.val (.int p1)] [(.int (0 : Int32))])
      refine Done.retN X0 hx hlk (t := .boolean) hrt (by simp) (z' := (0 : Int32)) rfl (hb hby d3_17) ?_ (by first | decide | omega) (by first | decide | omega)
      rw [e0]
      exact ⟨by simp [own_dig, own_isd, hc3, hc9], N0, rfl⟩
    · skip
      refine Done.go (fun _ k => XS.icmpNo X0.here hx rfl (hb hby d3_9) rfl (flt hc9).2.2.1 k) ?_
      show Done p e s below _ _ _ s₁ (mkF m 12 #[.val (.int p1)] [])
      refine Done.go (fun _ k => XS.iconst X0.here hx rfl (hb hby d3_12) k) ?_
      show Done p e s below _ _ _ s₁ (mkF m 13 #[.val (.int p1)] [(.int (1 : Int32))])
      refine Done.go (fun _ k => XS.goto X0.here hx rfl (pc0 := 13) (pc' := 17) rfl (hb hby d3_13) (by decide) (by decide) k) ?_
      show Done p e s below _ _ _ s₁ (mkF m 17 #[.val (.int p1)] [(.int (1 : Int32))])
      refine Done.retN X0 hx hlk (t := .boolean) hrt (by simp) (z' := (1 : Int32)) rfl (hb hby d3_17) ?_ (by first | decide | omega) (by first | decide | omega)
      rw [e0]
      exact ⟨by simp [own_dig, own_isd, hc3, hc9], N0, rfl⟩
abbrev own_all (f : Nat → Int32) : Prop := own_isd (f 0) ∧ own_isd (f 1) ∧ own_isd (f 2) ∧ own_isd (f 3) ∧ own_isd (f 4)
def Q4 (f : Nat → Int32) (h0 : Heap) (n0 : Nat) (v : Option Value) (h : Heap) (L : List Loc) : Prop := ∃ r : Int32, v = some (.int r) ∧ (r < 0 ↔ ¬ own_all f) ∧ Fr n0 L ∧ h = h0
theorem d4_0 : decode prog_17_method_16_code 0 = .ok (.iconst 0, 1) := by decide +kernel
theorem d4_1 : decode prog_17_method_16_code 1 = .ok (.istore_n 3, 1) := by decide +kernel
theorem d4_2 : decode prog_17_method_16_code 2 = .ok (.iload_n 1, 1) := by decide +kernel
theorem d4_3 : decode prog_17_method_16_code 3 = .ok (.istore 4, 2) := by decide +kernel
theorem d4_5 : decode prog_17_method_16_code 5 = .ok (.iload 4, 2) := by decide +kernel
theorem d4_7 : decode prog_17_method_16_code 7 = .ok (.iload_n 1, 1) := by decide +kernel
theorem d4_8 : decode prog_17_method_16_code 8 = .ok (.iload_n 2, 1) := by decide +kernel
theorem d4_9 : decode prog_17_method_16_code 9 = .ok (.iadd, 1) := by decide +kernel
theorem d4_10 : decode prog_17_method_16_code 10 = .ok (.if_icmp .ge 42, 3) := by decide +kernel
theorem d4_13 : decode prog_17_method_16_code 13 = .ok (.aload_n 0, 1) := by decide +kernel
theorem d4_14 : decode prog_17_method_16_code 14 = .ok (.iload 4, 2) := by decide +kernel
theorem d4_16 : decode prog_17_method_16_code 16 = .ok (.baload, 1) := by decide +kernel
theorem d4_17 : decode prog_17_method_16_code 17 = .ok (.bipush 48, 2) := by decide +kernel
theorem d4_19 : decode prog_17_method_16_code 19 = .ok (.if_icmp .lt 12, 3) := by decide +kernel
theorem d4_22 : decode prog_17_method_16_code 22 = .ok (.aload_n 0, 1) := by decide +kernel
theorem d4_23 : decode prog_17_method_16_code 23 = .ok (.iload 4, 2) := by decide +kernel
theorem d4_25 : decode prog_17_method_16_code 25 = .ok (.baload, 1) := by decide +kernel
theorem d4_26 : decode prog_17_method_16_code 26 = .ok (.bipush 57, 2) := by decide +kernel
theorem d4_28 : decode prog_17_method_16_code 28 = .ok (.if_icmp .le 5, 3) := by decide +kernel
theorem d4_31 : decode prog_17_method_16_code 31 = .ok (.iconst (-1), 1) := by decide +kernel
theorem d4_32 : decode prog_17_method_16_code 32 = .ok (.ireturn, 1) := by decide +kernel
theorem d4_33 : decode prog_17_method_16_code 33 = .ok (.iload_n 3, 1) := by decide +kernel
theorem d4_34 : decode prog_17_method_16_code 34 = .ok (.bipush 10, 2) := by decide +kernel
theorem d4_36 : decode prog_17_method_16_code 36 = .ok (.imul, 1) := by decide +kernel
theorem d4_37 : decode prog_17_method_16_code 37 = .ok (.aload_n 0, 1) := by decide +kernel
theorem d4_38 : decode prog_17_method_16_code 38 = .ok (.iload 4, 2) := by decide +kernel
theorem d4_40 : decode prog_17_method_16_code 40 = .ok (.baload, 1) := by decide +kernel
theorem d4_41 : decode prog_17_method_16_code 41 = .ok (.iadd, 1) := by decide +kernel
theorem d4_42 : decode prog_17_method_16_code 42 = .ok (.bipush 48, 2) := by decide +kernel
theorem d4_44 : decode prog_17_method_16_code 44 = .ok (.isub, 1) := by decide +kernel
theorem d4_45 : decode prog_17_method_16_code 45 = .ok (.istore_n 3, 1) := by decide +kernel
theorem d4_46 : decode prog_17_method_16_code 46 = .ok (.iinc 4 1, 3) := by decide +kernel
theorem d4_49 : decode prog_17_method_16_code 49 = .ok (.goto (-44), 3) := by decide +kernel
theorem d4_52 : decode prog_17_method_16_code 52 = .ok (.iload_n 3, 1) := by decide +kernel
theorem d4_53 : decode prog_17_method_16_code 53 = .ok (.ireturn, 1) := by decide +kernel
theorem own_pn1 : plainName "spinecode/marc/Iso2709Reader" = true := by first | (simp [plainName, overriddenIn]; done) | decide +kernel
theorem ef_rm4 (m : MethodId) (a1 : Addr) : entryFrame m #[(.ref a1), (.int (0 : Int32)), (.int (5 : Int32))] 5 = mkF m 0 #[.val (.ref a1), .val (.int (0 : Int32)), .val (.int (5 : Int32)), .unset, .unset] [] := by first | (simp [entryFrame, mkF, argsToLocals, Value.category]; done) | rfl
set_option maxRecDepth 65536 in
set_option maxHeartbeats 40000000 in
theorem rm4 (l : Launch) (Z : State) (a0 : Array Value) (hw : ∀ d ∈ tables_1, d.before a0 Z = true) (ws : List Jvm.Cond) (a1 : Addr) (n : Nat) (f : Nat → Int32) (h0 : Heap) (n0 : Nat) (Z0 : n0 ≤ h0.size) (V0 : Ari Z h0 a1 .byte n f) (hn : 5 ≤ n) :
    MetFree l (⟨"spinecode/marc/Iso2709Reader", "number", "([BII)I"⟩ : MethodName) (head1 (Jvm.Cond.code (⟨"spinecode/marc/Iso2709Reader", "number", "([BII)I"⟩ : MethodName) prog_17_method_16_code 5 (some .int) :: ws) ({ frames := 0, cells := 0, slots := 0, locals := 0 } : Room)) (fun a U => a = #[(.ref a1), (.int (0 : Int32)), (.int (5 : Int32))] ∧ Z.Warmed39 U.vm ∧ U.heap = h0) (fun _ _ _ _ _ => True) (fun _ U o U' => ∃ v L, o = .returned v ∧ Q4 f h0 n0 v U'.heap L ∧ FrameEnd U o U' L 0 0) := by
  refine MetFree.of_bodySF (plainFor_of_name own_pn1) hisR ?_
  intro p e s m args below meth c s₁ Bd hml0 hP hK
  obtain ⟨rfl, hZ, hh⟩ := hP
  have hx := Bd.exec
  have hby := Bd.bytes
  have hml : c.maxLocals = 5 := hml0
  have hown : s.vm.findClass "spinecode/marc/Iso2709Reader" = some m.cls := findClass_of_methodNamed Bd.named
  have hnm := (name_of_methodNamed Bd.named Bd.method).1
  have hlk : meth.locks = false := Bd.notSynchronized
  have hrt := Bd.returns
  have X0 : Stand p l e ({ frames := 0, cells := 0, slots := 0, locals := 0 } : Room) s m #[(.ref a1), (.int (0 : Int32)), (.int (5 : Int32))] below meth c s₁ [] 0 0 := Stand.of_body Bd
  have e0 : s₁.heap = h0 := by rw [← hh, Bd.state]; rfl
  have N0 := Fr.nil n0
  show Done p e s below 0 0 (Q4 f h0 n0) s₁ (entryFrame m #[(.ref a1), (.int (0 : Int32)), (.int (5 : Int32))] 5)
  rw [ef_rm4]
  show Done p e s below _ _ _ s₁ (mkF m 0 #[.val (.ref a1), .val (.int (0 : Int32)), .val (.int (5 : Int32)), .unset, .unset] [])
  refine Done.go (fun _ k => XS.iconst X0.here hx rfl (hb hby d4_0) k) ?_
  show Done p e s below _ _ _ s₁ (mkF m 1 #[.val (.ref a1), .val (.int (0 : Int32)), .val (.int (5 : Int32)), .unset, .unset] [(.int (0 : Int32))])
  refine Done.go (fun _ k => XS.istoreN X0.here hx rfl (hb hby d4_1) rfl (l' := #[.val (.ref a1), .val (.int (0 : Int32)), .val (.int (5 : Int32)), .val (.int (0 : Int32)), .unset]) rfl k) ?_
  have hb0 : 0 ≤ (0 : Int32).toInt ∧ (0 : Int32).toInt < 1 := by decide
  show Done p e s below _ _ _ s₁ (mkF m 2 #[.val (.ref a1), .val (.int (0 : Int32)), .val (.int (5 : Int32)), .val (.int (0 : Int32)), .unset] [])
  refine Done.go (fun _ k => XS.iloadN X0.here hx rfl (hb hby d4_2) rfl k) ?_
  show Done p e s below _ _ _ s₁ (mkF m 3 #[.val (.ref a1), .val (.int (0 : Int32)), .val (.int (5 : Int32)), .val (.int (0 : Int32)), .unset] [(.int (0 : Int32))])
  refine Done.go (fun _ k => XS.istore X0.here hx rfl (hb hby d4_3) rfl (l' := #[.val (.ref a1), .val (.int (0 : Int32)), .val (.int (5 : Int32)), .val (.int (0 : Int32)), .val (.int (0 : Int32))]) rfl k) ?_
  show Done p e s below _ _ _ s₁ (mkF m 5 #[.val (.ref a1), .val (.int (0 : Int32)), .val (.int (5 : Int32)), .val (.int (0 : Int32)), .val (.int (0 : Int32))] [])
  refine Done.go (fun _ k => XS.iload X0.here hx rfl (hb hby d4_5) rfl k) ?_
  show Done p e s below _ _ _ s₁ (mkF m 7 #[.val (.ref a1), .val (.int (0 : Int32)), .val (.int (5 : Int32)), .val (.int (0 : Int32)), .val (.int (0 : Int32))] [(.int (0 : Int32))])
  refine Done.go (fun _ k => XS.iloadN X0.here hx rfl (hb hby d4_7) rfl k) ?_
  show Done p e s below _ _ _ s₁ (mkF m 8 #[.val (.ref a1), .val (.int (0 : Int32)), .val (.int (5 : Int32)), .val (.int (0 : Int32)), .val (.int (0 : Int32))] [(.int (0 : Int32)), (.int (0 : Int32))])
  refine Done.go (fun _ k => XS.iloadN X0.here hx rfl (hb hby d4_8) rfl k) ?_
  show Done p e s below _ _ _ s₁ (mkF m 9 #[.val (.ref a1), .val (.int (0 : Int32)), .val (.int (5 : Int32)), .val (.int (0 : Int32)), .val (.int (0 : Int32))] [(.int (5 : Int32)), (.int (0 : Int32)), (.int (0 : Int32))])
  refine Done.go (fun _ k => XS.iadd X0.here hx rfl (hb hby d4_9) rfl k) ?_
  show Done p e s below _ _ _ s₁ (mkF m 10 #[.val (.ref a1), .val (.int (0 : Int32)), .val (.int (5 : Int32)), .val (.int (0 : Int32)), .val (.int (0 : Int32))] [(.int ((0 : Int32) + (5 : Int32))), (.int (0 : Int32))])
  refine Done.go (fun _ k => XS.icmpNo X0.here hx rfl (hb hby d4_10) rfl (tlt (by decide)).2.1 k) ?_
  show Done p e s below _ _ _ s₁ (mkF m 13 #[.val (.ref a1), .val (.int (0 : Int32)), .val (.int (5 : Int32)), .val (.int (0 : Int32)), .val (.int (0 : Int32))] [])
  refine Done.go (fun _ k => XS.aloadN X0.here hx rfl (hb hby d4_13) rfl rfl k) ?_
  show Done p e s below _ _ _ s₁ (mkF m 14 #[.val (.ref a1), .val (.int (0 : Int32)), .val (.int (5 : Int32)), .val (.int (0 : Int32)), .val (.int (0 : Int32))] [(.ref a1)])
  refine Done.go (fun _ k => XS.iload X0.here hx rfl (hb hby d4_14) rfl k) ?_
  show Done p e s below _ _ _ s₁ (mkF m 16 #[.val (.ref a1), .val (.int (0 : Int32)), .val (.int (5 : Int32)), .val (.int (0 : Int32)), .val (.int (0 : Int32))] [(.int (0 : Int32)), (.ref a1)])
  refine Done.ldB X0 hx hZ e0 V0 (j := (0 : Int32)) (w := (f 0)) 0 (by decide) rfl (by omega) rfl (hb hby d4_16) ?_
  show Done p e s below _ _ _ s₁ (mkF m 17 #[.val (.ref a1), .val (.int (0 : Int32)), .val (.int (5 : Int32)), .val (.int (0 : Int32)), .val (.int (0 : Int32))] [(.int (f 0))])
  refine Done.go (fun _ k => XS.bipush X0.here hx rfl (hb hby d4_17) k) ?_
  show Done p e s below _ _ _ s₁ (mkF m 19 #[.val (.ref a1), .val (.int (0 : Int32)), .val (.int (5 : Int32)), .val (.int (0 : Int32)), .val (.int (0 : Int32))] [(.int (48 : Int32)), (.int (f 0))])
  by_cases hc19_0 : (f 0) < (48 : Int32)
  · skip
    refine Done.go (fun _ k => XS.icmpYes X0.here hx rfl (pc0 := 19) (pc' := 31) rfl (hb hby d4_19) rfl (tlt hc19_0).1 (by decide) (by decide) k) ?_
    show Done p e s below _ _ _ s₁ (mkF m 31 #[.val (.ref a1), .val (.int (0 : Int32)), .val (.int (5 : Int32)), .val (.int (0 : Int32)), .val (.int (0 : Int32))] [])
    refine Done.go (fun _ k => XS.iconst X0.here hx rfl (hb hby d4_31) k) ?_
    show Done p e s below _ _ _ s₁ (mkF m 32 #[.val (.ref a1), .val (.int (0 : Int32)), .val (.int (5 : Int32)), .val (.int (0 : Int32)), .val (.int (0 : Int32))] [(.int (-1 : Int32))])
    refine Done.retI X0 hx hlk hrt (hb hby d4_32) ?_ (by first | decide | omega) (by first | decide | omega)
    rw [e0]
    exact ⟨_, rfl, ⟨fun _ q => q.1.1 hc19_0, fun _ => by decide⟩, N0, rfl⟩
  · skip
    refine Done.go (fun _ k => XS.icmpNo X0.here hx rfl (hb hby d4_19) rfl (flt hc19_0).1 k) ?_
    show Done p e s below _ _ _ s₁ (mkF m 22 #[.val (.ref a1), .val (.int (0 : Int32)), .val (.int (5 : Int32)), .val (.int (0 : Int32)), .val (.int (0 : Int32))] [])
    refine Done.go (fun _ k => XS.aloadN X0.here hx rfl (hb hby d4_22) rfl rfl k) ?_
    show Done p e s below _ _ _ s₁ (mkF m 23 #[.val (.ref a1), .val (.int (0 : Int32)), .val (.int (5 : Int32)), .val (.int (0 : Int32)), .val (.int (0 : Int32))] [(.ref a1)])
    refine Done.go (fun _ k => XS.iload X0.here hx rfl (hb hby d4_23) rfl k) ?_
    show Done p e s below _ _ _ s₁ (mkF m 25 #[.val (.ref a1), .val (.int (0 : Int32)), .val (.int (5 : Int32)), .val (.int (0 : Int32)), .val (.int (0 : Int32))] [(.int (0 : Int32)), (.ref a1)])
    refine Done.ldB X0 hx hZ e0 V0 (j := (0 : Int32)) (w := (f 0)) 0 (by decide) rfl (by omega) rfl (hb hby d4_25) ?_
    show Done p e s below _ _ _ s₁ (mkF m 26 #[.val (.ref a1), .val (.int (0 : Int32)), .val (.int (5 : Int32)), .val (.int (0 : Int32)), .val (.int (0 : Int32))] [(.int (f 0))])
    refine Done.go (fun _ k => XS.bipush X0.here hx rfl (hb hby d4_26) k) ?_
    show Done p e s below _ _ _ s₁ (mkF m 28 #[.val (.ref a1), .val (.int (0 : Int32)), .val (.int (5 : Int32)), .val (.int (0 : Int32)), .val (.int (0 : Int32))] [(.int (57 : Int32)), (.int (f 0))])
    by_cases hc28_0 : (57 : Int32) < (f 0)
    · skip
      refine Done.go (fun _ k => XS.icmpNo X0.here hx rfl (hb hby d4_28) rfl (tlt hc28_0).2.2.2 k) ?_
      show Done p e s below _ _ _ s₁ (mkF m 31 #[.val (.ref a1), .val (.int (0 : Int32)), .val (.int (5 : Int32)), .val (.int (0 : Int32)), .val (.int (0 : Int32))] [])
      refine Done.go (fun _ k => XS.iconst X0.here hx rfl (hb hby d4_31) k) ?_
      show Done p e s below _ _ _ s₁ (mkF m 32 #[.val (.ref a1), .val (.int (0 : Int32)), .val (.int (5 : Int32)), .val (.int (0 : Int32)), .val (.int (0 : Int32))] [(.int (-1 : Int32))])
      refine Done.retI X0 hx hlk hrt (hb hby d4_32) ?_ (by first | decide | omega) (by first | decide | omega)
      rw [e0]
      exact ⟨_, rfl, ⟨fun _ q => q.1.2 hc28_0, fun _ => by decide⟩, N0, rfl⟩
    · skip
      refine Done.go (fun _ k => XS.icmpYes X0.here hx rfl (pc0 := 28) (pc' := 33) rfl (hb hby d4_28) rfl (flt hc28_0).2.2.2 (by decide) (by decide) k) ?_
      show Done p e s below _ _ _ s₁ (mkF m 33 #[.val (.ref a1), .val (.int (0 : Int32)), .val (.int (5 : Int32)), .val (.int (0 : Int32)), .val (.int (0 : Int32))] [])
      refine Done.go (fun _ k => XS.iloadN X0.here hx rfl (hb hby d4_33) rfl k) ?_
      show Done p e s below _ _ _ s₁ (mkF m 34 #[.val (.ref a1), .val (.int (0 : Int32)), .val (.int (5 : Int32)), .val (.int (0 : Int32)), .val (.int (0 : Int32))] [(.int (0 : Int32))])
      refine Done.go (fun _ k => XS.bipush X0.here hx rfl (hb hby d4_34) k) ?_
      show Done p e s below _ _ _ s₁ (mkF m 36 #[.val (.ref a1), .val (.int (0 : Int32)), .val (.int (5 : Int32)), .val (.int (0 : Int32)), .val (.int (0 : Int32))] [(.int (10 : Int32)), (.int (0 : Int32))])
      refine Done.go (fun _ k => XS.imul X0.here hx rfl (hb hby d4_36) rfl k) ?_
      show Done p e s below _ _ _ s₁ (mkF m 37 #[.val (.ref a1), .val (.int (0 : Int32)), .val (.int (5 : Int32)), .val (.int (0 : Int32)), .val (.int (0 : Int32))] [(.int ((0 : Int32) * (10 : Int32)))])
      refine Done.go (fun _ k => XS.aloadN X0.here hx rfl (hb hby d4_37) rfl rfl k) ?_
      show Done p e s below _ _ _ s₁ (mkF m 38 #[.val (.ref a1), .val (.int (0 : Int32)), .val (.int (5 : Int32)), .val (.int (0 : Int32)), .val (.int (0 : Int32))] [(.ref a1), (.int ((0 : Int32) * (10 : Int32)))])
      refine Done.go (fun _ k => XS.iload X0.here hx rfl (hb hby d4_38) rfl k) ?_
      show Done p e s below _ _ _ s₁ (mkF m 40 #[.val (.ref a1), .val (.int (0 : Int32)), .val (.int (5 : Int32)), .val (.int (0 : Int32)), .val (.int (0 : Int32))] [(.int (0 : Int32)), (.ref a1), (.int ((0 : Int32) * (10 : Int32)))])
      refine Done.ldB X0 hx hZ e0 V0 (j := (0 : Int32)) (w := (f 0)) 0 (by decide) rfl (by omega) rfl (hb hby d4_40) ?_
      show Done p e s below _ _ _ s₁ (mkF m 41 #[.val (.ref a1), .val (.int (0 : Int32)), .val (.int (5 : Int32)), .val (.int (0 : Int32)), .val (.int (0 : Int32))] [(.int (f 0)), (.int ((0 : Int32) * (10 : Int32)))])
      refine Done.go (fun _ k => XS.iadd X0.here hx rfl (hb hby d4_41) rfl k) ?_
      show Done p e s below _ _ _ s₁ (mkF m 42 #[.val (.ref a1), .val (.int (0 : Int32)), .val (.int (5 : Int32)), .val (.int (0 : Int32)), .val (.int (0 : Int32))] [(.int (((0 : Int32) * (10 : Int32)) + (f 0)))])
      refine Done.go (fun _ k => XS.bipush X0.here hx rfl (hb hby d4_42) k) ?_
      show Done p e s below _ _ _ s₁ (mkF m 44 #[.val (.ref a1), .val (.int (0 : Int32)), .val (.int (5 : Int32)), .val (.int (0 : Int32)), .val (.int (0 : Int32))] [(.int (48 : Int32)), (.int (((0 : Int32) * (10 : Int32)) + (f 0)))])
      refine Done.go (fun _ k => XS.isub X0.here hx rfl (hb hby d4_44) rfl k) ?_
      show Done p e s below _ _ _ s₁ (mkF m 45 #[.val (.ref a1), .val (.int (0 : Int32)), .val (.int (5 : Int32)), .val (.int (0 : Int32)), .val (.int (0 : Int32))] [(.int ((((0 : Int32) * (10 : Int32)) + (f 0)) - (48 : Int32)))])
      refine Done.go (fun _ k => XS.istoreN X0.here hx rfl (hb hby d4_45) rfl (l' := #[.val (.ref a1), .val (.int (0 : Int32)), .val (.int (5 : Int32)), .val (.int ((((0 : Int32) * (10 : Int32)) + (f 0)) - (48 : Int32))), .val (.int (0 : Int32))]) rfl k) ?_
      show Done p e s below _ _ _ s₁ (mkF m 46 #[.val (.ref a1), .val (.int (0 : Int32)), .val (.int (5 : Int32)), .val (.int ((((0 : Int32) * (10 : Int32)) + (f 0)) - (48 : Int32))), .val (.int (0 : Int32))] [])
      have hb1 := own_step (M := 1) (by decide) hb0 (⟨hc19_0, hc28_0⟩ : own_isd (f 0))
      generalize ((((0 : Int32) * (10 : Int32)) + (f 0)) - (48 : Int32)) = t1 at hb1 ⊢
      show Done p e s below _ _ _ s₁ (mkF m 46 #[.val (.ref a1), .val (.int (0 : Int32)), .val (.int (5 : Int32)), .val (.int t1), .val (.int (0 : Int32))] [])
      refine Done.go (fun _ k => XS.iinc X0.here hx rfl (hb hby d4_46) rfl (l' := #[.val (.ref a1), .val (.int (0 : Int32)), .val (.int (5 : Int32)), .val (.int t1), .val (.int ((0 : Int32) + (1 : Int32)))]) rfl k) ?_
      show Done p e s below _ _ _ s₁ (mkF m 49 #[.val (.ref a1), .val (.int (0 : Int32)), .val (.int (5 : Int32)), .val (.int t1), .val (.int ((0 : Int32) + (1 : Int32)))] [])
      refine Done.go (fun _ k => XS.goto X0.here hx rfl (pc0 := 49) (pc' := 5) rfl (hb hby d4_49) (by decide) (by decide) k) ?_
      show Done p e s below _ _ _ s₁ (mkF m 5 #[.val (.ref a1), .val (.int (0 : Int32)), .val (.int (5 : Int32)), .val (.int t1), .val (.int ((0 : Int32) + (1 : Int32)))] [])
      refine Done.go (fun _ k => XS.iload X0.here hx rfl (hb hby d4_5) rfl k) ?_
      show Done p e s below _ _ _ s₁ (mkF m 7 #[.val (.ref a1), .val (.int (0 : Int32)), .val (.int (5 : Int32)), .val (.int t1), .val (.int ((0 : Int32) + (1 : Int32)))] [(.int ((0 : Int32) + (1 : Int32)))])
      refine Done.go (fun _ k => XS.iloadN X0.here hx rfl (hb hby d4_7) rfl k) ?_
      show Done p e s below _ _ _ s₁ (mkF m 8 #[.val (.ref a1), .val (.int (0 : Int32)), .val (.int (5 : Int32)), .val (.int t1), .val (.int ((0 : Int32) + (1 : Int32)))] [(.int (0 : Int32)), (.int ((0 : Int32) + (1 : Int32)))])
      refine Done.go (fun _ k => XS.iloadN X0.here hx rfl (hb hby d4_8) rfl k) ?_
      show Done p e s below _ _ _ s₁ (mkF m 9 #[.val (.ref a1), .val (.int (0 : Int32)), .val (.int (5 : Int32)), .val (.int t1), .val (.int ((0 : Int32) + (1 : Int32)))] [(.int (5 : Int32)), (.int (0 : Int32)), (.int ((0 : Int32) + (1 : Int32)))])
      refine Done.go (fun _ k => XS.iadd X0.here hx rfl (hb hby d4_9) rfl k) ?_
      show Done p e s below _ _ _ s₁ (mkF m 10 #[.val (.ref a1), .val (.int (0 : Int32)), .val (.int (5 : Int32)), .val (.int t1), .val (.int ((0 : Int32) + (1 : Int32)))] [(.int ((0 : Int32) + (5 : Int32))), (.int ((0 : Int32) + (1 : Int32)))])
      refine Done.go (fun _ k => XS.icmpNo X0.here hx rfl (hb hby d4_10) rfl (tlt (by decide)).2.1 k) ?_
      show Done p e s below _ _ _ s₁ (mkF m 13 #[.val (.ref a1), .val (.int (0 : Int32)), .val (.int (5 : Int32)), .val (.int t1), .val (.int ((0 : Int32) + (1 : Int32)))] [])
      refine Done.go (fun _ k => XS.aloadN X0.here hx rfl (hb hby d4_13) rfl rfl k) ?_
      show Done p e s below _ _ _ s₁ (mkF m 14 #[.val (.ref a1), .val (.int (0 : Int32)), .val (.int (5 : Int32)), .val (.int t1), .val (.int ((0 : Int32) + (1 : Int32)))] [(.ref a1)])
      refine Done.go (fun _ k => XS.iload X0.here hx rfl (hb hby d4_14) rfl k) ?_
      show Done p e s below _ _ _ s₁ (mkF m 16 #[.val (.ref a1), .val (.int (0 : Int32)), .val (.int (5 : Int32)), .val (.int t1), .val (.int ((0 : Int32) + (1 : Int32)))] [(.int ((0 : Int32) + (1 : Int32))), (.ref a1)])
      refine Done.ldB X0 hx hZ e0 V0 (j := ((0 : Int32) + (1 : Int32))) (w := (f 1)) 1 (by decide) rfl (by omega) rfl (hb hby d4_16) ?_
      show Done p e s below _ _ _ s₁ (mkF m 17 #[.val (.ref a1), .val (.int (0 : Int32)), .val (.int (5 : Int32)), .val (.int t1), .val (.int ((0 : Int32) + (1 : Int32)))] [(.int (f 1))])
      refine Done.go (fun _ k => XS.bipush X0.here hx rfl (hb hby d4_17) k) ?_
      show Done p e s below _ _ _ s₁ (mkF m 19 #[.val (.ref a1), .val (.int (0 : Int32)), .val (.int (5 : Int32)), .val (.int t1), .val (.int ((0 : Int32) + (1 : Int32)))] [(.int (48 : Int32)), (.int (f 1))])
      by_cases hc19_1 : (f 1) < (48 : Int32)
      · skip
        refine Done.go (fun _ k => XS.icmpYes X0.here hx rfl (pc0 := 19) (pc' := 31) rfl (hb hby d4_19) rfl (tlt hc19_1).1 (by decide) (by decide) k) ?_
        show Done p e s below _ _ _ s₁ (mkF m 31 #[.val (.ref a1), .val (.int (0 : Int32)), .val (.int (5 : Int32)), .val (.int t1), .val (.int ((0 : Int32) + (1 : Int32)))] [])
        refine Done.go (fun _ k => XS.iconst X0.here hx rfl (hb hby d4_31) k) ?_
        show Done p e s below _ _ _ s₁ (mkF m 32 #[.val (.ref a1), .val (.int (0 : Int32)), .val (.int (5 : Int32)), .val (.int t1), .val (.int ((0 : Int32) + (1 : Int32)))] [(.int (-1 : Int32))])
        refine Done.retI X0 hx hlk hrt (hb hby d4_32) ?_ (by first | decide | omega) (by first | decide | omega)
        rw [e0]
        exact ⟨_, rfl, ⟨fun _ q => q.2.1.1 hc19_1, fun _ => by decide⟩, N0, rfl⟩
      · skip
        refine Done.go (fun _ k => XS.icmpNo X0.here hx rfl (hb hby d4_19) rfl (flt hc19_1).1 k) ?_
        show Done p e s below _ _ _ s₁ (mkF m 22 #[.val (.ref a1), .val (.int (0 : Int32)), .val (.int (5 : Int32)), .val (.int t1), .val (.int ((0 : Int32) + (1 : Int32)))] [])
        refine Done.go (fun _ k => XS.aloadN X0.here hx rfl (hb hby d4_22) rfl rfl k) ?_
        show Done p e s below _ _ _ s₁ (mkF m 23 #[.val (.ref a1), .val (.int (0 : Int32)), .val (.int (5 : Int32)), .val (.int t1), .val (.int ((0 : Int32) + (1 : Int32)))] [(.ref a1)])
        refine Done.go (fun _ k => XS.iload X0.here hx rfl (hb hby d4_23) rfl k) ?_
        show Done p e s below _ _ _ s₁ (mkF m 25 #[.val (.ref a1), .val (.int (0 : Int32)), .val (.int (5 : Int32)), .val (.int t1), .val (.int ((0 : Int32) + (1 : Int32)))] [(.int ((0 : Int32) + (1 : Int32))), (.ref a1)])
        refine Done.ldB X0 hx hZ e0 V0 (j := ((0 : Int32) + (1 : Int32))) (w := (f 1)) 1 (by decide) rfl (by omega) rfl (hb hby d4_25) ?_
        show Done p e s below _ _ _ s₁ (mkF m 26 #[.val (.ref a1), .val (.int (0 : Int32)), .val (.int (5 : Int32)), .val (.int t1), .val (.int ((0 : Int32) + (1 : Int32)))] [(.int (f 1))])
        refine Done.go (fun _ k => XS.bipush X0.here hx rfl (hb hby d4_26) k) ?_
        show Done p e s below _ _ _ s₁ (mkF m 28 #[.val (.ref a1), .val (.int (0 : Int32)), .val (.int (5 : Int32)), .val (.int t1), .val (.int ((0 : Int32) + (1 : Int32)))] [(.int (57 : Int32)), (.int (f 1))])
        by_cases hc28_1 : (57 : Int32) < (f 1)
        · skip
          refine Done.go (fun _ k => XS.icmpNo X0.here hx rfl (hb hby d4_28) rfl (tlt hc28_1).2.2.2 k) ?_
          show Done p e s below _ _ _ s₁ (mkF m 31 #[.val (.ref a1), .val (.int (0 : Int32)), .val (.int (5 : Int32)), .val (.int t1), .val (.int ((0 : Int32) + (1 : Int32)))] [])
          refine Done.go (fun _ k => XS.iconst X0.here hx rfl (hb hby d4_31) k) ?_
          show Done p e s below _ _ _ s₁ (mkF m 32 #[.val (.ref a1), .val (.int (0 : Int32)), .val (.int (5 : Int32)), .val (.int t1), .val (.int ((0 : Int32) + (1 : Int32)))] [(.int (-1 : Int32))])
          refine Done.retI X0 hx hlk hrt (hb hby d4_32) ?_ (by first | decide | omega) (by first | decide | omega)
          rw [e0]
          exact ⟨_, rfl, ⟨fun _ q => q.2.1.2 hc28_1, fun _ => by decide⟩, N0, rfl⟩
        · skip
          refine Done.go (fun _ k => XS.icmpYes X0.here hx rfl (pc0 := 28) (pc' := 33) rfl (hb hby d4_28) rfl (flt hc28_1).2.2.2 (by decide) (by decide) k) ?_
          show Done p e s below _ _ _ s₁ (mkF m 33 #[.val (.ref a1), .val (.int (0 : Int32)), .val (.int (5 : Int32)), .val (.int t1), .val (.int ((0 : Int32) + (1 : Int32)))] [])
          refine Done.go (fun _ k => XS.iloadN X0.here hx rfl (hb hby d4_33) rfl k) ?_
          show Done p e s below _ _ _ s₁ (mkF m 34 #[.val (.ref a1), .val (.int (0 : Int32)), .val (.int (5 : Int32)), .val (.int t1), .val (.int ((0 : Int32) + (1 : Int32)))] [(.int t1)])
          refine Done.go (fun _ k => XS.bipush X0.here hx rfl (hb hby d4_34) k) ?_
          show Done p e s below _ _ _ s₁ (mkF m 36 #[.val (.ref a1), .val (.int (0 : Int32)), .val (.int (5 : Int32)), .val (.int t1), .val (.int ((0 : Int32) + (1 : Int32)))] [(.int (10 : Int32)), (.int t1)])
          refine Done.go (fun _ k => XS.imul X0.here hx rfl (hb hby d4_36) rfl k) ?_
          show Done p e s below _ _ _ s₁ (mkF m 37 #[.val (.ref a1), .val (.int (0 : Int32)), .val (.int (5 : Int32)), .val (.int t1), .val (.int ((0 : Int32) + (1 : Int32)))] [(.int (t1 * (10 : Int32)))])
          refine Done.go (fun _ k => XS.aloadN X0.here hx rfl (hb hby d4_37) rfl rfl k) ?_
          show Done p e s below _ _ _ s₁ (mkF m 38 #[.val (.ref a1), .val (.int (0 : Int32)), .val (.int (5 : Int32)), .val (.int t1), .val (.int ((0 : Int32) + (1 : Int32)))] [(.ref a1), (.int (t1 * (10 : Int32)))])
          refine Done.go (fun _ k => XS.iload X0.here hx rfl (hb hby d4_38) rfl k) ?_
          show Done p e s below _ _ _ s₁ (mkF m 40 #[.val (.ref a1), .val (.int (0 : Int32)), .val (.int (5 : Int32)), .val (.int t1), .val (.int ((0 : Int32) + (1 : Int32)))] [(.int ((0 : Int32) + (1 : Int32))), (.ref a1), (.int (t1 * (10 : Int32)))])
          refine Done.ldB X0 hx hZ e0 V0 (j := ((0 : Int32) + (1 : Int32))) (w := (f 1)) 1 (by decide) rfl (by omega) rfl (hb hby d4_40) ?_
          show Done p e s below _ _ _ s₁ (mkF m 41 #[.val (.ref a1), .val (.int (0 : Int32)), .val (.int (5 : Int32)), .val (.int t1), .val (.int ((0 : Int32) + (1 : Int32)))] [(.int (f 1)), (.int (t1 * (10 : Int32)))])
          refine Done.go (fun _ k => XS.iadd X0.here hx rfl (hb hby d4_41) rfl k) ?_
          show Done p e s below _ _ _ s₁ (mkF m 42 #[.val (.ref a1), .val (.int (0 : Int32)), .val (.int (5 : Int32)), .val (.int t1), .val (.int ((0 : Int32) + (1 : Int32)))] [(.int ((t1 * (10 : Int32)) + (f 1)))])
          refine Done.go (fun _ k => XS.bipush X0.here hx rfl (hb hby d4_42) k) ?_
          show Done p e s below _ _ _ s₁ (mkF m 44 #[.val (.ref a1), .val (.int (0 : Int32)), .val (.int (5 : Int32)), .val (.int t1), .val (.int ((0 : Int32) + (1 : Int32)))] [(.int (48 : Int32)), (.int ((t1 * (10 : Int32)) + (f 1)))])
          refine Done.go (fun _ k => XS.isub X0.here hx rfl (hb hby d4_44) rfl k) ?_
          show Done p e s below _ _ _ s₁ (mkF m 45 #[.val (.ref a1), .val (.int (0 : Int32)), .val (.int (5 : Int32)), .val (.int t1), .val (.int ((0 : Int32) + (1 : Int32)))] [(.int (((t1 * (10 : Int32)) + (f 1)) - (48 : Int32)))])
          refine Done.go (fun _ k => XS.istoreN X0.here hx rfl (hb hby d4_45) rfl (l' := #[.val (.ref a1), .val (.int (0 : Int32)), .val (.int (5 : Int32)), .val (.int (((t1 * (10 : Int32)) + (f 1)) - (48 : Int32))), .val (.int ((0 : Int32) + (1 : Int32)))]) rfl k) ?_
          show Done p e s below _ _ _ s₁ (mkF m 46 #[.val (.ref a1), .val (.int (0 : Int32)), .val (.int (5 : Int32)), .val (.int (((t1 * (10 : Int32)) + (f 1)) - (48 : Int32))), .val (.int ((0 : Int32) + (1 : Int32)))] [])
          have hb2 := own_step (M := 10) (by decide) hb1 (⟨hc19_1, hc28_1⟩ : own_isd (f 1))
          generalize (((t1 * (10 : Int32)) + (f 1)) - (48 : Int32)) = t2 at hb2 ⊢
          show Done p e s below _ _ _ s₁ (mkF m 46 #[.val (.ref a1), .val (.int (0 : Int32)), .val (.int (5 : Int32)), .val (.int t2), .val (.int ((0 : Int32) + (1 : Int32)))] [])
          refine Done.go (fun _ k => XS.iinc X0.here hx rfl (hb hby d4_46) rfl (l' := #[.val (.ref a1), .val (.int (0 : Int32)), .val (.int (5 : Int32)), .val (.int t2), .val (.int (((0 : Int32) + (1 : Int32)) + (1 : Int32)))]) rfl k) ?_
          show Done p e s below _ _ _ s₁ (mkF m 49 #[.val (.ref a1), .val (.int (0 : Int32)), .val (.int (5 : Int32)), .val (.int t2), .val (.int (((0 : Int32) + (1 : Int32)) + (1 : Int32)))] [])
          refine Done.go (fun _ k => XS.goto X0.here hx rfl (pc0 := 49) (pc' := 5) rfl (hb hby d4_49) (by decide) (by decide) k) ?_
          show Done p e s below _ _ _ s₁ (mkF m 5 #[.val (.ref a1), .val (.int (0 : Int32)), .val (.int (5 : Int32)), .val (.int t2), .val (.int (((0 : Int32) + (1 : Int32)) + (1 : Int32)))] [])
          refine Done.go (fun _ k => XS.iload X0.here hx rfl (hb hby d4_5) rfl k) ?_
          show Done p e s below _ _ _ s₁ (mkF m 7 #[.val (.ref a1), .val (.int (0 : Int32)), .val (.int (5 : Int32)), .val (.int t2), .val (.int (((0 : Int32) + (1 : Int32)) + (1 : Int32)))] [(.int (((0 : Int32) + (1 : Int32)) + (1 : Int32)))])
          refine Done.go (fun _ k => XS.iloadN X0.here hx rfl (hb hby d4_7) rfl k) ?_
          show Done p e s below _ _ _ s₁ (mkF m 8 #[.val (.ref a1), .val (.int (0 : Int32)), .val (.int (5 : Int32)), .val (.int t2), .val (.int (((0 : Int32) + (1 : Int32)) + (1 : Int32)))] [(.int (0 : Int32)), (.int (((0 : Int32) + (1 : Int32)) + (1 : Int32)))])
          refine Done.go (fun _ k => XS.iloadN X0.here hx rfl (hb hby d4_8) rfl k) ?_
          show Done p e s below _ _ _ s₁ (mkF m 9 #[.val (.ref a1), .val (.int (0 : Int32)), .val (.int (5 : Int32)), .val (.int t2), .val (.int (((0 : Int32) + (1 : Int32)) + (1 : Int32)))] [(.int (5 : Int32)), (.int (0 : Int32)), (.int (((0 : Int32) + (1 : Int32)) + (1 : Int32)))])
          refine Done.go (fun _ k => XS.iadd X0.here hx rfl (hb hby d4_9) rfl k) ?_
          show Done p e s below _ _ _ s₁ (mkF m 10 #[.val (.ref a1), .val (.int (0 : Int32)), .val (.int (5 : Int32)), .val (.int t2), .val (.int (((0 : Int32) + (1 : Int32)) + (1 : Int32)))] [(.int ((0 : Int32) + (5 : Int32))), (.int (((0 : Int32) + (1 : Int32)) + (1 : Int32)))])
          refine Done.go (fun _ k => XS.icmpNo X0.here hx rfl (hb hby d4_10) rfl (tlt (by decide)).2.1 k) ?_
          show Done p e s below _ _ _ s₁ (mkF m 13 #[.val (.ref a1), .val (.int (0 : Int32)), .val (.int (5 : Int32)), .val (.int t2), .val (.int (((0 : Int32) + (1 : Int32)) + (1 : Int32)))] [])
          refine Done.go (fun _ k => XS.aloadN X0.here hx rfl (hb hby d4_13) rfl rfl k) ?_
          show Done p e s below _ _ _ s₁ (mkF m 14 #[.val (.ref a1), .val (.int (0 : Int32)), .val (.int (5 : Int32)), .val (.int t2), .val (.int (((0 : Int32) + (1 : Int32)) + (1 : Int32)))] [(.ref a1)])
          refine Done.go (fun _ k => XS.iload X0.here hx rfl (hb hby d4_14) rfl k) ?_
          show Done p e s below _ _ _ s₁ (mkF m 16 #[.val (.ref a1), .val (.int (0 : Int32)), .val (.int (5 : Int32)), .val (.int t2), .val (.int (((0 : Int32) + (1 : Int32)) + (1 : Int32)))] [(.int (((0 : Int32) + (1 : Int32)) + (1 : Int32))), (.ref a1)])
          refine Done.ldB X0 hx hZ e0 V0 (j := (((0 : Int32) + (1 : Int32)) + (1 : Int32))) (w := (f 2)) 2 (by decide) rfl (by omega) rfl (hb hby d4_16) ?_
          show Done p e s below _ _ _ s₁ (mkF m 17 #[.val (.ref a1), .val (.int (0 : Int32)), .val (.int (5 : Int32)), .val (.int t2), .val (.int (((0 : Int32) + (1 : Int32)) + (1 : Int32)))] [(.int (f 2))])
          refine Done.go (fun _ k => XS.bipush X0.here hx rfl (hb hby d4_17) k) ?_
          show Done p e s below _ _ _ s₁ (mkF m 19 #[.val (.ref a1), .val (.int (0 : Int32)), .val (.int (5 : Int32)), .val (.int t2), .val (.int (((0 : Int32) + (1 : Int32)) + (1 : Int32)))] [(.int (48 : Int32)), (.int (f 2))])
          by_cases hc19_2 : (f 2) < (48 : Int32)
          · skip
            refine Done.go (fun _ k => XS.icmpYes X0.here hx rfl (pc0 := 19) (pc' := 31) rfl (hb hby d4_19) rfl (tlt hc19_2).1 (by decide) (by decide) k) ?_
            show Done p e s below _ _ _ s₁ (mkF m 31 #[.val (.ref a1), .val (.int (0 : Int32)), .val (.int (5 : Int32)), .val (.int t2), .val (.int (((0 : Int32) + (1 : Int32)) + (1 : Int32)))] [])
            refine Done.go (fun _ k => XS.iconst X0.here hx rfl (hb hby d4_31) k) ?_
            show Done p e s below _ _ _ s₁ (mkF m 32 #[.val (.ref a1), .val (.int (0 : Int32)), .val (.int (5 : Int32)), .val (.int t2), .val (.int (((0 : Int32) + (1 : Int32)) + (1 : Int32)))] [(.int (-1 : Int32))])
            refine Done.retI X0 hx hlk hrt (hb hby d4_32) ?_ (by first | decide | omega) (by first | decide | omega)
            rw [e0]
            exact ⟨_, rfl, ⟨fun _ q => q.2.2.1.1 hc19_2, fun _ => by decide⟩, N0, rfl⟩
          · skip
            refine Done.go (fun _ k => XS.icmpNo X0.here hx rfl (hb hby d4_19) rfl (flt hc19_2).1 k) ?_
            show Done p e s below _ _ _ s₁ (mkF m 22 #[.val (.ref a1), .val (.int (0 : Int32)), .val (.int (5 : Int32)), .val (.int t2), .val (.int (((0 : Int32) + (1 : Int32)) + (1 : Int32)))] [])
            refine Done.go (fun _ k => XS.aloadN X0.here hx rfl (hb hby d4_22) rfl rfl k) ?_
            show Done p e s below _ _ _ s₁ (mkF m 23 #[.val (.ref a1), .val (.int (0 : Int32)), .val (.int (5 : Int32)), .val (.int t2), .val (.int (((0 : Int32) + (1 : Int32)) + (1 : Int32)))] [(.ref a1)])
            refine Done.go (fun _ k => XS.iload X0.here hx rfl (hb hby d4_23) rfl k) ?_
            show Done p e s below _ _ _ s₁ (mkF m 25 #[.val (.ref a1), .val (.int (0 : Int32)), .val (.int (5 : Int32)), .val (.int t2), .val (.int (((0 : Int32) + (1 : Int32)) + (1 : Int32)))] [(.int (((0 : Int32) + (1 : Int32)) + (1 : Int32))), (.ref a1)])
            refine Done.ldB X0 hx hZ e0 V0 (j := (((0 : Int32) + (1 : Int32)) + (1 : Int32))) (w := (f 2)) 2 (by decide) rfl (by omega) rfl (hb hby d4_25) ?_
            show Done p e s below _ _ _ s₁ (mkF m 26 #[.val (.ref a1), .val (.int (0 : Int32)), .val (.int (5 : Int32)), .val (.int t2), .val (.int (((0 : Int32) + (1 : Int32)) + (1 : Int32)))] [(.int (f 2))])
            refine Done.go (fun _ k => XS.bipush X0.here hx rfl (hb hby d4_26) k) ?_
            show Done p e s below _ _ _ s₁ (mkF m 28 #[.val (.ref a1), .val (.int (0 : Int32)), .val (.int (5 : Int32)), .val (.int t2), .val (.int (((0 : Int32) + (1 : Int32)) + (1 : Int32)))] [(.int (57 : Int32)), (.int (f 2))])
            by_cases hc28_2 : (57 : Int32) < (f 2)
            · skip
              refine Done.go (fun _ k => XS.icmpNo X0.here hx rfl (hb hby d4_28) rfl (tlt hc28_2).2.2.2 k) ?_
              show Done p e s below _ _ _ s₁ (mkF m 31 #[.val (.ref a1), .val (.int (0 : Int32)), .val (.int (5 : Int32)), .val (.int t2), .val (.int (((0 : Int32) + (1 : Int32)) + (1 : Int32)))] [])
              refine Done.go (fun _ k => XS.iconst X0.here hx rfl (hb hby d4_31) k) ?_
              show Done p e s below _ _ _ s₁ (mkF m 32 #[.val (.ref a1), .val (.int (0 : Int32)), .val (.int (5 : Int32)), .val (.int t2), .val (.int (((0 : Int32) + (1 : Int32)) + (1 : Int32)))] [(.int (-1 : Int32))])
              refine Done.retI X0 hx hlk hrt (hb hby d4_32) ?_ (by first | decide | omega) (by first | decide | omega)
              rw [e0]
              exact ⟨_, rfl, ⟨fun _ q => q.2.2.1.2 hc28_2, fun _ => by decide⟩, N0, rfl⟩
            · skip
              refine Done.go (fun _ k => XS.icmpYes X0.here hx rfl (pc0 := 28) (pc' := 33) rfl (hb hby d4_28) rfl (flt hc28_2).2.2.2 (by decide) (by decide) k) ?_
              show Done p e s below _ _ _ s₁ (mkF m 33 #[.val (.ref a1), .val (.int (0 : Int32)), .val (.int (5 : Int32)), .val (.int t2), .val (.int (((0 : Int32) + (1 : Int32)) + (1 : Int32)))] [])
              refine Done.go (fun _ k => XS.iloadN X0.here hx rfl (hb hby d4_33) rfl k) ?_
              show Done p e s below _ _ _ s₁ (mkF m 34 #[.val (.ref a1), .val (.int (0 : Int32)), .val (.int (5 : Int32)), .val (.int t2), .val (.int (((0 : Int32) + (1 : Int32)) + (1 : Int32)))] [(.int t2)])
              refine Done.go (fun _ k => XS.bipush X0.here hx rfl (hb hby d4_34) k) ?_
              show Done p e s below _ _ _ s₁ (mkF m 36 #[.val (.ref a1), .val (.int (0 : Int32)), .val (.int (5 : Int32)), .val (.int t2), .val (.int (((0 : Int32) + (1 : Int32)) + (1 : Int32)))] [(.int (10 : Int32)), (.int t2)])
              refine Done.go (fun _ k => XS.imul X0.here hx rfl (hb hby d4_36) rfl k) ?_
              show Done p e s below _ _ _ s₁ (mkF m 37 #[.val (.ref a1), .val (.int (0 : Int32)), .val (.int (5 : Int32)), .val (.int t2), .val (.int (((0 : Int32) + (1 : Int32)) + (1 : Int32)))] [(.int (t2 * (10 : Int32)))])
              refine Done.go (fun _ k => XS.aloadN X0.here hx rfl (hb hby d4_37) rfl rfl k) ?_
              show Done p e s below _ _ _ s₁ (mkF m 38 #[.val (.ref a1), .val (.int (0 : Int32)), .val (.int (5 : Int32)), .val (.int t2), .val (.int (((0 : Int32) + (1 : Int32)) + (1 : Int32)))] [(.ref a1), (.int (t2 * (10 : Int32)))])
              refine Done.go (fun _ k => XS.iload X0.here hx rfl (hb hby d4_38) rfl k) ?_
              show Done p e s below _ _ _ s₁ (mkF m 40 #[.val (.ref a1), .val (.int (0 : Int32)), .val (.int (5 : Int32)), .val (.int t2), .val (.int (((0 : Int32) + (1 : Int32)) + (1 : Int32)))] [(.int (((0 : Int32) + (1 : Int32)) + (1 : Int32))), (.ref a1), (.int (t2 * (10 : Int32)))])
              refine Done.ldB X0 hx hZ e0 V0 (j := (((0 : Int32) + (1 : Int32)) + (1 : Int32))) (w := (f 2)) 2 (by decide) rfl (by omega) rfl (hb hby d4_40) ?_
              show Done p e s below _ _ _ s₁ (mkF m 41 #[.val (.ref a1), .val (.int (0 : Int32)), .val (.int (5 : Int32)), .val (.int t2), .val (.int (((0 : Int32) + (1 : Int32)) + (1 : Int32)))] [(.int (f 2)), (.int (t2 * (10 : Int32)))])
              refine Done.go (fun _ k => XS.iadd X0.here hx rfl (hb hby d4_41) rfl k) ?_
              show Done p e s below _ _ _ s₁ (mkF m 42 #[.val (.ref a1), .val (.int (0 : Int32)), .val (.int (5 : Int32)), .val (.int t2), .val (.int (((0 : Int32) + (1 : Int32)) + (1 : Int32)))] [(.int ((t2 * (10 : Int32)) + (f 2)))])
              refine Done.go (fun _ k => XS.bipush X0.here hx rfl (hb hby d4_42) k) ?_
              show Done p e s below _ _ _ s₁ (mkF m 44 #[.val (.ref a1), .val (.int (0 : Int32)), .val (.int (5 : Int32)), .val (.int t2), .val (.int (((0 : Int32) + (1 : Int32)) + (1 : Int32)))] [(.int (48 : Int32)), (.int ((t2 * (10 : Int32)) + (f 2)))])
              refine Done.go (fun _ k => XS.isub X0.here hx rfl (hb hby d4_44) rfl k) ?_
              show Done p e s below _ _ _ s₁ (mkF m 45 #[.val (.ref a1), .val (.int (0 : Int32)), .val (.int (5 : Int32)), .val (.int t2), .val (.int (((0 : Int32) + (1 : Int32)) + (1 : Int32)))] [(.int (((t2 * (10 : Int32)) + (f 2)) - (48 : Int32)))])
              refine Done.go (fun _ k => XS.istoreN X0.here hx rfl (hb hby d4_45) rfl (l' := #[.val (.ref a1), .val (.int (0 : Int32)), .val (.int (5 : Int32)), .val (.int (((t2 * (10 : Int32)) + (f 2)) - (48 : Int32))), .val (.int (((0 : Int32) + (1 : Int32)) + (1 : Int32)))]) rfl k) ?_
              show Done p e s below _ _ _ s₁ (mkF m 46 #[.val (.ref a1), .val (.int (0 : Int32)), .val (.int (5 : Int32)), .val (.int (((t2 * (10 : Int32)) + (f 2)) - (48 : Int32))), .val (.int (((0 : Int32) + (1 : Int32)) + (1 : Int32)))] [])
              have hb3 := own_step (M := 100) (by decide) hb2 (⟨hc19_2, hc28_2⟩ : own_isd (f 2))
              generalize (((t2 * (10 : Int32)) + (f 2)) - (48 : Int32)) = t3 at hb3 ⊢
              show Done p e s below _ _ _ s₁ (mkF m 46 #[.val (.ref a1), .val (.int (0 : Int32)), .val (.int (5 : Int32)), .val (.int t3), .val (.int (((0 : Int32) + (1 : Int32)) + (1 : Int32)))] [])
              refine Done.go (fun _ k => XS.iinc X0.here hx rfl (hb hby d4_46) rfl (l' := #[.val (.ref a1), .val (.int (0 : Int32)), .val (.int (5 : Int32)), .val (.int t3), .val (.int ((((0 : Int32) + (1 : Int32)) + (1 : Int32)) + (1 : Int32)))]) rfl k) ?_
              show Done p e s below _ _ _ s₁ (mkF m 49 #[.val (.ref a1), .val (.int (0 : Int32)), .val (.int (5 : Int32)), .val (.int t3), .val (.int ((((0 : Int32) + (1 : Int32)) + (1 : Int32)) + (1 : Int32)))] [])
              refine Done.go (fun _ k => XS.goto X0.here hx rfl (pc0 := 49) (pc' := 5) rfl (hb hby d4_49) (by decide) (by decide) k) ?_
              show Done p e s below _ _ _ s₁ (mkF m 5 #[.val (.ref a1), .val (.int (0 : Int32)), .val (.int (5 : Int32)), .val (.int t3), .val (.int ((((0 : Int32) + (1 : Int32)) + (1 : Int32)) + (1 : Int32)))] [])
              refine Done.go (fun _ k => XS.iload X0.here hx rfl (hb hby d4_5) rfl k) ?_
              show Done p e s below _ _ _ s₁ (mkF m 7 #[.val (.ref a1), .val (.int (0 : Int32)), .val (.int (5 : Int32)), .val (.int t3), .val (.int ((((0 : Int32) + (1 : Int32)) + (1 : Int32)) + (1 : Int32)))] [(.int ((((0 : Int32) + (1 : Int32)) + (1 : Int32)) + (1 : Int32)))])
              refine Done.go (fun _ k => XS.iloadN X0.here hx rfl (hb hby d4_7) rfl k) ?_
              show Done p e s below _ _ _ s₁ (mkF m 8 #[.val (.ref a1), .val (.int (0 : Int32)), .val (.int (5 : Int32)), .val (.int t3), .val (.int ((((0 : Int32) + (1 : Int32)) + (1 : Int32)) + (1 : Int32)))] [(.int (0 : Int32)), (.int ((((0 : Int32) + (1 : Int32)) + (1 : Int32)) + (1 : Int32)))])
              refine Done.go (fun _ k => XS.iloadN X0.here hx rfl (hb hby d4_8) rfl k) ?_
              show Done p e s below _ _ _ s₁ (mkF m 9 #[.val (.ref a1), .val (.int (0 : Int32)), .val (.int (5 : Int32)), .val (.int t3), .val (.int ((((0 : Int32) + (1 : Int32)) + (1 : Int32)) + (1 : Int32)))] [(.int (5 : Int32)), (.int (0 : Int32)), (.int ((((0 : Int32) + (1 : Int32)) + (1 : Int32)) + (1 : Int32)))])
              refine Done.go (fun _ k => XS.iadd X0.here hx rfl (hb hby d4_9) rfl k) ?_
              show Done p e s below _ _ _ s₁ (mkF m 10 #[.val (.ref a1), .val (.int (0 : Int32)), .val (.int (5 : Int32)), .val (.int t3), .val (.int ((((0 : Int32) + (1 : Int32)) + (1 : Int32)) + (1 : Int32)))] [(.int ((0 : Int32) + (5 : Int32))), (.int ((((0 : Int32) + (1 : Int32)) + (1 : Int32)) + (1 : Int32)))])
              refine Done.go (fun _ k => XS.icmpNo X0.here hx rfl (hb hby d4_10) rfl (tlt (by decide)).2.1 k) ?_
              show Done p e s below _ _ _ s₁ (mkF m 13 #[.val (.ref a1), .val (.int (0 : Int32)), .val (.int (5 : Int32)), .val (.int t3), .val (.int ((((0 : Int32) + (1 : Int32)) + (1 : Int32)) + (1 : Int32)))] [])
              refine Done.go (fun _ k => XS.aloadN X0.here hx rfl (hb hby d4_13) rfl rfl k) ?_
              show Done p e s below _ _ _ s₁ (mkF m 14 #[.val (.ref a1), .val (.int (0 : Int32)), .val (.int (5 : Int32)), .val (.int t3), .val (.int ((((0 : Int32) + (1 : Int32)) + (1 : Int32)) + (1 : Int32)))] [(.ref a1)])
              refine Done.go (fun _ k => XS.iload X0.here hx rfl (hb hby d4_14) rfl k) ?_
              show Done p e s below _ _ _ s₁ (mkF m 16 #[.val (.ref a1), .val (.int (0 : Int32)), .val (.int (5 : Int32)), .val (.int t3), .val (.int ((((0 : Int32) + (1 : Int32)) + (1 : Int32)) + (1 : Int32)))] [(.int ((((0 : Int32) + (1 : Int32)) + (1 : Int32)) + (1 : Int32))), (.ref a1)])
              refine Done.ldB X0 hx hZ e0 V0 (j := ((((0 : Int32) + (1 : Int32)) + (1 : Int32)) + (1 : Int32))) (w := (f 3)) 3 (by decide) rfl (by omega) rfl (hb hby d4_16) ?_
              show Done p e s below _ _ _ s₁ (mkF m 17 #[.val (.ref a1), .val (.int (0 : Int32)), .val (.int (5 : Int32)), .val (.int t3), .val (.int ((((0 : Int32) + (1 : Int32)) + (1 : Int32)) + (1 : Int32)))] [(.int (f 3))])
              refine Done.go (fun _ k => XS.bipush X0.here hx rfl (hb hby d4_17) k) ?_
              show Done p e s below _ _ _ s₁ (mkF m 19 #[.val (.ref a1), .val (.int (0 : Int32)), .val (.int (5 : Int32)), .val (.int t3), .val (.int ((((0 : Int32) + (1 : Int32)) + (1 : Int32)) + (1 : Int32)))] [(.int (48 : Int32)), (.int (f 3))])
              by_cases hc19_3 : (f 3) < (48 : Int32)
              · skip
                refine Done.go (fun _ k => XS.icmpYes X0.here hx rfl (pc0 := 19) (pc' := 31) rfl (hb hby d4_19) rfl (tlt hc19_3).1 (by decide) (by decide) k) ?_
                show Done p e s below _ _ _ s₁ (mkF m 31 #[.val (.ref a1), .val (.int (0 : Int32)), .val (.int (5 : Int32)), .val (.int t3), .val (.int ((((0 : Int32) + (1 : Int32)) + (1 : Int32)) + (1 : Int32)))] [])
                refine Done.go (fun _ k => XS.iconst X0.here hx rfl (hb hby d4_31) k) ?_
                show Done p e s below _ _ _ s₁ (mkF m 32 #[.val (.ref a1), .val (.int (0 : Int32)), .val (.int (5 : Int32)), .val (.int t3), .val (.int ((((0 : Int32) + (1 : Int32)) + (1 : Int32)) + (1 : Int32)))] [(.int (-1 : Int32))])
                refine Done.retI X0 hx hlk hrt (hb hby d4_32) ?_ (by first | decide | omega) (by first | decide | omega)
                rw [e0]
                exact ⟨_, rfl, ⟨fun _ q => q.2.2.2.1.1 hc19_3, fun _ => by decide⟩, N0, rfl⟩
              · skip
                refine Done.go (fun _ k => XS.icmpNo X0.here hx rfl (hb hby d4_19) rfl (flt hc19_3).1 k) ?_
                show Done p e s below _ _ _ s₁ (mkF m 22 #[.val (.ref a1), .val (.int (0 : Int32)), .val (.int (5 : Int32)), .val (.int t3), .val (.int ((((0 : Int32) + (1 : Int32)) + (1 : Int32)) + (1 : Int32)))] [])
                refine Done.go (fun _ k => XS.aloadN X0.here hx rfl (hb hby d4_22) rfl rfl k) ?_
                show Done p e s below _ _ _ s₁ (mkF m 23 #[.val (.ref a1), .val (.int (0 : Int32)), .val (.int (5 : Int32)), .val (.int t3), .val (.int ((((0 : Int32) + (1 : Int32)) + (1 : Int32)) + (1 : Int32)))] [(.ref a1)])
                refine Done.go (fun _ k => XS.iload X0.here hx rfl (hb hby d4_23) rfl k) ?_
                show Done p e s below _ _ _ s₁ (mkF m 25 #[.val (.ref a1), .val (.int (0 : Int32)), .val (.int (5 : Int32)), .val (.int t3), .val (.int ((((0 : Int32) + (1 : Int32)) + (1 : Int32)) + (1 : Int32)))] [(.int ((((0 : Int32) + (1 : Int32)) + (1 : Int32)) + (1 : Int32))), (.ref a1)])
                refine Done.ldB X0 hx hZ e0 V0 (j := ((((0 : Int32) + (1 : Int32)) + (1 : Int32)) + (1 : Int32))) (w := (f 3)) 3 (by decide) rfl (by omega) rfl (hb hby d4_25) ?_
                show Done p e s below _ _ _ s₁ (mkF m 26 #[.val (.ref a1), .val (.int (0 : Int32)), .val (.int (5 : Int32)), .val (.int t3), .val (.int ((((0 : Int32) + (1 : Int32)) + (1 : Int32)) + (1 : Int32)))] [(.int (f 3))])
                refine Done.go (fun _ k => XS.bipush X0.here hx rfl (hb hby d4_26) k) ?_
                show Done p e s below _ _ _ s₁ (mkF m 28 #[.val (.ref a1), .val (.int (0 : Int32)), .val (.int (5 : Int32)), .val (.int t3), .val (.int ((((0 : Int32) + (1 : Int32)) + (1 : Int32)) + (1 : Int32)))] [(.int (57 : Int32)), (.int (f 3))])
                by_cases hc28_3 : (57 : Int32) < (f 3)
                · skip
                  refine Done.go (fun _ k => XS.icmpNo X0.here hx rfl (hb hby d4_28) rfl (tlt hc28_3).2.2.2 k) ?_
                  show Done p e s below _ _ _ s₁ (mkF m 31 #[.val (.ref a1), .val (.int (0 : Int32)), .val (.int (5 : Int32)), .val (.int t3), .val (.int ((((0 : Int32) + (1 : Int32)) + (1 : Int32)) + (1 : Int32)))] [])
                  refine Done.go (fun _ k => XS.iconst X0.here hx rfl (hb hby d4_31) k) ?_
                  show Done p e s below _ _ _ s₁ (mkF m 32 #[.val (.ref a1), .val (.int (0 : Int32)), .val (.int (5 : Int32)), .val (.int t3), .val (.int ((((0 : Int32) + (1 : Int32)) + (1 : Int32)) + (1 : Int32)))] [(.int (-1 : Int32))])
                  refine Done.retI X0 hx hlk hrt (hb hby d4_32) ?_ (by first | decide | omega) (by first | decide | omega)
                  rw [e0]
                  exact ⟨_, rfl, ⟨fun _ q => q.2.2.2.1.2 hc28_3, fun _ => by decide⟩, N0, rfl⟩
                · skip
                  refine Done.go (fun _ k => XS.icmpYes X0.here hx rfl (pc0 := 28) (pc' := 33) rfl (hb hby d4_28) rfl (flt hc28_3).2.2.2 (by decide) (by decide) k) ?_
                  show Done p e s below _ _ _ s₁ (mkF m 33 #[.val (.ref a1), .val (.int (0 : Int32)), .val (.int (5 : Int32)), .val (.int t3), .val (.int ((((0 : Int32) + (1 : Int32)) + (1 : Int32)) + (1 : Int32)))] [])
                  refine Done.go (fun _ k => XS.iloadN X0.here hx rfl (hb hby d4_33) rfl k) ?_
                  show Done p e s below _ _ _ s₁ (mkF m 34 #[.val (.ref a1), .val (.int (0 : Int32)), .val (.int (5 : Int32)), .val (.int t3), .val (.int ((((0 : Int32) + (1 : Int32)) + (1 : Int32)) + (1 : Int32)))] [(.int t3)])
                  refine Done.go (fun _ k => XS.bipush X0.here hx rfl (hb hby d4_34) k) ?_
                  show Done p e s below _ _ _ s₁ (mkF m 36 #[.val (.ref a1), .val (.int (0 : Int32)), .val (.int (5 : Int32)), .val (.int t3), .val (.int ((((0 : Int32) + (1 : Int32)) + (1 : Int32)) + (1 : Int32)))] [(.int (10 : Int32)), (.int t3)])
                  refine Done.go (fun _ k => XS.imul X0.here hx rfl (hb hby d4_36) rfl k) ?_
                  show Done p e s below _ _ _ s₁ (mkF m 37 #[.val (.ref a1), .val (.int (0 : Int32)), .val (.int (5 : Int32)), .val (.int t3), .val (.int ((((0 : Int32) + (1 : Int32)) + (1 : Int32)) + (1 : Int32)))] [(.int (t3 * (10 : Int32)))])
                  refine Done.go (fun _ k => XS.aloadN X0.here hx rfl (hb hby d4_37) rfl rfl k) ?_
                  show Done p e s below _ _ _ s₁ (mkF m 38 #[.val (.ref a1), .val (.int (0 : Int32)), .val (.int (5 : Int32)), .val (.int t3), .val (.int ((((0 : Int32) + (1 : Int32)) + (1 : Int32)) + (1 : Int32)))] [(.ref a1), (.int (t3 * (10 : Int32)))])
                  refine Done.go (fun _ k => XS.iload X0.here hx rfl (hb hby d4_38) rfl k) ?_
                  show Done p e s below _ _ _ s₁ (mkF m 40 #[.val (.ref a1), .val (.int (0 : Int32)), .val (.int (5 : Int32)), .val (.int t3), .val (.int ((((0 : Int32) + (1 : Int32)) + (1 : Int32)) + (1 : Int32)))] [(.int ((((0 : Int32) + (1 : Int32)) + (1 : Int32)) + (1 : Int32))), (.ref a1), (.int (t3 * (10 : Int32)))])
                  refine Done.ldB X0 hx hZ e0 V0 (j := ((((0 : Int32) + (1 : Int32)) + (1 : Int32)) + (1 : Int32))) (w := (f 3)) 3 (by decide) rfl (by omega) rfl (hb hby d4_40) ?_
                  show Done p e s below _ _ _ s₁ (mkF m 41 #[.val (.ref a1), .val (.int (0 : Int32)), .val (.int (5 : Int32)), .val (.int t3), .val (.int ((((0 : Int32) + (1 : Int32)) + (1 : Int32)) + (1 : Int32)))] [(.int (f 3)), (.int (t3 * (10 : Int32)))])
                  refine Done.go (fun _ k => XS.iadd X0.here hx rfl (hb hby d4_41) rfl k) ?_
                  show Done p e s below _ _ _ s₁ (mkF m 42 #[.val (.ref a1), .val (.int (0 : Int32)), .val (.int (5 : Int32)), .val (.int t3), .val (.int ((((0 : Int32) + (1 : Int32)) + (1 : Int32)) + (1 : Int32)))] [(.int ((t3 * (10 : Int32)) + (f 3)))])
                  refine Done.go (fun _ k => XS.bipush X0.here hx rfl (hb hby d4_42) k) ?_
                  show Done p e s below _ _ _ s₁ (mkF m 44 #[.val (.ref a1), .val (.int (0 : Int32)), .val (.int (5 : Int32)), .val (.int t3), .val (.int ((((0 : Int32) + (1 : Int32)) + (1 : Int32)) + (1 : Int32)))] [(.int (48 : Int32)), (.int ((t3 * (10 : Int32)) + (f 3)))])
                  refine Done.go (fun _ k => XS.isub X0.here hx rfl (hb hby d4_44) rfl k) ?_
                  show Done p e s below _ _ _ s₁ (mkF m 45 #[.val (.ref a1), .val (.int (0 : Int32)), .val (.int (5 : Int32)), .val (.int t3), .val (.int ((((0 : Int32) + (1 : Int32)) + (1 : Int32)) + (1 : Int32)))] [(.int (((t3 * (10 : Int32)) + (f 3)) - (48 : Int32)))])
                  refine Done.go (fun _ k => XS.istoreN X0.here hx rfl (hb hby d4_45) rfl (l' := #[.val (.ref a1), .val (.int (0 : Int32)), .val (.int (5 : Int32)), .val (.int (((t3 * (10 : Int32)) + (f 3)) - (48 : Int32))), .val (.int ((((0 : Int32) + (1 : Int32)) + (1 : Int32)) + (1 : Int32)))]) rfl k) ?_
                  show Done p e s below _ _ _ s₁ (mkF m 46 #[.val (.ref a1), .val (.int (0 : Int32)), .val (.int (5 : Int32)), .val (.int (((t3 * (10 : Int32)) + (f 3)) - (48 : Int32))), .val (.int ((((0 : Int32) + (1 : Int32)) + (1 : Int32)) + (1 : Int32)))] [])
                  have hb4 := own_step (M := 1000) (by decide) hb3 (⟨hc19_3, hc28_3⟩ : own_isd (f 3))
                  generalize (((t3 * (10 : Int32)) + (f 3)) - (48 : Int32)) = t4 at hb4 ⊢
                  show Done p e s below _ _ _ s₁ (mkF m 46 #[.val (.ref a1), .val (.int (0 : Int32)), .val (.int (5 : Int32)), .val (.int t4), .val (.int ((((0 : Int32) + (1 : Int32)) + (1 : Int32)) + (1 : Int32)))] [])
                  refine Done.go (fun _ k => XS.iinc X0.here hx rfl (hb hby d4_46) rfl (l' := #[.val (.ref a1), .val (.int (0 : Int32)), .val (.int (5 : Int32)), .val (.int t4), .val (.int (((((0 : Int32) + (1 : Int32)) + (1 : Int32)) + (1 : Int32)) + (1 : Int32)))]) rfl k) ?_
                  show Done p e s below _ _ _ s₁ (mkF m 49 #[.val (.ref a1), .val (.int (0 : Int32)), .val (.int (5 : Int32)), .val (.int t4), .val (.int (((((0 : Int32) + (1 : Int32)) + (1 : Int32)) + (1 : Int32)) + (1 : Int32)))] [])
                  refine Done.go (fun _ k => XS.goto X0.here hx rfl (pc0 := 49) (pc' := 5) rfl (hb hby d4_49) (by decide) (by decide) k) ?_
                  show Done p e s below _ _ _ s₁ (mkF m 5 #[.val (.ref a1), .val (.int (0 : Int32)), .val (.int (5 : Int32)), .val (.int t4), .val (.int (((((0 : Int32) + (1 : Int32)) + (1 : Int32)) + (1 : Int32)) + (1 : Int32)))] [])
                  refine Done.go (fun _ k => XS.iload X0.here hx rfl (hb hby d4_5) rfl k) ?_
                  show Done p e s below _ _ _ s₁ (mkF m 7 #[.val (.ref a1), .val (.int (0 : Int32)), .val (.int (5 : Int32)), .val (.int t4), .val (.int (((((0 : Int32) + (1 : Int32)) + (1 : Int32)) + (1 : Int32)) + (1 : Int32)))] [(.int (((((0 : Int32) + (1 : Int32)) + (1 : Int32)) + (1 : Int32)) + (1 : Int32)))])
                  refine Done.go (fun _ k => XS.iloadN X0.here hx rfl (hb hby d4_7) rfl k) ?_
                  show Done p e s below _ _ _ s₁ (mkF m 8 #[.val (.ref a1), .val (.int (0 : Int32)), .val (.int (5 : Int32)), .val (.int t4), .val (.int (((((0 : Int32) + (1 : Int32)) + (1 : Int32)) + (1 : Int32)) + (1 : Int32)))] [(.int (0 : Int32)), (.int (((((0 : Int32) + (1 : Int32)) + (1 : Int32)) + (1 : Int32)) + (1 : Int32)))])
                  refine Done.go (fun _ k => XS.iloadN X0.here hx rfl (hb hby d4_8) rfl k) ?_
                  show Done p e s below _ _ _ s₁ (mkF m 9 #[.val (.ref a1), .val (.int (0 : Int32)), .val (.int (5 : Int32)), .val (.int t4), .val (.int (((((0 : Int32) + (1 : Int32)) + (1 : Int32)) + (1 : Int32)) + (1 : Int32)))] [(.int (5 : Int32)), (.int (0 : Int32)), (.int (((((0 : Int32) + (1 : Int32)) + (1 : Int32)) + (1 : Int32)) + (1 : Int32)))])
                  refine Done.go (fun _ k => XS.iadd X0.here hx rfl (hb hby d4_9) rfl k) ?_
                  show Done p e s below _ _ _ s₁ (mkF m 10 #[.val (.ref a1), .val (.int (0 : Int32)), .val (.int (5 : Int32)), .val (.int t4), .val (.int (((((0 : Int32) + (1 : Int32)) + (1 : Int32)) + (1 : Int32)) + (1 : Int32)))] [(.int ((0 : Int32) + (5 : Int32))), (.int (((((0 : Int32) + (1 : Int32)) + (1 : Int32)) + (1 : Int32)) + (1 : Int32)))])
                  refine Done.go (fun _ k => XS.icmpNo X0.here hx rfl (hb hby d4_10) rfl (tlt (by decide)).2.1 k) ?_
                  show Done p e s below _ _ _ s₁ (mkF m 13 #[.val (.ref a1), .val (.int (0 : Int32)), .val (.int (5 : Int32)), .val (.int t4), .val (.int (((((0 : Int32) + (1 : Int32)) + (1 : Int32)) + (1 : Int32)) + (1 : Int32)))] [])
                  refine Done.go (fun _ k => XS.aloadN X0.here hx rfl (hb hby d4_13) rfl rfl k) ?_
                  show Done p e s below _ _ _ s₁ (mkF m 14 #[.val (.ref a1), .val (.int (0 : Int32)), .val (.int (5 : Int32)), .val (.int t4), .val (.int (((((0 : Int32) + (1 : Int32)) + (1 : Int32)) + (1 : Int32)) + (1 : Int32)))] [(.ref a1)])
                  refine Done.go (fun _ k => XS.iload X0.here hx rfl (hb hby d4_14) rfl k) ?_
                  show Done p e s below _ _ _ s₁ (mkF m 16 #[.val (.ref a1), .val (.int (0 : Int32)), .val (.int (5 : Int32)), .val (.int t4), .val (.int (((((0 : Int32) + (1 : Int32)) + (1 : Int32)) + (1 : Int32)) + (1 : Int32)))] [(.int (((((0 : Int32) + (1 : Int32)) + (1 : Int32)) + (1 : Int32)) + (1 : Int32))), (.ref a1)])
                  refine Done.ldB X0 hx hZ e0 V0 (j := (((((0 : Int32) + (1 : Int32)) + (1 : Int32)) + (1 : Int32)) + (1 : Int32))) (w := (f 4)) 4 (by decide) rfl (by omega) rfl (hb hby d4_16) ?_
                  show Done p e s below _ _ _ s₁ (mkF m 17 #[.val (.ref a1), .val (.int (0 : Int32)), .val (.int (5 : Int32)), .val (.int t4), .val (.int (((((0 : Int32) + (1 : Int32)) + (1 : Int32)) + (1 : Int32)) + (1 : Int32)))] [(.int (f 4))])
                  refine Done.go (fun _ k => XS.bipush X0.here hx rfl (hb hby d4_17) k) ?_
                  show Done p e s below _ _ _ s₁ (mkF m 19 #[.val (.ref a1), .val (.int (0 : Int32)), .val (.int (5 : Int32)), .val (.int t4), .val (.int (((((0 : Int32) + (1 : Int32)) + (1 : Int32)) + (1 : Int32)) + (1 : Int32)))] [(.int (48 : Int32)), (.int (f 4))])
                  by_cases hc19_4 : (f 4) < (48 : Int32)
                  · skip
                    refine Done.go (fun _ k => XS.icmpYes X0.here hx rfl (pc0 := 19) (pc' := 31) rfl (hb hby d4_19) rfl (tlt hc19_4).1 (by decide) (by decide) k) ?_
                    show Done p e s below _ _ _ s₁ (mkF m 31 #[.val (.ref a1), .val (.int (0 : Int32)), .val (.int (5 : Int32)), .val (.int t4), .val (.int (((((0 : Int32) + (1 : Int32)) + (1 : Int32)) + (1 : Int32)) + (1 : Int32)))] [])
                    refine Done.go (fun _ k => XS.iconst X0.here hx rfl (hb hby d4_31) k) ?_
                    show Done p e s below _ _ _ s₁ (mkF m 32 #[.val (.ref a1), .val (.int (0 : Int32)), .val (.int (5 : Int32)), .val (.int t4), .val (.int (((((0 : Int32) + (1 : Int32)) + (1 : Int32)) + (1 : Int32)) + (1 : Int32)))] [(.int (-1 : Int32))])
                    refine Done.retI X0 hx hlk hrt (hb hby d4_32) ?_ (by first | decide | omega) (by first | decide | omega)
                    rw [e0]
                    exact ⟨_, rfl, ⟨fun _ q => q.2.2.2.2.1 hc19_4, fun _ => by decide⟩, N0, rfl⟩
                  · skip
                    refine Done.go (fun _ k => XS.icmpNo X0.here hx rfl (hb hby d4_19) rfl (flt hc19_4).1 k) ?_
                    show Done p e s below _ _ _ s₁ (mkF m 22 #[.val (.ref a1), .val (.int (0 : Int32)), .val (.int (5 : Int32)), .val (.int t4), .val (.int (((((0 : Int32) + (1 : Int32)) + (1 : Int32)) + (1 : Int32)) + (1 : Int32)))] [])
                    refine Done.go (fun _ k => XS.aloadN X0.here hx rfl (hb hby d4_22) rfl rfl k) ?_
                    show Done p e s below _ _ _ s₁ (mkF m 23 #[.val (.ref a1), .val (.int (0 : Int32)), .val (.int (5 : Int32)), .val (.int t4), .val (.int (((((0 : Int32) + (1 : Int32)) + (1 : Int32)) + (1 : Int32)) + (1 : Int32)))] [(.ref a1)])
                    refine Done.go (fun _ k => XS.iload X0.here hx rfl (hb hby d4_23) rfl k) ?_
                    show Done p e s below _ _ _ s₁ (mkF m 25 #[.val (.ref a1), .val (.int (0 : Int32)), .val (.int (5 : Int32)), .val (.int t4), .val (.int (((((0 : Int32) + (1 : Int32)) + (1 : Int32)) + (1 : Int32)) + (1 : Int32)))] [(.int (((((0 : Int32) + (1 : Int32)) + (1 : Int32)) + (1 : Int32)) + (1 : Int32))), (.ref a1)])
                    refine Done.ldB X0 hx hZ e0 V0 (j := (((((0 : Int32) + (1 : Int32)) + (1 : Int32)) + (1 : Int32)) + (1 : Int32))) (w := (f 4)) 4 (by decide) rfl (by omega) rfl (hb hby d4_25) ?_
                    show Done p e s below _ _ _ s₁ (mkF m 26 #[.val (.ref a1), .val (.int (0 : Int32)), .val (.int (5 : Int32)), .val (.int t4), .val (.int (((((0 : Int32) + (1 : Int32)) + (1 : Int32)) + (1 : Int32)) + (1 : Int32)))] [(.int (f 4))])
                    refine Done.go (fun _ k => XS.bipush X0.here hx rfl (hb hby d4_26) k) ?_
                    show Done p e s below _ _ _ s₁ (mkF m 28 #[.val (.ref a1), .val (.int (0 : Int32)), .val (.int (5 : Int32)), .val (.int t4), .val (.int (((((0 : Int32) + (1 : Int32)) + (1 : Int32)) + (1 : Int32)) + (1 : Int32)))] [(.int (57 : Int32)), (.int (f 4))])
                    by_cases hc28_4 : (57 : Int32) < (f 4)
                    · skip
                      refine Done.go (fun _ k => XS.icmpNo X0.here hx rfl (hb hby d4_28) rfl (tlt hc28_4).2.2.2 k) ?_
                      show Done p e s below _ _ _ s₁ (mkF m 31 #[.val (.ref a1), .val (.int (0 : Int32)), .val (.int (5 : Int32)), .val (.int t4), .val (.int (((((0 : Int32) + (1 : Int32)) + (1 : Int32)) + (1 : Int32)) + (1 : Int32)))] [])
                      refine Done.go (fun _ k => XS.iconst X0.here hx rfl (hb hby d4_31) k) ?_
                      show Done p e s below _ _ _ s₁ (mkF m 32 #[.val (.ref a1), .val (.int (0 : Int32)), .val (.int (5 : Int32)), .val (.int t4), .val (.int (((((0 : Int32) + (1 : Int32)) + (1 : Int32)) + (1 : Int32)) + (1 : Int32)))] [(.int (-1 : Int32))])
                      refine Done.retI X0 hx hlk hrt (hb hby d4_32) ?_ (by first | decide | omega) (by first | decide | omega)
                      rw [e0]
                      exact ⟨_, rfl, ⟨fun _ q => q.2.2.2.2.2 hc28_4, fun _ => by decide⟩, N0, rfl⟩
                    · skip
                      refine Done.go (fun _ k => XS.icmpYes X0.here hx rfl (pc0 := 28) (pc' := 33) rfl (hb hby d4_28) rfl (flt hc28_4).2.2.2 (by decide) (by decide) k) ?_
                      show Done p e s below _ _ _ s₁ (mkF m 33 #[.val (.ref a1), .val (.int (0 : Int32)), .val (.int (5 : Int32)), .val (.int t4), .val (.int (((((0 : Int32) + (1 : Int32)) + (1 : Int32)) + (1 : Int32)) + (1 : Int32)))] [])
                      refine Done.go (fun _ k => XS.iloadN X0.here hx rfl (hb hby d4_33) rfl k) ?_
                      show Done p e s below _ _ _ s₁ (mkF m 34 #[.val (.ref a1), .val (.int (0 : Int32)), .val (.int (5 : Int32)), .val (.int t4), .val (.int (((((0 : Int32) + (1 : Int32)) + (1 : Int32)) + (1 : Int32)) + (1 : Int32)))] [(.int t4)])
                      refine Done.go (fun _ k => XS.bipush X0.here hx rfl (hb hby d4_34) k) ?_
                      show Done p e s below _ _ _ s₁ (mkF m 36 #[.val (.ref a1), .val (.int (0 : Int32)), .val (.int (5 : Int32)), .val (.int t4), .val (.int (((((0 : Int32) + (1 : Int32)) + (1 : Int32)) + (1 : Int32)) + (1 : Int32)))] [(.int (10 : Int32)), (.int t4)])
                      refine Done.go (fun _ k => XS.imul X0.here hx rfl (hb hby d4_36) rfl k) ?_
                      show Done p e s below _ _ _ s₁ (mkF m 37 #[.val (.ref a1), .val (.int (0 : Int32)), .val (.int (5 : Int32)), .val (.int t4), .val (.int (((((0 : Int32) + (1 : Int32)) + (1 : Int32)) + (1 : Int32)) + (1 : Int32)))] [(.int (t4 * (10 : Int32)))])
                      refine Done.go (fun _ k => XS.aloadN X0.here hx rfl (hb hby d4_37) rfl rfl k) ?_
                      show Done p e s below _ _ _ s₁ (mkF m 38 #[.val (.ref a1), .val (.int (0 : Int32)), .val (.int (5 : Int32)), .val (.int t4), .val (.int (((((0 : Int32) + (1 : Int32)) + (1 : Int32)) + (1 : Int32)) + (1 : Int32)))] [(.ref a1), (.int (t4 * (10 : Int32)))])
                      refine Done.go (fun _ k => XS.iload X0.here hx rfl (hb hby d4_38) rfl k) ?_
                      show Done p e s below _ _ _ s₁ (mkF m 40 #[.val (.ref a1), .val (.int (0 : Int32)), .val (.int (5 : Int32)), .val (.int t4), .val (.int (((((0 : Int32) + (1 : Int32)) + (1 : Int32)) + (1 : Int32)) + (1 : Int32)))] [(.int (((((0 : Int32) + (1 : Int32)) + (1 : Int32)) + (1 : Int32)) + (1 : Int32))), (.ref a1), (.int (t4 * (10 : Int32)))])
                      refine Done.ldB X0 hx hZ e0 V0 (j := (((((0 : Int32) + (1 : Int32)) + (1 : Int32)) + (1 : Int32)) + (1 : Int32))) (w := (f 4)) 4 (by decide) rfl (by omega) rfl (hb hby d4_40) ?_
                      show Done p e s below _ _ _ s₁ (mkF m 41 #[.val (.ref a1), .val (.int (0 : Int32)), .val (.int (5 : Int32)), .val (.int t4), .val (.int (((((0 : Int32) + (1 : Int32)) + (1 : Int32)) + (1 : Int32)) + (1 : Int32)))] [(.int (f 4)), (.int (t4 * (10 : Int32)))])
                      refine Done.go (fun _ k => XS.iadd X0.here hx rfl (hb hby d4_41) rfl k) ?_
                      show Done p e s below _ _ _ s₁ (mkF m 42 #[.val (.ref a1), .val (.int (0 : Int32)), .val (.int (5 : Int32)), .val (.int t4), .val (.int (((((0 : Int32) + (1 : Int32)) + (1 : Int32)) + (1 : Int32)) + (1 : Int32)))] [(.int ((t4 * (10 : Int32)) + (f 4)))])
                      refine Done.go (fun _ k => XS.bipush X0.here hx rfl (hb hby d4_42) k) ?_
                      show Done p e s below _ _ _ s₁ (mkF m 44 #[.val (.ref a1), .val (.int (0 : Int32)), .val (.int (5 : Int32)), .val (.int t4), .val (.int (((((0 : Int32) + (1 : Int32)) + (1 : Int32)) + (1 : Int32)) + (1 : Int32)))] [(.int (48 : Int32)), (.int ((t4 * (10 : Int32)) + (f 4)))])
                      refine Done.go (fun _ k => XS.isub X0.here hx rfl (hb hby d4_44) rfl k) ?_
                      show Done p e s below _ _ _ s₁ (mkF m 45 #[.val (.ref a1), .val (.int (0 : Int32)), .val (.int (5 : Int32)), .val (.int t4), .val (.int (((((0 : Int32) + (1 : Int32)) + (1 : Int32)) + (1 : Int32)) + (1 : Int32)))] [(.int (((t4 * (10 : Int32)) + (f 4)) - (48 : Int32)))])
                      refine Done.go (fun _ k => XS.istoreN X0.here hx rfl (hb hby d4_45) rfl (l' := #[.val (.ref a1), .val (.int (0 : Int32)), .val (.int (5 : Int32)), .val (.int (((t4 * (10 : Int32)) + (f 4)) - (48 : Int32))), .val (.int (((((0 : Int32) + (1 : Int32)) + (1 : Int32)) + (1 : Int32)) + (1 : Int32)))]) rfl k) ?_
                      show Done p e s below _ _ _ s₁ (mkF m 46 #[.val (.ref a1), .val (.int (0 : Int32)), .val (.int (5 : Int32)), .val (.int (((t4 * (10 : Int32)) + (f 4)) - (48 : Int32))), .val (.int (((((0 : Int32) + (1 : Int32)) + (1 : Int32)) + (1 : Int32)) + (1 : Int32)))] [])
                      have hb5 := own_step (M := 10000) (by decide) hb4 (⟨hc19_4, hc28_4⟩ : own_isd (f 4))
                      generalize (((t4 * (10 : Int32)) + (f 4)) - (48 : Int32)) = t5 at hb5 ⊢
                      show Done p e s below _ _ _ s₁ (mkF m 46 #[.val (.ref a1), .val (.int (0 : Int32)), .val (.int (5 : Int32)), .val (.int t5), .val (.int (((((0 : Int32) + (1 : Int32)) + (1 : Int32)) + (1 : Int32)) + (1 : Int32)))] [])
                      refine Done.go (fun _ k => XS.iinc X0.here hx rfl (hb hby d4_46) rfl (l' := #[.val (.ref a1), .val (.int (0 : Int32)), .val (.int (5 : Int32)), .val (.int t5), .val (.int ((((((0 : Int32) + (1 : Int32)) + (1 : Int32)) + (1 : Int32)) + (1 : Int32)) + (1 : Int32)))]) rfl k) ?_
                      show Done p e s below _ _ _ s₁ (mkF m 49 #[.val (.ref a1), .val (.int (0 : Int32)), .val (.int (5 : Int32)), .val (.int t5), .val (.int ((((((0 : Int32) + (1 : Int32)) + (1 : Int32)) + (1 : Int32)) + (1 : Int32)) + (1 : Int32)))] [])
                      refine Done.go (fun _ k => XS.goto X0.here hx rfl (pc0 := 49) (pc' := 5) rfl (hb hby d4_49) (by decide) (by decide) k) ?_
                      show Done p e s below _ _ _ s₁ (mkF m 5 #[.val (.ref a1), .val (.int (0 : Int32)), .val (.int (5 : Int32)), .val (.int t5), .val (.int ((((((0 : Int32) + (1 : Int32)) + (1 : Int32)) + (1 : Int32)) + (1 : Int32)) + (1 : Int32)))] [])
                      refine Done.go (fun _ k => XS.iload X0.here hx rfl (hb hby d4_5) rfl k) ?_
                      show Done p e s below _ _ _ s₁ (mkF m 7 #[.val (.ref a1), .val (.int (0 : Int32)), .val (.int (5 : Int32)), .val (.int t5), .val (.int ((((((0 : Int32) + (1 : Int32)) + (1 : Int32)) + (1 : Int32)) + (1 : Int32)) + (1 : Int32)))] [(.int ((((((0 : Int32) + (1 : Int32)) + (1 : Int32)) + (1 : Int32)) + (1 : Int32)) + (1 : Int32)))])
                      refine Done.go (fun _ k => XS.iloadN X0.here hx rfl (hb hby d4_7) rfl k) ?_
                      show Done p e s below _ _ _ s₁ (mkF m 8 #[.val (.ref a1), .val (.int (0 : Int32)), .val (.int (5 : Int32)), .val (.int t5), .val (.int ((((((0 : Int32) + (1 : Int32)) + (1 : Int32)) + (1 : Int32)) + (1 : Int32)) + (1 : Int32)))] [(.int (0 : Int32)), (.int ((((((0 : Int32) + (1 : Int32)) + (1 : Int32)) + (1 : Int32)) + (1 : Int32)) + (1 : Int32)))])
                      refine Done.go (fun _ k => XS.iloadN X0.here hx rfl (hb hby d4_8) rfl k) ?_
                      show Done p e s below _ _ _ s₁ (mkF m 9 #[.val (.ref a1), .val (.int (0 : Int32)), .val (.int (5 : Int32)), .val (.int t5), .val (.int ((((((0 : Int32) + (1 : Int32)) + (1 : Int32)) + (1 : Int32)) + (1 : Int32)) + (1 : Int32)))] [(.int (5 : Int32)), (.int (0 : Int32)), (.int ((((((0 : Int32) + (1 : Int32)) + (1 : Int32)) + (1 : Int32)) + (1 : Int32)) + (1 : Int32)))])
                      refine Done.go (fun _ k => XS.iadd X0.here hx rfl (hb hby d4_9) rfl k) ?_
                      show Done p e s below _ _ _ s₁ (mkF m 10 #[.val (.ref a1), .val (.int (0 : Int32)), .val (.int (5 : Int32)), .val (.int t5), .val (.int ((((((0 : Int32) + (1 : Int32)) + (1 : Int32)) + (1 : Int32)) + (1 : Int32)) + (1 : Int32)))] [(.int ((0 : Int32) + (5 : Int32))), (.int ((((((0 : Int32) + (1 : Int32)) + (1 : Int32)) + (1 : Int32)) + (1 : Int32)) + (1 : Int32)))])
                      refine Done.go (fun _ k => XS.icmpYes X0.here hx rfl (pc0 := 10) (pc' := 52) rfl (hb hby d4_10) rfl (flt (by decide)).2.1 (by decide) (by decide) k) ?_
                      show Done p e s below _ _ _ s₁ (mkF m 52 #[.val (.ref a1), .val (.int (0 : Int32)), .val (.int (5 : Int32)), .val (.int t5), .val (.int ((((((0 : Int32) + (1 : Int32)) + (1 : Int32)) + (1 : Int32)) + (1 : Int32)) + (1 : Int32)))] [])
                      refine Done.go (fun _ k => XS.iloadN X0.here hx rfl (hb hby d4_52) rfl k) ?_
                      show Done p e s below _ _ _ s₁ (mkF m 53 #[.val (.ref a1), .val (.int (0 : Int32)), .val (.int (5 : Int32)), .val (.int t5), .val (.int ((((((0 : Int32) + (1 : Int32)) + (1 : Int32)) + (1 : Int32)) + (1 : Int32)) + (1 : Int32)))] [(.int t5)])
                      refine Done.retI X0 hx hlk hrt (hb hby d4_53) ?_ (by first | decide | omega) (by first | decide | omega)
                      rw [e0]
                      exact ⟨_, rfl, ⟨fun q => absurd q (own_nneg hb5.1), fun q => absurd ⟨⟨hc19_0, hc28_0⟩, ⟨hc19_1, hc28_1⟩, ⟨hc19_2, hc28_2⟩, ⟨hc19_3, hc28_3⟩, ⟨hc19_4, hc28_4⟩⟩ q⟩, N0, rfl⟩
def Q2 (n : Nat) (f : Nat → Int32) (h0 : Heap) (n0 : Nat) (v : Option Value) (h : Heap) (L : List Loc) : Prop := v = some (.int (own_rec n f)) ∧ Fr n0 L ∧ h = h0
theorem d2_0 : decode prog_17_method_3_code 0 = .ok (.aload_n 0, 1) := by decide +kernel
theorem d2_1 : decode prog_17_method_3_code 1 = .ok (.arraylength, 1) := by decide +kernel
theorem d2_2 : decode prog_17_method_3_code 2 = .ok (.iconst 5, 1) := by decide +kernel
theorem d2_3 : decode prog_17_method_3_code 3 = .ok (.if_icmp .lt 16, 3) := by decide +kernel
theorem d2_6 : decode prog_17_method_3_code 6 = .ok (.aload_n 0, 1) := by decide +kernel
theorem d2_7 : decode prog_17_method_3_code 7 = .ok (.iconst 0, 1) := by decide +kernel
theorem d2_8 : decode prog_17_method_3_code 8 = .ok (.iconst 5, 1) := by decide +kernel
theorem d2_9 : decode prog_17_method_3_code 9 = .ok (.invokestatic 66, 3) := by decide +kernel
theorem d2_12 : decode prog_17_method_3_code 12 = .ok (.ifCond .lt 7, 3) := by decide +kernel
theorem d2_15 : decode prog_17_method_3_code 15 = .ok (.iconst 1, 1) := by decide +kernel
theorem d2_16 : decode prog_17_method_3_code 16 = .ok (.goto 4, 3) := by decide +kernel
theorem d2_19 : decode prog_17_method_3_code 19 = .ok (.iconst 0, 1) := by decide +kernel
theorem d2_20 : decode prog_17_method_3_code 20 = .ok (.ireturn, 1) := by decide +kernel
theorem ef_rm2 (m : MethodId) (a1 : Addr) : entryFrame m #[(.ref a1)] 1 = mkF m 0 #[.val (.ref a1)] [] := by first | (simp [entryFrame, mkF, argsToLocals, Value.category]; done) | rfl
set_option maxRecDepth 65536 in
set_option maxHeartbeats 40000000 in
theorem rm2 (l : Launch) (Z : State) (a0 : Array Value) (hw : ∀ d ∈ tables_1, d.before a0 Z = true) (ws : List Jvm.Cond) (a1 : Addr) (n : Nat) (f : Nat → Int32) (z : Int32) (h0 : Heap) (n0 : Nat) (Z0 : n0 ≤ h0.size) (V0 : Ari Z h0 a1 .byte n f) (hz0 : ¬ z < 0) (hzn : z.toNatClampNeg = n) :
    MetFree l (⟨"spinecode/marc/Iso2709Reader", "recognises", "([B)Z"⟩ : MethodName) (head1 (Jvm.Cond.code (⟨"spinecode/marc/Iso2709Reader", "recognises", "([B)Z"⟩ : MethodName) prog_17_method_3_code 1 (some .boolean) :: ws) ({ frames := 1, cells := 0, slots := 0, locals := 16 } : Room)) (fun a U => a = #[(.ref a1)] ∧ Z.Warmed39 U.vm ∧ U.heap = h0) (fun _ _ _ _ _ => True) (fun _ U o U' => ∃ v L, o = .returned v ∧ Q2 n f h0 n0 v U'.heap L ∧ FrameEnd U o U' L 0 0) := by
  refine MetFree.of_bodySF (plainFor_of_name own_pn1) hisR ?_
  intro p e s m args below meth c s₁ Bd hml0 hP hK
  obtain ⟨rfl, hZ, hh⟩ := hP
  have hx := Bd.exec
  have hby := Bd.bytes
  have hml : c.maxLocals = 1 := hml0
  have hown : s.vm.findClass "spinecode/marc/Iso2709Reader" = some m.cls := findClass_of_methodNamed Bd.named
  have hnm := (name_of_methodNamed Bd.named Bd.method).1
  have hlk : meth.locks = false := Bd.notSynchronized
  have hrt := Bd.returns
  have X0 : Stand p l e ({ frames := 1, cells := 0, slots := 0, locals := 16 } : Room) s m #[(.ref a1)] below meth c s₁ [] 0 0 := Stand.of_body Bd
  have e0 : s₁.heap = h0 := by rw [← hh, Bd.state]; rfl
  have N0 := Fr.nil n0
  show Done p e s below 0 0 (Q2 n f h0 n0) s₁ (entryFrame m #[(.ref a1)] 1)
  rw [ef_rm2]
  show Done p e s below _ _ _ s₁ (mkF m 0 #[.val (.ref a1)] [])
  refine Done.go (fun _ k => XS.aloadN X0.here hx rfl (hb hby d2_0) rfl rfl k) ?_
  show Done p e s below _ _ _ s₁ (mkF m 1 #[.val (.ref a1)] [(.ref a1)])
  refine Done.len X0 hx hZ e0 V0 (z := z) (own_len32 hz0 hzn) (hb hby d2_1) ?_
  show Done p e s below _ _ _ s₁ (mkF m 2 #[.val (.ref a1)] [(.int z)])
  refine Done.go (fun _ k => XS.iconst X0.here hx rfl (hb hby d2_2) k) ?_
  show Done p e s below _ _ _ s₁ (mkF m 3 #[.val (.ref a1)] [(.int (5 : Int32)), (.int z)])
  by_cases hc3 : z < (5 : Int32)
  · skip
    refine Done.go (fun _ k => XS.icmpYes X0.here hx rfl (pc0 := 3) (pc' := 19) rfl (hb hby d2_3) rfl (tlt hc3).1 (by decide) (by decide) k) ?_
    show Done p e s below _ _ _ s₁ (mkF m 19 #[.val (.ref a1)] [])
    refine Done.go (fun _ k => XS.iconst X0.here hx rfl (hb hby d2_19) k) ?_
    show Done p e s below _ _ _ s₁ (mkF m 20 #[.val (.ref a1)] [(.int (0 : Int32))])
    refine Done.retN X0 hx hlk (t := .boolean) hrt (by simp) (z' := (0 : Int32)) rfl (hb hby d2_20) ?_ (by first | decide | omega) (by first | decide | omega)
    rw [e0]
    exact ⟨by have := (own_lt32 hz0 (by decide : ¬ (5 : Int32) < 0)).mp hc3; rw [hzn] at this; have q : ¬ 5 ≤ n := Nat.not_le_of_lt this; simp [own_rec, q], N0, rfl⟩
  · skip
    refine Done.go (fun _ k => XS.icmpNo X0.here hx rfl (hb hby d2_3) rfl (flt hc3).1 k) ?_
    show Done p e s below _ _ _ s₁ (mkF m 6 #[.val (.ref a1)] [])
    refine Done.go (fun _ k => XS.aloadN X0.here hx rfl (hb hby d2_6) rfl rfl k) ?_
    show Done p e s below _ _ _ s₁ (mkF m 7 #[.val (.ref a1)] [(.ref a1)])
    refine Done.go (fun _ k => XS.iconst X0.here hx rfl (hb hby d2_7) k) ?_
    show Done p e s below _ _ _ s₁ (mkF m 8 #[.val (.ref a1)] [(.int (0 : Int32)), (.ref a1)])
    refine Done.go (fun _ k => XS.iconst X0.here hx rfl (hb hby d2_8) k) ?_
    show Done p e s below _ _ _ s₁ (mkF m 9 #[.val (.ref a1)] [(.int (5 : Int32)), (.int (0 : Int32)), (.ref a1)])
    obtain ⟨_, _, ⟨T1, L1, k1, n1⟩, -, X1, ⟨Lc1, hQ1, l1, y1, z1⟩, st1⟩ := Jvm.LawKit.callS X0 hx (y := (⟨"spinecode/marc/Iso2709Reader", "number", "([BII)I"⟩ : MethodName)) hown (mvT hZ (hw _ (List.mem_of_getElem? (i := 12) rfl))) (mvT hZ (hw _ (List.mem_of_getElem? (i := 13) rfl))) (mvT hZ (hw _ (List.mem_of_getElem? (i := 7) rfl))) (mvT hZ (hw _ (List.mem_of_getElem? (i := 14) rfl))) (by decide) (backOf (W := 0) (rm4 l Z a0 hw [] a1 n f h0 n0 Z0 V0 (by have := own_nt (own_lt32 hz0 (by decide : ¬ (5 : Int32) < 0)) hc3; rw [hzn] at this; exact Nat.le_of_not_lt this)) hZ (hw _ (List.mem_of_getElem? (i := 14) rfl)) (hw _ (List.mem_of_getElem? (i := 7) rfl)) (by decide) (by decide)) (g := (mkF m 9 #[.val (.ref a1)] [(.int (5 : Int32)), (.int (0 : Int32)), (.ref a1)])) rfl (by rw [hml]; rfl) (argsL := [(.ref a1), (.int (0 : Int32)), (.int (5 : Int32))]) (rest := []) (lenOf own_pd0 rfl) rfl (by show 2 * 0 + _ ≤ _; exact Nat.le_of_eq rfl) (hb hby d2_9) (fun _ _ => ⟨rfl, e0, (by first | decide | omega : 0 + 0 ≤ _), (by first | decide | omega : 0 + 0 ≤ _)⟩)
    dsimp only [Pt.U, Pt.locs, Pt.cells, Pt.slots] at X1 l1 y1 z1 st1 hQ1
    subst l1 y1 z1
    obtain ⟨r1, rfl, hr1, N1q, e1⟩ := hQ1
    have N1 := Fr.app N0 N1q
    refine Done.go st1 ?_
    show Done p e s below _ _ _ T1 (mkF m 12 #[.val (.ref a1)] [(.int r1)])
    by_cases hc12 : r1 < (0 : Int32)
    · skip
      refine Done.go (fun _ k => XS.ifYes X1.here hx rfl (pc0 := 12) (pc' := 19) rfl (hb hby d2_12) rfl ((if0 _ _).trans (tlt hc12).1) (by decide) (by decide) k) ?_
      show Done p e s below _ _ _ T1 (mkF m 19 #[.val (.ref a1)] [])
      refine Done.go (fun _ k => XS.iconst X1.here hx rfl (hb hby d2_19) k) ?_
      show Done p e s below _ _ _ T1 (mkF m 20 #[.val (.ref a1)] [(.int (0 : Int32))])
      refine Done.retN X1 hx hlk (t := .boolean) hrt (by simp) (z' := (0 : Int32)) rfl (hb hby d2_20) ?_ (by first | decide | omega) (by first | decide | omega)
      rw [e1]
      exact ⟨by have := own_nt (own_lt32 hz0 (by decide : ¬ (5 : Int32) < 0)) hc3; rw [hzn] at this; have q : 5 ≤ n := Nat.le_of_not_lt this; have u := hr1.mp hc12; unfold own_rec; rw [if_neg (fun y => u y.2)], N1, rfl⟩
    · skip
      refine Done.go (fun _ k => XS.ifNo X1.here hx rfl (hb hby d2_12) rfl ((if0 _ _).trans (flt hc12).1) k) ?_
      show Done p e s below _ _ _ T1 (mkF m 15 #[.val (.ref a1)] [])
      refine Done.go (fun _ k => XS.iconst X1.here hx rfl (hb hby d2_15) k) ?_
      show Done p e s below _ _ _ T1 (mkF m 16 #[.val (.ref a1)] [(.int (1 : Int32))])
      refine Done.go (fun _ k => XS.goto X1.here hx rfl (pc0 := 16) (pc' := 20) rfl (hb hby d2_16) (by decide) (by decide) k) ?_
      show Done p e s below _ _ _ T1 (mkF m 20 #[.val (.ref a1)] [(.int (1 : Int32))])
      refine Done.retN X1 hx hlk (t := .boolean) hrt (by simp) (z' := (1 : Int32)) rfl (hb hby d2_20) ?_ (by first | decide | omega) (by first | decide | omega)
      rw [e1]
      exact ⟨by have := own_nt (own_lt32 hz0 (by decide : ¬ (5 : Int32) < 0)) hc3; rw [hzn] at this; have q : 5 ≤ n := Nat.le_of_not_lt this; have u := Decidable.not_not.mp (own_nt hr1 hc12); unfold own_rec; rw [if_pos ⟨q, u⟩], N1, rfl⟩
def Q0 (n0 : Nat) (v : Option Value) (h : Heap) (L : List Loc) : Prop := v = some (.int 1) ∧ Fr n0 L
theorem ef_rm0 (m : MethodId) (p0 : Int32) (p1 : Int32) (p2 : Int32) (p3 : Int32) : entryFrame m #[(.int p0), (.int p1), (.int p2), (.int p3)] maxLocals = mkF m 0 #[.val (.int p0), .val (.int p1), .val (.int p2), .val (.int p3), .unset, .unset, .unset, .unset, .unset, .unset, .unset, .unset, .unset, .unset] [] := by first | (simp [entryFrame, mkF, argsToLocals, Value.category, maxLocals]; done) | rfl
set_option maxRecDepth 65536 in
set_option maxHeartbeats 40000000 in
theorem rm0 (l : Launch) (Z : State) (a0 : Array Value) (hw : ∀ d ∈ tables_1, d.before a0 Z = true) (ws : List Jvm.Cond) (p0 : Int32) (p1 : Int32) (p2 : Int32) (p3 : Int32) (h0 : Heap) (n0 : Nat) (Z0 : n0 ≤ h0.size) :
    MetFree l x (head1 (Jvm.Cond.code x code maxLocals ret :: ws) room_1) (fun a U => a = #[(.int p0), (.int p1), (.int p2), (.int p3)] ∧ Z.Warmed39 U.vm ∧ U.heap = h0) (fun _ _ _ _ _ => True) (fun _ U o U' => ∃ v L, o = .returned v ∧ Q0 n0 v U'.heap L ∧ FrameEnd U o U' L 16 128) := by
  refine MetFree.of_bodySF (plainFor_of_name own_pn0) hisR ?_
  intro p e s m args below meth c s₁ Bd hml0 hP hK
  obtain ⟨rfl, hZ, hh⟩ := hP
  have hx := Bd.exec
  have hby := Bd.bytes
  have hml : c.maxLocals = 14 := hml0
  have hown : s.vm.findClass "spinecode/marc/Iso2709ReaderRecognisesPinLaw" = some m.cls := findClass_of_methodNamed Bd.named
  have hnm := (name_of_methodNamed Bd.named Bd.method).1
  have hlk : meth.locks = false := Bd.notSynchronized
  have hrt := Bd.returns
  have X0 : Stand p l e room_1 s m #[(.int p0), (.int p1), (.int p2), (.int p3)] below meth c s₁ [] 0 0 := Stand.of_body Bd
  have e0 : s₁.heap = h0 := by rw [← hh, Bd.state]; rfl
  have N0 := Fr.nil n0
  show Done p e s below 16 128 (Q0 n0) s₁ (entryFrame m #[(.int p0), (.int p1), (.int p2), (.int p3)] maxLocals)
  rw [ef_rm0]
  show Done p e s below _ _ _ s₁ (mkF m 0 #[.val (.int p0), .val (.int p1), .val (.int p2), .val (.int p3), .unset, .unset, .unset, .unset, .unset, .unset, .unset, .unset, .unset, .unset] [])
  refine Done.go (fun _ k => XS.iloadN X0.here hx rfl (hb hby at_0) rfl k) ?_
  show Done p e s below _ _ _ s₁ (mkF m 1 #[.val (.int p0), .val (.int p1), .val (.int p2), .val (.int p3), .unset, .unset, .unset, .unset, .unset, .unset, .unset, .unset, .unset, .unset] [(.int p0)])
  refine Done.go (fun _ k => XS.bipush X0.here hx rfl (hb hby at_1) k) ?_
  show Done p e s below _ _ _ s₁ (mkF m 3 #[.val (.int p0), .val (.int p1), .val (.int p2), .val (.int p3), .unset, .unset, .unset, .unset, .unset, .unset, .unset, .unset, .unset, .unset] [(.int (7 : Int32)), (.int p0)])
  refine Done.go (fun _ k => XS.iand X0.here hx rfl (hb hby at_3) rfl k) ?_
  show Done p e s below _ _ _ s₁ (mkF m 4 #[.val (.int p0), .val (.int p1), .val (.int p2), .val (.int p3), .unset, .unset, .unset, .unset, .unset, .unset, .unset, .unset, .unset, .unset] [(.int (p0 &&& (7 : Int32)))])
  refine Done.go (fun _ k => XS.istore X0.here hx rfl (hb hby at_4) rfl (l' := #[.val (.int p0), .val (.int p1), .val (.int p2), .val (.int p3), .val (.int (p0 &&& (7 : Int32))), .unset, .unset, .unset, .unset, .unset, .unset, .unset, .unset, .unset]) rfl k) ?_
  have hmk := own_mask p0 7 3 (by decide) (by decide)
  show Done p e s below _ _ _ s₁ (mkF m 6 #[.val (.int p0), .val (.int p1), .val (.int p2), .val (.int p3), .val (.int (p0 &&& (7 : Int32))), .unset, .unset, .unset, .unset, .unset, .unset, .unset, .unset, .unset] [])
  generalize h_zl : (p0 &&& (7 : Int32)) = zl
  rw [h_zl] at hmk
  obtain ⟨hz0, hz7⟩ := hmk
  obtain ⟨N, hzn⟩ : ∃ N, zl.toNatClampNeg = N := ⟨_, rfl⟩
  rw [hzn] at hz7
  show Done p e s below _ _ _ s₁ (mkF m 6 #[.val (.int p0), .val (.int p1), .val (.int p2), .val (.int p3), .val (.int zl), .unset, .unset, .unset, .unset, .unset, .unset, .unset, .unset, .unset] [])
  refine Done.go (fun _ k => XS.iloadN X0.here hx rfl (hb hby at_6) rfl k) ?_
  show Done p e s below _ _ _ s₁ (mkF m 7 #[.val (.int p0), .val (.int p1), .val (.int p2), .val (.int p3), .val (.int zl), .unset, .unset, .unset, .unset, .unset, .unset, .unset, .unset, .unset] [(.int p1)])
  refine Done.go (fun _ k => XS.iconst X0.here hx rfl (hb hby at_7) k) ?_
  show Done p e s below _ _ _ s₁ (mkF m 8 #[.val (.int p0), .val (.int p1), .val (.int p2), .val (.int p3), .val (.int zl), .unset, .unset, .unset, .unset, .unset, .unset, .unset, .unset, .unset] [(.int (0 : Int32)), (.int p1)])
  refine Done.go (fun _ k => XS.iloadN X0.here hx rfl (hb hby at_8) rfl k) ?_
  show Done p e s below _ _ _ s₁ (mkF m 9 #[.val (.int p0), .val (.int p1), .val (.int p2), .val (.int p3), .val (.int zl), .unset, .unset, .unset, .unset, .unset, .unset, .unset, .unset, .unset] [(.int p3), (.int (0 : Int32)), (.int p1)])
  refine Done.go (fun _ k => XS.iconst X0.here hx rfl (hb hby at_9) k) ?_
  show Done p e s below _ _ _ s₁ (mkF m 10 #[.val (.int p0), .val (.int p1), .val (.int p2), .val (.int p3), .val (.int zl), .unset, .unset, .unset, .unset, .unset, .unset, .unset, .unset, .unset] [(.int (0 : Int32)), (.int p3), (.int (0 : Int32)), (.int p1)])
  obtain ⟨_, _, ⟨T2, L2, k2, n2⟩, -, X2, ⟨Lc2, hQ2, l2, y2, z2⟩, st2⟩ := Jvm.LawKit.callS X0 hx (y := (⟨"spinecode/marc/Iso2709ReaderRecognisesPinLaw", "pick", "(IIII)B"⟩ : MethodName)) hown (mvT hZ (hw _ (List.mem_of_getElem? (i := 0) rfl))) (mvT hZ (hw _ (List.mem_of_getElem? (i := 1) rfl))) (mvT hZ (hw _ (List.mem_of_getElem? (i := 2) rfl))) (mvT hZ (hw _ (List.mem_of_getElem? (i := 3) rfl))) (by decide) (backOf (W := 0) (rm1 l Z a0 hw [] p1 (0 : Int32) p3 (0 : Int32) h0 n0 Z0) hZ (hw _ (List.mem_of_getElem? (i := 3) rfl)) (hw _ (List.mem_of_getElem? (i := 2) rfl)) (by decide) (by decide)) (g := (mkF m 10 #[.val (.int p0), .val (.int p1), .val (.int p2), .val (.int p3), .val (.int zl), .unset, .unset, .unset, .unset, .unset, .unset, .unset, .unset, .unset] [(.int (0 : Int32)), (.int p3), (.int (0 : Int32)), (.int p1)])) rfl (by rw [hml]; rfl) (argsL := [(.int p1), (.int (0 : Int32)), (.int p3), (.int (0 : Int32))]) (rest := []) (lenOf own_pd1 rfl) rfl (by show 2 * 0 + _ ≤ _; exact Nat.le_of_eq rfl) (hb hby at_10) (fun _ _ => ⟨rfl, e0, (by first | decide | omega : 0 + 0 ≤ _), (by first | decide | omega : 0 + 0 ≤ _)⟩)
  dsimp only [Pt.U, Pt.locs, Pt.cells, Pt.slots] at X2 l2 y2 z2 st2 hQ2
  subst l2 y2 z2
  obtain ⟨v0, rfl, hv0, N2q, e2⟩ := hQ2
  have N2 := Fr.app N0 N2q
  refine Done.go st2 ?_
  show Done p e s below _ _ _ T2 (mkF m 13 #[.val (.int p0), .val (.int p1), .val (.int p2), .val (.int p3), .val (.int zl), .unset, .unset, .unset, .unset, .unset, .unset, .unset, .unset, .unset] [(.int v0)])
  refine Done.go (fun _ k => XS.istore X2.here hx rfl (hb hby at_13) rfl (l' := #[.val (.int p0), .val (.int p1), .val (.int p2), .val (.int p3), .val (.int zl), .val (.int v0), .unset, .unset, .unset, .unset, .unset, .unset, .unset, .unset]) rfl k) ?_
  show Done p e s below _ _ _ T2 (mkF m 15 #[.val (.int p0), .val (.int p1), .val (.int p2), .val (.int p3), .val (.int zl), .val (.int v0), .unset, .unset, .unset, .unset, .unset, .unset, .unset, .unset] [])
  refine Done.go (fun _ k => XS.iloadN X2.here hx rfl (hb hby at_15) rfl k) ?_
  show Done p e s below _ _ _ T2 (mkF m 16 #[.val (.int p0), .val (.int p1), .val (.int p2), .val (.int p3), .val (.int zl), .val (.int v0), .unset, .unset, .unset, .unset, .unset, .unset, .unset, .unset] [(.int p1)])
  refine Done.go (fun _ k => XS.bipush X2.here hx rfl (hb hby at_16) k) ?_
  show Done p e s below _ _ _ T2 (mkF m 18 #[.val (.int p0), .val (.int p1), .val (.int p2), .val (.int p3), .val (.int zl), .val (.int v0), .unset, .unset, .unset, .unset, .unset, .unset, .unset, .unset] [(.int (8 : Int32)), (.int p1)])
  refine Done.go (fun _ k => XS.iloadN X2.here hx rfl (hb hby at_18) rfl k) ?_
  show Done p e s below _ _ _ T2 (mkF m 19 #[.val (.int p0), .val (.int p1), .val (.int p2), .val (.int p3), .val (.int zl), .val (.int v0), .unset, .unset, .unset, .unset, .unset, .unset, .unset, .unset] [(.int p3), (.int (8 : Int32)), (.int p1)])
  refine Done.go (fun _ k => XS.iconst X2.here hx rfl (hb hby at_19) k) ?_
  show Done p e s below _ _ _ T2 (mkF m 20 #[.val (.int p0), .val (.int p1), .val (.int p2), .val (.int p3), .val (.int zl), .val (.int v0), .unset, .unset, .unset, .unset, .unset, .unset, .unset, .unset] [(.int (1 : Int32)), (.int p3), (.int (8 : Int32)), (.int p1)])
  obtain ⟨_, _, ⟨T3, L3, k3, n3⟩, -, X3, ⟨Lc3, hQ3, l3, y3, z3⟩, st3⟩ := Jvm.LawKit.callS X2 hx (y := (⟨"spinecode/marc/Iso2709ReaderRecognisesPinLaw", "pick", "(IIII)B"⟩ : MethodName)) hown (mvT hZ (hw _ (List.mem_of_getElem? (i := 0) rfl))) (mvT hZ (hw _ (List.mem_of_getElem? (i := 1) rfl))) (mvT hZ (hw _ (List.mem_of_getElem? (i := 2) rfl))) (mvT hZ (hw _ (List.mem_of_getElem? (i := 3) rfl))) (by decide) (backOf (W := 0) (rm1 l Z a0 hw [] p1 (8 : Int32) p3 (1 : Int32) h0 n0 Z0) hZ (hw _ (List.mem_of_getElem? (i := 3) rfl)) (hw _ (List.mem_of_getElem? (i := 2) rfl)) (by decide) (by decide)) (g := (mkF m 20 #[.val (.int p0), .val (.int p1), .val (.int p2), .val (.int p3), .val (.int zl), .val (.int v0), .unset, .unset, .unset, .unset, .unset, .unset, .unset, .unset] [(.int (1 : Int32)), (.int p3), (.int (8 : Int32)), (.int p1)])) rfl (by rw [hml]; rfl) (argsL := [(.int p1), (.int (8 : Int32)), (.int p3), (.int (1 : Int32))]) (rest := []) (lenOf own_pd1 rfl) rfl (by show 2 * 0 + _ ≤ _; exact Nat.le_of_eq rfl) (hb hby at_20) (fun _ _ => ⟨rfl, e2, (by first | decide | omega : (0 + 0) + 0 ≤ _), (by first | decide | omega : (0 + 0) + 0 ≤ _)⟩)
  dsimp only [Pt.U, Pt.locs, Pt.cells, Pt.slots] at X3 l3 y3 z3 st3 hQ3
  subst l3 y3 z3
  obtain ⟨v1, rfl, hv1, N3q, e3⟩ := hQ3
  have N3 := Fr.app N2 N3q
  refine Done.go st3 ?_
  show Done p e s below _ _ _ T3 (mkF m 23 #[.val (.int p0), .val (.int p1), .val (.int p2), .val (.int p3), .val (.int zl), .val (.int v0), .unset, .unset, .unset, .unset, .unset, .unset, .unset, .unset] [(.int v1)])
  refine Done.go (fun _ k => XS.istore X3.here hx rfl (hb hby at_23) rfl (l' := #[.val (.int p0), .val (.int p1), .val (.int p2), .val (.int p3), .val (.int zl), .val (.int v0), .val (.int v1), .unset, .unset, .unset, .unset, .unset, .unset, .unset]) rfl k) ?_
  show Done p e s below _ _ _ T3 (mkF m 25 #[.val (.int p0), .val (.int p1), .val (.int p2), .val (.int p3), .val (.int zl), .val (.int v0), .val (.int v1), .unset, .unset, .unset, .unset, .unset, .unset, .unset] [])
  refine Done.go (fun _ k => XS.iloadN X3.here hx rfl (hb hby at_25) rfl k) ?_
  show Done p e s below _ _ _ T3 (mkF m 26 #[.val (.int p0), .val (.int p1), .val (.int p2), .val (.int p3), .val (.int zl), .val (.int v0), .val (.int v1), .unset, .unset, .unset, .unset, .unset, .unset, .unset] [(.int p1)])
  refine Done.go (fun _ k => XS.bipush X3.here hx rfl (hb hby at_26) k) ?_
  show Done p e s below _ _ _ T3 (mkF m 28 #[.val (.int p0), .val (.int p1), .val (.int p2), .val (.int p3), .val (.int zl), .val (.int v0), .val (.int v1), .unset, .unset, .unset, .unset, .unset, .unset, .unset] [(.int (16 : Int32)), (.int p1)])
  refine Done.go (fun _ k => XS.iloadN X3.here hx rfl (hb hby at_28) rfl k) ?_
  show Done p e s below _ _ _ T3 (mkF m 29 #[.val (.int p0), .val (.int p1), .val (.int p2), .val (.int p3), .val (.int zl), .val (.int v0), .val (.int v1), .unset, .unset, .unset, .unset, .unset, .unset, .unset] [(.int p3), (.int (16 : Int32)), (.int p1)])
  refine Done.go (fun _ k => XS.iconst X3.here hx rfl (hb hby at_29) k) ?_
  show Done p e s below _ _ _ T3 (mkF m 30 #[.val (.int p0), .val (.int p1), .val (.int p2), .val (.int p3), .val (.int zl), .val (.int v0), .val (.int v1), .unset, .unset, .unset, .unset, .unset, .unset, .unset] [(.int (2 : Int32)), (.int p3), (.int (16 : Int32)), (.int p1)])
  obtain ⟨_, _, ⟨T4, L4, k4, n4⟩, -, X4, ⟨Lc4, hQ4, l4, y4, z4⟩, st4⟩ := Jvm.LawKit.callS X3 hx (y := (⟨"spinecode/marc/Iso2709ReaderRecognisesPinLaw", "pick", "(IIII)B"⟩ : MethodName)) hown (mvT hZ (hw _ (List.mem_of_getElem? (i := 0) rfl))) (mvT hZ (hw _ (List.mem_of_getElem? (i := 1) rfl))) (mvT hZ (hw _ (List.mem_of_getElem? (i := 2) rfl))) (mvT hZ (hw _ (List.mem_of_getElem? (i := 3) rfl))) (by decide) (backOf (W := 0) (rm1 l Z a0 hw [] p1 (16 : Int32) p3 (2 : Int32) h0 n0 Z0) hZ (hw _ (List.mem_of_getElem? (i := 3) rfl)) (hw _ (List.mem_of_getElem? (i := 2) rfl)) (by decide) (by decide)) (g := (mkF m 30 #[.val (.int p0), .val (.int p1), .val (.int p2), .val (.int p3), .val (.int zl), .val (.int v0), .val (.int v1), .unset, .unset, .unset, .unset, .unset, .unset, .unset] [(.int (2 : Int32)), (.int p3), (.int (16 : Int32)), (.int p1)])) rfl (by rw [hml]; rfl) (argsL := [(.int p1), (.int (16 : Int32)), (.int p3), (.int (2 : Int32))]) (rest := []) (lenOf own_pd1 rfl) rfl (by show 2 * 0 + _ ≤ _; exact Nat.le_of_eq rfl) (hb hby at_30) (fun _ _ => ⟨rfl, e3, (by first | decide | omega : ((0 + 0) + 0) + 0 ≤ _), (by first | decide | omega : ((0 + 0) + 0) + 0 ≤ _)⟩)
  dsimp only [Pt.U, Pt.locs, Pt.cells, Pt.slots] at X4 l4 y4 z4 st4 hQ4
  subst l4 y4 z4
  obtain ⟨v2, rfl, hv2, N4q, e4⟩ := hQ4
  have N4 := Fr.app N3 N4q
  refine Done.go st4 ?_
  show Done p e s below _ _ _ T4 (mkF m 33 #[.val (.int p0), .val (.int p1), .val (.int p2), .val (.int p3), .val (.int zl), .val (.int v0), .val (.int v1), .unset, .unset, .unset, .unset, .unset, .unset, .unset] [(.int v2)])
  refine Done.go (fun _ k => XS.istore X4.here hx rfl (hb hby at_33) rfl (l' := #[.val (.int p0), .val (.int p1), .val (.int p2), .val (.int p3), .val (.int zl), .val (.int v0), .val (.int v1), .val (.int v2), .unset, .unset, .unset, .unset, .unset, .unset]) rfl k) ?_
  show Done p e s below _ _ _ T4 (mkF m 35 #[.val (.int p0), .val (.int p1), .val (.int p2), .val (.int p3), .val (.int zl), .val (.int v0), .val (.int v1), .val (.int v2), .unset, .unset, .unset, .unset, .unset, .unset] [])
  refine Done.go (fun _ k => XS.iloadN X4.here hx rfl (hb hby at_35) rfl k) ?_
  show Done p e s below _ _ _ T4 (mkF m 36 #[.val (.int p0), .val (.int p1), .val (.int p2), .val (.int p3), .val (.int zl), .val (.int v0), .val (.int v1), .val (.int v2), .unset, .unset, .unset, .unset, .unset, .unset] [(.int p1)])
  refine Done.go (fun _ k => XS.bipush X4.here hx rfl (hb hby at_36) k) ?_
  show Done p e s below _ _ _ T4 (mkF m 38 #[.val (.int p0), .val (.int p1), .val (.int p2), .val (.int p3), .val (.int zl), .val (.int v0), .val (.int v1), .val (.int v2), .unset, .unset, .unset, .unset, .unset, .unset] [(.int (24 : Int32)), (.int p1)])
  refine Done.go (fun _ k => XS.iloadN X4.here hx rfl (hb hby at_38) rfl k) ?_
  show Done p e s below _ _ _ T4 (mkF m 39 #[.val (.int p0), .val (.int p1), .val (.int p2), .val (.int p3), .val (.int zl), .val (.int v0), .val (.int v1), .val (.int v2), .unset, .unset, .unset, .unset, .unset, .unset] [(.int p3), (.int (24 : Int32)), (.int p1)])
  refine Done.go (fun _ k => XS.iconst X4.here hx rfl (hb hby at_39) k) ?_
  show Done p e s below _ _ _ T4 (mkF m 40 #[.val (.int p0), .val (.int p1), .val (.int p2), .val (.int p3), .val (.int zl), .val (.int v0), .val (.int v1), .val (.int v2), .unset, .unset, .unset, .unset, .unset, .unset] [(.int (3 : Int32)), (.int p3), (.int (24 : Int32)), (.int p1)])
  obtain ⟨_, _, ⟨T5, L5, k5, n5⟩, -, X5, ⟨Lc5, hQ5, l5, y5, z5⟩, st5⟩ := Jvm.LawKit.callS X4 hx (y := (⟨"spinecode/marc/Iso2709ReaderRecognisesPinLaw", "pick", "(IIII)B"⟩ : MethodName)) hown (mvT hZ (hw _ (List.mem_of_getElem? (i := 0) rfl))) (mvT hZ (hw _ (List.mem_of_getElem? (i := 1) rfl))) (mvT hZ (hw _ (List.mem_of_getElem? (i := 2) rfl))) (mvT hZ (hw _ (List.mem_of_getElem? (i := 3) rfl))) (by decide) (backOf (W := 0) (rm1 l Z a0 hw [] p1 (24 : Int32) p3 (3 : Int32) h0 n0 Z0) hZ (hw _ (List.mem_of_getElem? (i := 3) rfl)) (hw _ (List.mem_of_getElem? (i := 2) rfl)) (by decide) (by decide)) (g := (mkF m 40 #[.val (.int p0), .val (.int p1), .val (.int p2), .val (.int p3), .val (.int zl), .val (.int v0), .val (.int v1), .val (.int v2), .unset, .unset, .unset, .unset, .unset, .unset] [(.int (3 : Int32)), (.int p3), (.int (24 : Int32)), (.int p1)])) rfl (by rw [hml]; rfl) (argsL := [(.int p1), (.int (24 : Int32)), (.int p3), (.int (3 : Int32))]) (rest := []) (lenOf own_pd1 rfl) rfl (by show 2 * 0 + _ ≤ _; exact Nat.le_of_eq rfl) (hb hby at_40) (fun _ _ => ⟨rfl, e4, (by first | decide | omega : (((0 + 0) + 0) + 0) + 0 ≤ _), (by first | decide | omega : (((0 + 0) + 0) + 0) + 0 ≤ _)⟩)
  dsimp only [Pt.U, Pt.locs, Pt.cells, Pt.slots] at X5 l5 y5 z5 st5 hQ5
  subst l5 y5 z5
  obtain ⟨v3, rfl, hv3, N5q, e5⟩ := hQ5
  have N5 := Fr.app N4 N5q
  refine Done.go st5 ?_
  show Done p e s below _ _ _ T5 (mkF m 43 #[.val (.int p0), .val (.int p1), .val (.int p2), .val (.int p3), .val (.int zl), .val (.int v0), .val (.int v1), .val (.int v2), .unset, .unset, .unset, .unset, .unset, .unset] [(.int v3)])
  refine Done.go (fun _ k => XS.istore X5.here hx rfl (hb hby at_43) rfl (l' := #[.val (.int p0), .val (.int p1), .val (.int p2), .val (.int p3), .val (.int zl), .val (.int v0), .val (.int v1), .val (.int v2), .val (.int v3), .unset, .unset, .unset, .unset, .unset]) rfl k) ?_
  show Done p e s below _ _ _ T5 (mkF m 45 #[.val (.int p0), .val (.int p1), .val (.int p2), .val (.int p3), .val (.int zl), .val (.int v0), .val (.int v1), .val (.int v2), .val (.int v3), .unset, .unset, .unset, .unset, .unset] [])
  refine Done.go (fun _ k => XS.iloadN X5.here hx rfl (hb hby at_45) rfl k) ?_
  show Done p e s below _ _ _ T5 (mkF m 46 #[.val (.int p0), .val (.int p1), .val (.int p2), .val (.int p3), .val (.int zl), .val (.int v0), .val (.int v1), .val (.int v2), .val (.int v3), .unset, .unset, .unset, .unset, .unset] [(.int p2)])
  refine Done.go (fun _ k => XS.iconst X5.here hx rfl (hb hby at_46) k) ?_
  show Done p e s below _ _ _ T5 (mkF m 47 #[.val (.int p0), .val (.int p1), .val (.int p2), .val (.int p3), .val (.int zl), .val (.int v0), .val (.int v1), .val (.int v2), .val (.int v3), .unset, .unset, .unset, .unset, .unset] [(.int (0 : Int32)), (.int p2)])
  refine Done.go (fun _ k => XS.iloadN X5.here hx rfl (hb hby at_47) rfl k) ?_
  show Done p e s below _ _ _ T5 (mkF m 48 #[.val (.int p0), .val (.int p1), .val (.int p2), .val (.int p3), .val (.int zl), .val (.int v0), .val (.int v1), .val (.int v2), .val (.int v3), .unset, .unset, .unset, .unset, .unset] [(.int p3), (.int (0 : Int32)), (.int p2)])
  refine Done.go (fun _ k => XS.iconst X5.here hx rfl (hb hby at_48) k) ?_
  show Done p e s below _ _ _ T5 (mkF m 49 #[.val (.int p0), .val (.int p1), .val (.int p2), .val (.int p3), .val (.int zl), .val (.int v0), .val (.int v1), .val (.int v2), .val (.int v3), .unset, .unset, .unset, .unset, .unset] [(.int (4 : Int32)), (.int p3), (.int (0 : Int32)), (.int p2)])
  obtain ⟨_, _, ⟨T6, L6, k6, n6⟩, -, X6, ⟨Lc6, hQ6, l6, y6, z6⟩, st6⟩ := Jvm.LawKit.callS X5 hx (y := (⟨"spinecode/marc/Iso2709ReaderRecognisesPinLaw", "pick", "(IIII)B"⟩ : MethodName)) hown (mvT hZ (hw _ (List.mem_of_getElem? (i := 0) rfl))) (mvT hZ (hw _ (List.mem_of_getElem? (i := 1) rfl))) (mvT hZ (hw _ (List.mem_of_getElem? (i := 2) rfl))) (mvT hZ (hw _ (List.mem_of_getElem? (i := 3) rfl))) (by decide) (backOf (W := 0) (rm1 l Z a0 hw [] p2 (0 : Int32) p3 (4 : Int32) h0 n0 Z0) hZ (hw _ (List.mem_of_getElem? (i := 3) rfl)) (hw _ (List.mem_of_getElem? (i := 2) rfl)) (by decide) (by decide)) (g := (mkF m 49 #[.val (.int p0), .val (.int p1), .val (.int p2), .val (.int p3), .val (.int zl), .val (.int v0), .val (.int v1), .val (.int v2), .val (.int v3), .unset, .unset, .unset, .unset, .unset] [(.int (4 : Int32)), (.int p3), (.int (0 : Int32)), (.int p2)])) rfl (by rw [hml]; rfl) (argsL := [(.int p2), (.int (0 : Int32)), (.int p3), (.int (4 : Int32))]) (rest := []) (lenOf own_pd1 rfl) rfl (by show 2 * 0 + _ ≤ _; exact Nat.le_of_eq rfl) (hb hby at_49) (fun _ _ => ⟨rfl, e5, (by first | decide | omega : ((((0 + 0) + 0) + 0) + 0) + 0 ≤ _), (by first | decide | omega : ((((0 + 0) + 0) + 0) + 0) + 0 ≤ _)⟩)
  dsimp only [Pt.U, Pt.locs, Pt.cells, Pt.slots] at X6 l6 y6 z6 st6 hQ6
  subst l6 y6 z6
  obtain ⟨v4, rfl, hv4, N6q, e6⟩ := hQ6
  have N6 := Fr.app N5 N6q
  refine Done.go st6 ?_
  show Done p e s below _ _ _ T6 (mkF m 52 #[.val (.int p0), .val (.int p1), .val (.int p2), .val (.int p3), .val (.int zl), .val (.int v0), .val (.int v1), .val (.int v2), .val (.int v3), .unset, .unset, .unset, .unset, .unset] [(.int v4)])
  refine Done.go (fun _ k => XS.istore X6.here hx rfl (hb hby at_52) rfl (l' := #[.val (.int p0), .val (.int p1), .val (.int p2), .val (.int p3), .val (.int zl), .val (.int v0), .val (.int v1), .val (.int v2), .val (.int v3), .val (.int v4), .unset, .unset, .unset, .unset]) rfl k) ?_
  show Done p e s below _ _ _ T6 (mkF m 54 #[.val (.int p0), .val (.int p1), .val (.int p2), .val (.int p3), .val (.int zl), .val (.int v0), .val (.int v1), .val (.int v2), .val (.int v3), .val (.int v4), .unset, .unset, .unset, .unset] [])
  refine Done.go (fun _ k => XS.iloadN X6.here hx rfl (hb hby at_54) rfl k) ?_
  show Done p e s below _ _ _ T6 (mkF m 55 #[.val (.int p0), .val (.int p1), .val (.int p2), .val (.int p3), .val (.int zl), .val (.int v0), .val (.int v1), .val (.int v2), .val (.int v3), .val (.int v4), .unset, .unset, .unset, .unset] [(.int p2)])
  refine Done.go (fun _ k => XS.bipush X6.here hx rfl (hb hby at_55) k) ?_
  show Done p e s below _ _ _ T6 (mkF m 57 #[.val (.int p0), .val (.int p1), .val (.int p2), .val (.int p3), .val (.int zl), .val (.int v0), .val (.int v1), .val (.int v2), .val (.int v3), .val (.int v4), .unset, .unset, .unset, .unset] [(.int (8 : Int32)), (.int p2)])
  refine Done.go (fun _ k => XS.iloadN X6.here hx rfl (hb hby at_57) rfl k) ?_
  show Done p e s below _ _ _ T6 (mkF m 58 #[.val (.int p0), .val (.int p1), .val (.int p2), .val (.int p3), .val (.int zl), .val (.int v0), .val (.int v1), .val (.int v2), .val (.int v3), .val (.int v4), .unset, .unset, .unset, .unset] [(.int p3), (.int (8 : Int32)), (.int p2)])
  refine Done.go (fun _ k => XS.iconst X6.here hx rfl (hb hby at_58) k) ?_
  show Done p e s below _ _ _ T6 (mkF m 59 #[.val (.int p0), .val (.int p1), .val (.int p2), .val (.int p3), .val (.int zl), .val (.int v0), .val (.int v1), .val (.int v2), .val (.int v3), .val (.int v4), .unset, .unset, .unset, .unset] [(.int (5 : Int32)), (.int p3), (.int (8 : Int32)), (.int p2)])
  obtain ⟨_, _, ⟨T7, L7, k7, n7⟩, -, X7, ⟨Lc7, hQ7, l7, y7, z7⟩, st7⟩ := Jvm.LawKit.callS X6 hx (y := (⟨"spinecode/marc/Iso2709ReaderRecognisesPinLaw", "pick", "(IIII)B"⟩ : MethodName)) hown (mvT hZ (hw _ (List.mem_of_getElem? (i := 0) rfl))) (mvT hZ (hw _ (List.mem_of_getElem? (i := 1) rfl))) (mvT hZ (hw _ (List.mem_of_getElem? (i := 2) rfl))) (mvT hZ (hw _ (List.mem_of_getElem? (i := 3) rfl))) (by decide) (backOf (W := 0) (rm1 l Z a0 hw [] p2 (8 : Int32) p3 (5 : Int32) h0 n0 Z0) hZ (hw _ (List.mem_of_getElem? (i := 3) rfl)) (hw _ (List.mem_of_getElem? (i := 2) rfl)) (by decide) (by decide)) (g := (mkF m 59 #[.val (.int p0), .val (.int p1), .val (.int p2), .val (.int p3), .val (.int zl), .val (.int v0), .val (.int v1), .val (.int v2), .val (.int v3), .val (.int v4), .unset, .unset, .unset, .unset] [(.int (5 : Int32)), (.int p3), (.int (8 : Int32)), (.int p2)])) rfl (by rw [hml]; rfl) (argsL := [(.int p2), (.int (8 : Int32)), (.int p3), (.int (5 : Int32))]) (rest := []) (lenOf own_pd1 rfl) rfl (by show 2 * 0 + _ ≤ _; exact Nat.le_of_eq rfl) (hb hby at_59) (fun _ _ => ⟨rfl, e6, (by first | decide | omega : (((((0 + 0) + 0) + 0) + 0) + 0) + 0 ≤ _), (by first | decide | omega : (((((0 + 0) + 0) + 0) + 0) + 0) + 0 ≤ _)⟩)
  dsimp only [Pt.U, Pt.locs, Pt.cells, Pt.slots] at X7 l7 y7 z7 st7 hQ7
  subst l7 y7 z7
  obtain ⟨v5, rfl, hv5, N7q, e7⟩ := hQ7
  have N7 := Fr.app N6 N7q
  refine Done.go st7 ?_
  show Done p e s below _ _ _ T7 (mkF m 62 #[.val (.int p0), .val (.int p1), .val (.int p2), .val (.int p3), .val (.int zl), .val (.int v0), .val (.int v1), .val (.int v2), .val (.int v3), .val (.int v4), .unset, .unset, .unset, .unset] [(.int v5)])
  refine Done.go (fun _ k => XS.istore X7.here hx rfl (hb hby at_62) rfl (l' := #[.val (.int p0), .val (.int p1), .val (.int p2), .val (.int p3), .val (.int zl), .val (.int v0), .val (.int v1), .val (.int v2), .val (.int v3), .val (.int v4), .val (.int v5), .unset, .unset, .unset]) rfl k) ?_
  show Done p e s below _ _ _ T7 (mkF m 64 #[.val (.int p0), .val (.int p1), .val (.int p2), .val (.int p3), .val (.int zl), .val (.int v0), .val (.int v1), .val (.int v2), .val (.int v3), .val (.int v4), .val (.int v5), .unset, .unset, .unset] [])
  refine Done.go (fun _ k => XS.iloadN X7.here hx rfl (hb hby at_64) rfl k) ?_
  show Done p e s below _ _ _ T7 (mkF m 65 #[.val (.int p0), .val (.int p1), .val (.int p2), .val (.int p3), .val (.int zl), .val (.int v0), .val (.int v1), .val (.int v2), .val (.int v3), .val (.int v4), .val (.int v5), .unset, .unset, .unset] [(.int p2)])
  refine Done.go (fun _ k => XS.bipush X7.here hx rfl (hb hby at_65) k) ?_
  show Done p e s below _ _ _ T7 (mkF m 67 #[.val (.int p0), .val (.int p1), .val (.int p2), .val (.int p3), .val (.int zl), .val (.int v0), .val (.int v1), .val (.int v2), .val (.int v3), .val (.int v4), .val (.int v5), .unset, .unset, .unset] [(.int (16 : Int32)), (.int p2)])
  refine Done.go (fun _ k => XS.iloadN X7.here hx rfl (hb hby at_67) rfl k) ?_
  show Done p e s below _ _ _ T7 (mkF m 68 #[.val (.int p0), .val (.int p1), .val (.int p2), .val (.int p3), .val (.int zl), .val (.int v0), .val (.int v1), .val (.int v2), .val (.int v3), .val (.int v4), .val (.int v5), .unset, .unset, .unset] [(.int p3), (.int (16 : Int32)), (.int p2)])
  refine Done.go (fun _ k => XS.bipush X7.here hx rfl (hb hby at_68) k) ?_
  show Done p e s below _ _ _ T7 (mkF m 70 #[.val (.int p0), .val (.int p1), .val (.int p2), .val (.int p3), .val (.int zl), .val (.int v0), .val (.int v1), .val (.int v2), .val (.int v3), .val (.int v4), .val (.int v5), .unset, .unset, .unset] [(.int (6 : Int32)), (.int p3), (.int (16 : Int32)), (.int p2)])
  obtain ⟨_, _, ⟨T8, L8, k8, n8⟩, -, X8, ⟨Lc8, hQ8, l8, y8, z8⟩, st8⟩ := Jvm.LawKit.callS X7 hx (y := (⟨"spinecode/marc/Iso2709ReaderRecognisesPinLaw", "pick", "(IIII)B"⟩ : MethodName)) hown (mvT hZ (hw _ (List.mem_of_getElem? (i := 0) rfl))) (mvT hZ (hw _ (List.mem_of_getElem? (i := 1) rfl))) (mvT hZ (hw _ (List.mem_of_getElem? (i := 2) rfl))) (mvT hZ (hw _ (List.mem_of_getElem? (i := 3) rfl))) (by decide) (backOf (W := 0) (rm1 l Z a0 hw [] p2 (16 : Int32) p3 (6 : Int32) h0 n0 Z0) hZ (hw _ (List.mem_of_getElem? (i := 3) rfl)) (hw _ (List.mem_of_getElem? (i := 2) rfl)) (by decide) (by decide)) (g := (mkF m 70 #[.val (.int p0), .val (.int p1), .val (.int p2), .val (.int p3), .val (.int zl), .val (.int v0), .val (.int v1), .val (.int v2), .val (.int v3), .val (.int v4), .val (.int v5), .unset, .unset, .unset] [(.int (6 : Int32)), (.int p3), (.int (16 : Int32)), (.int p2)])) rfl (by rw [hml]; rfl) (argsL := [(.int p2), (.int (16 : Int32)), (.int p3), (.int (6 : Int32))]) (rest := []) (lenOf own_pd1 rfl) rfl (by show 2 * 0 + _ ≤ _; exact Nat.le_of_eq rfl) (hb hby at_70) (fun _ _ => ⟨rfl, e7, (by first | decide | omega : ((((((0 + 0) + 0) + 0) + 0) + 0) + 0) + 0 ≤ _), (by first | decide | omega : ((((((0 + 0) + 0) + 0) + 0) + 0) + 0) + 0 ≤ _)⟩)
  dsimp only [Pt.U, Pt.locs, Pt.cells, Pt.slots] at X8 l8 y8 z8 st8 hQ8
  subst l8 y8 z8
  obtain ⟨v6, rfl, hv6, N8q, e8⟩ := hQ8
  have N8 := Fr.app N7 N8q
  refine Done.go st8 ?_
  show Done p e s below _ _ _ T8 (mkF m 73 #[.val (.int p0), .val (.int p1), .val (.int p2), .val (.int p3), .val (.int zl), .val (.int v0), .val (.int v1), .val (.int v2), .val (.int v3), .val (.int v4), .val (.int v5), .unset, .unset, .unset] [(.int v6)])
  refine Done.go (fun _ k => XS.istore X8.here hx rfl (hb hby at_73) rfl (l' := #[.val (.int p0), .val (.int p1), .val (.int p2), .val (.int p3), .val (.int zl), .val (.int v0), .val (.int v1), .val (.int v2), .val (.int v3), .val (.int v4), .val (.int v5), .val (.int v6), .unset, .unset]) rfl k) ?_
  show Done p e s below _ _ _ T8 (mkF m 75 #[.val (.int p0), .val (.int p1), .val (.int p2), .val (.int p3), .val (.int zl), .val (.int v0), .val (.int v1), .val (.int v2), .val (.int v3), .val (.int v4), .val (.int v5), .val (.int v6), .unset, .unset] [])
  refine Done.go (fun _ k => XS.iload X8.here hx rfl (hb hby at_75) rfl k) ?_
  show Done p e s below _ _ _ T8 (mkF m 77 #[.val (.int p0), .val (.int p1), .val (.int p2), .val (.int p3), .val (.int zl), .val (.int v0), .val (.int v1), .val (.int v2), .val (.int v3), .val (.int v4), .val (.int v5), .val (.int v6), .unset, .unset] [(.int zl)])
  obtain ⟨T9, h9, k9, X9, e9, E9, A9, st9⟩ := newP X8 hx hZ (hw _ (List.mem_of_getElem? (i := 4) rfl)) e8 (g := (mkF m 77 #[.val (.int p0), .val (.int p1), .val (.int p2), .val (.int p3), .val (.int zl), .val (.int v0), .val (.int v1), .val (.int v2), .val (.int v3), .val (.int v4), .val (.int v5), .val (.int v6), .unset, .unset] [(.int zl)])) rfl (hb hby at_77) rfl hz0 (cap := 7) (by rw [hzn]; omega) (by decide) (by first | decide | omega) (by first | decide | omega)
  obtain ⟨b9, g9⟩ : ∃ z, z = h0.size := ⟨_, rfl⟩
  rw [← g9] at A9 st9
  have gz_b9 : n0 ≤ b9 := Nat.le_trans Z0 (Nat.le_of_eq g9.symm)
  have Z9 : n0 ≤ h9.size := Nat.le_trans Z0 E9.1
  have V9 := Ari.new A9 hz0 (n := N) hzn rfl
  refine Done.go st9 ?_
  show Done p e s below _ _ _ T9 (mkF m 79 #[.val (.int p0), .val (.int p1), .val (.int p2), .val (.int p3), .val (.int zl), .val (.int v0), .val (.int v1), .val (.int v2), .val (.int v3), .val (.int v4), .val (.int v5), .val (.int v6), .unset, .unset] [(.ref b9)])
  refine Done.go (fun _ k => XS.astore X9.here hx rfl (hb hby at_79) rfl rfl (l' := #[.val (.int p0), .val (.int p1), .val (.int p2), .val (.int p3), .val (.int zl), .val (.int v0), .val (.int v1), .val (.int v2), .val (.int v3), .val (.int v4), .val (.int v5), .val (.int v6), .val (.ref b9), .unset]) rfl k) ?_
  have J166 : ∀ (T1 : State) (h1 : Heap) (L1 : List Loc) (f1 : Nat → Int32), Stand p l e room_1 s m #[(.int p0), (.int p1), (.int p2), (.int p3)] below meth c T1 L1 1 7 → T1.heap = h1 → n0 ≤ h1.size → Fr n0 L1 → Ari Z h1 b9 .byte N f1 → (∀ i, i < 7 → i < N → f1 i = (own_sel v0 v1 v2 v3 v4 v5 v6) i) → Done p e s below 16 128 (Q0 n0) T1 (mkF m 166 #[.val (.int p0), .val (.int p1), .val (.int p2), .val (.int p3), .val (.int zl), .val (.int v0), .val (.int v1), .val (.int v2), .val (.int v3), .val (.int v4), .val (.int v5), .val (.int v6), .val (.ref b9), .unset] []) := by
    intro T1 h1 L1 f1 X1 e1 z1 N1 V1 H1
    have V1 := V1.congr (f' := (own_sel v0 v1 v2 v3 v4 v5 v6)) (fun i hi => H1 i (by omega) hi)
    show Done p e s below _ _ _ T1 (mkF m 166 #[.val (.int p0), .val (.int p1), .val (.int p2), .val (.int p3), .val (.int zl), .val (.int v0), .val (.int v1), .val (.int v2), .val (.int v3), .val (.int v4), .val (.int v5), .val (.int v6), .val (.ref b9), .unset] [])
    refine Done.go (fun _ k => XS.iload X1.here hx rfl (hb hby at_166) rfl k) ?_
    show Done p e s below _ _ _ T1 (mkF m 168 #[.val (.int p0), .val (.int p1), .val (.int p2), .val (.int p3), .val (.int zl), .val (.int v0), .val (.int v1), .val (.int v2), .val (.int v3), .val (.int v4), .val (.int v5), .val (.int v6), .val (.ref b9), .unset] [(.int zl)])
    refine Done.go (fun _ k => XS.iconst X1.here hx rfl (hb hby at_168) k) ?_
    show Done p e s below _ _ _ T1 (mkF m 169 #[.val (.int p0), .val (.int p1), .val (.int p2), .val (.int p3), .val (.int zl), .val (.int v0), .val (.int v1), .val (.int v2), .val (.int v3), .val (.int v4), .val (.int v5), .val (.int v6), .val (.ref b9), .unset] [(.int (5 : Int32)), (.int zl)])
    by_cases hc169 : zl < (5 : Int32)
    · skip
      refine Done.go (fun _ k => XS.icmpYes X1.here hx rfl (pc0 := 169) (pc' := 216) rfl (hb hby at_169) rfl (tlt hc169).1 (by decide) (by decide) k) ?_
      show Done p e s below _ _ _ T1 (mkF m 216 #[.val (.int p0), .val (.int p1), .val (.int p2), .val (.int p3), .val (.int zl), .val (.int v0), .val (.int v1), .val (.int v2), .val (.int v3), .val (.int v4), .val (.int v5), .val (.int v6), .val (.ref b9), .unset] [])
      refine Done.go (fun _ k => XS.iconst X1.here hx rfl (hb hby at_216) k) ?_
      have hex : own_rec N (own_sel v0 v1 v2 v3 v4 v5 v6) = (0 : Int32) := by
        have u := (own_lt32 hz0 (by decide : ¬ (5 : Int32) < 0)).mp hc169; rw [hzn] at u
        exact if_neg (fun y => absurd y.1 (Nat.not_le_of_lt u))
      show Done p e s below _ _ _ T1 (mkF m 217 #[.val (.int p0), .val (.int p1), .val (.int p2), .val (.int p3), .val (.int zl), .val (.int v0), .val (.int v1), .val (.int v2), .val (.int v3), .val (.int v4), .val (.int v5), .val (.int v6), .val (.ref b9), .unset] [(.int (0 : Int32))])
      refine Done.go (fun _ k => XS.istore X1.here hx rfl (hb hby at_217) rfl (l' := #[.val (.int p0), .val (.int p1), .val (.int p2), .val (.int p3), .val (.int zl), .val (.int v0), .val (.int v1), .val (.int v2), .val (.int v3), .val (.int v4), .val (.int v5), .val (.int v6), .val (.ref b9), .val (.int (0 : Int32))]) rfl k) ?_
      show Done p e s below _ _ _ T1 (mkF m 219 #[.val (.int p0), .val (.int p1), .val (.int p2), .val (.int p3), .val (.int zl), .val (.int v0), .val (.int v1), .val (.int v2), .val (.int v3), .val (.int v4), .val (.int v5), .val (.int v6), .val (.ref b9), .val (.int (0 : Int32))] [])
      refine Done.go (fun _ k => XS.aload X1.here hx rfl (hb hby at_219) rfl rfl k) ?_
      show Done p e s below _ _ _ T1 (mkF m 221 #[.val (.int p0), .val (.int p1), .val (.int p2), .val (.int p3), .val (.int zl), .val (.int v0), .val (.int v1), .val (.int v2), .val (.int v3), .val (.int v4), .val (.int v5), .val (.int v6), .val (.ref b9), .val (.int (0 : Int32))] [(.ref b9)])
      obtain ⟨_, _, ⟨T10, L10, k10, n10⟩, -, X10, ⟨Lc10, hQ10, l10, y10, z10⟩, st10⟩ := Jvm.LawKit.callS X1 hx (y := (⟨"spinecode/marc/Iso2709Reader", "recognises", "([B)Z"⟩ : MethodName)) hown (mvT hZ (hw _ (List.mem_of_getElem? (i := 5) rfl))) (mvT hZ (hw _ (List.mem_of_getElem? (i := 6) rfl))) (mvT hZ (hw _ (List.mem_of_getElem? (i := 7) rfl))) (mvT hZ (hw _ (List.mem_of_getElem? (i := 8) rfl))) (by decide) (backOf (W := 0) (rm2 l Z a0 hw [] b9 N (own_sel v0 v1 v2 v3 v4 v5 v6) zl h1 n0 z1 V1 hz0 hzn) hZ (hw _ (List.mem_of_getElem? (i := 8) rfl)) (hw _ (List.mem_of_getElem? (i := 7) rfl)) (by decide) (by decide)) (g := (mkF m 221 #[.val (.int p0), .val (.int p1), .val (.int p2), .val (.int p3), .val (.int zl), .val (.int v0), .val (.int v1), .val (.int v2), .val (.int v3), .val (.int v4), .val (.int v5), .val (.int v6), .val (.ref b9), .val (.int (0 : Int32))] [(.ref b9)])) rfl (by rw [hml]; rfl) (argsL := [(.ref b9)]) (rest := []) (lenOf own_pd2 rfl) rfl (by show 2 * 0 + _ ≤ _; exact Nat.le_of_eq rfl) (hb hby at_221) (fun _ _ => ⟨rfl, e1, (by first | decide | omega : 1 + 0 ≤ _), (by first | decide | omega : 7 + 0 ≤ _)⟩)
      dsimp only [Pt.U, Pt.locs, Pt.cells, Pt.slots] at X10 l10 y10 z10 st10 hQ10
      subst l10 y10 z10
      obtain ⟨rfl, N10q, e10⟩ := hQ10
      have N10 := Fr.app N1 N10q
      refine Done.go st10 ?_
      show Done p e s below _ _ _ T10 (mkF m 224 #[.val (.int p0), .val (.int p1), .val (.int p2), .val (.int p3), .val (.int zl), .val (.int v0), .val (.int v1), .val (.int v2), .val (.int v3), .val (.int v4), .val (.int v5), .val (.int v6), .val (.ref b9), .val (.int (0 : Int32))] [(.int (own_rec N (own_sel v0 v1 v2 v3 v4 v5 v6)))])
      refine Done.go (fun _ k => XS.iload X10.here hx rfl (hb hby at_224) rfl k) ?_
      show Done p e s below _ _ _ T10 (mkF m 226 #[.val (.int p0), .val (.int p1), .val (.int p2), .val (.int p3), .val (.int zl), .val (.int v0), .val (.int v1), .val (.int v2), .val (.int v3), .val (.int v4), .val (.int v5), .val (.int v6), .val (.ref b9), .val (.int (0 : Int32))] [(.int (0 : Int32)), (.int (own_rec N (own_sel v0 v1 v2 v3 v4 v5 v6)))])
      refine Done.go (fun _ k => XS.icmpNo X10.here hx rfl (hb hby at_226) rfl (teq hex).2 k) ?_
      show Done p e s below _ _ _ T10 (mkF m 229 #[.val (.int p0), .val (.int p1), .val (.int p2), .val (.int p3), .val (.int zl), .val (.int v0), .val (.int v1), .val (.int v2), .val (.int v3), .val (.int v4), .val (.int v5), .val (.int v6), .val (.ref b9), .val (.int (0 : Int32))] [])
      refine Done.go (fun _ k => XS.iconst X10.here hx rfl (hb hby at_229) k) ?_
      show Done p e s below _ _ _ T10 (mkF m 230 #[.val (.int p0), .val (.int p1), .val (.int p2), .val (.int p3), .val (.int zl), .val (.int v0), .val (.int v1), .val (.int v2), .val (.int v3), .val (.int v4), .val (.int v5), .val (.int v6), .val (.ref b9), .val (.int (0 : Int32))] [(.int (1 : Int32))])
      refine Done.go (fun _ k => XS.goto X10.here hx rfl (pc0 := 230) (pc' := 234) rfl (hb hby at_230) (by decide) (by decide) k) ?_
      show Done p e s below _ _ _ T10 (mkF m 234 #[.val (.int p0), .val (.int p1), .val (.int p2), .val (.int p3), .val (.int zl), .val (.int v0), .val (.int v1), .val (.int v2), .val (.int v3), .val (.int v4), .val (.int v5), .val (.int v6), .val (.ref b9), .val (.int (0 : Int32))] [(.int (1 : Int32))])
      refine Done.retN X10 hx hlk (t := .boolean) hrt (by simp) (z' := (1 : Int32)) rfl (hb hby at_234) ?_ (by first | decide | omega) (by first | decide | omega)
      rw [e10]
      exact ⟨rfl, N10⟩
    · skip
      refine Done.go (fun _ k => XS.icmpNo X1.here hx rfl (hb hby at_169) rfl (flt hc169).1 k) ?_
      show Done p e s below _ _ _ T1 (mkF m 172 #[.val (.int p0), .val (.int p1), .val (.int p2), .val (.int p3), .val (.int zl), .val (.int v0), .val (.int v1), .val (.int v2), .val (.int v3), .val (.int v4), .val (.int v5), .val (.int v6), .val (.ref b9), .unset] [])
      refine Done.go (fun _ k => XS.iload X1.here hx rfl (hb hby at_172) rfl k) ?_
      show Done p e s below _ _ _ T1 (mkF m 174 #[.val (.int p0), .val (.int p1), .val (.int p2), .val (.int p3), .val (.int zl), .val (.int v0), .val (.int v1), .val (.int v2), .val (.int v3), .val (.int v4), .val (.int v5), .val (.int v6), .val (.ref b9), .unset] [(.int v0)])
      obtain ⟨_, _, ⟨T11, L11, k11, n11⟩, -, X11, ⟨Lc11, hQ11, l11, y11, z11⟩, st11⟩ := Jvm.LawKit.callS X1 hx (y := (⟨"spinecode/marc/Iso2709ReaderRecognisesPinLaw", "isDigit", "(B)Z"⟩ : MethodName)) hown (mvT hZ (hw _ (List.mem_of_getElem? (i := 9) rfl))) (mvT hZ (hw _ (List.mem_of_getElem? (i := 10) rfl))) (mvT hZ (hw _ (List.mem_of_getElem? (i := 2) rfl))) (mvT hZ (hw _ (List.mem_of_getElem? (i := 11) rfl))) (by decide) (backOf (W := 0) (rm3 l Z a0 hw [] v0 h1 n0 z1) hZ (hw _ (List.mem_of_getElem? (i := 11) rfl)) (hw _ (List.mem_of_getElem? (i := 2) rfl)) (by decide) (by decide)) (g := (mkF m 174 #[.val (.int p0), .val (.int p1), .val (.int p2), .val (.int p3), .val (.int zl), .val (.int v0), .val (.int v1), .val (.int v2), .val (.int v3), .val (.int v4), .val (.int v5), .val (.int v6), .val (.ref b9), .unset] [(.int v0)])) rfl (by rw [hml]; rfl) (argsL := [(.int v0)]) (rest := []) (lenOf own_pd3 rfl) rfl (by show 2 * 0 + _ ≤ _; exact Nat.le_of_eq rfl) (hb hby at_174) (fun _ _ => ⟨rfl, e1, (by first | decide | omega : 1 + 0 ≤ _), (by first | decide | omega : 7 + 0 ≤ _)⟩)
      dsimp only [Pt.U, Pt.locs, Pt.cells, Pt.slots] at X11 l11 y11 z11 st11 hQ11
      subst l11 y11 z11
      obtain ⟨rfl, N11q, e11⟩ := hQ11
      have N11 := Fr.app N1 N11q
      refine Done.go st11 ?_
      show Done p e s below _ _ _ T11 (mkF m 177 #[.val (.int p0), .val (.int p1), .val (.int p2), .val (.int p3), .val (.int zl), .val (.int v0), .val (.int v1), .val (.int v2), .val (.int v3), .val (.int v4), .val (.int v5), .val (.int v6), .val (.ref b9), .unset] [(.int (own_dig v0))])
      by_cases hc177 : (own_dig v0) = (0 : Int32)
      · skip
        refine Done.go (fun _ k => XS.ifYes X11.here hx rfl (pc0 := 177) (pc' := 216) rfl (hb hby at_177) rfl ((if0 _ _).trans (teq hc177).1) (by decide) (by decide) k) ?_
        show Done p e s below _ _ _ T11 (mkF m 216 #[.val (.int p0), .val (.int p1), .val (.int p2), .val (.int p3), .val (.int zl), .val (.int v0), .val (.int v1), .val (.int v2), .val (.int v3), .val (.int v4), .val (.int v5), .val (.int v6), .val (.ref b9), .unset] [])
        refine Done.go (fun _ k => XS.iconst X11.here hx rfl (hb hby at_216) k) ?_
        have hex : own_rec N (own_sel v0 v1 v2 v3 v4 v5 v6) = (0 : Int32) := by
          have u := own_nt (own_lt32 hz0 (by decide : ¬ (5 : Int32) < 0)) hc169; rw [hzn] at u
          exact if_neg (fun y => own_dig1 hc177 y.2.1)
        show Done p e s below _ _ _ T11 (mkF m 217 #[.val (.int p0), .val (.int p1), .val (.int p2), .val (.int p3), .val (.int zl), .val (.int v0), .val (.int v1), .val (.int v2), .val (.int v3), .val (.int v4), .val (.int v5), .val (.int v6), .val (.ref b9), .unset] [(.int (0 : Int32))])
        refine Done.go (fun _ k => XS.istore X11.here hx rfl (hb hby at_217) rfl (l' := #[.val (.int p0), .val (.int p1), .val (.int p2), .val (.int p3), .val (.int zl), .val (.int v0), .val (.int v1), .val (.int v2), .val (.int v3), .val (.int v4), .val (.int v5), .val (.int v6), .val (.ref b9), .val (.int (0 : Int32))]) rfl k) ?_
        show Done p e s below _ _ _ T11 (mkF m 219 #[.val (.int p0), .val (.int p1), .val (.int p2), .val (.int p3), .val (.int zl), .val (.int v0), .val (.int v1), .val (.int v2), .val (.int v3), .val (.int v4), .val (.int v5), .val (.int v6), .val (.ref b9), .val (.int (0 : Int32))] [])
        refine Done.go (fun _ k => XS.aload X11.here hx rfl (hb hby at_219) rfl rfl k) ?_
        show Done p e s below _ _ _ T11 (mkF m 221 #[.val (.int p0), .val (.int p1), .val (.int p2), .val (.int p3), .val (.int zl), .val (.int v0), .val (.int v1), .val (.int v2), .val (.int v3), .val (.int v4), .val (.int v5), .val (.int v6), .val (.ref b9), .val (.int (0 : Int32))] [(.ref b9)])
        obtain ⟨_, _, ⟨T12, L12, k12, n12⟩, -, X12, ⟨Lc12, hQ12, l12, y12, z12⟩, st12⟩ := Jvm.LawKit.callS X11 hx (y := (⟨"spinecode/marc/Iso2709Reader", "recognises", "([B)Z"⟩ : MethodName)) hown (mvT hZ (hw _ (List.mem_of_getElem? (i := 5) rfl))) (mvT hZ (hw _ (List.mem_of_getElem? (i := 6) rfl))) (mvT hZ (hw _ (List.mem_of_getElem? (i := 7) rfl))) (mvT hZ (hw _ (List.mem_of_getElem? (i := 8) rfl))) (by decide) (backOf (W := 0) (rm2 l Z a0 hw [] b9 N (own_sel v0 v1 v2 v3 v4 v5 v6) zl h1 n0 z1 V1 hz0 hzn) hZ (hw _ (List.mem_of_getElem? (i := 8) rfl)) (hw _ (List.mem_of_getElem? (i := 7) rfl)) (by decide) (by decide)) (g := (mkF m 221 #[.val (.int p0), .val (.int p1), .val (.int p2), .val (.int p3), .val (.int zl), .val (.int v0), .val (.int v1), .val (.int v2), .val (.int v3), .val (.int v4), .val (.int v5), .val (.int v6), .val (.ref b9), .val (.int (0 : Int32))] [(.ref b9)])) rfl (by rw [hml]; rfl) (argsL := [(.ref b9)]) (rest := []) (lenOf own_pd2 rfl) rfl (by show 2 * 0 + _ ≤ _; exact Nat.le_of_eq rfl) (hb hby at_221) (fun _ _ => ⟨rfl, e11, (by first | decide | omega : (1 + 0) + 0 ≤ _), (by first | decide | omega : (7 + 0) + 0 ≤ _)⟩)
        dsimp only [Pt.U, Pt.locs, Pt.cells, Pt.slots] at X12 l12 y12 z12 st12 hQ12
        subst l12 y12 z12
        obtain ⟨rfl, N12q, e12⟩ := hQ12
        have N12 := Fr.app N11 N12q
        refine Done.go st12 ?_
        show Done p e s below _ _ _ T12 (mkF m 224 #[.val (.int p0), .val (.int p1), .val (.int p2), .val (.int p3), .val (.int zl), .val (.int v0), .val (.int v1), .val (.int v2), .val (.int v3), .val (.int v4), .val (.int v5), .val (.int v6), .val (.ref b9), .val (.int (0 : Int32))] [(.int (own_rec N (own_sel v0 v1 v2 v3 v4 v5 v6)))])
        refine Done.go (fun _ k => XS.iload X12.here hx rfl (hb hby at_224) rfl k) ?_
        show Done p e s below _ _ _ T12 (mkF m 226 #[.val (.int p0), .val (.int p1), .val (.int p2), .val (.int p3), .val (.int zl), .val (.int v0), .val (.int v1), .val (.int v2), .val (.int v3), .val (.int v4), .val (.int v5), .val (.int v6), .val (.ref b9), .val (.int (0 : Int32))] [(.int (0 : Int32)), (.int (own_rec N (own_sel v0 v1 v2 v3 v4 v5 v6)))])
        refine Done.go (fun _ k => XS.icmpNo X12.here hx rfl (hb hby at_226) rfl (teq hex).2 k) ?_
        show Done p e s below _ _ _ T12 (mkF m 229 #[.val (.int p0), .val (.int p1), .val (.int p2), .val (.int p3), .val (.int zl), .val (.int v0), .val (.int v1), .val (.int v2), .val (.int v3), .val (.int v4), .val (.int v5), .val (.int v6), .val (.ref b9), .val (.int (0 : Int32))] [])
        refine Done.go (fun _ k => XS.iconst X12.here hx rfl (hb hby at_229) k) ?_
        show Done p e s below _ _ _ T12 (mkF m 230 #[.val (.int p0), .val (.int p1), .val (.int p2), .val (.int p3), .val (.int zl), .val (.int v0), .val (.int v1), .val (.int v2), .val (.int v3), .val (.int v4), .val (.int v5), .val (.int v6), .val (.ref b9), .val (.int (0 : Int32))] [(.int (1 : Int32))])
        refine Done.go (fun _ k => XS.goto X12.here hx rfl (pc0 := 230) (pc' := 234) rfl (hb hby at_230) (by decide) (by decide) k) ?_
        show Done p e s below _ _ _ T12 (mkF m 234 #[.val (.int p0), .val (.int p1), .val (.int p2), .val (.int p3), .val (.int zl), .val (.int v0), .val (.int v1), .val (.int v2), .val (.int v3), .val (.int v4), .val (.int v5), .val (.int v6), .val (.ref b9), .val (.int (0 : Int32))] [(.int (1 : Int32))])
        refine Done.retN X12 hx hlk (t := .boolean) hrt (by simp) (z' := (1 : Int32)) rfl (hb hby at_234) ?_ (by first | decide | omega) (by first | decide | omega)
        rw [e12]
        exact ⟨rfl, N12⟩
      · skip
        refine Done.go (fun _ k => XS.ifNo X11.here hx rfl (hb hby at_177) rfl ((if0 _ _).trans (feq hc177).1) k) ?_
        show Done p e s below _ _ _ T11 (mkF m 180 #[.val (.int p0), .val (.int p1), .val (.int p2), .val (.int p3), .val (.int zl), .val (.int v0), .val (.int v1), .val (.int v2), .val (.int v3), .val (.int v4), .val (.int v5), .val (.int v6), .val (.ref b9), .unset] [])
        refine Done.go (fun _ k => XS.iload X11.here hx rfl (hb hby at_180) rfl k) ?_
        show Done p e s below _ _ _ T11 (mkF m 182 #[.val (.int p0), .val (.int p1), .val (.int p2), .val (.int p3), .val (.int zl), .val (.int v0), .val (.int v1), .val (.int v2), .val (.int v3), .val (.int v4), .val (.int v5), .val (.int v6), .val (.ref b9), .unset] [(.int v1)])
        obtain ⟨_, _, ⟨T13, L13, k13, n13⟩, -, X13, ⟨Lc13, hQ13, l13, y13, z13⟩, st13⟩ := Jvm.LawKit.callS X11 hx (y := (⟨"spinecode/marc/Iso2709ReaderRecognisesPinLaw", "isDigit", "(B)Z"⟩ : MethodName)) hown (mvT hZ (hw _ (List.mem_of_getElem? (i := 9) rfl))) (mvT hZ (hw _ (List.mem_of_getElem? (i := 10) rfl))) (mvT hZ (hw _ (List.mem_of_getElem? (i := 2) rfl))) (mvT hZ (hw _ (List.mem_of_getElem? (i := 11) rfl))) (by decide) (backOf (W := 0) (rm3 l Z a0 hw [] v1 h1 n0 z1) hZ (hw _ (List.mem_of_getElem? (i := 11) rfl)) (hw _ (List.mem_of_getElem? (i := 2) rfl)) (by decide) (by decide)) (g := (mkF m 182 #[.val (.int p0), .val (.int p1), .val (.int p2), .val (.int p3), .val (.int zl), .val (.int v0), .val (.int v1), .val (.int v2), .val (.int v3), .val (.int v4), .val (.int v5), .val (.int v6), .val (.ref b9), .unset] [(.int v1)])) rfl (by rw [hml]; rfl) (argsL := [(.int v1)]) (rest := []) (lenOf own_pd3 rfl) rfl (by show 2 * 0 + _ ≤ _; exact Nat.le_of_eq rfl) (hb hby at_182) (fun _ _ => ⟨rfl, e11, (by first | decide | omega : (1 + 0) + 0 ≤ _), (by first | decide | omega : (7 + 0) + 0 ≤ _)⟩)
        dsimp only [Pt.U, Pt.locs, Pt.cells, Pt.slots] at X13 l13 y13 z13 st13 hQ13
        subst l13 y13 z13
        obtain ⟨rfl, N13q, e13⟩ := hQ13
        have N13 := Fr.app N11 N13q
        refine Done.go st13 ?_
        show Done p e s below _ _ _ T13 (mkF m 185 #[.val (.int p0), .val (.int p1), .val (.int p2), .val (.int p3), .val (.int zl), .val (.int v0), .val (.int v1), .val (.int v2), .val (.int v3), .val (.int v4), .val (.int v5), .val (.int v6), .val (.ref b9), .unset] [(.int (own_dig v1))])
        by_cases hc185 : (own_dig v1) = (0 : Int32)
        · skip
          refine Done.go (fun _ k => XS.ifYes X13.here hx rfl (pc0 := 185) (pc' := 216) rfl (hb hby at_185) rfl ((if0 _ _).trans (teq hc185).1) (by decide) (by decide) k) ?_
          show Done p e s below _ _ _ T13 (mkF m 216 #[.val (.int p0), .val (.int p1), .val (.int p2), .val (.int p3), .val (.int zl), .val (.int v0), .val (.int v1), .val (.int v2), .val (.int v3), .val (.int v4), .val (.int v5), .val (.int v6), .val (.ref b9), .unset] [])
          refine Done.go (fun _ k => XS.iconst X13.here hx rfl (hb hby at_216) k) ?_
          have hex : own_rec N (own_sel v0 v1 v2 v3 v4 v5 v6) = (0 : Int32) := by
            have u := own_nt (own_lt32 hz0 (by decide : ¬ (5 : Int32) < 0)) hc169; rw [hzn] at u
            exact if_neg (fun y => own_dig1 hc185 y.2.2.1)
          show Done p e s below _ _ _ T13 (mkF m 217 #[.val (.int p0), .val (.int p1), .val (.int p2), .val (.int p3), .val (.int zl), .val (.int v0), .val (.int v1), .val (.int v2), .val (.int v3), .val (.int v4), .val (.int v5), .val (.int v6), .val (.ref b9), .unset] [(.int (0 : Int32))])
          refine Done.go (fun _ k => XS.istore X13.here hx rfl (hb hby at_217) rfl (l' := #[.val (.int p0), .val (.int p1), .val (.int p2), .val (.int p3), .val (.int zl), .val (.int v0), .val (.int v1), .val (.int v2), .val (.int v3), .val (.int v4), .val (.int v5), .val (.int v6), .val (.ref b9), .val (.int (0 : Int32))]) rfl k) ?_
          show Done p e s below _ _ _ T13 (mkF m 219 #[.val (.int p0), .val (.int p1), .val (.int p2), .val (.int p3), .val (.int zl), .val (.int v0), .val (.int v1), .val (.int v2), .val (.int v3), .val (.int v4), .val (.int v5), .val (.int v6), .val (.ref b9), .val (.int (0 : Int32))] [])
          refine Done.go (fun _ k => XS.aload X13.here hx rfl (hb hby at_219) rfl rfl k) ?_
          show Done p e s below _ _ _ T13 (mkF m 221 #[.val (.int p0), .val (.int p1), .val (.int p2), .val (.int p3), .val (.int zl), .val (.int v0), .val (.int v1), .val (.int v2), .val (.int v3), .val (.int v4), .val (.int v5), .val (.int v6), .val (.ref b9), .val (.int (0 : Int32))] [(.ref b9)])
          obtain ⟨_, _, ⟨T14, L14, k14, n14⟩, -, X14, ⟨Lc14, hQ14, l14, y14, z14⟩, st14⟩ := Jvm.LawKit.callS X13 hx (y := (⟨"spinecode/marc/Iso2709Reader", "recognises", "([B)Z"⟩ : MethodName)) hown (mvT hZ (hw _ (List.mem_of_getElem? (i := 5) rfl))) (mvT hZ (hw _ (List.mem_of_getElem? (i := 6) rfl))) (mvT hZ (hw _ (List.mem_of_getElem? (i := 7) rfl))) (mvT hZ (hw _ (List.mem_of_getElem? (i := 8) rfl))) (by decide) (backOf (W := 0) (rm2 l Z a0 hw [] b9 N (own_sel v0 v1 v2 v3 v4 v5 v6) zl h1 n0 z1 V1 hz0 hzn) hZ (hw _ (List.mem_of_getElem? (i := 8) rfl)) (hw _ (List.mem_of_getElem? (i := 7) rfl)) (by decide) (by decide)) (g := (mkF m 221 #[.val (.int p0), .val (.int p1), .val (.int p2), .val (.int p3), .val (.int zl), .val (.int v0), .val (.int v1), .val (.int v2), .val (.int v3), .val (.int v4), .val (.int v5), .val (.int v6), .val (.ref b9), .val (.int (0 : Int32))] [(.ref b9)])) rfl (by rw [hml]; rfl) (argsL := [(.ref b9)]) (rest := []) (lenOf own_pd2 rfl) rfl (by show 2 * 0 + _ ≤ _; exact Nat.le_of_eq rfl) (hb hby at_221) (fun _ _ => ⟨rfl, e13, (by first | decide | omega : ((1 + 0) + 0) + 0 ≤ _), (by first | decide | omega : ((7 + 0) + 0) + 0 ≤ _)⟩)
          dsimp only [Pt.U, Pt.locs, Pt.cells, Pt.slots] at X14 l14 y14 z14 st14 hQ14
          subst l14 y14 z14
          obtain ⟨rfl, N14q, e14⟩ := hQ14
          have N14 := Fr.app N13 N14q
          refine Done.go st14 ?_
          show Done p e s below _ _ _ T14 (mkF m 224 #[.val (.int p0), .val (.int p1), .val (.int p2), .val (.int p3), .val (.int zl), .val (.int v0), .val (.int v1), .val (.int v2), .val (.int v3), .val (.int v4), .val (.int v5), .val (.int v6), .val (.ref b9), .val (.int (0 : Int32))] [(.int (own_rec N (own_sel v0 v1 v2 v3 v4 v5 v6)))])
          refine Done.go (fun _ k => XS.iload X14.here hx rfl (hb hby at_224) rfl k) ?_
          show Done p e s below _ _ _ T14 (mkF m 226 #[.val (.int p0), .val (.int p1), .val (.int p2), .val (.int p3), .val (.int zl), .val (.int v0), .val (.int v1), .val (.int v2), .val (.int v3), .val (.int v4), .val (.int v5), .val (.int v6), .val (.ref b9), .val (.int (0 : Int32))] [(.int (0 : Int32)), (.int (own_rec N (own_sel v0 v1 v2 v3 v4 v5 v6)))])
          refine Done.go (fun _ k => XS.icmpNo X14.here hx rfl (hb hby at_226) rfl (teq hex).2 k) ?_
          show Done p e s below _ _ _ T14 (mkF m 229 #[.val (.int p0), .val (.int p1), .val (.int p2), .val (.int p3), .val (.int zl), .val (.int v0), .val (.int v1), .val (.int v2), .val (.int v3), .val (.int v4), .val (.int v5), .val (.int v6), .val (.ref b9), .val (.int (0 : Int32))] [])
          refine Done.go (fun _ k => XS.iconst X14.here hx rfl (hb hby at_229) k) ?_
          show Done p e s below _ _ _ T14 (mkF m 230 #[.val (.int p0), .val (.int p1), .val (.int p2), .val (.int p3), .val (.int zl), .val (.int v0), .val (.int v1), .val (.int v2), .val (.int v3), .val (.int v4), .val (.int v5), .val (.int v6), .val (.ref b9), .val (.int (0 : Int32))] [(.int (1 : Int32))])
          refine Done.go (fun _ k => XS.goto X14.here hx rfl (pc0 := 230) (pc' := 234) rfl (hb hby at_230) (by decide) (by decide) k) ?_
          show Done p e s below _ _ _ T14 (mkF m 234 #[.val (.int p0), .val (.int p1), .val (.int p2), .val (.int p3), .val (.int zl), .val (.int v0), .val (.int v1), .val (.int v2), .val (.int v3), .val (.int v4), .val (.int v5), .val (.int v6), .val (.ref b9), .val (.int (0 : Int32))] [(.int (1 : Int32))])
          refine Done.retN X14 hx hlk (t := .boolean) hrt (by simp) (z' := (1 : Int32)) rfl (hb hby at_234) ?_ (by first | decide | omega) (by first | decide | omega)
          rw [e14]
          exact ⟨rfl, N14⟩
        · skip
          refine Done.go (fun _ k => XS.ifNo X13.here hx rfl (hb hby at_185) rfl ((if0 _ _).trans (feq hc185).1) k) ?_
          show Done p e s below _ _ _ T13 (mkF m 188 #[.val (.int p0), .val (.int p1), .val (.int p2), .val (.int p3), .val (.int zl), .val (.int v0), .val (.int v1), .val (.int v2), .val (.int v3), .val (.int v4), .val (.int v5), .val (.int v6), .val (.ref b9), .unset] [])
          refine Done.go (fun _ k => XS.iload X13.here hx rfl (hb hby at_188) rfl k) ?_
          show Done p e s below _ _ _ T13 (mkF m 190 #[.val (.int p0), .val (.int p1), .val (.int p2), .val (.int p3), .val (.int zl), .val (.int v0), .val (.int v1), .val (.int v2), .val (.int v3), .val (.int v4), .val (.int v5), .val (.int v6), .val (.ref b9), .unset] [(.int v2)])
          obtain ⟨_, _, ⟨T15, L15, k15, n15⟩, -, X15, ⟨Lc15, hQ15, l15, y15, z15⟩, st15⟩ := Jvm.LawKit.callS X13 hx (y := (⟨"spinecode/marc/Iso2709ReaderRecognisesPinLaw", "isDigit", "(B)Z"⟩ : MethodName)) hown (mvT hZ (hw _ (List.mem_of_getElem? (i := 9) rfl))) (mvT hZ (hw _ (List.mem_of_getElem? (i := 10) rfl))) (mvT hZ (hw _ (List.mem_of_getElem? (i := 2) rfl))) (mvT hZ (hw _ (List.mem_of_getElem? (i := 11) rfl))) (by decide) (backOf (W := 0) (rm3 l Z a0 hw [] v2 h1 n0 z1) hZ (hw _ (List.mem_of_getElem? (i := 11) rfl)) (hw _ (List.mem_of_getElem? (i := 2) rfl)) (by decide) (by decide)) (g := (mkF m 190 #[.val (.int p0), .val (.int p1), .val (.int p2), .val (.int p3), .val (.int zl), .val (.int v0), .val (.int v1), .val (.int v2), .val (.int v3), .val (.int v4), .val (.int v5), .val (.int v6), .val (.ref b9), .unset] [(.int v2)])) rfl (by rw [hml]; rfl) (argsL := [(.int v2)]) (rest := []) (lenOf own_pd3 rfl) rfl (by show 2 * 0 + _ ≤ _; exact Nat.le_of_eq rfl) (hb hby at_190) (fun _ _ => ⟨rfl, e13, (by first | decide | omega : ((1 + 0) + 0) + 0 ≤ _), (by first | decide | omega : ((7 + 0) + 0) + 0 ≤ _)⟩)
          dsimp only [Pt.U, Pt.locs, Pt.cells, Pt.slots] at X15 l15 y15 z15 st15 hQ15
          subst l15 y15 z15
          obtain ⟨rfl, N15q, e15⟩ := hQ15
          have N15 := Fr.app N13 N15q
          refine Done.go st15 ?_
          show Done p e s below _ _ _ T15 (mkF m 193 #[.val (.int p0), .val (.int p1), .val (.int p2), .val (.int p3), .val (.int zl), .val (.int v0), .val (.int v1), .val (.int v2), .val (.int v3), .val (.int v4), .val (.int v5), .val (.int v6), .val (.ref b9), .unset] [(.int (own_dig v2))])
          by_cases hc193 : (own_dig v2) = (0 : Int32)
          · skip
            refine Done.go (fun _ k => XS.ifYes X15.here hx rfl (pc0 := 193) (pc' := 216) rfl (hb hby at_193) rfl ((if0 _ _).trans (teq hc193).1) (by decide) (by decide) k) ?_
            show Done p e s below _ _ _ T15 (mkF m 216 #[.val (.int p0), .val (.int p1), .val (.int p2), .val (.int p3), .val (.int zl), .val (.int v0), .val (.int v1), .val (.int v2), .val (.int v3), .val (.int v4), .val (.int v5), .val (.int v6), .val (.ref b9), .unset] [])
            refine Done.go (fun _ k => XS.iconst X15.here hx rfl (hb hby at_216) k) ?_
            have hex : own_rec N (own_sel v0 v1 v2 v3 v4 v5 v6) = (0 : Int32) := by
              have u := own_nt (own_lt32 hz0 (by decide : ¬ (5 : Int32) < 0)) hc169; rw [hzn] at u
              exact if_neg (fun y => own_dig1 hc193 y.2.2.2.1)
            show Done p e s below _ _ _ T15 (mkF m 217 #[.val (.int p0), .val (.int p1), .val (.int p2), .val (.int p3), .val (.int zl), .val (.int v0), .val (.int v1), .val (.int v2), .val (.int v3), .val (.int v4), .val (.int v5), .val (.int v6), .val (.ref b9), .unset] [(.int (0 : Int32))])
            refine Done.go (fun _ k => XS.istore X15.here hx rfl (hb hby at_217) rfl (l' := #[.val (.int p0), .val (.int p1), .val (.int p2), .val (.int p3), .val (.int zl), .val (.int v0), .val (.int v1), .val (.int v2), .val (.int v3), .val (.int v4), .val (.int v5), .val (.int v6), .val (.ref b9), .val (.int (0 : Int32))]) rfl k) ?_
            show Done p e s below _ _ _ T15 (mkF m 219 #[.val (.int p0), .val (.int p1), .val (.int p2), .val (.int p3), .val (.int zl), .val (.int v0), .val (.int v1), .val (.int v2), .val (.int v3), .val (.int v4), .val (.int v5), .val (.int v6), .val (.ref b9), .val (.int (0 : Int32))] [])
            refine Done.go (fun _ k => XS.aload X15.here hx rfl (hb hby at_219) rfl rfl k) ?_
            show Done p e s below _ _ _ T15 (mkF m 221 #[.val (.int p0), .val (.int p1), .val (.int p2), .val (.int p3), .val (.int zl), .val (.int v0), .val (.int v1), .val (.int v2), .val (.int v3), .val (.int v4), .val (.int v5), .val (.int v6), .val (.ref b9), .val (.int (0 : Int32))] [(.ref b9)])
            obtain ⟨_, _, ⟨T16, L16, k16, n16⟩, -, X16, ⟨Lc16, hQ16, l16, y16, z16⟩, st16⟩ := Jvm.LawKit.callS X15 hx (y := (⟨"spinecode/marc/Iso2709Reader", "recognises", "([B)Z"⟩ : MethodName)) hown (mvT hZ (hw _ (List.mem_of_getElem? (i := 5) rfl))) (mvT hZ (hw _ (List.mem_of_getElem? (i := 6) rfl))) (mvT hZ (hw _ (List.mem_of_getElem? (i := 7) rfl))) (mvT hZ (hw _ (List.mem_of_getElem? (i := 8) rfl))) (by decide) (backOf (W := 0) (rm2 l Z a0 hw [] b9 N (own_sel v0 v1 v2 v3 v4 v5 v6) zl h1 n0 z1 V1 hz0 hzn) hZ (hw _ (List.mem_of_getElem? (i := 8) rfl)) (hw _ (List.mem_of_getElem? (i := 7) rfl)) (by decide) (by decide)) (g := (mkF m 221 #[.val (.int p0), .val (.int p1), .val (.int p2), .val (.int p3), .val (.int zl), .val (.int v0), .val (.int v1), .val (.int v2), .val (.int v3), .val (.int v4), .val (.int v5), .val (.int v6), .val (.ref b9), .val (.int (0 : Int32))] [(.ref b9)])) rfl (by rw [hml]; rfl) (argsL := [(.ref b9)]) (rest := []) (lenOf own_pd2 rfl) rfl (by show 2 * 0 + _ ≤ _; exact Nat.le_of_eq rfl) (hb hby at_221) (fun _ _ => ⟨rfl, e15, (by first | decide | omega : (((1 + 0) + 0) + 0) + 0 ≤ _), (by first | decide | omega : (((7 + 0) + 0) + 0) + 0 ≤ _)⟩)
            dsimp only [Pt.U, Pt.locs, Pt.cells, Pt.slots] at X16 l16 y16 z16 st16 hQ16
            subst l16 y16 z16
            obtain ⟨rfl, N16q, e16⟩ := hQ16
            have N16 := Fr.app N15 N16q
            refine Done.go st16 ?_
            show Done p e s below _ _ _ T16 (mkF m 224 #[.val (.int p0), .val (.int p1), .val (.int p2), .val (.int p3), .val (.int zl), .val (.int v0), .val (.int v1), .val (.int v2), .val (.int v3), .val (.int v4), .val (.int v5), .val (.int v6), .val (.ref b9), .val (.int (0 : Int32))] [(.int (own_rec N (own_sel v0 v1 v2 v3 v4 v5 v6)))])
            refine Done.go (fun _ k => XS.iload X16.here hx rfl (hb hby at_224) rfl k) ?_
            show Done p e s below _ _ _ T16 (mkF m 226 #[.val (.int p0), .val (.int p1), .val (.int p2), .val (.int p3), .val (.int zl), .val (.int v0), .val (.int v1), .val (.int v2), .val (.int v3), .val (.int v4), .val (.int v5), .val (.int v6), .val (.ref b9), .val (.int (0 : Int32))] [(.int (0 : Int32)), (.int (own_rec N (own_sel v0 v1 v2 v3 v4 v5 v6)))])
            refine Done.go (fun _ k => XS.icmpNo X16.here hx rfl (hb hby at_226) rfl (teq hex).2 k) ?_
            show Done p e s below _ _ _ T16 (mkF m 229 #[.val (.int p0), .val (.int p1), .val (.int p2), .val (.int p3), .val (.int zl), .val (.int v0), .val (.int v1), .val (.int v2), .val (.int v3), .val (.int v4), .val (.int v5), .val (.int v6), .val (.ref b9), .val (.int (0 : Int32))] [])
            refine Done.go (fun _ k => XS.iconst X16.here hx rfl (hb hby at_229) k) ?_
            show Done p e s below _ _ _ T16 (mkF m 230 #[.val (.int p0), .val (.int p1), .val (.int p2), .val (.int p3), .val (.int zl), .val (.int v0), .val (.int v1), .val (.int v2), .val (.int v3), .val (.int v4), .val (.int v5), .val (.int v6), .val (.ref b9), .val (.int (0 : Int32))] [(.int (1 : Int32))])
            refine Done.go (fun _ k => XS.goto X16.here hx rfl (pc0 := 230) (pc' := 234) rfl (hb hby at_230) (by decide) (by decide) k) ?_
            show Done p e s below _ _ _ T16 (mkF m 234 #[.val (.int p0), .val (.int p1), .val (.int p2), .val (.int p3), .val (.int zl), .val (.int v0), .val (.int v1), .val (.int v2), .val (.int v3), .val (.int v4), .val (.int v5), .val (.int v6), .val (.ref b9), .val (.int (0 : Int32))] [(.int (1 : Int32))])
            refine Done.retN X16 hx hlk (t := .boolean) hrt (by simp) (z' := (1 : Int32)) rfl (hb hby at_234) ?_ (by first | decide | omega) (by first | decide | omega)
            rw [e16]
            exact ⟨rfl, N16⟩
          · skip
            refine Done.go (fun _ k => XS.ifNo X15.here hx rfl (hb hby at_193) rfl ((if0 _ _).trans (feq hc193).1) k) ?_
            show Done p e s below _ _ _ T15 (mkF m 196 #[.val (.int p0), .val (.int p1), .val (.int p2), .val (.int p3), .val (.int zl), .val (.int v0), .val (.int v1), .val (.int v2), .val (.int v3), .val (.int v4), .val (.int v5), .val (.int v6), .val (.ref b9), .unset] [])
            refine Done.go (fun _ k => XS.iload X15.here hx rfl (hb hby at_196) rfl k) ?_
            show Done p e s below _ _ _ T15 (mkF m 198 #[.val (.int p0), .val (.int p1), .val (.int p2), .val (.int p3), .val (.int zl), .val (.int v0), .val (.int v1), .val (.int v2), .val (.int v3), .val (.int v4), .val (.int v5), .val (.int v6), .val (.ref b9), .unset] [(.int v3)])
            obtain ⟨_, _, ⟨T17, L17, k17, n17⟩, -, X17, ⟨Lc17, hQ17, l17, y17, z17⟩, st17⟩ := Jvm.LawKit.callS X15 hx (y := (⟨"spinecode/marc/Iso2709ReaderRecognisesPinLaw", "isDigit", "(B)Z"⟩ : MethodName)) hown (mvT hZ (hw _ (List.mem_of_getElem? (i := 9) rfl))) (mvT hZ (hw _ (List.mem_of_getElem? (i := 10) rfl))) (mvT hZ (hw _ (List.mem_of_getElem? (i := 2) rfl))) (mvT hZ (hw _ (List.mem_of_getElem? (i := 11) rfl))) (by decide) (backOf (W := 0) (rm3 l Z a0 hw [] v3 h1 n0 z1) hZ (hw _ (List.mem_of_getElem? (i := 11) rfl)) (hw _ (List.mem_of_getElem? (i := 2) rfl)) (by decide) (by decide)) (g := (mkF m 198 #[.val (.int p0), .val (.int p1), .val (.int p2), .val (.int p3), .val (.int zl), .val (.int v0), .val (.int v1), .val (.int v2), .val (.int v3), .val (.int v4), .val (.int v5), .val (.int v6), .val (.ref b9), .unset] [(.int v3)])) rfl (by rw [hml]; rfl) (argsL := [(.int v3)]) (rest := []) (lenOf own_pd3 rfl) rfl (by show 2 * 0 + _ ≤ _; exact Nat.le_of_eq rfl) (hb hby at_198) (fun _ _ => ⟨rfl, e15, (by first | decide | omega : (((1 + 0) + 0) + 0) + 0 ≤ _), (by first | decide | omega : (((7 + 0) + 0) + 0) + 0 ≤ _)⟩)
            dsimp only [Pt.U, Pt.locs, Pt.cells, Pt.slots] at X17 l17 y17 z17 st17 hQ17
            subst l17 y17 z17
            obtain ⟨rfl, N17q, e17⟩ := hQ17
            have N17 := Fr.app N15 N17q
            refine Done.go st17 ?_
            show Done p e s below _ _ _ T17 (mkF m 201 #[.val (.int p0), .val (.int p1), .val (.int p2), .val (.int p3), .val (.int zl), .val (.int v0), .val (.int v1), .val (.int v2), .val (.int v3), .val (.int v4), .val (.int v5), .val (.int v6), .val (.ref b9), .unset] [(.int (own_dig v3))])
            by_cases hc201 : (own_dig v3) = (0 : Int32)
            · skip
              refine Done.go (fun _ k => XS.ifYes X17.here hx rfl (pc0 := 201) (pc' := 216) rfl (hb hby at_201) rfl ((if0 _ _).trans (teq hc201).1) (by decide) (by decide) k) ?_
              show Done p e s below _ _ _ T17 (mkF m 216 #[.val (.int p0), .val (.int p1), .val (.int p2), .val (.int p3), .val (.int zl), .val (.int v0), .val (.int v1), .val (.int v2), .val (.int v3), .val (.int v4), .val (.int v5), .val (.int v6), .val (.ref b9), .unset] [])
              refine Done.go (fun _ k => XS.iconst X17.here hx rfl (hb hby at_216) k) ?_
              have hex : own_rec N (own_sel v0 v1 v2 v3 v4 v5 v6) = (0 : Int32) := by
                have u := own_nt (own_lt32 hz0 (by decide : ¬ (5 : Int32) < 0)) hc169; rw [hzn] at u
                exact if_neg (fun y => own_dig1 hc201 y.2.2.2.2.1)
              show Done p e s below _ _ _ T17 (mkF m 217 #[.val (.int p0), .val (.int p1), .val (.int p2), .val (.int p3), .val (.int zl), .val (.int v0), .val (.int v1), .val (.int v2), .val (.int v3), .val (.int v4), .val (.int v5), .val (.int v6), .val (.ref b9), .unset] [(.int (0 : Int32))])
              refine Done.go (fun _ k => XS.istore X17.here hx rfl (hb hby at_217) rfl (l' := #[.val (.int p0), .val (.int p1), .val (.int p2), .val (.int p3), .val (.int zl), .val (.int v0), .val (.int v1), .val (.int v2), .val (.int v3), .val (.int v4), .val (.int v5), .val (.int v6), .val (.ref b9), .val (.int (0 : Int32))]) rfl k) ?_
              show Done p e s below _ _ _ T17 (mkF m 219 #[.val (.int p0), .val (.int p1), .val (.int p2), .val (.int p3), .val (.int zl), .val (.int v0), .val (.int v1), .val (.int v2), .val (.int v3), .val (.int v4), .val (.int v5), .val (.int v6), .val (.ref b9), .val (.int (0 : Int32))] [])
              refine Done.go (fun _ k => XS.aload X17.here hx rfl (hb hby at_219) rfl rfl k) ?_
              show Done p e s below _ _ _ T17 (mkF m 221 #[.val (.int p0), .val (.int p1), .val (.int p2), .val (.int p3), .val (.int zl), .val (.int v0), .val (.int v1), .val (.int v2), .val (.int v3), .val (.int v4), .val (.int v5), .val (.int v6), .val (.ref b9), .val (.int (0 : Int32))] [(.ref b9)])
              obtain ⟨_, _, ⟨T18, L18, k18, n18⟩, -, X18, ⟨Lc18, hQ18, l18, y18, z18⟩, st18⟩ := Jvm.LawKit.callS X17 hx (y := (⟨"spinecode/marc/Iso2709Reader", "recognises", "([B)Z"⟩ : MethodName)) hown (mvT hZ (hw _ (List.mem_of_getElem? (i := 5) rfl))) (mvT hZ (hw _ (List.mem_of_getElem? (i := 6) rfl))) (mvT hZ (hw _ (List.mem_of_getElem? (i := 7) rfl))) (mvT hZ (hw _ (List.mem_of_getElem? (i := 8) rfl))) (by decide) (backOf (W := 0) (rm2 l Z a0 hw [] b9 N (own_sel v0 v1 v2 v3 v4 v5 v6) zl h1 n0 z1 V1 hz0 hzn) hZ (hw _ (List.mem_of_getElem? (i := 8) rfl)) (hw _ (List.mem_of_getElem? (i := 7) rfl)) (by decide) (by decide)) (g := (mkF m 221 #[.val (.int p0), .val (.int p1), .val (.int p2), .val (.int p3), .val (.int zl), .val (.int v0), .val (.int v1), .val (.int v2), .val (.int v3), .val (.int v4), .val (.int v5), .val (.int v6), .val (.ref b9), .val (.int (0 : Int32))] [(.ref b9)])) rfl (by rw [hml]; rfl) (argsL := [(.ref b9)]) (rest := []) (lenOf own_pd2 rfl) rfl (by show 2 * 0 + _ ≤ _; exact Nat.le_of_eq rfl) (hb hby at_221) (fun _ _ => ⟨rfl, e17, (by first | decide | omega : ((((1 + 0) + 0) + 0) + 0) + 0 ≤ _), (by first | decide | omega : ((((7 + 0) + 0) + 0) + 0) + 0 ≤ _)⟩)
              dsimp only [Pt.U, Pt.locs, Pt.cells, Pt.slots] at X18 l18 y18 z18 st18 hQ18
              subst l18 y18 z18
              obtain ⟨rfl, N18q, e18⟩ := hQ18
              have N18 := Fr.app N17 N18q
              refine Done.go st18 ?_
              show Done p e s below _ _ _ T18 (mkF m 224 #[.val (.int p0), .val (.int p1), .val (.int p2), .val (.int p3), .val (.int zl), .val (.int v0), .val (.int v1), .val (.int v2), .val (.int v3), .val (.int v4), .val (.int v5), .val (.int v6), .val (.ref b9), .val (.int (0 : Int32))] [(.int (own_rec N (own_sel v0 v1 v2 v3 v4 v5 v6)))])
              refine Done.go (fun _ k => XS.iload X18.here hx rfl (hb hby at_224) rfl k) ?_
              show Done p e s below _ _ _ T18 (mkF m 226 #[.val (.int p0), .val (.int p1), .val (.int p2), .val (.int p3), .val (.int zl), .val (.int v0), .val (.int v1), .val (.int v2), .val (.int v3), .val (.int v4), .val (.int v5), .val (.int v6), .val (.ref b9), .val (.int (0 : Int32))] [(.int (0 : Int32)), (.int (own_rec N (own_sel v0 v1 v2 v3 v4 v5 v6)))])
              refine Done.go (fun _ k => XS.icmpNo X18.here hx rfl (hb hby at_226) rfl (teq hex).2 k) ?_
              show Done p e s below _ _ _ T18 (mkF m 229 #[.val (.int p0), .val (.int p1), .val (.int p2), .val (.int p3), .val (.int zl), .val (.int v0), .val (.int v1), .val (.int v2), .val (.int v3), .val (.int v4), .val (.int v5), .val (.int v6), .val (.ref b9), .val (.int (0 : Int32))] [])
              refine Done.go (fun _ k => XS.iconst X18.here hx rfl (hb hby at_229) k) ?_
              show Done p e s below _ _ _ T18 (mkF m 230 #[.val (.int p0), .val (.int p1), .val (.int p2), .val (.int p3), .val (.int zl), .val (.int v0), .val (.int v1), .val (.int v2), .val (.int v3), .val (.int v4), .val (.int v5), .val (.int v6), .val (.ref b9), .val (.int (0 : Int32))] [(.int (1 : Int32))])
              refine Done.go (fun _ k => XS.goto X18.here hx rfl (pc0 := 230) (pc' := 234) rfl (hb hby at_230) (by decide) (by decide) k) ?_
              show Done p e s below _ _ _ T18 (mkF m 234 #[.val (.int p0), .val (.int p1), .val (.int p2), .val (.int p3), .val (.int zl), .val (.int v0), .val (.int v1), .val (.int v2), .val (.int v3), .val (.int v4), .val (.int v5), .val (.int v6), .val (.ref b9), .val (.int (0 : Int32))] [(.int (1 : Int32))])
              refine Done.retN X18 hx hlk (t := .boolean) hrt (by simp) (z' := (1 : Int32)) rfl (hb hby at_234) ?_ (by first | decide | omega) (by first | decide | omega)
              rw [e18]
              exact ⟨rfl, N18⟩
            · skip
              refine Done.go (fun _ k => XS.ifNo X17.here hx rfl (hb hby at_201) rfl ((if0 _ _).trans (feq hc201).1) k) ?_
              show Done p e s below _ _ _ T17 (mkF m 204 #[.val (.int p0), .val (.int p1), .val (.int p2), .val (.int p3), .val (.int zl), .val (.int v0), .val (.int v1), .val (.int v2), .val (.int v3), .val (.int v4), .val (.int v5), .val (.int v6), .val (.ref b9), .unset] [])
              refine Done.go (fun _ k => XS.iload X17.here hx rfl (hb hby at_204) rfl k) ?_
              show Done p e s below _ _ _ T17 (mkF m 206 #[.val (.int p0), .val (.int p1), .val (.int p2), .val (.int p3), .val (.int zl), .val (.int v0), .val (.int v1), .val (.int v2), .val (.int v3), .val (.int v4), .val (.int v5), .val (.int v6), .val (.ref b9), .unset] [(.int v4)])
              obtain ⟨_, _, ⟨T19, L19, k19, n19⟩, -, X19, ⟨Lc19, hQ19, l19, y19, z19⟩, st19⟩ := Jvm.LawKit.callS X17 hx (y := (⟨"spinecode/marc/Iso2709ReaderRecognisesPinLaw", "isDigit", "(B)Z"⟩ : MethodName)) hown (mvT hZ (hw _ (List.mem_of_getElem? (i := 9) rfl))) (mvT hZ (hw _ (List.mem_of_getElem? (i := 10) rfl))) (mvT hZ (hw _ (List.mem_of_getElem? (i := 2) rfl))) (mvT hZ (hw _ (List.mem_of_getElem? (i := 11) rfl))) (by decide) (backOf (W := 0) (rm3 l Z a0 hw [] v4 h1 n0 z1) hZ (hw _ (List.mem_of_getElem? (i := 11) rfl)) (hw _ (List.mem_of_getElem? (i := 2) rfl)) (by decide) (by decide)) (g := (mkF m 206 #[.val (.int p0), .val (.int p1), .val (.int p2), .val (.int p3), .val (.int zl), .val (.int v0), .val (.int v1), .val (.int v2), .val (.int v3), .val (.int v4), .val (.int v5), .val (.int v6), .val (.ref b9), .unset] [(.int v4)])) rfl (by rw [hml]; rfl) (argsL := [(.int v4)]) (rest := []) (lenOf own_pd3 rfl) rfl (by show 2 * 0 + _ ≤ _; exact Nat.le_of_eq rfl) (hb hby at_206) (fun _ _ => ⟨rfl, e17, (by first | decide | omega : ((((1 + 0) + 0) + 0) + 0) + 0 ≤ _), (by first | decide | omega : ((((7 + 0) + 0) + 0) + 0) + 0 ≤ _)⟩)
              dsimp only [Pt.U, Pt.locs, Pt.cells, Pt.slots] at X19 l19 y19 z19 st19 hQ19
              subst l19 y19 z19
              obtain ⟨rfl, N19q, e19⟩ := hQ19
              have N19 := Fr.app N17 N19q
              refine Done.go st19 ?_
              show Done p e s below _ _ _ T19 (mkF m 209 #[.val (.int p0), .val (.int p1), .val (.int p2), .val (.int p3), .val (.int zl), .val (.int v0), .val (.int v1), .val (.int v2), .val (.int v3), .val (.int v4), .val (.int v5), .val (.int v6), .val (.ref b9), .unset] [(.int (own_dig v4))])
              by_cases hc209 : (own_dig v4) = (0 : Int32)
              · skip
                refine Done.go (fun _ k => XS.ifYes X19.here hx rfl (pc0 := 209) (pc' := 216) rfl (hb hby at_209) rfl ((if0 _ _).trans (teq hc209).1) (by decide) (by decide) k) ?_
                show Done p e s below _ _ _ T19 (mkF m 216 #[.val (.int p0), .val (.int p1), .val (.int p2), .val (.int p3), .val (.int zl), .val (.int v0), .val (.int v1), .val (.int v2), .val (.int v3), .val (.int v4), .val (.int v5), .val (.int v6), .val (.ref b9), .unset] [])
                refine Done.go (fun _ k => XS.iconst X19.here hx rfl (hb hby at_216) k) ?_
                have hex : own_rec N (own_sel v0 v1 v2 v3 v4 v5 v6) = (0 : Int32) := by
                  have u := own_nt (own_lt32 hz0 (by decide : ¬ (5 : Int32) < 0)) hc169; rw [hzn] at u
                  exact if_neg (fun y => own_dig1 hc209 y.2.2.2.2.2)
                show Done p e s below _ _ _ T19 (mkF m 217 #[.val (.int p0), .val (.int p1), .val (.int p2), .val (.int p3), .val (.int zl), .val (.int v0), .val (.int v1), .val (.int v2), .val (.int v3), .val (.int v4), .val (.int v5), .val (.int v6), .val (.ref b9), .unset] [(.int (0 : Int32))])
                refine Done.go (fun _ k => XS.istore X19.here hx rfl (hb hby at_217) rfl (l' := #[.val (.int p0), .val (.int p1), .val (.int p2), .val (.int p3), .val (.int zl), .val (.int v0), .val (.int v1), .val (.int v2), .val (.int v3), .val (.int v4), .val (.int v5), .val (.int v6), .val (.ref b9), .val (.int (0 : Int32))]) rfl k) ?_
                show Done p e s below _ _ _ T19 (mkF m 219 #[.val (.int p0), .val (.int p1), .val (.int p2), .val (.int p3), .val (.int zl), .val (.int v0), .val (.int v1), .val (.int v2), .val (.int v3), .val (.int v4), .val (.int v5), .val (.int v6), .val (.ref b9), .val (.int (0 : Int32))] [])
                refine Done.go (fun _ k => XS.aload X19.here hx rfl (hb hby at_219) rfl rfl k) ?_
                show Done p e s below _ _ _ T19 (mkF m 221 #[.val (.int p0), .val (.int p1), .val (.int p2), .val (.int p3), .val (.int zl), .val (.int v0), .val (.int v1), .val (.int v2), .val (.int v3), .val (.int v4), .val (.int v5), .val (.int v6), .val (.ref b9), .val (.int (0 : Int32))] [(.ref b9)])
                obtain ⟨_, _, ⟨T20, L20, k20, n20⟩, -, X20, ⟨Lc20, hQ20, l20, y20, z20⟩, st20⟩ := Jvm.LawKit.callS X19 hx (y := (⟨"spinecode/marc/Iso2709Reader", "recognises", "([B)Z"⟩ : MethodName)) hown (mvT hZ (hw _ (List.mem_of_getElem? (i := 5) rfl))) (mvT hZ (hw _ (List.mem_of_getElem? (i := 6) rfl))) (mvT hZ (hw _ (List.mem_of_getElem? (i := 7) rfl))) (mvT hZ (hw _ (List.mem_of_getElem? (i := 8) rfl))) (by decide) (backOf (W := 0) (rm2 l Z a0 hw [] b9 N (own_sel v0 v1 v2 v3 v4 v5 v6) zl h1 n0 z1 V1 hz0 hzn) hZ (hw _ (List.mem_of_getElem? (i := 8) rfl)) (hw _ (List.mem_of_getElem? (i := 7) rfl)) (by decide) (by decide)) (g := (mkF m 221 #[.val (.int p0), .val (.int p1), .val (.int p2), .val (.int p3), .val (.int zl), .val (.int v0), .val (.int v1), .val (.int v2), .val (.int v3), .val (.int v4), .val (.int v5), .val (.int v6), .val (.ref b9), .val (.int (0 : Int32))] [(.ref b9)])) rfl (by rw [hml]; rfl) (argsL := [(.ref b9)]) (rest := []) (lenOf own_pd2 rfl) rfl (by show 2 * 0 + _ ≤ _; exact Nat.le_of_eq rfl) (hb hby at_221) (fun _ _ => ⟨rfl, e19, (by first | decide | omega : (((((1 + 0) + 0) + 0) + 0) + 0) + 0 ≤ _), (by first | decide | omega : (((((7 + 0) + 0) + 0) + 0) + 0) + 0 ≤ _)⟩)
                dsimp only [Pt.U, Pt.locs, Pt.cells, Pt.slots] at X20 l20 y20 z20 st20 hQ20
                subst l20 y20 z20
                obtain ⟨rfl, N20q, e20⟩ := hQ20
                have N20 := Fr.app N19 N20q
                refine Done.go st20 ?_
                show Done p e s below _ _ _ T20 (mkF m 224 #[.val (.int p0), .val (.int p1), .val (.int p2), .val (.int p3), .val (.int zl), .val (.int v0), .val (.int v1), .val (.int v2), .val (.int v3), .val (.int v4), .val (.int v5), .val (.int v6), .val (.ref b9), .val (.int (0 : Int32))] [(.int (own_rec N (own_sel v0 v1 v2 v3 v4 v5 v6)))])
                refine Done.go (fun _ k => XS.iload X20.here hx rfl (hb hby at_224) rfl k) ?_
                show Done p e s below _ _ _ T20 (mkF m 226 #[.val (.int p0), .val (.int p1), .val (.int p2), .val (.int p3), .val (.int zl), .val (.int v0), .val (.int v1), .val (.int v2), .val (.int v3), .val (.int v4), .val (.int v5), .val (.int v6), .val (.ref b9), .val (.int (0 : Int32))] [(.int (0 : Int32)), (.int (own_rec N (own_sel v0 v1 v2 v3 v4 v5 v6)))])
                refine Done.go (fun _ k => XS.icmpNo X20.here hx rfl (hb hby at_226) rfl (teq hex).2 k) ?_
                show Done p e s below _ _ _ T20 (mkF m 229 #[.val (.int p0), .val (.int p1), .val (.int p2), .val (.int p3), .val (.int zl), .val (.int v0), .val (.int v1), .val (.int v2), .val (.int v3), .val (.int v4), .val (.int v5), .val (.int v6), .val (.ref b9), .val (.int (0 : Int32))] [])
                refine Done.go (fun _ k => XS.iconst X20.here hx rfl (hb hby at_229) k) ?_
                show Done p e s below _ _ _ T20 (mkF m 230 #[.val (.int p0), .val (.int p1), .val (.int p2), .val (.int p3), .val (.int zl), .val (.int v0), .val (.int v1), .val (.int v2), .val (.int v3), .val (.int v4), .val (.int v5), .val (.int v6), .val (.ref b9), .val (.int (0 : Int32))] [(.int (1 : Int32))])
                refine Done.go (fun _ k => XS.goto X20.here hx rfl (pc0 := 230) (pc' := 234) rfl (hb hby at_230) (by decide) (by decide) k) ?_
                show Done p e s below _ _ _ T20 (mkF m 234 #[.val (.int p0), .val (.int p1), .val (.int p2), .val (.int p3), .val (.int zl), .val (.int v0), .val (.int v1), .val (.int v2), .val (.int v3), .val (.int v4), .val (.int v5), .val (.int v6), .val (.ref b9), .val (.int (0 : Int32))] [(.int (1 : Int32))])
                refine Done.retN X20 hx hlk (t := .boolean) hrt (by simp) (z' := (1 : Int32)) rfl (hb hby at_234) ?_ (by first | decide | omega) (by first | decide | omega)
                rw [e20]
                exact ⟨rfl, N20⟩
              · skip
                refine Done.go (fun _ k => XS.ifNo X19.here hx rfl (hb hby at_209) rfl ((if0 _ _).trans (feq hc209).1) k) ?_
                show Done p e s below _ _ _ T19 (mkF m 212 #[.val (.int p0), .val (.int p1), .val (.int p2), .val (.int p3), .val (.int zl), .val (.int v0), .val (.int v1), .val (.int v2), .val (.int v3), .val (.int v4), .val (.int v5), .val (.int v6), .val (.ref b9), .unset] [])
                refine Done.go (fun _ k => XS.iconst X19.here hx rfl (hb hby at_212) k) ?_
                show Done p e s below _ _ _ T19 (mkF m 213 #[.val (.int p0), .val (.int p1), .val (.int p2), .val (.int p3), .val (.int zl), .val (.int v0), .val (.int v1), .val (.int v2), .val (.int v3), .val (.int v4), .val (.int v5), .val (.int v6), .val (.ref b9), .unset] [(.int (1 : Int32))])
                refine Done.go (fun _ k => XS.goto X19.here hx rfl (pc0 := 213) (pc' := 217) rfl (hb hby at_213) (by decide) (by decide) k) ?_
                have hex : own_rec N (own_sel v0 v1 v2 v3 v4 v5 v6) = (1 : Int32) := by
                  have u := own_nt (own_lt32 hz0 (by decide : ¬ (5 : Int32) < 0)) hc169; rw [hzn] at u
                  exact if_pos ⟨Nat.le_of_not_lt u, own_dig0 hc177, own_dig0 hc185, own_dig0 hc193, own_dig0 hc201, own_dig0 hc209⟩
                show Done p e s below _ _ _ T19 (mkF m 217 #[.val (.int p0), .val (.int p1), .val (.int p2), .val (.int p3), .val (.int zl), .val (.int v0), .val (.int v1), .val (.int v2), .val (.int v3), .val (.int v4), .val (.int v5), .val (.int v6), .val (.ref b9), .unset] [(.int (1 : Int32))])
                refine Done.go (fun _ k => XS.istore X19.here hx rfl (hb hby at_217) rfl (l' := #[.val (.int p0), .val (.int p1), .val (.int p2), .val (.int p3), .val (.int zl), .val (.int v0), .val (.int v1), .val (.int v2), .val (.int v3), .val (.int v4), .val (.int v5), .val (.int v6), .val (.ref b9), .val (.int (1 : Int32))]) rfl k) ?_
                show Done p e s below _ _ _ T19 (mkF m 219 #[.val (.int p0), .val (.int p1), .val (.int p2), .val (.int p3), .val (.int zl), .val (.int v0), .val (.int v1), .val (.int v2), .val (.int v3), .val (.int v4), .val (.int v5), .val (.int v6), .val (.ref b9), .val (.int (1 : Int32))] [])
                refine Done.go (fun _ k => XS.aload X19.here hx rfl (hb hby at_219) rfl rfl k) ?_
                show Done p e s below _ _ _ T19 (mkF m 221 #[.val (.int p0), .val (.int p1), .val (.int p2), .val (.int p3), .val (.int zl), .val (.int v0), .val (.int v1), .val (.int v2), .val (.int v3), .val (.int v4), .val (.int v5), .val (.int v6), .val (.ref b9), .val (.int (1 : Int32))] [(.ref b9)])
                obtain ⟨_, _, ⟨T21, L21, k21, n21⟩, -, X21, ⟨Lc21, hQ21, l21, y21, z21⟩, st21⟩ := Jvm.LawKit.callS X19 hx (y := (⟨"spinecode/marc/Iso2709Reader", "recognises", "([B)Z"⟩ : MethodName)) hown (mvT hZ (hw _ (List.mem_of_getElem? (i := 5) rfl))) (mvT hZ (hw _ (List.mem_of_getElem? (i := 6) rfl))) (mvT hZ (hw _ (List.mem_of_getElem? (i := 7) rfl))) (mvT hZ (hw _ (List.mem_of_getElem? (i := 8) rfl))) (by decide) (backOf (W := 0) (rm2 l Z a0 hw [] b9 N (own_sel v0 v1 v2 v3 v4 v5 v6) zl h1 n0 z1 V1 hz0 hzn) hZ (hw _ (List.mem_of_getElem? (i := 8) rfl)) (hw _ (List.mem_of_getElem? (i := 7) rfl)) (by decide) (by decide)) (g := (mkF m 221 #[.val (.int p0), .val (.int p1), .val (.int p2), .val (.int p3), .val (.int zl), .val (.int v0), .val (.int v1), .val (.int v2), .val (.int v3), .val (.int v4), .val (.int v5), .val (.int v6), .val (.ref b9), .val (.int (1 : Int32))] [(.ref b9)])) rfl (by rw [hml]; rfl) (argsL := [(.ref b9)]) (rest := []) (lenOf own_pd2 rfl) rfl (by show 2 * 0 + _ ≤ _; exact Nat.le_of_eq rfl) (hb hby at_221) (fun _ _ => ⟨rfl, e19, (by first | decide | omega : (((((1 + 0) + 0) + 0) + 0) + 0) + 0 ≤ _), (by first | decide | omega : (((((7 + 0) + 0) + 0) + 0) + 0) + 0 ≤ _)⟩)
                dsimp only [Pt.U, Pt.locs, Pt.cells, Pt.slots] at X21 l21 y21 z21 st21 hQ21
                subst l21 y21 z21
                obtain ⟨rfl, N21q, e21⟩ := hQ21
                have N21 := Fr.app N19 N21q
                refine Done.go st21 ?_
                show Done p e s below _ _ _ T21 (mkF m 224 #[.val (.int p0), .val (.int p1), .val (.int p2), .val (.int p3), .val (.int zl), .val (.int v0), .val (.int v1), .val (.int v2), .val (.int v3), .val (.int v4), .val (.int v5), .val (.int v6), .val (.ref b9), .val (.int (1 : Int32))] [(.int (own_rec N (own_sel v0 v1 v2 v3 v4 v5 v6)))])
                refine Done.go (fun _ k => XS.iload X21.here hx rfl (hb hby at_224) rfl k) ?_
                show Done p e s below _ _ _ T21 (mkF m 226 #[.val (.int p0), .val (.int p1), .val (.int p2), .val (.int p3), .val (.int zl), .val (.int v0), .val (.int v1), .val (.int v2), .val (.int v3), .val (.int v4), .val (.int v5), .val (.int v6), .val (.ref b9), .val (.int (1 : Int32))] [(.int (1 : Int32)), (.int (own_rec N (own_sel v0 v1 v2 v3 v4 v5 v6)))])
                refine Done.go (fun _ k => XS.icmpNo X21.here hx rfl (hb hby at_226) rfl (teq hex).2 k) ?_
                show Done p e s below _ _ _ T21 (mkF m 229 #[.val (.int p0), .val (.int p1), .val (.int p2), .val (.int p3), .val (.int zl), .val (.int v0), .val (.int v1), .val (.int v2), .val (.int v3), .val (.int v4), .val (.int v5), .val (.int v6), .val (.ref b9), .val (.int (1 : Int32))] [])
                refine Done.go (fun _ k => XS.iconst X21.here hx rfl (hb hby at_229) k) ?_
                show Done p e s below _ _ _ T21 (mkF m 230 #[.val (.int p0), .val (.int p1), .val (.int p2), .val (.int p3), .val (.int zl), .val (.int v0), .val (.int v1), .val (.int v2), .val (.int v3), .val (.int v4), .val (.int v5), .val (.int v6), .val (.ref b9), .val (.int (1 : Int32))] [(.int (1 : Int32))])
                refine Done.go (fun _ k => XS.goto X21.here hx rfl (pc0 := 230) (pc' := 234) rfl (hb hby at_230) (by decide) (by decide) k) ?_
                show Done p e s below _ _ _ T21 (mkF m 234 #[.val (.int p0), .val (.int p1), .val (.int p2), .val (.int p3), .val (.int zl), .val (.int v0), .val (.int v1), .val (.int v2), .val (.int v3), .val (.int v4), .val (.int v5), .val (.int v6), .val (.ref b9), .val (.int (1 : Int32))] [(.int (1 : Int32))])
                refine Done.retN X21 hx hlk (t := .boolean) hrt (by simp) (z' := (1 : Int32)) rfl (hb hby at_234) ?_ (by first | decide | omega) (by first | decide | omega)
                rw [e21]
                exact ⟨rfl, N21⟩
  have J152 : ∀ (T1 : State) (h1 : Heap) (L1 : List Loc) (f1 : Nat → Int32), Stand p l e room_1 s m #[(.int p0), (.int p1), (.int p2), (.int p3)] below meth c T1 L1 1 7 → T1.heap = h1 → n0 ≤ h1.size → Fr n0 L1 → Ari Z h1 b9 .byte N f1 → (∀ i, i < 6 → i < N → f1 i = (own_sel v0 v1 v2 v3 v4 v5 v6) i) → Done p e s below 16 128 (Q0 n0) T1 (mkF m 152 #[.val (.int p0), .val (.int p1), .val (.int p2), .val (.int p3), .val (.int zl), .val (.int v0), .val (.int v1), .val (.int v2), .val (.int v3), .val (.int v4), .val (.int v5), .val (.int v6), .val (.ref b9), .unset] []) := by
    intro T1 h1 L1 f1 X1 e1 z1 N1 V1 H1
    show Done p e s below _ _ _ T1 (mkF m 152 #[.val (.int p0), .val (.int p1), .val (.int p2), .val (.int p3), .val (.int zl), .val (.int v0), .val (.int v1), .val (.int v2), .val (.int v3), .val (.int v4), .val (.int v5), .val (.int v6), .val (.ref b9), .unset] [])
    refine Done.go (fun _ k => XS.iload X1.here hx rfl (hb hby at_152) rfl k) ?_
    show Done p e s below _ _ _ T1 (mkF m 154 #[.val (.int p0), .val (.int p1), .val (.int p2), .val (.int p3), .val (.int zl), .val (.int v0), .val (.int v1), .val (.int v2), .val (.int v3), .val (.int v4), .val (.int v5), .val (.int v6), .val (.ref b9), .unset] [(.int zl)])
    refine Done.go (fun _ k => XS.bipush X1.here hx rfl (hb hby at_154) k) ?_
    show Done p e s below _ _ _ T1 (mkF m 156 #[.val (.int p0), .val (.int p1), .val (.int p2), .val (.int p3), .val (.int zl), .val (.int v0), .val (.int v1), .val (.int v2), .val (.int v3), .val (.int v4), .val (.int v5), .val (.int v6), .val (.ref b9), .unset] [(.int (6 : Int32)), (.int zl)])
    by_cases hc156 : (6 : Int32) < zl
    · skip
      refine Done.go (fun _ k => XS.icmpNo X1.here hx rfl (hb hby at_156) rfl (tlt hc156).2.2.2 k) ?_
      show Done p e s below _ _ _ T1 (mkF m 159 #[.val (.int p0), .val (.int p1), .val (.int p2), .val (.int p3), .val (.int zl), .val (.int v0), .val (.int v1), .val (.int v2), .val (.int v3), .val (.int v4), .val (.int v5), .val (.int v6), .val (.ref b9), .unset] [])
      refine Done.go (fun _ k => XS.aload X1.here hx rfl (hb hby at_159) rfl rfl k) ?_
      show Done p e s below _ _ _ T1 (mkF m 161 #[.val (.int p0), .val (.int p1), .val (.int p2), .val (.int p3), .val (.int zl), .val (.int v0), .val (.int v1), .val (.int v2), .val (.int v3), .val (.int v4), .val (.int v5), .val (.int v6), .val (.ref b9), .unset] [(.ref b9)])
      refine Done.go (fun _ k => XS.bipush X1.here hx rfl (hb hby at_161) k) ?_
      show Done p e s below _ _ _ T1 (mkF m 163 #[.val (.int p0), .val (.int p1), .val (.int p2), .val (.int p3), .val (.int zl), .val (.int v0), .val (.int v1), .val (.int v2), .val (.int v3), .val (.int v4), .val (.int v5), .val (.int v6), .val (.ref b9), .unset] [(.int (6 : Int32)), (.ref b9)])
      refine Done.go (fun _ k => XS.iload X1.here hx rfl (hb hby at_163) rfl k) ?_
      show Done p e s below _ _ _ T1 (mkF m 165 #[.val (.int p0), .val (.int p1), .val (.int p2), .val (.int p3), .val (.int zl), .val (.int v0), .val (.int v1), .val (.int v2), .val (.int v3), .val (.int v4), .val (.int v5), .val (.int v6), .val (.ref b9), .unset] [(.int v6), (.int (6 : Int32)), (.ref b9)])
      obtain ⟨T22, h22, X22, e22, W22, V22, st22⟩ := own_stB X1 hx hZ e1 V1 (j := (6 : Int32)) 6 (by decide) rfl (by have u := (own_lt32 (by decide : ¬ (6 : Int32) < 0) hz0).mp hc156; rw [hzn] at u; exact u) (g := (mkF m 165 #[.val (.int p0), .val (.int p1), .val (.int p2), .val (.int p3), .val (.int zl), .val (.int v0), .val (.int v1), .val (.int v2), .val (.int v3), .val (.int v4), .val (.int v5), .val (.int v6), .val (.ref b9), .unset] [(.int v6), (.int (6 : Int32)), (.ref b9)])) rfl rfl (hb hby at_165)
      have N22 := Fr.snoc X22 N1 gz_b9
      have Z22 : n0 ≤ h22.size := by rw [W22.size]; exact z1
      refine Done.go st22 ?_
      show Done p e s below _ _ _ T22 (mkF m 166 #[.val (.int p0), .val (.int p1), .val (.int p2), .val (.int p3), .val (.int zl), .val (.int v0), .val (.int v1), .val (.int v2), .val (.int v3), .val (.int v4), .val (.int v5), .val (.int v6), .val (.ref b9), .unset] [])
      refine J166 _ _ _ _ X22 e22 Z22 N22 V22 (fun i hi hn => ?_)
      by_cases q : i = 6
      · subst q; simp only [if_true]; exact hv6
      · simp only [if_neg q]; exact H1 i (by omega) hn
    · skip
      refine Done.go (fun _ k => XS.icmpYes X1.here hx rfl (pc0 := 156) (pc' := 166) rfl (hb hby at_156) rfl (flt hc156).2.2.2 (by decide) (by decide) k) ?_
      show Done p e s below _ _ _ T1 (mkF m 166 #[.val (.int p0), .val (.int p1), .val (.int p2), .val (.int p3), .val (.int zl), .val (.int v0), .val (.int v1), .val (.int v2), .val (.int v3), .val (.int v4), .val (.int v5), .val (.int v6), .val (.ref b9), .unset] [])
      have u := own_nt (own_lt32 (by decide : ¬ (6 : Int32) < 0) hz0) hc156; rw [hzn] at u
      exact J166 _ _ _ _ X1 e1 z1 N1 V1 (fun i hi hn => H1 i (by have : ((6 : Int32)).toNatClampNeg = 6 := rfl; omega) hn)
  have J140 : ∀ (T1 : State) (h1 : Heap) (L1 : List Loc) (f1 : Nat → Int32), Stand p l e room_1 s m #[(.int p0), (.int p1), (.int p2), (.int p3)] below meth c T1 L1 1 7 → T1.heap = h1 → n0 ≤ h1.size → Fr n0 L1 → Ari Z h1 b9 .byte N f1 → (∀ i, i < 5 → i < N → f1 i = (own_sel v0 v1 v2 v3 v4 v5 v6) i) → Done p e s below 16 128 (Q0 n0) T1 (mkF m 140 #[.val (.int p0), .val (.int p1), .val (.int p2), .val (.int p3), .val (.int zl), .val (.int v0), .val (.int v1), .val (.int v2), .val (.int v3), .val (.int v4), .val (.int v5), .val (.int v6), .val (.ref b9), .unset] []) := by
    intro T1 h1 L1 f1 X1 e1 z1 N1 V1 H1
    show Done p e s below _ _ _ T1 (mkF m 140 #[.val (.int p0), .val (.int p1), .val (.int p2), .val (.int p3), .val (.int zl), .val (.int v0), .val (.int v1), .val (.int v2), .val (.int v3), .val (.int v4), .val (.int v5), .val (.int v6), .val (.ref b9), .unset] [])
    refine Done.go (fun _ k => XS.iload X1.here hx rfl (hb hby at_140) rfl k) ?_
    show Done p e s below _ _ _ T1 (mkF m 142 #[.val (.int p0), .val (.int p1), .val (.int p2), .val (.int p3), .val (.int zl), .val (.int v0), .val (.int v1), .val (.int v2), .val (.int v3), .val (.int v4), .val (.int v5), .val (.int v6), .val (.ref b9), .unset] [(.int zl)])
    refine Done.go (fun _ k => XS.iconst X1.here hx rfl (hb hby at_142) k) ?_
    show Done p e s below _ _ _ T1 (mkF m 143 #[.val (.int p0), .val (.int p1), .val (.int p2), .val (.int p3), .val (.int zl), .val (.int v0), .val (.int v1), .val (.int v2), .val (.int v3), .val (.int v4), .val (.int v5), .val (.int v6), .val (.ref b9), .unset] [(.int (5 : Int32)), (.int zl)])
    by_cases hc143 : (5 : Int32) < zl
    · skip
      refine Done.go (fun _ k => XS.icmpNo X1.here hx rfl (hb hby at_143) rfl (tlt hc143).2.2.2 k) ?_
      show Done p e s below _ _ _ T1 (mkF m 146 #[.val (.int p0), .val (.int p1), .val (.int p2), .val (.int p3), .val (.int zl), .val (.int v0), .val (.int v1), .val (.int v2), .val (.int v3), .val (.int v4), .val (.int v5), .val (.int v6), .val (.ref b9), .unset] [])
      refine Done.go (fun _ k => XS.aload X1.here hx rfl (hb hby at_146) rfl rfl k) ?_
      show Done p e s below _ _ _ T1 (mkF m 148 #[.val (.int p0), .val (.int p1), .val (.int p2), .val (.int p3), .val (.int zl), .val (.int v0), .val (.int v1), .val (.int v2), .val (.int v3), .val (.int v4), .val (.int v5), .val (.int v6), .val (.ref b9), .unset] [(.ref b9)])
      refine Done.go (fun _ k => XS.iconst X1.here hx rfl (hb hby at_148) k) ?_
      show Done p e s below _ _ _ T1 (mkF m 149 #[.val (.int p0), .val (.int p1), .val (.int p2), .val (.int p3), .val (.int zl), .val (.int v0), .val (.int v1), .val (.int v2), .val (.int v3), .val (.int v4), .val (.int v5), .val (.int v6), .val (.ref b9), .unset] [(.int (5 : Int32)), (.ref b9)])
      refine Done.go (fun _ k => XS.iload X1.here hx rfl (hb hby at_149) rfl k) ?_
      show Done p e s below _ _ _ T1 (mkF m 151 #[.val (.int p0), .val (.int p1), .val (.int p2), .val (.int p3), .val (.int zl), .val (.int v0), .val (.int v1), .val (.int v2), .val (.int v3), .val (.int v4), .val (.int v5), .val (.int v6), .val (.ref b9), .unset] [(.int v5), (.int (5 : Int32)), (.ref b9)])
      obtain ⟨T23, h23, X23, e23, W23, V23, st23⟩ := own_stB X1 hx hZ e1 V1 (j := (5 : Int32)) 5 (by decide) rfl (by have u := (own_lt32 (by decide : ¬ (5 : Int32) < 0) hz0).mp hc143; rw [hzn] at u; exact u) (g := (mkF m 151 #[.val (.int p0), .val (.int p1), .val (.int p2), .val (.int p3), .val (.int zl), .val (.int v0), .val (.int v1), .val (.int v2), .val (.int v3), .val (.int v4), .val (.int v5), .val (.int v6), .val (.ref b9), .unset] [(.int v5), (.int (5 : Int32)), (.ref b9)])) rfl rfl (hb hby at_151)
      have N23 := Fr.snoc X23 N1 gz_b9
      have Z23 : n0 ≤ h23.size := by rw [W23.size]; exact z1
      refine Done.go st23 ?_
      show Done p e s below _ _ _ T23 (mkF m 152 #[.val (.int p0), .val (.int p1), .val (.int p2), .val (.int p3), .val (.int zl), .val (.int v0), .val (.int v1), .val (.int v2), .val (.int v3), .val (.int v4), .val (.int v5), .val (.int v6), .val (.ref b9), .unset] [])
      refine J152 _ _ _ _ X23 e23 Z23 N23 V23 (fun i hi hn => ?_)
      by_cases q : i = 5
      · subst q; simp only [if_true]; exact hv5
      · simp only [if_neg q]; exact H1 i (by omega) hn
    · skip
      refine Done.go (fun _ k => XS.icmpYes X1.here hx rfl (pc0 := 143) (pc' := 152) rfl (hb hby at_143) rfl (flt hc143).2.2.2 (by decide) (by decide) k) ?_
      show Done p e s below _ _ _ T1 (mkF m 152 #[.val (.int p0), .val (.int p1), .val (.int p2), .val (.int p3), .val (.int zl), .val (.int v0), .val (.int v1), .val (.int v2), .val (.int v3), .val (.int v4), .val (.int v5), .val (.int v6), .val (.ref b9), .unset] [])
      have u := own_nt (own_lt32 (by decide : ¬ (5 : Int32) < 0) hz0) hc143; rw [hzn] at u
      exact J152 _ _ _ _ X1 e1 z1 N1 V1 (fun i hi hn => H1 i (by have : ((5 : Int32)).toNatClampNeg = 5 := rfl; omega) hn)
  have J128 : ∀ (T1 : State) (h1 : Heap) (L1 : List Loc) (f1 : Nat → Int32), Stand p l e room_1 s m #[(.int p0), (.int p1), (.int p2), (.int p3)] below meth c T1 L1 1 7 → T1.heap = h1 → n0 ≤ h1.size → Fr n0 L1 → Ari Z h1 b9 .byte N f1 → (∀ i, i < 4 → i < N → f1 i = (own_sel v0 v1 v2 v3 v4 v5 v6) i) → Done p e s below 16 128 (Q0 n0) T1 (mkF m 128 #[.val (.int p0), .val (.int p1), .val (.int p2), .val (.int p3), .val (.int zl), .val (.int v0), .val (.int v1), .val (.int v2), .val (.int v3), .val (.int v4), .val (.int v5), .val (.int v6), .val (.ref b9), .unset] []) := by
    intro T1 h1 L1 f1 X1 e1 z1 N1 V1 H1
    show Done p e s below _ _ _ T1 (mkF m 128 #[.val (.int p0), .val (.int p1), .val (.int p2), .val (.int p3), .val (.int zl), .val (.int v0), .val (.int v1), .val (.int v2), .val (.int v3), .val (.int v4), .val (.int v5), .val (.int v6), .val (.ref b9), .unset] [])
    refine Done.go (fun _ k => XS.iload X1.here hx rfl (hb hby at_128) rfl k) ?_
    show Done p e s below _ _ _ T1 (mkF m 130 #[.val (.int p0), .val (.int p1), .val (.int p2), .val (.int p3), .val (.int zl), .val (.int v0), .val (.int v1), .val (.int v2), .val (.int v3), .val (.int v4), .val (.int v5), .val (.int v6), .val (.ref b9), .unset] [(.int zl)])
    refine Done.go (fun _ k => XS.iconst X1.here hx rfl (hb hby at_130) k) ?_
    show Done p e s below _ _ _ T1 (mkF m 131 #[.val (.int p0), .val (.int p1), .val (.int p2), .val (.int p3), .val (.int zl), .val (.int v0), .val (.int v1), .val (.int v2), .val (.int v3), .val (.int v4), .val (.int v5), .val (.int v6), .val (.ref b9), .unset] [(.int (4 : Int32)), (.int zl)])
    by_cases hc131 : (4 : Int32) < zl
    · skip
      refine Done.go (fun _ k => XS.icmpNo X1.here hx rfl (hb hby at_131) rfl (tlt hc131).2.2.2 k) ?_
      show Done p e s below _ _ _ T1 (mkF m 134 #[.val (.int p0), .val (.int p1), .val (.int p2), .val (.int p3), .val (.int zl), .val (.int v0), .val (.int v1), .val (.int v2), .val (.int v3), .val (.int v4), .val (.int v5), .val (.int v6), .val (.ref b9), .unset] [])
      refine Done.go (fun _ k => XS.aload X1.here hx rfl (hb hby at_134) rfl rfl k) ?_
      show Done p e s below _ _ _ T1 (mkF m 136 #[.val (.int p0), .val (.int p1), .val (.int p2), .val (.int p3), .val (.int zl), .val (.int v0), .val (.int v1), .val (.int v2), .val (.int v3), .val (.int v4), .val (.int v5), .val (.int v6), .val (.ref b9), .unset] [(.ref b9)])
      refine Done.go (fun _ k => XS.iconst X1.here hx rfl (hb hby at_136) k) ?_
      show Done p e s below _ _ _ T1 (mkF m 137 #[.val (.int p0), .val (.int p1), .val (.int p2), .val (.int p3), .val (.int zl), .val (.int v0), .val (.int v1), .val (.int v2), .val (.int v3), .val (.int v4), .val (.int v5), .val (.int v6), .val (.ref b9), .unset] [(.int (4 : Int32)), (.ref b9)])
      refine Done.go (fun _ k => XS.iload X1.here hx rfl (hb hby at_137) rfl k) ?_
      show Done p e s below _ _ _ T1 (mkF m 139 #[.val (.int p0), .val (.int p1), .val (.int p2), .val (.int p3), .val (.int zl), .val (.int v0), .val (.int v1), .val (.int v2), .val (.int v3), .val (.int v4), .val (.int v5), .val (.int v6), .val (.ref b9), .unset] [(.int v4), (.int (4 : Int32)), (.ref b9)])
      obtain ⟨T24, h24, X24, e24, W24, V24, st24⟩ := own_stB X1 hx hZ e1 V1 (j := (4 : Int32)) 4 (by decide) rfl (by have u := (own_lt32 (by decide : ¬ (4 : Int32) < 0) hz0).mp hc131; rw [hzn] at u; exact u) (g := (mkF m 139 #[.val (.int p0), .val (.int p1), .val (.int p2), .val (.int p3), .val (.int zl), .val (.int v0), .val (.int v1), .val (.int v2), .val (.int v3), .val (.int v4), .val (.int v5), .val (.int v6), .val (.ref b9), .unset] [(.int v4), (.int (4 : Int32)), (.ref b9)])) rfl rfl (hb hby at_139)
      have N24 := Fr.snoc X24 N1 gz_b9
      have Z24 : n0 ≤ h24.size := by rw [W24.size]; exact z1
      refine Done.go st24 ?_
      show Done p e s below _ _ _ T24 (mkF m 140 #[.val (.int p0), .val (.int p1), .val (.int p2), .val (.int p3), .val (.int zl), .val (.int v0), .val (.int v1), .val (.int v2), .val (.int v3), .val (.int v4), .val (.int v5), .val (.int v6), .val (.ref b9), .unset] [])
      refine J140 _ _ _ _ X24 e24 Z24 N24 V24 (fun i hi hn => ?_)
      by_cases q : i = 4
      · subst q; simp only [if_true]; exact hv4
      · simp only [if_neg q]; exact H1 i (by omega) hn
    · skip
      refine Done.go (fun _ k => XS.icmpYes X1.here hx rfl (pc0 := 131) (pc' := 140) rfl (hb hby at_131) rfl (flt hc131).2.2.2 (by decide) (by decide) k) ?_
      show Done p e s below _ _ _ T1 (mkF m 140 #[.val (.int p0), .val (.int p1), .val (.int p2), .val (.int p3), .val (.int zl), .val (.int v0), .val (.int v1), .val (.int v2), .val (.int v3), .val (.int v4), .val (.int v5), .val (.int v6), .val (.ref b9), .unset] [])
      have u := own_nt (own_lt32 (by decide : ¬ (4 : Int32) < 0) hz0) hc131; rw [hzn] at u
      exact J140 _ _ _ _ X1 e1 z1 N1 V1 (fun i hi hn => H1 i (by have : ((4 : Int32)).toNatClampNeg = 4 := rfl; omega) hn)
  have J116 : ∀ (T1 : State) (h1 : Heap) (L1 : List Loc) (f1 : Nat → Int32), Stand p l e room_1 s m #[(.int p0), (.int p1), (.int p2), (.int p3)] below meth c T1 L1 1 7 → T1.heap = h1 → n0 ≤ h1.size → Fr n0 L1 → Ari Z h1 b9 .byte N f1 → (∀ i, i < 3 → i < N → f1 i = (own_sel v0 v1 v2 v3 v4 v5 v6) i) → Done p e s below 16 128 (Q0 n0) T1 (mkF m 116 #[.val (.int p0), .val (.int p1), .val (.int p2), .val (.int p3), .val (.int zl), .val (.int v0), .val (.int v1), .val (.int v2), .val (.int v3), .val (.int v4), .val (.int v5), .val (.int v6), .val (.ref b9), .unset] []) := by
    intro T1 h1 L1 f1 X1 e1 z1 N1 V1 H1
    show Done p e s below _ _ _ T1 (mkF m 116 #[.val (.int p0), .val (.int p1), .val (.int p2), .val (.int p3), .val (.int zl), .val (.int v0), .val (.int v1), .val (.int v2), .val (.int v3), .val (.int v4), .val (.int v5), .val (.int v6), .val (.ref b9), .unset] [])
    refine Done.go (fun _ k => XS.iload X1.here hx rfl (hb hby at_116) rfl k) ?_
    show Done p e s below _ _ _ T1 (mkF m 118 #[.val (.int p0), .val (.int p1), .val (.int p2), .val (.int p3), .val (.int zl), .val (.int v0), .val (.int v1), .val (.int v2), .val (.int v3), .val (.int v4), .val (.int v5), .val (.int v6), .val (.ref b9), .unset] [(.int zl)])
    refine Done.go (fun _ k => XS.iconst X1.here hx rfl (hb hby at_118) k) ?_
    show Done p e s below _ _ _ T1 (mkF m 119 #[.val (.int p0), .val (.int p1), .val (.int p2), .val (.int p3), .val (.int zl), .val (.int v0), .val (.int v1), .val (.int v2), .val (.int v3), .val (.int v4), .val (.int v5), .val (.int v6), .val (.ref b9), .unset] [(.int (3 : Int32)), (.int zl)])
    by_cases hc119 : (3 : Int32) < zl
    · skip
      refine Done.go (fun _ k => XS.icmpNo X1.here hx rfl (hb hby at_119) rfl (tlt hc119).2.2.2 k) ?_
      show Done p e s below _ _ _ T1 (mkF m 122 #[.val (.int p0), .val (.int p1), .val (.int p2), .val (.int p3), .val (.int zl), .val (.int v0), .val (.int v1), .val (.int v2), .val (.int v3), .val (.int v4), .val (.int v5), .val (.int v6), .val (.ref b9), .unset] [])
      refine Done.go (fun _ k => XS.aload X1.here hx rfl (hb hby at_122) rfl rfl k) ?_
      show Done p e s below _ _ _ T1 (mkF m 124 #[.val (.int p0), .val (.int p1), .val (.int p2), .val (.int p3), .val (.int zl), .val (.int v0), .val (.int v1), .val (.int v2), .val (.int v3), .val (.int v4), .val (.int v5), .val (.int v6), .val (.ref b9), .unset] [(.ref b9)])
      refine Done.go (fun _ k => XS.iconst X1.here hx rfl (hb hby at_124) k) ?_
      show Done p e s below _ _ _ T1 (mkF m 125 #[.val (.int p0), .val (.int p1), .val (.int p2), .val (.int p3), .val (.int zl), .val (.int v0), .val (.int v1), .val (.int v2), .val (.int v3), .val (.int v4), .val (.int v5), .val (.int v6), .val (.ref b9), .unset] [(.int (3 : Int32)), (.ref b9)])
      refine Done.go (fun _ k => XS.iload X1.here hx rfl (hb hby at_125) rfl k) ?_
      show Done p e s below _ _ _ T1 (mkF m 127 #[.val (.int p0), .val (.int p1), .val (.int p2), .val (.int p3), .val (.int zl), .val (.int v0), .val (.int v1), .val (.int v2), .val (.int v3), .val (.int v4), .val (.int v5), .val (.int v6), .val (.ref b9), .unset] [(.int v3), (.int (3 : Int32)), (.ref b9)])
      obtain ⟨T25, h25, X25, e25, W25, V25, st25⟩ := own_stB X1 hx hZ e1 V1 (j := (3 : Int32)) 3 (by decide) rfl (by have u := (own_lt32 (by decide : ¬ (3 : Int32) < 0) hz0).mp hc119; rw [hzn] at u; exact u) (g := (mkF m 127 #[.val (.int p0), .val (.int p1), .val (.int p2), .val (.int p3), .val (.int zl), .val (.int v0), .val (.int v1), .val (.int v2), .val (.int v3), .val (.int v4), .val (.int v5), .val (.int v6), .val (.ref b9), .unset] [(.int v3), (.int (3 : Int32)), (.ref b9)])) rfl rfl (hb hby at_127)
      have N25 := Fr.snoc X25 N1 gz_b9
      have Z25 : n0 ≤ h25.size := by rw [W25.size]; exact z1
      refine Done.go st25 ?_
      show Done p e s below _ _ _ T25 (mkF m 128 #[.val (.int p0), .val (.int p1), .val (.int p2), .val (.int p3), .val (.int zl), .val (.int v0), .val (.int v1), .val (.int v2), .val (.int v3), .val (.int v4), .val (.int v5), .val (.int v6), .val (.ref b9), .unset] [])
      refine J128 _ _ _ _ X25 e25 Z25 N25 V25 (fun i hi hn => ?_)
      by_cases q : i = 3
      · subst q; simp only [if_true]; exact hv3
      · simp only [if_neg q]; exact H1 i (by omega) hn
    · skip
      refine Done.go (fun _ k => XS.icmpYes X1.here hx rfl (pc0 := 119) (pc' := 128) rfl (hb hby at_119) rfl (flt hc119).2.2.2 (by decide) (by decide) k) ?_
      show Done p e s below _ _ _ T1 (mkF m 128 #[.val (.int p0), .val (.int p1), .val (.int p2), .val (.int p3), .val (.int zl), .val (.int v0), .val (.int v1), .val (.int v2), .val (.int v3), .val (.int v4), .val (.int v5), .val (.int v6), .val (.ref b9), .unset] [])
      have u := own_nt (own_lt32 (by decide : ¬ (3 : Int32) < 0) hz0) hc119; rw [hzn] at u
      exact J128 _ _ _ _ X1 e1 z1 N1 V1 (fun i hi hn => H1 i (by have : ((3 : Int32)).toNatClampNeg = 3 := rfl; omega) hn)
  have J104 : ∀ (T1 : State) (h1 : Heap) (L1 : List Loc) (f1 : Nat → Int32), Stand p l e room_1 s m #[(.int p0), (.int p1), (.int p2), (.int p3)] below meth c T1 L1 1 7 → T1.heap = h1 → n0 ≤ h1.size → Fr n0 L1 → Ari Z h1 b9 .byte N f1 → (∀ i, i < 2 → i < N → f1 i = (own_sel v0 v1 v2 v3 v4 v5 v6) i) → Done p e s below 16 128 (Q0 n0) T1 (mkF m 104 #[.val (.int p0), .val (.int p1), .val (.int p2), .val (.int p3), .val (.int zl), .val (.int v0), .val (.int v1), .val (.int v2), .val (.int v3), .val (.int v4), .val (.int v5), .val (.int v6), .val (.ref b9), .unset] []) := by
    intro T1 h1 L1 f1 X1 e1 z1 N1 V1 H1
    show Done p e s below _ _ _ T1 (mkF m 104 #[.val (.int p0), .val (.int p1), .val (.int p2), .val (.int p3), .val (.int zl), .val (.int v0), .val (.int v1), .val (.int v2), .val (.int v3), .val (.int v4), .val (.int v5), .val (.int v6), .val (.ref b9), .unset] [])
    refine Done.go (fun _ k => XS.iload X1.here hx rfl (hb hby at_104) rfl k) ?_
    show Done p e s below _ _ _ T1 (mkF m 106 #[.val (.int p0), .val (.int p1), .val (.int p2), .val (.int p3), .val (.int zl), .val (.int v0), .val (.int v1), .val (.int v2), .val (.int v3), .val (.int v4), .val (.int v5), .val (.int v6), .val (.ref b9), .unset] [(.int zl)])
    refine Done.go (fun _ k => XS.iconst X1.here hx rfl (hb hby at_106) k) ?_
    show Done p e s below _ _ _ T1 (mkF m 107 #[.val (.int p0), .val (.int p1), .val (.int p2), .val (.int p3), .val (.int zl), .val (.int v0), .val (.int v1), .val (.int v2), .val (.int v3), .val (.int v4), .val (.int v5), .val (.int v6), .val (.ref b9), .unset] [(.int (2 : Int32)), (.int zl)])
    by_cases hc107 : (2 : Int32) < zl
    · skip
      refine Done.go (fun _ k => XS.icmpNo X1.here hx rfl (hb hby at_107) rfl (tlt hc107).2.2.2 k) ?_
      show Done p e s below _ _ _ T1 (mkF m 110 #[.val (.int p0), .val (.int p1), .val (.int p2), .val (.int p3), .val (.int zl), .val (.int v0), .val (.int v1), .val (.int v2), .val (.int v3), .val (.int v4), .val (.int v5), .val (.int v6), .val (.ref b9), .unset] [])
      refine Done.go (fun _ k => XS.aload X1.here hx rfl (hb hby at_110) rfl rfl k) ?_
      show Done p e s below _ _ _ T1 (mkF m 112 #[.val (.int p0), .val (.int p1), .val (.int p2), .val (.int p3), .val (.int zl), .val (.int v0), .val (.int v1), .val (.int v2), .val (.int v3), .val (.int v4), .val (.int v5), .val (.int v6), .val (.ref b9), .unset] [(.ref b9)])
      refine Done.go (fun _ k => XS.iconst X1.here hx rfl (hb hby at_112) k) ?_
      show Done p e s below _ _ _ T1 (mkF m 113 #[.val (.int p0), .val (.int p1), .val (.int p2), .val (.int p3), .val (.int zl), .val (.int v0), .val (.int v1), .val (.int v2), .val (.int v3), .val (.int v4), .val (.int v5), .val (.int v6), .val (.ref b9), .unset] [(.int (2 : Int32)), (.ref b9)])
      refine Done.go (fun _ k => XS.iload X1.here hx rfl (hb hby at_113) rfl k) ?_
      show Done p e s below _ _ _ T1 (mkF m 115 #[.val (.int p0), .val (.int p1), .val (.int p2), .val (.int p3), .val (.int zl), .val (.int v0), .val (.int v1), .val (.int v2), .val (.int v3), .val (.int v4), .val (.int v5), .val (.int v6), .val (.ref b9), .unset] [(.int v2), (.int (2 : Int32)), (.ref b9)])
      obtain ⟨T26, h26, X26, e26, W26, V26, st26⟩ := own_stB X1 hx hZ e1 V1 (j := (2 : Int32)) 2 (by decide) rfl (by have u := (own_lt32 (by decide : ¬ (2 : Int32) < 0) hz0).mp hc107; rw [hzn] at u; exact u) (g := (mkF m 115 #[.val (.int p0), .val (.int p1), .val (.int p2), .val (.int p3), .val (.int zl), .val (.int v0), .val (.int v1), .val (.int v2), .val (.int v3), .val (.int v4), .val (.int v5), .val (.int v6), .val (.ref b9), .unset] [(.int v2), (.int (2 : Int32)), (.ref b9)])) rfl rfl (hb hby at_115)
      have N26 := Fr.snoc X26 N1 gz_b9
      have Z26 : n0 ≤ h26.size := by rw [W26.size]; exact z1
      refine Done.go st26 ?_
      show Done p e s below _ _ _ T26 (mkF m 116 #[.val (.int p0), .val (.int p1), .val (.int p2), .val (.int p3), .val (.int zl), .val (.int v0), .val (.int v1), .val (.int v2), .val (.int v3), .val (.int v4), .val (.int v5), .val (.int v6), .val (.ref b9), .unset] [])
      refine J116 _ _ _ _ X26 e26 Z26 N26 V26 (fun i hi hn => ?_)
      by_cases q : i = 2
      · subst q; simp only [if_true]; exact hv2
      · simp only [if_neg q]; exact H1 i (by omega) hn
    · skip
      refine Done.go (fun _ k => XS.icmpYes X1.here hx rfl (pc0 := 107) (pc' := 116) rfl (hb hby at_107) rfl (flt hc107).2.2.2 (by decide) (by decide) k) ?_
      show Done p e s below _ _ _ T1 (mkF m 116 #[.val (.int p0), .val (.int p1), .val (.int p2), .val (.int p3), .val (.int zl), .val (.int v0), .val (.int v1), .val (.int v2), .val (.int v3), .val (.int v4), .val (.int v5), .val (.int v6), .val (.ref b9), .unset] [])
      have u := own_nt (own_lt32 (by decide : ¬ (2 : Int32) < 0) hz0) hc107; rw [hzn] at u
      exact J116 _ _ _ _ X1 e1 z1 N1 V1 (fun i hi hn => H1 i (by have : ((2 : Int32)).toNatClampNeg = 2 := rfl; omega) hn)
  have J92 : ∀ (T1 : State) (h1 : Heap) (L1 : List Loc) (f1 : Nat → Int32), Stand p l e room_1 s m #[(.int p0), (.int p1), (.int p2), (.int p3)] below meth c T1 L1 1 7 → T1.heap = h1 → n0 ≤ h1.size → Fr n0 L1 → Ari Z h1 b9 .byte N f1 → (∀ i, i < 1 → i < N → f1 i = (own_sel v0 v1 v2 v3 v4 v5 v6) i) → Done p e s below 16 128 (Q0 n0) T1 (mkF m 92 #[.val (.int p0), .val (.int p1), .val (.int p2), .val (.int p3), .val (.int zl), .val (.int v0), .val (.int v1), .val (.int v2), .val (.int v3), .val (.int v4), .val (.int v5), .val (.int v6), .val (.ref b9), .unset] []) := by
    intro T1 h1 L1 f1 X1 e1 z1 N1 V1 H1
    show Done p e s below _ _ _ T1 (mkF m 92 #[.val (.int p0), .val (.int p1), .val (.int p2), .val (.int p3), .val (.int zl), .val (.int v0), .val (.int v1), .val (.int v2), .val (.int v3), .val (.int v4), .val (.int v5), .val (.int v6), .val (.ref b9), .unset] [])
    refine Done.go (fun _ k => XS.iload X1.here hx rfl (hb hby at_92) rfl k) ?_
    show Done p e s below _ _ _ T1 (mkF m 94 #[.val (.int p0), .val (.int p1), .val (.int p2), .val (.int p3), .val (.int zl), .val (.int v0), .val (.int v1), .val (.int v2), .val (.int v3), .val (.int v4), .val (.int v5), .val (.int v6), .val (.ref b9), .unset] [(.int zl)])
    refine Done.go (fun _ k => XS.iconst X1.here hx rfl (hb hby at_94) k) ?_
    show Done p e s below _ _ _ T1 (mkF m 95 #[.val (.int p0), .val (.int p1), .val (.int p2), .val (.int p3), .val (.int zl), .val (.int v0), .val (.int v1), .val (.int v2), .val (.int v3), .val (.int v4), .val (.int v5), .val (.int v6), .val (.ref b9), .unset] [(.int (1 : Int32)), (.int zl)])
    by_cases hc95 : (1 : Int32) < zl
    · skip
      refine Done.go (fun _ k => XS.icmpNo X1.here hx rfl (hb hby at_95) rfl (tlt hc95).2.2.2 k) ?_
      show Done p e s below _ _ _ T1 (mkF m 98 #[.val (.int p0), .val (.int p1), .val (.int p2), .val (.int p3), .val (.int zl), .val (.int v0), .val (.int v1), .val (.int v2), .val (.int v3), .val (.int v4), .val (.int v5), .val (.int v6), .val (.ref b9), .unset] [])
      refine Done.go (fun _ k => XS.aload X1.here hx rfl (hb hby at_98) rfl rfl k) ?_
      show Done p e s below _ _ _ T1 (mkF m 100 #[.val (.int p0), .val (.int p1), .val (.int p2), .val (.int p3), .val (.int zl), .val (.int v0), .val (.int v1), .val (.int v2), .val (.int v3), .val (.int v4), .val (.int v5), .val (.int v6), .val (.ref b9), .unset] [(.ref b9)])
      refine Done.go (fun _ k => XS.iconst X1.here hx rfl (hb hby at_100) k) ?_
      show Done p e s below _ _ _ T1 (mkF m 101 #[.val (.int p0), .val (.int p1), .val (.int p2), .val (.int p3), .val (.int zl), .val (.int v0), .val (.int v1), .val (.int v2), .val (.int v3), .val (.int v4), .val (.int v5), .val (.int v6), .val (.ref b9), .unset] [(.int (1 : Int32)), (.ref b9)])
      refine Done.go (fun _ k => XS.iload X1.here hx rfl (hb hby at_101) rfl k) ?_
      show Done p e s below _ _ _ T1 (mkF m 103 #[.val (.int p0), .val (.int p1), .val (.int p2), .val (.int p3), .val (.int zl), .val (.int v0), .val (.int v1), .val (.int v2), .val (.int v3), .val (.int v4), .val (.int v5), .val (.int v6), .val (.ref b9), .unset] [(.int v1), (.int (1 : Int32)), (.ref b9)])
      obtain ⟨T27, h27, X27, e27, W27, V27, st27⟩ := own_stB X1 hx hZ e1 V1 (j := (1 : Int32)) 1 (by decide) rfl (by have u := (own_lt32 (by decide : ¬ (1 : Int32) < 0) hz0).mp hc95; rw [hzn] at u; exact u) (g := (mkF m 103 #[.val (.int p0), .val (.int p1), .val (.int p2), .val (.int p3), .val (.int zl), .val (.int v0), .val (.int v1), .val (.int v2), .val (.int v3), .val (.int v4), .val (.int v5), .val (.int v6), .val (.ref b9), .unset] [(.int v1), (.int (1 : Int32)), (.ref b9)])) rfl rfl (hb hby at_103)
      have N27 := Fr.snoc X27 N1 gz_b9
      have Z27 : n0 ≤ h27.size := by rw [W27.size]; exact z1
      refine Done.go st27 ?_
      show Done p e s below _ _ _ T27 (mkF m 104 #[.val (.int p0), .val (.int p1), .val (.int p2), .val (.int p3), .val (.int zl), .val (.int v0), .val (.int v1), .val (.int v2), .val (.int v3), .val (.int v4), .val (.int v5), .val (.int v6), .val (.ref b9), .unset] [])
      refine J104 _ _ _ _ X27 e27 Z27 N27 V27 (fun i hi hn => ?_)
      by_cases q : i = 1
      · subst q; simp only [if_true]; exact hv1
      · simp only [if_neg q]; exact H1 i (by omega) hn
    · skip
      refine Done.go (fun _ k => XS.icmpYes X1.here hx rfl (pc0 := 95) (pc' := 104) rfl (hb hby at_95) rfl (flt hc95).2.2.2 (by decide) (by decide) k) ?_
      show Done p e s below _ _ _ T1 (mkF m 104 #[.val (.int p0), .val (.int p1), .val (.int p2), .val (.int p3), .val (.int zl), .val (.int v0), .val (.int v1), .val (.int v2), .val (.int v3), .val (.int v4), .val (.int v5), .val (.int v6), .val (.ref b9), .unset] [])
      have u := own_nt (own_lt32 (by decide : ¬ (1 : Int32) < 0) hz0) hc95; rw [hzn] at u
      exact J104 _ _ _ _ X1 e1 z1 N1 V1 (fun i hi hn => H1 i (by have : ((1 : Int32)).toNatClampNeg = 1 := rfl; omega) hn)
  have J81 : ∀ (T1 : State) (h1 : Heap) (L1 : List Loc) (f1 : Nat → Int32), Stand p l e room_1 s m #[(.int p0), (.int p1), (.int p2), (.int p3)] below meth c T1 L1 1 7 → T1.heap = h1 → n0 ≤ h1.size → Fr n0 L1 → Ari Z h1 b9 .byte N f1 → (∀ i, i < 0 → i < N → f1 i = (own_sel v0 v1 v2 v3 v4 v5 v6) i) → Done p e s below 16 128 (Q0 n0) T1 (mkF m 81 #[.val (.int p0), .val (.int p1), .val (.int p2), .val (.int p3), .val (.int zl), .val (.int v0), .val (.int v1), .val (.int v2), .val (.int v3), .val (.int v4), .val (.int v5), .val (.int v6), .val (.ref b9), .unset] []) := by
    intro T1 h1 L1 f1 X1 e1 z1 N1 V1 H1
    show Done p e s below _ _ _ T1 (mkF m 81 #[.val (.int p0), .val (.int p1), .val (.int p2), .val (.int p3), .val (.int zl), .val (.int v0), .val (.int v1), .val (.int v2), .val (.int v3), .val (.int v4), .val (.int v5), .val (.int v6), .val (.ref b9), .unset] [])
    refine Done.go (fun _ k => XS.iload X1.here hx rfl (hb hby at_81) rfl k) ?_
    show Done p e s below _ _ _ T1 (mkF m 83 #[.val (.int p0), .val (.int p1), .val (.int p2), .val (.int p3), .val (.int zl), .val (.int v0), .val (.int v1), .val (.int v2), .val (.int v3), .val (.int v4), .val (.int v5), .val (.int v6), .val (.ref b9), .unset] [(.int zl)])
    by_cases hc83 : (0 : Int32) < zl
    · skip
      refine Done.go (fun _ k => XS.ifNo X1.here hx rfl (hb hby at_83) rfl ((if0 _ _).trans (tlt hc83).2.2.2) k) ?_
      show Done p e s below _ _ _ T1 (mkF m 86 #[.val (.int p0), .val (.int p1), .val (.int p2), .val (.int p3), .val (.int zl), .val (.int v0), .val (.int v1), .val (.int v2), .val (.int v3), .val (.int v4), .val (.int v5), .val (.int v6), .val (.ref b9), .unset] [])
      refine Done.go (fun _ k => XS.aload X1.here hx rfl (hb hby at_86) rfl rfl k) ?_
      show Done p e s below _ _ _ T1 (mkF m 88 #[.val (.int p0), .val (.int p1), .val (.int p2), .val (.int p3), .val (.int zl), .val (.int v0), .val (.int v1), .val (.int v2), .val (.int v3), .val (.int v4), .val (.int v5), .val (.int v6), .val (.ref b9), .unset] [(.ref b9)])
      refine Done.go (fun _ k => XS.iconst X1.here hx rfl (hb hby at_88) k) ?_
      show Done p e s below _ _ _ T1 (mkF m 89 #[.val (.int p0), .val (.int p1), .val (.int p2), .val (.int p3), .val (.int zl), .val (.int v0), .val (.int v1), .val (.int v2), .val (.int v3), .val (.int v4), .val (.int v5), .val (.int v6), .val (.ref b9), .unset] [(.int (0 : Int32)), (.ref b9)])
      refine Done.go (fun _ k => XS.iload X1.here hx rfl (hb hby at_89) rfl k) ?_
      show Done p e s below _ _ _ T1 (mkF m 91 #[.val (.int p0), .val (.int p1), .val (.int p2), .val (.int p3), .val (.int zl), .val (.int v0), .val (.int v1), .val (.int v2), .val (.int v3), .val (.int v4), .val (.int v5), .val (.int v6), .val (.ref b9), .unset] [(.int v0), (.int (0 : Int32)), (.ref b9)])
      obtain ⟨T28, h28, X28, e28, W28, V28, st28⟩ := own_stB X1 hx hZ e1 V1 (j := (0 : Int32)) 0 (by decide) rfl (by have u := (own_lt32 (by decide : ¬ (0 : Int32) < 0) hz0).mp hc83; rw [hzn] at u; exact u) (g := (mkF m 91 #[.val (.int p0), .val (.int p1), .val (.int p2), .val (.int p3), .val (.int zl), .val (.int v0), .val (.int v1), .val (.int v2), .val (.int v3), .val (.int v4), .val (.int v5), .val (.int v6), .val (.ref b9), .unset] [(.int v0), (.int (0 : Int32)), (.ref b9)])) rfl rfl (hb hby at_91)
      have N28 := Fr.snoc X28 N1 gz_b9
      have Z28 : n0 ≤ h28.size := by rw [W28.size]; exact z1
      refine Done.go st28 ?_
      show Done p e s below _ _ _ T28 (mkF m 92 #[.val (.int p0), .val (.int p1), .val (.int p2), .val (.int p3), .val (.int zl), .val (.int v0), .val (.int v1), .val (.int v2), .val (.int v3), .val (.int v4), .val (.int v5), .val (.int v6), .val (.ref b9), .unset] [])
      refine J92 _ _ _ _ X28 e28 Z28 N28 V28 (fun i hi hn => ?_)
      by_cases q : i = 0
      · subst q; simp only [if_true]; exact hv0
      · simp only [if_neg q]; exact H1 i (by omega) hn
    · skip
      refine Done.go (fun _ k => XS.ifYes X1.here hx rfl (pc0 := 83) (pc' := 92) rfl (hb hby at_83) rfl ((if0 _ _).trans (flt hc83).2.2.2) (by decide) (by decide) k) ?_
      show Done p e s below _ _ _ T1 (mkF m 92 #[.val (.int p0), .val (.int p1), .val (.int p2), .val (.int p3), .val (.int zl), .val (.int v0), .val (.int v1), .val (.int v2), .val (.int v3), .val (.int v4), .val (.int v5), .val (.int v6), .val (.ref b9), .unset] [])
      have u := own_nt (own_lt32 (by decide : ¬ (0 : Int32) < 0) hz0) hc83; rw [hzn] at u
      exact J92 _ _ _ _ X1 e1 z1 N1 V1 (fun i hi hn => H1 i (by have : ((0 : Int32)).toNatClampNeg = 0 := rfl; omega) hn)
  show Done p e s below _ _ _ T9 (mkF m 81 #[.val (.int p0), .val (.int p1), .val (.int p2), .val (.int p3), .val (.int zl), .val (.int v0), .val (.int v1), .val (.int v2), .val (.int v3), .val (.int v4), .val (.int v5), .val (.int v6), .val (.ref b9), .unset] [])
  exact J81 _ _ _ _ X9 e9 Z9 N8 V9 (fun i hi _ => absurd hi (Nat.not_lt_zero i))
set_option maxRecDepth 65536 in
set_option maxHeartbeats 40000000 in
theorem comes_1 {Post : Tables → Env → Array Value → State → Outcome → State → Prop} (hpost : ∀ tb e args s v u, (limb_1_1.after args s (.returned v) u = true ∧ limb_1_2.after args s (.returned v) u = true ∧ True) → FrameEnd s (.returned v) u (Jvm.fieldLocs frame_1_writes args s ++ Jvm.arrayLocs frame_1_arrays args s ++ Jvm.staticLocs frame_1_statics s) 16 128 → Post tb e args s (.returned v) u) :
    ArmFor flags0 classFile x code maxLocals ret World_1 tables_1 room_1 Calls_1 rest_1 Pre_1 Post := by
  intro l hfl _ _ p e ha hc hk s m args below hf hA hF happ hP
  obtain ⟨hcalls, hrest, hpre⟩ := hP
  obtain ⟨-, -, -, hnamed, -, -, -, hat⟩ := (Spec.applies_iff hf).mp happ
  obtain ⟨hg, hn⟩ := and_e (Cond.before_iff.mp (show (Jvm.Cond.and given_1 narrow_1).before args s = true from hpre))
  obtain ⟨hcount, hg⟩ := and_e hg
  obtain ⟨hv0, hg⟩ := and_e hg
  obtain ⟨hv1, hg⟩ := and_e hg
  obtain ⟨hv2, hg⟩ := and_e hg
  have hv3 := hg
  obtain ⟨w0, w1, w2, w3, rfl⟩ : ∃ w0 w1 w2 w3 : Value, args = #[w0, w1, w2, w3] := by
    have hs : args.size = 4 := by simpa [Cond.value, given_1] using hcount
    obtain ⟨L⟩ := args
    match L, hs with
    | [w0, w1, w2, w3], _ => exact ⟨w0, w1, w2, w3, rfl⟩
  have hw := fun d (hd : d ∈ tables_1) => atoms_spec (ws := Jvm.Cond.code x code maxLocals ret :: tables_1) hat d (List.mem_cons_of_mem _ hd)
  have hfit : Fit s := fun {y c} hc i hi => by
    obtain ⟨ha, rfl⟩ := Array.getElem?_eq_some_iff.mp hc
    have q := List.all_eq_true.mp ((Array.all_eq_true_iff_forall_mem.mp hF) _ (Array.getElem_mem ha)) i (List.mem_range.mpr hi)
    simpa [Array.getElem?_eq_getElem hi] using q
  obtain ⟨i0, ei0⟩ := is_v hv0
  obtain rfl : w0 = (.int i0) := Option.some.inj ei0
  obtain ⟨i1, ei1⟩ := is_v hv1
  obtain rfl : w1 = (.int i1) := Option.some.inj ei1
  obtain ⟨i2, ei2⟩ := is_v hv2
  obtain rfl : w2 = (.int i2) := Option.some.inj ei2
  obtain ⟨i3, ei3⟩ := is_v hv3
  obtain rfl : w3 = (.int i3) := Option.some.inj ei3
  obtain ⟨n, o, h1, h2, h3, _, L, rfl, ⟨rfl, N⟩, hq⟩ := rm0 l s _ hw tables_1 i0 i1 i2 i3 s.heap s.heap.size (Nat.le_refl _)  p e ha hc hk s m _ below hf ((Spec.applies_iff_loose hf).mp happ).1 ⟨rfl, State.Warmed39.refl s, rfl⟩ trivial
  refine ⟨n, _, h1, h2, h3, hpost _ _ _ _ _ _ ⟨Cond.after_iff.mpr rfl, Cond.after_iff.mpr (eq_i res_at (Term.int_eval (1)) rfl), trivial⟩ ⟨hq.1, hq.2.1, (hq.2.2.sift fun y hy => Or.inr (N y hy)).mono (by decide) (by decide)⟩⟩
theorem main_1_1 : Claimed_1_1 := comes_1 fun _ _ _ _ _ _ h hF => ⟨h.1, hF⟩
theorem main_1_2 : Claimed_1_2 := comes_1 fun _ _ _ _ _ _ h hF => ⟨h.2.1, hF⟩
end Jvm.Pilot.@@N@@
namespace Jvm.Pilot.@@N@@
open Jvm Jvm.ClassFile Sem Op Lib Jvm.Free Jvm.Stand Jvm.Pilot.@@N@@.Jvm.D
/-! MADE BY PROGRAM (witnessworld.py) out of the Statement's table words and the real class files: 10 classes; the members and pool entries that the words name. The judged class is class 1, her method 1. -/
namespace start1
open Jvm.ClassFile
def u (s : String) : CpInfo := .utf8 (stringToUtf16 s)
/-- a pool by its gaps: so many unusable entries, then the entry; so many at the end -/
def gap : Nat → List CpInfo → List CpInfo
  | 0, r => r
  | n + 1, r => .unusable :: gap n r
def poolList (es : List (Nat × CpInfo)) (last : Nat) : List CpInfo := es.foldr (fun e r => gap e.1 (e.2 :: r)) (gap last [])
def pool (es : List (Nat × CpInfo)) (last : Nat) : Array CpInfo := ⟨poolList es last⟩
def fileOf (pool : Array CpInfo) (this : Nat) (attrs : Array Attribute := #[]) (ms : Array MethodInfo := #[]) (fl : Nat := 33) (sup : Nat := 0) (ifs : Array Nat := #[]) (fds : Array FieldInfo := #[]) : ClassFile where
  minorVersion := 0
  majorVersion := 65
  constantPool := pool
  accessFlags := fl
  thisClass := this
  superClass := sup
  interfaces := ifs
  fields := fds
  methods := ms
  attributes := attrs
def plain (name : String) (sup : Option ClassId) : Class where
  name := name
  kind := .ordinary
  loader := none
  accessFlags := 33
  super := sup
  interfaces := #[]
  cf := none
  fields := #[]
  methods := #[]
  instanceTypes := #[]
  staticTypes := #[]
  resolved := #[]
  callSites := []
  init := .initialized
  statics := none
  mirror := none

def pool0 : Array CpInfo := pool [(5, u "<init>"), (0, u "()V"), (1, .class_ 10), (1, u "java/lang/Object")] 113

def k0m0 : Method := { name := "<init>", desc := "()V", sig := { parameters := [], returnType := none }, accessFlags := 1, code := none }
/-- java/lang/Object -/
def k0 : Class := { plain "java/lang/Object" none with
  accessFlags := 33
  interfaces := #[]
  cf := some (fileOf pool0 8 #[] #[{ accessFlags := 1, nameIndex := 5, descriptorIndex := 6, attributes := #[] }] 33 0 #[] #[])
  fields := #[]
  methods := #[k0m0]
  instanceTypes := #[]
  staticTypes := #[]
  resolved := Array.replicate 124 none
  statics := none }

def pool1 : Array CpInfo := pool [(2, .class_ 4), (1, u "java/lang/Object"), (0, u "<init>"), (0, u "()V"), (0, .methodref 8 9), (0, .class_ 10), (0, .nameAndType 11 12), (0, u "spinecode/marc/Iso2709ReaderRecognisesPinLaw"), (0, u "pick"), (0, u "(IIII)B"), (0, .methodref 8 14), (0, .nameAndType 15 16), (0, u "isDigit"), (0, u "(B)Z"), (0, .methodref 18 19), (0, .class_ 20), (0, .nameAndType 21 22), (0, u "spinecode/marc/Iso2709Reader"), (0, u "recognises"), (0, u "([B)Z"), (2, u "law"), (0, u "(IIII)Z")] 5

def k1m0 : Method := { name := "<init>", desc := "()V", sig := { parameters := [], returnType := none }, accessFlags := 2, code := none }
def k1c1 : Code := { maxStack := 4, maxLocals := 14, code := code, exceptionTable := #[], attributes := #[] }
def k1m1 : Method := { name := "law", desc := "(IIII)Z", sig := { parameters := [.int, .int, .int, .int], returnType := some .boolean }, accessFlags := 9, code := some k1c1 }
def k1c2 : Code := { maxStack := 3, maxLocals := 5, code := method_3_code, exceptionTable := #[], attributes := #[] }
def k1m2 : Method := { name := "pick", desc := "(IIII)B", sig := { parameters := [.int, .int, .int, .int], returnType := some .byte }, accessFlags := 10, code := some k1c2 }
def k1c3 : Code := { maxStack := 2, maxLocals := 1, code := method_4_code, exceptionTable := #[], attributes := #[] }
def k1m3 : Method := { name := "isDigit", desc := "(B)Z", sig := { parameters := [.byte], returnType := some .boolean }, accessFlags := 10, code := some k1c3 }
/-- spinecode/marc/Iso2709ReaderRecognisesPinLaw -/
def k1 : Class := { plain "spinecode/marc/Iso2709ReaderRecognisesPinLaw" (some 0) with
  accessFlags := 49
  interfaces := #[]
  cf := some (fileOf pool1 8 #[] #[{ accessFlags := 2, nameIndex := 5, descriptorIndex := 6, attributes := #[] }, { accessFlags := 9, nameIndex := 25, descriptorIndex := 26, attributes := #[] }, { accessFlags := 10, nameIndex := 11, descriptorIndex := 12, attributes := #[] }, { accessFlags := 10, nameIndex := 15, descriptorIndex := 16, attributes := #[] }] 49 2 #[] #[])
  fields := #[]
  methods := #[k1m0, k1m1, k1m2, k1m3]
  instanceTypes := #[]
  staticTypes := #[]
  resolved := Array.replicate 32 none
  statics := none }

def pool2 : Array CpInfo := pool [(1, .class_ 2), (0, u "spinecode/marc/MarcReader"), (0, .class_ 4), (0, u "java/lang/Object")] 14

/-- spinecode/marc/MarcReader -/
def k2 : Class := { plain "spinecode/marc/MarcReader" (some 0) with
  accessFlags := 1537
  interfaces := #[]
  cf := some (fileOf pool2 1 #[] #[] 1537 3 #[] #[])
  fields := #[]
  methods := #[]
  instanceTypes := #[]
  staticTypes := #[]
  resolved := Array.replicate 19 none
  statics := none }

def pool3 : Array CpInfo := pool [(8, u "Lspinecode/marc/Marc8;"), (1, .class_ 12), (1, u "spinecode/marc/Iso2709Reader"), (3, .class_ 18), (1, u "java/lang/Object"), (15, u "utf8"), (0, u "Ljava/nio/charset/CharsetDecoder;"), (3, u "buffer"), (0, u "[B"), (1, u "in"), (10, u "Ljava/io/InputStream;"), (7, u "selection"), (0, u "Lspinecode/marc/FieldSelection;"), (2, u "marc8"), (0, .methodref 10 67), (0, .nameAndType 68 69), (0, u "number"), (0, u "([BII)I"), (6, u "position"), (0, u "I"), (2, u "next"), (2, u "end"), (135, u "streamEnded"), (0, u "Z"), (27, .class_ 249), (0, u "spinecode/marc/MarcReader"), (6, u "recognises"), (0, u "([B)Z")] 47

def k3c0 : Code := { maxStack := 3, maxLocals := 1, code := prog_17_method_3_code, exceptionTable := #[], attributes := #[] }
def k3m0 : Method := { name := "recognises", desc := "([B)Z", sig := { parameters := [(.array .byte)], returnType := some .boolean }, accessFlags := 9, code := some k3c0 }
def k3c1 : Code := { maxStack := 3, maxLocals := 5, code := prog_17_method_16_code, exceptionTable := #[], attributes := #[] }
def k3m1 : Method := { name := "number", desc := "([BII)I", sig := { parameters := [(.array .byte), .int, .int], returnType := some .int }, accessFlags := 10, code := some k3c1 }
/-- spinecode/marc/Iso2709Reader -/
def k3 : Class := { plain "spinecode/marc/Iso2709Reader" (some 0) with
  accessFlags := 49
  interfaces := #[2]
  cf := some (fileOf pool3 10 #[] #[{ accessFlags := 9, nameIndex := 256, descriptorIndex := 257, attributes := #[] }, { accessFlags := 10, nameIndex := 68, descriptorIndex := 69, attributes := #[] }] 49 16 #[248] #[{ accessFlags := 18, nameIndex := 42, descriptorIndex := 53, attributes := #[] }, { accessFlags := 18, nameIndex := 61, descriptorIndex := 62, attributes := #[] }, { accessFlags := 18, nameIndex := 34, descriptorIndex := 35, attributes := #[] }, { accessFlags := 18, nameIndex := 65, descriptorIndex := 8, attributes := #[] }, { accessFlags := 18, nameIndex := 39, descriptorIndex := 40, attributes := #[] }, { accessFlags := 2, nameIndex := 80, descriptorIndex := 77, attributes := #[] }, { accessFlags := 2, nameIndex := 83, descriptorIndex := 77, attributes := #[] }, { accessFlags := 2, nameIndex := 219, descriptorIndex := 220, attributes := #[] }, { accessFlags := 2, nameIndex := 76, descriptorIndex := 77, attributes := #[] }])
  fields := #[{ name := "in", type := (.object "java/io/InputStream"), accessFlags := 18, slot := 0, constantValue := 0 }, { name := "selection", type := (.object "spinecode/marc/FieldSelection"), accessFlags := 18, slot := 1, constantValue := 0 }, { name := "utf8", type := (.object "java/nio/charset/CharsetDecoder"), accessFlags := 18, slot := 2, constantValue := 0 }, { name := "marc8", type := (.object "spinecode/marc/Marc8"), accessFlags := 18, slot := 3, constantValue := 0 }, { name := "buffer", type := (.array .byte), accessFlags := 18, slot := 4, constantValue := 0 }, { name := "next", type := .int, accessFlags := 2, slot := 5, constantValue := 0 }, { name := "end", type := .int, accessFlags := 2, slot := 6, constantValue := 0 }, { name := "streamEnded", type := .boolean, accessFlags := 2, slot := 7, constantValue := 0 }, { name := "position", type := .int, accessFlags := 2, slot := 8, constantValue := 0 }]
  methods := #[k3m0, k3m1]
  instanceTypes := #[(.object "java/io/InputStream"), (.object "spinecode/marc/FieldSelection"), (.object "java/nio/charset/CharsetDecoder"), (.object "spinecode/marc/Marc8"), (.array .byte), .int, .int, .boolean, .int]
  staticTypes := #[]
  resolved := Array.replicate 305 none
  statics := none }

def pool4 : Array CpInfo := pool [(1, u "java/lang/Cloneable"), (0, .class_ 1), (0, u "java/lang/Object"), (0, .class_ 3)] 3

/-- java/lang/Cloneable -/
def k4 : Class := { plain "java/lang/Cloneable" (some 0) with
  accessFlags := 1537
  interfaces := #[]
  cf := some (fileOf pool4 2 #[] #[] 1537 4 #[] #[])
  fields := #[]
  methods := #[]
  instanceTypes := #[]
  staticTypes := #[]
  resolved := Array.replicate 8 none
  statics := none }

def pool5 : Array CpInfo := pool [(1, u "java/io/Serializable"), (0, .class_ 1), (0, u "java/lang/Object"), (0, .class_ 3)] 3

/-- java/io/Serializable -/
def k5 : Class := { plain "java/io/Serializable" (some 0) with
  accessFlags := 1537
  interfaces := #[]
  cf := some (fileOf pool5 2 #[] #[] 1537 4 #[] #[])
  fields := #[]
  methods := #[]
  instanceTypes := #[]
  staticTypes := #[]
  resolved := Array.replicate 8 none
  statics := none }

/-- the primitive byte -/
def k6 : Class := { plain "byte" none with kind := .primitive 'B', accessFlags := 0x411 }
/-- [B -/
def k7 : Class := { plain "[B" (some 0) with kind := .array 6 .byte, interfaces := #[4, 5], accessFlags := 1041 }

/-- the primitive int -/
def k8 : Class := { plain "int" none with kind := .primitive 'I', accessFlags := 0x411 }
/-- [I -/
def k9 : Class := { plain "[I" (some 0) with kind := .array 8 .int, interfaces := #[4, 5], accessFlags := 1041 }

def heap : Heap := #[]
def classes : Array Class := #[k0, k1, k2, k3, k4, k5, k6, k7, k8, k9]
def interned : List (Array UInt16 × Addr) := []
def slotsUsed : Nat := 0
def theMethod : MethodId := ⟨1, 1⟩
def args0 : Array Value := #[.int 5, .int 808464432, .int 48, .int 0]
def aboutOver (below : List Frame) : State where
  vm := { classes := classes, interned := interned.toArray }
  heap := heap
  slotsUsed := slotsUsed
  threads := #[{ frames := .invoking theMethod args0 :: below }]
def below0 : List Frame := [.native { method := ⟨0, 0⟩, args := #[] }]
def about1 : State := aboutOver below0
def p0 : Program := .bare "" "" ""
def e0 : Env := launch0.env 0 0 0
theorem w_frames : about1.frames = Frame.invoking theMethod args0 :: below0 := rfl
set_option maxRecDepth 65536 in
theorem w_args : argsFit about1.vm theMethod args0 = true := by decide +kernel
set_option maxRecDepth 65536 in
theorem w_heap : heapFits about1 = true := by decide +kernel
set_option maxRecDepth 65536 in
theorem w_runnable : about1.curStatus? = some .runnable := by decide +kernel
set_option maxRecDepth 65536 in
theorem w_alone : about1.alone = true := by decide +kernel
set_option maxRecDepth 65536 in
theorem w_named : about1.methodNamed? x = some theMethod := by decide +kernel
set_option maxRecDepth 65536 in
theorem w_hears : about1.hears theMethod below0 = true := by decide +kernel
set_option maxRecDepth 65536 in
theorem w_ripe : about1.ripe theMethod args0 below0 = true := by decide +kernel
theorem w_running : about1.status = .running := rfl
set_option maxRecDepth 65536 in
theorem w_room : about1.hasRoom e0.platform room_1 = true :=
  launch0.hasRoom_least _ room_1 (by decide +kernel) (by decide +kernel) (by decide +kernel) (by decide +kernel) (by decide +kernel) (by decide +kernel)
theorem allAtoms_all (ts : List Jvm.Cond) (a : Array Jvm.Value) (st : Jvm.State) : (allAtoms ts).before a st = ts.all (fun c => c.before a st) := by
  induction ts with
  | nil => rfl
  | cons c t ih =>
    show (Jvm.Cond.and c (allAtoms t)).before a st = _
    rw [Jvm.Cond.before_and, ih, List.all_cons]
def words1 : List Jvm.Cond := Jvm.Cond.code x code maxLocals ret :: tables_1
/-- a 'code' word, met by the world's own term for the bytes: nothing is compared byte by byte -/
theorem code_word {y : MethodName} {bytes : ByteArray} {mx : Nat} {rt : Option FieldType} {a : Array Value} {s : State} {m : MethodId} {meth : Method} {c : Code} (h1 : s.methodNamed? y = some m) (h2 : s.vm.method? m = some meth) (h3 : meth.code = some c) (h4 : c.code = bytes)
    (h5 : (c.maxLocals == mx && c.exceptionTable.isEmpty && decide (c.maxStack ≤ mostOperands) && decide (meth.sig.returnType = rt) && !meth.locks && decide (parseMethodDescriptor y.desc = some meth.sig)) = true) : (Jvm.Cond.code y bytes mx rt).before a s = true := by
  simp only [Bool.and_eq_true, beq_iff_eq, Bool.not_eq_true', decide_eq_true_eq] at h5
  obtain ⟨⟨⟨⟨⟨g1, g2⟩, g3⟩, g4⟩, g5⟩, g6⟩ := h5
  simp [Cond.before, Cond.holds, Cond.value, h1, h2, h3, h4, g1, g2, g3, g4, g5, g6]
def isCode : Jvm.Cond → Bool
  | .code _ _ _ _ => true
  | _ => false
theorem all_split {L : List Jvm.Cond} {P : Jvm.Cond → Bool} (h1 : L.all (fun c => isCode c || P c) = true) (h2 : ∀ c ∈ L.filter isCode, P c = true) : L.all P = true := by
  refine List.all_eq_true.mpr fun c hc => ?_
  have h := List.all_eq_true.mp h1 c hc
  rcases Bool.eq_false_or_eq_true (isCode c) with hi | hi
  · exact h2 c (List.mem_filter.mpr ⟨hc, hi⟩)
  · simpa [hi] using h
set_option maxRecDepth 65536 in
theorem w_c0 : (Jvm.Cond.code x code maxLocals ret).before args0 about1 = true := code_word (m := ⟨1, 1⟩) (meth := k1m1) (c := k1c1) (by decide +kernel) rfl rfl rfl (by decide +kernel)
set_option maxRecDepth 65536 in
theorem w_c1 : (Jvm.Cond.code ({ cls := "spinecode/marc/Iso2709ReaderRecognisesPinLaw", name := "pick", desc := "(IIII)B" } : Jvm.MethodName) method_3_code (5 : Nat) (Option.some Jvm.ClassFile.FieldType.byte)).before args0 about1 = true := code_word (m := ⟨1, 2⟩) (meth := k1m2) (c := k1c2) (by decide +kernel) rfl rfl rfl (by decide +kernel)
set_option maxRecDepth 65536 in
theorem w_c2 : (Jvm.Cond.code ({ cls := "spinecode/marc/Iso2709Reader", name := "recognises", desc := "([B)Z" } : Jvm.MethodName) prog_17_method_3_code (1 : Nat) (Option.some Jvm.ClassFile.FieldType.boolean)).before args0 about1 = true := code_word (m := ⟨3, 0⟩) (meth := k3m0) (c := k3c0) (by decide +kernel) rfl rfl rfl (by decide +kernel)
set_option maxRecDepth 65536 in
theorem w_c3 : (Jvm.Cond.code ({ cls := "spinecode/marc/Iso2709ReaderRecognisesPinLaw", name := "isDigit", desc := "(B)Z" } : Jvm.MethodName) method_4_code (1 : Nat) (Option.some Jvm.ClassFile.FieldType.boolean)).before args0 about1 = true := code_word (m := ⟨1, 3⟩) (meth := k1m3) (c := k1c3) (by decide +kernel) rfl rfl rfl (by decide +kernel)
set_option maxRecDepth 65536 in
theorem w_c4 : (Jvm.Cond.code ({ cls := "spinecode/marc/Iso2709Reader", name := "number", desc := "([BII)I" } : Jvm.MethodName) prog_17_method_16_code (5 : Nat) (Option.some Jvm.ClassFile.FieldType.int)).before args0 about1 = true := code_word (m := ⟨3, 1⟩) (meth := k3m1) (c := k3c1) (by decide +kernel) rfl rfl rfl (by decide +kernel)
def codes1 : List Jvm.Cond := [Jvm.Cond.code x code maxLocals ret, Jvm.Cond.code ({ cls := "spinecode/marc/Iso2709ReaderRecognisesPinLaw", name := "pick", desc := "(IIII)B" } : Jvm.MethodName) method_3_code (5 : Nat) (Option.some Jvm.ClassFile.FieldType.byte), Jvm.Cond.code ({ cls := "spinecode/marc/Iso2709Reader", name := "recognises", desc := "([B)Z" } : Jvm.MethodName) prog_17_method_3_code (1 : Nat) (Option.some Jvm.ClassFile.FieldType.boolean), Jvm.Cond.code ({ cls := "spinecode/marc/Iso2709ReaderRecognisesPinLaw", name := "isDigit", desc := "(B)Z" } : Jvm.MethodName) method_4_code (1 : Nat) (Option.some Jvm.ClassFile.FieldType.boolean), Jvm.Cond.code ({ cls := "spinecode/marc/Iso2709Reader", name := "number", desc := "([BII)I" } : Jvm.MethodName) prog_17_method_16_code (5 : Nat) (Option.some Jvm.ClassFile.FieldType.int)]
set_option maxRecDepth 65536 in
theorem codes_eq : words1.filter isCode = codes1 := rfl
theorem w_codes : ∀ c ∈ words1.filter isCode, c.before args0 about1 = true := by
  rw [codes_eq]
  intro c hc
  simp only [codes1, List.mem_cons, List.not_mem_nil, or_false] at hc
  rcases hc with rfl | rfl | rfl | rfl | rfl
  · exact w_c0
  · exact w_c1
  · exact w_c2
  · exact w_c3
  · exact w_c4
set_option maxRecDepth 65536 in
theorem w_t1 : words1.all (fun c => isCode c || c.before args0 about1) = true := by decide +kernel
theorem w_tables : (allAtoms (Jvm.Cond.code x code maxLocals ret :: tables_1)).before args0 about1 = true := by
  rw [allAtoms_all]
  show words1.all (fun c => c.before args0 about1) = true
  refine all_split ?_ w_codes
  rw [w_t1]
set_option maxRecDepth 65536 in
theorem w_case : (Jvm.Cond.and given_1 narrow_1).before args0 about1 = true := by decide +kernel
theorem w_applies : (headSpec (Jvm.Cond.code x code maxLocals ret :: tables_1) room_1).applies x e0.platform about1 = true :=
  (Spec.applies_iff w_frames).mpr ⟨w_running, w_runnable, w_alone, w_named, w_hears, w_ripe, w_room, w_tables⟩
theorem atStart : AtStart classFile x code maxLocals ret World_1 tables_1 room_1 Calls_1 rest_1 Pre_1 launch0 p0 e0 about1 theMethod args0 below0 :=
  ⟨lists_1, trivial, launch0.admits_env _ _ _, launch0.least_env, fairChoices_fair.cas, fairChoices_fair.clock, w_frames, w_args, w_heap, w_applies, trivial, trivial, w_case⟩
end start1
theorem witness_1 : WitnessClaimed_1 := ⟨start1.p0, start1.e0, start1.about1, start1.theMethod, start1.args0, start1.below0, start1.atStart⟩
end Jvm.Pilot.@@N@@
