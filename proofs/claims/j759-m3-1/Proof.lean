import JvmDerived
import JvmDerived.Pilot.@@N@@Statement
import JvmDerived.Pilot.@@N@@Code
set_option linter.unusedVariables false
set_option linter.unusedSimpArgs false
namespace Jvm.RoadKit
open Sem ClassFile Op Lib Jvm.Stand Jvm.Free Jvm.LawKit
section New
variable {p : Program} {l : Launch} {e : Env} {R : Room} {s : State} {m : MethodId} {args : Array Value} {below : List Frame} {meth : Method} {c : Code} {T : State} {locs : List Loc} {cells slots : Nat}
theorem retI (X : Stand p l e R s m args below meth c T locs cells slots) (hx : p.tables.exec = Jvm.exec) {pc : Nat} {Ls : Array Slot} {z : Int32} {rest : List Value} (hret : meth.sig.returnType = some .int) (hd : decode c.code pc = .ok (.ireturn, 1)) {fs : List Frame}
    (hl : ∀ (f : JFrame) (acts : List Action), f.method = m → f.locked = none → f.entered = [] → (doReturn e (T.setTop f) acts (some (.int z))).1 = T.setFrames fs) : Steps p.tables e below (T.setTop (mkF m pc Ls (.int z :: rest))) (T.setFrames fs) := by
  have hm' : T.vm.method? m = some meth := X.method'
  have hn : narrow .int (.int z) = .int z := rfl
  show Steps p.tables e below (T.setTop { method := m, pc := pc, locals := Ls, stack := _ :: rest, locked := none }) _
  jvm_step X.here [X.here.top, hx, hd, hm', hret, hn]
  first | (intro acts; rw [hl _ acts rfl rfl rfl]) | rw [hl _ _ rfl rfl rfl]
  exact Steps.refl _
end New
end Jvm.RoadKit
namespace Jvm.Pilot.@@N@@
open Jvm Jvm.ClassFile Sem Op Lib Jvm.Free Jvm.Stand Jvm.LawKit Jvm.RoadKit Bundle Jvm.Pilot.@@N@@.Jvm.D
/-! MY OWN LAYER, 1: a walk in forward style -/
/-- from the state S the run ends, and Q holds of the end -/
def Goes (tb : Tables) (e : Env) (below : List Frame) (Q : Outcome → State → Prop) (S : State) : Prop :=
  ∃ s₂ o, Steps tb e below S s₂ ∧ s₂.status = .running ∧ Ended s₂ below o ∧ Q o s₂
theorem Goes.out {tb : Tables} {e : Env} {below : List Frame} {Q : Outcome → State → Prop} {S : State} (h : Goes tb e below Q S) :
    ∃ s₂ o, Steps tb e below S s₂ ∧ s₂.status = .running ∧ Ended s₂ below o ∧ Q o s₂ := h
theorem Goes.step {tb : Tables} {e : Env} {below : List Frame} {Q : Outcome → State → Prop} {S S' : State}
    (h : ∀ t, Steps tb e below S' t → Steps tb e below S t) (k : Goes tb e below Q S') : Goes tb e below Q S := by
  obtain ⟨s₂, o, h1, h2⟩ := k
  exact ⟨s₂, o, h _ h1, h2⟩
section Ites
variable {tb : Tables} {e : Env} {below : List Frame} {T S : State} {c : Prop} [Decidable c]
theorem own_ite0 {F : JFrame} (hy : c → ∀ t, Steps tb e below (T.setTop F) t → Steps tb e below S t) (hn : ¬ c → ∀ t, Steps tb e below (T.setTop F) t → Steps tb e below S t) :
    ∀ t, Steps tb e below (T.setTop F) t → Steps tb e below S t := fun t k => by
  by_cases h : c
  · exact hy h t k
  · exact hn h t k
theorem own_ite1 {A0 : Type} {a0 b0 : A0} {F : A0 → JFrame} (hy : c → ∀ t, Steps tb e below (T.setTop (F a0)) t → Steps tb e below S t) (hn : ¬ c → ∀ t, Steps tb e below (T.setTop (F b0)) t → Steps tb e below S t) :
    ∀ t, Steps tb e below (T.setTop (F (if c then a0 else b0))) t → Steps tb e below S t := fun t k => by
  by_cases h : c
  · rw [if_pos h] at k; exact hy h t k
  · rw [if_neg h] at k; exact hn h t k
theorem own_ite2 {A0 A1 : Type} {a0 b0 : A0} {a1 b1 : A1} {F : A0 → A1 → JFrame} (hy : c → ∀ t, Steps tb e below (T.setTop (F a0 a1)) t → Steps tb e below S t) (hn : ¬ c → ∀ t, Steps tb e below (T.setTop (F b0 b1)) t → Steps tb e below S t) :
    ∀ t, Steps tb e below (T.setTop (F (if c then a0 else b0) (if c then a1 else b1))) t → Steps tb e below S t := fun t k => by
  by_cases h : c
  · rw [if_pos h, if_pos h] at k; exact hy h t k
  · rw [if_neg h, if_neg h] at k; exact hn h t k
theorem own_ite3 {A0 A1 A2 : Type} {a0 b0 : A0} {a1 b1 : A1} {a2 b2 : A2} {F : A0 → A1 → A2 → JFrame} (hy : c → ∀ t, Steps tb e below (T.setTop (F a0 a1 a2)) t → Steps tb e below S t) (hn : ¬ c → ∀ t, Steps tb e below (T.setTop (F b0 b1 b2)) t → Steps tb e below S t) :
    ∀ t, Steps tb e below (T.setTop (F (if c then a0 else b0) (if c then a1 else b1) (if c then a2 else b2))) t → Steps tb e below S t := fun t k => by
  by_cases h : c
  · rw [if_pos h, if_pos h, if_pos h] at k; exact hy h t k
  · rw [if_neg h, if_neg h, if_neg h] at k; exact hn h t k
end Ites
section Rets
variable {p : Program} {l : Launch} {e : Env} {R : Room} {s : State} {m : MethodId} {args : Array Value} {below : List Frame} {meth : Method} {c : Code} {T : State} {locs : List Loc} {cells slots : Nat}
variable {QQ : Option Value → Heap → List Loc → Prop} {C0 S0 : Nat} {pc : Nat} {Ls : Array Slot} {rest : List Value}
theorem Goes.retN (X : Stand p l e R s m args below meth c T locs cells slots) (hx : p.tables.exec = Jvm.exec) (hlk : meth.locks = false) {t : FieldType} {z : Int32} (hret : meth.sig.returnType = some t) (ht : t = .boolean ∨ t = .byte ∨ t = .char ∨ t = .short)
    (hd : decode c.code pc = .ok (.ireturn, 1)) (hC : cells ≤ C0) (hS : slots ≤ S0) (hQ : QQ (some (.int (nar t z))) T.heap locs) :
    Goes p.tables e below (fun o U' => ∃ v L, o = .returned v ∧ QQ v U'.heap L ∧ FrameEnd s o U' L C0 S0) (T.setTop (mkF m pc Ls (.int z :: rest))) := by
  obtain ⟨fs, hr, hrun, hended, hW, hsame⟩ := X.leave (v := some (.int (nar t z))) (fun h => by rw [hret] at h; cases h) hlk
  exact ⟨_, _, Jvm.RoadKit.retN X hx hret ht hd hr, hrun, hended, _, _, rfl, hQ, ⟨_, rfl⟩, hW, hsame.mono hC hS⟩
theorem Goes.retI (X : Stand p l e R s m args below meth c T locs cells slots) (hx : p.tables.exec = Jvm.exec) (hlk : meth.locks = false) {z : Int32} (hret : meth.sig.returnType = some .int)
    (hd : decode c.code pc = .ok (.ireturn, 1)) (hC : cells ≤ C0) (hS : slots ≤ S0) (hQ : QQ (some (.int z)) T.heap locs) :
    Goes p.tables e below (fun o U' => ∃ v L, o = .returned v ∧ QQ v U'.heap L ∧ FrameEnd s o U' L C0 S0) (T.setTop (mkF m pc Ls (.int z :: rest))) := by
  obtain ⟨fs, hr, hrun, hended, hW, hsame⟩ := X.leave (v := some (.int z)) (fun h => by rw [hret] at h; cases h) hlk
  exact ⟨_, _, Jvm.RoadKit.retI X hx hret hd hr, hrun, hended, _, _, rfl, hQ, ⟨_, rfl⟩, hW, hsame.mono hC hS⟩
theorem Goes.retJ (X : Stand p l e R s m args below meth c T locs cells slots) (hx : p.tables.exec = Jvm.exec) (hlk : meth.locks = false) {z : Int64} (hret : meth.sig.returnType = some .long)
    (hd : decode c.code pc = .ok (.lreturn, 1)) (hC : cells ≤ C0) (hS : slots ≤ S0) (hQ : QQ (some (.long z)) T.heap locs) :
    Goes p.tables e below (fun o U' => ∃ v L, o = .returned v ∧ QQ v U'.heap L ∧ FrameEnd s o U' L C0 S0) (T.setTop (mkF m pc Ls (.long z :: rest))) := by
  obtain ⟨fs, hr, hrun, hended, hW, hsame⟩ := X.leave (v := some (.long z)) (fun h => by rw [hret] at h; cases h) hlk
  refine ⟨_, _, ?_, hrun, hended, _, _, rfl, hQ, ⟨_, rfl⟩, hW, hsame.mono hC hS⟩
  jvm_step X.here [X.here.top, hx, hd, X.method', hret, narrow]
  first | (intro acts; rw [hr _ acts rfl rfl rfl]) | rw [hr _ _ rfl rfl rfl]
  exact Steps.refl _
theorem Goes.retA (X : Stand p l e R s m args below meth c T locs cells slots) (hx : p.tables.exec = Jvm.exec) (hlk : meth.locks = false) {a : Addr} {t : FieldType} (hret : meth.sig.returnType = some t) (ht : t.isReference = true)
    (hd : decode c.code pc = .ok (.areturn, 1)) (hC : cells ≤ C0) (hS : slots ≤ S0) (hQ : QQ (some (.ref a)) T.heap locs) :
    Goes p.tables e below (fun o U' => ∃ v L, o = .returned v ∧ QQ v U'.heap L ∧ FrameEnd s o U' L C0 S0) (T.setTop (mkF m pc Ls (.ref a :: rest))) := by
  obtain ⟨fs, hr, hrun, hended, hW, hsame⟩ := X.leave (v := some (.ref a)) (fun h => by rw [hret] at h; cases h) hlk
  refine ⟨_, _, ?_, hrun, hended, _, _, rfl, hQ, ⟨_, rfl⟩, hW, hsame.mono hC hS⟩
  jvm_step X.here [X.here.top, hx, hd, X.method', hret, Value.isRef, ht]
  first | (intro acts; rw [hr _ acts rfl rfl rfl]) | rw [hr _ _ rfl rfl rfl]
  exact Steps.refl _
theorem Goes.retV (X : Stand p l e R s m args below meth c T locs cells slots) (hx : p.tables.exec = Jvm.exec) (hlk : meth.locks = false) (hret : meth.sig.returnType = none)
    (hd : decode c.code pc = .ok (.return_, 1)) (hC : cells ≤ C0) (hS : slots ≤ S0) (hQ : QQ none T.heap locs) :
    Goes p.tables e below (fun o U' => ∃ v L, o = .returned v ∧ QQ v U'.heap L ∧ FrameEnd s o U' L C0 S0) (T.setTop (mkF m pc Ls [])) := by
  obtain ⟨fs, hr, hrun, hended, hW, hsame⟩ := X.leave (v := none) (fun _ => rfl) hlk
  exact ⟨_, _, X.returnOut hx hret hd hr, hrun, hended, _, _, rfl, hQ, ⟨_, rfl⟩, hW, hsame.mono hC hS⟩
theorem own_lrem {g : JFrame} {target : State} (X : Stand p l e R s m args below meth c T locs cells slots) (hx : p.tables.exec = Jvm.exec) (hg : g.method = m) {x y : Int64} {rest : List Value} (hd : decode c.code g.pc = .ok (.lrem, 1)) (hs : g.stack = .long y :: .long x :: rest) (hy : y ≠ 0)
    (hr : Steps p.tables e below (T.setTop { g with pc := g.pc + 1, stack := .long (x % y) :: rest }) target) : Steps p.tables e below (T.setTop g) target :=
  XS.lrem X.here hx hg hd hs hy (by rw [lrem_mod]; exact hr)
end Rets
/-! MY OWN LAYER, 2: an array of ints (bytes, chars ..) by the list of its values, whole -/
def AI (Z : State) (h : Heap) (a : Addr) (k : ClassId) (ty : FieldType) (n : Int32) (vs : List Int32) : Prop :=
  Arv Z h a k ty n (vs.map Value.int) (.int 0) ∧ vs.length = n.toNatClampNeg
section Arrays
variable {p : Program} {l : Launch} {e : Env} {R : Room} {s : State} {m : MethodId} {args : Array Value} {below : List Frame} {meth : Method} {c : Code} {T : State} {locs : List Loc} {cells slots : Nat}
variable {Z : State} {h h' : Heap} {a b : Addr} {k : ClassId} {ty : FieldType} {n : Int32} {vs : List Int32} {sl : Nat} {v : Value} {ws : List Addr}
theorem AI.lt (F : AI Z h a k ty n vs) : a < h.size := F.1.lt
theorem AI.nn (F : AI Z h a k ty n vs) : ¬ n < 0 := by obtain ⟨⟨c, -, -, -, q, -⟩, -⟩ := F; exact q
theorem AI.ext (F : AI Z h a k ty n vs) (E : Ext h h') : AI Z h' a k ty n vs := ⟨F.1.ext E, F.2⟩
theorem AI.other (F : AI Z h b k ty n vs) (W : Wr h h' a sl v) (q : b ≠ a) : AI Z h' b k ty n vs := ⟨F.1.other W q, F.2⟩
theorem AI.keep (F : AI Z h a k ty n vs) (K : Keep h h' ws) (q : a ∉ ws) : AI Z h' a k ty n vs := ⟨F.1.keep K q, F.2⟩
theorem own_getD (vs : List Int32) (i : Nat) : (vs.map Value.int).getD i (.int 0) = .int (vs.getD i 0) := by
  simp only [List.getD_eq_getElem?_getD, List.getElem?_map]
  cases vs[i]? <;> rfl
theorem own_new {q : Int32} (A : Arr Z h a (newA k ty q) ty) (hq : ¬ q < 0) (hd : defaultValue ty = .int 0) {vs : List Int32} (hv : vs = List.replicate q.toNatClampNeg 0 := by rfl) : AI Z h a k ty q vs := by
  subst hv
  have V := Arv.new A hq
  rw [hd] at V
  refine ⟨?_, by simp⟩
  have q1 := V.pad (pad_rep [] (.int 0) q.toNatClampNeg)
  rw [List.nil_append] at q1
  rw [List.map_replicate]; exact q1
theorem own_inb {cl : Cell} {j : Int32} (S : cl.slots.size = n.toNatClampNeg) (q : ¬ j < 0 ∧ j < n) : ¬ (j < 0 ∨ cl.slots.size ≤ j.toNatClampNeg) := inb_of S q
theorem own_jlt {j : Int32} (q : ¬ j < 0 ∧ j < n) : j.toNatClampNeg < n.toNatClampNeg := by
  obtain ⟨q1, q2⟩ := q
  rw [Int32.lt_iff_toInt_lt] at q1 q2
  have e0 : (0 : Int32).toInt = 0 := rfl
  simp only [Int32.toNatClampNeg] at *; omega
theorem own_iaload {pc : Nat} {Ls : Array Slot} {rest : List Value} {j : Int32} (X : Stand p l e R s m args below meth c T locs cells slots) (hx : p.tables.exec = Jvm.exec) (hZ : Z.Warmed39 s.vm) (eT : T.heap = h) (F : AI Z h a k .int n vs) (hj : ¬ j < 0 ∧ j < n)
    (hd : decode c.code pc = .ok (.iaload, 1)) (t : State) (kk : Steps p.tables e below (T.setTop (mkF m (pc + 1) Ls (.int (vs.getD j.toNatClampNeg 0) :: rest))) t) : Steps p.tables e below (T.setTop (mkF m pc Ls (.int j :: .ref a :: rest))) t := by
  obtain ⟨⟨cl, A, -, S, -, H, -⟩, hl⟩ := F
  have hin := own_inb S hj
  exact X.iaload hx (j := j) (v := .int (vs.getD j.toNatClampNeg 0)) (by rw [eT]; exact A.1) (State.isArrayOf_alike hZ.alike A.2.1) A.2.2 hin (H.at hin (own_getD _ _)) (g := mkF m pc Ls (.int j :: .ref a :: rest)) rfl rfl hd _ kk
theorem own_baload {pc : Nat} {Ls : Array Slot} {rest : List Value} {j : Int32} (X : Stand p l e R s m args below meth c T locs cells slots) (hx : p.tables.exec = Jvm.exec) (hZ : Z.Warmed39 s.vm) (eT : T.heap = h) (F : AI Z h a k .byte n vs) (hj : ¬ j < 0 ∧ j < n)
    (hd : decode c.code pc = .ok (.baload, 1)) (t : State) (kk : Steps p.tables e below (T.setTop (mkF m (pc + 1) Ls (.int (vs.getD j.toNatClampNeg 0) :: rest))) t) : Steps p.tables e below (T.setTop (mkF m pc Ls (.int j :: .ref a :: rest))) t := by
  obtain ⟨⟨cl, A, -, S, -, H, -⟩, hl⟩ := F
  have hin := own_inb S hj
  exact X.baloadBytes hx (j := j) (v := .int (vs.getD j.toNatClampNeg 0)) (by rw [eT]; exact A.1) (State.isArrayOf_alike hZ.alike A.2.1) A.2.2 hin (H.at hin (own_getD _ _)) (g := mkF m pc Ls (.int j :: .ref a :: rest)) rfl rfl hd _ kk
theorem own_len {pc : Nat} {Ls : Array Slot} {rest : List Value} (X : Stand p l e R s m args below meth c T locs cells slots) (hx : p.tables.exec = Jvm.exec) (hZ : Z.Warmed39 s.vm) (eT : T.heap = h) (F : AI Z h a k ty n vs)
    (hd : decode c.code pc = .ok (.arraylength, 1)) (t : State) (kk : Steps p.tables e below (T.setTop (mkF m (pc + 1) Ls (.int n :: rest))) t) : Steps p.tables e below (T.setTop (mkF m pc Ls (.ref a :: rest))) t := by
  obtain ⟨⟨cl, A, -, S, N, H, -⟩, hl⟩ := F
  refine X.arraylength hx (by rw [eT]; exact A.1) (State.isArrayOf_alike hZ.alike A.2.1) (g := mkF m pc Ls (.ref a :: rest)) rfl rfl hd _ ?_
  rw [len_of S N]; exact kk
theorem own_iastore {j x : Int32} (X : Stand p l e R s m args below meth c T locs cells slots) (hx : p.tables.exec = Jvm.exec) (hZ : Z.Warmed39 s.vm) (eT : T.heap = h) (F : AI Z h a k .int n vs) (hj : ¬ j < 0 ∧ j < n) {g : JFrame} (hg : g.method = m) {rest : List Value} (hs : g.stack = .int x :: .int j :: .ref a :: rest) (hd : decode c.code g.pc = .ok (.iastore, 1)) :
    ∃ T' h', Stand p l e R s m args below meth c T' (locs ++ [⟨a, j.toNatClampNeg⟩]) cells slots ∧ T'.heap = h' ∧ Wr h h' a j.toNatClampNeg (.int x) ∧ AI Z h' a k .int n (vs.set j.toNatClampNeg x) ∧ ∀ target, Steps p.tables e below (T'.setTop { g with pc := g.pc + 1, stack := rest }) target → Steps p.tables e below (T.setTop g) target := by
  obtain ⟨⟨cl, A, q1, S, N, H, G⟩, hl⟩ := F
  obtain ⟨T', h', X', e', W, st⟩ := stI X hx hZ eT A (own_inb S hj) hg hs hd
  refine ⟨T', h', X', e', W, ⟨?_, by simpa using hl⟩, st⟩
  rw [List.map_set]
  exact Arv.set A q1 S N H G rfl W _ rfl (by rw [List.length_map, hl]; exact own_jlt hj)
theorem own_bastore {j x : Int32} (X : Stand p l e R s m args below meth c T locs cells slots) (hx : p.tables.exec = Jvm.exec) (hZ : Z.Warmed39 s.vm) (eT : T.heap = h) (F : AI Z h a k .byte n vs) (hj : ¬ j < 0 ∧ j < n) {g : JFrame} (hg : g.method = m) {rest : List Value} (hs : g.stack = .int x :: .int j :: .ref a :: rest) (hd : decode c.code g.pc = .ok (.bastore, 1)) :
    ∃ T' h', Stand p l e R s m args below meth c T' (locs ++ [⟨a, j.toNatClampNeg⟩]) cells slots ∧ T'.heap = h' ∧ Wr h h' a j.toNatClampNeg (.int (nar .byte x)) ∧ AI Z h' a k .byte n (vs.set j.toNatClampNeg (nar .byte x)) ∧ ∀ target, Steps p.tables e below (T'.setTop { g with pc := g.pc + 1, stack := rest }) target → Steps p.tables e below (T.setTop g) target := by
  obtain ⟨⟨cl, A, q1, S, N, H, G⟩, hl⟩ := F
  obtain ⟨T', h', X', e', W, st⟩ := stB X hx hZ eT A (own_inb S hj) hg hs hd
  refine ⟨T', h', X', e', W, ⟨?_, by simpa using hl⟩, st⟩
  rw [List.map_set]
  exact Arv.set A q1 S N H G (fits_nar_byte _) W _ rfl (by rw [List.length_map, hl]; exact own_jlt hj)
end Arrays
/-! MY OWN LAYER, 3: numbers -/
theorem own_b255 (x : Int32) : (nar .byte (x.toInt8.toInt32)) &&& 255 = x &&& 255 := by
  have a := c_i2b x
  have b := c_i2b x.toInt8.toInt32
  have m1 : ((x.toInt8.toInt32.toInt8.toInt32) &&& 255).toInt = (x.toInt8.toInt32.toInt8.toInt32).toInt % 256 := c_mask _ 255 8 (by decide) (by decide)
  have m2 : (x &&& 255).toInt = x.toInt % 256 := c_mask _ 255 8 (by decide) (by decide)
  apply Int32.toInt_inj.mp
  show ((x.toInt8.toInt32.toInt8.toInt32) &&& 255).toInt = _
  omega
theorem own_m255 (x : Int32) : (x &&& 255).toInt = x.toInt % 256 := c_mask _ 255 8 (by decide) (by decide)
theorem own_or8 (a b : Int32) (h1 : 0 ≤ a.toInt) (h2 : a.toInt < 256) (h3 : 0 ≤ b.toInt) (h4 : b.toInt < 256) : ((a <<< ((8 : Int32) &&& 31)) ||| b).toInt = a.toInt * 256 + b.toInt := by
  have s : ((a <<< ((8 : Int32) &&& 31)).toInt - a.toInt * 256) % 4294967296 = 0 := c_ishl a 8 8 (by decide)
  have r := rng32 (a <<< ((8 : Int32) &&& 31))
  have e : (a <<< ((8 : Int32) &&& 31)).toInt = a.toInt * 256 := by omega
  have o := c_or (a <<< ((8 : Int32) &&& 31)) b 8 (by decide) 256 (by decide) (by omega) h3 h4
  have r2 := rng32 ((a <<< ((8 : Int32) &&& 31)) ||| b)
  omega
theorem own_nar0 : nar .boolean 0 = 0 := by decide
theorem own_nar1 : nar .boolean 1 = 1 := by decide
theorem own_and_xor (a b m : Int64) : (a ^^^ b) &&& m = (a &&& m) ^^^ (b &&& m) := by
  apply Int64.toBitVec_inj.mp
  simp only [Int64.toBitVec_and, Int64.toBitVec_xor]
  apply BitVec.eq_of_toNat_eq
  simp only [BitVec.toNat_and, BitVec.toNat_xor]
  exact Nat.and_xor_distrib_right
theorem own_xor (a b m : Int64) (h : (a ^^^ b) &&& m = a &&& m) : b &&& m = 0 := by
  rw [own_and_xor] at h
  have e : (a &&& m) ^^^ ((a &&& m) ^^^ (b &&& m)) = (a &&& m) ^^^ (a &&& m) := by rw [h]
  rw [← Int64.xor_assoc, Int64.xor_self, Int64.zero_xor] at e
  exact e
theorem own_low (p4 : Int32) : ((1 : Int64) <<< ((p4 &&& (15 : Int32)) &&& 0x3f).toInt64) &&& 65535 ≠ 0 := by
  have b : (p4 &&& 15).toInt = p4.toInt % 16 := c_mask p4 15 4 (by decide) (by decide)
  generalize p4 &&& 15 = k at *
  have hk : k = Int32.ofNat (k.toInt.toNat) := by
    apply Int32.toInt_inj.mp
    rw [Int32.toInt_ofNat_small (by omega)]
    omega
  have hl : k.toInt.toNat < 16 := by omega
  rw [hk]
  have all : ∀ i : Fin 16, ((1 : Int64) <<< ((Int32.ofNat i.1) &&& 0x3f).toInt64) &&& 65535 ≠ 0 := by decide
  exact all ⟨_, hl⟩
theorem own_high (p4 : Int32) : ((1 : Int64) <<< (((16 : Int32) + ((p4 &&& (2147483647 : Int32)) % (48 : Int32))) &&& 0x3f).toInt64) &&& 65535 = 0 := by
  have a : (p4 &&& 2147483647).toInt = p4.toInt % 2147483648 := c_mask p4 2147483647 31 (by decide) (by decide)
  have b := c_irem (p4 &&& 2147483647) 48 48 (by decide)
  have d := c_iadd 16 ((p4 &&& 2147483647) % 48)
  have r := rng32 (16 + ((p4 &&& 2147483647) % 48))
  simp only [Int32.reduceToInt] at d
  generalize (16 : Int32) + ((p4 &&& 2147483647) % 48) = k at *
  have hk : k = Int32.ofNat (k.toInt.toNat) := by
    apply Int32.toInt_inj.mp
    rw [Int32.toInt_ofNat_small (by omega)]
    omega
  have hl : k.toInt.toNat - 16 < 48 := by omega
  have he : k.toInt.toNat = 16 + (k.toInt.toNat - 16) := by omega
  rw [hk, he]
  have all : ∀ i : Fin 48, ((1 : Int64) <<< ((Int32.ofNat (16 + i.1)) &&& 0x3f).toInt64) &&& 65535 = 0 := by decide
  exact all ⟨_, hl⟩
theorem d2_0 : decode jdk_30_method_1_code 0 = .ok (.aload_n 0, 1) := by decide +kernel
theorem d2_1 : decode jdk_30_method_1_code 1 = .ok (.invokespecial 1, 3) := by decide +kernel
theorem d2_4 : decode jdk_30_method_1_code 4 = .ok (.return_, 1) := by decide +kernel
theorem pn0 : plainName "java/lang/Record" = true := by first | (simp [plainName, overriddenIn]; done) | decide +kernel
theorem ef2 (m : MethodId) (u0 : Addr) : entryFrame m #[(.ref u0)] 1 = mkF m 0 #[.val (.ref u0)] [] := by first | (simp [entryFrame, mkF, argsToLocals, Value.category]; done) | rfl
def Q2 (Z : State) (u0 : Addr) (h0 : Heap) (n0 : Nat) (v : Option Value) (h : Heap) (L : List Loc) : Prop := v = none ∧ Fr n0 L ∧ h = h0
set_option maxRecDepth 65536 in
set_option maxHeartbeats 40000000 in
theorem rm2 (l : Launch) (Z : State) (a0 : Array Value) (hw : ∀ d ∈ tables_1, d.before a0 Z = true) (ws : List Jvm.Cond) (u0 : Addr) (h0 : Heap) (n0 : Nat) (Z0 : n0 ≤ h0.size) :
    MetFree l (⟨"java/lang/Record", "<init>", "()V"⟩ : MethodName) (head1 (Jvm.Cond.code (⟨"java/lang/Record", "<init>", "()V"⟩ : MethodName) jdk_30_method_1_code 1 none :: ws) ({ frames := 1, cells := 0, slots := 0, locals := 12 } : Room)) (fun a U => a = #[(.ref u0)] ∧ Z.Warmed39 U.vm ∧ U.heap = h0) (fun _ _ _ _ _ => True) (fun _ U o U' => ∃ v L, o = .returned v ∧ Q2 Z u0 h0 n0 v U'.heap L ∧ FrameEnd U o U' L ({ frames := 1, cells := 0, slots := 0, locals := 12 } : Room).cells ({ frames := 1, cells := 0, slots := 0, locals := 12 } : Room).slots) := by
  refine MetFree.of_bodySF (plainFor_of_name pn0) hisR ?_
  intro p e s m args below meth c s₁ Bd hml0 hP hK
  obtain ⟨rfl, hZ, hh⟩ := hP
  have hx := Bd.exec
  have hby := Bd.bytes
  have hml : c.maxLocals = 1 := hml0
  have hown : s.vm.findClass "java/lang/Record" = some m.cls := findClass_of_methodNamed Bd.named
  have hnm := (name_of_methodNamed Bd.named Bd.method).1
  have X0 : Stand p l e ({ frames := 1, cells := 0, slots := 0, locals := 12 } : Room) s m #[(.ref u0)] below meth c s₁ [] 0 0 := Stand.of_body Bd
  have e0 : s₁.heap = h0 := by rw [← hh, Bd.state]; rfl
  have N0 := Fr.nil n0
  refine Goes.out (Q := fun o U' => ∃ v L, o = .returned v ∧ Q2 Z u0 h0 n0 v U'.heap L ∧ FrameEnd s o U' L ({ frames := 1, cells := 0, slots := 0, locals := 12 } : Room).cells ({ frames := 1, cells := 0, slots := 0, locals := 12 } : Room).slots) ?_
  refine Goes.step (S' := s₁.setTop (mkF m 0 #[.val (.ref u0)] [])) (fun _ k => castTop (ef2 m u0) k) ?_
  refine Goes.step (S' := s₁.setTop (mkF m 1 #[.val (.ref u0)] [(.ref u0)])) (fun _ k => XS.aloadN X0.here hx rfl (hb hby d2_0) rfl rfl k) ?_
  obtain ⟨T1, X1, e1, st1⟩ := initO X0 hx hZ hown (hw _ (List.mem_of_getElem? (i := 12) rfl)) (hw _ (List.mem_of_getElem? (i := 13) rfl)) (hw _ (List.mem_of_getElem? (i := 14) rfl)) e0 (g := (mkF m 1 #[.val (.ref u0)] [(.ref u0)])) rfl (by rw [hml]; rfl) rfl (hb hby d2_1) (by decide) (W := 0) (by show 2 * 0 + _ ≤ _; exact Nat.le_of_eq rfl) (by decide)
  refine Goes.step (S' := T1.setTop (mkF m 4 #[.val (.ref u0)] [])) st1 ?_
  refine Goes.retV X1 hx Bd.notSynchronized Bd.returns (hb hby d2_4) (by decide) (by decide) ?_
  exact ⟨rfl, N0, e1⟩
theorem pd0 : parseMethodDescriptor "()V" = some ⟨[], none⟩ := by decide +kernel
theorem d1_0 : decode prog_116_method_1_code 0 = .ok (.aload_n 0, 1) := by decide +kernel
theorem d1_1 : decode prog_116_method_1_code 1 = .ok (.invokespecial 3, 3) := by decide +kernel
theorem d1_4 : decode prog_116_method_1_code 4 = .ok (.aload_n 0, 1) := by decide +kernel
theorem d1_5 : decode prog_116_method_1_code 5 = .ok (.lload_n 1, 1) := by decide +kernel
theorem d1_6 : decode prog_116_method_1_code 6 = .ok (.putfield 9, 3) := by decide +kernel
theorem d1_9 : decode prog_116_method_1_code 9 = .ok (.aload_n 0, 1) := by decide +kernel
theorem d1_10 : decode prog_116_method_1_code 10 = .ok (.lload_n 3, 1) := by decide +kernel
theorem d1_11 : decode prog_116_method_1_code 11 = .ok (.putfield 13, 3) := by decide +kernel
theorem d1_14 : decode prog_116_method_1_code 14 = .ok (.return_, 1) := by decide +kernel
theorem pn1 : plainName "com/example/pickrelay/pickrelay/store/JobKey" = true := by first | (simp [plainName, overriddenIn]; done) | decide +kernel
theorem ef1 (m : MethodId) (u0 : Addr) (q1 : Int64) (q2 : Int64) : entryFrame m #[(.ref u0), (.long q1), (.long q2)] 5 = mkF m 0 #[.val (.ref u0), .val (.long q1), .second, .val (.long q2), .second] [] := by first | (simp [entryFrame, mkF, argsToLocals, Value.category]; done) | rfl
def Q1 (Z : State) (u0 : Addr) (q1 : Int64) (q2 : Int64) (h0 : Heap) (n0 : Nat) (v : Option Value) (h : Heap) (L : List Loc) : Prop := v = none ∧ Fr n0 L ∧ Keep h0 h [u0] ∧ Exa Z h u0 "com/example/pickrelay/pickrelay/store/JobKey" ∧ Fld Z h u0 "com/example/pickrelay/pickrelay/store/JobKey" "hash" "J" (.long q1) ∧ Fld Z h u0 "com/example/pickrelay/pickrelay/store/JobKey" "tag" "J" (.long q2)
set_option maxRecDepth 65536 in
set_option maxHeartbeats 40000000 in
theorem rm1 (l : Launch) (Z : State) (a0 : Array Value) (hw : ∀ d ∈ tables_1, d.before a0 Z = true) (ws : List Jvm.Cond) (u0 : Addr) (q1 : Int64) (q2 : Int64) (h0 : Heap) (n0 : Nat) (Z0 : n0 ≤ h0.size) (E_u0 : Exa Z h0 u0 "com/example/pickrelay/pickrelay/store/JobKey") (F_hash_u0 : Fld Z h0 u0 "com/example/pickrelay/pickrelay/store/JobKey" "hash" "J" (.long (0 : Int64))) (F_tag_u0 : Fld Z h0 u0 "com/example/pickrelay/pickrelay/store/JobKey" "tag" "J" (.long (0 : Int64))) (g_u0 : n0 ≤ u0) :
    MetFree l (⟨"com/example/pickrelay/pickrelay/store/JobKey", "<init>", "(JJ)V"⟩ : MethodName) (head1 (Jvm.Cond.code (⟨"com/example/pickrelay/pickrelay/store/JobKey", "<init>", "(JJ)V"⟩ : MethodName) prog_116_method_1_code 5 none :: ws) ({ frames := 2, cells := 0, slots := 0, locals := 24 } : Room)) (fun a U => a = #[(.ref u0), (.long q1), (.long q2)] ∧ Z.Warmed39 U.vm ∧ U.heap = h0) (fun _ _ _ _ _ => True) (fun _ U o U' => ∃ v L, o = .returned v ∧ Q1 Z u0 q1 q2 h0 n0 v U'.heap L ∧ FrameEnd U o U' L ({ frames := 2, cells := 0, slots := 0, locals := 24 } : Room).cells ({ frames := 2, cells := 0, slots := 0, locals := 24 } : Room).slots) := by
  refine MetFree.of_bodySF (plainFor_of_name pn1) hisR ?_
  intro p e s m args below meth c s₁ Bd hml0 hP hK
  obtain ⟨rfl, hZ, hh⟩ := hP
  have hx := Bd.exec
  have hby := Bd.bytes
  have hml : c.maxLocals = 5 := hml0
  have hown : s.vm.findClass "com/example/pickrelay/pickrelay/store/JobKey" = some m.cls := findClass_of_methodNamed Bd.named
  have hnm := (name_of_methodNamed Bd.named Bd.method).1
  have X0 : Stand p l e ({ frames := 2, cells := 0, slots := 0, locals := 24 } : Room) s m #[(.ref u0), (.long q1), (.long q2)] below meth c s₁ [] 0 0 := Stand.of_body Bd
  have e0 : s₁.heap = h0 := by rw [← hh, Bd.state]; rfl
  have N0 := Fr.nil n0
  have K0 : Keep h0 h0 [u0] := Keep.refl _ _
  refine Goes.out (Q := fun o U' => ∃ v L, o = .returned v ∧ Q1 Z u0 q1 q2 h0 n0 v U'.heap L ∧ FrameEnd s o U' L ({ frames := 2, cells := 0, slots := 0, locals := 24 } : Room).cells ({ frames := 2, cells := 0, slots := 0, locals := 24 } : Room).slots) ?_
  refine Goes.step (S' := s₁.setTop (mkF m 0 #[.val (.ref u0), .val (.long q1), .second, .val (.long q2), .second] [])) (fun _ k => castTop (ef1 m u0 q1 q2) k) ?_
  refine Goes.step (S' := s₁.setTop (mkF m 1 #[.val (.ref u0), .val (.long q1), .second, .val (.long q2), .second] [(.ref u0)])) (fun _ k => XS.aloadN X0.here hx rfl (hb hby d1_0) rfl rfl k) ?_
  obtain ⟨_, _, ⟨T1, L1, k1, n1⟩, -, X1, ⟨Lc1, hQ1, l1, y1, z1⟩, st1⟩ := X0.specialBack hx (y := (⟨"java/lang/Record", "<init>", "()V"⟩ : MethodName)) rfl hown (mvT hZ (hw _ (List.mem_of_getElem? (i := 7) rfl))) (mvT hZ (hw _ (List.mem_of_getElem? (i := 8) rfl))) (mvT hZ (hw _ (List.mem_of_getElem? (i := 11) rfl))) (by decide) (backOf (W := 0) (rm2 l Z a0 hw [] u0 h0 n0 Z0) hZ (hw _ (List.mem_of_getElem? (i := 11) rfl)) (hw _ (List.mem_of_getElem? (i := 10) rfl)) (by decide) (by decide)) (g := (mkF m 1 #[.val (.ref u0), .val (.long q1), .second, .val (.long q2), .second] [(.ref u0)])) rfl (by rw [hml]; rfl) (Steps.refl _) (a := u0) (argsL := []) (rest := []) (lenOf pd0 rfl) rfl (by show 2 * 0 + _ ≤ _; exact Nat.le_of_eq rfl) (hb hby d1_1) (fun _ _ => ⟨rfl, e0, (by decide : 0 + 0 ≤ _), (by decide : 0 + 0 ≤ _)⟩)
  dsimp only [Pt.U, Pt.locs, Pt.cells, Pt.slots] at X1 l1 y1 z1 st1 hQ1
  subst l1 y1 z1
  obtain ⟨rfl, N1q, e1⟩ := hQ1
  have N2 := Fr.app N0 N1q
  refine Goes.step (S' := T1.setTop (mkF m 4 #[.val (.ref u0), .val (.long q1), .second, .val (.long q2), .second] [])) (fun _ k => st1.trans k) ?_
  refine Goes.step (S' := T1.setTop (mkF m 5 #[.val (.ref u0), .val (.long q1), .second, .val (.long q2), .second] [(.ref u0)])) (fun _ k => XS.aloadN X1.here hx rfl (hb hby d1_4) rfl rfl k) ?_
  refine Goes.step (S' := T1.setTop (mkF m 6 #[.val (.ref u0), .val (.long q1), .second, .val (.long q2), .second] [(.long q1), (.ref u0)])) (fun _ k => XS.lloadN X1.here hx rfl (hb hby d1_5) rfl  k) ?_
  obtain ⟨T3, h3, X3, e3, W3, st3⟩ := putF X1 hx hZ hown (host := "") (Or.inl (hw _ (List.mem_of_getElem? (i := 15) rfl))) Via.refl e1 F_hash_u0 E_u0 (Or.inr ⟨(hw _ (List.mem_of_getElem? (i := 16) rfl)), rfl, hnm⟩) (hw _ (List.mem_of_getElem? (i := 2) rfl)) (ty := .long) (by decide) rfl rfl (g := (mkF m 6 #[.val (.ref u0), .val (.long q1), .second, .val (.long q2), .second] [(.long q1), (.ref u0)])) rfl rfl (hb hby d1_6)
  have Fw3 := F_hash_u0.same W3
  have N4 := Fr.snoc X3 N2 g_u0
  have Z5 : n0 ≤ h3.size := Nat.le_trans Z0 (Nat.le_of_eq W3.size.symm)
  have E_6 := E_u0.wr W3
  have F7 := F_tag_u0.other W3 (Or.inr (slot_ne (Or.inr (hw _ (List.mem_of_getElem? (i := 18) rfl))) (Or.inr (hw _ (List.mem_of_getElem? (i := 16) rfl))) (by decide) (t := .long) (t' := .long) (by decide) (by decide)))
  have K8 : Keep h0 h3 [u0] := K0.wr W3 (Or.inl (List.mem_of_getElem? (i := 0) rfl))
  refine Goes.step (S' := T3.setTop (mkF m 9 #[.val (.ref u0), .val (.long q1), .second, .val (.long q2), .second] [])) st3 ?_
  refine Goes.step (S' := T3.setTop (mkF m 10 #[.val (.ref u0), .val (.long q1), .second, .val (.long q2), .second] [(.ref u0)])) (fun _ k => XS.aloadN X3.here hx rfl (hb hby d1_9) rfl rfl k) ?_
  refine Goes.step (S' := T3.setTop (mkF m 11 #[.val (.ref u0), .val (.long q1), .second, .val (.long q2), .second] [(.long q2), (.ref u0)])) (fun _ k => XS.lloadN X3.here hx rfl (hb hby d1_10) rfl  k) ?_
  obtain ⟨T9, h9, X9, e9, W9, st9⟩ := putF X3 hx hZ hown (host := "") (Or.inl (hw _ (List.mem_of_getElem? (i := 17) rfl))) Via.refl e3 F7 E_6 (Or.inr ⟨(hw _ (List.mem_of_getElem? (i := 18) rfl)), rfl, hnm⟩) (hw _ (List.mem_of_getElem? (i := 2) rfl)) (ty := .long) (by decide) rfl rfl (g := (mkF m 11 #[.val (.ref u0), .val (.long q1), .second, .val (.long q2), .second] [(.long q2), (.ref u0)])) rfl rfl (hb hby d1_11)
  have Fw9 := F7.same W9
  have N10 := Fr.snoc X9 N4 g_u0
  have Z11 : n0 ≤ h9.size := Nat.le_trans Z5 (Nat.le_of_eq W9.size.symm)
  have E_12 := E_6.wr W9
  have F13 := Fw3.other W9 (Or.inr (slot_ne (Or.inr (hw _ (List.mem_of_getElem? (i := 16) rfl))) (Or.inr (hw _ (List.mem_of_getElem? (i := 18) rfl))) (by decide) (t := .long) (t' := .long) (by decide) (by decide)))
  have K14 : Keep h0 h9 [u0] := K8.wr W9 (Or.inl (List.mem_of_getElem? (i := 0) rfl))
  refine Goes.step (S' := T9.setTop (mkF m 14 #[.val (.ref u0), .val (.long q1), .second, .val (.long q2), .second] [])) st9 ?_
  refine Goes.retV X9 hx Bd.notSynchronized Bd.returns (hb hby d1_14) (by decide) (by decide) ?_
  refine ⟨rfl, N10, ?_, ?_, ?_, ?_⟩
  · rw [e9]; exact K14
  · rw [e9]; exact E_12
  · rw [e9]; exact F13
  · rw [e9]; exact Fw9
theorem d4_0 : decode prog_116_method_6_code 0 = .ok (.lload_n 1, 1) := by decide +kernel
theorem d4_1 : decode prog_116_method_6_code 1 = .ok (.ldc2_w 84, 3) := by decide +kernel
theorem d4_4 : decode prog_116_method_6_code 4 = .ok (.land, 1) := by decide +kernel
theorem d4_5 : decode prog_116_method_6_code 5 = .ok (.aload_n 0, 1) := by decide +kernel
theorem d4_6 : decode prog_116_method_6_code 6 = .ok (.getfield 13, 3) := by decide +kernel
theorem d4_9 : decode prog_116_method_6_code 9 = .ok (.lcmp, 1) := by decide +kernel
theorem d4_10 : decode prog_116_method_6_code 10 = .ok (.ifCond .ne 7, 3) := by decide +kernel
theorem d4_13 : decode prog_116_method_6_code 13 = .ok (.iconst 1, 1) := by decide +kernel
theorem d4_14 : decode prog_116_method_6_code 14 = .ok (.goto 4, 3) := by decide +kernel
theorem d4_17 : decode prog_116_method_6_code 17 = .ok (.iconst 0, 1) := by decide +kernel
theorem d4_18 : decode prog_116_method_6_code 18 = .ok (.ireturn, 1) := by decide +kernel
theorem ef4 (m : MethodId) (u0 : Addr) (q1 : Int64) : entryFrame m #[(.ref u0), (.long q1)] 3 = mkF m 0 #[.val (.ref u0), .val (.long q1), .second] [] := by first | (simp [entryFrame, mkF, argsToLocals, Value.category]; done) | rfl
def f4 (q1 : Int64) (w_hash_u0 : Int64) (w_tag_u0 : Int64) : Int32 := (nar .boolean (if (q1 &&& (65535 : Int64)) = w_tag_u0 then (1 : Int32) else (0 : Int32)))
def Q4 (Z : State) (u0 : Addr) (q1 : Int64) (w_hash_u0 : Int64) (w_tag_u0 : Int64) (h0 : Heap) (n0 : Nat) (v : Option Value) (h : Heap) (L : List Loc) : Prop := v = some (.int (f4 q1 w_hash_u0 w_tag_u0)) ∧ Fr n0 L ∧ h = h0
set_option maxRecDepth 65536 in
set_option maxHeartbeats 40000000 in
theorem rm4 (l : Launch) (Z : State) (a0 : Array Value) (hw : ∀ d ∈ tables_1, d.before a0 Z = true) (ws : List Jvm.Cond) (u0 : Addr) (q1 : Int64) (w_hash_u0 : Int64) (w_tag_u0 : Int64) (h0 : Heap) (n0 : Nat) (Z0 : n0 ≤ h0.size) (E_u0 : Exa Z h0 u0 "com/example/pickrelay/pickrelay/store/JobKey") (F_hash_u0 : Fld Z h0 u0 "com/example/pickrelay/pickrelay/store/JobKey" "hash" "J" (.long w_hash_u0)) (F_tag_u0 : Fld Z h0 u0 "com/example/pickrelay/pickrelay/store/JobKey" "tag" "J" (.long w_tag_u0)) :
    MetFree l (⟨"com/example/pickrelay/pickrelay/store/JobKey", "holds", "(J)Z"⟩ : MethodName) (head1 (Jvm.Cond.code (⟨"com/example/pickrelay/pickrelay/store/JobKey", "holds", "(J)Z"⟩ : MethodName) prog_116_method_6_code 3 (some .boolean) :: ws) ({ frames := 0, cells := 0, slots := 0, locals := 0 } : Room)) (fun a U => a = #[(.ref u0), (.long q1)] ∧ Z.Warmed39 U.vm ∧ U.heap = h0) (fun _ _ _ _ _ => True) (fun _ U o U' => ∃ v L, o = .returned v ∧ Q4 Z u0 q1 w_hash_u0 w_tag_u0 h0 n0 v U'.heap L ∧ FrameEnd U o U' L ({ frames := 0, cells := 0, slots := 0, locals := 0 } : Room).cells ({ frames := 0, cells := 0, slots := 0, locals := 0 } : Room).slots) := by
  refine MetFree.of_bodySF (plainFor_of_name pn1) hisR ?_
  intro p e s m args below meth c s₁ Bd hml0 hP hK
  obtain ⟨rfl, hZ, hh⟩ := hP
  have hx := Bd.exec
  have hby := Bd.bytes
  have hml : c.maxLocals = 3 := hml0
  have hown : s.vm.findClass "com/example/pickrelay/pickrelay/store/JobKey" = some m.cls := findClass_of_methodNamed Bd.named
  have hnm := (name_of_methodNamed Bd.named Bd.method).1
  have X0 : Stand p l e ({ frames := 0, cells := 0, slots := 0, locals := 0 } : Room) s m #[(.ref u0), (.long q1)] below meth c s₁ [] 0 0 := Stand.of_body Bd
  have e0 : s₁.heap = h0 := by rw [← hh, Bd.state]; rfl
  have N0 := Fr.nil n0
  refine Goes.out (Q := fun o U' => ∃ v L, o = .returned v ∧ Q4 Z u0 q1 w_hash_u0 w_tag_u0 h0 n0 v U'.heap L ∧ FrameEnd s o U' L ({ frames := 0, cells := 0, slots := 0, locals := 0 } : Room).cells ({ frames := 0, cells := 0, slots := 0, locals := 0 } : Room).slots) ?_
  refine Goes.step (S' := s₁.setTop (mkF m 0 #[.val (.ref u0), .val (.long q1), .second] [])) (fun _ k => castTop (ef4 m u0 q1) k) ?_
  refine Goes.step (S' := s₁.setTop (mkF m 1 #[.val (.ref u0), .val (.long q1), .second] [(.long q1)])) (fun _ k => XS.lloadN X0.here hx rfl (hb hby d4_0) rfl  k) ?_
  refine Goes.step (S' := s₁.setTop (mkF m 4 #[.val (.ref u0), .val (.long q1), .second] [(.long (65535 : Int64)), (.long q1)])) (fun _ k => X0.ldc2Long hx hown (mvT hZ (hw _ (List.mem_of_getElem? (i := 24) rfl))) (g := (mkF m 1 #[.val (.ref u0), .val (.long q1), .second] [(.long q1)])) rfl (hb hby d4_1) _ k) ?_
  refine Goes.step (S' := s₁.setTop (mkF m 5 #[.val (.ref u0), .val (.long q1), .second] [(.long (q1 &&& (65535 : Int64)))])) (fun _ k => XS.land X0.here hx rfl (hb hby d4_4) rfl k) ?_
  refine Goes.step (S' := s₁.setTop (mkF m 6 #[.val (.ref u0), .val (.long q1), .second] [(.ref u0), (.long (q1 &&& (65535 : Int64)))])) (fun _ k => XS.aloadN X0.here hx rfl (hb hby d4_5) rfl rfl k) ?_
  obtain ⟨T1, X1, e1, st1⟩ := getF X0 hx hZ hown (host := "") (Or.inl (hw _ (List.mem_of_getElem? (i := 17) rfl))) Via.refl e0 F_tag_u0 (g := (mkF m 6 #[.val (.ref u0), .val (.long q1), .second] [(.ref u0), (.long (q1 &&& (65535 : Int64)))])) rfl rfl (hb hby d4_6)
  refine Goes.step (S' := T1.setTop (mkF m 9 #[.val (.ref u0), .val (.long q1), .second] [(.long w_tag_u0), (.long (q1 &&& (65535 : Int64)))])) st1 ?_
  refine Goes.step (S' := T1.setTop (mkF m 10 #[.val (.ref u0), .val (.long q1), .second] [(.int (lcmpW (q1 &&& (65535 : Int64)) w_tag_u0))])) (fun _ k => XS.lcmp X1.here hx rfl (hb hby d4_9) rfl k) ?_
  refine Goes.step (own_ite1 (T := T1) (c := (q1 &&& (65535 : Int64)) = w_tag_u0) (a0 := (1 : Int32)) (b0 := (0 : Int32)) (F := fun z1_0 => (mkF m 18 #[.val (.ref u0), .val (.long q1), .second] [(.int z1_0)])) ?_ ?_) ?_
  · intro hc10_1 t k
    refine XS.ifNo X1.here hx rfl (hb hby d4_10) rfl ((if0 _ _).trans (teq ((lw_eq (q1 &&& (65535 : Int64)) w_tag_u0).mpr hc10_1)).2) ?_
    show Steps p.tables e below (T1.setTop (mkF m 13 #[.val (.ref u0), .val (.long q1), .second] [])) _
    refine XS.iconst X1.here hx rfl (hb hby d4_13) ?_
    show Steps p.tables e below (T1.setTop (mkF m 14 #[.val (.ref u0), .val (.long q1), .second] [(.int (1 : Int32))])) _
    refine XS.goto X1.here hx rfl (pc0 := 14) (pc' := 18) rfl (hb hby d4_14) (by decide) (by decide) ?_
    show Steps p.tables e below (T1.setTop (mkF m 18 #[.val (.ref u0), .val (.long q1), .second] [(.int (1 : Int32))])) _
    exact k
  · intro hc10_1 t k
    refine XS.ifYes X1.here hx rfl (pc0 := 10) (pc' := 17) rfl (hb hby d4_10) rfl ((if0 _ _).trans (feq (mt (lw_eq (q1 &&& (65535 : Int64)) w_tag_u0).mp hc10_1)).2) (by decide) (by decide) ?_
    show Steps p.tables e below (T1.setTop (mkF m 17 #[.val (.ref u0), .val (.long q1), .second] [])) _
    refine XS.iconst X1.here hx rfl (hb hby d4_17) ?_
    show Steps p.tables e below (T1.setTop (mkF m 18 #[.val (.ref u0), .val (.long q1), .second] [(.int (0 : Int32))])) _
    exact k
  show Goes p.tables e below _ (T1.setTop (mkF m 18 #[.val (.ref u0), .val (.long q1), .second] [(.int (if (q1 &&& (65535 : Int64)) = w_tag_u0 then (1 : Int32) else (0 : Int32)))]))
  refine Goes.retN X1 hx Bd.notSynchronized (t := .boolean) Bd.returns (by simp) (hb hby d4_18) (by decide) (by decide) ?_
  exact ⟨rfl, N0, e1⟩
theorem d5_0 : decode prog_116_method_5_code 0 = .ok (.lload_n 1, 1) := by decide +kernel
theorem d5_1 : decode prog_116_method_5_code 1 = .ok (.bipush 16, 2) := by decide +kernel
theorem d5_3 : decode prog_116_method_5_code 3 = .ok (.lshl, 1) := by decide +kernel
theorem d5_4 : decode prog_116_method_5_code 4 = .ok (.aload_n 0, 1) := by decide +kernel
theorem d5_5 : decode prog_116_method_5_code 5 = .ok (.getfield 13, 3) := by decide +kernel
theorem d5_8 : decode prog_116_method_5_code 8 = .ok (.lor, 1) := by decide +kernel
theorem d5_9 : decode prog_116_method_5_code 9 = .ok (.lreturn, 1) := by decide +kernel
theorem ef5 (m : MethodId) (u0 : Addr) (q1 : Int64) : entryFrame m #[(.ref u0), (.long q1)] 3 = mkF m 0 #[.val (.ref u0), .val (.long q1), .second] [] := by first | (simp [entryFrame, mkF, argsToLocals, Value.category]; done) | rfl
def f5 (q1 : Int64) (w_hash_u0 : Int64) (w_tag_u0 : Int64) : Int64 := ((q1 <<< ((16 : Int32) &&& 0x3f).toInt64) ||| w_tag_u0)
def Q5 (Z : State) (u0 : Addr) (q1 : Int64) (w_hash_u0 : Int64) (w_tag_u0 : Int64) (h0 : Heap) (n0 : Nat) (v : Option Value) (h : Heap) (L : List Loc) : Prop := v = some (.long (f5 q1 w_hash_u0 w_tag_u0)) ∧ Fr n0 L ∧ h = h0
set_option maxRecDepth 65536 in
set_option maxHeartbeats 40000000 in
theorem rm5 (l : Launch) (Z : State) (a0 : Array Value) (hw : ∀ d ∈ tables_1, d.before a0 Z = true) (ws : List Jvm.Cond) (u0 : Addr) (q1 : Int64) (w_hash_u0 : Int64) (w_tag_u0 : Int64) (h0 : Heap) (n0 : Nat) (Z0 : n0 ≤ h0.size) (E_u0 : Exa Z h0 u0 "com/example/pickrelay/pickrelay/store/JobKey") (F_hash_u0 : Fld Z h0 u0 "com/example/pickrelay/pickrelay/store/JobKey" "hash" "J" (.long w_hash_u0)) (F_tag_u0 : Fld Z h0 u0 "com/example/pickrelay/pickrelay/store/JobKey" "tag" "J" (.long w_tag_u0)) :
    MetFree l (⟨"com/example/pickrelay/pickrelay/store/JobKey", "entry", "(J)J"⟩ : MethodName) (head1 (Jvm.Cond.code (⟨"com/example/pickrelay/pickrelay/store/JobKey", "entry", "(J)J"⟩ : MethodName) prog_116_method_5_code 3 (some .long) :: ws) ({ frames := 0, cells := 0, slots := 0, locals := 0 } : Room)) (fun a U => a = #[(.ref u0), (.long q1)] ∧ Z.Warmed39 U.vm ∧ U.heap = h0) (fun _ _ _ _ _ => True) (fun _ U o U' => ∃ v L, o = .returned v ∧ Q5 Z u0 q1 w_hash_u0 w_tag_u0 h0 n0 v U'.heap L ∧ FrameEnd U o U' L ({ frames := 0, cells := 0, slots := 0, locals := 0 } : Room).cells ({ frames := 0, cells := 0, slots := 0, locals := 0 } : Room).slots) := by
  refine MetFree.of_bodySF (plainFor_of_name pn1) hisR ?_
  intro p e s m args below meth c s₁ Bd hml0 hP hK
  obtain ⟨rfl, hZ, hh⟩ := hP
  have hx := Bd.exec
  have hby := Bd.bytes
  have hml : c.maxLocals = 3 := hml0
  have hown : s.vm.findClass "com/example/pickrelay/pickrelay/store/JobKey" = some m.cls := findClass_of_methodNamed Bd.named
  have hnm := (name_of_methodNamed Bd.named Bd.method).1
  have X0 : Stand p l e ({ frames := 0, cells := 0, slots := 0, locals := 0 } : Room) s m #[(.ref u0), (.long q1)] below meth c s₁ [] 0 0 := Stand.of_body Bd
  have e0 : s₁.heap = h0 := by rw [← hh, Bd.state]; rfl
  have N0 := Fr.nil n0
  refine Goes.out (Q := fun o U' => ∃ v L, o = .returned v ∧ Q5 Z u0 q1 w_hash_u0 w_tag_u0 h0 n0 v U'.heap L ∧ FrameEnd s o U' L ({ frames := 0, cells := 0, slots := 0, locals := 0 } : Room).cells ({ frames := 0, cells := 0, slots := 0, locals := 0 } : Room).slots) ?_
  refine Goes.step (S' := s₁.setTop (mkF m 0 #[.val (.ref u0), .val (.long q1), .second] [])) (fun _ k => castTop (ef5 m u0 q1) k) ?_
  refine Goes.step (S' := s₁.setTop (mkF m 1 #[.val (.ref u0), .val (.long q1), .second] [(.long q1)])) (fun _ k => XS.lloadN X0.here hx rfl (hb hby d5_0) rfl  k) ?_
  refine Goes.step (S' := s₁.setTop (mkF m 3 #[.val (.ref u0), .val (.long q1), .second] [(.int (16 : Int32)), (.long q1)])) (fun _ k => XS.bipush X0.here hx rfl (hb hby d5_1) k) ?_
  refine Goes.step (S' := s₁.setTop (mkF m 4 #[.val (.ref u0), .val (.long q1), .second] [(.long (q1 <<< ((16 : Int32) &&& 0x3f).toInt64))])) (fun _ k => XS.lshl X0.here hx rfl (hb hby d5_3) rfl k) ?_
  refine Goes.step (S' := s₁.setTop (mkF m 5 #[.val (.ref u0), .val (.long q1), .second] [(.ref u0), (.long (q1 <<< ((16 : Int32) &&& 0x3f).toInt64))])) (fun _ k => XS.aloadN X0.here hx rfl (hb hby d5_4) rfl rfl k) ?_
  obtain ⟨T1, X1, e1, st1⟩ := getF X0 hx hZ hown (host := "") (Or.inl (hw _ (List.mem_of_getElem? (i := 17) rfl))) Via.refl e0 F_tag_u0 (g := (mkF m 5 #[.val (.ref u0), .val (.long q1), .second] [(.ref u0), (.long (q1 <<< ((16 : Int32) &&& 0x3f).toInt64))])) rfl rfl (hb hby d5_5)
  refine Goes.step (S' := T1.setTop (mkF m 8 #[.val (.ref u0), .val (.long q1), .second] [(.long w_tag_u0), (.long (q1 <<< ((16 : Int32) &&& 0x3f).toInt64))])) st1 ?_
  refine Goes.step (S' := T1.setTop (mkF m 9 #[.val (.ref u0), .val (.long q1), .second] [(.long ((q1 <<< ((16 : Int32) &&& 0x3f).toInt64) ||| w_tag_u0))])) (fun _ k => XS.lor X1.here hx rfl (hb hby d5_8) rfl k) ?_
  refine Goes.retJ X1 hx Bd.notSynchronized Bd.returns (hb hby d5_9) (by decide) (by decide) ?_
  exact ⟨rfl, N0, e1⟩
theorem pd1 : parseMethodDescriptor "(JJ)V" = some ⟨[.long, .long], none⟩ := by decide +kernel
theorem pd2 : parseMethodDescriptor "(J)Z" = some ⟨[.long], some .boolean⟩ := by decide +kernel
theorem pd3 : parseMethodDescriptor "(J)J" = some ⟨[.long], some .long⟩ := by decide +kernel
theorem pn2 : plainName "com/example/pickrelay/pickrelay/store/JobKeyHoldsPinLaw" = true := by first | (simp [plainName, overriddenIn]; done) | decide +kernel
theorem ef0 (m : MethodId) (q0 : Int64) (q1 : Int64) (q2 : Int64) (q3 : Int64) (p4 : Int32) : entryFrame m #[(.long q0), (.long q1), (.long q2), (.long q3), (.int p4)] maxLocals = mkF m 0 #[.val (.long q0), .second, .val (.long q1), .second, .val (.long q2), .second, .val (.long q3), .second, .val (.int p4), .unset, .unset, .unset, .unset, .unset, .unset, .unset, .unset, .unset, .unset, .unset] [] := by first | (simp [entryFrame, mkF, argsToLocals, Value.category, maxLocals]; done) | rfl
theorem own_hc0_46 (q0 : Int64) (q1 : Int64) (q2 : Int64) (q3 : Int64) (p4 : Int32) (v9_5 : Int64) (ev9_5 : v9_5 = (q1 &&& (65535 : Int64))) (v12_35 : Int32) (ev12_35 : v12_35 = (if (((q3.toInt32).toUInt32.toUInt16.toUInt32.toInt32).toInt64) = v9_5 then (1 : Int32) else (0 : Int32))) : (f4 q3 q0 v9_5) = v12_35 := by
  have m9 : (q1 &&& 65535).toInt = q1.toInt % 65536 := c_maskL q1 65535 16 (by decide) (by decide)
  rw [← ev9_5] at m9
  have a : (q3 &&& 65535).toInt = q3.toInt % 65536 := c_maskL q3 65535 16 (by decide) (by decide)
  have b := c_l2i q3
  have d := c_i2c q3.toInt32
  have g := c_i2l q3.toInt32.toUInt32.toUInt16.toUInt32.toInt32
  rw [ev12_35]
  clear ev12_35
  simp only [f4, Int32.lt_iff_toInt_lt, ← Int32.toInt_inj, apply_ite Int32.toInt, apply_ite (nar .boolean), own_nar0, own_nar1, Int32.reduceToInt, Int64.lt_iff_toInt_lt, ← Int64.toInt_inj, apply_ite Int64.toInt, Int64.reduceToInt]
  repeat' split
  all_goals first | rfl | decide | (exfalso; omega)
theorem own_hc0_83 (q0 : Int64) (q1 : Int64) (q2 : Int64) (q3 : Int64) (p4 : Int32) (v9_5 : Int64) (ev9_5 : v9_5 = (q1 &&& (65535 : Int64))) (v12_35 : Int32) (ev12_35 : v12_35 = (if (((q3.toInt32).toUInt32.toUInt16.toUInt32.toInt32).toInt64) = v9_5 then (1 : Int32) else (0 : Int32))) (v14_63 : Int64) (ev14_63 : v14_63 = (f5 q2 q0 v9_5)) (v16_72 : Int32) (ev16_72 : v16_72 = (f4 v14_63 q0 v9_5)) : (f4 (v14_63 + (1 : Int64)) q0 v9_5) = (0 : Int32) := by
  have m9 : (q1 &&& 65535).toInt = q1.toInt % 65536 := c_maskL q1 65535 16 (by decide) (by decide)
  rw [← ev9_5] at m9
  have sh : ((q2 <<< ((16 : Int32) &&& 0x3f).toInt64).toInt - q2.toInt * 65536) % 18446744073709551616 = 0 := c_lshl q2 16 16 (by decide)
  have o : (v14_63.toInt - ((q2 <<< ((16 : Int32) &&& 0x3f).toInt64).toInt + v9_5.toInt)) % 18446744073709551616 = 0 := by
    rw [ev14_63]
    exact c_orL (q2 <<< ((16 : Int32) &&& 0x3f).toInt64) v9_5 16 (by decide) 65536 (by decide) (by omega) (by omega) (by omega)
  have lo : (v14_63 &&& 65535).toInt = v14_63.toInt % 65536 := c_maskL v14_63 65535 16 (by decide) (by decide)
  have lo9 : v14_63 &&& 65535 = v9_5 := by apply Int64.toInt_inj.mp; omega
  have p := c_ladd v14_63 1
  have lp : ((v14_63 + 1) &&& 65535).toInt = (v14_63 + 1).toInt % 65536 := c_maskL (v14_63 + 1) 65535 16 (by decide) (by decide)
  simp only [Int64.reduceToInt] at p
  clear ev14_63 ev16_72 ev12_35 lo9
  simp only [f4, Int32.lt_iff_toInt_lt, ← Int32.toInt_inj, apply_ite Int32.toInt, apply_ite (nar .boolean), own_nar0, own_nar1, Int32.reduceToInt, Int64.lt_iff_toInt_lt, ← Int64.toInt_inj, apply_ite Int64.toInt, Int64.reduceToInt]
  repeat' split
  all_goals first | rfl | decide | (exfalso; omega)
theorem own_hc0_108 (q0 : Int64) (q1 : Int64) (q2 : Int64) (q3 : Int64) (p4 : Int32) (v9_5 : Int64) (ev9_5 : v9_5 = (q1 &&& (65535 : Int64))) (v12_35 : Int32) (ev12_35 : v12_35 = (if (((q3.toInt32).toUInt32.toUInt16.toUInt32.toInt32).toInt64) = v9_5 then (1 : Int32) else (0 : Int32))) (v14_63 : Int64) (ev14_63 : v14_63 = (f5 q2 q0 v9_5)) (v16_72 : Int32) (ev16_72 : v16_72 = (f4 v14_63 q0 v9_5)) : (f4 (v14_63 ^^^ ((1 : Int64) <<< ((p4 &&& (15 : Int32)) &&& 0x3f).toInt64)) q0 v9_5) = (0 : Int32) := by
  have m9 : (q1 &&& 65535).toInt = q1.toInt % 65536 := c_maskL q1 65535 16 (by decide) (by decide)
  rw [← ev9_5] at m9
  have sh : ((q2 <<< ((16 : Int32) &&& 0x3f).toInt64).toInt - q2.toInt * 65536) % 18446744073709551616 = 0 := c_lshl q2 16 16 (by decide)
  have o : (v14_63.toInt - ((q2 <<< ((16 : Int32) &&& 0x3f).toInt64).toInt + v9_5.toInt)) % 18446744073709551616 = 0 := by
    rw [ev14_63]
    exact c_orL (q2 <<< ((16 : Int32) &&& 0x3f).toInt64) v9_5 16 (by decide) 65536 (by decide) (by omega) (by omega) (by omega)
  have lo : (v14_63 &&& 65535).toInt = v14_63.toInt % 65536 := c_maskL v14_63 65535 16 (by decide) (by decide)
  have lo9 : v14_63 &&& 65535 = v9_5 := by apply Int64.toInt_inj.mp; omega
  have key : (v14_63 ^^^ ((1 : Int64) <<< ((p4 &&& (15 : Int32)) &&& 0x3f).toInt64)) &&& 65535 ≠ v9_5 := by
    rw [← lo9]
    intro h
    exact own_low p4 (own_xor _ _ _ h)
  unfold f4
  rw [if_neg key]
  rfl
theorem own_hc0_148 (q0 : Int64) (q1 : Int64) (q2 : Int64) (q3 : Int64) (p4 : Int32) (v9_5 : Int64) (ev9_5 : v9_5 = (q1 &&& (65535 : Int64))) (v12_35 : Int32) (ev12_35 : v12_35 = (if (((q3.toInt32).toUInt32.toUInt16.toUInt32.toInt32).toInt64) = v9_5 then (1 : Int32) else (0 : Int32))) (v14_63 : Int64) (ev14_63 : v14_63 = (f5 q2 q0 v9_5)) (v16_72 : Int32) (ev16_72 : v16_72 = (f4 v14_63 q0 v9_5)) (v19_139 : Int32) (ev19_139 : v19_139 = (f4 (v14_63 ^^^ ((1 : Int64) <<< (((16 : Int32) + ((p4 &&& (2147483647 : Int32)) % (48 : Int32))) &&& 0x3f).toInt64)) q0 v9_5)) : ¬ (v16_72 = (0 : Int32)) := by
  have m9 : (q1 &&& 65535).toInt = q1.toInt % 65536 := c_maskL q1 65535 16 (by decide) (by decide)
  rw [← ev9_5] at m9
  have sh : ((q2 <<< ((16 : Int32) &&& 0x3f).toInt64).toInt - q2.toInt * 65536) % 18446744073709551616 = 0 := c_lshl q2 16 16 (by decide)
  have o : (v14_63.toInt - ((q2 <<< ((16 : Int32) &&& 0x3f).toInt64).toInt + v9_5.toInt)) % 18446744073709551616 = 0 := by
    rw [ev14_63]
    exact c_orL (q2 <<< ((16 : Int32) &&& 0x3f).toInt64) v9_5 16 (by decide) 65536 (by decide) (by omega) (by omega) (by omega)
  have lo : (v14_63 &&& 65535).toInt = v14_63.toInt % 65536 := c_maskL v14_63 65535 16 (by decide) (by decide)
  have lo9 : v14_63 &&& 65535 = v9_5 := by apply Int64.toInt_inj.mp; omega
  rw [ev16_72]
  unfold f4
  rw [if_pos lo9]
  decide
theorem own_hc0_163 (q0 : Int64) (q1 : Int64) (q2 : Int64) (q3 : Int64) (p4 : Int32) (v9_5 : Int64) (ev9_5 : v9_5 = (q1 &&& (65535 : Int64))) (v12_35 : Int32) (ev12_35 : v12_35 = (if (((q3.toInt32).toUInt32.toUInt16.toUInt32.toInt32).toInt64) = v9_5 then (1 : Int32) else (0 : Int32))) (v14_63 : Int64) (ev14_63 : v14_63 = (f5 q2 q0 v9_5)) (v16_72 : Int32) (ev16_72 : v16_72 = (f4 v14_63 q0 v9_5)) (v19_139 : Int32) (ev19_139 : v19_139 = (f4 (v14_63 ^^^ ((1 : Int64) <<< (((16 : Int32) + ((p4 &&& (2147483647 : Int32)) % (48 : Int32))) &&& 0x3f).toInt64)) q0 v9_5)) : ¬ (v19_139 = (0 : Int32)) := by
  have m9 : (q1 &&& 65535).toInt = q1.toInt % 65536 := c_maskL q1 65535 16 (by decide) (by decide)
  rw [← ev9_5] at m9
  have sh : ((q2 <<< ((16 : Int32) &&& 0x3f).toInt64).toInt - q2.toInt * 65536) % 18446744073709551616 = 0 := c_lshl q2 16 16 (by decide)
  have o : (v14_63.toInt - ((q2 <<< ((16 : Int32) &&& 0x3f).toInt64).toInt + v9_5.toInt)) % 18446744073709551616 = 0 := by
    rw [ev14_63]
    exact c_orL (q2 <<< ((16 : Int32) &&& 0x3f).toInt64) v9_5 16 (by decide) 65536 (by decide) (by omega) (by omega) (by omega)
  have lo : (v14_63 &&& 65535).toInt = v14_63.toInt % 65536 := c_maskL v14_63 65535 16 (by decide) (by decide)
  have lo9 : v14_63 &&& 65535 = v9_5 := by apply Int64.toInt_inj.mp; omega
  rw [ev19_139]
  unfold f4
  rw [own_and_xor, own_high p4, lo9, Int64.xor_zero, if_pos rfl]
  decide
def Q0 (Z : State) (q0 : Int64) (q1 : Int64) (q2 : Int64) (q3 : Int64) (p4 : Int32) (h0 : Heap) (n0 : Nat) (v : Option Value) (h : Heap) (L : List Loc) : Prop := v = some (.int 1) ∧ Fr n0 L
set_option maxRecDepth 65536 in
set_option maxHeartbeats 40000000 in
theorem rm0 (l : Launch) (Z : State) (a0 : Array Value) (hw : ∀ d ∈ tables_1, d.before a0 Z = true) (ws : List Jvm.Cond) (q0 : Int64) (q1 : Int64) (q2 : Int64) (q3 : Int64) (p4 : Int32) (h0 : Heap) (n0 : Nat) (Z0 : n0 ≤ h0.size) :
    MetFree l x (head1 (Jvm.Cond.code x code maxLocals ret :: ws) room_1) (fun a U => a = #[(.long q0), (.long q1), (.long q2), (.long q3), (.int p4)] ∧ Z.Warmed39 U.vm ∧ U.heap = h0) (fun _ _ _ _ _ => True) (fun _ U o U' => ∃ v L, o = .returned v ∧ Q0 Z q0 q1 q2 q3 p4 h0 n0 v U'.heap L ∧ FrameEnd U o U' L room_1.cells room_1.slots) := by
  refine MetFree.of_bodySF (plainFor_of_name pn2) hisR ?_
  intro p e s m args below meth c s₁ Bd hml0 hP hK
  obtain ⟨rfl, hZ, hh⟩ := hP
  have hx := Bd.exec
  have hby := Bd.bytes
  have hml : c.maxLocals = 20 := hml0
  have hown : s.vm.findClass "com/example/pickrelay/pickrelay/store/JobKeyHoldsPinLaw" = some m.cls := findClass_of_methodNamed Bd.named
  have hnm := (name_of_methodNamed Bd.named Bd.method).1
  have X0 : Stand p l e room_1 s m #[(.long q0), (.long q1), (.long q2), (.long q3), (.int p4)] below meth c s₁ [] 0 0 := Stand.of_body Bd
  have e0 : s₁.heap = h0 := by rw [← hh, Bd.state]; rfl
  have N0 := Fr.nil n0
  refine Goes.out (Q := fun o U' => ∃ v L, o = .returned v ∧ Q0 Z q0 q1 q2 q3 p4 h0 n0 v U'.heap L ∧ FrameEnd s o U' L room_1.cells room_1.slots) ?_
  refine Goes.step (S' := s₁.setTop (mkF m 0 #[.val (.long q0), .second, .val (.long q1), .second, .val (.long q2), .second, .val (.long q3), .second, .val (.int p4), .unset, .unset, .unset, .unset, .unset, .unset, .unset, .unset, .unset, .unset, .unset] [])) (fun _ k => castTop (ef0 m q0 q1 q2 q3 p4) k) ?_
  refine Goes.step (S' := s₁.setTop (mkF m 1 #[.val (.long q0), .second, .val (.long q1), .second, .val (.long q2), .second, .val (.long q3), .second, .val (.int p4), .unset, .unset, .unset, .unset, .unset, .unset, .unset, .unset, .unset, .unset, .unset] [(.long q1)])) (fun _ k => XS.lloadN X0.here hx rfl (hb hby at_0) rfl  k) ?_
  refine Goes.step (S' := s₁.setTop (mkF m 4 #[.val (.long q0), .second, .val (.long q1), .second, .val (.long q2), .second, .val (.long q3), .second, .val (.int p4), .unset, .unset, .unset, .unset, .unset, .unset, .unset, .unset, .unset, .unset, .unset] [(.long (65535 : Int64)), (.long q1)])) (fun _ k => X0.ldc2Long hx hown (mvT hZ (hw _ (List.mem_of_getElem? (i := 0) rfl))) (g := (mkF m 1 #[.val (.long q0), .second, .val (.long q1), .second, .val (.long q2), .second, .val (.long q3), .second, .val (.int p4), .unset, .unset, .unset, .unset, .unset, .unset, .unset, .unset, .unset, .unset, .unset] [(.long q1)])) rfl (hb hby at_1) _ k) ?_
  refine Goes.step (S' := s₁.setTop (mkF m 5 #[.val (.long q0), .second, .val (.long q1), .second, .val (.long q2), .second, .val (.long q3), .second, .val (.int p4), .unset, .unset, .unset, .unset, .unset, .unset, .unset, .unset, .unset, .unset, .unset] [(.long (q1 &&& (65535 : Int64)))])) (fun _ k => XS.land X0.here hx rfl (hb hby at_4) rfl k) ?_
  refine Goes.step (S' := s₁.setTop (mkF m 7 #[.val (.long q0), .second, .val (.long q1), .second, .val (.long q2), .second, .val (.long q3), .second, .val (.int p4), .val (.long (q1 &&& (65535 : Int64))), .second, .unset, .unset, .unset, .unset, .unset, .unset, .unset, .unset, .unset] [])) (fun _ k => XS.lstore X0.here hx rfl (hb hby at_5) rfl (l' := #[.val (.long q0), .second, .val (.long q1), .second, .val (.long q2), .second, .val (.long q3), .second, .val (.int p4), .val (.long (q1 &&& (65535 : Int64))), .second, .unset, .unset, .unset, .unset, .unset, .unset, .unset, .unset, .unset]) rfl k) ?_
  obtain ⟨v9_5, ev9_5⟩ : ∃ z : Int64, z = (q1 &&& (65535 : Int64)) := ⟨_, rfl⟩
  rw [← ev9_5]
  obtain ⟨T1, h1, X1, e1, E1, A1, D1, -, st1⟩ := newO X0 hx hZ hown (hw _ (List.mem_of_getElem? (i := 1) rfl)) (hw _ (List.mem_of_getElem? (i := 2) rfl)) (hw _ (List.mem_of_getElem? (i := 3) rfl)) e0 (g := (mkF m 7 #[.val (.long q0), .second, .val (.long q1), .second, .val (.long q2), .second, .val (.long q3), .second, .val (.int p4), .val (.long v9_5), .second, .unset, .unset, .unset, .unset, .unset, .unset, .unset, .unset, .unset] [])) rfl (hb hby at_7) (by decide) (by decide)
  obtain ⟨b1, g1⟩ : ∃ z, z = h0.size := ⟨_, rfl⟩
  rw [← g1] at A1 D1 st1
  have g2 : n0 ≤ b1 := Nat.le_trans Z0 (Nat.le_of_eq g1.symm)
  have Z3 : n0 ≤ h1.size := Nat.le_trans Z0 E1.1
  have F4 : Fld Z h1 b1 "com/example/pickrelay/pickrelay/store/JobKey" "hash" "J" (.long (0 : Int64)) := D1 (Or.inr (hw _ (List.mem_of_getElem? (i := 16) rfl))) (ty := .long) (by decide)
  have F5 : Fld Z h1 b1 "com/example/pickrelay/pickrelay/store/JobKey" "tag" "J" (.long (0 : Int64)) := D1 (Or.inr (hw _ (List.mem_of_getElem? (i := 18) rfl))) (ty := .long) (by decide)
  refine Goes.step (S' := T1.setTop (mkF m 10 #[.val (.long q0), .second, .val (.long q1), .second, .val (.long q2), .second, .val (.long q3), .second, .val (.int p4), .val (.long v9_5), .second, .unset, .unset, .unset, .unset, .unset, .unset, .unset, .unset, .unset] [(.ref b1)])) st1 ?_
  refine Goes.step (S' := T1.setTop (mkF m 11 #[.val (.long q0), .second, .val (.long q1), .second, .val (.long q2), .second, .val (.long q3), .second, .val (.int p4), .val (.long v9_5), .second, .unset, .unset, .unset, .unset, .unset, .unset, .unset, .unset, .unset] [(.ref b1), (.ref b1)])) (fun _ k => XS.dup X1.here hx rfl (hb hby at_10) rfl rfl k) ?_
  refine Goes.step (S' := T1.setTop (mkF m 12 #[.val (.long q0), .second, .val (.long q1), .second, .val (.long q2), .second, .val (.long q3), .second, .val (.int p4), .val (.long v9_5), .second, .unset, .unset, .unset, .unset, .unset, .unset, .unset, .unset, .unset] [(.long q0), (.ref b1), (.ref b1)])) (fun _ k => XS.lloadN X1.here hx rfl (hb hby at_11) rfl  k) ?_
  refine Goes.step (S' := T1.setTop (mkF m 14 #[.val (.long q0), .second, .val (.long q1), .second, .val (.long q2), .second, .val (.long q3), .second, .val (.int p4), .val (.long v9_5), .second, .unset, .unset, .unset, .unset, .unset, .unset, .unset, .unset, .unset] [(.long v9_5), (.long q0), (.ref b1), (.ref b1)])) (fun _ k => XS.lload X1.here hx rfl (hb hby at_12) rfl  k) ?_
  obtain ⟨_, _, ⟨T6, L6, k6, n6⟩, -, X6, ⟨Lc6, hQ6, l6, y6, z6⟩, st6⟩ := X1.specialBack hx (y := (⟨"com/example/pickrelay/pickrelay/store/JobKey", "<init>", "(JJ)V"⟩ : MethodName)) rfl hown (mvT hZ (hw _ (List.mem_of_getElem? (i := 4) rfl))) (mvT hZ (hw _ (List.mem_of_getElem? (i := 5) rfl))) (mvT hZ (hw _ (List.mem_of_getElem? (i := 6) rfl))) (by decide) (backOf (W := 1) (rm1 l Z a0 hw [] b1 q0 v9_5 h1 n0 Z3 A1 F4 F5 g2) hZ (hw _ (List.mem_of_getElem? (i := 6) rfl)) (hw _ (List.mem_of_getElem? (i := 3) rfl)) (by decide) (by decide)) (g := (mkF m 14 #[.val (.long q0), .second, .val (.long q1), .second, .val (.long q2), .second, .val (.long q3), .second, .val (.int p4), .val (.long v9_5), .second, .unset, .unset, .unset, .unset, .unset, .unset, .unset, .unset, .unset] [(.long v9_5), (.long q0), (.ref b1), (.ref b1)])) rfl (by rw [hml]; rfl) (Steps.refl _) (a := b1) (argsL := [(.long q0), (.long v9_5)]) (rest := [(.ref b1)]) (lenOf pd1 rfl) rfl (by show 2 * 0 + _ ≤ _; exact Nat.le_of_eq rfl) (hb hby at_14) (fun _ _ => ⟨rfl, e1, (by decide : 1 + 0 ≤ _), (by decide : 2 + 0 ≤ _)⟩)
  dsimp only [Pt.U, Pt.locs, Pt.cells, Pt.slots] at X6 l6 y6 z6 st6 hQ6
  subst l6 y6 z6
  obtain ⟨rfl, N6q, K6q, E_7, F8, F9⟩ := hQ6
  have N10 := Fr.app N0 N6q
  have E_11 := A1.keep K6q
  have Z12 : n0 ≤ T6.heap.size := Nat.le_trans Z3 K6q.1
  refine Goes.step (S' := T6.setTop (mkF m 17 #[.val (.long q0), .second, .val (.long q1), .second, .val (.long q2), .second, .val (.long q3), .second, .val (.int p4), .val (.long v9_5), .second, .unset, .unset, .unset, .unset, .unset, .unset, .unset, .unset, .unset] [(.ref b1)])) (fun _ k => st6.trans k) ?_
  refine Goes.step (S' := T6.setTop (mkF m 19 #[.val (.long q0), .second, .val (.long q1), .second, .val (.long q2), .second, .val (.long q3), .second, .val (.int p4), .val (.long v9_5), .second, .val (.ref b1), .unset, .unset, .unset, .unset, .unset, .unset, .unset, .unset] [])) (fun _ k => XS.astore X6.here hx rfl (hb hby at_17) rfl rfl (l' := #[.val (.long q0), .second, .val (.long q1), .second, .val (.long q2), .second, .val (.long q3), .second, .val (.int p4), .val (.long v9_5), .second, .val (.ref b1), .unset, .unset, .unset, .unset, .unset, .unset, .unset, .unset]) rfl k) ?_
  refine Goes.step (S' := T6.setTop (mkF m 21 #[.val (.long q0), .second, .val (.long q1), .second, .val (.long q2), .second, .val (.long q3), .second, .val (.int p4), .val (.long v9_5), .second, .val (.ref b1), .unset, .unset, .unset, .unset, .unset, .unset, .unset, .unset] [(.long q3)])) (fun _ k => XS.lload X6.here hx rfl (hb hby at_19) rfl  k) ?_
  refine Goes.step (S' := T6.setTop (mkF m 22 #[.val (.long q0), .second, .val (.long q1), .second, .val (.long q2), .second, .val (.long q3), .second, .val (.int p4), .val (.long v9_5), .second, .val (.ref b1), .unset, .unset, .unset, .unset, .unset, .unset, .unset, .unset] [(.int (q3.toInt32))])) (fun _ k => XS.l2i X6.here hx rfl (hb hby at_21) rfl k) ?_
  refine Goes.step (S' := T6.setTop (mkF m 23 #[.val (.long q0), .second, .val (.long q1), .second, .val (.long q2), .second, .val (.long q3), .second, .val (.int p4), .val (.long v9_5), .second, .val (.ref b1), .unset, .unset, .unset, .unset, .unset, .unset, .unset, .unset] [(.int ((q3.toInt32).toUInt32.toUInt16.toUInt32.toInt32))])) (fun _ k => XS.i2c X6.here hx rfl (hb hby at_22) rfl k) ?_
  refine Goes.step (S' := T6.setTop (mkF m 24 #[.val (.long q0), .second, .val (.long q1), .second, .val (.long q2), .second, .val (.long q3), .second, .val (.int p4), .val (.long v9_5), .second, .val (.ref b1), .unset, .unset, .unset, .unset, .unset, .unset, .unset, .unset] [(.long (((q3.toInt32).toUInt32.toUInt16.toUInt32.toInt32).toInt64))])) (fun _ k => XS.i2l X6.here hx rfl (hb hby at_23) rfl k) ?_
  refine Goes.step (S' := T6.setTop (mkF m 26 #[.val (.long q0), .second, .val (.long q1), .second, .val (.long q2), .second, .val (.long q3), .second, .val (.int p4), .val (.long v9_5), .second, .val (.ref b1), .unset, .unset, .unset, .unset, .unset, .unset, .unset, .unset] [(.long v9_5), (.long (((q3.toInt32).toUInt32.toUInt16.toUInt32.toInt32).toInt64))])) (fun _ k => XS.lload X6.here hx rfl (hb hby at_24) rfl  k) ?_
  refine Goes.step (S' := T6.setTop (mkF m 27 #[.val (.long q0), .second, .val (.long q1), .second, .val (.long q2), .second, .val (.long q3), .second, .val (.int p4), .val (.long v9_5), .second, .val (.ref b1), .unset, .unset, .unset, .unset, .unset, .unset, .unset, .unset] [(.int (lcmpW (((q3.toInt32).toUInt32.toUInt16.toUInt32.toInt32).toInt64) v9_5))])) (fun _ k => XS.lcmp X6.here hx rfl (hb hby at_26) rfl k) ?_
  refine Goes.step (own_ite1 (T := T6) (c := (((q3.toInt32).toUInt32.toUInt16.toUInt32.toInt32).toInt64) = v9_5) (a0 := (1 : Int32)) (b0 := (0 : Int32)) (F := fun z1_0 => (mkF m 35 #[.val (.long q0), .second, .val (.long q1), .second, .val (.long q2), .second, .val (.long q3), .second, .val (.int p4), .val (.long v9_5), .second, .val (.ref b1), .unset, .unset, .unset, .unset, .unset, .unset, .unset, .unset] [(.int z1_0)])) ?_ ?_) ?_
  · intro hc27_1 t k
    refine XS.ifNo X6.here hx rfl (hb hby at_27) rfl ((if0 _ _).trans (teq ((lw_eq (((q3.toInt32).toUInt32.toUInt16.toUInt32.toInt32).toInt64) v9_5).mpr hc27_1)).2) ?_
    show Steps p.tables e below (T6.setTop (mkF m 30 #[.val (.long q0), .second, .val (.long q1), .second, .val (.long q2), .second, .val (.long q3), .second, .val (.int p4), .val (.long v9_5), .second, .val (.ref b1), .unset, .unset, .unset, .unset, .unset, .unset, .unset, .unset] [])) _
    refine XS.iconst X6.here hx rfl (hb hby at_30) ?_
    show Steps p.tables e below (T6.setTop (mkF m 31 #[.val (.long q0), .second, .val (.long q1), .second, .val (.long q2), .second, .val (.long q3), .second, .val (.int p4), .val (.long v9_5), .second, .val (.ref b1), .unset, .unset, .unset, .unset, .unset, .unset, .unset, .unset] [(.int (1 : Int32))])) _
    refine XS.goto X6.here hx rfl (pc0 := 31) (pc' := 35) rfl (hb hby at_31) (by decide) (by decide) ?_
    show Steps p.tables e below (T6.setTop (mkF m 35 #[.val (.long q0), .second, .val (.long q1), .second, .val (.long q2), .second, .val (.long q3), .second, .val (.int p4), .val (.long v9_5), .second, .val (.ref b1), .unset, .unset, .unset, .unset, .unset, .unset, .unset, .unset] [(.int (1 : Int32))])) _
    exact k
  · intro hc27_1 t k
    refine XS.ifYes X6.here hx rfl (pc0 := 27) (pc' := 34) rfl (hb hby at_27) rfl ((if0 _ _).trans (feq (mt (lw_eq (((q3.toInt32).toUInt32.toUInt16.toUInt32.toInt32).toInt64) v9_5).mp hc27_1)).2) (by decide) (by decide) ?_
    show Steps p.tables e below (T6.setTop (mkF m 34 #[.val (.long q0), .second, .val (.long q1), .second, .val (.long q2), .second, .val (.long q3), .second, .val (.int p4), .val (.long v9_5), .second, .val (.ref b1), .unset, .unset, .unset, .unset, .unset, .unset, .unset, .unset] [])) _
    refine XS.iconst X6.here hx rfl (hb hby at_34) ?_
    show Steps p.tables e below (T6.setTop (mkF m 35 #[.val (.long q0), .second, .val (.long q1), .second, .val (.long q2), .second, .val (.long q3), .second, .val (.int p4), .val (.long v9_5), .second, .val (.ref b1), .unset, .unset, .unset, .unset, .unset, .unset, .unset, .unset] [(.int (0 : Int32))])) _
    exact k
  show Goes p.tables e below _ (T6.setTop (mkF m 35 #[.val (.long q0), .second, .val (.long q1), .second, .val (.long q2), .second, .val (.long q3), .second, .val (.int p4), .val (.long v9_5), .second, .val (.ref b1), .unset, .unset, .unset, .unset, .unset, .unset, .unset, .unset] [(.int (if (((q3.toInt32).toUInt32.toUInt16.toUInt32.toInt32).toInt64) = v9_5 then (1 : Int32) else (0 : Int32)))]))
  refine Goes.step (S' := T6.setTop (mkF m 37 #[.val (.long q0), .second, .val (.long q1), .second, .val (.long q2), .second, .val (.long q3), .second, .val (.int p4), .val (.long v9_5), .second, .val (.ref b1), .val (.int (if (((q3.toInt32).toUInt32.toUInt16.toUInt32.toInt32).toInt64) = v9_5 then (1 : Int32) else (0 : Int32))), .unset, .unset, .unset, .unset, .unset, .unset, .unset] [])) (fun _ k => XS.istore X6.here hx rfl (hb hby at_35) rfl (l' := #[.val (.long q0), .second, .val (.long q1), .second, .val (.long q2), .second, .val (.long q3), .second, .val (.int p4), .val (.long v9_5), .second, .val (.ref b1), .val (.int (if (((q3.toInt32).toUInt32.toUInt16.toUInt32.toInt32).toInt64) = v9_5 then (1 : Int32) else (0 : Int32))), .unset, .unset, .unset, .unset, .unset, .unset, .unset]) rfl k) ?_
  obtain ⟨v12_35, ev12_35⟩ : ∃ z : Int32, z = (if (((q3.toInt32).toUInt32.toUInt16.toUInt32.toInt32).toInt64) = v9_5 then (1 : Int32) else (0 : Int32)) := ⟨_, rfl⟩
  rw [← ev12_35]
  refine Goes.step (S' := T6.setTop (mkF m 39 #[.val (.long q0), .second, .val (.long q1), .second, .val (.long q2), .second, .val (.long q3), .second, .val (.int p4), .val (.long v9_5), .second, .val (.ref b1), .val (.int v12_35), .unset, .unset, .unset, .unset, .unset, .unset, .unset] [(.ref b1)])) (fun _ k => XS.aload X6.here hx rfl (hb hby at_37) rfl rfl k) ?_
  refine Goes.step (S' := T6.setTop (mkF m 41 #[.val (.long q0), .second, .val (.long q1), .second, .val (.long q2), .second, .val (.long q3), .second, .val (.int p4), .val (.long v9_5), .second, .val (.ref b1), .val (.int v12_35), .unset, .unset, .unset, .unset, .unset, .unset, .unset] [(.long q3), (.ref b1)])) (fun _ k => XS.lload X6.here hx rfl (hb hby at_39) rfl  k) ?_
  obtain ⟨cq13, kq13, q13a, q13b, q13c⟩ := isOf hZ rfl E_7
  obtain ⟨_, _, ⟨T13, L13, k13, n13⟩, -, X13, ⟨Lc13, hQ13, l13, y13, z13⟩, st13⟩ := X6.virtualBack hx (y := (⟨"com/example/pickrelay/pickrelay/store/JobKey", "holds", "(J)Z"⟩ : MethodName)) (z := (⟨"com/example/pickrelay/pickrelay/store/JobKey", "holds", "(J)Z"⟩ : MethodName)) hown (mvT hZ (hw _ (List.mem_of_getElem? (i := 19) rfl))) (mvT hZ (hw _ (List.mem_of_getElem? (i := 20) rfl))) (notFace_of_selects (args := #[]) (mvT hZ (hw _ (List.mem_of_getElem? (i := 22) rfl)))) (mvT hZ (hw _ (List.mem_of_getElem? (i := 22) rfl))) (mvT hZ (hw _ (List.mem_of_getElem? (i := 21) rfl))) (by decide) (backOf (W := 0) (rm4 l Z a0 hw [] b1 q3 q0 v9_5 T6.heap n0 Z12 E_7 F8 F9) hZ (hw _ (List.mem_of_getElem? (i := 23) rfl)) (hw _ (List.mem_of_getElem? (i := 3) rfl)) (by decide) (by decide)) q13a q13c (g := (mkF m 41 #[.val (.long q0), .second, .val (.long q1), .second, .val (.long q2), .second, .val (.long q3), .second, .val (.int p4), .val (.long v9_5), .second, .val (.ref b1), .val (.int v12_35), .unset, .unset, .unset, .unset, .unset, .unset, .unset] [(.long q3), (.ref b1)])) rfl (by rw [hml]; rfl) (Steps.refl _) (argsL := [(.long q3)]) (rest := []) (lenOf pd2 rfl) rfl (by show 2 * 0 + _ ≤ _; exact Nat.le_of_eq rfl) (hb hby at_41) (fun _ _ => ⟨rfl, rfl, (by decide : 1 + 0 ≤ _), (by decide : 2 + 0 ≤ _)⟩)
  dsimp only [Pt.U, Pt.locs, Pt.cells, Pt.slots] at X13 l13 y13 z13 st13 hQ13
  subst l13 y13 z13
  obtain ⟨rfl, N13q, e13⟩ := hQ13
  have N14 := Fr.app N10 N13q
  refine Goes.step (S' := T13.setTop (mkF m 44 #[.val (.long q0), .second, .val (.long q1), .second, .val (.long q2), .second, .val (.long q3), .second, .val (.int p4), .val (.long v9_5), .second, .val (.ref b1), .val (.int v12_35), .unset, .unset, .unset, .unset, .unset, .unset, .unset] [(.int (f4 q3 q0 v9_5))])) (fun _ k => st13.trans k) ?_
  refine Goes.step (S' := T13.setTop (mkF m 46 #[.val (.long q0), .second, .val (.long q1), .second, .val (.long q2), .second, .val (.long q3), .second, .val (.int p4), .val (.long v9_5), .second, .val (.ref b1), .val (.int v12_35), .unset, .unset, .unset, .unset, .unset, .unset, .unset] [(.int v12_35), (.int (f4 q3 q0 v9_5))])) (fun _ k => XS.iload X13.here hx rfl (hb hby at_44) rfl  k) ?_
  refine Goes.step (S' := T13.setTop (mkF m 49 #[.val (.long q0), .second, .val (.long q1), .second, .val (.long q2), .second, .val (.long q3), .second, .val (.int p4), .val (.long v9_5), .second, .val (.ref b1), .val (.int v12_35), .unset, .unset, .unset, .unset, .unset, .unset, .unset] [])) (fun _ k => XS.icmpNo X13.here hx rfl (hb hby at_46) rfl (teq (own_hc0_46 q0 q1 q2 q3 p4 v9_5 ev9_5 v12_35 ev12_35)).2 k) ?_
  refine Goes.step (S' := T13.setTop (mkF m 50 #[.val (.long q0), .second, .val (.long q1), .second, .val (.long q2), .second, .val (.long q3), .second, .val (.int p4), .val (.long v9_5), .second, .val (.ref b1), .val (.int v12_35), .unset, .unset, .unset, .unset, .unset, .unset, .unset] [(.int (1 : Int32))])) (fun _ k => XS.iconst X13.here hx rfl (hb hby at_49) k) ?_
  refine Goes.step (S' := T13.setTop (mkF m 54 #[.val (.long q0), .second, .val (.long q1), .second, .val (.long q2), .second, .val (.long q3), .second, .val (.int p4), .val (.long v9_5), .second, .val (.ref b1), .val (.int v12_35), .unset, .unset, .unset, .unset, .unset, .unset, .unset] [(.int (1 : Int32))])) (fun _ k => XS.goto X13.here hx rfl (pc0 := 50) (pc' := 54) rfl (hb hby at_50) (by decide) (by decide) k) ?_
  refine Goes.step (S' := T13.setTop (mkF m 56 #[.val (.long q0), .second, .val (.long q1), .second, .val (.long q2), .second, .val (.long q3), .second, .val (.int p4), .val (.long v9_5), .second, .val (.ref b1), .val (.int v12_35), .val (.int (1 : Int32)), .unset, .unset, .unset, .unset, .unset, .unset] [])) (fun _ k => XS.istore X13.here hx rfl (hb hby at_54) rfl (l' := #[.val (.long q0), .second, .val (.long q1), .second, .val (.long q2), .second, .val (.long q3), .second, .val (.int p4), .val (.long v9_5), .second, .val (.ref b1), .val (.int v12_35), .val (.int (1 : Int32)), .unset, .unset, .unset, .unset, .unset, .unset]) rfl k) ?_
  refine Goes.step (S' := T13.setTop (mkF m 58 #[.val (.long q0), .second, .val (.long q1), .second, .val (.long q2), .second, .val (.long q3), .second, .val (.int p4), .val (.long v9_5), .second, .val (.ref b1), .val (.int v12_35), .val (.int (1 : Int32)), .unset, .unset, .unset, .unset, .unset, .unset] [(.ref b1)])) (fun _ k => XS.aload X13.here hx rfl (hb hby at_56) rfl rfl k) ?_
  refine Goes.step (S' := T13.setTop (mkF m 60 #[.val (.long q0), .second, .val (.long q1), .second, .val (.long q2), .second, .val (.long q3), .second, .val (.int p4), .val (.long v9_5), .second, .val (.ref b1), .val (.int v12_35), .val (.int (1 : Int32)), .unset, .unset, .unset, .unset, .unset, .unset] [(.long q2), (.ref b1)])) (fun _ k => XS.lload X13.here hx rfl (hb hby at_58) rfl  k) ?_
  obtain ⟨cq15, kq15, q15a, q15b, q15c⟩ := isOf hZ e13 E_7
  obtain ⟨_, _, ⟨T15, L15, k15, n15⟩, -, X15, ⟨Lc15, hQ15, l15, y15, z15⟩, st15⟩ := X13.virtualBack hx (y := (⟨"com/example/pickrelay/pickrelay/store/JobKey", "entry", "(J)J"⟩ : MethodName)) (z := (⟨"com/example/pickrelay/pickrelay/store/JobKey", "entry", "(J)J"⟩ : MethodName)) hown (mvT hZ (hw _ (List.mem_of_getElem? (i := 25) rfl))) (mvT hZ (hw _ (List.mem_of_getElem? (i := 26) rfl))) (notFace_of_selects (args := #[]) (mvT hZ (hw _ (List.mem_of_getElem? (i := 28) rfl)))) (mvT hZ (hw _ (List.mem_of_getElem? (i := 28) rfl))) (mvT hZ (hw _ (List.mem_of_getElem? (i := 27) rfl))) (by decide) (backOf (W := 0) (rm5 l Z a0 hw [] b1 q2 q0 v9_5 T6.heap n0 Z12 E_7 F8 F9) hZ (hw _ (List.mem_of_getElem? (i := 29) rfl)) (hw _ (List.mem_of_getElem? (i := 3) rfl)) (by decide) (by decide)) q15a q15c (g := (mkF m 60 #[.val (.long q0), .second, .val (.long q1), .second, .val (.long q2), .second, .val (.long q3), .second, .val (.int p4), .val (.long v9_5), .second, .val (.ref b1), .val (.int v12_35), .val (.int (1 : Int32)), .unset, .unset, .unset, .unset, .unset, .unset] [(.long q2), (.ref b1)])) rfl (by rw [hml]; rfl) (Steps.refl _) (argsL := [(.long q2)]) (rest := []) (lenOf pd3 rfl) rfl (by show 2 * 0 + _ ≤ _; exact Nat.le_of_eq rfl) (hb hby at_60) (fun _ _ => ⟨rfl, e13, (by decide : 1 + 0 ≤ _), (by decide : 2 + 0 ≤ _)⟩)
  dsimp only [Pt.U, Pt.locs, Pt.cells, Pt.slots] at X15 l15 y15 z15 st15 hQ15
  subst l15 y15 z15
  obtain ⟨rfl, N15q, e15⟩ := hQ15
  have N16 := Fr.app N14 N15q
  refine Goes.step (S' := T15.setTop (mkF m 63 #[.val (.long q0), .second, .val (.long q1), .second, .val (.long q2), .second, .val (.long q3), .second, .val (.int p4), .val (.long v9_5), .second, .val (.ref b1), .val (.int v12_35), .val (.int (1 : Int32)), .unset, .unset, .unset, .unset, .unset, .unset] [(.long (f5 q2 q0 v9_5))])) (fun _ k => st15.trans k) ?_
  refine Goes.step (S' := T15.setTop (mkF m 65 #[.val (.long q0), .second, .val (.long q1), .second, .val (.long q2), .second, .val (.long q3), .second, .val (.int p4), .val (.long v9_5), .second, .val (.ref b1), .val (.int v12_35), .val (.int (1 : Int32)), .val (.long (f5 q2 q0 v9_5)), .second, .unset, .unset, .unset, .unset] [])) (fun _ k => XS.lstore X15.here hx rfl (hb hby at_63) rfl (l' := #[.val (.long q0), .second, .val (.long q1), .second, .val (.long q2), .second, .val (.long q3), .second, .val (.int p4), .val (.long v9_5), .second, .val (.ref b1), .val (.int v12_35), .val (.int (1 : Int32)), .val (.long (f5 q2 q0 v9_5)), .second, .unset, .unset, .unset, .unset]) rfl k) ?_
  obtain ⟨v14_63, ev14_63⟩ : ∃ z : Int64, z = (f5 q2 q0 v9_5) := ⟨_, rfl⟩
  rw [← ev14_63]
  refine Goes.step (S' := T15.setTop (mkF m 67 #[.val (.long q0), .second, .val (.long q1), .second, .val (.long q2), .second, .val (.long q3), .second, .val (.int p4), .val (.long v9_5), .second, .val (.ref b1), .val (.int v12_35), .val (.int (1 : Int32)), .val (.long v14_63), .second, .unset, .unset, .unset, .unset] [(.ref b1)])) (fun _ k => XS.aload X15.here hx rfl (hb hby at_65) rfl rfl k) ?_
  refine Goes.step (S' := T15.setTop (mkF m 69 #[.val (.long q0), .second, .val (.long q1), .second, .val (.long q2), .second, .val (.long q3), .second, .val (.int p4), .val (.long v9_5), .second, .val (.ref b1), .val (.int v12_35), .val (.int (1 : Int32)), .val (.long v14_63), .second, .unset, .unset, .unset, .unset] [(.long v14_63), (.ref b1)])) (fun _ k => XS.lload X15.here hx rfl (hb hby at_67) rfl  k) ?_
  obtain ⟨cq17, kq17, q17a, q17b, q17c⟩ := isOf hZ e15 E_7
  obtain ⟨_, _, ⟨T17, L17, k17, n17⟩, -, X17, ⟨Lc17, hQ17, l17, y17, z17⟩, st17⟩ := X15.virtualBack hx (y := (⟨"com/example/pickrelay/pickrelay/store/JobKey", "holds", "(J)Z"⟩ : MethodName)) (z := (⟨"com/example/pickrelay/pickrelay/store/JobKey", "holds", "(J)Z"⟩ : MethodName)) hown (mvT hZ (hw _ (List.mem_of_getElem? (i := 19) rfl))) (mvT hZ (hw _ (List.mem_of_getElem? (i := 20) rfl))) (notFace_of_selects (args := #[]) (mvT hZ (hw _ (List.mem_of_getElem? (i := 22) rfl)))) (mvT hZ (hw _ (List.mem_of_getElem? (i := 22) rfl))) (mvT hZ (hw _ (List.mem_of_getElem? (i := 21) rfl))) (by decide) (backOf (W := 0) (rm4 l Z a0 hw [] b1 v14_63 q0 v9_5 T6.heap n0 Z12 E_7 F8 F9) hZ (hw _ (List.mem_of_getElem? (i := 23) rfl)) (hw _ (List.mem_of_getElem? (i := 3) rfl)) (by decide) (by decide)) q17a q17c (g := (mkF m 69 #[.val (.long q0), .second, .val (.long q1), .second, .val (.long q2), .second, .val (.long q3), .second, .val (.int p4), .val (.long v9_5), .second, .val (.ref b1), .val (.int v12_35), .val (.int (1 : Int32)), .val (.long v14_63), .second, .unset, .unset, .unset, .unset] [(.long v14_63), (.ref b1)])) rfl (by rw [hml]; rfl) (Steps.refl _) (argsL := [(.long v14_63)]) (rest := []) (lenOf pd2 rfl) rfl (by show 2 * 0 + _ ≤ _; exact Nat.le_of_eq rfl) (hb hby at_69) (fun _ _ => ⟨rfl, e15, (by decide : 1 + 0 ≤ _), (by decide : 2 + 0 ≤ _)⟩)
  dsimp only [Pt.U, Pt.locs, Pt.cells, Pt.slots] at X17 l17 y17 z17 st17 hQ17
  subst l17 y17 z17
  obtain ⟨rfl, N17q, e17⟩ := hQ17
  have N18 := Fr.app N16 N17q
  refine Goes.step (S' := T17.setTop (mkF m 72 #[.val (.long q0), .second, .val (.long q1), .second, .val (.long q2), .second, .val (.long q3), .second, .val (.int p4), .val (.long v9_5), .second, .val (.ref b1), .val (.int v12_35), .val (.int (1 : Int32)), .val (.long v14_63), .second, .unset, .unset, .unset, .unset] [(.int (f4 v14_63 q0 v9_5))])) (fun _ k => st17.trans k) ?_
  refine Goes.step (S' := T17.setTop (mkF m 74 #[.val (.long q0), .second, .val (.long q1), .second, .val (.long q2), .second, .val (.long q3), .second, .val (.int p4), .val (.long v9_5), .second, .val (.ref b1), .val (.int v12_35), .val (.int (1 : Int32)), .val (.long v14_63), .second, .val (.int (f4 v14_63 q0 v9_5)), .unset, .unset, .unset] [])) (fun _ k => XS.istore X17.here hx rfl (hb hby at_72) rfl (l' := #[.val (.long q0), .second, .val (.long q1), .second, .val (.long q2), .second, .val (.long q3), .second, .val (.int p4), .val (.long v9_5), .second, .val (.ref b1), .val (.int v12_35), .val (.int (1 : Int32)), .val (.long v14_63), .second, .val (.int (f4 v14_63 q0 v9_5)), .unset, .unset, .unset]) rfl k) ?_
  obtain ⟨v16_72, ev16_72⟩ : ∃ z : Int32, z = (f4 v14_63 q0 v9_5) := ⟨_, rfl⟩
  rw [← ev16_72]
  refine Goes.step (S' := T17.setTop (mkF m 76 #[.val (.long q0), .second, .val (.long q1), .second, .val (.long q2), .second, .val (.long q3), .second, .val (.int p4), .val (.long v9_5), .second, .val (.ref b1), .val (.int v12_35), .val (.int (1 : Int32)), .val (.long v14_63), .second, .val (.int v16_72), .unset, .unset, .unset] [(.ref b1)])) (fun _ k => XS.aload X17.here hx rfl (hb hby at_74) rfl rfl k) ?_
  refine Goes.step (S' := T17.setTop (mkF m 78 #[.val (.long q0), .second, .val (.long q1), .second, .val (.long q2), .second, .val (.long q3), .second, .val (.int p4), .val (.long v9_5), .second, .val (.ref b1), .val (.int v12_35), .val (.int (1 : Int32)), .val (.long v14_63), .second, .val (.int v16_72), .unset, .unset, .unset] [(.long v14_63), (.ref b1)])) (fun _ k => XS.lload X17.here hx rfl (hb hby at_76) rfl  k) ?_
  refine Goes.step (S' := T17.setTop (mkF m 79 #[.val (.long q0), .second, .val (.long q1), .second, .val (.long q2), .second, .val (.long q3), .second, .val (.int p4), .val (.long v9_5), .second, .val (.ref b1), .val (.int v12_35), .val (.int (1 : Int32)), .val (.long v14_63), .second, .val (.int v16_72), .unset, .unset, .unset] [(.long (1 : Int64)), (.long v14_63), (.ref b1)])) (fun _ k => XS.lconst X17.here hx rfl (hb hby at_78) k) ?_
  refine Goes.step (S' := T17.setTop (mkF m 80 #[.val (.long q0), .second, .val (.long q1), .second, .val (.long q2), .second, .val (.long q3), .second, .val (.int p4), .val (.long v9_5), .second, .val (.ref b1), .val (.int v12_35), .val (.int (1 : Int32)), .val (.long v14_63), .second, .val (.int v16_72), .unset, .unset, .unset] [(.long (v14_63 + (1 : Int64))), (.ref b1)])) (fun _ k => XS.ladd X17.here hx rfl (hb hby at_79) rfl k) ?_
  obtain ⟨cq19, kq19, q19a, q19b, q19c⟩ := isOf hZ e17 E_7
  obtain ⟨_, _, ⟨T19, L19, k19, n19⟩, -, X19, ⟨Lc19, hQ19, l19, y19, z19⟩, st19⟩ := X17.virtualBack hx (y := (⟨"com/example/pickrelay/pickrelay/store/JobKey", "holds", "(J)Z"⟩ : MethodName)) (z := (⟨"com/example/pickrelay/pickrelay/store/JobKey", "holds", "(J)Z"⟩ : MethodName)) hown (mvT hZ (hw _ (List.mem_of_getElem? (i := 19) rfl))) (mvT hZ (hw _ (List.mem_of_getElem? (i := 20) rfl))) (notFace_of_selects (args := #[]) (mvT hZ (hw _ (List.mem_of_getElem? (i := 22) rfl)))) (mvT hZ (hw _ (List.mem_of_getElem? (i := 22) rfl))) (mvT hZ (hw _ (List.mem_of_getElem? (i := 21) rfl))) (by decide) (backOf (W := 0) (rm4 l Z a0 hw [] b1 (v14_63 + (1 : Int64)) q0 v9_5 T6.heap n0 Z12 E_7 F8 F9) hZ (hw _ (List.mem_of_getElem? (i := 23) rfl)) (hw _ (List.mem_of_getElem? (i := 3) rfl)) (by decide) (by decide)) q19a q19c (g := (mkF m 80 #[.val (.long q0), .second, .val (.long q1), .second, .val (.long q2), .second, .val (.long q3), .second, .val (.int p4), .val (.long v9_5), .second, .val (.ref b1), .val (.int v12_35), .val (.int (1 : Int32)), .val (.long v14_63), .second, .val (.int v16_72), .unset, .unset, .unset] [(.long (v14_63 + (1 : Int64))), (.ref b1)])) rfl (by rw [hml]; rfl) (Steps.refl _) (argsL := [(.long (v14_63 + (1 : Int64)))]) (rest := []) (lenOf pd2 rfl) rfl (by show 2 * 0 + _ ≤ _; exact Nat.le_of_eq rfl) (hb hby at_80) (fun _ _ => ⟨rfl, e17, (by decide : 1 + 0 ≤ _), (by decide : 2 + 0 ≤ _)⟩)
  dsimp only [Pt.U, Pt.locs, Pt.cells, Pt.slots] at X19 l19 y19 z19 st19 hQ19
  subst l19 y19 z19
  obtain ⟨rfl, N19q, e19⟩ := hQ19
  have N20 := Fr.app N18 N19q
  refine Goes.step (S' := T19.setTop (mkF m 83 #[.val (.long q0), .second, .val (.long q1), .second, .val (.long q2), .second, .val (.long q3), .second, .val (.int p4), .val (.long v9_5), .second, .val (.ref b1), .val (.int v12_35), .val (.int (1 : Int32)), .val (.long v14_63), .second, .val (.int v16_72), .unset, .unset, .unset] [(.int (f4 (v14_63 + (1 : Int64)) q0 v9_5))])) (fun _ k => st19.trans k) ?_
  refine Goes.step (S' := T19.setTop (mkF m 86 #[.val (.long q0), .second, .val (.long q1), .second, .val (.long q2), .second, .val (.long q3), .second, .val (.int p4), .val (.long v9_5), .second, .val (.ref b1), .val (.int v12_35), .val (.int (1 : Int32)), .val (.long v14_63), .second, .val (.int v16_72), .unset, .unset, .unset] [])) (fun _ k => XS.ifNo X19.here hx rfl (hb hby at_83) rfl ((if0 _ _).trans (teq (own_hc0_83 q0 q1 q2 q3 p4 v9_5 ev9_5 v12_35 ev12_35 v14_63 ev14_63 v16_72 ev16_72)).2) k) ?_
  refine Goes.step (S' := T19.setTop (mkF m 87 #[.val (.long q0), .second, .val (.long q1), .second, .val (.long q2), .second, .val (.long q3), .second, .val (.int p4), .val (.long v9_5), .second, .val (.ref b1), .val (.int v12_35), .val (.int (1 : Int32)), .val (.long v14_63), .second, .val (.int v16_72), .unset, .unset, .unset] [(.int (1 : Int32))])) (fun _ k => XS.iconst X19.here hx rfl (hb hby at_86) k) ?_
  refine Goes.step (S' := T19.setTop (mkF m 91 #[.val (.long q0), .second, .val (.long q1), .second, .val (.long q2), .second, .val (.long q3), .second, .val (.int p4), .val (.long v9_5), .second, .val (.ref b1), .val (.int v12_35), .val (.int (1 : Int32)), .val (.long v14_63), .second, .val (.int v16_72), .unset, .unset, .unset] [(.int (1 : Int32))])) (fun _ k => XS.goto X19.here hx rfl (pc0 := 87) (pc' := 91) rfl (hb hby at_87) (by decide) (by decide) k) ?_
  refine Goes.step (S' := T19.setTop (mkF m 93 #[.val (.long q0), .second, .val (.long q1), .second, .val (.long q2), .second, .val (.long q3), .second, .val (.int p4), .val (.long v9_5), .second, .val (.ref b1), .val (.int v12_35), .val (.int (1 : Int32)), .val (.long v14_63), .second, .val (.int v16_72), .val (.int (1 : Int32)), .unset, .unset] [])) (fun _ k => XS.istore X19.here hx rfl (hb hby at_91) rfl (l' := #[.val (.long q0), .second, .val (.long q1), .second, .val (.long q2), .second, .val (.long q3), .second, .val (.int p4), .val (.long v9_5), .second, .val (.ref b1), .val (.int v12_35), .val (.int (1 : Int32)), .val (.long v14_63), .second, .val (.int v16_72), .val (.int (1 : Int32)), .unset, .unset]) rfl k) ?_
  refine Goes.step (S' := T19.setTop (mkF m 95 #[.val (.long q0), .second, .val (.long q1), .second, .val (.long q2), .second, .val (.long q3), .second, .val (.int p4), .val (.long v9_5), .second, .val (.ref b1), .val (.int v12_35), .val (.int (1 : Int32)), .val (.long v14_63), .second, .val (.int v16_72), .val (.int (1 : Int32)), .unset, .unset] [(.ref b1)])) (fun _ k => XS.aload X19.here hx rfl (hb hby at_93) rfl rfl k) ?_
  refine Goes.step (S' := T19.setTop (mkF m 97 #[.val (.long q0), .second, .val (.long q1), .second, .val (.long q2), .second, .val (.long q3), .second, .val (.int p4), .val (.long v9_5), .second, .val (.ref b1), .val (.int v12_35), .val (.int (1 : Int32)), .val (.long v14_63), .second, .val (.int v16_72), .val (.int (1 : Int32)), .unset, .unset] [(.long v14_63), (.ref b1)])) (fun _ k => XS.lload X19.here hx rfl (hb hby at_95) rfl  k) ?_
  refine Goes.step (S' := T19.setTop (mkF m 98 #[.val (.long q0), .second, .val (.long q1), .second, .val (.long q2), .second, .val (.long q3), .second, .val (.int p4), .val (.long v9_5), .second, .val (.ref b1), .val (.int v12_35), .val (.int (1 : Int32)), .val (.long v14_63), .second, .val (.int v16_72), .val (.int (1 : Int32)), .unset, .unset] [(.long (1 : Int64)), (.long v14_63), (.ref b1)])) (fun _ k => XS.lconst X19.here hx rfl (hb hby at_97) k) ?_
  refine Goes.step (S' := T19.setTop (mkF m 100 #[.val (.long q0), .second, .val (.long q1), .second, .val (.long q2), .second, .val (.long q3), .second, .val (.int p4), .val (.long v9_5), .second, .val (.ref b1), .val (.int v12_35), .val (.int (1 : Int32)), .val (.long v14_63), .second, .val (.int v16_72), .val (.int (1 : Int32)), .unset, .unset] [(.int p4), (.long (1 : Int64)), (.long v14_63), (.ref b1)])) (fun _ k => XS.iload X19.here hx rfl (hb hby at_98) rfl  k) ?_
  refine Goes.step (S' := T19.setTop (mkF m 102 #[.val (.long q0), .second, .val (.long q1), .second, .val (.long q2), .second, .val (.long q3), .second, .val (.int p4), .val (.long v9_5), .second, .val (.ref b1), .val (.int v12_35), .val (.int (1 : Int32)), .val (.long v14_63), .second, .val (.int v16_72), .val (.int (1 : Int32)), .unset, .unset] [(.int (15 : Int32)), (.int p4), (.long (1 : Int64)), (.long v14_63), (.ref b1)])) (fun _ k => XS.bipush X19.here hx rfl (hb hby at_100) k) ?_
  refine Goes.step (S' := T19.setTop (mkF m 103 #[.val (.long q0), .second, .val (.long q1), .second, .val (.long q2), .second, .val (.long q3), .second, .val (.int p4), .val (.long v9_5), .second, .val (.ref b1), .val (.int v12_35), .val (.int (1 : Int32)), .val (.long v14_63), .second, .val (.int v16_72), .val (.int (1 : Int32)), .unset, .unset] [(.int (p4 &&& (15 : Int32))), (.long (1 : Int64)), (.long v14_63), (.ref b1)])) (fun _ k => XS.iand X19.here hx rfl (hb hby at_102) rfl k) ?_
  refine Goes.step (S' := T19.setTop (mkF m 104 #[.val (.long q0), .second, .val (.long q1), .second, .val (.long q2), .second, .val (.long q3), .second, .val (.int p4), .val (.long v9_5), .second, .val (.ref b1), .val (.int v12_35), .val (.int (1 : Int32)), .val (.long v14_63), .second, .val (.int v16_72), .val (.int (1 : Int32)), .unset, .unset] [(.long ((1 : Int64) <<< ((p4 &&& (15 : Int32)) &&& 0x3f).toInt64)), (.long v14_63), (.ref b1)])) (fun _ k => XS.lshl X19.here hx rfl (hb hby at_103) rfl k) ?_
  refine Goes.step (S' := T19.setTop (mkF m 105 #[.val (.long q0), .second, .val (.long q1), .second, .val (.long q2), .second, .val (.long q3), .second, .val (.int p4), .val (.long v9_5), .second, .val (.ref b1), .val (.int v12_35), .val (.int (1 : Int32)), .val (.long v14_63), .second, .val (.int v16_72), .val (.int (1 : Int32)), .unset, .unset] [(.long (v14_63 ^^^ ((1 : Int64) <<< ((p4 &&& (15 : Int32)) &&& 0x3f).toInt64))), (.ref b1)])) (fun _ k => XS.lxor X19.here hx rfl (hb hby at_104) rfl k) ?_
  obtain ⟨cq21, kq21, q21a, q21b, q21c⟩ := isOf hZ e19 E_7
  obtain ⟨_, _, ⟨T21, L21, k21, n21⟩, -, X21, ⟨Lc21, hQ21, l21, y21, z21⟩, st21⟩ := X19.virtualBack hx (y := (⟨"com/example/pickrelay/pickrelay/store/JobKey", "holds", "(J)Z"⟩ : MethodName)) (z := (⟨"com/example/pickrelay/pickrelay/store/JobKey", "holds", "(J)Z"⟩ : MethodName)) hown (mvT hZ (hw _ (List.mem_of_getElem? (i := 19) rfl))) (mvT hZ (hw _ (List.mem_of_getElem? (i := 20) rfl))) (notFace_of_selects (args := #[]) (mvT hZ (hw _ (List.mem_of_getElem? (i := 22) rfl)))) (mvT hZ (hw _ (List.mem_of_getElem? (i := 22) rfl))) (mvT hZ (hw _ (List.mem_of_getElem? (i := 21) rfl))) (by decide) (backOf (W := 0) (rm4 l Z a0 hw [] b1 (v14_63 ^^^ ((1 : Int64) <<< ((p4 &&& (15 : Int32)) &&& 0x3f).toInt64)) q0 v9_5 T6.heap n0 Z12 E_7 F8 F9) hZ (hw _ (List.mem_of_getElem? (i := 23) rfl)) (hw _ (List.mem_of_getElem? (i := 3) rfl)) (by decide) (by decide)) q21a q21c (g := (mkF m 105 #[.val (.long q0), .second, .val (.long q1), .second, .val (.long q2), .second, .val (.long q3), .second, .val (.int p4), .val (.long v9_5), .second, .val (.ref b1), .val (.int v12_35), .val (.int (1 : Int32)), .val (.long v14_63), .second, .val (.int v16_72), .val (.int (1 : Int32)), .unset, .unset] [(.long (v14_63 ^^^ ((1 : Int64) <<< ((p4 &&& (15 : Int32)) &&& 0x3f).toInt64))), (.ref b1)])) rfl (by rw [hml]; rfl) (Steps.refl _) (argsL := [(.long (v14_63 ^^^ ((1 : Int64) <<< ((p4 &&& (15 : Int32)) &&& 0x3f).toInt64)))]) (rest := []) (lenOf pd2 rfl) rfl (by show 2 * 0 + _ ≤ _; exact Nat.le_of_eq rfl) (hb hby at_105) (fun _ _ => ⟨rfl, e19, (by decide : 1 + 0 ≤ _), (by decide : 2 + 0 ≤ _)⟩)
  dsimp only [Pt.U, Pt.locs, Pt.cells, Pt.slots] at X21 l21 y21 z21 st21 hQ21
  subst l21 y21 z21
  obtain ⟨rfl, N21q, e21⟩ := hQ21
  have N22 := Fr.app N20 N21q
  refine Goes.step (S' := T21.setTop (mkF m 108 #[.val (.long q0), .second, .val (.long q1), .second, .val (.long q2), .second, .val (.long q3), .second, .val (.int p4), .val (.long v9_5), .second, .val (.ref b1), .val (.int v12_35), .val (.int (1 : Int32)), .val (.long v14_63), .second, .val (.int v16_72), .val (.int (1 : Int32)), .unset, .unset] [(.int (f4 (v14_63 ^^^ ((1 : Int64) <<< ((p4 &&& (15 : Int32)) &&& 0x3f).toInt64)) q0 v9_5))])) (fun _ k => st21.trans k) ?_
  refine Goes.step (S' := T21.setTop (mkF m 111 #[.val (.long q0), .second, .val (.long q1), .second, .val (.long q2), .second, .val (.long q3), .second, .val (.int p4), .val (.long v9_5), .second, .val (.ref b1), .val (.int v12_35), .val (.int (1 : Int32)), .val (.long v14_63), .second, .val (.int v16_72), .val (.int (1 : Int32)), .unset, .unset] [])) (fun _ k => XS.ifNo X21.here hx rfl (hb hby at_108) rfl ((if0 _ _).trans (teq (own_hc0_108 q0 q1 q2 q3 p4 v9_5 ev9_5 v12_35 ev12_35 v14_63 ev14_63 v16_72 ev16_72)).2) k) ?_
  refine Goes.step (S' := T21.setTop (mkF m 112 #[.val (.long q0), .second, .val (.long q1), .second, .val (.long q2), .second, .val (.long q3), .second, .val (.int p4), .val (.long v9_5), .second, .val (.ref b1), .val (.int v12_35), .val (.int (1 : Int32)), .val (.long v14_63), .second, .val (.int v16_72), .val (.int (1 : Int32)), .unset, .unset] [(.int (1 : Int32))])) (fun _ k => XS.iconst X21.here hx rfl (hb hby at_111) k) ?_
  refine Goes.step (S' := T21.setTop (mkF m 116 #[.val (.long q0), .second, .val (.long q1), .second, .val (.long q2), .second, .val (.long q3), .second, .val (.int p4), .val (.long v9_5), .second, .val (.ref b1), .val (.int v12_35), .val (.int (1 : Int32)), .val (.long v14_63), .second, .val (.int v16_72), .val (.int (1 : Int32)), .unset, .unset] [(.int (1 : Int32))])) (fun _ k => XS.goto X21.here hx rfl (pc0 := 112) (pc' := 116) rfl (hb hby at_112) (by decide) (by decide) k) ?_
  refine Goes.step (S' := T21.setTop (mkF m 118 #[.val (.long q0), .second, .val (.long q1), .second, .val (.long q2), .second, .val (.long q3), .second, .val (.int p4), .val (.long v9_5), .second, .val (.ref b1), .val (.int v12_35), .val (.int (1 : Int32)), .val (.long v14_63), .second, .val (.int v16_72), .val (.int (1 : Int32)), .val (.int (1 : Int32)), .unset] [])) (fun _ k => XS.istore X21.here hx rfl (hb hby at_116) rfl (l' := #[.val (.long q0), .second, .val (.long q1), .second, .val (.long q2), .second, .val (.long q3), .second, .val (.int p4), .val (.long v9_5), .second, .val (.ref b1), .val (.int v12_35), .val (.int (1 : Int32)), .val (.long v14_63), .second, .val (.int v16_72), .val (.int (1 : Int32)), .val (.int (1 : Int32)), .unset]) rfl k) ?_
  refine Goes.step (S' := T21.setTop (mkF m 120 #[.val (.long q0), .second, .val (.long q1), .second, .val (.long q2), .second, .val (.long q3), .second, .val (.int p4), .val (.long v9_5), .second, .val (.ref b1), .val (.int v12_35), .val (.int (1 : Int32)), .val (.long v14_63), .second, .val (.int v16_72), .val (.int (1 : Int32)), .val (.int (1 : Int32)), .unset] [(.ref b1)])) (fun _ k => XS.aload X21.here hx rfl (hb hby at_118) rfl rfl k) ?_
  refine Goes.step (S' := T21.setTop (mkF m 122 #[.val (.long q0), .second, .val (.long q1), .second, .val (.long q2), .second, .val (.long q3), .second, .val (.int p4), .val (.long v9_5), .second, .val (.ref b1), .val (.int v12_35), .val (.int (1 : Int32)), .val (.long v14_63), .second, .val (.int v16_72), .val (.int (1 : Int32)), .val (.int (1 : Int32)), .unset] [(.long v14_63), (.ref b1)])) (fun _ k => XS.lload X21.here hx rfl (hb hby at_120) rfl  k) ?_
  refine Goes.step (S' := T21.setTop (mkF m 123 #[.val (.long q0), .second, .val (.long q1), .second, .val (.long q2), .second, .val (.long q3), .second, .val (.int p4), .val (.long v9_5), .second, .val (.ref b1), .val (.int v12_35), .val (.int (1 : Int32)), .val (.long v14_63), .second, .val (.int v16_72), .val (.int (1 : Int32)), .val (.int (1 : Int32)), .unset] [(.long (1 : Int64)), (.long v14_63), (.ref b1)])) (fun _ k => XS.lconst X21.here hx rfl (hb hby at_122) k) ?_
  refine Goes.step (S' := T21.setTop (mkF m 125 #[.val (.long q0), .second, .val (.long q1), .second, .val (.long q2), .second, .val (.long q3), .second, .val (.int p4), .val (.long v9_5), .second, .val (.ref b1), .val (.int v12_35), .val (.int (1 : Int32)), .val (.long v14_63), .second, .val (.int v16_72), .val (.int (1 : Int32)), .val (.int (1 : Int32)), .unset] [(.int (16 : Int32)), (.long (1 : Int64)), (.long v14_63), (.ref b1)])) (fun _ k => XS.bipush X21.here hx rfl (hb hby at_123) k) ?_
  refine Goes.step (S' := T21.setTop (mkF m 127 #[.val (.long q0), .second, .val (.long q1), .second, .val (.long q2), .second, .val (.long q3), .second, .val (.int p4), .val (.long v9_5), .second, .val (.ref b1), .val (.int v12_35), .val (.int (1 : Int32)), .val (.long v14_63), .second, .val (.int v16_72), .val (.int (1 : Int32)), .val (.int (1 : Int32)), .unset] [(.int p4), (.int (16 : Int32)), (.long (1 : Int64)), (.long v14_63), (.ref b1)])) (fun _ k => XS.iload X21.here hx rfl (hb hby at_125) rfl  k) ?_
  refine Goes.step (S' := T21.setTop (mkF m 129 #[.val (.long q0), .second, .val (.long q1), .second, .val (.long q2), .second, .val (.long q3), .second, .val (.int p4), .val (.long v9_5), .second, .val (.ref b1), .val (.int v12_35), .val (.int (1 : Int32)), .val (.long v14_63), .second, .val (.int v16_72), .val (.int (1 : Int32)), .val (.int (1 : Int32)), .unset] [(.int (2147483647 : Int32)), (.int p4), (.int (16 : Int32)), (.long (1 : Int64)), (.long v14_63), (.ref b1)])) (fun _ k => X21.ldcInt hx hown (mvT hZ (hw _ (List.mem_of_getElem? (i := 30) rfl))) (g := (mkF m 127 #[.val (.long q0), .second, .val (.long q1), .second, .val (.long q2), .second, .val (.long q3), .second, .val (.int p4), .val (.long v9_5), .second, .val (.ref b1), .val (.int v12_35), .val (.int (1 : Int32)), .val (.long v14_63), .second, .val (.int v16_72), .val (.int (1 : Int32)), .val (.int (1 : Int32)), .unset] [(.int p4), (.int (16 : Int32)), (.long (1 : Int64)), (.long v14_63), (.ref b1)])) rfl (hb hby at_127) _ k) ?_
  refine Goes.step (S' := T21.setTop (mkF m 130 #[.val (.long q0), .second, .val (.long q1), .second, .val (.long q2), .second, .val (.long q3), .second, .val (.int p4), .val (.long v9_5), .second, .val (.ref b1), .val (.int v12_35), .val (.int (1 : Int32)), .val (.long v14_63), .second, .val (.int v16_72), .val (.int (1 : Int32)), .val (.int (1 : Int32)), .unset] [(.int (p4 &&& (2147483647 : Int32))), (.int (16 : Int32)), (.long (1 : Int64)), (.long v14_63), (.ref b1)])) (fun _ k => XS.iand X21.here hx rfl (hb hby at_129) rfl k) ?_
  refine Goes.step (S' := T21.setTop (mkF m 132 #[.val (.long q0), .second, .val (.long q1), .second, .val (.long q2), .second, .val (.long q3), .second, .val (.int p4), .val (.long v9_5), .second, .val (.ref b1), .val (.int v12_35), .val (.int (1 : Int32)), .val (.long v14_63), .second, .val (.int v16_72), .val (.int (1 : Int32)), .val (.int (1 : Int32)), .unset] [(.int (48 : Int32)), (.int (p4 &&& (2147483647 : Int32))), (.int (16 : Int32)), (.long (1 : Int64)), (.long v14_63), (.ref b1)])) (fun _ k => XS.bipush X21.here hx rfl (hb hby at_130) k) ?_
  refine Goes.step (S' := T21.setTop (mkF m 133 #[.val (.long q0), .second, .val (.long q1), .second, .val (.long q2), .second, .val (.long q3), .second, .val (.int p4), .val (.long v9_5), .second, .val (.ref b1), .val (.int v12_35), .val (.int (1 : Int32)), .val (.long v14_63), .second, .val (.int v16_72), .val (.int (1 : Int32)), .val (.int (1 : Int32)), .unset] [(.int ((p4 &&& (2147483647 : Int32)) % (48 : Int32))), (.int (16 : Int32)), (.long (1 : Int64)), (.long v14_63), (.ref b1)])) (fun _ k => iremM X21 hx rfl (hb hby at_132) rfl (by decide) k) ?_
  refine Goes.step (S' := T21.setTop (mkF m 134 #[.val (.long q0), .second, .val (.long q1), .second, .val (.long q2), .second, .val (.long q3), .second, .val (.int p4), .val (.long v9_5), .second, .val (.ref b1), .val (.int v12_35), .val (.int (1 : Int32)), .val (.long v14_63), .second, .val (.int v16_72), .val (.int (1 : Int32)), .val (.int (1 : Int32)), .unset] [(.int ((16 : Int32) + ((p4 &&& (2147483647 : Int32)) % (48 : Int32)))), (.long (1 : Int64)), (.long v14_63), (.ref b1)])) (fun _ k => XS.iadd X21.here hx rfl (hb hby at_133) rfl k) ?_
  refine Goes.step (S' := T21.setTop (mkF m 135 #[.val (.long q0), .second, .val (.long q1), .second, .val (.long q2), .second, .val (.long q3), .second, .val (.int p4), .val (.long v9_5), .second, .val (.ref b1), .val (.int v12_35), .val (.int (1 : Int32)), .val (.long v14_63), .second, .val (.int v16_72), .val (.int (1 : Int32)), .val (.int (1 : Int32)), .unset] [(.long ((1 : Int64) <<< (((16 : Int32) + ((p4 &&& (2147483647 : Int32)) % (48 : Int32))) &&& 0x3f).toInt64)), (.long v14_63), (.ref b1)])) (fun _ k => XS.lshl X21.here hx rfl (hb hby at_134) rfl k) ?_
  refine Goes.step (S' := T21.setTop (mkF m 136 #[.val (.long q0), .second, .val (.long q1), .second, .val (.long q2), .second, .val (.long q3), .second, .val (.int p4), .val (.long v9_5), .second, .val (.ref b1), .val (.int v12_35), .val (.int (1 : Int32)), .val (.long v14_63), .second, .val (.int v16_72), .val (.int (1 : Int32)), .val (.int (1 : Int32)), .unset] [(.long (v14_63 ^^^ ((1 : Int64) <<< (((16 : Int32) + ((p4 &&& (2147483647 : Int32)) % (48 : Int32))) &&& 0x3f).toInt64))), (.ref b1)])) (fun _ k => XS.lxor X21.here hx rfl (hb hby at_135) rfl k) ?_
  obtain ⟨cq23, kq23, q23a, q23b, q23c⟩ := isOf hZ e21 E_7
  obtain ⟨_, _, ⟨T23, L23, k23, n23⟩, -, X23, ⟨Lc23, hQ23, l23, y23, z23⟩, st23⟩ := X21.virtualBack hx (y := (⟨"com/example/pickrelay/pickrelay/store/JobKey", "holds", "(J)Z"⟩ : MethodName)) (z := (⟨"com/example/pickrelay/pickrelay/store/JobKey", "holds", "(J)Z"⟩ : MethodName)) hown (mvT hZ (hw _ (List.mem_of_getElem? (i := 19) rfl))) (mvT hZ (hw _ (List.mem_of_getElem? (i := 20) rfl))) (notFace_of_selects (args := #[]) (mvT hZ (hw _ (List.mem_of_getElem? (i := 22) rfl)))) (mvT hZ (hw _ (List.mem_of_getElem? (i := 22) rfl))) (mvT hZ (hw _ (List.mem_of_getElem? (i := 21) rfl))) (by decide) (backOf (W := 0) (rm4 l Z a0 hw [] b1 (v14_63 ^^^ ((1 : Int64) <<< (((16 : Int32) + ((p4 &&& (2147483647 : Int32)) % (48 : Int32))) &&& 0x3f).toInt64)) q0 v9_5 T6.heap n0 Z12 E_7 F8 F9) hZ (hw _ (List.mem_of_getElem? (i := 23) rfl)) (hw _ (List.mem_of_getElem? (i := 3) rfl)) (by decide) (by decide)) q23a q23c (g := (mkF m 136 #[.val (.long q0), .second, .val (.long q1), .second, .val (.long q2), .second, .val (.long q3), .second, .val (.int p4), .val (.long v9_5), .second, .val (.ref b1), .val (.int v12_35), .val (.int (1 : Int32)), .val (.long v14_63), .second, .val (.int v16_72), .val (.int (1 : Int32)), .val (.int (1 : Int32)), .unset] [(.long (v14_63 ^^^ ((1 : Int64) <<< (((16 : Int32) + ((p4 &&& (2147483647 : Int32)) % (48 : Int32))) &&& 0x3f).toInt64))), (.ref b1)])) rfl (by rw [hml]; rfl) (Steps.refl _) (argsL := [(.long (v14_63 ^^^ ((1 : Int64) <<< (((16 : Int32) + ((p4 &&& (2147483647 : Int32)) % (48 : Int32))) &&& 0x3f).toInt64)))]) (rest := []) (lenOf pd2 rfl) rfl (by show 2 * 0 + _ ≤ _; exact Nat.le_of_eq rfl) (hb hby at_136) (fun _ _ => ⟨rfl, e21, (by decide : 1 + 0 ≤ _), (by decide : 2 + 0 ≤ _)⟩)
  dsimp only [Pt.U, Pt.locs, Pt.cells, Pt.slots] at X23 l23 y23 z23 st23 hQ23
  subst l23 y23 z23
  obtain ⟨rfl, N23q, e23⟩ := hQ23
  have N24 := Fr.app N22 N23q
  refine Goes.step (S' := T23.setTop (mkF m 139 #[.val (.long q0), .second, .val (.long q1), .second, .val (.long q2), .second, .val (.long q3), .second, .val (.int p4), .val (.long v9_5), .second, .val (.ref b1), .val (.int v12_35), .val (.int (1 : Int32)), .val (.long v14_63), .second, .val (.int v16_72), .val (.int (1 : Int32)), .val (.int (1 : Int32)), .unset] [(.int (f4 (v14_63 ^^^ ((1 : Int64) <<< (((16 : Int32) + ((p4 &&& (2147483647 : Int32)) % (48 : Int32))) &&& 0x3f).toInt64)) q0 v9_5))])) (fun _ k => st23.trans k) ?_
  refine Goes.step (S' := T23.setTop (mkF m 141 #[.val (.long q0), .second, .val (.long q1), .second, .val (.long q2), .second, .val (.long q3), .second, .val (.int p4), .val (.long v9_5), .second, .val (.ref b1), .val (.int v12_35), .val (.int (1 : Int32)), .val (.long v14_63), .second, .val (.int v16_72), .val (.int (1 : Int32)), .val (.int (1 : Int32)), .val (.int (f4 (v14_63 ^^^ ((1 : Int64) <<< (((16 : Int32) + ((p4 &&& (2147483647 : Int32)) % (48 : Int32))) &&& 0x3f).toInt64)) q0 v9_5))] [])) (fun _ k => XS.istore X23.here hx rfl (hb hby at_139) rfl (l' := #[.val (.long q0), .second, .val (.long q1), .second, .val (.long q2), .second, .val (.long q3), .second, .val (.int p4), .val (.long v9_5), .second, .val (.ref b1), .val (.int v12_35), .val (.int (1 : Int32)), .val (.long v14_63), .second, .val (.int v16_72), .val (.int (1 : Int32)), .val (.int (1 : Int32)), .val (.int (f4 (v14_63 ^^^ ((1 : Int64) <<< (((16 : Int32) + ((p4 &&& (2147483647 : Int32)) % (48 : Int32))) &&& 0x3f).toInt64)) q0 v9_5))]) rfl k) ?_
  obtain ⟨v19_139, ev19_139⟩ : ∃ z : Int32, z = (f4 (v14_63 ^^^ ((1 : Int64) <<< (((16 : Int32) + ((p4 &&& (2147483647 : Int32)) % (48 : Int32))) &&& 0x3f).toInt64)) q0 v9_5) := ⟨_, rfl⟩
  rw [← ev19_139]
  refine Goes.step (S' := T23.setTop (mkF m 143 #[.val (.long q0), .second, .val (.long q1), .second, .val (.long q2), .second, .val (.long q3), .second, .val (.int p4), .val (.long v9_5), .second, .val (.ref b1), .val (.int v12_35), .val (.int (1 : Int32)), .val (.long v14_63), .second, .val (.int v16_72), .val (.int (1 : Int32)), .val (.int (1 : Int32)), .val (.int v19_139)] [(.int (1 : Int32))])) (fun _ k => XS.iload X23.here hx rfl (hb hby at_141) rfl  k) ?_
  refine Goes.step (S' := T23.setTop (mkF m 146 #[.val (.long q0), .second, .val (.long q1), .second, .val (.long q2), .second, .val (.long q3), .second, .val (.int p4), .val (.long v9_5), .second, .val (.ref b1), .val (.int v12_35), .val (.int (1 : Int32)), .val (.long v14_63), .second, .val (.int v16_72), .val (.int (1 : Int32)), .val (.int (1 : Int32)), .val (.int v19_139)] [])) (fun _ k => XS.ifNo X23.here hx rfl (hb hby at_143) rfl ((if0 _ _).trans (feq (by decide)).1) k) ?_
  refine Goes.step (S' := T23.setTop (mkF m 148 #[.val (.long q0), .second, .val (.long q1), .second, .val (.long q2), .second, .val (.long q3), .second, .val (.int p4), .val (.long v9_5), .second, .val (.ref b1), .val (.int v12_35), .val (.int (1 : Int32)), .val (.long v14_63), .second, .val (.int v16_72), .val (.int (1 : Int32)), .val (.int (1 : Int32)), .val (.int v19_139)] [(.int v16_72)])) (fun _ k => XS.iload X23.here hx rfl (hb hby at_146) rfl  k) ?_
  refine Goes.step (S' := T23.setTop (mkF m 151 #[.val (.long q0), .second, .val (.long q1), .second, .val (.long q2), .second, .val (.long q3), .second, .val (.int p4), .val (.long v9_5), .second, .val (.ref b1), .val (.int v12_35), .val (.int (1 : Int32)), .val (.long v14_63), .second, .val (.int v16_72), .val (.int (1 : Int32)), .val (.int (1 : Int32)), .val (.int v19_139)] [])) (fun _ k => XS.ifNo X23.here hx rfl (hb hby at_148) rfl ((if0 _ _).trans (feq (own_hc0_148 q0 q1 q2 q3 p4 v9_5 ev9_5 v12_35 ev12_35 v14_63 ev14_63 v16_72 ev16_72 v19_139 ev19_139)).1) k) ?_
  refine Goes.step (S' := T23.setTop (mkF m 153 #[.val (.long q0), .second, .val (.long q1), .second, .val (.long q2), .second, .val (.long q3), .second, .val (.int p4), .val (.long v9_5), .second, .val (.ref b1), .val (.int v12_35), .val (.int (1 : Int32)), .val (.long v14_63), .second, .val (.int v16_72), .val (.int (1 : Int32)), .val (.int (1 : Int32)), .val (.int v19_139)] [(.int (1 : Int32))])) (fun _ k => XS.iload X23.here hx rfl (hb hby at_151) rfl  k) ?_
  refine Goes.step (S' := T23.setTop (mkF m 156 #[.val (.long q0), .second, .val (.long q1), .second, .val (.long q2), .second, .val (.long q3), .second, .val (.int p4), .val (.long v9_5), .second, .val (.ref b1), .val (.int v12_35), .val (.int (1 : Int32)), .val (.long v14_63), .second, .val (.int v16_72), .val (.int (1 : Int32)), .val (.int (1 : Int32)), .val (.int v19_139)] [])) (fun _ k => XS.ifNo X23.here hx rfl (hb hby at_153) rfl ((if0 _ _).trans (feq (by decide)).1) k) ?_
  refine Goes.step (S' := T23.setTop (mkF m 158 #[.val (.long q0), .second, .val (.long q1), .second, .val (.long q2), .second, .val (.long q3), .second, .val (.int p4), .val (.long v9_5), .second, .val (.ref b1), .val (.int v12_35), .val (.int (1 : Int32)), .val (.long v14_63), .second, .val (.int v16_72), .val (.int (1 : Int32)), .val (.int (1 : Int32)), .val (.int v19_139)] [(.int (1 : Int32))])) (fun _ k => XS.iload X23.here hx rfl (hb hby at_156) rfl  k) ?_
  refine Goes.step (S' := T23.setTop (mkF m 161 #[.val (.long q0), .second, .val (.long q1), .second, .val (.long q2), .second, .val (.long q3), .second, .val (.int p4), .val (.long v9_5), .second, .val (.ref b1), .val (.int v12_35), .val (.int (1 : Int32)), .val (.long v14_63), .second, .val (.int v16_72), .val (.int (1 : Int32)), .val (.int (1 : Int32)), .val (.int v19_139)] [])) (fun _ k => XS.ifNo X23.here hx rfl (hb hby at_158) rfl ((if0 _ _).trans (feq (by decide)).1) k) ?_
  refine Goes.step (S' := T23.setTop (mkF m 163 #[.val (.long q0), .second, .val (.long q1), .second, .val (.long q2), .second, .val (.long q3), .second, .val (.int p4), .val (.long v9_5), .second, .val (.ref b1), .val (.int v12_35), .val (.int (1 : Int32)), .val (.long v14_63), .second, .val (.int v16_72), .val (.int (1 : Int32)), .val (.int (1 : Int32)), .val (.int v19_139)] [(.int v19_139)])) (fun _ k => XS.iload X23.here hx rfl (hb hby at_161) rfl  k) ?_
  refine Goes.step (S' := T23.setTop (mkF m 166 #[.val (.long q0), .second, .val (.long q1), .second, .val (.long q2), .second, .val (.long q3), .second, .val (.int p4), .val (.long v9_5), .second, .val (.ref b1), .val (.int v12_35), .val (.int (1 : Int32)), .val (.long v14_63), .second, .val (.int v16_72), .val (.int (1 : Int32)), .val (.int (1 : Int32)), .val (.int v19_139)] [])) (fun _ k => XS.ifNo X23.here hx rfl (hb hby at_163) rfl ((if0 _ _).trans (feq (own_hc0_163 q0 q1 q2 q3 p4 v9_5 ev9_5 v12_35 ev12_35 v14_63 ev14_63 v16_72 ev16_72 v19_139 ev19_139)).1) k) ?_
  refine Goes.step (S' := T23.setTop (mkF m 167 #[.val (.long q0), .second, .val (.long q1), .second, .val (.long q2), .second, .val (.long q3), .second, .val (.int p4), .val (.long v9_5), .second, .val (.ref b1), .val (.int v12_35), .val (.int (1 : Int32)), .val (.long v14_63), .second, .val (.int v16_72), .val (.int (1 : Int32)), .val (.int (1 : Int32)), .val (.int v19_139)] [(.int (1 : Int32))])) (fun _ k => XS.iconst X23.here hx rfl (hb hby at_166) k) ?_
  refine Goes.step (S' := T23.setTop (mkF m 171 #[.val (.long q0), .second, .val (.long q1), .second, .val (.long q2), .second, .val (.long q3), .second, .val (.int p4), .val (.long v9_5), .second, .val (.ref b1), .val (.int v12_35), .val (.int (1 : Int32)), .val (.long v14_63), .second, .val (.int v16_72), .val (.int (1 : Int32)), .val (.int (1 : Int32)), .val (.int v19_139)] [(.int (1 : Int32))])) (fun _ k => XS.goto X23.here hx rfl (pc0 := 167) (pc' := 171) rfl (hb hby at_167) (by decide) (by decide) k) ?_
  refine Goes.retN X23 hx Bd.notSynchronized (t := .boolean) Bd.returns (by simp) (hb hby at_171) (by decide) (by decide) ?_
  exact ⟨rfl, N24⟩
set_option maxRecDepth 65536 in
set_option maxHeartbeats 40000000 in
theorem comes_1 {Post : Tables → Env → Array Value → State → Outcome → State → Prop} (hpost : ∀ tb e args s v u, (limb_1_1.after args s (.returned v) u = true ∧ limb_1_2.after args s (.returned v) u = true ∧ True) → FrameEnd s (.returned v) u (Jvm.fieldLocs frame_1_writes args s ++ Jvm.arrayLocs frame_1_arrays args s ++ Jvm.staticLocs frame_1_statics s) 16 128 → Post tb e args s (.returned v) u) :
    ArmFor flags0 classFile x code maxLocals ret World_1 tables_1 room_1 Calls_1 rest_1 Pre_1 Post := by
  intro l hfl _ _ p e ha hc hk s m args below hf hA hF happ hP
  obtain ⟨hcalls, hrest, hpre⟩ := hP
  obtain ⟨-, -, -, hnamed, -, -, -, hat⟩ := (Spec.applies_iff hf).mp happ
  obtain ⟨hg, hn⟩ := and_e (Cond.before_iff.mp (show (Jvm.Cond.and given_1 narrow_1).before args s = true from hpre))
  obtain ⟨gg1, gg2⟩ := and_e hg
  obtain ⟨gg3, gg4⟩ := and_e gg2
  obtain ⟨gg5, gg6⟩ := and_e gg4
  obtain ⟨gg7, gg8⟩ := and_e gg6
  obtain ⟨gg9, gg10⟩ := and_e gg8
  obtain ⟨w0, w1, w2, w3, w4, rfl⟩ : ∃ w0 w1 w2 w3 w4 : Value, args = #[w0, w1, w2, w3, w4] := by
    have hs : args.size = 5 := by simpa [Cond.value, given_1] using gg1
    obtain ⟨L⟩ := args
    match L, hs with
    | [w0, w1, w2, w3, w4], _ => exact ⟨w0, w1, w2, w3, w4, rfl⟩
  have hw := fun d (hd : d ∈ tables_1) => atoms_spec (ws := Jvm.Cond.code x code maxLocals ret :: tables_1) hat d (List.mem_cons_of_mem _ hd)
  obtain ⟨i0, ei0⟩ := isL_v gg3
  obtain rfl : w0 = (.long i0) := Option.some.inj ei0
  obtain ⟨i1, ei1⟩ := isL_v gg5
  obtain rfl : w1 = (.long i1) := Option.some.inj ei1
  obtain ⟨i2, ei2⟩ := isL_v gg7
  obtain rfl : w2 = (.long i2) := Option.some.inj ei2
  obtain ⟨i3, ei3⟩ := isL_v gg9
  obtain rfl : w3 = (.long i3) := Option.some.inj ei3
  obtain ⟨i4, ei4⟩ := is_v gg10
  obtain rfl : w4 = (.int i4) := Option.some.inj ei4
  obtain ⟨n, o, h1, h2, h3, _, L, rfl, ⟨rfl, N⟩, hq⟩ := rm0 l s _ hw tables_1 i0 i1 i2 i3 i4 s.heap s.heap.size (Nat.le_refl _) p e ha hc hk s m _ below hf ((Spec.applies_iff_loose hf).mp happ).1 ⟨rfl, State.Warmed39.refl s, rfl⟩ trivial
  refine ⟨n, _, h1, h2, h3, hpost _ _ _ _ _ _ ⟨Cond.after_iff.mpr rfl, Cond.after_iff.mpr (eq_i res_at (Term.int_eval (1)) rfl), trivial⟩ ⟨hq.1, hq.2.1, (hq.2.2.sift fun y hy => Or.inr (N y hy)).mono (by decide) (by decide)⟩⟩
theorem main_1_1 : Claimed_1_1 := comes_1 fun _ _ _ _ _ _ h hF => ⟨h.1, hF⟩
theorem main_1_2 : Claimed_1_2 := comes_1 fun _ _ _ _ _ _ h hF => ⟨h.2.1, hF⟩
end Jvm.Pilot.@@N@@
namespace Jvm.Pilot.@@N@@
open Jvm Jvm.ClassFile Sem Op Lib Jvm.Free Jvm.Stand Jvm.Pilot.@@N@@.Jvm.D
/-! MADE BY PROGRAM (witnessworld.py) out of the Statement's table words and the real class files: 10 classes; the members and pool entries that the words name. The judged class is class 1, her method 1. -/
namespace start1
open Jvm.ClassFile
def u (s : String) : CpInfo := .utf8 (stringToUtf16 s)
/-- a pool by its gaps: so many unusable entries, then the entry; so many at the end -/
def gap : Nat → List CpInfo → List CpInfo
  | 0, r => r
  | n + 1, r => .unusable :: gap n r
def poolList (es : List (Nat × CpInfo)) (last : Nat) : List CpInfo := es.foldr (fun e r => gap e.1 (e.2 :: r)) (gap last [])
def pool (es : List (Nat × CpInfo)) (last : Nat) : Array CpInfo := ⟨poolList es last⟩
def fileOf (pool : Array CpInfo) (this : Nat) (attrs : Array Attribute := #[]) (ms : Array MethodInfo := #[]) (fl : Nat := 33) (sup : Nat := 0) (ifs : Array Nat := #[]) (fds : Array FieldInfo := #[]) : ClassFile where
  minorVersion := 0
  majorVersion := 65
  constantPool := pool
  accessFlags := fl
  thisClass := this
  superClass := sup
  interfaces := ifs
  fields := fds
  methods := ms
  attributes := attrs
def plain (name : String) (sup : Option ClassId) : Class where
  name := name
  kind := .ordinary
  loader := none
  accessFlags := 33
  super := sup
  interfaces := #[]
  cf := none
  fields := #[]
  methods := #[]
  instanceTypes := #[]
  staticTypes := #[]
  resolved := #[]
  callSites := []
  init := .initialized
  statics := none
  mirror := none

def pool0 : Array CpInfo := pool [(5, u "<init>"), (0, u "()V"), (1, .class_ 10), (1, u "java/lang/Object")] 113

def k0c0 : Code := { maxStack := 0, maxLocals := 1, code := object_method_1_code, exceptionTable := #[], attributes := #[] }
def k0m0 : Method := { name := "<init>", desc := "()V", sig := { parameters := [], returnType := none }, accessFlags := 1, code := some k0c0 }
/-- java/lang/Object -/
def k0 : Class := { plain "java/lang/Object" none with
  accessFlags := 33
  interfaces := #[]
  cf := some (fileOf pool0 8 #[] #[{ accessFlags := 1, nameIndex := 5, descriptorIndex := 6, attributes := #[] }] 33 0 #[] #[])
  fields := #[]
  methods := #[k0m0]
  instanceTypes := #[]
  staticTypes := #[]
  resolved := Array.replicate 124 none
  statics := none }

def pool1 : Array CpInfo := pool [(2, .class_ 4), (1, u "java/lang/Object"), (0, u "<init>"), (0, u "()V"), (0, .long 65535), (1, .class_ 10), (0, u "com/example/pickrelay/pickrelay/store/JobKey"), (0, .methodref 9 12), (0, .nameAndType 5 13), (0, u "(JJ)V"), (0, .methodref 9 15), (0, .nameAndType 16 17), (0, u "holds"), (0, u "(J)Z"), (0, .methodref 9 19), (0, .nameAndType 20 21), (0, u "entry"), (0, u "(J)J"), (0, .integer 2147483647), (0, .class_ 24), (0, u "com/example/pickrelay/pickrelay/store/JobKeyHoldsPinLaw"), (2, u "law"), (0, u "(JJJJI)Z")] 3

def k1m0 : Method := { name := "<init>", desc := "()V", sig := { parameters := [], returnType := none }, accessFlags := 2, code := none }
def k1c1 : Code := { maxStack := 8, maxLocals := 20, code := code, exceptionTable := #[], attributes := #[] }
def k1m1 : Method := { name := "law", desc := "(JJJJI)Z", sig := { parameters := [.long, .long, .long, .long, .int], returnType := some .boolean }, accessFlags := 9, code := some k1c1 }
/-- com/example/pickrelay/pickrelay/store/JobKeyHoldsPinLaw -/
def k1 : Class := { plain "com/example/pickrelay/pickrelay/store/JobKeyHoldsPinLaw" (some 0) with
  accessFlags := 49
  interfaces := #[]
  cf := some (fileOf pool1 23 #[] #[{ accessFlags := 2, nameIndex := 5, descriptorIndex := 6, attributes := #[] }, { accessFlags := 9, nameIndex := 27, descriptorIndex := 28, attributes := #[] }] 49 2 #[] #[])
  fields := #[]
  methods := #[k1m0, k1m1]
  instanceTypes := #[]
  staticTypes := #[]
  resolved := Array.replicate 32 none
  statics := none }

def pool2 : Array CpInfo := pool [(1, .methodref 2 3), (0, .class_ 4), (0, .nameAndType 5 6), (0, u "java/lang/Object"), (0, u "<init>"), (0, u "()V"), (0, .class_ 8), (0, u "java/lang/Record")] 13

def k2c0 : Code := { maxStack := 1, maxLocals := 1, code := jdk_30_method_1_code, exceptionTable := #[], attributes := #[] }
def k2m0 : Method := { name := "<init>", desc := "()V", sig := { parameters := [], returnType := none }, accessFlags := 4, code := some k2c0 }
/-- java/lang/Record -/
def k2 : Class := { plain "java/lang/Record" (some 0) with
  accessFlags := 1057
  interfaces := #[]
  cf := some (fileOf pool2 7 #[] #[{ accessFlags := 4, nameIndex := 5, descriptorIndex := 6, attributes := #[] }] 1057 2 #[] #[])
  fields := #[]
  methods := #[k2m0]
  instanceTypes := #[]
  staticTypes := #[]
  resolved := Array.replicate 22 none
  statics := none }

def pool3 : Array CpInfo := pool [(1, .class_ 2), (0, u "com/example/pickrelay/pickrelay/store/JobKey"), (0, .methodref 4 5), (0, .class_ 6), (0, .nameAndType 7 8), (0, u "java/lang/Record"), (0, u "<init>"), (0, u "()V"), (0, .fieldref 1 10), (0, .nameAndType 11 12), (0, u "hash"), (0, u "J"), (0, .fieldref 1 14), (0, .nameAndType 15 12), (0, u "tag"), (68, .long 65535), (3, u "(JJ)V"), (12, u "TAG_BITS"), (0, u "I"), (2, u "TAG_MASK"), (5, u "(J)J"), (0, u "entry"), (0, u "holds"), (0, u "(J)Z")] 24

def k3c0 : Code := { maxStack := 3, maxLocals := 5, code := prog_116_method_1_code, exceptionTable := #[], attributes := #[] }
def k3m0 : Method := { name := "<init>", desc := "(JJ)V", sig := { parameters := [.long, .long], returnType := none }, accessFlags := 0, code := some k3c0 }
def k3c1 : Code := { maxStack := 4, maxLocals := 3, code := prog_116_method_5_code, exceptionTable := #[], attributes := #[] }
def k3m1 : Method := { name := "entry", desc := "(J)J", sig := { parameters := [.long], returnType := some .long }, accessFlags := 0, code := some k3c1 }
def k3c2 : Code := { maxStack := 4, maxLocals := 3, code := prog_116_method_6_code, exceptionTable := #[], attributes := #[] }
def k3m2 : Method := { name := "holds", desc := "(J)Z", sig := { parameters := [.long], returnType := some .boolean }, accessFlags := 0, code := some k3c2 }
/-- com/example/pickrelay/pickrelay/store/JobKey -/
def k3 : Class := { plain "com/example/pickrelay/pickrelay/store/JobKey" (some 2) with
  accessFlags := 48
  interfaces := #[]
  cf := some (fileOf pool3 1 #[] #[{ accessFlags := 0, nameIndex := 7, descriptorIndex := 88, attributes := #[] }, { accessFlags := 0, nameIndex := 112, descriptorIndex := 111, attributes := #[] }, { accessFlags := 0, nameIndex := 113, descriptorIndex := 114, attributes := #[] }] 48 4 #[] #[{ accessFlags := 18, nameIndex := 11, descriptorIndex := 12, attributes := #[] }, { accessFlags := 18, nameIndex := 15, descriptorIndex := 12, attributes := #[] }, { accessFlags := 24, nameIndex := 101, descriptorIndex := 102, attributes := #[] }, { accessFlags := 26, nameIndex := 105, descriptorIndex := 12, attributes := #[] }])
  fields := #[{ name := "hash", type := .long, accessFlags := 18, slot := 0, constantValue := 0 }, { name := "tag", type := .long, accessFlags := 18, slot := 1, constantValue := 0 }, { name := "TAG_BITS", type := .int, accessFlags := 24, slot := 0, constantValue := 0 }, { name := "TAG_MASK", type := .long, accessFlags := 26, slot := 1, constantValue := 0 }]
  methods := #[k3m0, k3m1, k3m2]
  instanceTypes := #[.long, .long]
  staticTypes := #[.int, .long]
  resolved := Array.replicate 139 none
  statics := none }

def pool4 : Array CpInfo := pool [(1, u "java/lang/Cloneable"), (0, .class_ 1), (0, u "java/lang/Object"), (0, .class_ 3)] 3

/-- java/lang/Cloneable -/
def k4 : Class := { plain "java/lang/Cloneable" (some 0) with
  accessFlags := 1537
  interfaces := #[]
  cf := some (fileOf pool4 2 #[] #[] 1537 4 #[] #[])
  fields := #[]
  methods := #[]
  instanceTypes := #[]
  staticTypes := #[]
  resolved := Array.replicate 8 none
  statics := none }

def pool5 : Array CpInfo := pool [(1, u "java/io/Serializable"), (0, .class_ 1), (0, u "java/lang/Object"), (0, .class_ 3)] 3

/-- java/io/Serializable -/
def k5 : Class := { plain "java/io/Serializable" (some 0) with
  accessFlags := 1537
  interfaces := #[]
  cf := some (fileOf pool5 2 #[] #[] 1537 4 #[] #[])
  fields := #[]
  methods := #[]
  instanceTypes := #[]
  staticTypes := #[]
  resolved := Array.replicate 8 none
  statics := none }

/-- the primitive byte -/
def k6 : Class := { plain "byte" none with kind := .primitive 'B', accessFlags := 0x411 }
/-- [B -/
def k7 : Class := { plain "[B" (some 0) with kind := .array 6 .byte, interfaces := #[4, 5], accessFlags := 1041 }

/-- the primitive int -/
def k8 : Class := { plain "int" none with kind := .primitive 'I', accessFlags := 0x411 }
/-- [I -/
def k9 : Class := { plain "[I" (some 0) with kind := .array 8 .int, interfaces := #[4, 5], accessFlags := 1041 }

def heap : Heap := #[]
def classes : Array Class := #[k0, k1, k2, k3, k4, k5, k6, k7, k8, k9]
def interned : List (Array UInt16 × Addr) := []
def slotsUsed : Nat := 0
def theMethod : MethodId := ⟨1, 1⟩
def args0 : Array Value := #[.long 5, .long 5, .long 5, .long 5, .int 5]
def aboutOver (below : List Frame) : State where
  vm := { classes := classes, interned := interned.toArray }
  heap := heap
  slotsUsed := slotsUsed
  threads := #[{ frames := .invoking theMethod args0 :: below }]
def below0 : List Frame := [.native { method := ⟨0, 0⟩, args := #[] }]
def about1 : State := aboutOver below0
def p0 : Program := .bare "" "" ""
def e0 : Env := launch0.env 0 0 0
theorem w_frames : about1.frames = Frame.invoking theMethod args0 :: below0 := rfl
set_option maxRecDepth 65536 in
theorem w_args : argsFit about1.vm theMethod args0 = true := by decide +kernel
set_option maxRecDepth 65536 in
theorem w_heap : heapFits about1 = true := by decide +kernel
set_option maxRecDepth 65536 in
theorem w_runnable : about1.curStatus? = some .runnable := by decide +kernel
set_option maxRecDepth 65536 in
theorem w_alone : about1.alone = true := by decide +kernel
set_option maxRecDepth 65536 in
theorem w_named : about1.methodNamed? x = some theMethod := by decide +kernel
set_option maxRecDepth 65536 in
theorem w_hears : about1.hears theMethod below0 = true := by decide +kernel
set_option maxRecDepth 65536 in
theorem w_ripe : about1.ripe theMethod args0 below0 = true := by decide +kernel
theorem w_running : about1.status = .running := rfl
set_option maxRecDepth 65536 in
theorem w_room : about1.hasRoom e0.platform room_1 = true :=
  launch0.hasRoom_least _ room_1 (by decide +kernel) (by decide +kernel) (by decide +kernel) (by decide +kernel) (by decide +kernel) (by decide +kernel)
theorem allAtoms_all (ts : List Jvm.Cond) (a : Array Jvm.Value) (st : Jvm.State) : (allAtoms ts).before a st = ts.all (fun c => c.before a st) := by
  induction ts with
  | nil => rfl
  | cons c t ih =>
    show (Jvm.Cond.and c (allAtoms t)).before a st = _
    rw [Jvm.Cond.before_and, ih, List.all_cons]
def words1 : List Jvm.Cond := Jvm.Cond.code x code maxLocals ret :: tables_1
/-- a 'code' word, met by the world's own term for the bytes: nothing is compared byte by byte -/
theorem code_word {y : MethodName} {bytes : ByteArray} {mx : Nat} {rt : Option FieldType} {a : Array Value} {s : State} {m : MethodId} {meth : Method} {c : Code} (h1 : s.methodNamed? y = some m) (h2 : s.vm.method? m = some meth) (h3 : meth.code = some c) (h4 : c.code = bytes)
    (h5 : (c.maxLocals == mx && c.exceptionTable.isEmpty && decide (c.maxStack ≤ mostOperands) && decide (meth.sig.returnType = rt) && !meth.locks && decide (parseMethodDescriptor y.desc = some meth.sig)) = true) : (Jvm.Cond.code y bytes mx rt).before a s = true := by
  simp only [Bool.and_eq_true, beq_iff_eq, Bool.not_eq_true', decide_eq_true_eq] at h5
  obtain ⟨⟨⟨⟨⟨g1, g2⟩, g3⟩, g4⟩, g5⟩, g6⟩ := h5
  simp [Cond.before, Cond.holds, Cond.value, h1, h2, h3, h4, g1, g2, g3, g4, g5, g6]
def isCode : Jvm.Cond → Bool
  | .code _ _ _ _ => true
  | _ => false
theorem all_split {L : List Jvm.Cond} {P : Jvm.Cond → Bool} (h1 : L.all (fun c => isCode c || P c) = true) (h2 : ∀ c ∈ L.filter isCode, P c = true) : L.all P = true := by
  refine List.all_eq_true.mpr fun c hc => ?_
  have h := List.all_eq_true.mp h1 c hc
  rcases Bool.eq_false_or_eq_true (isCode c) with hi | hi
  · exact h2 c (List.mem_filter.mpr ⟨hc, hi⟩)
  · simpa [hi] using h
set_option maxRecDepth 65536 in
theorem w_c0 : (Jvm.Cond.code x code maxLocals ret).before args0 about1 = true := code_word (m := ⟨1, 1⟩) (meth := k1m1) (c := k1c1) (by decide +kernel) rfl rfl rfl (by decide +kernel)
set_option maxRecDepth 65536 in
theorem w_c1 : (Jvm.Cond.code ({ cls := "com/example/pickrelay/pickrelay/store/JobKey", name := "<init>", desc := "(JJ)V" } : Jvm.MethodName) prog_116_method_1_code (5 : Nat) (Option.none : Option Jvm.ClassFile.FieldType)).before args0 about1 = true := code_word (m := ⟨3, 0⟩) (meth := k3m0) (c := k3c0) (by decide +kernel) rfl rfl rfl (by decide +kernel)
set_option maxRecDepth 65536 in
theorem w_c2 : (Jvm.Cond.code ({ cls := "java/lang/Record", name := "<init>", desc := "()V" } : Jvm.MethodName) jdk_30_method_1_code (1 : Nat) (Option.none : Option Jvm.ClassFile.FieldType)).before args0 about1 = true := code_word (m := ⟨2, 0⟩) (meth := k2m0) (c := k2c0) (by decide +kernel) rfl rfl rfl (by decide +kernel)
set_option maxRecDepth 65536 in
theorem w_c3 : (Jvm.Cond.code ({ cls := "java/lang/Object", name := "<init>", desc := "()V" } : Jvm.MethodName) object_method_1_code (1 : Nat) (Option.none : Option Jvm.ClassFile.FieldType)).before args0 about1 = true := code_word (m := ⟨0, 0⟩) (meth := k0m0) (c := k0c0) (by decide +kernel) rfl rfl rfl (by decide +kernel)
set_option maxRecDepth 65536 in
theorem w_c4 : (Jvm.Cond.code ({ cls := "com/example/pickrelay/pickrelay/store/JobKey", name := "holds", desc := "(J)Z" } : Jvm.MethodName) prog_116_method_6_code (3 : Nat) (Option.some Jvm.ClassFile.FieldType.boolean)).before args0 about1 = true := code_word (m := ⟨3, 2⟩) (meth := k3m2) (c := k3c2) (by decide +kernel) rfl rfl rfl (by decide +kernel)
set_option maxRecDepth 65536 in
theorem w_c5 : (Jvm.Cond.code ({ cls := "com/example/pickrelay/pickrelay/store/JobKey", name := "entry", desc := "(J)J" } : Jvm.MethodName) prog_116_method_5_code (3 : Nat) (Option.some Jvm.ClassFile.FieldType.long)).before args0 about1 = true := code_word (m := ⟨3, 1⟩) (meth := k3m1) (c := k3c1) (by decide +kernel) rfl rfl rfl (by decide +kernel)
def codes1 : List Jvm.Cond := [Jvm.Cond.code x code maxLocals ret, Jvm.Cond.code ({ cls := "com/example/pickrelay/pickrelay/store/JobKey", name := "<init>", desc := "(JJ)V" } : Jvm.MethodName) prog_116_method_1_code (5 : Nat) (Option.none : Option Jvm.ClassFile.FieldType), Jvm.Cond.code ({ cls := "java/lang/Record", name := "<init>", desc := "()V" } : Jvm.MethodName) jdk_30_method_1_code (1 : Nat) (Option.none : Option Jvm.ClassFile.FieldType), Jvm.Cond.code ({ cls := "java/lang/Object", name := "<init>", desc := "()V" } : Jvm.MethodName) object_method_1_code (1 : Nat) (Option.none : Option Jvm.ClassFile.FieldType), Jvm.Cond.code ({ cls := "com/example/pickrelay/pickrelay/store/JobKey", name := "holds", desc := "(J)Z" } : Jvm.MethodName) prog_116_method_6_code (3 : Nat) (Option.some Jvm.ClassFile.FieldType.boolean), Jvm.Cond.code ({ cls := "com/example/pickrelay/pickrelay/store/JobKey", name := "entry", desc := "(J)J" } : Jvm.MethodName) prog_116_method_5_code (3 : Nat) (Option.some Jvm.ClassFile.FieldType.long)]
set_option maxRecDepth 65536 in
theorem codes_eq : words1.filter isCode = codes1 := rfl
theorem w_codes : ∀ c ∈ words1.filter isCode, c.before args0 about1 = true := by
  rw [codes_eq]
  intro c hc
  simp only [codes1, List.mem_cons, List.not_mem_nil, or_false] at hc
  rcases hc with rfl | rfl | rfl | rfl | rfl | rfl
  · exact w_c0
  · exact w_c1
  · exact w_c2
  · exact w_c3
  · exact w_c4
  · exact w_c5
set_option maxRecDepth 65536 in
theorem w_t1 : (words1.take 24).all (fun c => isCode c || c.before args0 about1) = true := by decide +kernel
set_option maxRecDepth 65536 in
theorem w_t2 : (words1.drop 24).all (fun c => isCode c || c.before args0 about1) = true := by decide +kernel
theorem w_tables : (allAtoms (Jvm.Cond.code x code maxLocals ret :: tables_1)).before args0 about1 = true := by
  rw [allAtoms_all]
  show words1.all (fun c => c.before args0 about1) = true
  refine all_split ?_ w_codes
  rw [← List.take_append_drop 24 words1, List.all_append, w_t1, w_t2]
  rfl
set_option maxRecDepth 65536 in
theorem w_case : (Jvm.Cond.and given_1 narrow_1).before args0 about1 = true := by decide +kernel
theorem w_applies : (headSpec (Jvm.Cond.code x code maxLocals ret :: tables_1) room_1).applies x e0.platform about1 = true :=
  (Spec.applies_iff w_frames).mpr ⟨w_running, w_runnable, w_alone, w_named, w_hears, w_ripe, w_room, w_tables⟩
theorem atStart : AtStart classFile x code maxLocals ret World_1 tables_1 room_1 Calls_1 rest_1 Pre_1 launch0 p0 e0 about1 theMethod args0 below0 :=
  ⟨lists_1, trivial, launch0.admits_env _ _ _, launch0.least_env, fairChoices_fair.cas, fairChoices_fair.clock, w_frames, w_args, w_heap, w_applies, trivial, trivial, w_case⟩
end start1
theorem witness_1 : WitnessClaimed_1 := ⟨start1.p0, start1.e0, start1.about1, start1.theMethod, start1.args0, start1.below0, start1.atStart⟩
end Jvm.Pilot.@@N@@
