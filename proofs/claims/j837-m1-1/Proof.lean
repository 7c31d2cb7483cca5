import JvmDerived
import JvmDerived.Pilot.@@N@@Statement
import JvmDerived.Pilot.@@N@@Code
set_option linter.unusedVariables false
set_option linter.unusedSimpArgs false
namespace Jvm.RoadKit
open Sem ClassFile Op Lib Jvm.Stand Jvm.Free Jvm.LawKit
section New
variable {p : Program} {l : Launch} {e : Env} {R : Room} {s : State} {m : MethodId} {args : Array Value} {below : List Frame} {meth : Method} {c : Code} {T : State} {locs : List Loc} {cells slots : Nat}
theorem retI (X : Stand p l e R s m args below meth c T locs cells slots) (hx : p.tables.exec = Jvm.exec) {pc : Nat} {Ls : Array Slot} {z : Int32} {rest : List Value} (hret : meth.sig.returnType = some .int) (hd : decode c.code pc = .ok (.ireturn, 1)) {fs : List Frame}
    (hl : ∀ (f : JFrame) (acts : List Action), f.method = m → f.locked = none → f.entered = [] → (doReturn e (T.setTop f) acts (some (.int z))).1 = T.setFrames fs) : Steps p.tables e below (T.setTop (mkF m pc Ls (.int z :: rest))) (T.setFrames fs) := by
  have hm' : T.vm.method? m = some meth := X.method'
  have hn : narrow .int (.int z) = .int z := rfl
  show Steps p.tables e below (T.setTop { method := m, pc := pc, locals := Ls, stack := _ :: rest, locked := none }) _
  jvm_step X.here [X.here.top, hx, hd, hm', hret, hn]
  first | (intro acts; rw [hl _ acts rfl rfl rfl]) | rw [hl _ _ rfl rfl rfl]
  exact Steps.refl _
end New
end Jvm.RoadKit
namespace Jvm.Pilot.@@N@@
open Jvm Jvm.ClassFile Sem Op Lib Jvm.Free Jvm.Stand Jvm.LawKit Jvm.RoadKit Bundle Jvm.Pilot.@@N@@.Jvm.D
/-! MY OWN LAYER, 1: a walk in forward style -/
/-- from the state S the run ends, and Q holds of the end -/
def Goes (tb : Tables) (e : Env) (below : List Frame) (Q : Outcome → State → Prop) (S : State) : Prop :=
  ∃ s₂ o, Steps tb e below S s₂ ∧ s₂.status = .running ∧ Ended s₂ below o ∧ Q o s₂
theorem Goes.out {tb : Tables} {e : Env} {below : List Frame} {Q : Outcome → State → Prop} {S : State} (h : Goes tb e below Q S) :
    ∃ s₂ o, Steps tb e below S s₂ ∧ s₂.status = .running ∧ Ended s₂ below o ∧ Q o s₂ := h
theorem Goes.step {tb : Tables} {e : Env} {below : List Frame} {Q : Outcome → State → Prop} {S S' : State}
    (h : ∀ t, Steps tb e below S' t → Steps tb e below S t) (k : Goes tb e below Q S') : Goes tb e below Q S := by
  obtain ⟨s₂, o, h1, h2⟩ := k
  exact ⟨s₂, o, h _ h1, h2⟩
section Ites
variable {tb : Tables} {e : Env} {below : List Frame} {T S : State} {c : Prop} [Decidable c]
theorem own_ite0 {F : JFrame} (hy : c → ∀ t, Steps tb e below (T.setTop F) t → Steps tb e below S t) (hn : ¬ c → ∀ t, Steps tb e below (T.setTop F) t → Steps tb e below S t) :
    ∀ t, Steps tb e below (T.setTop F) t → Steps tb e below S t := fun t k => by
  by_cases h : c
  · exact hy h t k
  · exact hn h t k
theorem own_ite1 {A0 : Type} {a0 b0 : A0} {F : A0 → JFrame} (hy : c → ∀ t, Steps tb e below (T.setTop (F a0)) t → Steps tb e below S t) (hn : ¬ c → ∀ t, Steps tb e below (T.setTop (F b0)) t → Steps tb e below S t) :
    ∀ t, Steps tb e below (T.setTop (F (if c then a0 else b0))) t → Steps tb e below S t := fun t k => by
  by_cases h : c
  · rw [if_pos h] at k; exact hy h t k
  · rw [if_neg h] at k; exact hn h t k
theorem own_ite2 {A0 A1 : Type} {a0 b0 : A0} {a1 b1 : A1} {F : A0 → A1 → JFrame} (hy : c → ∀ t, Steps tb e below (T.setTop (F a0 a1)) t → Steps tb e below S t) (hn : ¬ c → ∀ t, Steps tb e below (T.setTop (F b0 b1)) t → Steps tb e below S t) :
    ∀ t, Steps tb e below (T.setTop (F (if c then a0 else b0) (if c then a1 else b1))) t → Steps tb e below S t := fun t k => by
  by_cases h : c
  · rw [if_pos h, if_pos h] at k; exact hy h t k
  · rw [if_neg h, if_neg h] at k; exact hn h t k
theorem own_ite3 {A0 A1 A2 : Type} {a0 b0 : A0} {a1 b1 : A1} {a2 b2 : A2} {F : A0 → A1 → A2 → JFrame} (hy : c → ∀ t, Steps tb e below (T.setTop (F a0 a1 a2)) t → Steps tb e below S t) (hn : ¬ c → ∀ t, Steps tb e below (T.setTop (F b0 b1 b2)) t → Steps tb e below S t) :
    ∀ t, Steps tb e below (T.setTop (F (if c then a0 else b0) (if c then a1 else b1) (if c then a2 else b2))) t → Steps tb e below S t := fun t k => by
  by_cases h : c
  · rw [if_pos h, if_pos h, if_pos h] at k; exact hy h t k
  · rw [if_neg h, if_neg h, if_neg h] at k; exact hn h t k
end Ites
section Rets
variable {p : Program} {l : Launch} {e : Env} {R : Room} {s : State} {m : MethodId} {args : Array Value} {below : List Frame} {meth : Method} {c : Code} {T : State} {locs : List Loc} {cells slots : Nat}
variable {QQ : Option Value → Heap → List Loc → Prop} {C0 S0 : Nat} {pc : Nat} {Ls : Array Slot} {rest : List Value}
theorem Goes.retN (X : Stand p l e R s m args below meth c T locs cells slots) (hx : p.tables.exec = Jvm.exec) (hlk : meth.locks = false) {t : FieldType} {z : Int32} (hret : meth.sig.returnType = some t) (ht : t = .boolean ∨ t = .byte ∨ t = .char ∨ t = .short)
    (hd : decode c.code pc = .ok (.ireturn, 1)) (hC : cells ≤ C0) (hS : slots ≤ S0) (hQ : QQ (some (.int (nar t z))) T.heap locs) :
    Goes p.tables e below (fun o U' => ∃ v L, o = .returned v ∧ QQ v U'.heap L ∧ FrameEnd s o U' L C0 S0) (T.setTop (mkF m pc Ls (.int z :: rest))) := by
  obtain ⟨fs, hr, hrun, hended, hW, hsame⟩ := X.leave (v := some (.int (nar t z))) (fun h => by rw [hret] at h; cases h) hlk
  exact ⟨_, _, Jvm.RoadKit.retN X hx hret ht hd hr, hrun, hended, _, _, rfl, hQ, ⟨_, rfl⟩, hW, hsame.mono hC hS⟩
theorem Goes.retI (X : Stand p l e R s m args below meth c T locs cells slots) (hx : p.tables.exec = Jvm.exec) (hlk : meth.locks = false) {z : Int32} (hret : meth.sig.returnType = some .int)
    (hd : decode c.code pc = .ok (.ireturn, 1)) (hC : cells ≤ C0) (hS : slots ≤ S0) (hQ : QQ (some (.int z)) T.heap locs) :
    Goes p.tables e below (fun o U' => ∃ v L, o = .returned v ∧ QQ v U'.heap L ∧ FrameEnd s o U' L C0 S0) (T.setTop (mkF m pc Ls (.int z :: rest))) := by
  obtain ⟨fs, hr, hrun, hended, hW, hsame⟩ := X.leave (v := some (.int z)) (fun h => by rw [hret] at h; cases h) hlk
  exact ⟨_, _, Jvm.RoadKit.retI X hx hret hd hr, hrun, hended, _, _, rfl, hQ, ⟨_, rfl⟩, hW, hsame.mono hC hS⟩
theorem Goes.retJ (X : Stand p l e R s m args below meth c T locs cells slots) (hx : p.tables.exec = Jvm.exec) (hlk : meth.locks = false) {z : Int64} (hret : meth.sig.returnType = some .long)
    (hd : decode c.code pc = .ok (.lreturn, 1)) (hC : cells ≤ C0) (hS : slots ≤ S0) (hQ : QQ (some (.long z)) T.heap locs) :
    Goes p.tables e below (fun o U' => ∃ v L, o = .returned v ∧ QQ v U'.heap L ∧ FrameEnd s o U' L C0 S0) (T.setTop (mkF m pc Ls (.long z :: rest))) := by
  obtain ⟨fs, hr, hrun, hended, hW, hsame⟩ := X.leave (v := some (.long z)) (fun h => by rw [hret] at h; cases h) hlk
  refine ⟨_, _, ?_, hrun, hended, _, _, rfl, hQ, ⟨_, rfl⟩, hW, hsame.mono hC hS⟩
  jvm_step X.here [X.here.top, hx, hd, X.method', hret, narrow]
  first | (intro acts; rw [hr _ acts rfl rfl rfl]) | rw [hr _ _ rfl rfl rfl]
  exact Steps.refl _
theorem Goes.retA (X : Stand p l e R s m args below meth c T locs cells slots) (hx : p.tables.exec = Jvm.exec) (hlk : meth.locks = false) {a : Addr} {t : FieldType} (hret : meth.sig.returnType = some t) (ht : t.isReference = true)
    (hd : decode c.code pc = .ok (.areturn, 1)) (hC : cells ≤ C0) (hS : slots ≤ S0) (hQ : QQ (some (.ref a)) T.heap locs) :
    Goes p.tables e below (fun o U' => ∃ v L, o = .returned v ∧ QQ v U'.heap L ∧ FrameEnd s o U' L C0 S0) (T.setTop (mkF m pc Ls (.ref a :: rest))) := by
  obtain ⟨fs, hr, hrun, hended, hW, hsame⟩ := X.leave (v := some (.ref a)) (fun h => by rw [hret] at h; cases h) hlk
  refine ⟨_, _, ?_, hrun, hended, _, _, rfl, hQ, ⟨_, rfl⟩, hW, hsame.mono hC hS⟩
  jvm_step X.here [X.here.top, hx, hd, X.method', hret, Value.isRef, ht]
  first | (intro acts; rw [hr _ acts rfl rfl rfl]) | rw [hr _ _ rfl rfl rfl]
  exact Steps.refl _
theorem Goes.retV (X : Stand p l e R s m args below meth c T locs cells slots) (hx : p.tables.exec = Jvm.exec) (hlk : meth.locks = false) (hret : meth.sig.returnType = none)
    (hd : decode c.code pc = .ok (.return_, 1)) (hC : cells ≤ C0) (hS : slots ≤ S0) (hQ : QQ none T.heap locs) :
    Goes p.tables e below (fun o U' => ∃ v L, o = .returned v ∧ QQ v U'.heap L ∧ FrameEnd s o U' L C0 S0) (T.setTop (mkF m pc Ls [])) := by
  obtain ⟨fs, hr, hrun, hended, hW, hsame⟩ := X.leave (v := none) (fun _ => rfl) hlk
  exact ⟨_, _, X.returnOut hx hret hd hr, hrun, hended, _, _, rfl, hQ, ⟨_, rfl⟩, hW, hsame.mono hC hS⟩
theorem own_lrem {g : JFrame} {target : State} (X : Stand p l e R s m args below meth c T locs cells slots) (hx : p.tables.exec = Jvm.exec) (hg : g.method = m) {x y : Int64} {rest : List Value} (hd : decode c.code g.pc = .ok (.lrem, 1)) (hs : g.stack = .long y :: .long x :: rest) (hy : y ≠ 0)
    (hr : Steps p.tables e below (T.setTop { g with pc := g.pc + 1, stack := .long (x % y) :: rest }) target) : Steps p.tables e below (T.setTop g) target :=
  XS.lrem X.here hx hg hd hs hy (by rw [lrem_mod]; exact hr)
end Rets
/-! MY OWN LAYER, 2: an array of ints (bytes, chars ..) by the list of its values, whole -/
def AI (Z : State) (h : Heap) (a : Addr) (k : ClassId) (ty : FieldType) (n : Int32) (vs : List Int32) : Prop :=
  Arv Z h a k ty n (vs.map Value.int) (.int 0) ∧ vs.length = n.toNatClampNeg
section Arrays
variable {p : Program} {l : Launch} {e : Env} {R : Room} {s : State} {m : MethodId} {args : Array Value} {below : List Frame} {meth : Method} {c : Code} {T : State} {locs : List Loc} {cells slots : Nat}
variable {Z : State} {h h' : Heap} {a b : Addr} {k : ClassId} {ty : FieldType} {n : Int32} {vs : List Int32} {sl : Nat} {v : Value} {ws : List Addr}
theorem AI.lt (F : AI Z h a k ty n vs) : a < h.size := F.1.lt
theorem AI.nn (F : AI Z h a k ty n vs) : ¬ n < 0 := by obtain ⟨⟨c, -, -, -, q, -⟩, -⟩ := F; exact q
theorem AI.ext (F : AI Z h a k ty n vs) (E : Ext h h') : AI Z h' a k ty n vs := ⟨F.1.ext E, F.2⟩
theorem AI.other (F : AI Z h b k ty n vs) (W : Wr h h' a sl v) (q : b ≠ a) : AI Z h' b k ty n vs := ⟨F.1.other W q, F.2⟩
theorem AI.keep (F : AI Z h a k ty n vs) (K : Keep h h' ws) (q : a ∉ ws) : AI Z h' a k ty n vs := ⟨F.1.keep K q, F.2⟩
theorem own_getD (vs : List Int32) (i : Nat) : (vs.map Value.int).getD i (.int 0) = .int (vs.getD i 0) := by
  simp only [List.getD_eq_getElem?_getD, List.getElem?_map]
  cases vs[i]? <;> rfl
theorem own_new {q : Int32} (A : Arr Z h a (newA k ty q) ty) (hq : ¬ q < 0) (hd : defaultValue ty = .int 0) {vs : List Int32} (hv : vs = List.replicate q.toNatClampNeg 0 := by rfl) : AI Z h a k ty q vs := by
  subst hv
  have V := Arv.new A hq
  rw [hd] at V
  refine ⟨?_, by simp⟩
  have q1 := V.pad (pad_rep [] (.int 0) q.toNatClampNeg)
  rw [List.nil_append] at q1
  rw [List.map_replicate]; exact q1
theorem own_inb {cl : Cell} {j : Int32} (S : cl.slots.size = n.toNatClampNeg) (q : ¬ j < 0 ∧ j < n) : ¬ (j < 0 ∨ cl.slots.size ≤ j.toNatClampNeg) := inb_of S q
theorem own_jlt {j : Int32} (q : ¬ j < 0 ∧ j < n) : j.toNatClampNeg < n.toNatClampNeg := by
  obtain ⟨q1, q2⟩ := q
  rw [Int32.lt_iff_toInt_lt] at q1 q2
  have e0 : (0 : Int32).toInt = 0 := rfl
  simp only [Int32.toNatClampNeg] at *; omega
theorem own_iaload {pc : Nat} {Ls : Array Slot} {rest : List Value} {j : Int32} (X : Stand p l e R s m args below meth c T locs cells slots) (hx : p.tables.exec = Jvm.exec) (hZ : Z.Warmed39 s.vm) (eT : T.heap = h) (F : AI Z h a k .int n vs) (hj : ¬ j < 0 ∧ j < n)
    (hd : decode c.code pc = .ok (.iaload, 1)) (t : State) (kk : Steps p.tables e below (T.setTop (mkF m (pc + 1) Ls (.int (vs.getD j.toNatClampNeg 0) :: rest))) t) : Steps p.tables e below (T.setTop (mkF m pc Ls (.int j :: .ref a :: rest))) t := by
  obtain ⟨⟨cl, A, -, S, -, H, -⟩, hl⟩ := F
  have hin := own_inb S hj
  exact X.iaload hx (j := j) (v := .int (vs.getD j.toNatClampNeg 0)) (by rw [eT]; exact A.1) (State.isArrayOf_alike hZ.alike A.2.1) A.2.2 hin (H.at hin (own_getD _ _)) (g := mkF m pc Ls (.int j :: .ref a :: rest)) rfl rfl hd _ kk
theorem own_baload {pc : Nat} {Ls : Array Slot} {rest : List Value} {j : Int32} (X : Stand p l e R s m args below meth c T locs cells slots) (hx : p.tables.exec = Jvm.exec) (hZ : Z.Warmed39 s.vm) (eT : T.heap = h) (F : AI Z h a k .byte n vs) (hj : ¬ j < 0 ∧ j < n)
    (hd : decode c.code pc = .ok (.baload, 1)) (t : State) (kk : Steps p.tables e below (T.setTop (mkF m (pc + 1) Ls (.int (vs.getD j.toNatClampNeg 0) :: rest))) t) : Steps p.tables e below (T.setTop (mkF m pc Ls (.int j :: .ref a :: rest))) t := by
  obtain ⟨⟨cl, A, -, S, -, H, -⟩, hl⟩ := F
  have hin := own_inb S hj
  exact X.baloadBytes hx (j := j) (v := .int (vs.getD j.toNatClampNeg 0)) (by rw [eT]; exact A.1) (State.isArrayOf_alike hZ.alike A.2.1) A.2.2 hin (H.at hin (own_getD _ _)) (g := mkF m pc Ls (.int j :: .ref a :: rest)) rfl rfl hd _ kk
theorem own_len {pc : Nat} {Ls : Array Slot} {rest : List Value} (X : Stand p l e R s m args below meth c T locs cells slots) (hx : p.tables.exec = Jvm.exec) (hZ : Z.Warmed39 s.vm) (eT : T.heap = h) (F : AI Z h a k ty n vs)
    (hd : decode c.code pc = .ok (.arraylength, 1)) (t : State) (kk : Steps p.tables e below (T.setTop (mkF m (pc + 1) Ls (.int n :: rest))) t) : Steps p.tables e below (T.setTop (mkF m pc Ls (.ref a :: rest))) t := by
  obtain ⟨⟨cl, A, -, S, N, H, -⟩, hl⟩ := F
  refine X.arraylength hx (by rw [eT]; exact A.1) (State.isArrayOf_alike hZ.alike A.2.1) (g := mkF m pc Ls (.ref a :: rest)) rfl rfl hd _ ?_
  rw [len_of S N]; exact kk
theorem own_iastore {j x : Int32} (X : Stand p l e R s m args below meth c T locs cells slots) (hx : p.tables.exec = Jvm.exec) (hZ : Z.Warmed39 s.vm) (eT : T.heap = h) (F : AI Z h a k .int n vs) (hj : ¬ j < 0 ∧ j < n) {g : JFrame} (hg : g.method = m) {rest : List Value} (hs : g.stack = .int x :: .int j :: .ref a :: rest) (hd : decode c.code g.pc = .ok (.iastore, 1)) :
    ∃ T' h', Stand p l e R s m args below meth c T' (locs ++ [⟨a, j.toNatClampNeg⟩]) cells slots ∧ T'.heap = h' ∧ Wr h h' a j.toNatClampNeg (.int x) ∧ AI Z h' a k .int n (vs.set j.toNatClampNeg x) ∧ ∀ target, Steps p.tables e below (T'.setTop { g with pc := g.pc + 1, stack := rest }) target → Steps p.tables e below (T.setTop g) target := by
  obtain ⟨⟨cl, A, q1, S, N, H, G⟩, hl⟩ := F
  obtain ⟨T', h', X', e', W, st⟩ := stI X hx hZ eT A (own_inb S hj) hg hs hd
  refine ⟨T', h', X', e', W, ⟨?_, by simpa using hl⟩, st⟩
  rw [List.map_set]
  exact Arv.set A q1 S N H G rfl W _ rfl (by rw [List.length_map, hl]; exact own_jlt hj)
theorem own_bastore {j x : Int32} (X : Stand p l e R s m args below meth c T locs cells slots) (hx : p.tables.exec = Jvm.exec) (hZ : Z.Warmed39 s.vm) (eT : T.heap = h) (F : AI Z h a k .byte n vs) (hj : ¬ j < 0 ∧ j < n) {g : JFrame} (hg : g.method = m) {rest : List Value} (hs : g.stack = .int x :: .int j :: .ref a :: rest) (hd : decode c.code g.pc = .ok (.bastore, 1)) :
    ∃ T' h', Stand p l e R s m args below meth c T' (locs ++ [⟨a, j.toNatClampNeg⟩]) cells slots ∧ T'.heap = h' ∧ Wr h h' a j.toNatClampNeg (.int (nar .byte x)) ∧ AI Z h' a k .byte n (vs.set j.toNatClampNeg (nar .byte x)) ∧ ∀ target, Steps p.tables e below (T'.setTop { g with pc := g.pc + 1, stack := rest }) target → Steps p.tables e below (T.setTop g) target := by
  obtain ⟨⟨cl, A, q1, S, N, H, G⟩, hl⟩ := F
  obtain ⟨T', h', X', e', W, st⟩ := stB X hx hZ eT A (own_inb S hj) hg hs hd
  refine ⟨T', h', X', e', W, ⟨?_, by simpa using hl⟩, st⟩
  rw [List.map_set]
  exact Arv.set A q1 S N H G (fits_nar_byte _) W _ rfl (by rw [List.length_map, hl]; exact own_jlt hj)
end Arrays
/-! MY OWN LAYER, 3: numbers -/
theorem own_b255 (x : Int32) : (nar .byte (x.toInt8.toInt32)) &&& 255 = x &&& 255 := by
  have a := c_i2b x
  have b := c_i2b x.toInt8.toInt32
  have m1 : ((x.toInt8.toInt32.toInt8.toInt32) &&& 255).toInt = (x.toInt8.toInt32.toInt8.toInt32).toInt % 256 := c_mask _ 255 8 (by decide) (by decide)
  have m2 : (x &&& 255).toInt = x.toInt % 256 := c_mask _ 255 8 (by decide) (by decide)
  apply Int32.toInt_inj.mp
  show ((x.toInt8.toInt32.toInt8.toInt32) &&& 255).toInt = _
  omega
theorem own_m255 (x : Int32) : (x &&& 255).toInt = x.toInt % 256 := c_mask _ 255 8 (by decide) (by decide)
theorem own_or8 (a b : Int32) (h1 : 0 ≤ a.toInt) (h2 : a.toInt < 256) (h3 : 0 ≤ b.toInt) (h4 : b.toInt < 256) : ((a <<< ((8 : Int32) &&& 31)) ||| b).toInt = a.toInt * 256 + b.toInt := by
  have s : ((a <<< ((8 : Int32) &&& 31)).toInt - a.toInt * 256) % 4294967296 = 0 := c_ishl a 8 8 (by decide)
  have r := rng32 (a <<< ((8 : Int32) &&& 31))
  have e : (a <<< ((8 : Int32) &&& 31)).toInt = a.toInt * 256 := by omega
  have o := c_or (a <<< ((8 : Int32) &&& 31)) b 8 (by decide) 256 (by decide) (by omega) h3 h4
  have r2 := rng32 ((a <<< ((8 : Int32) &&& 31)) ||| b)
  omega
theorem own_nar0 : nar .boolean 0 = 0 := by decide
theorem own_nar1 : nar .boolean 1 = 1 := by decide
theorem own_back (a b : Int64) : a + b - b = a := by
  have h := c_ladd a b
  have g := c_lsub (a + b) b
  have r := rng64 a
  have r1 := rng64 (a + b - b)
  apply Int64.toInt_inj.mp
  omega
theorem d2_0 : decode jdk_30_method_1_code 0 = .ok (.aload_n 0, 1) := by decide +kernel
theorem d2_1 : decode jdk_30_method_1_code 1 = .ok (.invokespecial 1, 3) := by decide +kernel
theorem d2_4 : decode jdk_30_method_1_code 4 = .ok (.return_, 1) := by decide +kernel
theorem pn0 : plainName "java/lang/Record" = true := by first | (simp [plainName, overriddenIn]; done) | decide +kernel
theorem ef2 (m : MethodId) (u0 : Addr) : entryFrame m #[(.ref u0)] 1 = mkF m 0 #[.val (.ref u0)] [] := by first | (simp [entryFrame, mkF, argsToLocals, Value.category]; done) | rfl
def Q2 (Z : State) (u0 : Addr) (h0 : Heap) (n0 : Nat) (v : Option Value) (h : Heap) (L : List Loc) : Prop := v = none ∧ Fr n0 L ∧ h = h0
set_option maxRecDepth 65536 in
set_option maxHeartbeats 40000000 in
theorem rm2 (l : Launch) (Z : State) (a0 : Array Value) (hw : ∀ d ∈ tables_1, d.before a0 Z = true) (ws : List Jvm.Cond) (u0 : Addr) (h0 : Heap) (n0 : Nat) (Z0 : n0 ≤ h0.size) :
    MetFree l (⟨"java/lang/Record", "<init>", "()V"⟩ : MethodName) (head1 (Jvm.Cond.code (⟨"java/lang/Record", "<init>", "()V"⟩ : MethodName) jdk_30_method_1_code 1 none :: ws) ({ frames := 1, cells := 0, slots := 0, locals := 12 } : Room)) (fun a U => a = #[(.ref u0)] ∧ Z.Warmed39 U.vm ∧ U.heap = h0) (fun _ _ _ _ _ => True) (fun _ U o U' => ∃ v L, o = .returned v ∧ Q2 Z u0 h0 n0 v U'.heap L ∧ FrameEnd U o U' L ({ frames := 1, cells := 0, slots := 0, locals := 12 } : Room).cells ({ frames := 1, cells := 0, slots := 0, locals := 12 } : Room).slots) := by
  refine MetFree.of_bodySF (plainFor_of_name pn0) hisR ?_
  intro p e s m args below meth c s₁ Bd hml0 hP hK
  obtain ⟨rfl, hZ, hh⟩ := hP
  have hx := Bd.exec
  have hby := Bd.bytes
  have hml : c.maxLocals = 1 := hml0
  have hown : s.vm.findClass "java/lang/Record" = some m.cls := findClass_of_methodNamed Bd.named
  have hnm := (name_of_methodNamed Bd.named Bd.method).1
  have X0 : Stand p l e ({ frames := 1, cells := 0, slots := 0, locals := 12 } : Room) s m #[(.ref u0)] below meth c s₁ [] 0 0 := Stand.of_body Bd
  have e0 : s₁.heap = h0 := by rw [← hh, Bd.state]; rfl
  have N0 := Fr.nil n0
  refine Goes.out (Q := fun o U' => ∃ v L, o = .returned v ∧ Q2 Z u0 h0 n0 v U'.heap L ∧ FrameEnd s o U' L ({ frames := 1, cells := 0, slots := 0, locals := 12 } : Room).cells ({ frames := 1, cells := 0, slots := 0, locals := 12 } : Room).slots) ?_
  refine Goes.step (S' := s₁.setTop (mkF m 0 #[.val (.ref u0)] [])) (fun _ k => castTop (ef2 m u0) k) ?_
  refine Goes.step (S' := s₁.setTop (mkF m 1 #[.val (.ref u0)] [(.ref u0)])) (fun _ k => XS.aloadN X0.here hx rfl (hb hby d2_0) rfl rfl k) ?_
  obtain ⟨T1, X1, e1, st1⟩ := initO X0 hx hZ hown (hw _ (List.mem_of_getElem? (i := 13) rfl)) (hw _ (List.mem_of_getElem? (i := 14) rfl)) (hw _ (List.mem_of_getElem? (i := 15) rfl)) e0 (g := (mkF m 1 #[.val (.ref u0)] [(.ref u0)])) rfl (by rw [hml]; rfl) rfl (hb hby d2_1) (by decide) (W := 0) (by show 2 * 0 + _ ≤ _; exact Nat.le_of_eq rfl) (by decide)
  refine Goes.step (S' := T1.setTop (mkF m 4 #[.val (.ref u0)] [])) st1 ?_
  refine Goes.retV X1 hx Bd.notSynchronized Bd.returns (hb hby d2_4) (by decide) (by decide) ?_
  exact ⟨rfl, N0, e1⟩
theorem pd0 : parseMethodDescriptor "()V" = some ⟨[], none⟩ := by decide +kernel
theorem d1_0 : decode prog_25_method_1_code 0 = .ok (.aload_n 0, 1) := by decide +kernel
theorem d1_1 : decode prog_25_method_1_code 1 = .ok (.invokespecial 1, 3) := by decide +kernel
theorem d1_4 : decode prog_25_method_1_code 4 = .ok (.aload_n 0, 1) := by decide +kernel
theorem d1_5 : decode prog_25_method_1_code 5 = .ok (.lload_n 1, 1) := by decide +kernel
theorem d1_6 : decode prog_25_method_1_code 6 = .ok (.putfield 7, 3) := by decide +kernel
theorem d1_9 : decode prog_25_method_1_code 9 = .ok (.aload_n 0, 1) := by decide +kernel
theorem d1_10 : decode prog_25_method_1_code 10 = .ok (.lload_n 3, 1) := by decide +kernel
theorem d1_11 : decode prog_25_method_1_code 11 = .ok (.putfield 13, 3) := by decide +kernel
theorem d1_14 : decode prog_25_method_1_code 14 = .ok (.aload_n 0, 1) := by decide +kernel
theorem d1_15 : decode prog_25_method_1_code 15 = .ok (.lload 5, 2) := by decide +kernel
theorem d1_17 : decode prog_25_method_1_code 17 = .ok (.putfield 16, 3) := by decide +kernel
theorem d1_20 : decode prog_25_method_1_code 20 = .ok (.aload_n 0, 1) := by decide +kernel
theorem d1_21 : decode prog_25_method_1_code 21 = .ok (.lload 7, 2) := by decide +kernel
theorem d1_23 : decode prog_25_method_1_code 23 = .ok (.putfield 19, 3) := by decide +kernel
theorem d1_26 : decode prog_25_method_1_code 26 = .ok (.aload_n 0, 1) := by decide +kernel
theorem d1_27 : decode prog_25_method_1_code 27 = .ok (.lload 9, 2) := by decide +kernel
theorem d1_29 : decode prog_25_method_1_code 29 = .ok (.putfield 22, 3) := by decide +kernel
theorem d1_32 : decode prog_25_method_1_code 32 = .ok (.return_, 1) := by decide +kernel
theorem pn1 : plainName "com/example/isopod/isopod/cli/Bench$Tally" = true := by first | (simp [plainName, overriddenIn]; done) | decide +kernel
theorem ef1 (m : MethodId) (u0 : Addr) (q1 : Int64) (q2 : Int64) (q3 : Int64) (q4 : Int64) (q5 : Int64) : entryFrame m #[(.ref u0), (.long q1), (.long q2), (.long q3), (.long q4), (.long q5)] 11 = mkF m 0 #[.val (.ref u0), .val (.long q1), .second, .val (.long q2), .second, .val (.long q3), .second, .val (.long q4), .second, .val (.long q5), .second] [] := by first | (simp [entryFrame, mkF, argsToLocals, Value.category]; done) | rfl
def Q1 (Z : State) (u0 : Addr) (q1 : Int64) (q2 : Int64) (q3 : Int64) (q4 : Int64) (q5 : Int64) (h0 : Heap) (n0 : Nat) (v : Option Value) (h : Heap) (L : List Loc) : Prop := v = none ∧ Fr n0 L ∧ Keep h0 h [u0] ∧ Exa Z h u0 "com/example/isopod/isopod/cli/Bench$Tally" ∧ Fld Z h u0 "com/example/isopod/isopod/cli/Bench$Tally" "mismatches" "J" (.long q5) ∧ Fld Z h u0 "com/example/isopod/isopod/cli/Bench$Tally" "openNanos" "J" (.long q2) ∧ Fld Z h u0 "com/example/isopod/isopod/cli/Bench$Tally" "openRootKeyCalls" "J" (.long q4) ∧ Fld Z h u0 "com/example/isopod/isopod/cli/Bench$Tally" "sealNanos" "J" (.long q1) ∧ Fld Z h u0 "com/example/isopod/isopod/cli/Bench$Tally" "sealRootKeyCalls" "J" (.long q3)
set_option maxRecDepth 65536 in
set_option maxHeartbeats 40000000 in
theorem rm1 (l : Launch) (Z : State) (a0 : Array Value) (hw : ∀ d ∈ tables_1, d.before a0 Z = true) (ws : List Jvm.Cond) (u0 : Addr) (q1 : Int64) (q2 : Int64) (q3 : Int64) (q4 : Int64) (q5 : Int64) (h0 : Heap) (n0 : Nat) (Z0 : n0 ≤ h0.size) (E_u0 : Exa Z h0 u0 "com/example/isopod/isopod/cli/Bench$Tally") (F_sealNanos_u0 : Fld Z h0 u0 "com/example/isopod/isopod/cli/Bench$Tally" "sealNanos" "J" (.long (0 : Int64))) (F_openNanos_u0 : Fld Z h0 u0 "com/example/isopod/isopod/cli/Bench$Tally" "openNanos" "J" (.long (0 : Int64))) (F_sealRootKeyCalls_u0 : Fld Z h0 u0 "com/example/isopod/isopod/cli/Bench$Tally" "sealRootKeyCalls" "J" (.long (0 : Int64))) (F_openRootKeyCalls_u0 : Fld Z h0 u0 "com/example/isopod/isopod/cli/Bench$Tally" "openRootKeyCalls" "J" (.long (0 : Int64))) (F_mismatches_u0 : Fld Z h0 u0 "com/example/isopod/isopod/cli/Bench$Tally" "mismatches" "J" (.long (0 : Int64))) (g_u0 : n0 ≤ u0) :
    MetFree l (⟨"com/example/isopod/isopod/cli/Bench$Tally", "<init>", "(JJJJJ)V"⟩ : MethodName) (head1 (Jvm.Cond.code (⟨"com/example/isopod/isopod/cli/Bench$Tally", "<init>", "(JJJJJ)V"⟩ : MethodName) prog_25_method_1_code 11 none :: ws) ({ frames := 2, cells := 0, slots := 0, locals := 24 } : Room)) (fun a U => a = #[(.ref u0), (.long q1), (.long q2), (.long q3), (.long q4), (.long q5)] ∧ Z.Warmed39 U.vm ∧ U.heap = h0) (fun _ _ _ _ _ => True) (fun _ U o U' => ∃ v L, o = .returned v ∧ Q1 Z u0 q1 q2 q3 q4 q5 h0 n0 v U'.heap L ∧ FrameEnd U o U' L ({ frames := 2, cells := 0, slots := 0, locals := 24 } : Room).cells ({ frames := 2, cells := 0, slots := 0, locals := 24 } : Room).slots) := by
  refine MetFree.of_bodySF (plainFor_of_name pn1) hisR ?_
  intro p e s m args below meth c s₁ Bd hml0 hP hK
  obtain ⟨rfl, hZ, hh⟩ := hP
  have hx := Bd.exec
  have hby := Bd.bytes
  have hml : c.maxLocals = 11 := hml0
  have hown : s.vm.findClass "com/example/isopod/isopod/cli/Bench$Tally" = some m.cls := findClass_of_methodNamed Bd.named
  have hnm := (name_of_methodNamed Bd.named Bd.method).1
  have X0 : Stand p l e ({ frames := 2, cells := 0, slots := 0, locals := 24 } : Room) s m #[(.ref u0), (.long q1), (.long q2), (.long q3), (.long q4), (.long q5)] below meth c s₁ [] 0 0 := Stand.of_body Bd
  have e0 : s₁.heap = h0 := by rw [← hh, Bd.state]; rfl
  have N0 := Fr.nil n0
  have K0 : Keep h0 h0 [u0] := Keep.refl _ _
  refine Goes.out (Q := fun o U' => ∃ v L, o = .returned v ∧ Q1 Z u0 q1 q2 q3 q4 q5 h0 n0 v U'.heap L ∧ FrameEnd s o U' L ({ frames := 2, cells := 0, slots := 0, locals := 24 } : Room).cells ({ frames := 2, cells := 0, slots := 0, locals := 24 } : Room).slots) ?_
  refine Goes.step (S' := s₁.setTop (mkF m 0 #[.val (.ref u0), .val (.long q1), .second, .val (.long q2), .second, .val (.long q3), .second, .val (.long q4), .second, .val (.long q5), .second] [])) (fun _ k => castTop (ef1 m u0 q1 q2 q3 q4 q5) k) ?_
  refine Goes.step (S' := s₁.setTop (mkF m 1 #[.val (.ref u0), .val (.long q1), .second, .val (.long q2), .second, .val (.long q3), .second, .val (.long q4), .second, .val (.long q5), .second] [(.ref u0)])) (fun _ k => XS.aloadN X0.here hx rfl (hb hby d1_0) rfl rfl k) ?_
  obtain ⟨_, _, ⟨T1, L1, k1, n1⟩, -, X1, ⟨Lc1, hQ1, l1, y1, z1⟩, st1⟩ := X0.specialBack hx (y := (⟨"java/lang/Record", "<init>", "()V"⟩ : MethodName)) rfl hown (mvT hZ (hw _ (List.mem_of_getElem? (i := 8) rfl))) (mvT hZ (hw _ (List.mem_of_getElem? (i := 9) rfl))) (mvT hZ (hw _ (List.mem_of_getElem? (i := 12) rfl))) (by decide) (backOf (W := 0) (rm2 l Z a0 hw [] u0 h0 n0 Z0) hZ (hw _ (List.mem_of_getElem? (i := 12) rfl)) (hw _ (List.mem_of_getElem? (i := 11) rfl)) (by decide) (by decide)) (g := (mkF m 1 #[.val (.ref u0), .val (.long q1), .second, .val (.long q2), .second, .val (.long q3), .second, .val (.long q4), .second, .val (.long q5), .second] [(.ref u0)])) rfl (by rw [hml]; rfl) (Steps.refl _) (a := u0) (argsL := []) (rest := []) (lenOf pd0 rfl) rfl (by show 2 * 0 + _ ≤ _; exact Nat.le_of_eq rfl) (hb hby d1_1) (fun _ _ => ⟨rfl, e0, (by decide : 0 + 0 ≤ _), (by decide : 0 + 0 ≤ _)⟩)
  dsimp only [Pt.U, Pt.locs, Pt.cells, Pt.slots] at X1 l1 y1 z1 st1 hQ1
  subst l1 y1 z1
  obtain ⟨rfl, N1q, e1⟩ := hQ1
  have N2 := Fr.app N0 N1q
  refine Goes.step (S' := T1.setTop (mkF m 4 #[.val (.ref u0), .val (.long q1), .second, .val (.long q2), .second, .val (.long q3), .second, .val (.long q4), .second, .val (.long q5), .second] [])) (fun _ k => st1.trans k) ?_
  refine Goes.step (S' := T1.setTop (mkF m 5 #[.val (.ref u0), .val (.long q1), .second, .val (.long q2), .second, .val (.long q3), .second, .val (.long q4), .second, .val (.long q5), .second] [(.ref u0)])) (fun _ k => XS.aloadN X1.here hx rfl (hb hby d1_4) rfl rfl k) ?_
  refine Goes.step (S' := T1.setTop (mkF m 6 #[.val (.ref u0), .val (.long q1), .second, .val (.long q2), .second, .val (.long q3), .second, .val (.long q4), .second, .val (.long q5), .second] [(.long q1), (.ref u0)])) (fun _ k => XS.lloadN X1.here hx rfl (hb hby d1_5) rfl  k) ?_
  obtain ⟨T3, h3, X3, e3, W3, st3⟩ := putF X1 hx hZ hown (host := "") (Or.inl (hw _ (List.mem_of_getElem? (i := 16) rfl))) Via.refl e1 F_sealNanos_u0 E_u0 (Or.inr ⟨(hw _ (List.mem_of_getElem? (i := 17) rfl)), rfl, hnm⟩) (hw _ (List.mem_of_getElem? (i := 3) rfl)) (ty := .long) (by decide) rfl rfl (g := (mkF m 6 #[.val (.ref u0), .val (.long q1), .second, .val (.long q2), .second, .val (.long q3), .second, .val (.long q4), .second, .val (.long q5), .second] [(.long q1), (.ref u0)])) rfl rfl (hb hby d1_6)
  have Fw3 := F_sealNanos_u0.same W3
  have N4 := Fr.snoc X3 N2 g_u0
  have Z5 : n0 ≤ h3.size := Nat.le_trans Z0 (Nat.le_of_eq W3.size.symm)
  have E_6 := E_u0.wr W3
  have F7 := F_openNanos_u0.other W3 (Or.inr (slot_ne (Or.inr (hw _ (List.mem_of_getElem? (i := 19) rfl))) (Or.inr (hw _ (List.mem_of_getElem? (i := 17) rfl))) (by decide) (t := .long) (t' := .long) (by decide) (by decide)))
  have F8 := F_sealRootKeyCalls_u0.other W3 (Or.inr (slot_ne (Or.inr (hw _ (List.mem_of_getElem? (i := 21) rfl))) (Or.inr (hw _ (List.mem_of_getElem? (i := 17) rfl))) (by decide) (t := .long) (t' := .long) (by decide) (by decide)))
  have F9 := F_openRootKeyCalls_u0.other W3 (Or.inr (slot_ne (Or.inr (hw _ (List.mem_of_getElem? (i := 23) rfl))) (Or.inr (hw _ (List.mem_of_getElem? (i := 17) rfl))) (by decide) (t := .long) (t' := .long) (by decide) (by decide)))
  have F10 := F_mismatches_u0.other W3 (Or.inr (slot_ne (Or.inr (hw _ (List.mem_of_getElem? (i := 25) rfl))) (Or.inr (hw _ (List.mem_of_getElem? (i := 17) rfl))) (by decide) (t := .long) (t' := .long) (by decide) (by decide)))
  have K11 : Keep h0 h3 [u0] := K0.wr W3 (Or.inl (List.mem_of_getElem? (i := 0) rfl))
  refine Goes.step (S' := T3.setTop (mkF m 9 #[.val (.ref u0), .val (.long q1), .second, .val (.long q2), .second, .val (.long q3), .second, .val (.long q4), .second, .val (.long q5), .second] [])) st3 ?_
  refine Goes.step (S' := T3.setTop (mkF m 10 #[.val (.ref u0), .val (.long q1), .second, .val (.long q2), .second, .val (.long q3), .second, .val (.long q4), .second, .val (.long q5), .second] [(.ref u0)])) (fun _ k => XS.aloadN X3.here hx rfl (hb hby d1_9) rfl rfl k) ?_
  refine Goes.step (S' := T3.setTop (mkF m 11 #[.val (.ref u0), .val (.long q1), .second, .val (.long q2), .second, .val (.long q3), .second, .val (.long q4), .second, .val (.long q5), .second] [(.long q2), (.ref u0)])) (fun _ k => XS.lloadN X3.here hx rfl (hb hby d1_10) rfl  k) ?_
  obtain ⟨T12, h12, X12, e12, W12, st12⟩ := putF X3 hx hZ hown (host := "") (Or.inl (hw _ (List.mem_of_getElem? (i := 18) rfl))) Via.refl e3 F7 E_6 (Or.inr ⟨(hw _ (List.mem_of_getElem? (i := 19) rfl)), rfl, hnm⟩) (hw _ (List.mem_of_getElem? (i := 3) rfl)) (ty := .long) (by decide) rfl rfl (g := (mkF m 11 #[.val (.ref u0), .val (.long q1), .second, .val (.long q2), .second, .val (.long q3), .second, .val (.long q4), .second, .val (.long q5), .second] [(.long q2), (.ref u0)])) rfl rfl (hb hby d1_11)
  have Fw12 := F7.same W12
  have N13 := Fr.snoc X12 N4 g_u0
  have Z14 : n0 ≤ h12.size := Nat.le_trans Z5 (Nat.le_of_eq W12.size.symm)
  have E_15 := E_6.wr W12
  have F16 := Fw3.other W12 (Or.inr (slot_ne (Or.inr (hw _ (List.mem_of_getElem? (i := 17) rfl))) (Or.inr (hw _ (List.mem_of_getElem? (i := 19) rfl))) (by decide) (t := .long) (t' := .long) (by decide) (by decide)))
  have F17 := F8.other W12 (Or.inr (slot_ne (Or.inr (hw _ (List.mem_of_getElem? (i := 21) rfl))) (Or.inr (hw _ (List.mem_of_getElem? (i := 19) rfl))) (by decide) (t := .long) (t' := .long) (by decide) (by decide)))
  have F18 := F9.other W12 (Or.inr (slot_ne (Or.inr (hw _ (List.mem_of_getElem? (i := 23) rfl))) (Or.inr (hw _ (List.mem_of_getElem? (i := 19) rfl))) (by decide) (t := .long) (t' := .long) (by decide) (by decide)))
  have F19 := F10.other W12 (Or.inr (slot_ne (Or.inr (hw _ (List.mem_of_getElem? (i := 25) rfl))) (Or.inr (hw _ (List.mem_of_getElem? (i := 19) rfl))) (by decide) (t := .long) (t' := .long) (by decide) (by decide)))
  have K20 : Keep h0 h12 [u0] := K11.wr W12 (Or.inl (List.mem_of_getElem? (i := 0) rfl))
  refine Goes.step (S' := T12.setTop (mkF m 14 #[.val (.ref u0), .val (.long q1), .second, .val (.long q2), .second, .val (.long q3), .second, .val (.long q4), .second, .val (.long q5), .second] [])) st12 ?_
  refine Goes.step (S' := T12.setTop (mkF m 15 #[.val (.ref u0), .val (.long q1), .second, .val (.long q2), .second, .val (.long q3), .second, .val (.long q4), .second, .val (.long q5), .second] [(.ref u0)])) (fun _ k => XS.aloadN X12.here hx rfl (hb hby d1_14) rfl rfl k) ?_
  refine Goes.step (S' := T12.setTop (mkF m 17 #[.val (.ref u0), .val (.long q1), .second, .val (.long q2), .second, .val (.long q3), .second, .val (.long q4), .second, .val (.long q5), .second] [(.long q3), (.ref u0)])) (fun _ k => XS.lload X12.here hx rfl (hb hby d1_15) rfl  k) ?_
  obtain ⟨T21, h21, X21, e21, W21, st21⟩ := putF X12 hx hZ hown (host := "") (Or.inl (hw _ (List.mem_of_getElem? (i := 20) rfl))) Via.refl e12 F17 E_15 (Or.inr ⟨(hw _ (List.mem_of_getElem? (i := 21) rfl)), rfl, hnm⟩) (hw _ (List.mem_of_getElem? (i := 3) rfl)) (ty := .long) (by decide) rfl rfl (g := (mkF m 17 #[.val (.ref u0), .val (.long q1), .second, .val (.long q2), .second, .val (.long q3), .second, .val (.long q4), .second, .val (.long q5), .second] [(.long q3), (.ref u0)])) rfl rfl (hb hby d1_17)
  have Fw21 := F17.same W21
  have N22 := Fr.snoc X21 N13 g_u0
  have Z23 : n0 ≤ h21.size := Nat.le_trans Z14 (Nat.le_of_eq W21.size.symm)
  have E_24 := E_15.wr W21
  have F25 := F16.other W21 (Or.inr (slot_ne (Or.inr (hw _ (List.mem_of_getElem? (i := 17) rfl))) (Or.inr (hw _ (List.mem_of_getElem? (i := 21) rfl))) (by decide) (t := .long) (t' := .long) (by decide) (by decide)))
  have F26 := Fw12.other W21 (Or.inr (slot_ne (Or.inr (hw _ (List.mem_of_getElem? (i := 19) rfl))) (Or.inr (hw _ (List.mem_of_getElem? (i := 21) rfl))) (by decide) (t := .long) (t' := .long) (by decide) (by decide)))
  have F27 := F18.other W21 (Or.inr (slot_ne (Or.inr (hw _ (List.mem_of_getElem? (i := 23) rfl))) (Or.inr (hw _ (List.mem_of_getElem? (i := 21) rfl))) (by decide) (t := .long) (t' := .long) (by decide) (by decide)))
  have F28 := F19.other W21 (Or.inr (slot_ne (Or.inr (hw _ (List.mem_of_getElem? (i := 25) rfl))) (Or.inr (hw _ (List.mem_of_getElem? (i := 21) rfl))) (by decide) (t := .long) (t' := .long) (by decide) (by decide)))
  have K29 : Keep h0 h21 [u0] := K20.wr W21 (Or.inl (List.mem_of_getElem? (i := 0) rfl))
  refine Goes.step (S' := T21.setTop (mkF m 20 #[.val (.ref u0), .val (.long q1), .second, .val (.long q2), .second, .val (.long q3), .second, .val (.long q4), .second, .val (.long q5), .second] [])) st21 ?_
  refine Goes.step (S' := T21.setTop (mkF m 21 #[.val (.ref u0), .val (.long q1), .second, .val (.long q2), .second, .val (.long q3), .second, .val (.long q4), .second, .val (.long q5), .second] [(.ref u0)])) (fun _ k => XS.aloadN X21.here hx rfl (hb hby d1_20) rfl rfl k) ?_
  refine Goes.step (S' := T21.setTop (mkF m 23 #[.val (.ref u0), .val (.long q1), .second, .val (.long q2), .second, .val (.long q3), .second, .val (.long q4), .second, .val (.long q5), .second] [(.long q4), (.ref u0)])) (fun _ k => XS.lload X21.here hx rfl (hb hby d1_21) rfl  k) ?_
  obtain ⟨T30, h30, X30, e30, W30, st30⟩ := putF X21 hx hZ hown (host := "") (Or.inl (hw _ (List.mem_of_getElem? (i := 22) rfl))) Via.refl e21 F27 E_24 (Or.inr ⟨(hw _ (List.mem_of_getElem? (i := 23) rfl)), rfl, hnm⟩) (hw _ (List.mem_of_getElem? (i := 3) rfl)) (ty := .long) (by decide) rfl rfl (g := (mkF m 23 #[.val (.ref u0), .val (.long q1), .second, .val (.long q2), .second, .val (.long q3), .second, .val (.long q4), .second, .val (.long q5), .second] [(.long q4), (.ref u0)])) rfl rfl (hb hby d1_23)
  have Fw30 := F27.same W30
  have N31 := Fr.snoc X30 N22 g_u0
  have Z32 : n0 ≤ h30.size := Nat.le_trans Z23 (Nat.le_of_eq W30.size.symm)
  have E_33 := E_24.wr W30
  have F34 := F25.other W30 (Or.inr (slot_ne (Or.inr (hw _ (List.mem_of_getElem? (i := 17) rfl))) (Or.inr (hw _ (List.mem_of_getElem? (i := 23) rfl))) (by decide) (t := .long) (t' := .long) (by decide) (by decide)))
  have F35 := F26.other W30 (Or.inr (slot_ne (Or.inr (hw _ (List.mem_of_getElem? (i := 19) rfl))) (Or.inr (hw _ (List.mem_of_getElem? (i := 23) rfl))) (by decide) (t := .long) (t' := .long) (by decide) (by decide)))
  have F36 := Fw21.other W30 (Or.inr (slot_ne (Or.inr (hw _ (List.mem_of_getElem? (i := 21) rfl))) (Or.inr (hw _ (List.mem_of_getElem? (i := 23) rfl))) (by decide) (t := .long) (t' := .long) (by decide) (by decide)))
  have F37 := F28.other W30 (Or.inr (slot_ne (Or.inr (hw _ (List.mem_of_getElem? (i := 25) rfl))) (Or.inr (hw _ (List.mem_of_getElem? (i := 23) rfl))) (by decide) (t := .long) (t' := .long) (by decide) (by decide)))
  have K38 : Keep h0 h30 [u0] := K29.wr W30 (Or.inl (List.mem_of_getElem? (i := 0) rfl))
  refine Goes.step (S' := T30.setTop (mkF m 26 #[.val (.ref u0), .val (.long q1), .second, .val (.long q2), .second, .val (.long q3), .second, .val (.long q4), .second, .val (.long q5), .second] [])) st30 ?_
  refine Goes.step (S' := T30.setTop (mkF m 27 #[.val (.ref u0), .val (.long q1), .second, .val (.long q2), .second, .val (.long q3), .second, .val (.long q4), .second, .val (.long q5), .second] [(.ref u0)])) (fun _ k => XS.aloadN X30.here hx rfl (hb hby d1_26) rfl rfl k) ?_
  refine Goes.step (S' := T30.setTop (mkF m 29 #[.val (.ref u0), .val (.long q1), .second, .val (.long q2), .second, .val (.long q3), .second, .val (.long q4), .second, .val (.long q5), .second] [(.long q5), (.ref u0)])) (fun _ k => XS.lload X30.here hx rfl (hb hby d1_27) rfl  k) ?_
  obtain ⟨T39, h39, X39, e39, W39, st39⟩ := putF X30 hx hZ hown (host := "") (Or.inl (hw _ (List.mem_of_getElem? (i := 24) rfl))) Via.refl e30 F37 E_33 (Or.inr ⟨(hw _ (List.mem_of_getElem? (i := 25) rfl)), rfl, hnm⟩) (hw _ (List.mem_of_getElem? (i := 3) rfl)) (ty := .long) (by decide) rfl rfl (g := (mkF m 29 #[.val (.ref u0), .val (.long q1), .second, .val (.long q2), .second, .val (.long q3), .second, .val (.long q4), .second, .val (.long q5), .second] [(.long q5), (.ref u0)])) rfl rfl (hb hby d1_29)
  have Fw39 := F37.same W39
  have N40 := Fr.snoc X39 N31 g_u0
  have Z41 : n0 ≤ h39.size := Nat.le_trans Z32 (Nat.le_of_eq W39.size.symm)
  have E_42 := E_33.wr W39
  have F43 := F34.other W39 (Or.inr (slot_ne (Or.inr (hw _ (List.mem_of_getElem? (i := 17) rfl))) (Or.inr (hw _ (List.mem_of_getElem? (i := 25) rfl))) (by decide) (t := .long) (t' := .long) (by decide) (by decide)))
  have F44 := F35.other W39 (Or.inr (slot_ne (Or.inr (hw _ (List.mem_of_getElem? (i := 19) rfl))) (Or.inr (hw _ (List.mem_of_getElem? (i := 25) rfl))) (by decide) (t := .long) (t' := .long) (by decide) (by decide)))
  have F45 := F36.other W39 (Or.inr (slot_ne (Or.inr (hw _ (List.mem_of_getElem? (i := 21) rfl))) (Or.inr (hw _ (List.mem_of_getElem? (i := 25) rfl))) (by decide) (t := .long) (t' := .long) (by decide) (by decide)))
  have F46 := Fw30.other W39 (Or.inr (slot_ne (Or.inr (hw _ (List.mem_of_getElem? (i := 23) rfl))) (Or.inr (hw _ (List.mem_of_getElem? (i := 25) rfl))) (by decide) (t := .long) (t' := .long) (by decide) (by decide)))
  have K47 : Keep h0 h39 [u0] := K38.wr W39 (Or.inl (List.mem_of_getElem? (i := 0) rfl))
  refine Goes.step (S' := T39.setTop (mkF m 32 #[.val (.ref u0), .val (.long q1), .second, .val (.long q2), .second, .val (.long q3), .second, .val (.long q4), .second, .val (.long q5), .second] [])) st39 ?_
  refine Goes.retV X39 hx Bd.notSynchronized Bd.returns (hb hby d1_32) (by decide) (by decide) ?_
  refine ⟨rfl, N40, ?_, ?_, ?_, ?_, ?_, ?_, ?_⟩
  · rw [e39]; exact K47
  · rw [e39]; exact E_42
  · rw [e39]; exact Fw39
  · rw [e39]; exact F44
  · rw [e39]; exact F46
  · rw [e39]; exact F43
  · rw [e39]; exact F45
theorem d5_0 : decode prog_25_method_6_code 0 = .ok (.aload_n 0, 1) := by decide +kernel
theorem d5_1 : decode prog_25_method_6_code 1 = .ok (.getfield 7, 3) := by decide +kernel
theorem d5_4 : decode prog_25_method_6_code 4 = .ok (.lreturn, 1) := by decide +kernel
theorem ef5 (m : MethodId) (u0 : Addr) : entryFrame m #[(.ref u0)] 1 = mkF m 0 #[.val (.ref u0)] [] := by first | (simp [entryFrame, mkF, argsToLocals, Value.category]; done) | rfl
def f5 (w_sealNanos_u0 : Int64) (w_openNanos_u0 : Int64) (w_sealRootKeyCalls_u0 : Int64) (w_openRootKeyCalls_u0 : Int64) (w_mismatches_u0 : Int64) : Int64 := w_sealNanos_u0
def Q5 (Z : State) (u0 : Addr) (w_sealNanos_u0 : Int64) (w_openNanos_u0 : Int64) (w_sealRootKeyCalls_u0 : Int64) (w_openRootKeyCalls_u0 : Int64) (w_mismatches_u0 : Int64) (h0 : Heap) (n0 : Nat) (v : Option Value) (h : Heap) (L : List Loc) : Prop := v = some (.long (f5 w_sealNanos_u0 w_openNanos_u0 w_sealRootKeyCalls_u0 w_openRootKeyCalls_u0 w_mismatches_u0)) ∧ Fr n0 L ∧ h = h0
set_option maxRecDepth 65536 in
set_option maxHeartbeats 40000000 in
theorem rm5 (l : Launch) (Z : State) (a0 : Array Value) (hw : ∀ d ∈ tables_1, d.before a0 Z = true) (ws : List Jvm.Cond) (u0 : Addr) (w_sealNanos_u0 : Int64) (w_openNanos_u0 : Int64) (w_sealRootKeyCalls_u0 : Int64) (w_openRootKeyCalls_u0 : Int64) (w_mismatches_u0 : Int64) (h0 : Heap) (n0 : Nat) (Z0 : n0 ≤ h0.size) (E_u0 : Exa Z h0 u0 "com/example/isopod/isopod/cli/Bench$Tally") (F_sealNanos_u0 : Fld Z h0 u0 "com/example/isopod/isopod/cli/Bench$Tally" "sealNanos" "J" (.long w_sealNanos_u0)) (F_openNanos_u0 : Fld Z h0 u0 "com/example/isopod/isopod/cli/Bench$Tally" "openNanos" "J" (.long w_openNanos_u0)) (F_sealRootKeyCalls_u0 : Fld Z h0 u0 "com/example/isopod/isopod/cli/Bench$Tally" "sealRootKeyCalls" "J" (.long w_sealRootKeyCalls_u0)) (F_openRootKeyCalls_u0 : Fld Z h0 u0 "com/example/isopod/isopod/cli/Bench$Tally" "openRootKeyCalls" "J" (.long w_openRootKeyCalls_u0)) (F_mismatches_u0 : Fld Z h0 u0 "com/example/isopod/isopod/cli/Bench$Tally" "mismatches" "J" (.long w_mismatches_u0)) :
    MetFree l (⟨"com/example/isopod/isopod/cli/Bench$Tally", "sealNanos", "()J"⟩ : MethodName) (head1 (Jvm.Cond.code (⟨"com/example/isopod/isopod/cli/Bench$Tally", "sealNanos", "()J"⟩ : MethodName) prog_25_method_6_code 1 (some .long) :: ws) ({ frames := 0, cells := 0, slots := 0, locals := 0 } : Room)) (fun a U => a = #[(.ref u0)] ∧ Z.Warmed39 U.vm ∧ U.heap = h0) (fun _ _ _ _ _ => True) (fun _ U o U' => ∃ v L, o = .returned v ∧ Q5 Z u0 w_sealNanos_u0 w_openNanos_u0 w_sealRootKeyCalls_u0 w_openRootKeyCalls_u0 w_mismatches_u0 h0 n0 v U'.heap L ∧ FrameEnd U o U' L ({ frames := 0, cells := 0, slots := 0, locals := 0 } : Room).cells ({ frames := 0, cells := 0, slots := 0, locals := 0 } : Room).slots) := by
  refine MetFree.of_bodySF (plainFor_of_name pn1) hisR ?_
  intro p e s m args below meth c s₁ Bd hml0 hP hK
  obtain ⟨rfl, hZ, hh⟩ := hP
  have hx := Bd.exec
  have hby := Bd.bytes
  have hml : c.maxLocals = 1 := hml0
  have hown : s.vm.findClass "com/example/isopod/isopod/cli/Bench$Tally" = some m.cls := findClass_of_methodNamed Bd.named
  have hnm := (name_of_methodNamed Bd.named Bd.method).1
  have X0 : Stand p l e ({ frames := 0, cells := 0, slots := 0, locals := 0 } : Room) s m #[(.ref u0)] below meth c s₁ [] 0 0 := Stand.of_body Bd
  have e0 : s₁.heap = h0 := by rw [← hh, Bd.state]; rfl
  have N0 := Fr.nil n0
  refine Goes.out (Q := fun o U' => ∃ v L, o = .returned v ∧ Q5 Z u0 w_sealNanos_u0 w_openNanos_u0 w_sealRootKeyCalls_u0 w_openRootKeyCalls_u0 w_mismatches_u0 h0 n0 v U'.heap L ∧ FrameEnd s o U' L ({ frames := 0, cells := 0, slots := 0, locals := 0 } : Room).cells ({ frames := 0, cells := 0, slots := 0, locals := 0 } : Room).slots) ?_
  refine Goes.step (S' := s₁.setTop (mkF m 0 #[.val (.ref u0)] [])) (fun _ k => castTop (ef5 m u0) k) ?_
  refine Goes.step (S' := s₁.setTop (mkF m 1 #[.val (.ref u0)] [(.ref u0)])) (fun _ k => XS.aloadN X0.here hx rfl (hb hby d5_0) rfl rfl k) ?_
  obtain ⟨T1, X1, e1, st1⟩ := getF X0 hx hZ hown (host := "") (Or.inl (hw _ (List.mem_of_getElem? (i := 16) rfl))) Via.refl e0 F_sealNanos_u0 (g := (mkF m 1 #[.val (.ref u0)] [(.ref u0)])) rfl rfl (hb hby d5_1)
  refine Goes.step (S' := T1.setTop (mkF m 4 #[.val (.ref u0)] [(.long w_sealNanos_u0)])) st1 ?_
  refine Goes.retJ X1 hx Bd.notSynchronized Bd.returns (hb hby d5_4) (by decide) (by decide) ?_
  exact ⟨rfl, N0, e1⟩
theorem d6_0 : decode prog_25_method_7_code 0 = .ok (.aload_n 0, 1) := by decide +kernel
theorem d6_1 : decode prog_25_method_7_code 1 = .ok (.getfield 13, 3) := by decide +kernel
theorem d6_4 : decode prog_25_method_7_code 4 = .ok (.lreturn, 1) := by decide +kernel
theorem ef6 (m : MethodId) (u0 : Addr) : entryFrame m #[(.ref u0)] 1 = mkF m 0 #[.val (.ref u0)] [] := by first | (simp [entryFrame, mkF, argsToLocals, Value.category]; done) | rfl
def f6 (w_sealNanos_u0 : Int64) (w_openNanos_u0 : Int64) (w_sealRootKeyCalls_u0 : Int64) (w_openRootKeyCalls_u0 : Int64) (w_mismatches_u0 : Int64) : Int64 := w_openNanos_u0
def Q6 (Z : State) (u0 : Addr) (w_sealNanos_u0 : Int64) (w_openNanos_u0 : Int64) (w_sealRootKeyCalls_u0 : Int64) (w_openRootKeyCalls_u0 : Int64) (w_mismatches_u0 : Int64) (h0 : Heap) (n0 : Nat) (v : Option Value) (h : Heap) (L : List Loc) : Prop := v = some (.long (f6 w_sealNanos_u0 w_openNanos_u0 w_sealRootKeyCalls_u0 w_openRootKeyCalls_u0 w_mismatches_u0)) ∧ Fr n0 L ∧ h = h0
set_option maxRecDepth 65536 in
set_option maxHeartbeats 40000000 in
theorem rm6 (l : Launch) (Z : State) (a0 : Array Value) (hw : ∀ d ∈ tables_1, d.before a0 Z = true) (ws : List Jvm.Cond) (u0 : Addr) (w_sealNanos_u0 : Int64) (w_openNanos_u0 : Int64) (w_sealRootKeyCalls_u0 : Int64) (w_openRootKeyCalls_u0 : Int64) (w_mismatches_u0 : Int64) (h0 : Heap) (n0 : Nat) (Z0 : n0 ≤ h0.size) (E_u0 : Exa Z h0 u0 "com/example/isopod/isopod/cli/Bench$Tally") (F_sealNanos_u0 : Fld Z h0 u0 "com/example/isopod/isopod/cli/Bench$Tally" "sealNanos" "J" (.long w_sealNanos_u0)) (F_openNanos_u0 : Fld Z h0 u0 "com/example/isopod/isopod/cli/Bench$Tally" "openNanos" "J" (.long w_openNanos_u0)) (F_sealRootKeyCalls_u0 : Fld Z h0 u0 "com/example/isopod/isopod/cli/Bench$Tally" "sealRootKeyCalls" "J" (.long w_sealRootKeyCalls_u0)) (F_openRootKeyCalls_u0 : Fld Z h0 u0 "com/example/isopod/isopod/cli/Bench$Tally" "openRootKeyCalls" "J" (.long w_openRootKeyCalls_u0)) (F_mismatches_u0 : Fld Z h0 u0 "com/example/isopod/isopod/cli/Bench$Tally" "mismatches" "J" (.long w_mismatches_u0)) :
    MetFree l (⟨"com/example/isopod/isopod/cli/Bench$Tally", "openNanos", "()J"⟩ : MethodName) (head1 (Jvm.Cond.code (⟨"com/example/isopod/isopod/cli/Bench$Tally", "openNanos", "()J"⟩ : MethodName) prog_25_method_7_code 1 (some .long) :: ws) ({ frames := 0, cells := 0, slots := 0, locals := 0 } : Room)) (fun a U => a = #[(.ref u0)] ∧ Z.Warmed39 U.vm ∧ U.heap = h0) (fun _ _ _ _ _ => True) (fun _ U o U' => ∃ v L, o = .returned v ∧ Q6 Z u0 w_sealNanos_u0 w_openNanos_u0 w_sealRootKeyCalls_u0 w_openRootKeyCalls_u0 w_mismatches_u0 h0 n0 v U'.heap L ∧ FrameEnd U o U' L ({ frames := 0, cells := 0, slots := 0, locals := 0 } : Room).cells ({ frames := 0, cells := 0, slots := 0, locals := 0 } : Room).slots) := by
  refine MetFree.of_bodySF (plainFor_of_name pn1) hisR ?_
  intro p e s m args below meth c s₁ Bd hml0 hP hK
  obtain ⟨rfl, hZ, hh⟩ := hP
  have hx := Bd.exec
  have hby := Bd.bytes
  have hml : c.maxLocals = 1 := hml0
  have hown : s.vm.findClass "com/example/isopod/isopod/cli/Bench$Tally" = some m.cls := findClass_of_methodNamed Bd.named
  have hnm := (name_of_methodNamed Bd.named Bd.method).1
  have X0 : Stand p l e ({ frames := 0, cells := 0, slots := 0, locals := 0 } : Room) s m #[(.ref u0)] below meth c s₁ [] 0 0 := Stand.of_body Bd
  have e0 : s₁.heap = h0 := by rw [← hh, Bd.state]; rfl
  have N0 := Fr.nil n0
  refine Goes.out (Q := fun o U' => ∃ v L, o = .returned v ∧ Q6 Z u0 w_sealNanos_u0 w_openNanos_u0 w_sealRootKeyCalls_u0 w_openRootKeyCalls_u0 w_mismatches_u0 h0 n0 v U'.heap L ∧ FrameEnd s o U' L ({ frames := 0, cells := 0, slots := 0, locals := 0 } : Room).cells ({ frames := 0, cells := 0, slots := 0, locals := 0 } : Room).slots) ?_
  refine Goes.step (S' := s₁.setTop (mkF m 0 #[.val (.ref u0)] [])) (fun _ k => castTop (ef6 m u0) k) ?_
  refine Goes.step (S' := s₁.setTop (mkF m 1 #[.val (.ref u0)] [(.ref u0)])) (fun _ k => XS.aloadN X0.here hx rfl (hb hby d6_0) rfl rfl k) ?_
  obtain ⟨T1, X1, e1, st1⟩ := getF X0 hx hZ hown (host := "") (Or.inl (hw _ (List.mem_of_getElem? (i := 18) rfl))) Via.refl e0 F_openNanos_u0 (g := (mkF m 1 #[.val (.ref u0)] [(.ref u0)])) rfl rfl (hb hby d6_1)
  refine Goes.step (S' := T1.setTop (mkF m 4 #[.val (.ref u0)] [(.long w_openNanos_u0)])) st1 ?_
  refine Goes.retJ X1 hx Bd.notSynchronized Bd.returns (hb hby d6_4) (by decide) (by decide) ?_
  exact ⟨rfl, N0, e1⟩
theorem d7_0 : decode prog_25_method_8_code 0 = .ok (.aload_n 0, 1) := by decide +kernel
theorem d7_1 : decode prog_25_method_8_code 1 = .ok (.getfield 16, 3) := by decide +kernel
theorem d7_4 : decode prog_25_method_8_code 4 = .ok (.lreturn, 1) := by decide +kernel
theorem ef7 (m : MethodId) (u0 : Addr) : entryFrame m #[(.ref u0)] 1 = mkF m 0 #[.val (.ref u0)] [] := by first | (simp [entryFrame, mkF, argsToLocals, Value.category]; done) | rfl
def f7 (w_sealNanos_u0 : Int64) (w_openNanos_u0 : Int64) (w_sealRootKeyCalls_u0 : Int64) (w_openRootKeyCalls_u0 : Int64) (w_mismatches_u0 : Int64) : Int64 := w_sealRootKeyCalls_u0
def Q7 (Z : State) (u0 : Addr) (w_sealNanos_u0 : Int64) (w_openNanos_u0 : Int64) (w_sealRootKeyCalls_u0 : Int64) (w_openRootKeyCalls_u0 : Int64) (w_mismatches_u0 : Int64) (h0 : Heap) (n0 : Nat) (v : Option Value) (h : Heap) (L : List Loc) : Prop := v = some (.long (f7 w_sealNanos_u0 w_openNanos_u0 w_sealRootKeyCalls_u0 w_openRootKeyCalls_u0 w_mismatches_u0)) ∧ Fr n0 L ∧ h = h0
set_option maxRecDepth 65536 in
set_option maxHeartbeats 40000000 in
theorem rm7 (l : Launch) (Z : State) (a0 : Array Value) (hw : ∀ d ∈ tables_1, d.before a0 Z = true) (ws : List Jvm.Cond) (u0 : Addr) (w_sealNanos_u0 : Int64) (w_openNanos_u0 : Int64) (w_sealRootKeyCalls_u0 : Int64) (w_openRootKeyCalls_u0 : Int64) (w_mismatches_u0 : Int64) (h0 : Heap) (n0 : Nat) (Z0 : n0 ≤ h0.size) (E_u0 : Exa Z h0 u0 "com/example/isopod/isopod/cli/Bench$Tally") (F_sealNanos_u0 : Fld Z h0 u0 "com/example/isopod/isopod/cli/Bench$Tally" "sealNanos" "J" (.long w_sealNanos_u0)) (F_openNanos_u0 : Fld Z h0 u0 "com/example/isopod/isopod/cli/Bench$Tally" "openNanos" "J" (.long w_openNanos_u0)) (F_sealRootKeyCalls_u0 : Fld Z h0 u0 "com/example/isopod/isopod/cli/Bench$Tally" "sealRootKeyCalls" "J" (.long w_sealRootKeyCalls_u0)) (F_openRootKeyCalls_u0 : Fld Z h0 u0 "com/example/isopod/isopod/cli/Bench$Tally" "openRootKeyCalls" "J" (.long w_openRootKeyCalls_u0)) (F_mismatches_u0 : Fld Z h0 u0 "com/example/isopod/isopod/cli/Bench$Tally" "mismatches" "J" (.long w_mismatches_u0)) :
    MetFree l (⟨"com/example/isopod/isopod/cli/Bench$Tally", "sealRootKeyCalls", "()J"⟩ : MethodName) (head1 (Jvm.Cond.code (⟨"com/example/isopod/isopod/cli/Bench$Tally", "sealRootKeyCalls", "()J"⟩ : MethodName) prog_25_method_8_code 1 (some .long) :: ws) ({ frames := 0, cells := 0, slots := 0, locals := 0 } : Room)) (fun a U => a = #[(.ref u0)] ∧ Z.Warmed39 U.vm ∧ U.heap = h0) (fun _ _ _ _ _ => True) (fun _ U o U' => ∃ v L, o = .returned v ∧ Q7 Z u0 w_sealNanos_u0 w_openNanos_u0 w_sealRootKeyCalls_u0 w_openRootKeyCalls_u0 w_mismatches_u0 h0 n0 v U'.heap L ∧ FrameEnd U o U' L ({ frames := 0, cells := 0, slots := 0, locals := 0 } : Room).cells ({ frames := 0, cells := 0, slots := 0, locals := 0 } : Room).slots) := by
  refine MetFree.of_bodySF (plainFor_of_name pn1) hisR ?_
  intro p e s m args below meth c s₁ Bd hml0 hP hK
  obtain ⟨rfl, hZ, hh⟩ := hP
  have hx := Bd.exec
  have hby := Bd.bytes
  have hml : c.maxLocals = 1 := hml0
  have hown : s.vm.findClass "com/example/isopod/isopod/cli/Bench$Tally" = some m.cls := findClass_of_methodNamed Bd.named
  have hnm := (name_of_methodNamed Bd.named Bd.method).1
  have X0 : Stand p l e ({ frames := 0, cells := 0, slots := 0, locals := 0 } : Room) s m #[(.ref u0)] below meth c s₁ [] 0 0 := Stand.of_body Bd
  have e0 : s₁.heap = h0 := by rw [← hh, Bd.state]; rfl
  have N0 := Fr.nil n0
  refine Goes.out (Q := fun o U' => ∃ v L, o = .returned v ∧ Q7 Z u0 w_sealNanos_u0 w_openNanos_u0 w_sealRootKeyCalls_u0 w_openRootKeyCalls_u0 w_mismatches_u0 h0 n0 v U'.heap L ∧ FrameEnd s o U' L ({ frames := 0, cells := 0, slots := 0, locals := 0 } : Room).cells ({ frames := 0, cells := 0, slots := 0, locals := 0 } : Room).slots) ?_
  refine Goes.step (S' := s₁.setTop (mkF m 0 #[.val (.ref u0)] [])) (fun _ k => castTop (ef7 m u0) k) ?_
  refine Goes.step (S' := s₁.setTop (mkF m 1 #[.val (.ref u0)] [(.ref u0)])) (fun _ k => XS.aloadN X0.here hx rfl (hb hby d7_0) rfl rfl k) ?_
  obtain ⟨T1, X1, e1, st1⟩ := getF X0 hx hZ hown (host := "") (Or.inl (hw _ (List.mem_of_getElem? (i := 20) rfl))) Via.refl e0 F_sealRootKeyCalls_u0 (g := (mkF m 1 #[.val (.ref u0)] [(.ref u0)])) rfl rfl (hb hby d7_1)
  refine Goes.step (S' := T1.setTop (mkF m 4 #[.val (.ref u0)] [(.long w_sealRootKeyCalls_u0)])) st1 ?_
  refine Goes.retJ X1 hx Bd.notSynchronized Bd.returns (hb hby d7_4) (by decide) (by decide) ?_
  exact ⟨rfl, N0, e1⟩
theorem d8_0 : decode prog_25_method_9_code 0 = .ok (.aload_n 0, 1) := by decide +kernel
theorem d8_1 : decode prog_25_method_9_code 1 = .ok (.getfield 19, 3) := by decide +kernel
theorem d8_4 : decode prog_25_method_9_code 4 = .ok (.lreturn, 1) := by decide +kernel
theorem ef8 (m : MethodId) (u0 : Addr) : entryFrame m #[(.ref u0)] 1 = mkF m 0 #[.val (.ref u0)] [] := by first | (simp [entryFrame, mkF, argsToLocals, Value.category]; done) | rfl
def f8 (w_sealNanos_u0 : Int64) (w_openNanos_u0 : Int64) (w_sealRootKeyCalls_u0 : Int64) (w_openRootKeyCalls_u0 : Int64) (w_mismatches_u0 : Int64) : Int64 := w_openRootKeyCalls_u0
def Q8 (Z : State) (u0 : Addr) (w_sealNanos_u0 : Int64) (w_openNanos_u0 : Int64) (w_sealRootKeyCalls_u0 : Int64) (w_openRootKeyCalls_u0 : Int64) (w_mismatches_u0 : Int64) (h0 : Heap) (n0 : Nat) (v : Option Value) (h : Heap) (L : List Loc) : Prop := v = some (.long (f8 w_sealNanos_u0 w_openNanos_u0 w_sealRootKeyCalls_u0 w_openRootKeyCalls_u0 w_mismatches_u0)) ∧ Fr n0 L ∧ h = h0
set_option maxRecDepth 65536 in
set_option maxHeartbeats 40000000 in
theorem rm8 (l : Launch) (Z : State) (a0 : Array Value) (hw : ∀ d ∈ tables_1, d.before a0 Z = true) (ws : List Jvm.Cond) (u0 : Addr) (w_sealNanos_u0 : Int64) (w_openNanos_u0 : Int64) (w_sealRootKeyCalls_u0 : Int64) (w_openRootKeyCalls_u0 : Int64) (w_mismatches_u0 : Int64) (h0 : Heap) (n0 : Nat) (Z0 : n0 ≤ h0.size) (E_u0 : Exa Z h0 u0 "com/example/isopod/isopod/cli/Bench$Tally") (F_sealNanos_u0 : Fld Z h0 u0 "com/example/isopod/isopod/cli/Bench$Tally" "sealNanos" "J" (.long w_sealNanos_u0)) (F_openNanos_u0 : Fld Z h0 u0 "com/example/isopod/isopod/cli/Bench$Tally" "openNanos" "J" (.long w_openNanos_u0)) (F_sealRootKeyCalls_u0 : Fld Z h0 u0 "com/example/isopod/isopod/cli/Bench$Tally" "sealRootKeyCalls" "J" (.long w_sealRootKeyCalls_u0)) (F_openRootKeyCalls_u0 : Fld Z h0 u0 "com/example/isopod/isopod/cli/Bench$Tally" "openRootKeyCalls" "J" (.long w_openRootKeyCalls_u0)) (F_mismatches_u0 : Fld Z h0 u0 "com/example/isopod/isopod/cli/Bench$Tally" "mismatches" "J" (.long w_mismatches_u0)) :
    MetFree l (⟨"com/example/isopod/isopod/cli/Bench$Tally", "openRootKeyCalls", "()J"⟩ : MethodName) (head1 (Jvm.Cond.code (⟨"com/example/isopod/isopod/cli/Bench$Tally", "openRootKeyCalls", "()J"⟩ : MethodName) prog_25_method_9_code 1 (some .long) :: ws) ({ frames := 0, cells := 0, slots := 0, locals := 0 } : Room)) (fun a U => a = #[(.ref u0)] ∧ Z.Warmed39 U.vm ∧ U.heap = h0) (fun _ _ _ _ _ => True) (fun _ U o U' => ∃ v L, o = .returned v ∧ Q8 Z u0 w_sealNanos_u0 w_openNanos_u0 w_sealRootKeyCalls_u0 w_openRootKeyCalls_u0 w_mismatches_u0 h0 n0 v U'.heap L ∧ FrameEnd U o U' L ({ frames := 0, cells := 0, slots := 0, locals := 0 } : Room).cells ({ frames := 0, cells := 0, slots := 0, locals := 0 } : Room).slots) := by
  refine MetFree.of_bodySF (plainFor_of_name pn1) hisR ?_
  intro p e s m args below meth c s₁ Bd hml0 hP hK
  obtain ⟨rfl, hZ, hh⟩ := hP
  have hx := Bd.exec
  have hby := Bd.bytes
  have hml : c.maxLocals = 1 := hml0
  have hown : s.vm.findClass "com/example/isopod/isopod/cli/Bench$Tally" = some m.cls := findClass_of_methodNamed Bd.named
  have hnm := (name_of_methodNamed Bd.named Bd.method).1
  have X0 : Stand p l e ({ frames := 0, cells := 0, slots := 0, locals := 0 } : Room) s m #[(.ref u0)] below meth c s₁ [] 0 0 := Stand.of_body Bd
  have e0 : s₁.heap = h0 := by rw [← hh, Bd.state]; rfl
  have N0 := Fr.nil n0
  refine Goes.out (Q := fun o U' => ∃ v L, o = .returned v ∧ Q8 Z u0 w_sealNanos_u0 w_openNanos_u0 w_sealRootKeyCalls_u0 w_openRootKeyCalls_u0 w_mismatches_u0 h0 n0 v U'.heap L ∧ FrameEnd s o U' L ({ frames := 0, cells := 0, slots := 0, locals := 0 } : Room).cells ({ frames := 0, cells := 0, slots := 0, locals := 0 } : Room).slots) ?_
  refine Goes.step (S' := s₁.setTop (mkF m 0 #[.val (.ref u0)] [])) (fun _ k => castTop (ef8 m u0) k) ?_
  refine Goes.step (S' := s₁.setTop (mkF m 1 #[.val (.ref u0)] [(.ref u0)])) (fun _ k => XS.aloadN X0.here hx rfl (hb hby d8_0) rfl rfl k) ?_
  obtain ⟨T1, X1, e1, st1⟩ := getF X0 hx hZ hown (host := "") (Or.inl (hw _ (List.mem_of_getElem? (i := 22) rfl))) Via.refl e0 F_openRootKeyCalls_u0 (g := (mkF m 1 #[.val (.ref u0)] [(.ref u0)])) rfl rfl (hb hby d8_1)
  refine Goes.step (S' := T1.setTop (mkF m 4 #[.val (.ref u0)] [(.long w_openRootKeyCalls_u0)])) st1 ?_
  refine Goes.retJ X1 hx Bd.notSynchronized Bd.returns (hb hby d8_4) (by decide) (by decide) ?_
  exact ⟨rfl, N0, e1⟩
theorem d9_0 : decode prog_25_method_10_code 0 = .ok (.aload_n 0, 1) := by decide +kernel
theorem d9_1 : decode prog_25_method_10_code 1 = .ok (.getfield 22, 3) := by decide +kernel
theorem d9_4 : decode prog_25_method_10_code 4 = .ok (.lreturn, 1) := by decide +kernel
theorem ef9 (m : MethodId) (u0 : Addr) : entryFrame m #[(.ref u0)] 1 = mkF m 0 #[.val (.ref u0)] [] := by first | (simp [entryFrame, mkF, argsToLocals, Value.category]; done) | rfl
def f9 (w_sealNanos_u0 : Int64) (w_openNanos_u0 : Int64) (w_sealRootKeyCalls_u0 : Int64) (w_openRootKeyCalls_u0 : Int64) (w_mismatches_u0 : Int64) : Int64 := w_mismatches_u0
def Q9 (Z : State) (u0 : Addr) (w_sealNanos_u0 : Int64) (w_openNanos_u0 : Int64) (w_sealRootKeyCalls_u0 : Int64) (w_openRootKeyCalls_u0 : Int64) (w_mismatches_u0 : Int64) (h0 : Heap) (n0 : Nat) (v : Option Value) (h : Heap) (L : List Loc) : Prop := v = some (.long (f9 w_sealNanos_u0 w_openNanos_u0 w_sealRootKeyCalls_u0 w_openRootKeyCalls_u0 w_mismatches_u0)) ∧ Fr n0 L ∧ h = h0
set_option maxRecDepth 65536 in
set_option maxHeartbeats 40000000 in
theorem rm9 (l : Launch) (Z : State) (a0 : Array Value) (hw : ∀ d ∈ tables_1, d.before a0 Z = true) (ws : List Jvm.Cond) (u0 : Addr) (w_sealNanos_u0 : Int64) (w_openNanos_u0 : Int64) (w_sealRootKeyCalls_u0 : Int64) (w_openRootKeyCalls_u0 : Int64) (w_mismatches_u0 : Int64) (h0 : Heap) (n0 : Nat) (Z0 : n0 ≤ h0.size) (E_u0 : Exa Z h0 u0 "com/example/isopod/isopod/cli/Bench$Tally") (F_sealNanos_u0 : Fld Z h0 u0 "com/example/isopod/isopod/cli/Bench$Tally" "sealNanos" "J" (.long w_sealNanos_u0)) (F_openNanos_u0 : Fld Z h0 u0 "com/example/isopod/isopod/cli/Bench$Tally" "openNanos" "J" (.long w_openNanos_u0)) (F_sealRootKeyCalls_u0 : Fld Z h0 u0 "com/example/isopod/isopod/cli/Bench$Tally" "sealRootKeyCalls" "J" (.long w_sealRootKeyCalls_u0)) (F_openRootKeyCalls_u0 : Fld Z h0 u0 "com/example/isopod/isopod/cli/Bench$Tally" "openRootKeyCalls" "J" (.long w_openRootKeyCalls_u0)) (F_mismatches_u0 : Fld Z h0 u0 "com/example/isopod/isopod/cli/Bench$Tally" "mismatches" "J" (.long w_mismatches_u0)) :
    MetFree l (⟨"com/example/isopod/isopod/cli/Bench$Tally", "mismatches", "()J"⟩ : MethodName) (head1 (Jvm.Cond.code (⟨"com/example/isopod/isopod/cli/Bench$Tally", "mismatches", "()J"⟩ : MethodName) prog_25_method_10_code 1 (some .long) :: ws) ({ frames := 0, cells := 0, slots := 0, locals := 0 } : Room)) (fun a U => a = #[(.ref u0)] ∧ Z.Warmed39 U.vm ∧ U.heap = h0) (fun _ _ _ _ _ => True) (fun _ U o U' => ∃ v L, o = .returned v ∧ Q9 Z u0 w_sealNanos_u0 w_openNanos_u0 w_sealRootKeyCalls_u0 w_openRootKeyCalls_u0 w_mismatches_u0 h0 n0 v U'.heap L ∧ FrameEnd U o U' L ({ frames := 0, cells := 0, slots := 0, locals := 0 } : Room).cells ({ frames := 0, cells := 0, slots := 0, locals := 0 } : Room).slots) := by
  refine MetFree.of_bodySF (plainFor_of_name pn1) hisR ?_
  intro p e s m args below meth c s₁ Bd hml0 hP hK
  obtain ⟨rfl, hZ, hh⟩ := hP
  have hx := Bd.exec
  have hby := Bd.bytes
  have hml : c.maxLocals = 1 := hml0
  have hown : s.vm.findClass "com/example/isopod/isopod/cli/Bench$Tally" = some m.cls := findClass_of_methodNamed Bd.named
  have hnm := (name_of_methodNamed Bd.named Bd.method).1
  have X0 : Stand p l e ({ frames := 0, cells := 0, slots := 0, locals := 0 } : Room) s m #[(.ref u0)] below meth c s₁ [] 0 0 := Stand.of_body Bd
  have e0 : s₁.heap = h0 := by rw [← hh, Bd.state]; rfl
  have N0 := Fr.nil n0
  refine Goes.out (Q := fun o U' => ∃ v L, o = .returned v ∧ Q9 Z u0 w_sealNanos_u0 w_openNanos_u0 w_sealRootKeyCalls_u0 w_openRootKeyCalls_u0 w_mismatches_u0 h0 n0 v U'.heap L ∧ FrameEnd s o U' L ({ frames := 0, cells := 0, slots := 0, locals := 0 } : Room).cells ({ frames := 0, cells := 0, slots := 0, locals := 0 } : Room).slots) ?_
  refine Goes.step (S' := s₁.setTop (mkF m 0 #[.val (.ref u0)] [])) (fun _ k => castTop (ef9 m u0) k) ?_
  refine Goes.step (S' := s₁.setTop (mkF m 1 #[.val (.ref u0)] [(.ref u0)])) (fun _ k => XS.aloadN X0.here hx rfl (hb hby d9_0) rfl rfl k) ?_
  obtain ⟨T1, X1, e1, st1⟩ := getF X0 hx hZ hown (host := "") (Or.inl (hw _ (List.mem_of_getElem? (i := 24) rfl))) Via.refl e0 F_mismatches_u0 (g := (mkF m 1 #[.val (.ref u0)] [(.ref u0)])) rfl rfl (hb hby d9_1)
  refine Goes.step (S' := T1.setTop (mkF m 4 #[.val (.ref u0)] [(.long w_mismatches_u0)])) st1 ?_
  refine Goes.retJ X1 hx Bd.notSynchronized Bd.returns (hb hby d9_4) (by decide) (by decide) ?_
  exact ⟨rfl, N0, e1⟩
theorem pd1 : parseMethodDescriptor "(JJJJJ)V" = some ⟨[.long, .long, .long, .long, .long], none⟩ := by decide +kernel
theorem d4_0 : decode prog_25_method_2_code 0 = .ok (.new 8, 3) := by decide +kernel
theorem d4_3 : decode prog_25_method_2_code 3 = .ok (.dup, 1) := by decide +kernel
theorem d4_4 : decode prog_25_method_2_code 4 = .ok (.aload_n 0, 1) := by decide +kernel
theorem d4_5 : decode prog_25_method_2_code 5 = .ok (.getfield 7, 3) := by decide +kernel
theorem d4_8 : decode prog_25_method_2_code 8 = .ok (.aload_n 1, 1) := by decide +kernel
theorem d4_9 : decode prog_25_method_2_code 9 = .ok (.getfield 7, 3) := by decide +kernel
theorem d4_12 : decode prog_25_method_2_code 12 = .ok (.ladd, 1) := by decide +kernel
theorem d4_13 : decode prog_25_method_2_code 13 = .ok (.aload_n 0, 1) := by decide +kernel
theorem d4_14 : decode prog_25_method_2_code 14 = .ok (.getfield 13, 3) := by decide +kernel
theorem d4_17 : decode prog_25_method_2_code 17 = .ok (.aload_n 1, 1) := by decide +kernel
theorem d4_18 : decode prog_25_method_2_code 18 = .ok (.getfield 13, 3) := by decide +kernel
theorem d4_21 : decode prog_25_method_2_code 21 = .ok (.ladd, 1) := by decide +kernel
theorem d4_22 : decode prog_25_method_2_code 22 = .ok (.aload_n 0, 1) := by decide +kernel
theorem d4_23 : decode prog_25_method_2_code 23 = .ok (.getfield 16, 3) := by decide +kernel
theorem d4_26 : decode prog_25_method_2_code 26 = .ok (.aload_n 1, 1) := by decide +kernel
theorem d4_27 : decode prog_25_method_2_code 27 = .ok (.getfield 16, 3) := by decide +kernel
theorem d4_30 : decode prog_25_method_2_code 30 = .ok (.ladd, 1) := by decide +kernel
theorem d4_31 : decode prog_25_method_2_code 31 = .ok (.aload_n 0, 1) := by decide +kernel
theorem d4_32 : decode prog_25_method_2_code 32 = .ok (.getfield 19, 3) := by decide +kernel
theorem d4_35 : decode prog_25_method_2_code 35 = .ok (.aload_n 1, 1) := by decide +kernel
theorem d4_36 : decode prog_25_method_2_code 36 = .ok (.getfield 19, 3) := by decide +kernel
theorem d4_39 : decode prog_25_method_2_code 39 = .ok (.ladd, 1) := by decide +kernel
theorem d4_40 : decode prog_25_method_2_code 40 = .ok (.aload_n 0, 1) := by decide +kernel
theorem d4_41 : decode prog_25_method_2_code 41 = .ok (.getfield 22, 3) := by decide +kernel
theorem d4_44 : decode prog_25_method_2_code 44 = .ok (.aload_n 1, 1) := by decide +kernel
theorem d4_45 : decode prog_25_method_2_code 45 = .ok (.getfield 22, 3) := by decide +kernel
theorem d4_48 : decode prog_25_method_2_code 48 = .ok (.ladd, 1) := by decide +kernel
theorem d4_49 : decode prog_25_method_2_code 49 = .ok (.invokespecial 25, 3) := by decide +kernel
theorem d4_52 : decode prog_25_method_2_code 52 = .ok (.areturn, 1) := by decide +kernel
theorem ef4 (m : MethodId) (u0 : Addr) (u1 : Addr) : entryFrame m #[(.ref u0), (.ref u1)] 2 = mkF m 0 #[.val (.ref u0), .val (.ref u1)] [] := by first | (simp [entryFrame, mkF, argsToLocals, Value.category]; done) | rfl
def Q4 (Z : State) (u0 : Addr) (u1 : Addr) (w_sealNanos_u0 : Int64) (w_openNanos_u0 : Int64) (w_sealRootKeyCalls_u0 : Int64) (w_openRootKeyCalls_u0 : Int64) (w_mismatches_u0 : Int64) (w_sealNanos_u1 : Int64) (w_openNanos_u1 : Int64) (w_sealRootKeyCalls_u1 : Int64) (w_openRootKeyCalls_u1 : Int64) (w_mismatches_u1 : Int64) (h0 : Heap) (n0 : Nat) (v : Option Value) (h : Heap) (L : List Loc) : Prop := ∃ (r0 : Addr), v = some (.ref r0) ∧ Fr n0 L ∧ Keep h0 h [] ∧ h0.size ≤ r0 ∧ Exa Z h r0 "com/example/isopod/isopod/cli/Bench$Tally" ∧ Fld Z h r0 "com/example/isopod/isopod/cli/Bench$Tally" "mismatches" "J" (.long (w_mismatches_u0 + w_mismatches_u1)) ∧ Fld Z h r0 "com/example/isopod/isopod/cli/Bench$Tally" "openNanos" "J" (.long (w_openNanos_u0 + w_openNanos_u1)) ∧ Fld Z h r0 "com/example/isopod/isopod/cli/Bench$Tally" "openRootKeyCalls" "J" (.long (w_openRootKeyCalls_u0 + w_openRootKeyCalls_u1)) ∧ Fld Z h r0 "com/example/isopod/isopod/cli/Bench$Tally" "sealNanos" "J" (.long (w_sealNanos_u0 + w_sealNanos_u1)) ∧ Fld Z h r0 "com/example/isopod/isopod/cli/Bench$Tally" "sealRootKeyCalls" "J" (.long (w_sealRootKeyCalls_u0 + w_sealRootKeyCalls_u1))
set_option maxRecDepth 65536 in
set_option maxHeartbeats 40000000 in
theorem rm4 (l : Launch) (Z : State) (a0 : Array Value) (hw : ∀ d ∈ tables_1, d.before a0 Z = true) (ws : List Jvm.Cond) (u0 : Addr) (u1 : Addr) (w_sealNanos_u0 : Int64) (w_openNanos_u0 : Int64) (w_sealRootKeyCalls_u0 : Int64) (w_openRootKeyCalls_u0 : Int64) (w_mismatches_u0 : Int64) (w_sealNanos_u1 : Int64) (w_openNanos_u1 : Int64) (w_sealRootKeyCalls_u1 : Int64) (w_openRootKeyCalls_u1 : Int64) (w_mismatches_u1 : Int64) (h0 : Heap) (n0 : Nat) (Z0 : n0 ≤ h0.size) (E_u0 : Exa Z h0 u0 "com/example/isopod/isopod/cli/Bench$Tally") (F_sealNanos_u0 : Fld Z h0 u0 "com/example/isopod/isopod/cli/Bench$Tally" "sealNanos" "J" (.long w_sealNanos_u0)) (F_openNanos_u0 : Fld Z h0 u0 "com/example/isopod/isopod/cli/Bench$Tally" "openNanos" "J" (.long w_openNanos_u0)) (F_sealRootKeyCalls_u0 : Fld Z h0 u0 "com/example/isopod/isopod/cli/Bench$Tally" "sealRootKeyCalls" "J" (.long w_sealRootKeyCalls_u0)) (F_openRootKeyCalls_u0 : Fld Z h0 u0 "com/example/isopod/isopod/cli/Bench$Tally" "openRootKeyCalls" "J" (.long w_openRootKeyCalls_u0)) (F_mismatches_u0 : Fld Z h0 u0 "com/example/isopod/isopod/cli/Bench$Tally" "mismatches" "J" (.long w_mismatches_u0)) (E_u1 : Exa Z h0 u1 "com/example/isopod/isopod/cli/Bench$Tally") (F_sealNanos_u1 : Fld Z h0 u1 "com/example/isopod/isopod/cli/Bench$Tally" "sealNanos" "J" (.long w_sealNanos_u1)) (F_openNanos_u1 : Fld Z h0 u1 "com/example/isopod/isopod/cli/Bench$Tally" "openNanos" "J" (.long w_openNanos_u1)) (F_sealRootKeyCalls_u1 : Fld Z h0 u1 "com/example/isopod/isopod/cli/Bench$Tally" "sealRootKeyCalls" "J" (.long w_sealRootKeyCalls_u1)) (F_openRootKeyCalls_u1 : Fld Z h0 u1 "com/example/isopod/isopod/cli/Bench$Tally" "openRootKeyCalls" "J" (.long w_openRootKeyCalls_u1)) (F_mismatches_u1 : Fld Z h0 u1 "com/example/isopod/isopod/cli/Bench$Tally" "mismatches" "J" (.long w_mismatches_u1)) :
    MetFree l (⟨"com/example/isopod/isopod/cli/Bench$Tally", "plus", "(Lcom/example/isopod/isopod/cli/Bench$Tally;)Lcom/example/isopod/isopod/cli/Bench$Tally;"⟩ : MethodName) (head1 (Jvm.Cond.code (⟨"com/example/isopod/isopod/cli/Bench$Tally", "plus", "(Lcom/example/isopod/isopod/cli/Bench$Tally;)Lcom/example/isopod/isopod/cli/Bench$Tally;"⟩ : MethodName) prog_25_method_2_code 2 (some (.object "com/example/isopod/isopod/cli/Bench$Tally")) :: ws) ({ frames := 3, cells := 1, slots := 5, locals := 47 } : Room)) (fun a U => a = #[(.ref u0), (.ref u1)] ∧ Z.Warmed39 U.vm ∧ U.heap = h0) (fun _ _ _ _ _ => True) (fun _ U o U' => ∃ v L, o = .returned v ∧ Q4 Z u0 u1 w_sealNanos_u0 w_openNanos_u0 w_sealRootKeyCalls_u0 w_openRootKeyCalls_u0 w_mismatches_u0 w_sealNanos_u1 w_openNanos_u1 w_sealRootKeyCalls_u1 w_openRootKeyCalls_u1 w_mismatches_u1 h0 n0 v U'.heap L ∧ FrameEnd U o U' L ({ frames := 3, cells := 1, slots := 5, locals := 47 } : Room).cells ({ frames := 3, cells := 1, slots := 5, locals := 47 } : Room).slots) := by
  refine MetFree.of_bodySF (plainFor_of_name pn1) hisR ?_
  intro p e s m args below meth c s₁ Bd hml0 hP hK
  obtain ⟨rfl, hZ, hh⟩ := hP
  have hx := Bd.exec
  have hby := Bd.bytes
  have hml : c.maxLocals = 2 := hml0
  have hown : s.vm.findClass "com/example/isopod/isopod/cli/Bench$Tally" = some m.cls := findClass_of_methodNamed Bd.named
  have hnm := (name_of_methodNamed Bd.named Bd.method).1
  have X0 : Stand p l e ({ frames := 3, cells := 1, slots := 5, locals := 47 } : Room) s m #[(.ref u0), (.ref u1)] below meth c s₁ [] 0 0 := Stand.of_body Bd
  have e0 : s₁.heap = h0 := by rw [← hh, Bd.state]; rfl
  have N0 := Fr.nil n0
  have K0 : Keep h0 h0 [] := Keep.refl _ _
  refine Goes.out (Q := fun o U' => ∃ v L, o = .returned v ∧ Q4 Z u0 u1 w_sealNanos_u0 w_openNanos_u0 w_sealRootKeyCalls_u0 w_openRootKeyCalls_u0 w_mismatches_u0 w_sealNanos_u1 w_openNanos_u1 w_sealRootKeyCalls_u1 w_openRootKeyCalls_u1 w_mismatches_u1 h0 n0 v U'.heap L ∧ FrameEnd s o U' L ({ frames := 3, cells := 1, slots := 5, locals := 47 } : Room).cells ({ frames := 3, cells := 1, slots := 5, locals := 47 } : Room).slots) ?_
  refine Goes.step (S' := s₁.setTop (mkF m 0 #[.val (.ref u0), .val (.ref u1)] [])) (fun _ k => castTop (ef4 m u0 u1) k) ?_
  obtain ⟨T1, h1, X1, e1, E1, A1, D1, -, st1⟩ := newO X0 hx hZ hown (hw _ (List.mem_of_getElem? (i := 31) rfl)) (hw _ (List.mem_of_getElem? (i := 3) rfl)) (hw _ (List.mem_of_getElem? (i := 4) rfl)) e0 (g := (mkF m 0 #[.val (.ref u0), .val (.ref u1)] [])) rfl (hb hby d4_0) (by decide) (by decide)
  obtain ⟨b1, g1⟩ : ∃ z, z = h0.size := ⟨_, rfl⟩
  rw [← g1] at A1 D1 st1
  have ne2 : u0 ≠ b1 := Nat.ne_of_lt (Nat.lt_of_lt_of_le E_u0.lt (Nat.le_of_eq g1.symm))
  have ne3 : u1 ≠ b1 := Nat.ne_of_lt (Nat.lt_of_lt_of_le E_u1.lt (Nat.le_of_eq g1.symm))
  have g4 : n0 ≤ b1 := Nat.le_trans Z0 (Nat.le_of_eq g1.symm)
  have Z5 : n0 ≤ h1.size := Nat.le_trans Z0 E1.1
  have O6 : h0.size ≤ b1 := Nat.le_trans K0.1 (Nat.le_of_eq g1.symm)
  have E_7 := E_u0.ext E1
  have F8 := F_sealNanos_u0.ext E1
  have F9 := F_openNanos_u0.ext E1
  have F10 := F_sealRootKeyCalls_u0.ext E1
  have F11 := F_openRootKeyCalls_u0.ext E1
  have F12 := F_mismatches_u0.ext E1
  have E_13 := E_u1.ext E1
  have F14 := F_sealNanos_u1.ext E1
  have F15 := F_openNanos_u1.ext E1
  have F16 := F_sealRootKeyCalls_u1.ext E1
  have F17 := F_openRootKeyCalls_u1.ext E1
  have F18 := F_mismatches_u1.ext E1
  have K19 : Keep h0 h1 [] := K0.ext E1
  have F20 : Fld Z h1 b1 "com/example/isopod/isopod/cli/Bench$Tally" "sealNanos" "J" (.long (0 : Int64)) := D1 (Or.inr (hw _ (List.mem_of_getElem? (i := 17) rfl))) (ty := .long) (by decide)
  have F21 : Fld Z h1 b1 "com/example/isopod/isopod/cli/Bench$Tally" "openNanos" "J" (.long (0 : Int64)) := D1 (Or.inr (hw _ (List.mem_of_getElem? (i := 19) rfl))) (ty := .long) (by decide)
  have F22 : Fld Z h1 b1 "com/example/isopod/isopod/cli/Bench$Tally" "sealRootKeyCalls" "J" (.long (0 : Int64)) := D1 (Or.inr (hw _ (List.mem_of_getElem? (i := 21) rfl))) (ty := .long) (by decide)
  have F23 : Fld Z h1 b1 "com/example/isopod/isopod/cli/Bench$Tally" "openRootKeyCalls" "J" (.long (0 : Int64)) := D1 (Or.inr (hw _ (List.mem_of_getElem? (i := 23) rfl))) (ty := .long) (by decide)
  have F24 : Fld Z h1 b1 "com/example/isopod/isopod/cli/Bench$Tally" "mismatches" "J" (.long (0 : Int64)) := D1 (Or.inr (hw _ (List.mem_of_getElem? (i := 25) rfl))) (ty := .long) (by decide)
  refine Goes.step (S' := T1.setTop (mkF m 3 #[.val (.ref u0), .val (.ref u1)] [(.ref b1)])) st1 ?_
  refine Goes.step (S' := T1.setTop (mkF m 4 #[.val (.ref u0), .val (.ref u1)] [(.ref b1), (.ref b1)])) (fun _ k => XS.dup X1.here hx rfl (hb hby d4_3) rfl rfl k) ?_
  refine Goes.step (S' := T1.setTop (mkF m 5 #[.val (.ref u0), .val (.ref u1)] [(.ref u0), (.ref b1), (.ref b1)])) (fun _ k => XS.aloadN X1.here hx rfl (hb hby d4_4) rfl rfl k) ?_
  obtain ⟨T25, X25, e25, st25⟩ := getF X1 hx hZ hown (host := "") (Or.inl (hw _ (List.mem_of_getElem? (i := 16) rfl))) Via.refl e1 F8 (g := (mkF m 5 #[.val (.ref u0), .val (.ref u1)] [(.ref u0), (.ref b1), (.ref b1)])) rfl rfl (hb hby d4_5)
  refine Goes.step (S' := T25.setTop (mkF m 8 #[.val (.ref u0), .val (.ref u1)] [(.long w_sealNanos_u0), (.ref b1), (.ref b1)])) st25 ?_
  refine Goes.step (S' := T25.setTop (mkF m 9 #[.val (.ref u0), .val (.ref u1)] [(.ref u1), (.long w_sealNanos_u0), (.ref b1), (.ref b1)])) (fun _ k => XS.aloadN X25.here hx rfl (hb hby d4_8) rfl rfl k) ?_
  obtain ⟨T26, X26, e26, st26⟩ := getF X25 hx hZ hown (host := "") (Or.inl (hw _ (List.mem_of_getElem? (i := 16) rfl))) Via.refl e25 F14 (g := (mkF m 9 #[.val (.ref u0), .val (.ref u1)] [(.ref u1), (.long w_sealNanos_u0), (.ref b1), (.ref b1)])) rfl rfl (hb hby d4_9)
  refine Goes.step (S' := T26.setTop (mkF m 12 #[.val (.ref u0), .val (.ref u1)] [(.long w_sealNanos_u1), (.long w_sealNanos_u0), (.ref b1), (.ref b1)])) st26 ?_
  refine Goes.step (S' := T26.setTop (mkF m 13 #[.val (.ref u0), .val (.ref u1)] [(.long (w_sealNanos_u0 + w_sealNanos_u1)), (.ref b1), (.ref b1)])) (fun _ k => XS.ladd X26.here hx rfl (hb hby d4_12) rfl k) ?_
  refine Goes.step (S' := T26.setTop (mkF m 14 #[.val (.ref u0), .val (.ref u1)] [(.ref u0), (.long (w_sealNanos_u0 + w_sealNanos_u1)), (.ref b1), (.ref b1)])) (fun _ k => XS.aloadN X26.here hx rfl (hb hby d4_13) rfl rfl k) ?_
  obtain ⟨T27, X27, e27, st27⟩ := getF X26 hx hZ hown (host := "") (Or.inl (hw _ (List.mem_of_getElem? (i := 18) rfl))) Via.refl e26 F9 (g := (mkF m 14 #[.val (.ref u0), .val (.ref u1)] [(.ref u0), (.long (w_sealNanos_u0 + w_sealNanos_u1)), (.ref b1), (.ref b1)])) rfl rfl (hb hby d4_14)
  refine Goes.step (S' := T27.setTop (mkF m 17 #[.val (.ref u0), .val (.ref u1)] [(.long w_openNanos_u0), (.long (w_sealNanos_u0 + w_sealNanos_u1)), (.ref b1), (.ref b1)])) st27 ?_
  refine Goes.step (S' := T27.setTop (mkF m 18 #[.val (.ref u0), .val (.ref u1)] [(.ref u1), (.long w_openNanos_u0), (.long (w_sealNanos_u0 + w_sealNanos_u1)), (.ref b1), (.ref b1)])) (fun _ k => XS.aloadN X27.here hx rfl (hb hby d4_17) rfl rfl k) ?_
  obtain ⟨T28, X28, e28, st28⟩ := getF X27 hx hZ hown (host := "") (Or.inl (hw _ (List.mem_of_getElem? (i := 18) rfl))) Via.refl e27 F15 (g := (mkF m 18 #[.val (.ref u0), .val (.ref u1)] [(.ref u1), (.long w_openNanos_u0), (.long (w_sealNanos_u0 + w_sealNanos_u1)), (.ref b1), (.ref b1)])) rfl rfl (hb hby d4_18)
  refine Goes.step (S' := T28.setTop (mkF m 21 #[.val (.ref u0), .val (.ref u1)] [(.long w_openNanos_u1), (.long w_openNanos_u0), (.long (w_sealNanos_u0 + w_sealNanos_u1)), (.ref b1), (.ref b1)])) st28 ?_
  refine Goes.step (S' := T28.setTop (mkF m 22 #[.val (.ref u0), .val (.ref u1)] [(.long (w_openNanos_u0 + w_openNanos_u1)), (.long (w_sealNanos_u0 + w_sealNanos_u1)), (.ref b1), (.ref b1)])) (fun _ k => XS.ladd X28.here hx rfl (hb hby d4_21) rfl k) ?_
  refine Goes.step (S' := T28.setTop (mkF m 23 #[.val (.ref u0), .val (.ref u1)] [(.ref u0), (.long (w_openNanos_u0 + w_openNanos_u1)), (.long (w_sealNanos_u0 + w_sealNanos_u1)), (.ref b1), (.ref b1)])) (fun _ k => XS.aloadN X28.here hx rfl (hb hby d4_22) rfl rfl k) ?_
  obtain ⟨T29, X29, e29, st29⟩ := getF X28 hx hZ hown (host := "") (Or.inl (hw _ (List.mem_of_getElem? (i := 20) rfl))) Via.refl e28 F10 (g := (mkF m 23 #[.val (.ref u0), .val (.ref u1)] [(.ref u0), (.long (w_openNanos_u0 + w_openNanos_u1)), (.long (w_sealNanos_u0 + w_sealNanos_u1)), (.ref b1), (.ref b1)])) rfl rfl (hb hby d4_23)
  refine Goes.step (S' := T29.setTop (mkF m 26 #[.val (.ref u0), .val (.ref u1)] [(.long w_sealRootKeyCalls_u0), (.long (w_openNanos_u0 + w_openNanos_u1)), (.long (w_sealNanos_u0 + w_sealNanos_u1)), (.ref b1), (.ref b1)])) st29 ?_
  refine Goes.step (S' := T29.setTop (mkF m 27 #[.val (.ref u0), .val (.ref u1)] [(.ref u1), (.long w_sealRootKeyCalls_u0), (.long (w_openNanos_u0 + w_openNanos_u1)), (.long (w_sealNanos_u0 + w_sealNanos_u1)), (.ref b1), (.ref b1)])) (fun _ k => XS.aloadN X29.here hx rfl (hb hby d4_26) rfl rfl k) ?_
  obtain ⟨T30, X30, e30, st30⟩ := getF X29 hx hZ hown (host := "") (Or.inl (hw _ (List.mem_of_getElem? (i := 20) rfl))) Via.refl e29 F16 (g := (mkF m 27 #[.val (.ref u0), .val (.ref u1)] [(.ref u1), (.long w_sealRootKeyCalls_u0), (.long (w_openNanos_u0 + w_openNanos_u1)), (.long (w_sealNanos_u0 + w_sealNanos_u1)), (.ref b1), (.ref b1)])) rfl rfl (hb hby d4_27)
  refine Goes.step (S' := T30.setTop (mkF m 30 #[.val (.ref u0), .val (.ref u1)] [(.long w_sealRootKeyCalls_u1), (.long w_sealRootKeyCalls_u0), (.long (w_openNanos_u0 + w_openNanos_u1)), (.long (w_sealNanos_u0 + w_sealNanos_u1)), (.ref b1), (.ref b1)])) st30 ?_
  refine Goes.step (S' := T30.setTop (mkF m 31 #[.val (.ref u0), .val (.ref u1)] [(.long (w_sealRootKeyCalls_u0 + w_sealRootKeyCalls_u1)), (.long (w_openNanos_u0 + w_openNanos_u1)), (.long (w_sealNanos_u0 + w_sealNanos_u1)), (.ref b1), (.ref b1)])) (fun _ k => XS.ladd X30.here hx rfl (hb hby d4_30) rfl k) ?_
  refine Goes.step (S' := T30.setTop (mkF m 32 #[.val (.ref u0), .val (.ref u1)] [(.ref u0), (.long (w_sealRootKeyCalls_u0 + w_sealRootKeyCalls_u1)), (.long (w_openNanos_u0 + w_openNanos_u1)), (.long (w_sealNanos_u0 + w_sealNanos_u1)), (.ref b1), (.ref b1)])) (fun _ k => XS.aloadN X30.here hx rfl (hb hby d4_31) rfl rfl k) ?_
  obtain ⟨T31, X31, e31, st31⟩ := getF X30 hx hZ hown (host := "") (Or.inl (hw _ (List.mem_of_getElem? (i := 22) rfl))) Via.refl e30 F11 (g := (mkF m 32 #[.val (.ref u0), .val (.ref u1)] [(.ref u0), (.long (w_sealRootKeyCalls_u0 + w_sealRootKeyCalls_u1)), (.long (w_openNanos_u0 + w_openNanos_u1)), (.long (w_sealNanos_u0 + w_sealNanos_u1)), (.ref b1), (.ref b1)])) rfl rfl (hb hby d4_32)
  refine Goes.step (S' := T31.setTop (mkF m 35 #[.val (.ref u0), .val (.ref u1)] [(.long w_openRootKeyCalls_u0), (.long (w_sealRootKeyCalls_u0 + w_sealRootKeyCalls_u1)), (.long (w_openNanos_u0 + w_openNanos_u1)), (.long (w_sealNanos_u0 + w_sealNanos_u1)), (.ref b1), (.ref b1)])) st31 ?_
  refine Goes.step (S' := T31.setTop (mkF m 36 #[.val (.ref u0), .val (.ref u1)] [(.ref u1), (.long w_openRootKeyCalls_u0), (.long (w_sealRootKeyCalls_u0 + w_sealRootKeyCalls_u1)), (.long (w_openNanos_u0 + w_openNanos_u1)), (.long (w_sealNanos_u0 + w_sealNanos_u1)), (.ref b1), (.ref b1)])) (fun _ k => XS.aloadN X31.here hx rfl (hb hby d4_35) rfl rfl k) ?_
  obtain ⟨T32, X32, e32, st32⟩ := getF X31 hx hZ hown (host := "") (Or.inl (hw _ (List.mem_of_getElem? (i := 22) rfl))) Via.refl e31 F17 (g := (mkF m 36 #[.val (.ref u0), .val (.ref u1)] [(.ref u1), (.long w_openRootKeyCalls_u0), (.long (w_sealRootKeyCalls_u0 + w_sealRootKeyCalls_u1)), (.long (w_openNanos_u0 + w_openNanos_u1)), (.long (w_sealNanos_u0 + w_sealNanos_u1)), (.ref b1), (.ref b1)])) rfl rfl (hb hby d4_36)
  refine Goes.step (S' := T32.setTop (mkF m 39 #[.val (.ref u0), .val (.ref u1)] [(.long w_openRootKeyCalls_u1), (.long w_openRootKeyCalls_u0), (.long (w_sealRootKeyCalls_u0 + w_sealRootKeyCalls_u1)), (.long (w_openNanos_u0 + w_openNanos_u1)), (.long (w_sealNanos_u0 + w_sealNanos_u1)), (.ref b1), (.ref b1)])) st32 ?_
  refine Goes.step (S' := T32.setTop (mkF m 40 #[.val (.ref u0), .val (.ref u1)] [(.long (w_openRootKeyCalls_u0 + w_openRootKeyCalls_u1)), (.long (w_sealRootKeyCalls_u0 + w_sealRootKeyCalls_u1)), (.long (w_openNanos_u0 + w_openNanos_u1)), (.long (w_sealNanos_u0 + w_sealNanos_u1)), (.ref b1), (.ref b1)])) (fun _ k => XS.ladd X32.here hx rfl (hb hby d4_39) rfl k) ?_
  refine Goes.step (S' := T32.setTop (mkF m 41 #[.val (.ref u0), .val (.ref u1)] [(.ref u0), (.long (w_openRootKeyCalls_u0 + w_openRootKeyCalls_u1)), (.long (w_sealRootKeyCalls_u0 + w_sealRootKeyCalls_u1)), (.long (w_openNanos_u0 + w_openNanos_u1)), (.long (w_sealNanos_u0 + w_sealNanos_u1)), (.ref b1), (.ref b1)])) (fun _ k => XS.aloadN X32.here hx rfl (hb hby d4_40) rfl rfl k) ?_
  obtain ⟨T33, X33, e33, st33⟩ := getF X32 hx hZ hown (host := "") (Or.inl (hw _ (List.mem_of_getElem? (i := 24) rfl))) Via.refl e32 F12 (g := (mkF m 41 #[.val (.ref u0), .val (.ref u1)] [(.ref u0), (.long (w_openRootKeyCalls_u0 + w_openRootKeyCalls_u1)), (.long (w_sealRootKeyCalls_u0 + w_sealRootKeyCalls_u1)), (.long (w_openNanos_u0 + w_openNanos_u1)), (.long (w_sealNanos_u0 + w_sealNanos_u1)), (.ref b1), (.ref b1)])) rfl rfl (hb hby d4_41)
  refine Goes.step (S' := T33.setTop (mkF m 44 #[.val (.ref u0), .val (.ref u1)] [(.long w_mismatches_u0), (.long (w_openRootKeyCalls_u0 + w_openRootKeyCalls_u1)), (.long (w_sealRootKeyCalls_u0 + w_sealRootKeyCalls_u1)), (.long (w_openNanos_u0 + w_openNanos_u1)), (.long (w_sealNanos_u0 + w_sealNanos_u1)), (.ref b1), (.ref b1)])) st33 ?_
  refine Goes.step (S' := T33.setTop (mkF m 45 #[.val (.ref u0), .val (.ref u1)] [(.ref u1), (.long w_mismatches_u0), (.long (w_openRootKeyCalls_u0 + w_openRootKeyCalls_u1)), (.long (w_sealRootKeyCalls_u0 + w_sealRootKeyCalls_u1)), (.long (w_openNanos_u0 + w_openNanos_u1)), (.long (w_sealNanos_u0 + w_sealNanos_u1)), (.ref b1), (.ref b1)])) (fun _ k => XS.aloadN X33.here hx rfl (hb hby d4_44) rfl rfl k) ?_
  obtain ⟨T34, X34, e34, st34⟩ := getF X33 hx hZ hown (host := "") (Or.inl (hw _ (List.mem_of_getElem? (i := 24) rfl))) Via.refl e33 F18 (g := (mkF m 45 #[.val (.ref u0), .val (.ref u1)] [(.ref u1), (.long w_mismatches_u0), (.long (w_openRootKeyCalls_u0 + w_openRootKeyCalls_u1)), (.long (w_sealRootKeyCalls_u0 + w_sealRootKeyCalls_u1)), (.long (w_openNanos_u0 + w_openNanos_u1)), (.long (w_sealNanos_u0 + w_sealNanos_u1)), (.ref b1), (.ref b1)])) rfl rfl (hb hby d4_45)
  refine Goes.step (S' := T34.setTop (mkF m 48 #[.val (.ref u0), .val (.ref u1)] [(.long w_mismatches_u1), (.long w_mismatches_u0), (.long (w_openRootKeyCalls_u0 + w_openRootKeyCalls_u1)), (.long (w_sealRootKeyCalls_u0 + w_sealRootKeyCalls_u1)), (.long (w_openNanos_u0 + w_openNanos_u1)), (.long (w_sealNanos_u0 + w_sealNanos_u1)), (.ref b1), (.ref b1)])) st34 ?_
  refine Goes.step (S' := T34.setTop (mkF m 49 #[.val (.ref u0), .val (.ref u1)] [(.long (w_mismatches_u0 + w_mismatches_u1)), (.long (w_openRootKeyCalls_u0 + w_openRootKeyCalls_u1)), (.long (w_sealRootKeyCalls_u0 + w_sealRootKeyCalls_u1)), (.long (w_openNanos_u0 + w_openNanos_u1)), (.long (w_sealNanos_u0 + w_sealNanos_u1)), (.ref b1), (.ref b1)])) (fun _ k => XS.ladd X34.here hx rfl (hb hby d4_48) rfl k) ?_
  obtain ⟨_, _, ⟨T35, L35, k35, n35⟩, -, X35, ⟨Lc35, hQ35, l35, y35, z35⟩, st35⟩ := X34.specialBack hx (y := (⟨"com/example/isopod/isopod/cli/Bench$Tally", "<init>", "(JJJJJ)V"⟩ : MethodName)) rfl hown (mvT hZ (hw _ (List.mem_of_getElem? (i := 32) rfl))) (mvT hZ (hw _ (List.mem_of_getElem? (i := 6) rfl))) (mvT hZ (hw _ (List.mem_of_getElem? (i := 7) rfl))) (by decide) (backOf (W := 1) (rm1 l Z a0 hw [] b1 (w_sealNanos_u0 + w_sealNanos_u1) (w_openNanos_u0 + w_openNanos_u1) (w_sealRootKeyCalls_u0 + w_sealRootKeyCalls_u1) (w_openRootKeyCalls_u0 + w_openRootKeyCalls_u1) (w_mismatches_u0 + w_mismatches_u1) h1 n0 Z5 A1 F20 F21 F22 F23 F24 g4) hZ (hw _ (List.mem_of_getElem? (i := 7) rfl)) (hw _ (List.mem_of_getElem? (i := 4) rfl)) (by decide) (by decide)) (g := (mkF m 49 #[.val (.ref u0), .val (.ref u1)] [(.long (w_mismatches_u0 + w_mismatches_u1)), (.long (w_openRootKeyCalls_u0 + w_openRootKeyCalls_u1)), (.long (w_sealRootKeyCalls_u0 + w_sealRootKeyCalls_u1)), (.long (w_openNanos_u0 + w_openNanos_u1)), (.long (w_sealNanos_u0 + w_sealNanos_u1)), (.ref b1), (.ref b1)])) rfl (by rw [hml]; rfl) (Steps.refl _) (a := b1) (argsL := [(.long (w_sealNanos_u0 + w_sealNanos_u1)), (.long (w_openNanos_u0 + w_openNanos_u1)), (.long (w_sealRootKeyCalls_u0 + w_sealRootKeyCalls_u1)), (.long (w_openRootKeyCalls_u0 + w_openRootKeyCalls_u1)), (.long (w_mismatches_u0 + w_mismatches_u1))]) (rest := [(.ref b1)]) (lenOf pd1 rfl) rfl (by show 2 * 0 + _ ≤ _; exact Nat.le_of_eq rfl) (hb hby d4_49) (fun _ _ => ⟨rfl, e34, (by decide : 1 + 0 ≤ _), (by decide : 5 + 0 ≤ _)⟩)
  dsimp only [Pt.U, Pt.locs, Pt.cells, Pt.slots] at X35 l35 y35 z35 st35 hQ35
  subst l35 y35 z35
  obtain ⟨rfl, N35q, K35q, E_36, F37, F38, F39, F40, F41⟩ := hQ35
  have N42 := Fr.app N0 N35q
  have E_43 := E_7.keep K35q
  have F44 := F8.keep K35q (ninS ne2 nin0)
  have F45 := F9.keep K35q (ninS ne2 nin0)
  have F46 := F10.keep K35q (ninS ne2 nin0)
  have F47 := F11.keep K35q (ninS ne2 nin0)
  have F48 := F12.keep K35q (ninS ne2 nin0)
  have E_49 := E_13.keep K35q
  have F50 := F14.keep K35q (ninS ne3 nin0)
  have F51 := F15.keep K35q (ninS ne3 nin0)
  have F52 := F16.keep K35q (ninS ne3 nin0)
  have F53 := F17.keep K35q (ninS ne3 nin0)
  have F54 := F18.keep K35q (ninS ne3 nin0)
  have E_55 := A1.keep K35q
  have K56 : Keep h0 T35.heap [] := K19.trans K35q (allS (Or.inr O6) all0)
  have Z57 : n0 ≤ T35.heap.size := Nat.le_trans Z5 K35q.1
  refine Goes.step (S' := T35.setTop (mkF m 52 #[.val (.ref u0), .val (.ref u1)] [(.ref b1)])) (fun _ k => st35.trans k) ?_
  refine Goes.retA X35 hx Bd.notSynchronized Bd.returns rfl (hb hby d4_52) (by decide) (by decide) ?_
  refine ⟨b1, rfl, N42, ?_, ?_, ?_, ?_, ?_, ?_, ?_, ?_⟩
  · exact K56
  · exact O6
  · exact E_36
  · exact F37
  · exact F38
  · exact F39
  · exact F40
  · exact F41
theorem pd2 : parseMethodDescriptor "(Lcom/example/isopod/isopod/cli/Bench$Tally;)Lcom/example/isopod/isopod/cli/Bench$Tally;" = some ⟨[(.object "com/example/isopod/isopod/cli/Bench$Tally")], some (.object "com/example/isopod/isopod/cli/Bench$Tally")⟩ := by decide +kernel
theorem pd3 : parseMethodDescriptor "()J" = some ⟨[], some .long⟩ := by decide +kernel
theorem pn2 : plainName "com/example/isopod/isopod/cli/TallyPlusPinLaw" = true := by first | (simp [plainName, overriddenIn]; done) | decide +kernel
theorem ef0 (m : MethodId) (q0 : Int64) (q1 : Int64) (q2 : Int64) (q3 : Int64) (q4 : Int64) (q5 : Int64) : entryFrame m #[(.long q0), (.long q1), (.long q2), (.long q3), (.long q4), (.long q5)] maxLocals = mkF m 0 #[.val (.long q0), .second, .val (.long q1), .second, .val (.long q2), .second, .val (.long q3), .second, .val (.long q4), .second, .val (.long q5), .second, .unset, .unset, .unset, .unset, .unset, .unset, .unset, .unset, .unset, .unset, .unset, .unset, .unset] [] := by first | (simp [entryFrame, mkF, argsToLocals, Value.category, maxLocals]; done) | rfl
theorem own_hc0_93 (q0 : Int64) (q1 : Int64) (q2 : Int64) (q3 : Int64) (q4 : Int64) (q5 : Int64) (v14_8 : Int64) (ev14_8 : v14_8 = (q0 ^^^ q5)) (v16_14 : Int64) (ev16_14 : v16_14 = (q1 - q5)) (v18_25 : Int64) (ev18_25 : v18_25 = ((q2 * (3 : Int64)) + q5)) (v20_36 : Int64) (ev20_36 : v20_36 = (q3 ^^^ (q5 ^^^ (-1 : Int64)))) : ((f5 (q0 + q5) (q1 + v14_8) (q2 + v16_14) (q3 + v18_25) (q4 + v20_36)) - q5) = q0 := by
  exact own_back _ _
theorem own_hc0_106 (q0 : Int64) (q1 : Int64) (q2 : Int64) (q3 : Int64) (q4 : Int64) (q5 : Int64) (v14_8 : Int64) (ev14_8 : v14_8 = (q0 ^^^ q5)) (v16_14 : Int64) (ev16_14 : v16_14 = (q1 - q5)) (v18_25 : Int64) (ev18_25 : v18_25 = ((q2 * (3 : Int64)) + q5)) (v20_36 : Int64) (ev20_36 : v20_36 = (q3 ^^^ (q5 ^^^ (-1 : Int64)))) : ((f6 (q0 + q5) (q1 + v14_8) (q2 + v16_14) (q3 + v18_25) (q4 + v20_36)) - v14_8) = q1 := by
  exact own_back _ _
theorem own_hc0_120 (q0 : Int64) (q1 : Int64) (q2 : Int64) (q3 : Int64) (q4 : Int64) (q5 : Int64) (v14_8 : Int64) (ev14_8 : v14_8 = (q0 ^^^ q5)) (v16_14 : Int64) (ev16_14 : v16_14 = (q1 - q5)) (v18_25 : Int64) (ev18_25 : v18_25 = ((q2 * (3 : Int64)) + q5)) (v20_36 : Int64) (ev20_36 : v20_36 = (q3 ^^^ (q5 ^^^ (-1 : Int64)))) : ((f7 (q0 + q5) (q1 + v14_8) (q2 + v16_14) (q3 + v18_25) (q4 + v20_36)) - v16_14) = q2 := by
  exact own_back _ _
theorem own_hc0_134 (q0 : Int64) (q1 : Int64) (q2 : Int64) (q3 : Int64) (q4 : Int64) (q5 : Int64) (v14_8 : Int64) (ev14_8 : v14_8 = (q0 ^^^ q5)) (v16_14 : Int64) (ev16_14 : v16_14 = (q1 - q5)) (v18_25 : Int64) (ev18_25 : v18_25 = ((q2 * (3 : Int64)) + q5)) (v20_36 : Int64) (ev20_36 : v20_36 = (q3 ^^^ (q5 ^^^ (-1 : Int64)))) : ((f8 (q0 + q5) (q1 + v14_8) (q2 + v16_14) (q3 + v18_25) (q4 + v20_36)) - v18_25) = q3 := by
  exact own_back _ _
theorem own_hc0_148 (q0 : Int64) (q1 : Int64) (q2 : Int64) (q3 : Int64) (q4 : Int64) (q5 : Int64) (v14_8 : Int64) (ev14_8 : v14_8 = (q0 ^^^ q5)) (v16_14 : Int64) (ev16_14 : v16_14 = (q1 - q5)) (v18_25 : Int64) (ev18_25 : v18_25 = ((q2 * (3 : Int64)) + q5)) (v20_36 : Int64) (ev20_36 : v20_36 = (q3 ^^^ (q5 ^^^ (-1 : Int64)))) : ((f9 (q0 + q5) (q1 + v14_8) (q2 + v16_14) (q3 + v18_25) (q4 + v20_36)) - v20_36) = q4 := by
  exact own_back _ _
def Q0 (Z : State) (q0 : Int64) (q1 : Int64) (q2 : Int64) (q3 : Int64) (q4 : Int64) (q5 : Int64) (h0 : Heap) (n0 : Nat) (v : Option Value) (h : Heap) (L : List Loc) : Prop := v = some (.int 1) ∧ Fr n0 L
set_option maxRecDepth 65536 in
set_option maxHeartbeats 40000000 in
theorem rm0 (l : Launch) (Z : State) (a0 : Array Value) (hw : ∀ d ∈ tables_1, d.before a0 Z = true) (ws : List Jvm.Cond) (q0 : Int64) (q1 : Int64) (q2 : Int64) (q3 : Int64) (q4 : Int64) (q5 : Int64) (h0 : Heap) (n0 : Nat) (Z0 : n0 ≤ h0.size) :
    MetFree l x (head1 (Jvm.Cond.code x code maxLocals ret :: ws) room_1) (fun a U => a = #[(.long q0), (.long q1), (.long q2), (.long q3), (.long q4), (.long q5)] ∧ Z.Warmed39 U.vm ∧ U.heap = h0) (fun _ _ _ _ _ => True) (fun _ U o U' => ∃ v L, o = .returned v ∧ Q0 Z q0 q1 q2 q3 q4 q5 h0 n0 v U'.heap L ∧ FrameEnd U o U' L room_1.cells room_1.slots) := by
  refine MetFree.of_bodySF (plainFor_of_name pn2) hisR ?_
  intro p e s m args below meth c s₁ Bd hml0 hP hK
  obtain ⟨rfl, hZ, hh⟩ := hP
  have hx := Bd.exec
  have hby := Bd.bytes
  have hml : c.maxLocals = 25 := hml0
  have hown : s.vm.findClass "com/example/isopod/isopod/cli/TallyPlusPinLaw" = some m.cls := findClass_of_methodNamed Bd.named
  have hnm := (name_of_methodNamed Bd.named Bd.method).1
  have X0 : Stand p l e room_1 s m #[(.long q0), (.long q1), (.long q2), (.long q3), (.long q4), (.long q5)] below meth c s₁ [] 0 0 := Stand.of_body Bd
  have e0 : s₁.heap = h0 := by rw [← hh, Bd.state]; rfl
  have N0 := Fr.nil n0
  refine Goes.out (Q := fun o U' => ∃ v L, o = .returned v ∧ Q0 Z q0 q1 q2 q3 q4 q5 h0 n0 v U'.heap L ∧ FrameEnd s o U' L room_1.cells room_1.slots) ?_
  refine Goes.step (S' := s₁.setTop (mkF m 0 #[.val (.long q0), .second, .val (.long q1), .second, .val (.long q2), .second, .val (.long q3), .second, .val (.long q4), .second, .val (.long q5), .second, .unset, .unset, .unset, .unset, .unset, .unset, .unset, .unset, .unset, .unset, .unset, .unset, .unset] [])) (fun _ k => castTop (ef0 m q0 q1 q2 q3 q4 q5) k) ?_
  refine Goes.step (S' := s₁.setTop (mkF m 2 #[.val (.long q0), .second, .val (.long q1), .second, .val (.long q2), .second, .val (.long q3), .second, .val (.long q4), .second, .val (.long q5), .second, .unset, .unset, .unset, .unset, .unset, .unset, .unset, .unset, .unset, .unset, .unset, .unset, .unset] [(.long q5)])) (fun _ k => XS.lload X0.here hx rfl (hb hby at_0) rfl  k) ?_
  refine Goes.step (S' := s₁.setTop (mkF m 4 #[.val (.long q0), .second, .val (.long q1), .second, .val (.long q2), .second, .val (.long q3), .second, .val (.long q4), .second, .val (.long q5), .second, .val (.long q5), .second, .unset, .unset, .unset, .unset, .unset, .unset, .unset, .unset, .unset, .unset, .unset] [])) (fun _ k => XS.lstore X0.here hx rfl (hb hby at_2) rfl (l' := #[.val (.long q0), .second, .val (.long q1), .second, .val (.long q2), .second, .val (.long q3), .second, .val (.long q4), .second, .val (.long q5), .second, .val (.long q5), .second, .unset, .unset, .unset, .unset, .unset, .unset, .unset, .unset, .unset, .unset, .unset]) rfl k) ?_
  refine Goes.step (S' := s₁.setTop (mkF m 5 #[.val (.long q0), .second, .val (.long q1), .second, .val (.long q2), .second, .val (.long q3), .second, .val (.long q4), .second, .val (.long q5), .second, .val (.long q5), .second, .unset, .unset, .unset, .unset, .unset, .unset, .unset, .unset, .unset, .unset, .unset] [(.long q0)])) (fun _ k => XS.lloadN X0.here hx rfl (hb hby at_4) rfl  k) ?_
  refine Goes.step (S' := s₁.setTop (mkF m 7 #[.val (.long q0), .second, .val (.long q1), .second, .val (.long q2), .second, .val (.long q3), .second, .val (.long q4), .second, .val (.long q5), .second, .val (.long q5), .second, .unset, .unset, .unset, .unset, .unset, .unset, .unset, .unset, .unset, .unset, .unset] [(.long q5), (.long q0)])) (fun _ k => XS.lload X0.here hx rfl (hb hby at_5) rfl  k) ?_
  refine Goes.step (S' := s₁.setTop (mkF m 8 #[.val (.long q0), .second, .val (.long q1), .second, .val (.long q2), .second, .val (.long q3), .second, .val (.long q4), .second, .val (.long q5), .second, .val (.long q5), .second, .unset, .unset, .unset, .unset, .unset, .unset, .unset, .unset, .unset, .unset, .unset] [(.long (q0 ^^^ q5))])) (fun _ k => XS.lxor X0.here hx rfl (hb hby at_7) rfl k) ?_
  refine Goes.step (S' := s₁.setTop (mkF m 10 #[.val (.long q0), .second, .val (.long q1), .second, .val (.long q2), .second, .val (.long q3), .second, .val (.long q4), .second, .val (.long q5), .second, .val (.long q5), .second, .val (.long (q0 ^^^ q5)), .second, .unset, .unset, .unset, .unset, .unset, .unset, .unset, .unset, .unset] [])) (fun _ k => XS.lstore X0.here hx rfl (hb hby at_8) rfl (l' := #[.val (.long q0), .second, .val (.long q1), .second, .val (.long q2), .second, .val (.long q3), .second, .val (.long q4), .second, .val (.long q5), .second, .val (.long q5), .second, .val (.long (q0 ^^^ q5)), .second, .unset, .unset, .unset, .unset, .unset, .unset, .unset, .unset, .unset]) rfl k) ?_
  obtain ⟨v14_8, ev14_8⟩ : ∃ z : Int64, z = (q0 ^^^ q5) := ⟨_, rfl⟩
  rw [← ev14_8]
  refine Goes.step (S' := s₁.setTop (mkF m 11 #[.val (.long q0), .second, .val (.long q1), .second, .val (.long q2), .second, .val (.long q3), .second, .val (.long q4), .second, .val (.long q5), .second, .val (.long q5), .second, .val (.long v14_8), .second, .unset, .unset, .unset, .unset, .unset, .unset, .unset, .unset, .unset] [(.long q1)])) (fun _ k => XS.lloadN X0.here hx rfl (hb hby at_10) rfl  k) ?_
  refine Goes.step (S' := s₁.setTop (mkF m 13 #[.val (.long q0), .second, .val (.long q1), .second, .val (.long q2), .second, .val (.long q3), .second, .val (.long q4), .second, .val (.long q5), .second, .val (.long q5), .second, .val (.long v14_8), .second, .unset, .unset, .unset, .unset, .unset, .unset, .unset, .unset, .unset] [(.long q5), (.long q1)])) (fun _ k => XS.lload X0.here hx rfl (hb hby at_11) rfl  k) ?_
  refine Goes.step (S' := s₁.setTop (mkF m 14 #[.val (.long q0), .second, .val (.long q1), .second, .val (.long q2), .second, .val (.long q3), .second, .val (.long q4), .second, .val (.long q5), .second, .val (.long q5), .second, .val (.long v14_8), .second, .unset, .unset, .unset, .unset, .unset, .unset, .unset, .unset, .unset] [(.long (q1 - q5))])) (fun _ k => XS.lsub X0.here hx rfl (hb hby at_13) rfl k) ?_
  refine Goes.step (S' := s₁.setTop (mkF m 16 #[.val (.long q0), .second, .val (.long q1), .second, .val (.long q2), .second, .val (.long q3), .second, .val (.long q4), .second, .val (.long q5), .second, .val (.long q5), .second, .val (.long v14_8), .second, .val (.long (q1 - q5)), .second, .unset, .unset, .unset, .unset, .unset, .unset, .unset] [])) (fun _ k => XS.lstore X0.here hx rfl (hb hby at_14) rfl (l' := #[.val (.long q0), .second, .val (.long q1), .second, .val (.long q2), .second, .val (.long q3), .second, .val (.long q4), .second, .val (.long q5), .second, .val (.long q5), .second, .val (.long v14_8), .second, .val (.long (q1 - q5)), .second, .unset, .unset, .unset, .unset, .unset, .unset, .unset]) rfl k) ?_
  obtain ⟨v16_14, ev16_14⟩ : ∃ z : Int64, z = (q1 - q5) := ⟨_, rfl⟩
  rw [← ev16_14]
  refine Goes.step (S' := s₁.setTop (mkF m 18 #[.val (.long q0), .second, .val (.long q1), .second, .val (.long q2), .second, .val (.long q3), .second, .val (.long q4), .second, .val (.long q5), .second, .val (.long q5), .second, .val (.long v14_8), .second, .val (.long v16_14), .second, .unset, .unset, .unset, .unset, .unset, .unset, .unset] [(.long q2)])) (fun _ k => XS.lload X0.here hx rfl (hb hby at_16) rfl  k) ?_
  refine Goes.step (S' := s₁.setTop (mkF m 21 #[.val (.long q0), .second, .val (.long q1), .second, .val (.long q2), .second, .val (.long q3), .second, .val (.long q4), .second, .val (.long q5), .second, .val (.long q5), .second, .val (.long v14_8), .second, .val (.long v16_14), .second, .unset, .unset, .unset, .unset, .unset, .unset, .unset] [(.long (3 : Int64)), (.long q2)])) (fun _ k => X0.ldc2Long hx hown (mvT hZ (hw _ (List.mem_of_getElem? (i := 0) rfl))) (g := (mkF m 18 #[.val (.long q0), .second, .val (.long q1), .second, .val (.long q2), .second, .val (.long q3), .second, .val (.long q4), .second, .val (.long q5), .second, .val (.long q5), .second, .val (.long v14_8), .second, .val (.long v16_14), .second, .unset, .unset, .unset, .unset, .unset, .unset, .unset] [(.long q2)])) rfl (hb hby at_18) _ k) ?_
  refine Goes.step (S' := s₁.setTop (mkF m 22 #[.val (.long q0), .second, .val (.long q1), .second, .val (.long q2), .second, .val (.long q3), .second, .val (.long q4), .second, .val (.long q5), .second, .val (.long q5), .second, .val (.long v14_8), .second, .val (.long v16_14), .second, .unset, .unset, .unset, .unset, .unset, .unset, .unset] [(.long (q2 * (3 : Int64)))])) (fun _ k => XS.lmul X0.here hx rfl (hb hby at_21) rfl k) ?_
  refine Goes.step (S' := s₁.setTop (mkF m 24 #[.val (.long q0), .second, .val (.long q1), .second, .val (.long q2), .second, .val (.long q3), .second, .val (.long q4), .second, .val (.long q5), .second, .val (.long q5), .second, .val (.long v14_8), .second, .val (.long v16_14), .second, .unset, .unset, .unset, .unset, .unset, .unset, .unset] [(.long q5), (.long (q2 * (3 : Int64)))])) (fun _ k => XS.lload X0.here hx rfl (hb hby at_22) rfl  k) ?_
  refine Goes.step (S' := s₁.setTop (mkF m 25 #[.val (.long q0), .second, .val (.long q1), .second, .val (.long q2), .second, .val (.long q3), .second, .val (.long q4), .second, .val (.long q5), .second, .val (.long q5), .second, .val (.long v14_8), .second, .val (.long v16_14), .second, .unset, .unset, .unset, .unset, .unset, .unset, .unset] [(.long ((q2 * (3 : Int64)) + q5))])) (fun _ k => XS.ladd X0.here hx rfl (hb hby at_24) rfl k) ?_
  refine Goes.step (S' := s₁.setTop (mkF m 27 #[.val (.long q0), .second, .val (.long q1), .second, .val (.long q2), .second, .val (.long q3), .second, .val (.long q4), .second, .val (.long q5), .second, .val (.long q5), .second, .val (.long v14_8), .second, .val (.long v16_14), .second, .val (.long ((q2 * (3 : Int64)) + q5)), .second, .unset, .unset, .unset, .unset, .unset] [])) (fun _ k => XS.lstore X0.here hx rfl (hb hby at_25) rfl (l' := #[.val (.long q0), .second, .val (.long q1), .second, .val (.long q2), .second, .val (.long q3), .second, .val (.long q4), .second, .val (.long q5), .second, .val (.long q5), .second, .val (.long v14_8), .second, .val (.long v16_14), .second, .val (.long ((q2 * (3 : Int64)) + q5)), .second, .unset, .unset, .unset, .unset, .unset]) rfl k) ?_
  obtain ⟨v18_25, ev18_25⟩ : ∃ z : Int64, z = ((q2 * (3 : Int64)) + q5) := ⟨_, rfl⟩
  rw [← ev18_25]
  refine Goes.step (S' := s₁.setTop (mkF m 29 #[.val (.long q0), .second, .val (.long q1), .second, .val (.long q2), .second, .val (.long q3), .second, .val (.long q4), .second, .val (.long q5), .second, .val (.long q5), .second, .val (.long v14_8), .second, .val (.long v16_14), .second, .val (.long v18_25), .second, .unset, .unset, .unset, .unset, .unset] [(.long q3)])) (fun _ k => XS.lload X0.here hx rfl (hb hby at_27) rfl  k) ?_
  refine Goes.step (S' := s₁.setTop (mkF m 31 #[.val (.long q0), .second, .val (.long q1), .second, .val (.long q2), .second, .val (.long q3), .second, .val (.long q4), .second, .val (.long q5), .second, .val (.long q5), .second, .val (.long v14_8), .second, .val (.long v16_14), .second, .val (.long v18_25), .second, .unset, .unset, .unset, .unset, .unset] [(.long q5), (.long q3)])) (fun _ k => XS.lload X0.here hx rfl (hb hby at_29) rfl  k) ?_
  refine Goes.step (S' := s₁.setTop (mkF m 34 #[.val (.long q0), .second, .val (.long q1), .second, .val (.long q2), .second, .val (.long q3), .second, .val (.long q4), .second, .val (.long q5), .second, .val (.long q5), .second, .val (.long v14_8), .second, .val (.long v16_14), .second, .val (.long v18_25), .second, .unset, .unset, .unset, .unset, .unset] [(.long (-1 : Int64)), (.long q5), (.long q3)])) (fun _ k => X0.ldc2Long hx hown (mvT hZ (hw _ (List.mem_of_getElem? (i := 1) rfl))) (g := (mkF m 31 #[.val (.long q0), .second, .val (.long q1), .second, .val (.long q2), .second, .val (.long q3), .second, .val (.long q4), .second, .val (.long q5), .second, .val (.long q5), .second, .val (.long v14_8), .second, .val (.long v16_14), .second, .val (.long v18_25), .second, .unset, .unset, .unset, .unset, .unset] [(.long q5), (.long q3)])) rfl (hb hby at_31) _ k) ?_
  refine Goes.step (S' := s₁.setTop (mkF m 35 #[.val (.long q0), .second, .val (.long q1), .second, .val (.long q2), .second, .val (.long q3), .second, .val (.long q4), .second, .val (.long q5), .second, .val (.long q5), .second, .val (.long v14_8), .second, .val (.long v16_14), .second, .val (.long v18_25), .second, .unset, .unset, .unset, .unset, .unset] [(.long (q5 ^^^ (-1 : Int64))), (.long q3)])) (fun _ k => XS.lxor X0.here hx rfl (hb hby at_34) rfl k) ?_
  refine Goes.step (S' := s₁.setTop (mkF m 36 #[.val (.long q0), .second, .val (.long q1), .second, .val (.long q2), .second, .val (.long q3), .second, .val (.long q4), .second, .val (.long q5), .second, .val (.long q5), .second, .val (.long v14_8), .second, .val (.long v16_14), .second, .val (.long v18_25), .second, .unset, .unset, .unset, .unset, .unset] [(.long (q3 ^^^ (q5 ^^^ (-1 : Int64))))])) (fun _ k => XS.lxor X0.here hx rfl (hb hby at_35) rfl k) ?_
  refine Goes.step (S' := s₁.setTop (mkF m 38 #[.val (.long q0), .second, .val (.long q1), .second, .val (.long q2), .second, .val (.long q3), .second, .val (.long q4), .second, .val (.long q5), .second, .val (.long q5), .second, .val (.long v14_8), .second, .val (.long v16_14), .second, .val (.long v18_25), .second, .val (.long (q3 ^^^ (q5 ^^^ (-1 : Int64)))), .second, .unset, .unset, .unset] [])) (fun _ k => XS.lstore X0.here hx rfl (hb hby at_36) rfl (l' := #[.val (.long q0), .second, .val (.long q1), .second, .val (.long q2), .second, .val (.long q3), .second, .val (.long q4), .second, .val (.long q5), .second, .val (.long q5), .second, .val (.long v14_8), .second, .val (.long v16_14), .second, .val (.long v18_25), .second, .val (.long (q3 ^^^ (q5 ^^^ (-1 : Int64)))), .second, .unset, .unset, .unset]) rfl k) ?_
  obtain ⟨v20_36, ev20_36⟩ : ∃ z : Int64, z = (q3 ^^^ (q5 ^^^ (-1 : Int64))) := ⟨_, rfl⟩
  rw [← ev20_36]
  obtain ⟨T1, h1, X1, e1, E1, A1, D1, -, st1⟩ := newO X0 hx hZ hown (hw _ (List.mem_of_getElem? (i := 2) rfl)) (hw _ (List.mem_of_getElem? (i := 3) rfl)) (hw _ (List.mem_of_getElem? (i := 4) rfl)) e0 (g := (mkF m 38 #[.val (.long q0), .second, .val (.long q1), .second, .val (.long q2), .second, .val (.long q3), .second, .val (.long q4), .second, .val (.long q5), .second, .val (.long q5), .second, .val (.long v14_8), .second, .val (.long v16_14), .second, .val (.long v18_25), .second, .val (.long v20_36), .second, .unset, .unset, .unset] [])) rfl (hb hby at_38) (by decide) (by decide)
  obtain ⟨b1, g1⟩ : ∃ z, z = h0.size := ⟨_, rfl⟩
  rw [← g1] at A1 D1 st1
  have g2 : n0 ≤ b1 := Nat.le_trans Z0 (Nat.le_of_eq g1.symm)
  have Z3 : n0 ≤ h1.size := Nat.le_trans Z0 E1.1
  have F4 : Fld Z h1 b1 "com/example/isopod/isopod/cli/Bench$Tally" "sealNanos" "J" (.long (0 : Int64)) := D1 (Or.inr (hw _ (List.mem_of_getElem? (i := 17) rfl))) (ty := .long) (by decide)
  have F5 : Fld Z h1 b1 "com/example/isopod/isopod/cli/Bench$Tally" "openNanos" "J" (.long (0 : Int64)) := D1 (Or.inr (hw _ (List.mem_of_getElem? (i := 19) rfl))) (ty := .long) (by decide)
  have F6 : Fld Z h1 b1 "com/example/isopod/isopod/cli/Bench$Tally" "sealRootKeyCalls" "J" (.long (0 : Int64)) := D1 (Or.inr (hw _ (List.mem_of_getElem? (i := 21) rfl))) (ty := .long) (by decide)
  have F7 : Fld Z h1 b1 "com/example/isopod/isopod/cli/Bench$Tally" "openRootKeyCalls" "J" (.long (0 : Int64)) := D1 (Or.inr (hw _ (List.mem_of_getElem? (i := 23) rfl))) (ty := .long) (by decide)
  have F8 : Fld Z h1 b1 "com/example/isopod/isopod/cli/Bench$Tally" "mismatches" "J" (.long (0 : Int64)) := D1 (Or.inr (hw _ (List.mem_of_getElem? (i := 25) rfl))) (ty := .long) (by decide)
  refine Goes.step (S' := T1.setTop (mkF m 41 #[.val (.long q0), .second, .val (.long q1), .second, .val (.long q2), .second, .val (.long q3), .second, .val (.long q4), .second, .val (.long q5), .second, .val (.long q5), .second, .val (.long v14_8), .second, .val (.long v16_14), .second, .val (.long v18_25), .second, .val (.long v20_36), .second, .unset, .unset, .unset] [(.ref b1)])) st1 ?_
  refine Goes.step (S' := T1.setTop (mkF m 42 #[.val (.long q0), .second, .val (.long q1), .second, .val (.long q2), .second, .val (.long q3), .second, .val (.long q4), .second, .val (.long q5), .second, .val (.long q5), .second, .val (.long v14_8), .second, .val (.long v16_14), .second, .val (.long v18_25), .second, .val (.long v20_36), .second, .unset, .unset, .unset] [(.ref b1), (.ref b1)])) (fun _ k => XS.dup X1.here hx rfl (hb hby at_41) rfl rfl k) ?_
  refine Goes.step (S' := T1.setTop (mkF m 43 #[.val (.long q0), .second, .val (.long q1), .second, .val (.long q2), .second, .val (.long q3), .second, .val (.long q4), .second, .val (.long q5), .second, .val (.long q5), .second, .val (.long v14_8), .second, .val (.long v16_14), .second, .val (.long v18_25), .second, .val (.long v20_36), .second, .unset, .unset, .unset] [(.long q0), (.ref b1), (.ref b1)])) (fun _ k => XS.lloadN X1.here hx rfl (hb hby at_42) rfl  k) ?_
  refine Goes.step (S' := T1.setTop (mkF m 44 #[.val (.long q0), .second, .val (.long q1), .second, .val (.long q2), .second, .val (.long q3), .second, .val (.long q4), .second, .val (.long q5), .second, .val (.long q5), .second, .val (.long v14_8), .second, .val (.long v16_14), .second, .val (.long v18_25), .second, .val (.long v20_36), .second, .unset, .unset, .unset] [(.long q1), (.long q0), (.ref b1), (.ref b1)])) (fun _ k => XS.lloadN X1.here hx rfl (hb hby at_43) rfl  k) ?_
  refine Goes.step (S' := T1.setTop (mkF m 46 #[.val (.long q0), .second, .val (.long q1), .second, .val (.long q2), .second, .val (.long q3), .second, .val (.long q4), .second, .val (.long q5), .second, .val (.long q5), .second, .val (.long v14_8), .second, .val (.long v16_14), .second, .val (.long v18_25), .second, .val (.long v20_36), .second, .unset, .unset, .unset] [(.long q2), (.long q1), (.long q0), (.ref b1), (.ref b1)])) (fun _ k => XS.lload X1.here hx rfl (hb hby at_44) rfl  k) ?_
  refine Goes.step (S' := T1.setTop (mkF m 48 #[.val (.long q0), .second, .val (.long q1), .second, .val (.long q2), .second, .val (.long q3), .second, .val (.long q4), .second, .val (.long q5), .second, .val (.long q5), .second, .val (.long v14_8), .second, .val (.long v16_14), .second, .val (.long v18_25), .second, .val (.long v20_36), .second, .unset, .unset, .unset] [(.long q3), (.long q2), (.long q1), (.long q0), (.ref b1), (.ref b1)])) (fun _ k => XS.lload X1.here hx rfl (hb hby at_46) rfl  k) ?_
  refine Goes.step (S' := T1.setTop (mkF m 50 #[.val (.long q0), .second, .val (.long q1), .second, .val (.long q2), .second, .val (.long q3), .second, .val (.long q4), .second, .val (.long q5), .second, .val (.long q5), .second, .val (.long v14_8), .second, .val (.long v16_14), .second, .val (.long v18_25), .second, .val (.long v20_36), .second, .unset, .unset, .unset] [(.long q4), (.long q3), (.long q2), (.long q1), (.long q0), (.ref b1), (.ref b1)])) (fun _ k => XS.lload X1.here hx rfl (hb hby at_48) rfl  k) ?_
  obtain ⟨_, _, ⟨T9, L9, k9, n9⟩, -, X9, ⟨Lc9, hQ9, l9, y9, z9⟩, st9⟩ := X1.specialBack hx (y := (⟨"com/example/isopod/isopod/cli/Bench$Tally", "<init>", "(JJJJJ)V"⟩ : MethodName)) rfl hown (mvT hZ (hw _ (List.mem_of_getElem? (i := 5) rfl))) (mvT hZ (hw _ (List.mem_of_getElem? (i := 6) rfl))) (mvT hZ (hw _ (List.mem_of_getElem? (i := 7) rfl))) (by decide) (backOf (W := 1) (rm1 l Z a0 hw [] b1 q0 q1 q2 q3 q4 h1 n0 Z3 A1 F4 F5 F6 F7 F8 g2) hZ (hw _ (List.mem_of_getElem? (i := 7) rfl)) (hw _ (List.mem_of_getElem? (i := 4) rfl)) (by decide) (by decide)) (g := (mkF m 50 #[.val (.long q0), .second, .val (.long q1), .second, .val (.long q2), .second, .val (.long q3), .second, .val (.long q4), .second, .val (.long q5), .second, .val (.long q5), .second, .val (.long v14_8), .second, .val (.long v16_14), .second, .val (.long v18_25), .second, .val (.long v20_36), .second, .unset, .unset, .unset] [(.long q4), (.long q3), (.long q2), (.long q1), (.long q0), (.ref b1), (.ref b1)])) rfl (by rw [hml]; rfl) (Steps.refl _) (a := b1) (argsL := [(.long q0), (.long q1), (.long q2), (.long q3), (.long q4)]) (rest := [(.ref b1)]) (lenOf pd1 rfl) rfl (by show 2 * 0 + _ ≤ _; exact Nat.le_of_eq rfl) (hb hby at_50) (fun _ _ => ⟨rfl, e1, (by decide : 1 + 0 ≤ _), (by decide : 5 + 0 ≤ _)⟩)
  dsimp only [Pt.U, Pt.locs, Pt.cells, Pt.slots] at X9 l9 y9 z9 st9 hQ9
  subst l9 y9 z9
  obtain ⟨rfl, N9q, K9q, E_10, F11, F12, F13, F14, F15⟩ := hQ9
  have N16 := Fr.app N0 N9q
  have E_17 := A1.keep K9q
  have Z18 : n0 ≤ T9.heap.size := Nat.le_trans Z3 K9q.1
  refine Goes.step (S' := T9.setTop (mkF m 53 #[.val (.long q0), .second, .val (.long q1), .second, .val (.long q2), .second, .val (.long q3), .second, .val (.long q4), .second, .val (.long q5), .second, .val (.long q5), .second, .val (.long v14_8), .second, .val (.long v16_14), .second, .val (.long v18_25), .second, .val (.long v20_36), .second, .unset, .unset, .unset] [(.ref b1)])) (fun _ k => st9.trans k) ?_
  refine Goes.step (S' := T9.setTop (mkF m 55 #[.val (.long q0), .second, .val (.long q1), .second, .val (.long q2), .second, .val (.long q3), .second, .val (.long q4), .second, .val (.long q5), .second, .val (.long q5), .second, .val (.long v14_8), .second, .val (.long v16_14), .second, .val (.long v18_25), .second, .val (.long v20_36), .second, .val (.ref b1), .unset, .unset] [])) (fun _ k => XS.astore X9.here hx rfl (hb hby at_53) rfl rfl (l' := #[.val (.long q0), .second, .val (.long q1), .second, .val (.long q2), .second, .val (.long q3), .second, .val (.long q4), .second, .val (.long q5), .second, .val (.long q5), .second, .val (.long v14_8), .second, .val (.long v16_14), .second, .val (.long v18_25), .second, .val (.long v20_36), .second, .val (.ref b1), .unset, .unset]) rfl k) ?_
  obtain ⟨T19, h19, X19, e19, E19, A19, D19, -, st19⟩ := newO X9 hx hZ hown (hw _ (List.mem_of_getElem? (i := 2) rfl)) (hw _ (List.mem_of_getElem? (i := 3) rfl)) (hw _ (List.mem_of_getElem? (i := 4) rfl)) rfl (g := (mkF m 55 #[.val (.long q0), .second, .val (.long q1), .second, .val (.long q2), .second, .val (.long q3), .second, .val (.long q4), .second, .val (.long q5), .second, .val (.long q5), .second, .val (.long v14_8), .second, .val (.long v16_14), .second, .val (.long v18_25), .second, .val (.long v20_36), .second, .val (.ref b1), .unset, .unset] [])) rfl (hb hby at_55) (by decide) (by decide)
  obtain ⟨b19, g19⟩ : ∃ z, z = T9.heap.size := ⟨_, rfl⟩
  rw [← g19] at A19 D19 st19
  have ne20 : b1 ≠ b19 := Nat.ne_of_lt (Nat.lt_of_lt_of_le E_10.lt (Nat.le_of_eq g19.symm))
  have g21 : n0 ≤ b19 := Nat.le_trans Z18 (Nat.le_of_eq g19.symm)
  have Z22 : n0 ≤ h19.size := Nat.le_trans Z18 E19.1
  have E_23 := E_10.ext E19
  have F24 := F14.ext E19
  have F25 := F12.ext E19
  have F26 := F15.ext E19
  have F27 := F13.ext E19
  have F28 := F11.ext E19
  have F29 : Fld Z h19 b19 "com/example/isopod/isopod/cli/Bench$Tally" "sealNanos" "J" (.long (0 : Int64)) := D19 (Or.inr (hw _ (List.mem_of_getElem? (i := 17) rfl))) (ty := .long) (by decide)
  have F30 : Fld Z h19 b19 "com/example/isopod/isopod/cli/Bench$Tally" "openNanos" "J" (.long (0 : Int64)) := D19 (Or.inr (hw _ (List.mem_of_getElem? (i := 19) rfl))) (ty := .long) (by decide)
  have F31 : Fld Z h19 b19 "com/example/isopod/isopod/cli/Bench$Tally" "sealRootKeyCalls" "J" (.long (0 : Int64)) := D19 (Or.inr (hw _ (List.mem_of_getElem? (i := 21) rfl))) (ty := .long) (by decide)
  have F32 : Fld Z h19 b19 "com/example/isopod/isopod/cli/Bench$Tally" "openRootKeyCalls" "J" (.long (0 : Int64)) := D19 (Or.inr (hw _ (List.mem_of_getElem? (i := 23) rfl))) (ty := .long) (by decide)
  have F33 : Fld Z h19 b19 "com/example/isopod/isopod/cli/Bench$Tally" "mismatches" "J" (.long (0 : Int64)) := D19 (Or.inr (hw _ (List.mem_of_getElem? (i := 25) rfl))) (ty := .long) (by decide)
  refine Goes.step (S' := T19.setTop (mkF m 58 #[.val (.long q0), .second, .val (.long q1), .second, .val (.long q2), .second, .val (.long q3), .second, .val (.long q4), .second, .val (.long q5), .second, .val (.long q5), .second, .val (.long v14_8), .second, .val (.long v16_14), .second, .val (.long v18_25), .second, .val (.long v20_36), .second, .val (.ref b1), .unset, .unset] [(.ref b19)])) st19 ?_
  refine Goes.step (S' := T19.setTop (mkF m 59 #[.val (.long q0), .second, .val (.long q1), .second, .val (.long q2), .second, .val (.long q3), .second, .val (.long q4), .second, .val (.long q5), .second, .val (.long q5), .second, .val (.long v14_8), .second, .val (.long v16_14), .second, .val (.long v18_25), .second, .val (.long v20_36), .second, .val (.ref b1), .unset, .unset] [(.ref b19), (.ref b19)])) (fun _ k => XS.dup X19.here hx rfl (hb hby at_58) rfl rfl k) ?_
  refine Goes.step (S' := T19.setTop (mkF m 61 #[.val (.long q0), .second, .val (.long q1), .second, .val (.long q2), .second, .val (.long q3), .second, .val (.long q4), .second, .val (.long q5), .second, .val (.long q5), .second, .val (.long v14_8), .second, .val (.long v16_14), .second, .val (.long v18_25), .second, .val (.long v20_36), .second, .val (.ref b1), .unset, .unset] [(.long q5), (.ref b19), (.ref b19)])) (fun _ k => XS.lload X19.here hx rfl (hb hby at_59) rfl  k) ?_
  refine Goes.step (S' := T19.setTop (mkF m 63 #[.val (.long q0), .second, .val (.long q1), .second, .val (.long q2), .second, .val (.long q3), .second, .val (.long q4), .second, .val (.long q5), .second, .val (.long q5), .second, .val (.long v14_8), .second, .val (.long v16_14), .second, .val (.long v18_25), .second, .val (.long v20_36), .second, .val (.ref b1), .unset, .unset] [(.long v14_8), (.long q5), (.ref b19), (.ref b19)])) (fun _ k => XS.lload X19.here hx rfl (hb hby at_61) rfl  k) ?_
  refine Goes.step (S' := T19.setTop (mkF m 65 #[.val (.long q0), .second, .val (.long q1), .second, .val (.long q2), .second, .val (.long q3), .second, .val (.long q4), .second, .val (.long q5), .second, .val (.long q5), .second, .val (.long v14_8), .second, .val (.long v16_14), .second, .val (.long v18_25), .second, .val (.long v20_36), .second, .val (.ref b1), .unset, .unset] [(.long v16_14), (.long v14_8), (.long q5), (.ref b19), (.ref b19)])) (fun _ k => XS.lload X19.here hx rfl (hb hby at_63) rfl  k) ?_
  refine Goes.step (S' := T19.setTop (mkF m 67 #[.val (.long q0), .second, .val (.long q1), .second, .val (.long q2), .second, .val (.long q3), .second, .val (.long q4), .second, .val (.long q5), .second, .val (.long q5), .second, .val (.long v14_8), .second, .val (.long v16_14), .second, .val (.long v18_25), .second, .val (.long v20_36), .second, .val (.ref b1), .unset, .unset] [(.long v18_25), (.long v16_14), (.long v14_8), (.long q5), (.ref b19), (.ref b19)])) (fun _ k => XS.lload X19.here hx rfl (hb hby at_65) rfl  k) ?_
  refine Goes.step (S' := T19.setTop (mkF m 69 #[.val (.long q0), .second, .val (.long q1), .second, .val (.long q2), .second, .val (.long q3), .second, .val (.long q4), .second, .val (.long q5), .second, .val (.long q5), .second, .val (.long v14_8), .second, .val (.long v16_14), .second, .val (.long v18_25), .second, .val (.long v20_36), .second, .val (.ref b1), .unset, .unset] [(.long v20_36), (.long v18_25), (.long v16_14), (.long v14_8), (.long q5), (.ref b19), (.ref b19)])) (fun _ k => XS.lload X19.here hx rfl (hb hby at_67) rfl  k) ?_
  obtain ⟨_, _, ⟨T34, L34, k34, n34⟩, -, X34, ⟨Lc34, hQ34, l34, y34, z34⟩, st34⟩ := X19.specialBack hx (y := (⟨"com/example/isopod/isopod/cli/Bench$Tally", "<init>", "(JJJJJ)V"⟩ : MethodName)) rfl hown (mvT hZ (hw _ (List.mem_of_getElem? (i := 5) rfl))) (mvT hZ (hw _ (List.mem_of_getElem? (i := 6) rfl))) (mvT hZ (hw _ (List.mem_of_getElem? (i := 7) rfl))) (by decide) (backOf (W := 1) (rm1 l Z a0 hw [] b19 q5 v14_8 v16_14 v18_25 v20_36 h19 n0 Z22 A19 F29 F30 F31 F32 F33 g21) hZ (hw _ (List.mem_of_getElem? (i := 7) rfl)) (hw _ (List.mem_of_getElem? (i := 4) rfl)) (by decide) (by decide)) (g := (mkF m 69 #[.val (.long q0), .second, .val (.long q1), .second, .val (.long q2), .second, .val (.long q3), .second, .val (.long q4), .second, .val (.long q5), .second, .val (.long q5), .second, .val (.long v14_8), .second, .val (.long v16_14), .second, .val (.long v18_25), .second, .val (.long v20_36), .second, .val (.ref b1), .unset, .unset] [(.long v20_36), (.long v18_25), (.long v16_14), (.long v14_8), (.long q5), (.ref b19), (.ref b19)])) rfl (by rw [hml]; rfl) (Steps.refl _) (a := b19) (argsL := [(.long q5), (.long v14_8), (.long v16_14), (.long v18_25), (.long v20_36)]) (rest := [(.ref b19)]) (lenOf pd1 rfl) rfl (by show 2 * 0 + _ ≤ _; exact Nat.le_of_eq rfl) (hb hby at_69) (fun _ _ => ⟨rfl, e19, (by decide : 2 + 0 ≤ _), (by decide : 10 + 0 ≤ _)⟩)
  dsimp only [Pt.U, Pt.locs, Pt.cells, Pt.slots] at X34 l34 y34 z34 st34 hQ34
  subst l34 y34 z34
  obtain ⟨rfl, N34q, K34q, E_35, F36, F37, F38, F39, F40⟩ := hQ34
  have N41 := Fr.app N16 N34q
  have E_42 := E_23.keep K34q
  have F43 := F24.keep K34q (ninS ne20 nin0)
  have F44 := F25.keep K34q (ninS ne20 nin0)
  have F45 := F26.keep K34q (ninS ne20 nin0)
  have F46 := F27.keep K34q (ninS ne20 nin0)
  have F47 := F28.keep K34q (ninS ne20 nin0)
  have E_48 := A19.keep K34q
  have Z49 : n0 ≤ T34.heap.size := Nat.le_trans Z22 K34q.1
  refine Goes.step (S' := T34.setTop (mkF m 72 #[.val (.long q0), .second, .val (.long q1), .second, .val (.long q2), .second, .val (.long q3), .second, .val (.long q4), .second, .val (.long q5), .second, .val (.long q5), .second, .val (.long v14_8), .second, .val (.long v16_14), .second, .val (.long v18_25), .second, .val (.long v20_36), .second, .val (.ref b1), .unset, .unset] [(.ref b19)])) (fun _ k => st34.trans k) ?_
  refine Goes.step (S' := T34.setTop (mkF m 74 #[.val (.long q0), .second, .val (.long q1), .second, .val (.long q2), .second, .val (.long q3), .second, .val (.long q4), .second, .val (.long q5), .second, .val (.long q5), .second, .val (.long v14_8), .second, .val (.long v16_14), .second, .val (.long v18_25), .second, .val (.long v20_36), .second, .val (.ref b1), .val (.ref b19), .unset] [])) (fun _ k => XS.astore X34.here hx rfl (hb hby at_72) rfl rfl (l' := #[.val (.long q0), .second, .val (.long q1), .second, .val (.long q2), .second, .val (.long q3), .second, .val (.long q4), .second, .val (.long q5), .second, .val (.long q5), .second, .val (.long v14_8), .second, .val (.long v16_14), .second, .val (.long v18_25), .second, .val (.long v20_36), .second, .val (.ref b1), .val (.ref b19), .unset]) rfl k) ?_
  refine Goes.step (S' := T34.setTop (mkF m 76 #[.val (.long q0), .second, .val (.long q1), .second, .val (.long q2), .second, .val (.long q3), .second, .val (.long q4), .second, .val (.long q5), .second, .val (.long q5), .second, .val (.long v14_8), .second, .val (.long v16_14), .second, .val (.long v18_25), .second, .val (.long v20_36), .second, .val (.ref b1), .val (.ref b19), .unset] [(.ref b1)])) (fun _ k => XS.aload X34.here hx rfl (hb hby at_74) rfl rfl k) ?_
  refine Goes.step (S' := T34.setTop (mkF m 78 #[.val (.long q0), .second, .val (.long q1), .second, .val (.long q2), .second, .val (.long q3), .second, .val (.long q4), .second, .val (.long q5), .second, .val (.long q5), .second, .val (.long v14_8), .second, .val (.long v16_14), .second, .val (.long v18_25), .second, .val (.long v20_36), .second, .val (.ref b1), .val (.ref b19), .unset] [(.ref b19), (.ref b1)])) (fun _ k => XS.aload X34.here hx rfl (hb hby at_76) rfl rfl k) ?_
  obtain ⟨cq50, kq50, q50a, q50b, q50c⟩ := isOf hZ rfl E_42
  obtain ⟨_, _, ⟨T50, L50, k50, n50⟩, -, X50, ⟨Lc50, hQ50, l50, y50, z50⟩, st50⟩ := X34.virtualBack hx (y := (⟨"com/example/isopod/isopod/cli/Bench$Tally", "plus", "(Lcom/example/isopod/isopod/cli/Bench$Tally;)Lcom/example/isopod/isopod/cli/Bench$Tally;"⟩ : MethodName)) (z := (⟨"com/example/isopod/isopod/cli/Bench$Tally", "plus", "(Lcom/example/isopod/isopod/cli/Bench$Tally;)Lcom/example/isopod/isopod/cli/Bench$Tally;"⟩ : MethodName)) hown (mvT hZ (hw _ (List.mem_of_getElem? (i := 26) rfl))) (mvT hZ (hw _ (List.mem_of_getElem? (i := 27) rfl))) (notFace_of_selects (args := #[]) (mvT hZ (hw _ (List.mem_of_getElem? (i := 29) rfl)))) (mvT hZ (hw _ (List.mem_of_getElem? (i := 29) rfl))) (mvT hZ (hw _ (List.mem_of_getElem? (i := 28) rfl))) (by decide) (backOf (W := 0) (rm4 l Z a0 hw [] b1 b19 q0 q1 q2 q3 q4 q5 v14_8 v16_14 v18_25 v20_36 T34.heap n0 Z49 E_42 F43 F44 F45 F46 F47 E_35 F39 F37 F40 F38 F36) hZ (hw _ (List.mem_of_getElem? (i := 30) rfl)) (hw _ (List.mem_of_getElem? (i := 4) rfl)) (by decide) (by decide)) q50a q50c (g := (mkF m 78 #[.val (.long q0), .second, .val (.long q1), .second, .val (.long q2), .second, .val (.long q3), .second, .val (.long q4), .second, .val (.long q5), .second, .val (.long q5), .second, .val (.long v14_8), .second, .val (.long v16_14), .second, .val (.long v18_25), .second, .val (.long v20_36), .second, .val (.ref b1), .val (.ref b19), .unset] [(.ref b19), (.ref b1)])) rfl (by rw [hml]; rfl) (Steps.refl _) (argsL := [(.ref b19)]) (rest := []) (lenOf pd2 rfl) rfl (by show 2 * 0 + _ ≤ _; exact Nat.le_of_eq rfl) (hb hby at_78) (fun _ _ => ⟨rfl, rfl, (by decide : 2 + 1 ≤ _), (by decide : 10 + 5 ≤ _)⟩)
  dsimp only [Pt.U, Pt.locs, Pt.cells, Pt.slots] at X50 l50 y50 z50 st50 hQ50
  subst l50 y50 z50
  obtain ⟨r50_0, rfl, N50q, K50q, P51, P52, P53, P54, P55, P56, P57⟩ := hQ50
  have N58 := Fr.app N41 N50q
  have ne59 : b1 ≠ r50_0 := Nat.ne_of_lt (Nat.lt_of_lt_of_le E_42.lt P51)
  have ne60 : b19 ≠ r50_0 := Nat.ne_of_lt (Nat.lt_of_lt_of_le E_35.lt P51)
  have g61 : n0 ≤ r50_0 := Nat.le_trans Z49 P51
  have E_62 := E_42.keep K50q
  have F63 := F43.keep K50q nin0
  have F64 := F44.keep K50q nin0
  have F65 := F45.keep K50q nin0
  have F66 := F46.keep K50q nin0
  have F67 := F47.keep K50q nin0
  have E_68 := E_35.keep K50q
  have F69 := F39.keep K50q nin0
  have F70 := F37.keep K50q nin0
  have F71 := F40.keep K50q nin0
  have F72 := F38.keep K50q nin0
  have F73 := F36.keep K50q nin0
  have Z74 : n0 ≤ T50.heap.size := Nat.le_trans Z49 K50q.1
  refine Goes.step (S' := T50.setTop (mkF m 81 #[.val (.long q0), .second, .val (.long q1), .second, .val (.long q2), .second, .val (.long q3), .second, .val (.long q4), .second, .val (.long q5), .second, .val (.long q5), .second, .val (.long v14_8), .second, .val (.long v16_14), .second, .val (.long v18_25), .second, .val (.long v20_36), .second, .val (.ref b1), .val (.ref b19), .unset] [(.ref r50_0)])) (fun _ k => st50.trans k) ?_
  refine Goes.step (S' := T50.setTop (mkF m 83 #[.val (.long q0), .second, .val (.long q1), .second, .val (.long q2), .second, .val (.long q3), .second, .val (.long q4), .second, .val (.long q5), .second, .val (.long q5), .second, .val (.long v14_8), .second, .val (.long v16_14), .second, .val (.long v18_25), .second, .val (.long v20_36), .second, .val (.ref b1), .val (.ref b19), .val (.ref r50_0)] [])) (fun _ k => XS.astore X50.here hx rfl (hb hby at_81) rfl rfl (l' := #[.val (.long q0), .second, .val (.long q1), .second, .val (.long q2), .second, .val (.long q3), .second, .val (.long q4), .second, .val (.long q5), .second, .val (.long q5), .second, .val (.long v14_8), .second, .val (.long v16_14), .second, .val (.long v18_25), .second, .val (.long v20_36), .second, .val (.ref b1), .val (.ref b19), .val (.ref r50_0)]) rfl k) ?_
  refine Goes.step (S' := T50.setTop (mkF m 85 #[.val (.long q0), .second, .val (.long q1), .second, .val (.long q2), .second, .val (.long q3), .second, .val (.long q4), .second, .val (.long q5), .second, .val (.long q5), .second, .val (.long v14_8), .second, .val (.long v16_14), .second, .val (.long v18_25), .second, .val (.long v20_36), .second, .val (.ref b1), .val (.ref b19), .val (.ref r50_0)] [(.ref r50_0)])) (fun _ k => XS.aload X50.here hx rfl (hb hby at_83) rfl rfl k) ?_
  obtain ⟨cq75, kq75, q75a, q75b, q75c⟩ := isOf hZ rfl P52
  obtain ⟨_, _, ⟨T75, L75, k75, n75⟩, -, X75, ⟨Lc75, hQ75, l75, y75, z75⟩, st75⟩ := X50.virtualBack hx (y := (⟨"com/example/isopod/isopod/cli/Bench$Tally", "sealNanos", "()J"⟩ : MethodName)) (z := (⟨"com/example/isopod/isopod/cli/Bench$Tally", "sealNanos", "()J"⟩ : MethodName)) hown (mvT hZ (hw _ (List.mem_of_getElem? (i := 33) rfl))) (mvT hZ (hw _ (List.mem_of_getElem? (i := 34) rfl))) (notFace_of_selects (args := #[]) (mvT hZ (hw _ (List.mem_of_getElem? (i := 36) rfl)))) (mvT hZ (hw _ (List.mem_of_getElem? (i := 36) rfl))) (mvT hZ (hw _ (List.mem_of_getElem? (i := 35) rfl))) (by decide) (backOf (W := 0) (rm5 l Z a0 hw [] r50_0 ((q0 + q5)) ((q1 + v14_8)) ((q2 + v16_14)) ((q3 + v18_25)) ((q4 + v20_36)) T50.heap n0 Z74 P52 P56 P54 P57 P55 P53) hZ (hw _ (List.mem_of_getElem? (i := 37) rfl)) (hw _ (List.mem_of_getElem? (i := 4) rfl)) (by decide) (by decide)) q75a q75c (g := (mkF m 85 #[.val (.long q0), .second, .val (.long q1), .second, .val (.long q2), .second, .val (.long q3), .second, .val (.long q4), .second, .val (.long q5), .second, .val (.long q5), .second, .val (.long v14_8), .second, .val (.long v16_14), .second, .val (.long v18_25), .second, .val (.long v20_36), .second, .val (.ref b1), .val (.ref b19), .val (.ref r50_0)] [(.ref r50_0)])) rfl (by rw [hml]; rfl) (Steps.refl _) (argsL := []) (rest := []) (lenOf pd3 rfl) rfl (by show 2 * 0 + _ ≤ _; exact Nat.le_of_eq rfl) (hb hby at_85) (fun _ _ => ⟨rfl, rfl, (by decide : 3 + 0 ≤ _), (by decide : 15 + 0 ≤ _)⟩)
  dsimp only [Pt.U, Pt.locs, Pt.cells, Pt.slots] at X75 l75 y75 z75 st75 hQ75
  subst l75 y75 z75
  obtain ⟨rfl, N75q, e75⟩ := hQ75
  have N76 := Fr.app N58 N75q
  refine Goes.step (S' := T75.setTop (mkF m 88 #[.val (.long q0), .second, .val (.long q1), .second, .val (.long q2), .second, .val (.long q3), .second, .val (.long q4), .second, .val (.long q5), .second, .val (.long q5), .second, .val (.long v14_8), .second, .val (.long v16_14), .second, .val (.long v18_25), .second, .val (.long v20_36), .second, .val (.ref b1), .val (.ref b19), .val (.ref r50_0)] [(.long (f5 (q0 + q5) (q1 + v14_8) (q2 + v16_14) (q3 + v18_25) (q4 + v20_36)))])) (fun _ k => st75.trans k) ?_
  refine Goes.step (S' := T75.setTop (mkF m 90 #[.val (.long q0), .second, .val (.long q1), .second, .val (.long q2), .second, .val (.long q3), .second, .val (.long q4), .second, .val (.long q5), .second, .val (.long q5), .second, .val (.long v14_8), .second, .val (.long v16_14), .second, .val (.long v18_25), .second, .val (.long v20_36), .second, .val (.ref b1), .val (.ref b19), .val (.ref r50_0)] [(.long q5), (.long (f5 (q0 + q5) (q1 + v14_8) (q2 + v16_14) (q3 + v18_25) (q4 + v20_36)))])) (fun _ k => XS.lload X75.here hx rfl (hb hby at_88) rfl  k) ?_
  refine Goes.step (S' := T75.setTop (mkF m 91 #[.val (.long q0), .second, .val (.long q1), .second, .val (.long q2), .second, .val (.long q3), .second, .val (.long q4), .second, .val (.long q5), .second, .val (.long q5), .second, .val (.long v14_8), .second, .val (.long v16_14), .second, .val (.long v18_25), .second, .val (.long v20_36), .second, .val (.ref b1), .val (.ref b19), .val (.ref r50_0)] [(.long ((f5 (q0 + q5) (q1 + v14_8) (q2 + v16_14) (q3 + v18_25) (q4 + v20_36)) - q5))])) (fun _ k => XS.lsub X75.here hx rfl (hb hby at_90) rfl k) ?_
  refine Goes.step (S' := T75.setTop (mkF m 92 #[.val (.long q0), .second, .val (.long q1), .second, .val (.long q2), .second, .val (.long q3), .second, .val (.long q4), .second, .val (.long q5), .second, .val (.long q5), .second, .val (.long v14_8), .second, .val (.long v16_14), .second, .val (.long v18_25), .second, .val (.long v20_36), .second, .val (.ref b1), .val (.ref b19), .val (.ref r50_0)] [(.long q0), (.long ((f5 (q0 + q5) (q1 + v14_8) (q2 + v16_14) (q3 + v18_25) (q4 + v20_36)) - q5))])) (fun _ k => XS.lloadN X75.here hx rfl (hb hby at_91) rfl  k) ?_
  refine Goes.step (S' := T75.setTop (mkF m 93 #[.val (.long q0), .second, .val (.long q1), .second, .val (.long q2), .second, .val (.long q3), .second, .val (.long q4), .second, .val (.long q5), .second, .val (.long q5), .second, .val (.long v14_8), .second, .val (.long v16_14), .second, .val (.long v18_25), .second, .val (.long v20_36), .second, .val (.ref b1), .val (.ref b19), .val (.ref r50_0)] [(.int (lcmpW ((f5 (q0 + q5) (q1 + v14_8) (q2 + v16_14) (q3 + v18_25) (q4 + v20_36)) - q5) q0))])) (fun _ k => XS.lcmp X75.here hx rfl (hb hby at_92) rfl k) ?_
  refine Goes.step (S' := T75.setTop (mkF m 96 #[.val (.long q0), .second, .val (.long q1), .second, .val (.long q2), .second, .val (.long q3), .second, .val (.long q4), .second, .val (.long q5), .second, .val (.long q5), .second, .val (.long v14_8), .second, .val (.long v16_14), .second, .val (.long v18_25), .second, .val (.long v20_36), .second, .val (.ref b1), .val (.ref b19), .val (.ref r50_0)] [])) (fun _ k => XS.ifNo X75.here hx rfl (hb hby at_93) rfl ((if0 _ _).trans (teq ((lw_eq ((f5 (q0 + q5) (q1 + v14_8) (q2 + v16_14) (q3 + v18_25) (q4 + v20_36)) - q5) q0).mpr (own_hc0_93 q0 q1 q2 q3 q4 q5 v14_8 ev14_8 v16_14 ev16_14 v18_25 ev18_25 v20_36 ev20_36))).2) k) ?_
  refine Goes.step (S' := T75.setTop (mkF m 98 #[.val (.long q0), .second, .val (.long q1), .second, .val (.long q2), .second, .val (.long q3), .second, .val (.long q4), .second, .val (.long q5), .second, .val (.long q5), .second, .val (.long v14_8), .second, .val (.long v16_14), .second, .val (.long v18_25), .second, .val (.long v20_36), .second, .val (.ref b1), .val (.ref b19), .val (.ref r50_0)] [(.ref r50_0)])) (fun _ k => XS.aload X75.here hx rfl (hb hby at_96) rfl rfl k) ?_
  obtain ⟨cq77, kq77, q77a, q77b, q77c⟩ := isOf hZ e75 P52
  obtain ⟨_, _, ⟨T77, L77, k77, n77⟩, -, X77, ⟨Lc77, hQ77, l77, y77, z77⟩, st77⟩ := X75.virtualBack hx (y := (⟨"com/example/isopod/isopod/cli/Bench$Tally", "openNanos", "()J"⟩ : MethodName)) (z := (⟨"com/example/isopod/isopod/cli/Bench$Tally", "openNanos", "()J"⟩ : MethodName)) hown (mvT hZ (hw _ (List.mem_of_getElem? (i := 38) rfl))) (mvT hZ (hw _ (List.mem_of_getElem? (i := 39) rfl))) (notFace_of_selects (args := #[]) (mvT hZ (hw _ (List.mem_of_getElem? (i := 41) rfl)))) (mvT hZ (hw _ (List.mem_of_getElem? (i := 41) rfl))) (mvT hZ (hw _ (List.mem_of_getElem? (i := 40) rfl))) (by decide) (backOf (W := 0) (rm6 l Z a0 hw [] r50_0 ((q0 + q5)) ((q1 + v14_8)) ((q2 + v16_14)) ((q3 + v18_25)) ((q4 + v20_36)) T50.heap n0 Z74 P52 P56 P54 P57 P55 P53) hZ (hw _ (List.mem_of_getElem? (i := 42) rfl)) (hw _ (List.mem_of_getElem? (i := 4) rfl)) (by decide) (by decide)) q77a q77c (g := (mkF m 98 #[.val (.long q0), .second, .val (.long q1), .second, .val (.long q2), .second, .val (.long q3), .second, .val (.long q4), .second, .val (.long q5), .second, .val (.long q5), .second, .val (.long v14_8), .second, .val (.long v16_14), .second, .val (.long v18_25), .second, .val (.long v20_36), .second, .val (.ref b1), .val (.ref b19), .val (.ref r50_0)] [(.ref r50_0)])) rfl (by rw [hml]; rfl) (Steps.refl _) (argsL := []) (rest := []) (lenOf pd3 rfl) rfl (by show 2 * 0 + _ ≤ _; exact Nat.le_of_eq rfl) (hb hby at_98) (fun _ _ => ⟨rfl, e75, (by decide : 3 + 0 ≤ _), (by decide : 15 + 0 ≤ _)⟩)
  dsimp only [Pt.U, Pt.locs, Pt.cells, Pt.slots] at X77 l77 y77 z77 st77 hQ77
  subst l77 y77 z77
  obtain ⟨rfl, N77q, e77⟩ := hQ77
  have N78 := Fr.app N76 N77q
  refine Goes.step (S' := T77.setTop (mkF m 101 #[.val (.long q0), .second, .val (.long q1), .second, .val (.long q2), .second, .val (.long q3), .second, .val (.long q4), .second, .val (.long q5), .second, .val (.long q5), .second, .val (.long v14_8), .second, .val (.long v16_14), .second, .val (.long v18_25), .second, .val (.long v20_36), .second, .val (.ref b1), .val (.ref b19), .val (.ref r50_0)] [(.long (f6 (q0 + q5) (q1 + v14_8) (q2 + v16_14) (q3 + v18_25) (q4 + v20_36)))])) (fun _ k => st77.trans k) ?_
  refine Goes.step (S' := T77.setTop (mkF m 103 #[.val (.long q0), .second, .val (.long q1), .second, .val (.long q2), .second, .val (.long q3), .second, .val (.long q4), .second, .val (.long q5), .second, .val (.long q5), .second, .val (.long v14_8), .second, .val (.long v16_14), .second, .val (.long v18_25), .second, .val (.long v20_36), .second, .val (.ref b1), .val (.ref b19), .val (.ref r50_0)] [(.long v14_8), (.long (f6 (q0 + q5) (q1 + v14_8) (q2 + v16_14) (q3 + v18_25) (q4 + v20_36)))])) (fun _ k => XS.lload X77.here hx rfl (hb hby at_101) rfl  k) ?_
  refine Goes.step (S' := T77.setTop (mkF m 104 #[.val (.long q0), .second, .val (.long q1), .second, .val (.long q2), .second, .val (.long q3), .second, .val (.long q4), .second, .val (.long q5), .second, .val (.long q5), .second, .val (.long v14_8), .second, .val (.long v16_14), .second, .val (.long v18_25), .second, .val (.long v20_36), .second, .val (.ref b1), .val (.ref b19), .val (.ref r50_0)] [(.long ((f6 (q0 + q5) (q1 + v14_8) (q2 + v16_14) (q3 + v18_25) (q4 + v20_36)) - v14_8))])) (fun _ k => XS.lsub X77.here hx rfl (hb hby at_103) rfl k) ?_
  refine Goes.step (S' := T77.setTop (mkF m 105 #[.val (.long q0), .second, .val (.long q1), .second, .val (.long q2), .second, .val (.long q3), .second, .val (.long q4), .second, .val (.long q5), .second, .val (.long q5), .second, .val (.long v14_8), .second, .val (.long v16_14), .second, .val (.long v18_25), .second, .val (.long v20_36), .second, .val (.ref b1), .val (.ref b19), .val (.ref r50_0)] [(.long q1), (.long ((f6 (q0 + q5) (q1 + v14_8) (q2 + v16_14) (q3 + v18_25) (q4 + v20_36)) - v14_8))])) (fun _ k => XS.lloadN X77.here hx rfl (hb hby at_104) rfl  k) ?_
  refine Goes.step (S' := T77.setTop (mkF m 106 #[.val (.long q0), .second, .val (.long q1), .second, .val (.long q2), .second, .val (.long q3), .second, .val (.long q4), .second, .val (.long q5), .second, .val (.long q5), .second, .val (.long v14_8), .second, .val (.long v16_14), .second, .val (.long v18_25), .second, .val (.long v20_36), .second, .val (.ref b1), .val (.ref b19), .val (.ref r50_0)] [(.int (lcmpW ((f6 (q0 + q5) (q1 + v14_8) (q2 + v16_14) (q3 + v18_25) (q4 + v20_36)) - v14_8) q1))])) (fun _ k => XS.lcmp X77.here hx rfl (hb hby at_105) rfl k) ?_
  refine Goes.step (S' := T77.setTop (mkF m 109 #[.val (.long q0), .second, .val (.long q1), .second, .val (.long q2), .second, .val (.long q3), .second, .val (.long q4), .second, .val (.long q5), .second, .val (.long q5), .second, .val (.long v14_8), .second, .val (.long v16_14), .second, .val (.long v18_25), .second, .val (.long v20_36), .second, .val (.ref b1), .val (.ref b19), .val (.ref r50_0)] [])) (fun _ k => XS.ifNo X77.here hx rfl (hb hby at_106) rfl ((if0 _ _).trans (teq ((lw_eq ((f6 (q0 + q5) (q1 + v14_8) (q2 + v16_14) (q3 + v18_25) (q4 + v20_36)) - v14_8) q1).mpr (own_hc0_106 q0 q1 q2 q3 q4 q5 v14_8 ev14_8 v16_14 ev16_14 v18_25 ev18_25 v20_36 ev20_36))).2) k) ?_
  refine Goes.step (S' := T77.setTop (mkF m 111 #[.val (.long q0), .second, .val (.long q1), .second, .val (.long q2), .second, .val (.long q3), .second, .val (.long q4), .second, .val (.long q5), .second, .val (.long q5), .second, .val (.long v14_8), .second, .val (.long v16_14), .second, .val (.long v18_25), .second, .val (.long v20_36), .second, .val (.ref b1), .val (.ref b19), .val (.ref r50_0)] [(.ref r50_0)])) (fun _ k => XS.aload X77.here hx rfl (hb hby at_109) rfl rfl k) ?_
  obtain ⟨cq79, kq79, q79a, q79b, q79c⟩ := isOf hZ e77 P52
  obtain ⟨_, _, ⟨T79, L79, k79, n79⟩, -, X79, ⟨Lc79, hQ79, l79, y79, z79⟩, st79⟩ := X77.virtualBack hx (y := (⟨"com/example/isopod/isopod/cli/Bench$Tally", "sealRootKeyCalls", "()J"⟩ : MethodName)) (z := (⟨"com/example/isopod/isopod/cli/Bench$Tally", "sealRootKeyCalls", "()J"⟩ : MethodName)) hown (mvT hZ (hw _ (List.mem_of_getElem? (i := 43) rfl))) (mvT hZ (hw _ (List.mem_of_getElem? (i := 44) rfl))) (notFace_of_selects (args := #[]) (mvT hZ (hw _ (List.mem_of_getElem? (i := 46) rfl)))) (mvT hZ (hw _ (List.mem_of_getElem? (i := 46) rfl))) (mvT hZ (hw _ (List.mem_of_getElem? (i := 45) rfl))) (by decide) (backOf (W := 0) (rm7 l Z a0 hw [] r50_0 ((q0 + q5)) ((q1 + v14_8)) ((q2 + v16_14)) ((q3 + v18_25)) ((q4 + v20_36)) T50.heap n0 Z74 P52 P56 P54 P57 P55 P53) hZ (hw _ (List.mem_of_getElem? (i := 47) rfl)) (hw _ (List.mem_of_getElem? (i := 4) rfl)) (by decide) (by decide)) q79a q79c (g := (mkF m 111 #[.val (.long q0), .second, .val (.long q1), .second, .val (.long q2), .second, .val (.long q3), .second, .val (.long q4), .second, .val (.long q5), .second, .val (.long q5), .second, .val (.long v14_8), .second, .val (.long v16_14), .second, .val (.long v18_25), .second, .val (.long v20_36), .second, .val (.ref b1), .val (.ref b19), .val (.ref r50_0)] [(.ref r50_0)])) rfl (by rw [hml]; rfl) (Steps.refl _) (argsL := []) (rest := []) (lenOf pd3 rfl) rfl (by show 2 * 0 + _ ≤ _; exact Nat.le_of_eq rfl) (hb hby at_111) (fun _ _ => ⟨rfl, e77, (by decide : 3 + 0 ≤ _), (by decide : 15 + 0 ≤ _)⟩)
  dsimp only [Pt.U, Pt.locs, Pt.cells, Pt.slots] at X79 l79 y79 z79 st79 hQ79
  subst l79 y79 z79
  obtain ⟨rfl, N79q, e79⟩ := hQ79
  have N80 := Fr.app N78 N79q
  refine Goes.step (S' := T79.setTop (mkF m 114 #[.val (.long q0), .second, .val (.long q1), .second, .val (.long q2), .second, .val (.long q3), .second, .val (.long q4), .second, .val (.long q5), .second, .val (.long q5), .second, .val (.long v14_8), .second, .val (.long v16_14), .second, .val (.long v18_25), .second, .val (.long v20_36), .second, .val (.ref b1), .val (.ref b19), .val (.ref r50_0)] [(.long (f7 (q0 + q5) (q1 + v14_8) (q2 + v16_14) (q3 + v18_25) (q4 + v20_36)))])) (fun _ k => st79.trans k) ?_
  refine Goes.step (S' := T79.setTop (mkF m 116 #[.val (.long q0), .second, .val (.long q1), .second, .val (.long q2), .second, .val (.long q3), .second, .val (.long q4), .second, .val (.long q5), .second, .val (.long q5), .second, .val (.long v14_8), .second, .val (.long v16_14), .second, .val (.long v18_25), .second, .val (.long v20_36), .second, .val (.ref b1), .val (.ref b19), .val (.ref r50_0)] [(.long v16_14), (.long (f7 (q0 + q5) (q1 + v14_8) (q2 + v16_14) (q3 + v18_25) (q4 + v20_36)))])) (fun _ k => XS.lload X79.here hx rfl (hb hby at_114) rfl  k) ?_
  refine Goes.step (S' := T79.setTop (mkF m 117 #[.val (.long q0), .second, .val (.long q1), .second, .val (.long q2), .second, .val (.long q3), .second, .val (.long q4), .second, .val (.long q5), .second, .val (.long q5), .second, .val (.long v14_8), .second, .val (.long v16_14), .second, .val (.long v18_25), .second, .val (.long v20_36), .second, .val (.ref b1), .val (.ref b19), .val (.ref r50_0)] [(.long ((f7 (q0 + q5) (q1 + v14_8) (q2 + v16_14) (q3 + v18_25) (q4 + v20_36)) - v16_14))])) (fun _ k => XS.lsub X79.here hx rfl (hb hby at_116) rfl k) ?_
  refine Goes.step (S' := T79.setTop (mkF m 119 #[.val (.long q0), .second, .val (.long q1), .second, .val (.long q2), .second, .val (.long q3), .second, .val (.long q4), .second, .val (.long q5), .second, .val (.long q5), .second, .val (.long v14_8), .second, .val (.long v16_14), .second, .val (.long v18_25), .second, .val (.long v20_36), .second, .val (.ref b1), .val (.ref b19), .val (.ref r50_0)] [(.long q2), (.long ((f7 (q0 + q5) (q1 + v14_8) (q2 + v16_14) (q3 + v18_25) (q4 + v20_36)) - v16_14))])) (fun _ k => XS.lload X79.here hx rfl (hb hby at_117) rfl  k) ?_
  refine Goes.step (S' := T79.setTop (mkF m 120 #[.val (.long q0), .second, .val (.long q1), .second, .val (.long q2), .second, .val (.long q3), .second, .val (.long q4), .second, .val (.long q5), .second, .val (.long q5), .second, .val (.long v14_8), .second, .val (.long v16_14), .second, .val (.long v18_25), .second, .val (.long v20_36), .second, .val (.ref b1), .val (.ref b19), .val (.ref r50_0)] [(.int (lcmpW ((f7 (q0 + q5) (q1 + v14_8) (q2 + v16_14) (q3 + v18_25) (q4 + v20_36)) - v16_14) q2))])) (fun _ k => XS.lcmp X79.here hx rfl (hb hby at_119) rfl k) ?_
  refine Goes.step (S' := T79.setTop (mkF m 123 #[.val (.long q0), .second, .val (.long q1), .second, .val (.long q2), .second, .val (.long q3), .second, .val (.long q4), .second, .val (.long q5), .second, .val (.long q5), .second, .val (.long v14_8), .second, .val (.long v16_14), .second, .val (.long v18_25), .second, .val (.long v20_36), .second, .val (.ref b1), .val (.ref b19), .val (.ref r50_0)] [])) (fun _ k => XS.ifNo X79.here hx rfl (hb hby at_120) rfl ((if0 _ _).trans (teq ((lw_eq ((f7 (q0 + q5) (q1 + v14_8) (q2 + v16_14) (q3 + v18_25) (q4 + v20_36)) - v16_14) q2).mpr (own_hc0_120 q0 q1 q2 q3 q4 q5 v14_8 ev14_8 v16_14 ev16_14 v18_25 ev18_25 v20_36 ev20_36))).2) k) ?_
  refine Goes.step (S' := T79.setTop (mkF m 125 #[.val (.long q0), .second, .val (.long q1), .second, .val (.long q2), .second, .val (.long q3), .second, .val (.long q4), .second, .val (.long q5), .second, .val (.long q5), .second, .val (.long v14_8), .second, .val (.long v16_14), .second, .val (.long v18_25), .second, .val (.long v20_36), .second, .val (.ref b1), .val (.ref b19), .val (.ref r50_0)] [(.ref r50_0)])) (fun _ k => XS.aload X79.here hx rfl (hb hby at_123) rfl rfl k) ?_
  obtain ⟨cq81, kq81, q81a, q81b, q81c⟩ := isOf hZ e79 P52
  obtain ⟨_, _, ⟨T81, L81, k81, n81⟩, -, X81, ⟨Lc81, hQ81, l81, y81, z81⟩, st81⟩ := X79.virtualBack hx (y := (⟨"com/example/isopod/isopod/cli/Bench$Tally", "openRootKeyCalls", "()J"⟩ : MethodName)) (z := (⟨"com/example/isopod/isopod/cli/Bench$Tally", "openRootKeyCalls", "()J"⟩ : MethodName)) hown (mvT hZ (hw _ (List.mem_of_getElem? (i := 48) rfl))) (mvT hZ (hw _ (List.mem_of_getElem? (i := 49) rfl))) (notFace_of_selects (args := #[]) (mvT hZ (hw _ (List.mem_of_getElem? (i := 51) rfl)))) (mvT hZ (hw _ (List.mem_of_getElem? (i := 51) rfl))) (mvT hZ (hw _ (List.mem_of_getElem? (i := 50) rfl))) (by decide) (backOf (W := 0) (rm8 l Z a0 hw [] r50_0 ((q0 + q5)) ((q1 + v14_8)) ((q2 + v16_14)) ((q3 + v18_25)) ((q4 + v20_36)) T50.heap n0 Z74 P52 P56 P54 P57 P55 P53) hZ (hw _ (List.mem_of_getElem? (i := 52) rfl)) (hw _ (List.mem_of_getElem? (i := 4) rfl)) (by decide) (by decide)) q81a q81c (g := (mkF m 125 #[.val (.long q0), .second, .val (.long q1), .second, .val (.long q2), .second, .val (.long q3), .second, .val (.long q4), .second, .val (.long q5), .second, .val (.long q5), .second, .val (.long v14_8), .second, .val (.long v16_14), .second, .val (.long v18_25), .second, .val (.long v20_36), .second, .val (.ref b1), .val (.ref b19), .val (.ref r50_0)] [(.ref r50_0)])) rfl (by rw [hml]; rfl) (Steps.refl _) (argsL := []) (rest := []) (lenOf pd3 rfl) rfl (by show 2 * 0 + _ ≤ _; exact Nat.le_of_eq rfl) (hb hby at_125) (fun _ _ => ⟨rfl, e79, (by decide : 3 + 0 ≤ _), (by decide : 15 + 0 ≤ _)⟩)
  dsimp only [Pt.U, Pt.locs, Pt.cells, Pt.slots] at X81 l81 y81 z81 st81 hQ81
  subst l81 y81 z81
  obtain ⟨rfl, N81q, e81⟩ := hQ81
  have N82 := Fr.app N80 N81q
  refine Goes.step (S' := T81.setTop (mkF m 128 #[.val (.long q0), .second, .val (.long q1), .second, .val (.long q2), .second, .val (.long q3), .second, .val (.long q4), .second, .val (.long q5), .second, .val (.long q5), .second, .val (.long v14_8), .second, .val (.long v16_14), .second, .val (.long v18_25), .second, .val (.long v20_36), .second, .val (.ref b1), .val (.ref b19), .val (.ref r50_0)] [(.long (f8 (q0 + q5) (q1 + v14_8) (q2 + v16_14) (q3 + v18_25) (q4 + v20_36)))])) (fun _ k => st81.trans k) ?_
  refine Goes.step (S' := T81.setTop (mkF m 130 #[.val (.long q0), .second, .val (.long q1), .second, .val (.long q2), .second, .val (.long q3), .second, .val (.long q4), .second, .val (.long q5), .second, .val (.long q5), .second, .val (.long v14_8), .second, .val (.long v16_14), .second, .val (.long v18_25), .second, .val (.long v20_36), .second, .val (.ref b1), .val (.ref b19), .val (.ref r50_0)] [(.long v18_25), (.long (f8 (q0 + q5) (q1 + v14_8) (q2 + v16_14) (q3 + v18_25) (q4 + v20_36)))])) (fun _ k => XS.lload X81.here hx rfl (hb hby at_128) rfl  k) ?_
  refine Goes.step (S' := T81.setTop (mkF m 131 #[.val (.long q0), .second, .val (.long q1), .second, .val (.long q2), .second, .val (.long q3), .second, .val (.long q4), .second, .val (.long q5), .second, .val (.long q5), .second, .val (.long v14_8), .second, .val (.long v16_14), .second, .val (.long v18_25), .second, .val (.long v20_36), .second, .val (.ref b1), .val (.ref b19), .val (.ref r50_0)] [(.long ((f8 (q0 + q5) (q1 + v14_8) (q2 + v16_14) (q3 + v18_25) (q4 + v20_36)) - v18_25))])) (fun _ k => XS.lsub X81.here hx rfl (hb hby at_130) rfl k) ?_
  refine Goes.step (S' := T81.setTop (mkF m 133 #[.val (.long q0), .second, .val (.long q1), .second, .val (.long q2), .second, .val (.long q3), .second, .val (.long q4), .second, .val (.long q5), .second, .val (.long q5), .second, .val (.long v14_8), .second, .val (.long v16_14), .second, .val (.long v18_25), .second, .val (.long v20_36), .second, .val (.ref b1), .val (.ref b19), .val (.ref r50_0)] [(.long q3), (.long ((f8 (q0 + q5) (q1 + v14_8) (q2 + v16_14) (q3 + v18_25) (q4 + v20_36)) - v18_25))])) (fun _ k => XS.lload X81.here hx rfl (hb hby at_131) rfl  k) ?_
  refine Goes.step (S' := T81.setTop (mkF m 134 #[.val (.long q0), .second, .val (.long q1), .second, .val (.long q2), .second, .val (.long q3), .second, .val (.long q4), .second, .val (.long q5), .second, .val (.long q5), .second, .val (.long v14_8), .second, .val (.long v16_14), .second, .val (.long v18_25), .second, .val (.long v20_36), .second, .val (.ref b1), .val (.ref b19), .val (.ref r50_0)] [(.int (lcmpW ((f8 (q0 + q5) (q1 + v14_8) (q2 + v16_14) (q3 + v18_25) (q4 + v20_36)) - v18_25) q3))])) (fun _ k => XS.lcmp X81.here hx rfl (hb hby at_133) rfl k) ?_
  refine Goes.step (S' := T81.setTop (mkF m 137 #[.val (.long q0), .second, .val (.long q1), .second, .val (.long q2), .second, .val (.long q3), .second, .val (.long q4), .second, .val (.long q5), .second, .val (.long q5), .second, .val (.long v14_8), .second, .val (.long v16_14), .second, .val (.long v18_25), .second, .val (.long v20_36), .second, .val (.ref b1), .val (.ref b19), .val (.ref r50_0)] [])) (fun _ k => XS.ifNo X81.here hx rfl (hb hby at_134) rfl ((if0 _ _).trans (teq ((lw_eq ((f8 (q0 + q5) (q1 + v14_8) (q2 + v16_14) (q3 + v18_25) (q4 + v20_36)) - v18_25) q3).mpr (own_hc0_134 q0 q1 q2 q3 q4 q5 v14_8 ev14_8 v16_14 ev16_14 v18_25 ev18_25 v20_36 ev20_36))).2) k) ?_
  refine Goes.step (S' := T81.setTop (mkF m 139 #[.val (.long q0), .second, .val (.long q1), .second, .val (.long q2), .second, .val (.long q3), .second, .val (.long q4), .second, .val (.long q5), .second, .val (.long q5), .second, .val (.long v14_8), .second, .val (.long v16_14), .second, .val (.long v18_25), .second, .val (.long v20_36), .second, .val (.ref b1), .val (.ref b19), .val (.ref r50_0)] [(.ref r50_0)])) (fun _ k => XS.aload X81.here hx rfl (hb hby at_137) rfl rfl k) ?_
  obtain ⟨cq83, kq83, q83a, q83b, q83c⟩ := isOf hZ e81 P52
  obtain ⟨_, _, ⟨T83, L83, k83, n83⟩, -, X83, ⟨Lc83, hQ83, l83, y83, z83⟩, st83⟩ := X81.virtualBack hx (y := (⟨"com/example/isopod/isopod/cli/Bench$Tally", "mismatches", "()J"⟩ : MethodName)) (z := (⟨"com/example/isopod/isopod/cli/Bench$Tally", "mismatches", "()J"⟩ : MethodName)) hown (mvT hZ (hw _ (List.mem_of_getElem? (i := 53) rfl))) (mvT hZ (hw _ (List.mem_of_getElem? (i := 54) rfl))) (notFace_of_selects (args := #[]) (mvT hZ (hw _ (List.mem_of_getElem? (i := 56) rfl)))) (mvT hZ (hw _ (List.mem_of_getElem? (i := 56) rfl))) (mvT hZ (hw _ (List.mem_of_getElem? (i := 55) rfl))) (by decide) (backOf (W := 0) (rm9 l Z a0 hw [] r50_0 ((q0 + q5)) ((q1 + v14_8)) ((q2 + v16_14)) ((q3 + v18_25)) ((q4 + v20_36)) T50.heap n0 Z74 P52 P56 P54 P57 P55 P53) hZ (hw _ (List.mem_of_getElem? (i := 57) rfl)) (hw _ (List.mem_of_getElem? (i := 4) rfl)) (by decide) (by decide)) q83a q83c (g := (mkF m 139 #[.val (.long q0), .second, .val (.long q1), .second, .val (.long q2), .second, .val (.long q3), .second, .val (.long q4), .second, .val (.long q5), .second, .val (.long q5), .second, .val (.long v14_8), .second, .val (.long v16_14), .second, .val (.long v18_25), .second, .val (.long v20_36), .second, .val (.ref b1), .val (.ref b19), .val (.ref r50_0)] [(.ref r50_0)])) rfl (by rw [hml]; rfl) (Steps.refl _) (argsL := []) (rest := []) (lenOf pd3 rfl) rfl (by show 2 * 0 + _ ≤ _; exact Nat.le_of_eq rfl) (hb hby at_139) (fun _ _ => ⟨rfl, e81, (by decide : 3 + 0 ≤ _), (by decide : 15 + 0 ≤ _)⟩)
  dsimp only [Pt.U, Pt.locs, Pt.cells, Pt.slots] at X83 l83 y83 z83 st83 hQ83
  subst l83 y83 z83
  obtain ⟨rfl, N83q, e83⟩ := hQ83
  have N84 := Fr.app N82 N83q
  refine Goes.step (S' := T83.setTop (mkF m 142 #[.val (.long q0), .second, .val (.long q1), .second, .val (.long q2), .second, .val (.long q3), .second, .val (.long q4), .second, .val (.long q5), .second, .val (.long q5), .second, .val (.long v14_8), .second, .val (.long v16_14), .second, .val (.long v18_25), .second, .val (.long v20_36), .second, .val (.ref b1), .val (.ref b19), .val (.ref r50_0)] [(.long (f9 (q0 + q5) (q1 + v14_8) (q2 + v16_14) (q3 + v18_25) (q4 + v20_36)))])) (fun _ k => st83.trans k) ?_
  refine Goes.step (S' := T83.setTop (mkF m 144 #[.val (.long q0), .second, .val (.long q1), .second, .val (.long q2), .second, .val (.long q3), .second, .val (.long q4), .second, .val (.long q5), .second, .val (.long q5), .second, .val (.long v14_8), .second, .val (.long v16_14), .second, .val (.long v18_25), .second, .val (.long v20_36), .second, .val (.ref b1), .val (.ref b19), .val (.ref r50_0)] [(.long v20_36), (.long (f9 (q0 + q5) (q1 + v14_8) (q2 + v16_14) (q3 + v18_25) (q4 + v20_36)))])) (fun _ k => XS.lload X83.here hx rfl (hb hby at_142) rfl  k) ?_
  refine Goes.step (S' := T83.setTop (mkF m 145 #[.val (.long q0), .second, .val (.long q1), .second, .val (.long q2), .second, .val (.long q3), .second, .val (.long q4), .second, .val (.long q5), .second, .val (.long q5), .second, .val (.long v14_8), .second, .val (.long v16_14), .second, .val (.long v18_25), .second, .val (.long v20_36), .second, .val (.ref b1), .val (.ref b19), .val (.ref r50_0)] [(.long ((f9 (q0 + q5) (q1 + v14_8) (q2 + v16_14) (q3 + v18_25) (q4 + v20_36)) - v20_36))])) (fun _ k => XS.lsub X83.here hx rfl (hb hby at_144) rfl k) ?_
  refine Goes.step (S' := T83.setTop (mkF m 147 #[.val (.long q0), .second, .val (.long q1), .second, .val (.long q2), .second, .val (.long q3), .second, .val (.long q4), .second, .val (.long q5), .second, .val (.long q5), .second, .val (.long v14_8), .second, .val (.long v16_14), .second, .val (.long v18_25), .second, .val (.long v20_36), .second, .val (.ref b1), .val (.ref b19), .val (.ref r50_0)] [(.long q4), (.long ((f9 (q0 + q5) (q1 + v14_8) (q2 + v16_14) (q3 + v18_25) (q4 + v20_36)) - v20_36))])) (fun _ k => XS.lload X83.here hx rfl (hb hby at_145) rfl  k) ?_
  refine Goes.step (S' := T83.setTop (mkF m 148 #[.val (.long q0), .second, .val (.long q1), .second, .val (.long q2), .second, .val (.long q3), .second, .val (.long q4), .second, .val (.long q5), .second, .val (.long q5), .second, .val (.long v14_8), .second, .val (.long v16_14), .second, .val (.long v18_25), .second, .val (.long v20_36), .second, .val (.ref b1), .val (.ref b19), .val (.ref r50_0)] [(.int (lcmpW ((f9 (q0 + q5) (q1 + v14_8) (q2 + v16_14) (q3 + v18_25) (q4 + v20_36)) - v20_36) q4))])) (fun _ k => XS.lcmp X83.here hx rfl (hb hby at_147) rfl k) ?_
  refine Goes.step (S' := T83.setTop (mkF m 151 #[.val (.long q0), .second, .val (.long q1), .second, .val (.long q2), .second, .val (.long q3), .second, .val (.long q4), .second, .val (.long q5), .second, .val (.long q5), .second, .val (.long v14_8), .second, .val (.long v16_14), .second, .val (.long v18_25), .second, .val (.long v20_36), .second, .val (.ref b1), .val (.ref b19), .val (.ref r50_0)] [])) (fun _ k => XS.ifNo X83.here hx rfl (hb hby at_148) rfl ((if0 _ _).trans (teq ((lw_eq ((f9 (q0 + q5) (q1 + v14_8) (q2 + v16_14) (q3 + v18_25) (q4 + v20_36)) - v20_36) q4).mpr (own_hc0_148 q0 q1 q2 q3 q4 q5 v14_8 ev14_8 v16_14 ev16_14 v18_25 ev18_25 v20_36 ev20_36))).2) k) ?_
  refine Goes.step (S' := T83.setTop (mkF m 152 #[.val (.long q0), .second, .val (.long q1), .second, .val (.long q2), .second, .val (.long q3), .second, .val (.long q4), .second, .val (.long q5), .second, .val (.long q5), .second, .val (.long v14_8), .second, .val (.long v16_14), .second, .val (.long v18_25), .second, .val (.long v20_36), .second, .val (.ref b1), .val (.ref b19), .val (.ref r50_0)] [(.int (1 : Int32))])) (fun _ k => XS.iconst X83.here hx rfl (hb hby at_151) k) ?_
  refine Goes.step (S' := T83.setTop (mkF m 156 #[.val (.long q0), .second, .val (.long q1), .second, .val (.long q2), .second, .val (.long q3), .second, .val (.long q4), .second, .val (.long q5), .second, .val (.long q5), .second, .val (.long v14_8), .second, .val (.long v16_14), .second, .val (.long v18_25), .second, .val (.long v20_36), .second, .val (.ref b1), .val (.ref b19), .val (.ref r50_0)] [(.int (1 : Int32))])) (fun _ k => XS.goto X83.here hx rfl (pc0 := 152) (pc' := 156) rfl (hb hby at_152) (by decide) (by decide) k) ?_
  refine Goes.retN X83 hx Bd.notSynchronized (t := .boolean) Bd.returns (by simp) (hb hby at_156) (by decide) (by decide) ?_
  exact ⟨rfl, N84⟩
set_option maxRecDepth 65536 in
set_option maxHeartbeats 40000000 in
theorem comes_1 {Post : Tables → Env → Array Value → State → Outcome → State → Prop} (hpost : ∀ tb e args s v u, (limb_1_1.after args s (.returned v) u = true ∧ limb_1_2.after args s (.returned v) u = true ∧ True) → FrameEnd s (.returned v) u (Jvm.fieldLocs frame_1_writes args s ++ Jvm.arrayLocs frame_1_arrays args s ++ Jvm.staticLocs frame_1_statics s) 16 128 → Post tb e args s (.returned v) u) :
    ArmFor flags0 classFile x code maxLocals ret World_1 tables_1 room_1 Calls_1 rest_1 Pre_1 Post := by
  intro l hfl _ _ p e ha hc hk s m args below hf hA hF happ hP
  obtain ⟨hcalls, hrest, hpre⟩ := hP
  obtain ⟨-, -, -, hnamed, -, -, -, hat⟩ := (Spec.applies_iff hf).mp happ
  obtain ⟨hg, hn⟩ := and_e (Cond.before_iff.mp (show (Jvm.Cond.and given_1 narrow_1).before args s = true from hpre))
  obtain ⟨gg1, gg2⟩ := and_e hg
  obtain ⟨gg3, gg4⟩ := and_e gg2
  obtain ⟨gg5, gg6⟩ := and_e gg4
  obtain ⟨gg7, gg8⟩ := and_e gg6
  obtain ⟨gg9, gg10⟩ := and_e gg8
  obtain ⟨gg11, gg12⟩ := and_e gg10
  obtain ⟨w0, w1, w2, w3, w4, w5, rfl⟩ : ∃ w0 w1 w2 w3 w4 w5 : Value, args = #[w0, w1, w2, w3, w4, w5] := by
    have hs : args.size = 6 := by simpa [Cond.value, given_1] using gg1
    obtain ⟨L⟩ := args
    match L, hs with
    | [w0, w1, w2, w3, w4, w5], _ => exact ⟨w0, w1, w2, w3, w4, w5, rfl⟩
  have hw := fun d (hd : d ∈ tables_1) => atoms_spec (ws := Jvm.Cond.code x code maxLocals ret :: tables_1) hat d (List.mem_cons_of_mem _ hd)
  obtain ⟨i0, ei0⟩ := isL_v gg3
  obtain rfl : w0 = (.long i0) := Option.some.inj ei0
  obtain ⟨i1, ei1⟩ := isL_v gg5
  obtain rfl : w1 = (.long i1) := Option.some.inj ei1
  obtain ⟨i2, ei2⟩ := isL_v gg7
  obtain rfl : w2 = (.long i2) := Option.some.inj ei2
  obtain ⟨i3, ei3⟩ := isL_v gg9
  obtain rfl : w3 = (.long i3) := Option.some.inj ei3
  obtain ⟨i4, ei4⟩ := isL_v gg11
  obtain rfl : w4 = (.long i4) := Option.some.inj ei4
  obtain ⟨i5, ei5⟩ := isL_v gg12
  obtain rfl : w5 = (.long i5) := Option.some.inj ei5
  obtain ⟨n, o, h1, h2, h3, _, L, rfl, ⟨rfl, N⟩, hq⟩ := rm0 l s _ hw tables_1 i0 i1 i2 i3 i4 i5 s.heap s.heap.size (Nat.le_refl _) p e ha hc hk s m _ below hf ((Spec.applies_iff_loose hf).mp happ).1 ⟨rfl, State.Warmed39.refl s, rfl⟩ trivial
  refine ⟨n, _, h1, h2, h3, hpost _ _ _ _ _ _ ⟨Cond.after_iff.mpr rfl, Cond.after_iff.mpr (eq_i res_at (Term.int_eval (1)) rfl), trivial⟩ ⟨hq.1, hq.2.1, (hq.2.2.sift fun y hy => Or.inr (N y hy)).mono (by decide) (by decide)⟩⟩
theorem main_1_1 : Claimed_1_1 := comes_1 fun _ _ _ _ _ _ h hF => ⟨h.1, hF⟩
theorem main_1_2 : Claimed_1_2 := comes_1 fun _ _ _ _ _ _ h hF => ⟨h.2.1, hF⟩
end Jvm.Pilot.@@N@@
namespace Jvm.Pilot.@@N@@
open Jvm Jvm.ClassFile Sem Op Lib Jvm.Free Jvm.Stand Jvm.Pilot.@@N@@.Jvm.D
/-! MADE BY PROGRAM (witnessworld.py) out of the Statement's table words and the real class files: 10 classes; the members and pool entries that the words name. The judged class is class 1, her method 1. -/
namespace start1
open Jvm.ClassFile
def u (s : String) : CpInfo := .utf8 (stringToUtf16 s)
/-- a pool by its gaps: so many unusable entries, then the entry; so many at the end -/
def gap : Nat → List CpInfo → List CpInfo
  | 0, r => r
  | n + 1, r => .unusable :: gap n r
def poolList (es : List (Nat × CpInfo)) (last : Nat) : List CpInfo := es.foldr (fun e r => gap e.1 (e.2 :: r)) (gap last [])
def pool (es : List (Nat × CpInfo)) (last : Nat) : Array CpInfo := ⟨poolList es last⟩
def fileOf (pool : Array CpInfo) (this : Nat) (attrs : Array Attribute := #[]) (ms : Array MethodInfo := #[]) (fl : Nat := 33) (sup : Nat := 0) (ifs : Array Nat := #[]) (fds : Array FieldInfo := #[]) : ClassFile where
  minorVersion := 0
  majorVersion := 65
  constantPool := pool
  accessFlags := fl
  thisClass := this
  superClass := sup
  interfaces := ifs
  fields := fds
  methods := ms
  attributes := attrs
def plain (name : String) (sup : Option ClassId) : Class where
  name := name
  kind := .ordinary
  loader := none
  accessFlags := 33
  super := sup
  interfaces := #[]
  cf := none
  fields := #[]
  methods := #[]
  instanceTypes := #[]
  staticTypes := #[]
  resolved := #[]
  callSites := []
  init := .initialized
  statics := none
  mirror := none

def pool0 : Array CpInfo := pool [(5, u "<init>"), (0, u "()V"), (1, .class_ 10), (1, u "java/lang/Object")] 113

def k0c0 : Code := { maxStack := 0, maxLocals := 1, code := object_method_1_code, exceptionTable := #[], attributes := #[] }
def k0m0 : Method := { name := "<init>", desc := "()V", sig := { parameters := [], returnType := none }, accessFlags := 1, code := some k0c0 }
/-- java/lang/Object -/
def k0 : Class := { plain "java/lang/Object" none with
  accessFlags := 33
  interfaces := #[]
  cf := some (fileOf pool0 8 #[] #[{ accessFlags := 1, nameIndex := 5, descriptorIndex := 6, attributes := #[] }] 33 0 #[] #[])
  fields := #[]
  methods := #[k0m0]
  instanceTypes := #[]
  staticTypes := #[]
  resolved := Array.replicate 124 none
  statics := none }

def pool1 : Array CpInfo := pool [(2, .class_ 4), (1, u "java/lang/Object"), (0, u "<init>"), (0, u "()V"), (0, .long 3), (1, .long 18446744073709551615), (1, .class_ 12), (0, u "com/example/isopod/isopod/cli/Bench$Tally"), (0, .methodref 11 14), (0, .nameAndType 5 15), (0, u "(JJJJJ)V"), (0, .methodref 11 17), (0, .nameAndType 18 19), (0, u "plus"), (0, u "(Lcom/example/isopod/isopod/cli/Bench$Tally;)Lcom/example/isopod/isopod/cli/Bench$Tally;"), (0, .methodref 11 21), (0, .nameAndType 22 23), (0, u "sealNanos"), (0, u "()J"), (0, .methodref 11 25), (0, .nameAndType 26 23), (0, u "openNanos"), (0, .methodref 11 28), (0, .nameAndType 29 23), (0, u "sealRootKeyCalls"), (0, .methodref 11 31), (0, .nameAndType 32 23), (0, u "openRootKeyCalls"), (0, .methodref 11 34), (0, .nameAndType 35 23), (0, u "mismatches"), (0, .class_ 37), (0, u "com/example/isopod/isopod/cli/TallyPlusPinLaw"), (2, u "law"), (0, u "(JJJJJJ)Z")] 7

def k1m0 : Method := { name := "<init>", desc := "()V", sig := { parameters := [], returnType := none }, accessFlags := 1, code := none }
def k1c1 : Code := { maxStack := 12, maxLocals := 25, code := code, exceptionTable := #[], attributes := #[] }
def k1m1 : Method := { name := "law", desc := "(JJJJJJ)Z", sig := { parameters := [.long, .long, .long, .long, .long, .long], returnType := some .boolean }, accessFlags := 9, code := some k1c1 }
/-- com/example/isopod/isopod/cli/TallyPlusPinLaw -/
def k1 : Class := { plain "com/example/isopod/isopod/cli/TallyPlusPinLaw" (some 0) with
  accessFlags := 49
  interfaces := #[]
  cf := some (fileOf pool1 36 #[] #[{ accessFlags := 1, nameIndex := 5, descriptorIndex := 6, attributes := #[] }, { accessFlags := 9, nameIndex := 40, descriptorIndex := 41, attributes := #[] }] 49 2 #[] #[])
  fields := #[]
  methods := #[k1m0, k1m1]
  instanceTypes := #[]
  staticTypes := #[]
  resolved := Array.replicate 49 none
  statics := none }

def pool2 : Array CpInfo := pool [(1, .methodref 2 3), (0, .class_ 4), (0, .nameAndType 5 6), (0, u "java/lang/Object"), (0, u "<init>"), (0, u "()V"), (0, .class_ 8), (0, u "java/lang/Record")] 13

def k2c0 : Code := { maxStack := 1, maxLocals := 1, code := jdk_30_method_1_code, exceptionTable := #[], attributes := #[] }
def k2m0 : Method := { name := "<init>", desc := "()V", sig := { parameters := [], returnType := none }, accessFlags := 4, code := some k2c0 }
/-- java/lang/Record -/
def k2 : Class := { plain "java/lang/Record" (some 0) with
  accessFlags := 1057
  interfaces := #[]
  cf := some (fileOf pool2 7 #[] #[{ accessFlags := 4, nameIndex := 5, descriptorIndex := 6, attributes := #[] }] 1057 2 #[] #[])
  fields := #[]
  methods := #[k2m0]
  instanceTypes := #[]
  staticTypes := #[]
  resolved := Array.replicate 22 none
  statics := none }

def pool3 : Array CpInfo := pool [(1, .methodref 2 3), (0, .class_ 4), (0, .nameAndType 5 6), (0, u "java/lang/Record"), (0, u "<init>"), (0, u "()V"), (0, .fieldref 8 9), (0, .class_ 10), (0, .nameAndType 11 12), (0, u "com/example/isopod/isopod/cli/Bench$Tally"), (0, u "sealNanos"), (0, u "J"), (0, .fieldref 8 14), (0, .nameAndType 15 12), (0, u "openNanos"), (0, .fieldref 8 17), (0, .nameAndType 18 12), (0, u "sealRootKeyCalls"), (0, .fieldref 8 20), (0, .nameAndType 21 12), (0, u "openRootKeyCalls"), (0, .fieldref 8 23), (0, .nameAndType 24 12), (0, u "mismatches"), (0, .methodref 8 26), (0, .nameAndType 5 27), (0, u "(JJJJJ)V"), (14, u "NONE"), (0, u "Lcom/example/isopod/isopod/cli/Bench$Tally;"), (3, u "plus"), (0, u "(Lcom/example/isopod/isopod/cli/Bench$Tally;)Lcom/example/isopod/isopod/cli/Bench$Tally;"), (3, u "()J"), (4, .class_ 58), (0, u "com/example/isopod/isopod/cli/Bench")] 23

def k3c0 : Code := { maxStack := 3, maxLocals := 11, code := prog_25_method_1_code, exceptionTable := #[], attributes := #[] }
def k3m0 : Method := { name := "<init>", desc := "(JJJJJ)V", sig := { parameters := [.long, .long, .long, .long, .long], returnType := none }, accessFlags := 0, code := some k3c0 }
def k3c1 : Code := { maxStack := 14, maxLocals := 2, code := prog_25_method_2_code, exceptionTable := #[], attributes := #[] }
def k3m1 : Method := { name := "plus", desc := "(Lcom/example/isopod/isopod/cli/Bench$Tally;)Lcom/example/isopod/isopod/cli/Bench$Tally;", sig := { parameters := [(.object "com/example/isopod/isopod/cli/Bench$Tally")], returnType := some (.object "com/example/isopod/isopod/cli/Bench$Tally") }, accessFlags := 0, code := some k3c1 }
def k3c2 : Code := { maxStack := 2, maxLocals := 1, code := prog_25_method_6_code, exceptionTable := #[], attributes := #[] }
def k3m2 : Method := { name := "sealNanos", desc := "()J", sig := { parameters := [], returnType := some .long }, accessFlags := 1, code := some k3c2 }
def k3c3 : Code := { maxStack := 2, maxLocals := 1, code := prog_25_method_7_code, exceptionTable := #[], attributes := #[] }
def k3m3 : Method := { name := "openNanos", desc := "()J", sig := { parameters := [], returnType := some .long }, accessFlags := 1, code := some k3c3 }
def k3c4 : Code := { maxStack := 2, maxLocals := 1, code := prog_25_method_8_code, exceptionTable := #[], attributes := #[] }
def k3m4 : Method := { name := "sealRootKeyCalls", desc := "()J", sig := { parameters := [], returnType := some .long }, accessFlags := 1, code := some k3c4 }
def k3c5 : Code := { maxStack := 2, maxLocals := 1, code := prog_25_method_9_code, exceptionTable := #[], attributes := #[] }
def k3m5 : Method := { name := "openRootKeyCalls", desc := "()J", sig := { parameters := [], returnType := some .long }, accessFlags := 1, code := some k3c5 }
def k3c6 : Code := { maxStack := 2, maxLocals := 1, code := prog_25_method_10_code, exceptionTable := #[], attributes := #[] }
def k3m6 : Method := { name := "mismatches", desc := "()J", sig := { parameters := [], returnType := some .long }, accessFlags := 1, code := some k3c6 }
/-- com/example/isopod/isopod/cli/Bench$Tally -/
def k3 : Class := { plain "com/example/isopod/isopod/cli/Bench$Tally" (some 2) with
  accessFlags := 48
  interfaces := #[]
  cf := some (fileOf pool3 8 #[.nestHost 57] #[{ accessFlags := 0, nameIndex := 5, descriptorIndex := 27, attributes := #[] }, { accessFlags := 0, nameIndex := 47, descriptorIndex := 48, attributes := #[] }, { accessFlags := 1, nameIndex := 11, descriptorIndex := 52, attributes := #[] }, { accessFlags := 1, nameIndex := 15, descriptorIndex := 52, attributes := #[] }, { accessFlags := 1, nameIndex := 18, descriptorIndex := 52, attributes := #[] }, { accessFlags := 1, nameIndex := 21, descriptorIndex := 52, attributes := #[] }, { accessFlags := 1, nameIndex := 24, descriptorIndex := 52, attributes := #[] }] 48 2 #[] #[{ accessFlags := 18, nameIndex := 11, descriptorIndex := 12, attributes := #[] }, { accessFlags := 18, nameIndex := 15, descriptorIndex := 12, attributes := #[] }, { accessFlags := 18, nameIndex := 18, descriptorIndex := 12, attributes := #[] }, { accessFlags := 18, nameIndex := 21, descriptorIndex := 12, attributes := #[] }, { accessFlags := 18, nameIndex := 24, descriptorIndex := 12, attributes := #[] }, { accessFlags := 24, nameIndex := 42, descriptorIndex := 43, attributes := #[] }])
  fields := #[{ name := "sealNanos", type := .long, accessFlags := 18, slot := 0, constantValue := 0 }, { name := "openNanos", type := .long, accessFlags := 18, slot := 1, constantValue := 0 }, { name := "sealRootKeyCalls", type := .long, accessFlags := 18, slot := 2, constantValue := 0 }, { name := "openRootKeyCalls", type := .long, accessFlags := 18, slot := 3, constantValue := 0 }, { name := "mismatches", type := .long, accessFlags := 18, slot := 4, constantValue := 0 }, { name := "NONE", type := (.object "com/example/isopod/isopod/cli/Bench$Tally"), accessFlags := 24, slot := 0, constantValue := 0 }]
  methods := #[k3m0, k3m1, k3m2, k3m3, k3m4, k3m5, k3m6]
  instanceTypes := #[.long, .long, .long, .long, .long]
  staticTypes := #[(.object "com/example/isopod/isopod/cli/Bench$Tally")]
  resolved := Array.replicate 82 none
  statics := none }

def pool4 : Array CpInfo := pool [(1, u "java/lang/Cloneable"), (0, .class_ 1), (0, u "java/lang/Object"), (0, .class_ 3)] 3

/-- java/lang/Cloneable -/
def k4 : Class := { plain "java/lang/Cloneable" (some 0) with
  accessFlags := 1537
  interfaces := #[]
  cf := some (fileOf pool4 2 #[] #[] 1537 4 #[] #[])
  fields := #[]
  methods := #[]
  instanceTypes := #[]
  staticTypes := #[]
  resolved := Array.replicate 8 none
  statics := none }

def pool5 : Array CpInfo := pool [(1, u "java/io/Serializable"), (0, .class_ 1), (0, u "java/lang/Object"), (0, .class_ 3)] 3

/-- java/io/Serializable -/
def k5 : Class := { plain "java/io/Serializable" (some 0) with
  accessFlags := 1537
  interfaces := #[]
  cf := some (fileOf pool5 2 #[] #[] 1537 4 #[] #[])
  fields := #[]
  methods := #[]
  instanceTypes := #[]
  staticTypes := #[]
  resolved := Array.replicate 8 none
  statics := none }

/-- the primitive byte -/
def k6 : Class := { plain "byte" none with kind := .primitive 'B', accessFlags := 0x411 }
/-- [B -/
def k7 : Class := { plain "[B" (some 0) with kind := .array 6 .byte, interfaces := #[4, 5], accessFlags := 1041 }

/-- the primitive int -/
def k8 : Class := { plain "int" none with kind := .primitive 'I', accessFlags := 0x411 }
/-- [I -/
def k9 : Class := { plain "[I" (some 0) with kind := .array 8 .int, interfaces := #[4, 5], accessFlags := 1041 }

def heap : Heap := #[]
def classes : Array Class := #[k0, k1, k2, k3, k4, k5, k6, k7, k8, k9]
def interned : List (Array UInt16 × Addr) := []
def slotsUsed : Nat := 0
def theMethod : MethodId := ⟨1, 1⟩
def args0 : Array Value := #[.long 5, .long 5, .long 5, .long 5, .long 5, .long 5]
def aboutOver (below : List Frame) : State where
  vm := { classes := classes, interned := interned.toArray }
  heap := heap
  slotsUsed := slotsUsed
  threads := #[{ frames := .invoking theMethod args0 :: below }]
def below0 : List Frame := [.native { method := ⟨0, 0⟩, args := #[] }]
def about1 : State := aboutOver below0
def p0 : Program := .bare "" "" ""
def e0 : Env := launch0.env 0 0 0
theorem w_frames : about1.frames = Frame.invoking theMethod args0 :: below0 := rfl
set_option maxRecDepth 65536 in
theorem w_args : argsFit about1.vm theMethod args0 = true := by decide +kernel
set_option maxRecDepth 65536 in
theorem w_heap : heapFits about1 = true := by decide +kernel
set_option maxRecDepth 65536 in
theorem w_runnable : about1.curStatus? = some .runnable := by decide +kernel
set_option maxRecDepth 65536 in
theorem w_alone : about1.alone = true := by decide +kernel
set_option maxRecDepth 65536 in
theorem w_named : about1.methodNamed? x = some theMethod := by decide +kernel
set_option maxRecDepth 65536 in
theorem w_hears : about1.hears theMethod below0 = true := by decide +kernel
set_option maxRecDepth 65536 in
theorem w_ripe : about1.ripe theMethod args0 below0 = true := by decide +kernel
theorem w_running : about1.status = .running := rfl
set_option maxRecDepth 65536 in
theorem w_room : about1.hasRoom e0.platform room_1 = true :=
  launch0.hasRoom_least _ room_1 (by decide +kernel) (by decide +kernel) (by decide +kernel) (by decide +kernel) (by decide +kernel) (by decide +kernel)
theorem allAtoms_all (ts : List Jvm.Cond) (a : Array Jvm.Value) (st : Jvm.State) : (allAtoms ts).before a st = ts.all (fun c => c.before a st) := by
  induction ts with
  | nil => rfl
  | cons c t ih =>
    show (Jvm.Cond.and c (allAtoms t)).before a st = _
    rw [Jvm.Cond.before_and, ih, List.all_cons]
def words1 : List Jvm.Cond := Jvm.Cond.code x code maxLocals ret :: tables_1
/-- a 'code' word, met by the world's own term for the bytes: nothing is compared byte by byte -/
theorem code_word {y : MethodName} {bytes : ByteArray} {mx : Nat} {rt : Option FieldType} {a : Array Value} {s : State} {m : MethodId} {meth : Method} {c : Code} (h1 : s.methodNamed? y = some m) (h2 : s.vm.method? m = some meth) (h3 : meth.code = some c) (h4 : c.code = bytes)
    (h5 : (c.maxLocals == mx && c.exceptionTable.isEmpty && decide (c.maxStack ≤ mostOperands) && decide (meth.sig.returnType = rt) && !meth.locks && decide (parseMethodDescriptor y.desc = some meth.sig)) = true) : (Jvm.Cond.code y bytes mx rt).before a s = true := by
  simp only [Bool.and_eq_true, beq_iff_eq, Bool.not_eq_true', decide_eq_true_eq] at h5
  obtain ⟨⟨⟨⟨⟨g1, g2⟩, g3⟩, g4⟩, g5⟩, g6⟩ := h5
  simp [Cond.before, Cond.holds, Cond.value, h1, h2, h3, h4, g1, g2, g3, g4, g5, g6]
def isCode : Jvm.Cond → Bool
  | .code _ _ _ _ => true
  | _ => false
theorem all_split {L : List Jvm.Cond} {P : Jvm.Cond → Bool} (h1 : L.all (fun c => isCode c || P c) = true) (h2 : ∀ c ∈ L.filter isCode, P c = true) : L.all P = true := by
  refine List.all_eq_true.mpr fun c hc => ?_
  have h := List.all_eq_true.mp h1 c hc
  rcases Bool.eq_false_or_eq_true (isCode c) with hi | hi
  · exact h2 c (List.mem_filter.mpr ⟨hc, hi⟩)
  · simpa [hi] using h
set_option maxRecDepth 65536 in
theorem w_c0 : (Jvm.Cond.code x code maxLocals ret).before args0 about1 = true := code_word (m := ⟨1, 1⟩) (meth := k1m1) (c := k1c1) (by decide +kernel) rfl rfl rfl (by decide +kernel)
set_option maxRecDepth 65536 in
theorem w_c1 : (Jvm.Cond.code ({ cls := "com/example/isopod/isopod/cli/Bench$Tally", name := "<init>", desc := "(JJJJJ)V" } : Jvm.MethodName) prog_25_method_1_code (11 : Nat) (Option.none : Option Jvm.ClassFile.FieldType)).before args0 about1 = true := code_word (m := ⟨3, 0⟩) (meth := k3m0) (c := k3c0) (by decide +kernel) rfl rfl rfl (by decide +kernel)
set_option maxRecDepth 65536 in
theorem w_c2 : (Jvm.Cond.code ({ cls := "java/lang/Record", name := "<init>", desc := "()V" } : Jvm.MethodName) jdk_30_method_1_code (1 : Nat) (Option.none : Option Jvm.ClassFile.FieldType)).before args0 about1 = true := code_word (m := ⟨2, 0⟩) (meth := k2m0) (c := k2c0) (by decide +kernel) rfl rfl rfl (by decide +kernel)
set_option maxRecDepth 65536 in
theorem w_c3 : (Jvm.Cond.code ({ cls := "java/lang/Object", name := "<init>", desc := "()V" } : Jvm.MethodName) object_method_1_code (1 : Nat) (Option.none : Option Jvm.ClassFile.FieldType)).before args0 about1 = true := code_word (m := ⟨0, 0⟩) (meth := k0m0) (c := k0c0) (by decide +kernel) rfl rfl rfl (by decide +kernel)
set_option maxRecDepth 65536 in
theorem w_c4 : (Jvm.Cond.code ({ cls := "com/example/isopod/isopod/cli/Bench$Tally", name := "plus", desc := "(Lcom/example/isopod/isopod/cli/Bench$Tally;)Lcom/example/isopod/isopod/cli/Bench$Tally;" } : Jvm.MethodName) prog_25_method_2_code (2 : Nat) (Option.some (Jvm.ClassFile.FieldType.object "com/example/isopod/isopod/cli/Bench$Tally"))).before args0 about1 = true := code_word (m := ⟨3, 1⟩) (meth := k3m1) (c := k3c1) (by decide +kernel) rfl rfl rfl (by decide +kernel)
set_option maxRecDepth 65536 in
theorem w_c5 : (Jvm.Cond.code ({ cls := "com/example/isopod/isopod/cli/Bench$Tally", name := "sealNanos", desc := "()J" } : Jvm.MethodName) prog_25_method_6_code (1 : Nat) (Option.some Jvm.ClassFile.FieldType.long)).before args0 about1 = true := code_word (m := ⟨3, 2⟩) (meth := k3m2) (c := k3c2) (by decide +kernel) rfl rfl rfl (by decide +kernel)
set_option maxRecDepth 65536 in
theorem w_c6 : (Jvm.Cond.code ({ cls := "com/example/isopod/isopod/cli/Bench$Tally", name := "openNanos", desc := "()J" } : Jvm.MethodName) prog_25_method_7_code (1 : Nat) (Option.some Jvm.ClassFile.FieldType.long)).before args0 about1 = true := code_word (m := ⟨3, 3⟩) (meth := k3m3) (c := k3c3) (by decide +kernel) rfl rfl rfl (by decide +kernel)
set_option maxRecDepth 65536 in
theorem w_c7 : (Jvm.Cond.code ({ cls := "com/example/isopod/isopod/cli/Bench$Tally", name := "sealRootKeyCalls", desc := "()J" } : Jvm.MethodName) prog_25_method_8_code (1 : Nat) (Option.some Jvm.ClassFile.FieldType.long)).before args0 about1 = true := code_word (m := ⟨3, 4⟩) (meth := k3m4) (c := k3c4) (by decide +kernel) rfl rfl rfl (by decide +kernel)
set_option maxRecDepth 65536 in
theorem w_c8 : (Jvm.Cond.code ({ cls := "com/example/isopod/isopod/cli/Bench$Tally", name := "openRootKeyCalls", desc := "()J" } : Jvm.MethodName) prog_25_method_9_code (1 : Nat) (Option.some Jvm.ClassFile.FieldType.long)).before args0 about1 = true := code_word (m := ⟨3, 5⟩) (meth := k3m5) (c := k3c5) (by decide +kernel) rfl rfl rfl (by decide +kernel)
set_option maxRecDepth 65536 in
theorem w_c9 : (Jvm.Cond.code ({ cls := "com/example/isopod/isopod/cli/Bench$Tally", name := "mismatches", desc := "()J" } : Jvm.MethodName) prog_25_method_10_code (1 : Nat) (Option.some Jvm.ClassFile.FieldType.long)).before args0 about1 = true := code_word (m := ⟨3, 6⟩) (meth := k3m6) (c := k3c6) (by decide +kernel) rfl rfl rfl (by decide +kernel)
def codes1 : List Jvm.Cond := [Jvm.Cond.code x code maxLocals ret, Jvm.Cond.code ({ cls := "com/example/isopod/isopod/cli/Bench$Tally", name := "<init>", desc := "(JJJJJ)V" } : Jvm.MethodName) prog_25_method_1_code (11 : Nat) (Option.none : Option Jvm.ClassFile.FieldType), Jvm.Cond.code ({ cls := "java/lang/Record", name := "<init>", desc := "()V" } : Jvm.MethodName) jdk_30_method_1_code (1 : Nat) (Option.none : Option Jvm.ClassFile.FieldType), Jvm.Cond.code ({ cls := "java/lang/Object", name := "<init>", desc := "()V" } : Jvm.MethodName) object_method_1_code (1 : Nat) (Option.none : Option Jvm.ClassFile.FieldType), Jvm.Cond.code ({ cls := "com/example/isopod/isopod/cli/Bench$Tally", name := "plus", desc := "(Lcom/example/isopod/isopod/cli/Bench$Tally;)Lcom/example/isopod/isopod/cli/Bench$Tally;" } : Jvm.MethodName) prog_25_method_2_code (2 : Nat) (Option.some (Jvm.ClassFile.FieldType.object "com/example/isopod/isopod/cli/Bench$Tally")), Jvm.Cond.code ({ cls := "com/example/isopod/isopod/cli/Bench$Tally", name := "sealNanos", desc := "()J" } : Jvm.MethodName) prog_25_method_6_code (1 : Nat) (Option.some Jvm.ClassFile.FieldType.long), Jvm.Cond.code ({ cls := "com/example/isopod/isopod/cli/Bench$Tally", name := "openNanos", desc := "()J" } : Jvm.MethodName) prog_25_method_7_code (1 : Nat) (Option.some Jvm.ClassFile.FieldType.long), Jvm.Cond.code ({ cls := "com/example/isopod/isopod/cli/Bench$Tally", name := "sealRootKeyCalls", desc := "()J" } : Jvm.MethodName) prog_25_method_8_code (1 : Nat) (Option.some Jvm.ClassFile.FieldType.long), Jvm.Cond.code ({ cls := "com/example/isopod/isopod/cli/Bench$Tally", name := "openRootKeyCalls", desc := "()J" } : Jvm.MethodName) prog_25_method_9_code (1 : Nat) (Option.some Jvm.ClassFile.FieldType.long), Jvm.Cond.code ({ cls := "com/example/isopod/isopod/cli/Bench$Tally", name := "mismatches", desc := "()J" } : Jvm.MethodName) prog_25_method_10_code (1 : Nat) (Option.some Jvm.ClassFile.FieldType.long)]
set_option maxRecDepth 65536 in
theorem codes_eq : words1.filter isCode = codes1 := rfl
theorem w_codes : ∀ c ∈ words1.filter isCode, c.before args0 about1 = true := by
  rw [codes_eq]
  intro c hc
  simp only [codes1, List.mem_cons, List.not_mem_nil, or_false] at hc
  rcases hc with rfl | rfl | rfl | rfl | rfl | rfl | rfl | rfl | rfl | rfl
  · exact w_c0
  · exact w_c1
  · exact w_c2
  · exact w_c3
  · exact w_c4
  · exact w_c5
  · exact w_c6
  · exact w_c7
  · exact w_c8
  · exact w_c9
set_option maxRecDepth 65536 in
theorem w_t1 : (words1.take 24).all (fun c => isCode c || c.before args0 about1) = true := by decide +kernel
set_option maxRecDepth 65536 in
theorem w_t2 : ((words1.drop 24).take 24).all (fun c => isCode c || c.before args0 about1) = true := by decide +kernel
set_option maxRecDepth 65536 in
theorem w_t3 : ((words1.drop 24).drop 24).all (fun c => isCode c || c.before args0 about1) = true := by decide +kernel
theorem w_tables : (allAtoms (Jvm.Cond.code x code maxLocals ret :: tables_1)).before args0 about1 = true := by
  rw [allAtoms_all]
  show words1.all (fun c => c.before args0 about1) = true
  refine all_split ?_ w_codes
  rw [← List.take_append_drop 24 words1, List.all_append, w_t1, ← List.take_append_drop 24 (words1.drop 24), List.all_append, w_t2, w_t3]
  rfl
set_option maxRecDepth 65536 in
theorem w_case : (Jvm.Cond.and given_1 narrow_1).before args0 about1 = true := by decide +kernel
theorem w_applies : (headSpec (Jvm.Cond.code x code maxLocals ret :: tables_1) room_1).applies x e0.platform about1 = true :=
  (Spec.applies_iff w_frames).mpr ⟨w_running, w_runnable, w_alone, w_named, w_hears, w_ripe, w_room, w_tables⟩
theorem atStart : AtStart classFile x code maxLocals ret World_1 tables_1 room_1 Calls_1 rest_1 Pre_1 launch0 p0 e0 about1 theMethod args0 below0 :=
  ⟨lists_1, trivial, launch0.admits_env _ _ _, launch0.least_env, fairChoices_fair.cas, fairChoices_fair.clock, w_frames, w_args, w_heap, w_applies, trivial, trivial, w_case⟩
end start1
theorem witness_1 : WitnessClaimed_1 := ⟨start1.p0, start1.e0, start1.about1, start1.theMethod, start1.args0, start1.below0, start1.atStart⟩
end Jvm.Pilot.@@N@@
