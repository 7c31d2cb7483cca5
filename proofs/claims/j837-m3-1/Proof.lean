import JvmDerived
import JvmDerived.Pilot.@@N@@Statement
import JvmDerived.Pilot.@@N@@Code
set_option linter.unusedVariables false
set_option linter.unusedSimpArgs false
namespace Jvm.RoadKit
open Sem ClassFile Op Lib Jvm.Stand Jvm.Free Jvm.LawKit
section New
variable {p : Program} {l : Launch} {e : Env} {R : Room} {s : State} {m : MethodId} {args : Array Value} {below : List Frame} {meth : Method} {c : Code} {T : State} {locs : List Loc} {cells slots : Nat}
theorem retI (X : Stand p l e R s m args below meth c T locs cells slots) (hx : p.tables.exec = Jvm.exec) {pc : Nat} {Ls : Array Slot} {z : Int32} {rest : List Value} (hret : meth.sig.returnType = some .int) (hd : decode c.code pc = .ok (.ireturn, 1)) {fs : List Frame}
    (hl : ∀ (f : JFrame) (acts : List Action), f.method = m → f.locked = none → f.entered = [] → (doReturn e (T.setTop f) acts (some (.int z))).1 = T.setFrames fs) : Steps p.tables e below (T.setTop (mkF m pc Ls (.int z :: rest))) (T.setFrames fs) := by
  have hm' : T.vm.method? m = some meth := X.method'
  have hn : narrow .int (.int z) = .int z := rfl
  show Steps p.tables e below (T.setTop { method := m, pc := pc, locals := Ls, stack := _ :: rest, locked := none }) _
  jvm_step X.here [X.here.top, hx, hd, hm', hret, hn]
  first | (intro acts; rw [hl _ acts rfl rfl rfl]) | rw [hl _ _ rfl rfl rfl]
  exact Steps.refl _
end New
end Jvm.RoadKit
namespace Jvm.Pilot.@@N@@
open Jvm Jvm.ClassFile Sem Op Lib Jvm.Free Jvm.Stand Jvm.LawKit Jvm.RoadKit Bundle Jvm.Pilot.@@N@@.Jvm.D
/-! MY OWN LAYER, 1: a walk in forward style -/
/-- from the state S the run ends, and Q holds of the end -/
def Goes (tb : Tables) (e : Env) (below : List Frame) (Q : Outcome → State → Prop) (S : State) : Prop :=
  ∃ s₂ o, Steps tb e below S s₂ ∧ s₂.status = .running ∧ Ended s₂ below o ∧ Q o s₂
theorem Goes.out {tb : Tables} {e : Env} {below : List Frame} {Q : Outcome → State → Prop} {S : State} (h : Goes tb e below Q S) :
    ∃ s₂ o, Steps tb e below S s₂ ∧ s₂.status = .running ∧ Ended s₂ below o ∧ Q o s₂ := h
theorem Goes.step {tb : Tables} {e : Env} {below : List Frame} {Q : Outcome → State → Prop} {S S' : State}
    (h : ∀ t, Steps tb e below S' t → Steps tb e below S t) (k : Goes tb e below Q S') : Goes tb e below Q S := by
  obtain ⟨s₂, o, h1, h2⟩ := k
  exact ⟨s₂, o, h _ h1, h2⟩
section Ites
variable {tb : Tables} {e : Env} {below : List Frame} {T S : State} {c : Prop} [Decidable c]
theorem own_ite0 {F : JFrame} (hy : c → ∀ t, Steps tb e below (T.setTop F) t → Steps tb e below S t) (hn : ¬ c → ∀ t, Steps tb e below (T.setTop F) t → Steps tb e below S t) :
    ∀ t, Steps tb e below (T.setTop F) t → Steps tb e below S t := fun t k => by
  by_cases h : c
  · exact hy h t k
  · exact hn h t k
theorem own_ite1 {A0 : Type} {a0 b0 : A0} {F : A0 → JFrame} (hy : c → ∀ t, Steps tb e below (T.setTop (F a0)) t → Steps tb e below S t) (hn : ¬ c → ∀ t, Steps tb e below (T.setTop (F b0)) t → Steps tb e below S t) :
    ∀ t, Steps tb e below (T.setTop (F (if c then a0 else b0))) t → Steps tb e below S t := fun t k => by
  by_cases h : c
  · rw [if_pos h] at k; exact hy h t k
  · rw [if_neg h] at k; exact hn h t k
theorem own_ite2 {A0 A1 : Type} {a0 b0 : A0} {a1 b1 : A1} {F : A0 → A1 → JFrame} (hy : c → ∀ t, Steps tb e below (T.setTop (F a0 a1)) t → Steps tb e below S t) (hn : ¬ c → ∀ t, Steps tb e below (T.setTop (F b0 b1)) t → Steps tb e below S t) :
    ∀ t, Steps tb e below (T.setTop (F (if c then a0 else b0) (if c then a1 else b1))) t → Steps tb e below S t := fun t k => by
  by_cases h : c
  · rw [if_pos h, if_pos h] at k; exact hy h t k
  · rw [if_neg h, if_neg h] at k; exact hn h t k
theorem own_ite3 {A0 A1 A2 : Type} {a0 b0 : A0} {a1 b1 : A1} {a2 b2 : A2} {F : A0 → A1 → A2 → JFrame} (hy : c → ∀ t, Steps tb e below (T.setTop (F a0 a1 a2)) t → Steps tb e below S t) (hn : ¬ c → ∀ t, Steps tb e below (T.setTop (F b0 b1 b2)) t → Steps tb e below S t) :
    ∀ t, Steps tb e below (T.setTop (F (if c then a0 else b0) (if c then a1 else b1) (if c then a2 else b2))) t → Steps tb e below S t := fun t k => by
  by_cases h : c
  · rw [if_pos h, if_pos h, if_pos h] at k; exact hy h t k
  · rw [if_neg h, if_neg h, if_neg h] at k; exact hn h t k
end Ites
section Rets
variable {p : Program} {l : Launch} {e : Env} {R : Room} {s : State} {m : MethodId} {args : Array Value} {below : List Frame} {meth : Method} {c : Code} {T : State} {locs : List Loc} {cells slots : Nat}
variable {QQ : Option Value → Heap → List Loc → Prop} {C0 S0 : Nat} {pc : Nat} {Ls : Array Slot} {rest : List Value}
theorem Goes.retN (X : Stand p l e R s m args below meth c T locs cells slots) (hx : p.tables.exec = Jvm.exec) (hlk : meth.locks = false) {t : FieldType} {z : Int32} (hret : meth.sig.returnType = some t) (ht : t = .boolean ∨ t = .byte ∨ t = .char ∨ t = .short)
    (hd : decode c.code pc = .ok (.ireturn, 1)) (hC : cells ≤ C0) (hS : slots ≤ S0) (hQ : QQ (some (.int (nar t z))) T.heap locs) :
    Goes p.tables e below (fun o U' => ∃ v L, o = .returned v ∧ QQ v U'.heap L ∧ FrameEnd s o U' L C0 S0) (T.setTop (mkF m pc Ls (.int z :: rest))) := by
  obtain ⟨fs, hr, hrun, hended, hW, hsame⟩ := X.leave (v := some (.int (nar t z))) (fun h => by rw [hret] at h; cases h) hlk
  exact ⟨_, _, Jvm.RoadKit.retN X hx hret ht hd hr, hrun, hended, _, _, rfl, hQ, ⟨_, rfl⟩, hW, hsame.mono hC hS⟩
theorem Goes.retI (X : Stand p l e R s m args below meth c T locs cells slots) (hx : p.tables.exec = Jvm.exec) (hlk : meth.locks = false) {z : Int32} (hret : meth.sig.returnType = some .int)
    (hd : decode c.code pc = .ok (.ireturn, 1)) (hC : cells ≤ C0) (hS : slots ≤ S0) (hQ : QQ (some (.int z)) T.heap locs) :
    Goes p.tables e below (fun o U' => ∃ v L, o = .returned v ∧ QQ v U'.heap L ∧ FrameEnd s o U' L C0 S0) (T.setTop (mkF m pc Ls (.int z :: rest))) := by
  obtain ⟨fs, hr, hrun, hended, hW, hsame⟩ := X.leave (v := some (.int z)) (fun h => by rw [hret] at h; cases h) hlk
  exact ⟨_, _, Jvm.RoadKit.retI X hx hret hd hr, hrun, hended, _, _, rfl, hQ, ⟨_, rfl⟩, hW, hsame.mono hC hS⟩
theorem Goes.retJ (X : Stand p l e R s m args below meth c T locs cells slots) (hx : p.tables.exec = Jvm.exec) (hlk : meth.locks = false) {z : Int64} (hret : meth.sig.returnType = some .long)
    (hd : decode c.code pc = .ok (.lreturn, 1)) (hC : cells ≤ C0) (hS : slots ≤ S0) (hQ : QQ (some (.long z)) T.heap locs) :
    Goes p.tables e below (fun o U' => ∃ v L, o = .returned v ∧ QQ v U'.heap L ∧ FrameEnd s o U' L C0 S0) (T.setTop (mkF m pc Ls (.long z :: rest))) := by
  obtain ⟨fs, hr, hrun, hended, hW, hsame⟩ := X.leave (v := some (.long z)) (fun h => by rw [hret] at h; cases h) hlk
  refine ⟨_, _, ?_, hrun, hended, _, _, rfl, hQ, ⟨_, rfl⟩, hW, hsame.mono hC hS⟩
  jvm_step X.here [X.here.top, hx, hd, X.method', hret, narrow]
  first | (intro acts; rw [hr _ acts rfl rfl rfl]) | rw [hr _ _ rfl rfl rfl]
  exact Steps.refl _
theorem Goes.retA (X : Stand p l e R s m args below meth c T locs cells slots) (hx : p.tables.exec = Jvm.exec) (hlk : meth.locks = false) {a : Addr} {t : FieldType} (hret : meth.sig.returnType = some t) (ht : t.isReference = true)
    (hd : decode c.code pc = .ok (.areturn, 1)) (hC : cells ≤ C0) (hS : slots ≤ S0) (hQ : QQ (some (.ref a)) T.heap locs) :
    Goes p.tables e below (fun o U' => ∃ v L, o = .returned v ∧ QQ v U'.heap L ∧ FrameEnd s o U' L C0 S0) (T.setTop (mkF m pc Ls (.ref a :: rest))) := by
  obtain ⟨fs, hr, hrun, hended, hW, hsame⟩ := X.leave (v := some (.ref a)) (fun h => by rw [hret] at h; cases h) hlk
  refine ⟨_, _, ?_, hrun, hended, _, _, rfl, hQ, ⟨_, rfl⟩, hW, hsame.mono hC hS⟩
  jvm_step X.here [X.here.top, hx, hd, X.method', hret, Value.isRef, ht]
  first | (intro acts; rw [hr _ acts rfl rfl rfl]) | rw [hr _ _ rfl rfl rfl]
  exact Steps.refl _
theorem Goes.retV (X : Stand p l e R s m args below meth c T locs cells slots) (hx : p.tables.exec = Jvm.exec) (hlk : meth.locks = false) (hret : meth.sig.returnType = none)
    (hd : decode c.code pc = .ok (.return_, 1)) (hC : cells ≤ C0) (hS : slots ≤ S0) (hQ : QQ none T.heap locs) :
    Goes p.tables e below (fun o U' => ∃ v L, o = .returned v ∧ QQ v U'.heap L ∧ FrameEnd s o U' L C0 S0) (T.setTop (mkF m pc Ls [])) := by
  obtain ⟨fs, hr, hrun, hended, hW, hsame⟩ := X.leave (v := none) (fun _ => rfl) hlk
  exact ⟨_, _, X.returnOut hx hret hd hr, hrun, hended, _, _, rfl, hQ, ⟨_, rfl⟩, hW, hsame.mono hC hS⟩
theorem own_lrem {g : JFrame} {target : State} (X : Stand p l e R s m args below meth c T locs cells slots) (hx : p.tables.exec = Jvm.exec) (hg : g.method = m) {x y : Int64} {rest : List Value} (hd : decode c.code g.pc = .ok (.lrem, 1)) (hs : g.stack = .long y :: .long x :: rest) (hy : y ≠ 0)
    (hr : Steps p.tables e below (T.setTop { g with pc := g.pc + 1, stack := .long (x % y) :: rest }) target) : Steps p.tables e below (T.setTop g) target :=
  XS.lrem X.here hx hg hd hs hy (by rw [lrem_mod]; exact hr)
end Rets
/-! MY OWN LAYER, 2: an array of ints (bytes, chars ..) by the list of its values, whole -/
def AI (Z : State) (h : Heap) (a : Addr) (k : ClassId) (ty : FieldType) (n : Int32) (vs : List Int32) : Prop :=
  Arv Z h a k ty n (vs.map Value.int) (.int 0) ∧ vs.length = n.toNatClampNeg
section Arrays
variable {p : Program} {l : Launch} {e : Env} {R : Room} {s : State} {m : MethodId} {args : Array Value} {below : List Frame} {meth : Method} {c : Code} {T : State} {locs : List Loc} {cells slots : Nat}
variable {Z : State} {h h' : Heap} {a b : Addr} {k : ClassId} {ty : FieldType} {n : Int32} {vs : List Int32} {sl : Nat} {v : Value} {ws : List Addr}
theorem AI.lt (F : AI Z h a k ty n vs) : a < h.size := F.1.lt
theorem AI.nn (F : AI Z h a k ty n vs) : ¬ n < 0 := by obtain ⟨⟨c, -, -, -, q, -⟩, -⟩ := F; exact q
theorem AI.ext (F : AI Z h a k ty n vs) (E : Ext h h') : AI Z h' a k ty n vs := ⟨F.1.ext E, F.2⟩
theorem AI.other (F : AI Z h b k ty n vs) (W : Wr h h' a sl v) (q : b ≠ a) : AI Z h' b k ty n vs := ⟨F.1.other W q, F.2⟩
theorem AI.keep (F : AI Z h a k ty n vs) (K : Keep h h' ws) (q : a ∉ ws) : AI Z h' a k ty n vs := ⟨F.1.keep K q, F.2⟩
theorem own_getD (vs : List Int32) (i : Nat) : (vs.map Value.int).getD i (.int 0) = .int (vs.getD i 0) := by
  simp only [List.getD_eq_getElem?_getD, List.getElem?_map]
  cases vs[i]? <;> rfl
theorem own_new {q : Int32} (A : Arr Z h a (newA k ty q) ty) (hq : ¬ q < 0) (hd : defaultValue ty = .int 0) {vs : List Int32} (hv : vs = List.replicate q.toNatClampNeg 0 := by rfl) : AI Z h a k ty q vs := by
  subst hv
  have V := Arv.new A hq
  rw [hd] at V
  refine ⟨?_, by simp⟩
  have q1 := V.pad (pad_rep [] (.int 0) q.toNatClampNeg)
  rw [List.nil_append] at q1
  rw [List.map_replicate]; exact q1
theorem own_inb {cl : Cell} {j : Int32} (S : cl.slots.size = n.toNatClampNeg) (q : ¬ j < 0 ∧ j < n) : ¬ (j < 0 ∨ cl.slots.size ≤ j.toNatClampNeg) := inb_of S q
theorem own_jlt {j : Int32} (q : ¬ j < 0 ∧ j < n) : j.toNatClampNeg < n.toNatClampNeg := by
  obtain ⟨q1, q2⟩ := q
  rw [Int32.lt_iff_toInt_lt] at q1 q2
  have e0 : (0 : Int32).toInt = 0 := rfl
  simp only [Int32.toNatClampNeg] at *; omega
theorem own_iaload {pc : Nat} {Ls : Array Slot} {rest : List Value} {j : Int32} (X : Stand p l e R s m args below meth c T locs cells slots) (hx : p.tables.exec = Jvm.exec) (hZ : Z.Warmed39 s.vm) (eT : T.heap = h) (F : AI Z h a k .int n vs) (hj : ¬ j < 0 ∧ j < n)
    (hd : decode c.code pc = .ok (.iaload, 1)) (t : State) (kk : Steps p.tables e below (T.setTop (mkF m (pc + 1) Ls (.int (vs.getD j.toNatClampNeg 0) :: rest))) t) : Steps p.tables e below (T.setTop (mkF m pc Ls (.int j :: .ref a :: rest))) t := by
  obtain ⟨⟨cl, A, -, S, -, H, -⟩, hl⟩ := F
  have hin := own_inb S hj
  exact X.iaload hx (j := j) (v := .int (vs.getD j.toNatClampNeg 0)) (by rw [eT]; exact A.1) (State.isArrayOf_alike hZ.alike A.2.1) A.2.2 hin (H.at hin (own_getD _ _)) (g := mkF m pc Ls (.int j :: .ref a :: rest)) rfl rfl hd _ kk
theorem own_baload {pc : Nat} {Ls : Array Slot} {rest : List Value} {j : Int32} (X : Stand p l e R s m args below meth c T locs cells slots) (hx : p.tables.exec = Jvm.exec) (hZ : Z.Warmed39 s.vm) (eT : T.heap = h) (F : AI Z h a k .byte n vs) (hj : ¬ j < 0 ∧ j < n)
    (hd : decode c.code pc = .ok (.baload, 1)) (t : State) (kk : Steps p.tables e below (T.setTop (mkF m (pc + 1) Ls (.int (vs.getD j.toNatClampNeg 0) :: rest))) t) : Steps p.tables e below (T.setTop (mkF m pc Ls (.int j :: .ref a :: rest))) t := by
  obtain ⟨⟨cl, A, -, S, -, H, -⟩, hl⟩ := F
  have hin := own_inb S hj
  exact X.baloadBytes hx (j := j) (v := .int (vs.getD j.toNatClampNeg 0)) (by rw [eT]; exact A.1) (State.isArrayOf_alike hZ.alike A.2.1) A.2.2 hin (H.at hin (own_getD _ _)) (g := mkF m pc Ls (.int j :: .ref a :: rest)) rfl rfl hd _ kk
theorem own_len {pc : Nat} {Ls : Array Slot} {rest : List Value} (X : Stand p l e R s m args below meth c T locs cells slots) (hx : p.tables.exec = Jvm.exec) (hZ : Z.Warmed39 s.vm) (eT : T.heap = h) (F : AI Z h a k ty n vs)
    (hd : decode c.code pc = .ok (.arraylength, 1)) (t : State) (kk : Steps p.tables e below (T.setTop (mkF m (pc + 1) Ls (.int n :: rest))) t) : Steps p.tables e below (T.setTop (mkF m pc Ls (.ref a :: rest))) t := by
  obtain ⟨⟨cl, A, -, S, N, H, -⟩, hl⟩ := F
  refine X.arraylength hx (by rw [eT]; exact A.1) (State.isArrayOf_alike hZ.alike A.2.1) (g := mkF m pc Ls (.ref a :: rest)) rfl rfl hd _ ?_
  rw [len_of S N]; exact kk
theorem own_iastore {j x : Int32} (X : Stand p l e R s m args below meth c T locs cells slots) (hx : p.tables.exec = Jvm.exec) (hZ : Z.Warmed39 s.vm) (eT : T.heap = h) (F : AI Z h a k .int n vs) (hj : ¬ j < 0 ∧ j < n) {g : JFrame} (hg : g.method = m) {rest : List Value} (hs : g.stack = .int x :: .int j :: .ref a :: rest) (hd : decode c.code g.pc = .ok (.iastore, 1)) :
    ∃ T' h', Stand p l e R s m args below meth c T' (locs ++ [⟨a, j.toNatClampNeg⟩]) cells slots ∧ T'.heap = h' ∧ Wr h h' a j.toNatClampNeg (.int x) ∧ AI Z h' a k .int n (vs.set j.toNatClampNeg x) ∧ ∀ target, Steps p.tables e below (T'.setTop { g with pc := g.pc + 1, stack := rest }) target → Steps p.tables e below (T.setTop g) target := by
  obtain ⟨⟨cl, A, q1, S, N, H, G⟩, hl⟩ := F
  obtain ⟨T', h', X', e', W, st⟩ := stI X hx hZ eT A (own_inb S hj) hg hs hd
  refine ⟨T', h', X', e', W, ⟨?_, by simpa using hl⟩, st⟩
  rw [List.map_set]
  exact Arv.set A q1 S N H G rfl W _ rfl (by rw [List.length_map, hl]; exact own_jlt hj)
theorem own_bastore {j x : Int32} (X : Stand p l e R s m args below meth c T locs cells slots) (hx : p.tables.exec = Jvm.exec) (hZ : Z.Warmed39 s.vm) (eT : T.heap = h) (F : AI Z h a k .byte n vs) (hj : ¬ j < 0 ∧ j < n) {g : JFrame} (hg : g.method = m) {rest : List Value} (hs : g.stack = .int x :: .int j :: .ref a :: rest) (hd : decode c.code g.pc = .ok (.bastore, 1)) :
    ∃ T' h', Stand p l e R s m args below meth c T' (locs ++ [⟨a, j.toNatClampNeg⟩]) cells slots ∧ T'.heap = h' ∧ Wr h h' a j.toNatClampNeg (.int (nar .byte x)) ∧ AI Z h' a k .byte n (vs.set j.toNatClampNeg (nar .byte x)) ∧ ∀ target, Steps p.tables e below (T'.setTop { g with pc := g.pc + 1, stack := rest }) target → Steps p.tables e below (T.setTop g) target := by
  obtain ⟨⟨cl, A, q1, S, N, H, G⟩, hl⟩ := F
  obtain ⟨T', h', X', e', W, st⟩ := stB X hx hZ eT A (own_inb S hj) hg hs hd
  refine ⟨T', h', X', e', W, ⟨?_, by simpa using hl⟩, st⟩
  rw [List.map_set]
  exact Arv.set A q1 S N H G (fits_nar_byte _) W _ rfl (by rw [List.length_map, hl]; exact own_jlt hj)
end Arrays
/-! MY OWN LAYER, 3: numbers -/
theorem own_b255 (x : Int32) : (nar .byte (x.toInt8.toInt32)) &&& 255 = x &&& 255 := by
  have a := c_i2b x
  have b := c_i2b x.toInt8.toInt32
  have m1 : ((x.toInt8.toInt32.toInt8.toInt32) &&& 255).toInt = (x.toInt8.toInt32.toInt8.toInt32).toInt % 256 := c_mask _ 255 8 (by decide) (by decide)
  have m2 : (x &&& 255).toInt = x.toInt % 256 := c_mask _ 255 8 (by decide) (by decide)
  apply Int32.toInt_inj.mp
  show ((x.toInt8.toInt32.toInt8.toInt32) &&& 255).toInt = _
  omega
theorem own_m255 (x : Int32) : (x &&& 255).toInt = x.toInt % 256 := c_mask _ 255 8 (by decide) (by decide)
theorem own_or8 (a b : Int32) (h1 : 0 ≤ a.toInt) (h2 : a.toInt < 256) (h3 : 0 ≤ b.toInt) (h4 : b.toInt < 256) : ((a <<< ((8 : Int32) &&& 31)) ||| b).toInt = a.toInt * 256 + b.toInt := by
  have s : ((a <<< ((8 : Int32) &&& 31)).toInt - a.toInt * 256) % 4294967296 = 0 := c_ishl a 8 8 (by decide)
  have r := rng32 (a <<< ((8 : Int32) &&& 31))
  have e : (a <<< ((8 : Int32) &&& 31)).toInt = a.toInt * 256 := by omega
  have o := c_or (a <<< ((8 : Int32) &&& 31)) b 8 (by decide) 256 (by decide) (by omega) h3 h4
  have r2 := rng32 ((a <<< ((8 : Int32) &&& 31)) ||| b)
  omega
theorem own_nar0 : nar .boolean 0 = 0 := by decide
theorem own_nar1 : nar .boolean 1 = 1 := by decide
theorem own_frapp {k : Nat} {L L' M : List Loc} (h : M = L ++ L') (N : Fr k L) (N' : Fr k L') : Fr k M := h ▸ N.app N'
/-! MY OWN LAYER, 4: a byte[] whose class is known by its name; clone() of it -/
section Clone
variable {p : Program} {l : Launch} {e : Env} {R : Room} {s : State} {m : MethodId} {args : Array Value} {below : List Frame} {meth : Method} {c : Code} {T : State} {locs : List Loc} {cells slots : Nat}
variable {Z : State} {h h' : Heap} {a b : Addr} {k : ClassId} {ty : FieldType} {n : Int32} {vs : List Int32} {sl : Nat} {v : Value} {ws : List Addr} {a0 : Array Value}
/-- newarray byte, and the class's name -/
theorem own_newB (X : Stand p l e R s m args below meth c T locs cells slots) (hx : p.tables.exec = Jvm.exec) (hZ : Z.Warmed39 s.vm) (w : (Cond.arrayClass .byte).before a0 Z = true) (eT : T.heap = h) {g : JFrame} (hg : g.method = m) (hd : decode c.code g.pc = .ok (.newarray .byte, 2)) {n : Int32} {rest : List Value} (hs : g.stack = .int n :: rest)
    (hn : ¬ n < 0) {cap : Nat} (hcap : n.toNatClampNeg ≤ cap) (hb : cap * 8 ≤ 536870912) (hc : cells + 1 ≤ R.cells) (hl : slots + cap ≤ R.slots) :
    ∃ T' h' cA, Stand p l e R s m args below meth c T' locs (cells + 1) (slots + cap) ∧ T'.heap = h' ∧ Ext h h' ∧ Arr Z h' h.size (newA cA .byte n) .byte ∧ Z.vm.findClass "[B" = some cA ∧
      ∀ target, Steps p.tables e below (T'.setTop { g with pc := g.pc + 2, stack := .ref h.size :: rest }) target → Steps p.tables e below (T.setTop g) target := by
  have hcb : componentBytes .byte ≤ 8 := by decide
  obtain ⟨cA, kA, comp, h1, h2, h3, X', st⟩ := X.newarrayPrim (atype := .byte) hx (mvA hZ w) hg hd hs hn (Nat.le_trans (Nat.mul_le_mul hcap hcb) hb) hc (by omega)
  subst eT
  rw [hZ.alike.findClass] at h1
  have h1' : Z.vm.findClass "[B" = some cA := h1
  obtain ⟨kZ, z1, -⟩ := Vm.findClass_spec h1'
  obtain ⟨k', z2, z3⟩ := hZ.alike.2.2 _ _ z1
  cases h2.symm.trans z2
  have hh : (T.pushCell { cls := cA, slots := Array.replicate n.toNatClampNeg (defaultValue .byte), vm := .none }).heap = T.heap.push (newA cA .byte n) := rfl
  refine ⟨_, _, cA, X'.more (Nat.le_refl _) (by omega), hh, ⟨by simp, fun a c q => ?_⟩, ⟨by simp, ⟨by simp [newA], kZ, z1, comp, by have q := h3; rw [z3] at q; exact q⟩, by simp [newA]⟩, h1', st⟩
  rw [Array.getElem?_push_lt (Array.getElem?_eq_some_iff.mp q).1]
  exact (Array.getElem?_eq_getElem _).symm.trans q
/-- the cast of a byte[] to byte[] -/
theorem own_insB (F : AI Z h a k .byte n vs) (hk : Z.vm.findClass "[B" = some k) : Ins Z h a "[B" true := by
  obtain ⟨⟨cl, A, q1, -⟩, -⟩ := F
  subst q1
  exact ⟨cl, _, A.1, hk, by simp [A.plain, Vm.assignable_self]⟩
theorem own_clone (X : Stand p l e R s m args below meth c T locs cells slots) (hx : p.tables.exec = Jvm.exec) (hZ : Z.Warmed39 s.vm) {own : String} {index : Nat} (hown : s.vm.findClass own = some m.cls)
    (w1 : (Cond.methodLink own index ⟨"[B", "clone", "()Ljava/lang/Object;"⟩).before a0 Z = true) (w2 : (Cond.sameMethod "[B" "java/lang/Object" "clone" "()Ljava/lang/Object;").before a0 Z = true) (w3 : (Cond.native ⟨"java/lang/Object", "clone", "()Ljava/lang/Object;"⟩).before a0 Z = true)
    (w4 : (Cond.instanceMethod ⟨"java/lang/Object", "clone", "()Ljava/lang/Object;"⟩).before a0 Z = true) (w5 : (Cond.selects "[B" ⟨"[B", "clone", "()Ljava/lang/Object;"⟩ ⟨"java/lang/Object", "clone", "()Ljava/lang/Object;"⟩).before a0 Z = true) (w6 : (Cond.castable "[B" "java/lang/Cloneable").before a0 Z = true)
    (eT : T.heap = h) (F : AI Z h a k .byte n vs) (hk : Z.vm.findClass "[B" = some k) {cap : Nat} (hcap : n.toNatClampNeg ≤ cap)
    {g : JFrame} (hg : g.method = m) (hsize : g.locals.size = c.maxLocals) {rest : List Value} (hstack : g.stack = .ref a :: rest) (hdg : decode c.code g.pc = .ok (.invokevirtual index, 3))
    (hframes : 1 ≤ R.frames) {W : Nat} (hW : 2 * g.monitorRoom + (rest.map fun v => v.category).sum ≤ W) (hlocals : W + 14 ≤ R.locals) (hcells : cells + 1 ≤ R.cells) (hslots : slots + cap ≤ R.slots) :
    ∃ T' h', Stand p l e R s m args below meth c T' locs (cells + 1) (slots + cap) ∧ T'.heap = h' ∧ Ext h h' ∧ AI Z h' h.size k .byte n vs ∧
      ∀ target, Steps p.tables e below (T'.setTop { g with pc := g.pc + 3, stack := .ref h.size :: rest }) target → Steps p.tables e below (T.setTop g) target := by
  obtain ⟨⟨cl, A, q1, S, N, H, G⟩, hl⟩ := F
  subst q1
  obtain ⟨c1, c2, e1, e2, e3⟩ := Cond.castable_spec w6
  cases hk.symm.trans e1
  obtain ⟨hob, ks, hks, comp, hkd⟩ := State.isArrayOf_alike (T := s) hZ.alike A.2.1
  have hkT : ∃ kT, T.vm.classes[cl.cls]? = some kT ∧ kT.kind = .array comp .byte := by
    obtain ⟨kT, t1, t2⟩ := X.warmed.alike.2.2 _ _ hks
    exact ⟨kT, t1, by rw [t2]; exact hkd⟩
  obtain ⟨kT, t1, t2⟩ := hkT
  subst eT
  obtain ⟨vm', X', st⟩ := X.cloneArray hx hown (mvT hZ w1) (mvT hZ w2) (mvT hZ w3) (mvT hZ w4) (mvT hZ w5) A.1 hob A.2.2 (by rw [hZ.alike.findClass]; exact hk) (by rw [hZ.alike.findClass]; exact e2) (by rw [hZ.alike.assignable]; exact e3)
    (fun i v hv => by
      have hi := (Array.getElem?_eq_some_iff.mp hv).1
      have g1 := H i hi
      rw [hv] at g1
      have g2 := G i hi
      rw [← Option.some.inj g1] at g2
      simp [State.fitsSlot, State.slotType?, t1, t2, g2]) hg hsize hstack hdg hframes (by omega) hcells (by omega) (Vm.clonesLoader_of_array hks hkd)
  have hh : ((T.setVm vm').pushCell { cls := cl.cls, slots := cl.slots }).heap = T.heap.push { cls := cl.cls, slots := cl.slots } := rfl
  refine ⟨_, _, X'.more (Nat.le_refl _) (by omega), hh, ⟨by simp, fun a c q => ?_⟩, ⟨⟨{ cls := cl.cls, slots := cl.slots }, ⟨by simp, ?_, by simp⟩, rfl, S, N, H, G⟩, hl⟩, st⟩
  · rw [Array.getElem?_push_lt (Array.getElem?_eq_some_iff.mp q).1]
    exact (Array.getElem?_eq_getElem _).symm.trans q
  · obtain ⟨-, kk, z1, z2⟩ := A.2.1
    exact ⟨by simp, kk, z1, z2⟩
end Clone
section Copy
variable {p : Program} {l : Launch} {e : Env} {R : Room} {s : State} {m : MethodId} {args : Array Value} {below : List Frame} {meth : Method} {c : Code} {T : State} {locs : List Loc} {cells slots : Nat}
variable {Z : State} {h : Heap} {a b : Addr} {k k' : ClassId} {z z' sp dp nn : Int32} {vs vd rl : List Int32} {a0 : Array Value}
/-- System.arraycopy between two byte[] -/
theorem own_copy (X : Stand p l e R s m args below meth c T locs cells slots) (hx : p.tables.exec = Jvm.exec) (hZ : Z.Warmed39 s.vm) {own : String} {index : Nat} (hown : s.vm.findClass own = some m.cls)
    (w1 : (Cond.methodLink own index Jvm.Stand.acN).before a0 Z = true) (w2 : (Cond.native Jvm.Stand.acN).before a0 Z = true) (w3 : (Cond.static Jvm.Stand.acN).before a0 Z = true) (w4 : (Cond.initialized "java/lang/System").before a0 Z = true) (eT : T.heap = h)
    (A : AI Z h a k .byte z vs) (B : AI Z h b k' .byte z' vd) (h1 : ¬ sp < 0) (h2 : ¬ dp < 0) (h3 : ¬ nn < 0) (h4 : sp.toNatClampNeg + nn.toNatClampNeg ≤ z.toNatClampNeg) (h5 : dp.toNatClampNeg + nn.toNatClampNeg ≤ z'.toNatClampNeg)
    (hr : rl = vd.take dp.toNatClampNeg ++ ((List.range nn.toNatClampNeg).map fun i => vs.getD (sp.toNatClampNeg + i) 0) ++ vd.drop (dp.toNatClampNeg + nn.toNatClampNeg)) {n0 : Nat} (N : Fr n0 locs) (ge : n0 ≤ b)
    {g : JFrame} (hg : g.method = m) (hsize : g.locals.size = c.maxLocals) {rest : List Value} (hs : g.stack = .int nn :: .int dp :: .ref b :: .int sp :: .ref a :: rest) (hd : decode c.code g.pc = .ok (.invokestatic index, 3))
    (hf : 1 ≤ R.frames) {W : Nat} (hW : 2 * g.monitorRoom + (rest.map fun v => v.category).sum ≤ W) (hlo : W + (nativeFrameWords "java/lang/System" "arraycopy" 5 + 11) ≤ R.locals) :
    ∃ T' h' L, Stand p l e R s m args below meth c T' L cells slots ∧ T'.heap = h' ∧ Fr n0 L ∧ Keep h h' [b] ∧ AI Z h' b k' .byte z' rl ∧
      ∀ target, Steps p.tables e below (T'.setTop { g with pc := g.pc + 3, stack := rest }) target → Steps p.tables e below (T.setTop g) target := by
  have hus : (((List.range nn.toNatClampNeg).map fun i => vs.getD (sp.toNatClampNeg + i) 0).map Value.int) = (List.range nn.toNatClampNeg).map fun i => (vs.map Value.int).getD (sp.toNatClampNeg + i) (.int 0) := by
    rw [List.map_map]
    exact List.map_congr_left fun i _ => (own_getD vs _).symm
  obtain ⟨T', h', L, X', e', N', K, V, st⟩ := cpA X hx hZ hown w1 w2 w3 w4 eT A.1 B.1 (Or.inl ⟨rfl, rfl⟩) h1 h2 h3 h4 h5 hus (by rw [List.length_map, B.2]; exact h5) N ge hg hsize hs hd hf hW hlo
  refine ⟨T', h', L, X', e', N', K, ⟨?_, ?_⟩, st⟩
  · subst hr
    rw [List.map_append, List.map_append, List.map_take, List.map_drop]
    exact V
  · subst hr
    have q := B.2
    simp only [List.length_append, List.length_take, List.length_map, List.length_range, List.length_drop]
    omega
end Copy
/-! MY OWN LAYER, 5: single steps in short form -/
section Short
variable {p : Program} {l : Launch} {e : Env} {R : Room} {s : State} {m : MethodId} {args : Array Value} {below : List Frame} {meth : Method} {c : Code} {T : State} {locs : List Loc} {cells slots : Nat}
variable {Q : Outcome → State → Prop} {pc pc' : Nat} {Ls : Array Slot} {st : List Value}
theorem G_aload (X : Stand p l e R s m args below meth c T locs cells slots) (hx : p.tables.exec = Jvm.exec) {k : Nat} {v : Value} (hd : decode c.code pc = .ok (.aload k, 2)) (hl : Ls[k]? = some (.val v)) (hv : v.isRef = true) (hp : pc + 2 = pc') (h : Goes p.tables e below Q (T.setTop (mkF m pc' Ls (v :: st)))) : Goes p.tables e below Q (T.setTop (mkF m pc Ls st)) := by
  subst hp; exact Goes.step (fun _ k => XS.aload X.here hx rfl hd hl hv k) h
theorem G_aloadN (X : Stand p l e R s m args below meth c T locs cells slots) (hx : p.tables.exec = Jvm.exec) {k : Fin 4} {v : Value} (hd : decode c.code pc = .ok (.aload_n k, 1)) (hl : Ls[k.val]? = some (.val v)) (hv : v.isRef = true) (hp : pc + 1 = pc') (h : Goes p.tables e below Q (T.setTop (mkF m pc' Ls (v :: st)))) : Goes p.tables e below Q (T.setTop (mkF m pc Ls st)) := by
  subst hp; exact Goes.step (fun _ k => XS.aloadN X.here hx rfl hd hl hv k) h
theorem G_iload (X : Stand p l e R s m args below meth c T locs cells slots) (hx : p.tables.exec = Jvm.exec) {k : Nat} {v : Int32} (hd : decode c.code pc = .ok (.iload k, 2)) (hl : Ls[k]? = some (.val (.int v))) (hp : pc + 2 = pc') (h : Goes p.tables e below Q (T.setTop (mkF m pc' Ls (.int v :: st)))) : Goes p.tables e below Q (T.setTop (mkF m pc Ls st)) := by
  subst hp; exact Goes.step (fun _ k => XS.iload X.here hx rfl hd hl k) h
theorem G_iloadN (X : Stand p l e R s m args below meth c T locs cells slots) (hx : p.tables.exec = Jvm.exec) {k : Fin 4} {v : Int32} (hd : decode c.code pc = .ok (.iload_n k, 1)) (hl : Ls[k.val]? = some (.val (.int v))) (hp : pc + 1 = pc') (h : Goes p.tables e below Q (T.setTop (mkF m pc' Ls (.int v :: st)))) : Goes p.tables e below Q (T.setTop (mkF m pc Ls st)) := by
  subst hp; exact Goes.step (fun _ k => XS.iloadN X.here hx rfl hd hl k) h
theorem G_lload (X : Stand p l e R s m args below meth c T locs cells slots) (hx : p.tables.exec = Jvm.exec) {k : Nat} {v : Int64} (hd : decode c.code pc = .ok (.lload k, 2)) (hl : Ls[k]? = some (.val (.long v))) (hp : pc + 2 = pc') (h : Goes p.tables e below Q (T.setTop (mkF m pc' Ls (.long v :: st)))) : Goes p.tables e below Q (T.setTop (mkF m pc Ls st)) := by
  subst hp; exact Goes.step (fun _ k => XS.lload X.here hx rfl hd hl k) h
theorem G_iconst (X : Stand p l e R s m args below meth c T locs cells slots) (hx : p.tables.exec = Jvm.exec) {i : Int} {z : Int32} (hd : decode c.code pc = .ok (.iconst i, 1)) (hz : Int32.ofInt i = z) (hp : pc + 1 = pc') (h : Goes p.tables e below Q (T.setTop (mkF m pc' Ls (.int z :: st)))) : Goes p.tables e below Q (T.setTop (mkF m pc Ls st)) := by
  subst hp hz; exact Goes.step (fun _ k => XS.iconst X.here hx rfl hd k) h
theorem G_bipush (X : Stand p l e R s m args below meth c T locs cells slots) (hx : p.tables.exec = Jvm.exec) {i : Int} {z : Int32} (hd : decode c.code pc = .ok (.bipush i, 2)) (hz : (Int8.ofInt i).toInt32 = z) (hp : pc + 2 = pc') (h : Goes p.tables e below Q (T.setTop (mkF m pc' Ls (.int z :: st)))) : Goes p.tables e below Q (T.setTop (mkF m pc Ls st)) := by
  subst hp hz; exact Goes.step (fun _ k => XS.bipush X.here hx rfl hd k) h
theorem G_i2b (X : Stand p l e R s m args below meth c T locs cells slots) (hx : p.tables.exec = Jvm.exec) {x : Int32} (hd : decode c.code pc = .ok (.i2b, 1)) (hp : pc + 1 = pc') (h : Goes p.tables e below Q (T.setTop (mkF m pc' Ls (.int x.toInt8.toInt32 :: st)))) : Goes p.tables e below Q (T.setTop (mkF m pc Ls (.int x :: st))) := by
  subst hp; exact Goes.step (fun _ k => XS.i2b X.here hx rfl hd rfl k) h
theorem G_iushr (X : Stand p l e R s m args below meth c T locs cells slots) (hx : p.tables.exec = Jvm.exec) {x y : Int32} (hd : decode c.code pc = .ok (.iushr, 1)) (hp : pc + 1 = pc') (h : Goes p.tables e below Q (T.setTop (mkF m pc' Ls (.int ((x.toUInt32 >>> (y &&& 31).toUInt32).toInt32) :: st)))) : Goes p.tables e below Q (T.setTop (mkF m pc Ls (.int y :: .int x :: st))) := by
  subst hp; exact Goes.step (fun _ k => XS.iushr X.here hx rfl hd rfl k) h
theorem G_iadd (X : Stand p l e R s m args below meth c T locs cells slots) (hx : p.tables.exec = Jvm.exec) {x y z : Int32} (hd : decode c.code pc = .ok (.iadd, 1)) (hz : x + y = z) (hp : pc + 1 = pc') (h : Goes p.tables e below Q (T.setTop (mkF m pc' Ls (.int z :: st)))) : Goes p.tables e below Q (T.setTop (mkF m pc Ls (.int y :: .int x :: st))) := by
  subst hp hz; exact Goes.step (fun _ k => XS.iadd X.here hx rfl hd rfl k) h
end Short
theorem own_nb (x : Int32) : nar .byte (x.toInt8.toInt32) = x.toInt8.toInt32 := by
  have a := c_i2b x
  have b := c_i2b (x.toInt8.toInt32)
  apply Int32.toInt_inj.mp
  show (x.toInt8.toInt32.toInt8.toInt32).toInt = _
  omega
theorem d7_0 : decode prog_12_method_1_code 0 = .ok (.aload_n 0, 1) := by decide +kernel
theorem d7_1 : decode prog_12_method_1_code 1 = .ok (.invokespecial 5, 3) := by decide +kernel
theorem d7_4 : decode prog_12_method_1_code 4 = .ok (.aload_n 0, 1) := by decide +kernel
theorem d7_5 : decode prog_12_method_1_code 5 = .ok (.iload_n 1, 1) := by decide +kernel
theorem d7_6 : decode prog_12_method_1_code 6 = .ok (.putfield 11, 3) := by decide +kernel
theorem d7_9 : decode prog_12_method_1_code 9 = .ok (.aload_n 0, 1) := by decide +kernel
theorem d7_10 : decode prog_12_method_1_code 10 = .ok (.lload_n 2, 1) := by decide +kernel
theorem d7_11 : decode prog_12_method_1_code 11 = .ok (.putfield 15, 3) := by decide +kernel
theorem d7_14 : decode prog_12_method_1_code 14 = .ok (.aload_n 0, 1) := by decide +kernel
theorem d7_15 : decode prog_12_method_1_code 15 = .ok (.aload 4, 2) := by decide +kernel
theorem d7_17 : decode prog_12_method_1_code 17 = .ok (.putfield 19, 3) := by decide +kernel
theorem d7_20 : decode prog_12_method_1_code 20 = .ok (.return_, 1) := by decide +kernel
theorem pn0 : plainName "com/example/isopod/isopod/RecordHeader" = true := by first | (simp [plainName, overriddenIn]; done) | decide +kernel
theorem ef7 (m : MethodId) (u0 : Addr) (p1 : Int32) (q2 : Int64) (u3 : Addr) : entryFrame m #[(.ref u0), (.int p1), (.long q2), (.ref u3)] 5 = mkF m 0 #[.val (.ref u0), .val (.int p1), .val (.long q2), .second, .val (.ref u3)] [] := by first | (simp [entryFrame, mkF, argsToLocals, Value.category]; done) | rfl
def Q7 (Z : State) (u0 : Addr) (p1 : Int32) (q2 : Int64) (u3 : Addr) (k_u3 : ClassId) (n_u3 : Int32) (vs_u3 : List Int32) (h0 : Heap) (n0 : Nat) (v : Option Value) (h : Heap) (L : List Loc) : Prop := v = none ∧ Fr n0 L ∧ Keep h0 h [u0] ∧ Exa Z h u0 "com/example/isopod/isopod/RecordHeader" ∧ Fld Z h u0 "com/example/isopod/isopod/RecordHeader" "generation" "J" (.long q2) ∧ Fld Z h u0 "com/example/isopod/isopod/RecordHeader" "nonce" "[B" (.ref u3) ∧ Fld Z h u0 "com/example/isopod/isopod/RecordHeader" "version" "I" (.int p1)
set_option maxRecDepth 65536 in
set_option maxHeartbeats 40000000 in
theorem rm7 (l : Launch) (Z : State) (a0 : Array Value) (hw : ∀ d ∈ tables_1, d.before a0 Z = true) (ws : List Jvm.Cond) (u0 : Addr) (p1 : Int32) (q2 : Int64) (u3 : Addr) (k_u3 : ClassId) (n_u3 : Int32) (vs_u3 : List Int32) (h0 : Heap) (n0 : Nat) (Z0 : n0 ≤ h0.size) (V_u3 : AI Z h0 u3 k_u3 .byte n_u3 vs_u3) (hk_u3 : Z.vm.findClass "[B" = some k_u3) (E_u0 : Exa Z h0 u0 "com/example/isopod/isopod/RecordHeader") (F_version_u0 : Fld Z h0 u0 "com/example/isopod/isopod/RecordHeader" "version" "I" (.int (0 : Int32))) (F_generation_u0 : Fld Z h0 u0 "com/example/isopod/isopod/RecordHeader" "generation" "J" (.long (0 : Int64))) (F_nonce_u0 : Fld Z h0 u0 "com/example/isopod/isopod/RecordHeader" "nonce" "[B" .null) (g_u0 : n0 ≤ u0) (ne_u3_u0 : u3 ≠ u0) :
    MetFree l (⟨"com/example/isopod/isopod/RecordHeader", "<init>", "(IJ[B)V"⟩ : MethodName) (head1 (Jvm.Cond.code (⟨"com/example/isopod/isopod/RecordHeader", "<init>", "(IJ[B)V"⟩ : MethodName) prog_12_method_1_code 5 none :: ws) ({ frames := 1, cells := 0, slots := 0, locals := 12 } : Room)) (fun a U => a = #[(.ref u0), (.int p1), (.long q2), (.ref u3)] ∧ Z.Warmed39 U.vm ∧ U.heap = h0) (fun _ _ _ _ _ => True) (fun _ U o U' => ∃ v L, o = .returned v ∧ Q7 Z u0 p1 q2 u3 k_u3 n_u3 vs_u3 h0 n0 v U'.heap L ∧ FrameEnd U o U' L ({ frames := 1, cells := 0, slots := 0, locals := 12 } : Room).cells ({ frames := 1, cells := 0, slots := 0, locals := 12 } : Room).slots) := by
  refine MetFree.of_bodySF (plainFor_of_name pn0) hisR ?_
  intro p e s m args below meth c s₁ Bd hml0 hP hK
  obtain ⟨rfl, hZ, hh⟩ := hP
  have hx := Bd.exec
  have hby := Bd.bytes
  have hml : c.maxLocals = 5 := hml0
  have hown : s.vm.findClass "com/example/isopod/isopod/RecordHeader" = some m.cls := findClass_of_methodNamed Bd.named
  have hnm := (name_of_methodNamed Bd.named Bd.method).1
  have X0 : Stand p l e ({ frames := 1, cells := 0, slots := 0, locals := 12 } : Room) s m #[(.ref u0), (.int p1), (.long q2), (.ref u3)] below meth c s₁ [] 0 0 := Stand.of_body Bd
  have e0 : s₁.heap = h0 := by rw [← hh, Bd.state]; rfl
  have N0 := Fr.nil n0
  have K0 : Keep h0 h0 [u0] := Keep.refl _ _
  have hl_u3 : vs_u3.length = n_u3.toNatClampNeg := V_u3.2
  have hn_u3 : ¬ n_u3 < 0 := V_u3.nn
  refine Goes.out (Q := fun o U' => ∃ v L, o = .returned v ∧ Q7 Z u0 p1 q2 u3 k_u3 n_u3 vs_u3 h0 n0 v U'.heap L ∧ FrameEnd s o U' L ({ frames := 1, cells := 0, slots := 0, locals := 12 } : Room).cells ({ frames := 1, cells := 0, slots := 0, locals := 12 } : Room).slots) ?_
  refine Goes.step (S' := s₁.setTop (mkF m 0 #[.val (.ref u0), .val (.int p1), .val (.long q2), .second, .val (.ref u3)] [])) (fun _ k => castTop (ef7 m u0 p1 q2 u3) k) ?_
  refine Goes.step (S' := s₁.setTop (mkF m 1 #[.val (.ref u0), .val (.int p1), .val (.long q2), .second, .val (.ref u3)] [(.ref u0)])) (fun _ k => XS.aloadN X0.here hx rfl (hb hby d7_0) rfl rfl k) ?_
  obtain ⟨T1, X1, e1, st1⟩ := initO X0 hx hZ hown (hw _ (List.mem_of_getElem? (i := 33) rfl)) (hw _ (List.mem_of_getElem? (i := 34) rfl)) (hw _ (List.mem_of_getElem? (i := 35) rfl)) e0 (g := (mkF m 1 #[.val (.ref u0), .val (.int p1), .val (.long q2), .second, .val (.ref u3)] [(.ref u0)])) rfl (by rw [hml]; rfl) rfl (hb hby d7_1) (by decide) (W := 0) (by show 2 * 0 + _ ≤ _; exact Nat.le_of_eq rfl) (by decide)
  refine Goes.step (S' := T1.setTop (mkF m 4 #[.val (.ref u0), .val (.int p1), .val (.long q2), .second, .val (.ref u3)] [])) st1 ?_
  refine Goes.step (S' := T1.setTop (mkF m 5 #[.val (.ref u0), .val (.int p1), .val (.long q2), .second, .val (.ref u3)] [(.ref u0)])) (fun _ k => XS.aloadN X1.here hx rfl (hb hby d7_4) rfl rfl k) ?_
  refine Goes.step (S' := T1.setTop (mkF m 6 #[.val (.ref u0), .val (.int p1), .val (.long q2), .second, .val (.ref u3)] [(.int p1), (.ref u0)])) (fun _ k => XS.iloadN X1.here hx rfl (hb hby d7_5) rfl  k) ?_
  obtain ⟨T2, h2, X2, e2, W2, st2⟩ := putF X1 hx hZ hown (host := "") (Or.inl (hw _ (List.mem_of_getElem? (i := 36) rfl))) Via.refl e1 F_version_u0 E_u0 (Or.inr ⟨(hw _ (List.mem_of_getElem? (i := 37) rfl)), rfl, hnm⟩) (hw _ (List.mem_of_getElem? (i := 29) rfl)) (ty := .int) (by decide) rfl rfl (g := (mkF m 6 #[.val (.ref u0), .val (.int p1), .val (.long q2), .second, .val (.ref u3)] [(.int p1), (.ref u0)])) rfl rfl (hb hby d7_6)
  have Fw2 := F_version_u0.same W2
  have N3 := Fr.snoc X2 N0 g_u0
  have Z4 : n0 ≤ h2.size := Nat.le_trans Z0 (Nat.le_of_eq W2.size.symm)
  have V5 := V_u3.other W2 ne_u3_u0
  have E_6 := E_u0.wr W2
  have F7 := F_generation_u0.other W2 (Or.inr (slot_ne (Or.inr (hw _ (List.mem_of_getElem? (i := 39) rfl))) (Or.inr (hw _ (List.mem_of_getElem? (i := 37) rfl))) (by decide) (t := .long) (t' := .int) (by decide) (by decide)))
  have F8 := F_nonce_u0.other W2 (Or.inr (slot_ne (Or.inr (hw _ (List.mem_of_getElem? (i := 41) rfl))) (Or.inr (hw _ (List.mem_of_getElem? (i := 37) rfl))) (by decide) (t := (.array .byte)) (t' := .int) (by decide) (by decide)))
  have K9 : Keep h0 h2 [u0] := K0.wr W2 (Or.inl (List.mem_of_getElem? (i := 0) rfl))
  refine Goes.step (S' := T2.setTop (mkF m 9 #[.val (.ref u0), .val (.int p1), .val (.long q2), .second, .val (.ref u3)] [])) st2 ?_
  refine Goes.step (S' := T2.setTop (mkF m 10 #[.val (.ref u0), .val (.int p1), .val (.long q2), .second, .val (.ref u3)] [(.ref u0)])) (fun _ k => XS.aloadN X2.here hx rfl (hb hby d7_9) rfl rfl k) ?_
  refine Goes.step (S' := T2.setTop (mkF m 11 #[.val (.ref u0), .val (.int p1), .val (.long q2), .second, .val (.ref u3)] [(.long q2), (.ref u0)])) (fun _ k => XS.lloadN X2.here hx rfl (hb hby d7_10) rfl  k) ?_
  obtain ⟨T10, h10, X10, e10, W10, st10⟩ := putF X2 hx hZ hown (host := "") (Or.inl (hw _ (List.mem_of_getElem? (i := 38) rfl))) Via.refl e2 F7 E_6 (Or.inr ⟨(hw _ (List.mem_of_getElem? (i := 39) rfl)), rfl, hnm⟩) (hw _ (List.mem_of_getElem? (i := 29) rfl)) (ty := .long) (by decide) rfl rfl (g := (mkF m 11 #[.val (.ref u0), .val (.int p1), .val (.long q2), .second, .val (.ref u3)] [(.long q2), (.ref u0)])) rfl rfl (hb hby d7_11)
  have Fw10 := F7.same W10
  have N11 := Fr.snoc X10 N3 g_u0
  have Z12 : n0 ≤ h10.size := Nat.le_trans Z4 (Nat.le_of_eq W10.size.symm)
  have V13 := V5.other W10 ne_u3_u0
  have E_14 := E_6.wr W10
  have F15 := Fw2.other W10 (Or.inr (slot_ne (Or.inr (hw _ (List.mem_of_getElem? (i := 37) rfl))) (Or.inr (hw _ (List.mem_of_getElem? (i := 39) rfl))) (by decide) (t := .int) (t' := .long) (by decide) (by decide)))
  have F16 := F8.other W10 (Or.inr (slot_ne (Or.inr (hw _ (List.mem_of_getElem? (i := 41) rfl))) (Or.inr (hw _ (List.mem_of_getElem? (i := 39) rfl))) (by decide) (t := (.array .byte)) (t' := .long) (by decide) (by decide)))
  have K17 : Keep h0 h10 [u0] := K9.wr W10 (Or.inl (List.mem_of_getElem? (i := 0) rfl))
  refine Goes.step (S' := T10.setTop (mkF m 14 #[.val (.ref u0), .val (.int p1), .val (.long q2), .second, .val (.ref u3)] [])) st10 ?_
  refine Goes.step (S' := T10.setTop (mkF m 15 #[.val (.ref u0), .val (.int p1), .val (.long q2), .second, .val (.ref u3)] [(.ref u0)])) (fun _ k => XS.aloadN X10.here hx rfl (hb hby d7_14) rfl rfl k) ?_
  refine Goes.step (S' := T10.setTop (mkF m 17 #[.val (.ref u0), .val (.int p1), .val (.long q2), .second, .val (.ref u3)] [(.ref u3), (.ref u0)])) (fun _ k => XS.aload X10.here hx rfl (hb hby d7_15) rfl rfl k) ?_
  obtain ⟨T18, h18, X18, e18, W18, st18⟩ := putF X10 hx hZ hown (host := "") (Or.inl (hw _ (List.mem_of_getElem? (i := 40) rfl))) Via.refl e10 F16 E_14 (Or.inr ⟨(hw _ (List.mem_of_getElem? (i := 41) rfl)), rfl, hnm⟩) (hw _ (List.mem_of_getElem? (i := 29) rfl)) (ty := (.array .byte)) (by decide) rfl rfl (g := (mkF m 17 #[.val (.ref u0), .val (.int p1), .val (.long q2), .second, .val (.ref u3)] [(.ref u3), (.ref u0)])) rfl rfl (hb hby d7_17)
  have Fw18 := F16.same W18
  have N19 := Fr.snoc X18 N11 g_u0
  have Z20 : n0 ≤ h18.size := Nat.le_trans Z12 (Nat.le_of_eq W18.size.symm)
  have V21 := V13.other W18 ne_u3_u0
  have E_22 := E_14.wr W18
  have F23 := F15.other W18 (Or.inr (slot_ne (Or.inr (hw _ (List.mem_of_getElem? (i := 37) rfl))) (Or.inr (hw _ (List.mem_of_getElem? (i := 41) rfl))) (by decide) (t := .int) (t' := (.array .byte)) (by decide) (by decide)))
  have F24 := Fw10.other W18 (Or.inr (slot_ne (Or.inr (hw _ (List.mem_of_getElem? (i := 39) rfl))) (Or.inr (hw _ (List.mem_of_getElem? (i := 41) rfl))) (by decide) (t := .long) (t' := (.array .byte)) (by decide) (by decide)))
  have K25 : Keep h0 h18 [u0] := K17.wr W18 (Or.inl (List.mem_of_getElem? (i := 0) rfl))
  refine Goes.step (S' := T18.setTop (mkF m 20 #[.val (.ref u0), .val (.int p1), .val (.long q2), .second, .val (.ref u3)] [])) st18 ?_
  refine Goes.retV X18 hx Bd.notSynchronized Bd.returns (hb hby d7_20) (by decide) (by decide) ?_
  refine ⟨rfl, N19, ?_, ?_, ?_, ?_, ?_⟩
  · rw [e18]; exact K25
  · rw [e18]; exact E_22
  · rw [e18]; exact F24
  · rw [e18]; exact Fw18
  · rw [e18]; exact F23
theorem d10_0 : decode prog_12_method_4_code 0 = .ok (.aload_n 0, 1) := by decide +kernel
theorem d10_1 : decode prog_12_method_4_code 1 = .ok (.getfield 11, 3) := by decide +kernel
theorem d10_4 : decode prog_12_method_4_code 4 = .ok (.ireturn, 1) := by decide +kernel
theorem ef10 (m : MethodId) (u0 : Addr) : entryFrame m #[(.ref u0)] 1 = mkF m 0 #[.val (.ref u0)] [] := by first | (simp [entryFrame, mkF, argsToLocals, Value.category]; done) | rfl
def f10 (w_version_u0 : Int32) (w_generation_u0 : Int64) : Int32 := w_version_u0
def Q10 (Z : State) (u0 : Addr) (w_version_u0 : Int32) (w_generation_u0 : Int64) (h0 : Heap) (n0 : Nat) (v : Option Value) (h : Heap) (L : List Loc) : Prop := v = some (.int (f10 w_version_u0 w_generation_u0)) ∧ Fr n0 L ∧ h = h0
set_option maxRecDepth 65536 in
set_option maxHeartbeats 40000000 in
theorem rm10 (l : Launch) (Z : State) (a0 : Array Value) (hw : ∀ d ∈ tables_1, d.before a0 Z = true) (ws : List Jvm.Cond) (u0 : Addr) (w_version_u0 : Int32) (w_generation_u0 : Int64) (h0 : Heap) (n0 : Nat) (Z0 : n0 ≤ h0.size) (E_u0 : Exa Z h0 u0 "com/example/isopod/isopod/RecordHeader") (F_version_u0 : Fld Z h0 u0 "com/example/isopod/isopod/RecordHeader" "version" "I" (.int w_version_u0)) (F_generation_u0 : Fld Z h0 u0 "com/example/isopod/isopod/RecordHeader" "generation" "J" (.long w_generation_u0)) :
    MetFree l (⟨"com/example/isopod/isopod/RecordHeader", "version", "()I"⟩ : MethodName) (head1 (Jvm.Cond.code (⟨"com/example/isopod/isopod/RecordHeader", "version", "()I"⟩ : MethodName) prog_12_method_4_code 1 (some .int) :: ws) ({ frames := 0, cells := 0, slots := 0, locals := 0 } : Room)) (fun a U => a = #[(.ref u0)] ∧ Z.Warmed39 U.vm ∧ U.heap = h0) (fun _ _ _ _ _ => True) (fun _ U o U' => ∃ v L, o = .returned v ∧ Q10 Z u0 w_version_u0 w_generation_u0 h0 n0 v U'.heap L ∧ FrameEnd U o U' L ({ frames := 0, cells := 0, slots := 0, locals := 0 } : Room).cells ({ frames := 0, cells := 0, slots := 0, locals := 0 } : Room).slots) := by
  refine MetFree.of_bodySF (plainFor_of_name pn0) hisR ?_
  intro p e s m args below meth c s₁ Bd hml0 hP hK
  obtain ⟨rfl, hZ, hh⟩ := hP
  have hx := Bd.exec
  have hby := Bd.bytes
  have hml : c.maxLocals = 1 := hml0
  have hown : s.vm.findClass "com/example/isopod/isopod/RecordHeader" = some m.cls := findClass_of_methodNamed Bd.named
  have hnm := (name_of_methodNamed Bd.named Bd.method).1
  have X0 : Stand p l e ({ frames := 0, cells := 0, slots := 0, locals := 0 } : Room) s m #[(.ref u0)] below meth c s₁ [] 0 0 := Stand.of_body Bd
  have e0 : s₁.heap = h0 := by rw [← hh, Bd.state]; rfl
  have N0 := Fr.nil n0
  refine Goes.out (Q := fun o U' => ∃ v L, o = .returned v ∧ Q10 Z u0 w_version_u0 w_generation_u0 h0 n0 v U'.heap L ∧ FrameEnd s o U' L ({ frames := 0, cells := 0, slots := 0, locals := 0 } : Room).cells ({ frames := 0, cells := 0, slots := 0, locals := 0 } : Room).slots) ?_
  refine Goes.step (S' := s₁.setTop (mkF m 0 #[.val (.ref u0)] [])) (fun _ k => castTop (ef10 m u0) k) ?_
  refine Goes.step (S' := s₁.setTop (mkF m 1 #[.val (.ref u0)] [(.ref u0)])) (fun _ k => XS.aloadN X0.here hx rfl (hb hby d10_0) rfl rfl k) ?_
  obtain ⟨T1, X1, e1, st1⟩ := getF X0 hx hZ hown (host := "") (Or.inl (hw _ (List.mem_of_getElem? (i := 36) rfl))) Via.refl e0 F_version_u0 (g := (mkF m 1 #[.val (.ref u0)] [(.ref u0)])) rfl rfl (hb hby d10_1)
  refine Goes.step (S' := T1.setTop (mkF m 4 #[.val (.ref u0)] [(.int w_version_u0)])) st1 ?_
  refine Goes.retI X1 hx Bd.notSynchronized Bd.returns (hb hby d10_4) (by decide) (by decide) ?_
  exact ⟨rfl, N0, e1⟩
theorem d11_0 : decode prog_12_method_5_code 0 = .ok (.aload_n 0, 1) := by decide +kernel
theorem d11_1 : decode prog_12_method_5_code 1 = .ok (.getfield 15, 3) := by decide +kernel
theorem d11_4 : decode prog_12_method_5_code 4 = .ok (.lreturn, 1) := by decide +kernel
theorem ef11 (m : MethodId) (u0 : Addr) : entryFrame m #[(.ref u0)] 1 = mkF m 0 #[.val (.ref u0)] [] := by first | (simp [entryFrame, mkF, argsToLocals, Value.category]; done) | rfl
def f11 (w_version_u0 : Int32) (w_generation_u0 : Int64) : Int64 := w_generation_u0
def Q11 (Z : State) (u0 : Addr) (w_version_u0 : Int32) (w_generation_u0 : Int64) (h0 : Heap) (n0 : Nat) (v : Option Value) (h : Heap) (L : List Loc) : Prop := v = some (.long (f11 w_version_u0 w_generation_u0)) ∧ Fr n0 L ∧ h = h0
set_option maxRecDepth 65536 in
set_option maxHeartbeats 40000000 in
theorem rm11 (l : Launch) (Z : State) (a0 : Array Value) (hw : ∀ d ∈ tables_1, d.before a0 Z = true) (ws : List Jvm.Cond) (u0 : Addr) (w_version_u0 : Int32) (w_generation_u0 : Int64) (h0 : Heap) (n0 : Nat) (Z0 : n0 ≤ h0.size) (E_u0 : Exa Z h0 u0 "com/example/isopod/isopod/RecordHeader") (F_version_u0 : Fld Z h0 u0 "com/example/isopod/isopod/RecordHeader" "version" "I" (.int w_version_u0)) (F_generation_u0 : Fld Z h0 u0 "com/example/isopod/isopod/RecordHeader" "generation" "J" (.long w_generation_u0)) :
    MetFree l (⟨"com/example/isopod/isopod/RecordHeader", "generation", "()J"⟩ : MethodName) (head1 (Jvm.Cond.code (⟨"com/example/isopod/isopod/RecordHeader", "generation", "()J"⟩ : MethodName) prog_12_method_5_code 1 (some .long) :: ws) ({ frames := 0, cells := 0, slots := 0, locals := 0 } : Room)) (fun a U => a = #[(.ref u0)] ∧ Z.Warmed39 U.vm ∧ U.heap = h0) (fun _ _ _ _ _ => True) (fun _ U o U' => ∃ v L, o = .returned v ∧ Q11 Z u0 w_version_u0 w_generation_u0 h0 n0 v U'.heap L ∧ FrameEnd U o U' L ({ frames := 0, cells := 0, slots := 0, locals := 0 } : Room).cells ({ frames := 0, cells := 0, slots := 0, locals := 0 } : Room).slots) := by
  refine MetFree.of_bodySF (plainFor_of_name pn0) hisR ?_
  intro p e s m args below meth c s₁ Bd hml0 hP hK
  obtain ⟨rfl, hZ, hh⟩ := hP
  have hx := Bd.exec
  have hby := Bd.bytes
  have hml : c.maxLocals = 1 := hml0
  have hown : s.vm.findClass "com/example/isopod/isopod/RecordHeader" = some m.cls := findClass_of_methodNamed Bd.named
  have hnm := (name_of_methodNamed Bd.named Bd.method).1
  have X0 : Stand p l e ({ frames := 0, cells := 0, slots := 0, locals := 0 } : Room) s m #[(.ref u0)] below meth c s₁ [] 0 0 := Stand.of_body Bd
  have e0 : s₁.heap = h0 := by rw [← hh, Bd.state]; rfl
  have N0 := Fr.nil n0
  refine Goes.out (Q := fun o U' => ∃ v L, o = .returned v ∧ Q11 Z u0 w_version_u0 w_generation_u0 h0 n0 v U'.heap L ∧ FrameEnd s o U' L ({ frames := 0, cells := 0, slots := 0, locals := 0 } : Room).cells ({ frames := 0, cells := 0, slots := 0, locals := 0 } : Room).slots) ?_
  refine Goes.step (S' := s₁.setTop (mkF m 0 #[.val (.ref u0)] [])) (fun _ k => castTop (ef11 m u0) k) ?_
  refine Goes.step (S' := s₁.setTop (mkF m 1 #[.val (.ref u0)] [(.ref u0)])) (fun _ k => XS.aloadN X0.here hx rfl (hb hby d11_0) rfl rfl k) ?_
  obtain ⟨T1, X1, e1, st1⟩ := getF X0 hx hZ hown (host := "") (Or.inl (hw _ (List.mem_of_getElem? (i := 38) rfl))) Via.refl e0 F_generation_u0 (g := (mkF m 1 #[.val (.ref u0)] [(.ref u0)])) rfl rfl (hb hby d11_1)
  refine Goes.step (S' := T1.setTop (mkF m 4 #[.val (.ref u0)] [(.long w_generation_u0)])) st1 ?_
  refine Goes.retJ X1 hx Bd.notSynchronized Bd.returns (hb hby d11_4) (by decide) (by decide) ?_
  exact ⟨rfl, N0, e1⟩
theorem d2_0 : decode prog_12_method_10_code 0 = .ok (.iload_n 0, 1) := by decide +kernel
theorem d2_1 : decode prog_12_method_10_code 1 = .ok (.iconst 2, 1) := by decide +kernel
theorem d2_2 : decode prog_12_method_10_code 2 = .ok (.if_icmp .ne 7, 3) := by decide +kernel
theorem d2_5 : decode prog_12_method_10_code 5 = .ok (.iconst 4, 1) := by decide +kernel
theorem d2_6 : decode prog_12_method_10_code 6 = .ok (.goto 4, 3) := by decide +kernel
theorem d2_9 : decode prog_12_method_10_code 9 = .ok (.iconst 0, 1) := by decide +kernel
theorem d2_10 : decode prog_12_method_10_code 10 = .ok (.istore_n 1, 1) := by decide +kernel
theorem d2_11 : decode prog_12_method_10_code 11 = .ok (.iconst 1, 1) := by decide +kernel
theorem d2_12 : decode prog_12_method_10_code 12 = .ok (.iload_n 1, 1) := by decide +kernel
theorem d2_13 : decode prog_12_method_10_code 13 = .ok (.iadd, 1) := by decide +kernel
theorem d2_14 : decode prog_12_method_10_code 14 = .ok (.bipush 12, 2) := by decide +kernel
theorem d2_16 : decode prog_12_method_10_code 16 = .ok (.iadd, 1) := by decide +kernel
theorem d2_17 : decode prog_12_method_10_code 17 = .ok (.ireturn, 1) := by decide +kernel
theorem ef2 (m : MethodId) (p0 : Int32) : entryFrame m #[(.int p0)] 2 = mkF m 0 #[.val (.int p0), .unset] [] := by first | (simp [entryFrame, mkF, argsToLocals, Value.category]; done) | rfl
def f2 (p0 : Int32) : Int32 := (((1 : Int32) + (if p0 = (2 : Int32) then (4 : Int32) else (0 : Int32))) + (12 : Int32))
def Q2 (Z : State) (p0 : Int32) (h0 : Heap) (n0 : Nat) (v : Option Value) (h : Heap) (L : List Loc) : Prop := v = some (.int (f2 p0)) ∧ Fr n0 L ∧ h = h0
set_option maxRecDepth 65536 in
set_option maxHeartbeats 40000000 in
theorem rm2 (l : Launch) (Z : State) (a0 : Array Value) (hw : ∀ d ∈ tables_1, d.before a0 Z = true) (ws : List Jvm.Cond) (p0 : Int32) (h0 : Heap) (n0 : Nat) (Z0 : n0 ≤ h0.size) :
    MetFree l (⟨"com/example/isopod/isopod/RecordHeader", "headerLength", "(I)I"⟩ : MethodName) (head1 (Jvm.Cond.code (⟨"com/example/isopod/isopod/RecordHeader", "headerLength", "(I)I"⟩ : MethodName) prog_12_method_10_code 2 (some .int) :: ws) ({ frames := 0, cells := 0, slots := 0, locals := 0 } : Room)) (fun a U => a = #[(.int p0)] ∧ Z.Warmed39 U.vm ∧ U.heap = h0) (fun _ _ _ _ _ => True) (fun _ U o U' => ∃ v L, o = .returned v ∧ Q2 Z p0 h0 n0 v U'.heap L ∧ FrameEnd U o U' L ({ frames := 0, cells := 0, slots := 0, locals := 0 } : Room).cells ({ frames := 0, cells := 0, slots := 0, locals := 0 } : Room).slots) := by
  refine MetFree.of_bodySF (plainFor_of_name pn0) hisR ?_
  intro p e s m args below meth c s₁ Bd hml0 hP hK
  obtain ⟨rfl, hZ, hh⟩ := hP
  have hx := Bd.exec
  have hby := Bd.bytes
  have hml : c.maxLocals = 2 := hml0
  have hown : s.vm.findClass "com/example/isopod/isopod/RecordHeader" = some m.cls := findClass_of_methodNamed Bd.named
  have hnm := (name_of_methodNamed Bd.named Bd.method).1
  have X0 : Stand p l e ({ frames := 0, cells := 0, slots := 0, locals := 0 } : Room) s m #[(.int p0)] below meth c s₁ [] 0 0 := Stand.of_body Bd
  have e0 : s₁.heap = h0 := by rw [← hh, Bd.state]; rfl
  have N0 := Fr.nil n0
  refine Goes.out (Q := fun o U' => ∃ v L, o = .returned v ∧ Q2 Z p0 h0 n0 v U'.heap L ∧ FrameEnd s o U' L ({ frames := 0, cells := 0, slots := 0, locals := 0 } : Room).cells ({ frames := 0, cells := 0, slots := 0, locals := 0 } : Room).slots) ?_
  refine Goes.step (S' := s₁.setTop (mkF m 0 #[.val (.int p0), .unset] [])) (fun _ k => castTop (ef2 m p0) k) ?_
  refine Goes.step (S' := s₁.setTop (mkF m 1 #[.val (.int p0), .unset] [(.int p0)])) (fun _ k => XS.iloadN X0.here hx rfl (hb hby d2_0) rfl  k) ?_
  refine Goes.step (S' := s₁.setTop (mkF m 2 #[.val (.int p0), .unset] [(.int (2 : Int32)), (.int p0)])) (fun _ k => XS.iconst X0.here hx rfl (hb hby d2_1) k) ?_
  refine Goes.step (own_ite1 (T := s₁) (c := p0 = (2 : Int32)) (a0 := (4 : Int32)) (b0 := (0 : Int32)) (F := fun z1_0 => (mkF m 10 #[.val (.int p0), .unset] [(.int z1_0)])) ?_ ?_) ?_
  · intro hc2_1 t k
    refine XS.icmpNo X0.here hx rfl (hb hby d2_2) rfl (teq hc2_1).2 ?_
    show Steps p.tables e below (s₁.setTop (mkF m 5 #[.val (.int p0), .unset] [])) _
    refine XS.iconst X0.here hx rfl (hb hby d2_5) ?_
    show Steps p.tables e below (s₁.setTop (mkF m 6 #[.val (.int p0), .unset] [(.int (4 : Int32))])) _
    refine XS.goto X0.here hx rfl (pc0 := 6) (pc' := 10) rfl (hb hby d2_6) (by decide) (by decide) ?_
    show Steps p.tables e below (s₁.setTop (mkF m 10 #[.val (.int p0), .unset] [(.int (4 : Int32))])) _
    exact k
  · intro hc2_1 t k
    refine XS.icmpYes X0.here hx rfl (pc0 := 2) (pc' := 9) rfl (hb hby d2_2) rfl (feq hc2_1).2 (by decide) (by decide) ?_
    show Steps p.tables e below (s₁.setTop (mkF m 9 #[.val (.int p0), .unset] [])) _
    refine XS.iconst X0.here hx rfl (hb hby d2_9) ?_
    show Steps p.tables e below (s₁.setTop (mkF m 10 #[.val (.int p0), .unset] [(.int (0 : Int32))])) _
    exact k
  show Goes p.tables e below _ (s₁.setTop (mkF m 10 #[.val (.int p0), .unset] [(.int (if p0 = (2 : Int32) then (4 : Int32) else (0 : Int32)))]))
  refine Goes.step (S' := s₁.setTop (mkF m 11 #[.val (.int p0), .val (.int (if p0 = (2 : Int32) then (4 : Int32) else (0 : Int32)))] [])) (fun _ k => XS.istoreN X0.here hx rfl (hb hby d2_10) rfl (l' := #[.val (.int p0), .val (.int (if p0 = (2 : Int32) then (4 : Int32) else (0 : Int32)))]) rfl k) ?_
  refine Goes.step (S' := s₁.setTop (mkF m 12 #[.val (.int p0), .val (.int (if p0 = (2 : Int32) then (4 : Int32) else (0 : Int32)))] [(.int (1 : Int32))])) (fun _ k => XS.iconst X0.here hx rfl (hb hby d2_11) k) ?_
  refine Goes.step (S' := s₁.setTop (mkF m 13 #[.val (.int p0), .val (.int (if p0 = (2 : Int32) then (4 : Int32) else (0 : Int32)))] [(.int (if p0 = (2 : Int32) then (4 : Int32) else (0 : Int32))), (.int (1 : Int32))])) (fun _ k => XS.iloadN X0.here hx rfl (hb hby d2_12) rfl  k) ?_
  refine Goes.step (S' := s₁.setTop (mkF m 14 #[.val (.int p0), .val (.int (if p0 = (2 : Int32) then (4 : Int32) else (0 : Int32)))] [(.int ((1 : Int32) + (if p0 = (2 : Int32) then (4 : Int32) else (0 : Int32))))])) (fun _ k => XS.iadd X0.here hx rfl (hb hby d2_13) rfl k) ?_
  refine Goes.step (S' := s₁.setTop (mkF m 16 #[.val (.int p0), .val (.int (if p0 = (2 : Int32) then (4 : Int32) else (0 : Int32)))] [(.int (12 : Int32)), (.int ((1 : Int32) + (if p0 = (2 : Int32) then (4 : Int32) else (0 : Int32))))])) (fun _ k => XS.bipush X0.here hx rfl (hb hby d2_14) k) ?_
  refine Goes.step (S' := s₁.setTop (mkF m 17 #[.val (.int p0), .val (.int (if p0 = (2 : Int32) then (4 : Int32) else (0 : Int32)))] [(.int (((1 : Int32) + (if p0 = (2 : Int32) then (4 : Int32) else (0 : Int32))) + (12 : Int32)))])) (fun _ k => XS.iadd X0.here hx rfl (hb hby d2_16) rfl k) ?_
  refine Goes.retI X0 hx Bd.notSynchronized Bd.returns (hb hby d2_17) (by decide) (by decide) ?_
  exact ⟨rfl, N0, e0⟩
theorem pd0 : parseMethodDescriptor "(I)I" = some ⟨[.int], some .int⟩ := by decide +kernel
theorem d12_0 : decode prog_12_method_7_code 0 = .ok (.aload_n 0, 1) := by decide +kernel
theorem d12_1 : decode prog_12_method_7_code 1 = .ok (.getfield 11, 3) := by decide +kernel
theorem d12_4 : decode prog_12_method_7_code 4 = .ok (.invokestatic 52, 3) := by decide +kernel
theorem d12_7 : decode prog_12_method_7_code 7 = .ok (.ireturn, 1) := by decide +kernel
theorem ef12 (m : MethodId) (u0 : Addr) : entryFrame m #[(.ref u0)] 1 = mkF m 0 #[.val (.ref u0)] [] := by first | (simp [entryFrame, mkF, argsToLocals, Value.category]; done) | rfl
def f12 (w_version_u0 : Int32) : Int32 := (f2 w_version_u0)
def Q12 (Z : State) (u0 : Addr) (w_version_u0 : Int32) (h0 : Heap) (n0 : Nat) (v : Option Value) (h : Heap) (L : List Loc) : Prop := v = some (.int (f12 w_version_u0)) ∧ Fr n0 L ∧ h = h0
set_option maxRecDepth 65536 in
set_option maxHeartbeats 40000000 in
theorem rm12 (l : Launch) (Z : State) (a0 : Array Value) (hw : ∀ d ∈ tables_1, d.before a0 Z = true) (ws : List Jvm.Cond) (u0 : Addr) (w_version_u0 : Int32) (h0 : Heap) (n0 : Nat) (Z0 : n0 ≤ h0.size) (E_u0 : Exa Z h0 u0 "com/example/isopod/isopod/RecordHeader") (F_version_u0 : Fld Z h0 u0 "com/example/isopod/isopod/RecordHeader" "version" "I" (.int w_version_u0)) :
    MetFree l (⟨"com/example/isopod/isopod/RecordHeader", "length", "()I"⟩ : MethodName) (head1 (Jvm.Cond.code (⟨"com/example/isopod/isopod/RecordHeader", "length", "()I"⟩ : MethodName) prog_12_method_7_code 1 (some .int) :: ws) ({ frames := 1, cells := 0, slots := 0, locals := 13 } : Room)) (fun a U => a = #[(.ref u0)] ∧ Z.Warmed39 U.vm ∧ U.heap = h0) (fun _ _ _ _ _ => True) (fun _ U o U' => ∃ v L, o = .returned v ∧ Q12 Z u0 w_version_u0 h0 n0 v U'.heap L ∧ FrameEnd U o U' L ({ frames := 1, cells := 0, slots := 0, locals := 13 } : Room).cells ({ frames := 1, cells := 0, slots := 0, locals := 13 } : Room).slots) := by
  refine MetFree.of_bodySF (plainFor_of_name pn0) hisR ?_
  intro p e s m args below meth c s₁ Bd hml0 hP hK
  obtain ⟨rfl, hZ, hh⟩ := hP
  have hx := Bd.exec
  have hby := Bd.bytes
  have hml : c.maxLocals = 1 := hml0
  have hown : s.vm.findClass "com/example/isopod/isopod/RecordHeader" = some m.cls := findClass_of_methodNamed Bd.named
  have hnm := (name_of_methodNamed Bd.named Bd.method).1
  have X0 : Stand p l e ({ frames := 1, cells := 0, slots := 0, locals := 13 } : Room) s m #[(.ref u0)] below meth c s₁ [] 0 0 := Stand.of_body Bd
  have e0 : s₁.heap = h0 := by rw [← hh, Bd.state]; rfl
  have N0 := Fr.nil n0
  refine Goes.out (Q := fun o U' => ∃ v L, o = .returned v ∧ Q12 Z u0 w_version_u0 h0 n0 v U'.heap L ∧ FrameEnd s o U' L ({ frames := 1, cells := 0, slots := 0, locals := 13 } : Room).cells ({ frames := 1, cells := 0, slots := 0, locals := 13 } : Room).slots) ?_
  refine Goes.step (S' := s₁.setTop (mkF m 0 #[.val (.ref u0)] [])) (fun _ k => castTop (ef12 m u0) k) ?_
  refine Goes.step (S' := s₁.setTop (mkF m 1 #[.val (.ref u0)] [(.ref u0)])) (fun _ k => XS.aloadN X0.here hx rfl (hb hby d12_0) rfl rfl k) ?_
  obtain ⟨T1, X1, e1, st1⟩ := getF X0 hx hZ hown (host := "") (Or.inl (hw _ (List.mem_of_getElem? (i := 36) rfl))) Via.refl e0 F_version_u0 (g := (mkF m 1 #[.val (.ref u0)] [(.ref u0)])) rfl rfl (hb hby d12_1)
  refine Goes.step (S' := T1.setTop (mkF m 4 #[.val (.ref u0)] [(.int w_version_u0)])) st1 ?_
  obtain ⟨_, _, ⟨T2, L2, k2, n2⟩, -, X2, ⟨Lc2, hQ2, l2, y2, z2⟩, st2⟩ := Jvm.LawKit.callS X1 hx (y := (⟨"com/example/isopod/isopod/RecordHeader", "headerLength", "(I)I"⟩ : MethodName)) hown (mvT hZ (hw _ (List.mem_of_getElem? (i := 6) rfl))) (mvT hZ (hw _ (List.mem_of_getElem? (i := 7) rfl))) (mvT hZ (hw _ (List.mem_of_getElem? (i := 4) rfl))) (mvT hZ (hw _ (List.mem_of_getElem? (i := 8) rfl))) (by decide) (backOf (W := 0) (rm2 l Z a0 hw [] w_version_u0 h0 n0 Z0) hZ (hw _ (List.mem_of_getElem? (i := 8) rfl)) (hw _ (List.mem_of_getElem? (i := 4) rfl)) (by decide) (by decide)) (g := (mkF m 4 #[.val (.ref u0)] [(.int w_version_u0)])) rfl (by rw [hml]; rfl) (argsL := [(.int w_version_u0)]) (rest := []) (lenOf pd0 rfl) rfl (by show 2 * 0 + _ ≤ _; exact Nat.le_of_eq rfl) (hb hby d12_4) (fun _ _ => ⟨rfl, e1, (by decide : 0 + 0 ≤ _), (by decide : 0 + 0 ≤ _)⟩)
  dsimp only [Pt.U, Pt.locs, Pt.cells, Pt.slots] at X2 l2 y2 z2 st2 hQ2
  replace X2 := X2.more (Nat.le_of_eq (y2 : k2 = 0)) (Nat.le_of_eq (z2 : n2 = 0))
  obtain ⟨rfl, N2q, e2⟩ := hQ2
  have N3 := own_frapp l2 N0 N2q
  refine Goes.step (S' := T2.setTop (mkF m 7 #[.val (.ref u0)] [(.int (f2 w_version_u0))])) st2 ?_
  refine Goes.retI X2 hx Bd.notSynchronized Bd.returns (hb hby d12_7) (by decide) (by decide) ?_
  exact ⟨rfl, N3, e2⟩
theorem d9_0 : decode prog_12_method_6_code 0 = .ok (.aload_n 0, 1) := by decide +kernel
theorem d9_1 : decode prog_12_method_6_code 1 = .ok (.getfield 19, 3) := by decide +kernel
theorem d9_4 : decode prog_12_method_6_code 4 = .ok (.invokevirtual 37, 3) := by decide +kernel
theorem d9_7 : decode prog_12_method_6_code 7 = .ok (.checkcast 38, 3) := by decide +kernel
theorem d9_10 : decode prog_12_method_6_code 10 = .ok (.areturn, 1) := by decide +kernel
theorem ef9 (m : MethodId) (u0 : Addr) : entryFrame m #[(.ref u0)] 1 = mkF m 0 #[.val (.ref u0)] [] := by first | (simp [entryFrame, mkF, argsToLocals, Value.category]; done) | rfl
theorem own_cl9_4 (n_w_nonce_u0 : Int32) (vs_w_nonce_u0 : List Int32) (hl_w_nonce_u0 : vs_w_nonce_u0.length = n_w_nonce_u0.toNatClampNeg) (hn_w_nonce_u0 : ¬ n_w_nonce_u0 < 0) (hlen : n_w_nonce_u0 = (12 : Int32)) : (n_w_nonce_u0).toNatClampNeg ≤ 12 := by
  rw [hlen]; decide
def Q9 (Z : State) (u0 : Addr) (w_nonce_u0 : Addr) (k_w_nonce_u0 : ClassId) (n_w_nonce_u0 : Int32) (vs_w_nonce_u0 : List Int32) (h0 : Heap) (n0 : Nat) (v : Option Value) (h : Heap) (L : List Loc) : Prop := ∃ (r0 : Addr) (kk0 : ClassId), v = some (.ref r0) ∧ Fr n0 L ∧ Keep h0 h [] ∧ h0.size ≤ r0 ∧ AI Z h r0 kk0 .byte n_w_nonce_u0 vs_w_nonce_u0 ∧ Z.vm.findClass "[B" = some kk0
set_option maxRecDepth 65536 in
set_option maxHeartbeats 40000000 in
theorem rm9 (l : Launch) (Z : State) (a0 : Array Value) (hw : ∀ d ∈ tables_1, d.before a0 Z = true) (ws : List Jvm.Cond) (u0 : Addr) (w_nonce_u0 : Addr) (k_w_nonce_u0 : ClassId) (n_w_nonce_u0 : Int32) (vs_w_nonce_u0 : List Int32) (h0 : Heap) (n0 : Nat) (Z0 : n0 ≤ h0.size) (E_u0 : Exa Z h0 u0 "com/example/isopod/isopod/RecordHeader") (F_nonce_u0 : Fld Z h0 u0 "com/example/isopod/isopod/RecordHeader" "nonce" "[B" (.ref w_nonce_u0)) (V_w_nonce_u0 : AI Z h0 w_nonce_u0 k_w_nonce_u0 .byte n_w_nonce_u0 vs_w_nonce_u0) (hk_w_nonce_u0 : Z.vm.findClass "[B" = some k_w_nonce_u0) (hlen : n_w_nonce_u0 = (12 : Int32)) :
    MetFree l (⟨"com/example/isopod/isopod/RecordHeader", "nonce", "()[B"⟩ : MethodName) (head1 (Jvm.Cond.code (⟨"com/example/isopod/isopod/RecordHeader", "nonce", "()[B"⟩ : MethodName) prog_12_method_6_code 1 (some (.array .byte)) :: ws) ({ frames := 1, cells := 1, slots := 12, locals := 14 } : Room)) (fun a U => a = #[(.ref u0)] ∧ Z.Warmed39 U.vm ∧ U.heap = h0) (fun _ _ _ _ _ => True) (fun _ U o U' => ∃ v L, o = .returned v ∧ Q9 Z u0 w_nonce_u0 k_w_nonce_u0 n_w_nonce_u0 vs_w_nonce_u0 h0 n0 v U'.heap L ∧ FrameEnd U o U' L ({ frames := 1, cells := 1, slots := 12, locals := 14 } : Room).cells ({ frames := 1, cells := 1, slots := 12, locals := 14 } : Room).slots) := by
  refine MetFree.of_bodySF (plainFor_of_name pn0) hisR ?_
  intro p e s m args below meth c s₁ Bd hml0 hP hK
  obtain ⟨rfl, hZ, hh⟩ := hP
  have hx := Bd.exec
  have hby := Bd.bytes
  have hml : c.maxLocals = 1 := hml0
  have hown : s.vm.findClass "com/example/isopod/isopod/RecordHeader" = some m.cls := findClass_of_methodNamed Bd.named
  have hnm := (name_of_methodNamed Bd.named Bd.method).1
  have X0 : Stand p l e ({ frames := 1, cells := 1, slots := 12, locals := 14 } : Room) s m #[(.ref u0)] below meth c s₁ [] 0 0 := Stand.of_body Bd
  have e0 : s₁.heap = h0 := by rw [← hh, Bd.state]; rfl
  have N0 := Fr.nil n0
  have K0 : Keep h0 h0 [] := Keep.refl _ _
  have hl_w_nonce_u0 : vs_w_nonce_u0.length = n_w_nonce_u0.toNatClampNeg := V_w_nonce_u0.2
  have hn_w_nonce_u0 : ¬ n_w_nonce_u0 < 0 := V_w_nonce_u0.nn
  refine Goes.out (Q := fun o U' => ∃ v L, o = .returned v ∧ Q9 Z u0 w_nonce_u0 k_w_nonce_u0 n_w_nonce_u0 vs_w_nonce_u0 h0 n0 v U'.heap L ∧ FrameEnd s o U' L ({ frames := 1, cells := 1, slots := 12, locals := 14 } : Room).cells ({ frames := 1, cells := 1, slots := 12, locals := 14 } : Room).slots) ?_
  refine Goes.step (S' := s₁.setTop (mkF m 0 #[.val (.ref u0)] [])) (fun _ k => castTop (ef9 m u0) k) ?_
  refine Goes.step (S' := s₁.setTop (mkF m 1 #[.val (.ref u0)] [(.ref u0)])) (fun _ k => XS.aloadN X0.here hx rfl (hb hby d9_0) rfl rfl k) ?_
  obtain ⟨T1, X1, e1, st1⟩ := getF X0 hx hZ hown (host := "") (Or.inl (hw _ (List.mem_of_getElem? (i := 40) rfl))) Via.refl e0 F_nonce_u0 (g := (mkF m 1 #[.val (.ref u0)] [(.ref u0)])) rfl rfl (hb hby d9_1)
  refine Goes.step (S' := T1.setTop (mkF m 4 #[.val (.ref u0)] [(.ref w_nonce_u0)])) st1 ?_
  obtain ⟨T2, h2, X2, e2, E2, V_2, st2⟩ := own_clone X1 hx hZ hown (hw _ (List.mem_of_getElem? (i := 47) rfl)) (hw _ (List.mem_of_getElem? (i := 48) rfl)) (hw _ (List.mem_of_getElem? (i := 52) rfl)) (hw _ (List.mem_of_getElem? (i := 50) rfl)) (hw _ (List.mem_of_getElem? (i := 51) rfl)) (hw _ (List.mem_of_getElem? (i := 53) rfl)) e1 V_w_nonce_u0 hk_w_nonce_u0 (cap := 12) (own_cl9_4 n_w_nonce_u0 vs_w_nonce_u0 hl_w_nonce_u0 hn_w_nonce_u0 hlen) (g := (mkF m 4 #[.val (.ref u0)] [(.ref w_nonce_u0)])) rfl (by rw [hml]; rfl) rfl (hb hby d9_4) (by decide) (W := 0) (by show 2 * 0 + _ ≤ _; exact Nat.le_of_eq rfl) (by decide) (by decide) (by decide)
  obtain ⟨b2, g2⟩ : ∃ z, z = h0.size := ⟨_, rfl⟩
  rw [← g2] at V_2 st2
  have ne3 : w_nonce_u0 ≠ b2 := Nat.ne_of_lt (Nat.lt_of_lt_of_le V_w_nonce_u0.lt (Nat.le_of_eq g2.symm))
  have ne4 : u0 ≠ b2 := Nat.ne_of_lt (Nat.lt_of_lt_of_le E_u0.lt (Nat.le_of_eq g2.symm))
  have g5 : n0 ≤ b2 := Nat.le_trans Z0 (Nat.le_of_eq g2.symm)
  have Z6 : n0 ≤ h2.size := Nat.le_trans Z0 E2.1
  have O7 : h0.size ≤ b2 := Nat.le_trans K0.1 (Nat.le_of_eq g2.symm)
  have V8 := V_w_nonce_u0.ext E2
  have E_9 := E_u0.ext E2
  have F10 := F_nonce_u0.ext E2
  have K11 : Keep h0 h2 [] := K0.ext E2
  refine Goes.step (S' := T2.setTop (mkF m 7 #[.val (.ref u0)] [(.ref b2)])) st2 ?_
  obtain ⟨T12, X12, e12, st12⟩ := castY X2 hx hZ hown (hw _ (List.mem_of_getElem? (i := 54) rfl)) e2 (own_insB V_2 hk_w_nonce_u0) (g := (mkF m 7 #[.val (.ref u0)] [(.ref b2)])) rfl rfl (hb hby d9_7)
  refine Goes.step (S' := T12.setTop (mkF m 10 #[.val (.ref u0)] [(.ref b2)])) st12 ?_
  refine Goes.retA X12 hx Bd.notSynchronized Bd.returns rfl (hb hby d9_10) (by decide) (by decide) ?_
  refine ⟨b2, k_w_nonce_u0, rfl, N0, ?_, ?_, ?_, ?_⟩
  · first | exact K11 | (rw [e12]; exact K11)
  · first | exact O7 | (rw [e12]; exact O7)
  · first | exact V_2 | (rw [e12]; exact V_2)
  · first | exact hk_w_nonce_u0 | (rw [e12]; exact hk_w_nonce_u0)
theorem d6_0 : decode jdk_29_method_69_code 0 = .ok (.iload_n 0, 1) := by decide +kernel
theorem d6_1 : decode jdk_29_method_69_code 1 = .ok (.iload_n 1, 1) := by decide +kernel
theorem d6_2 : decode jdk_29_method_69_code 2 = .ok (.if_icmp .gt 7, 3) := by decide +kernel
theorem d6_5 : decode jdk_29_method_69_code 5 = .ok (.iload_n 0, 1) := by decide +kernel
theorem d6_6 : decode jdk_29_method_69_code 6 = .ok (.goto 4, 3) := by decide +kernel
theorem d6_9 : decode jdk_29_method_69_code 9 = .ok (.iload_n 1, 1) := by decide +kernel
theorem d6_10 : decode jdk_29_method_69_code 10 = .ok (.ireturn, 1) := by decide +kernel
theorem ef6 (m : MethodId) (p0 : Int32) (p1 : Int32) : entryFrame m #[(.int p0), (.int p1)] 2 = mkF m 0 #[.val (.int p0), .val (.int p1)] [] := by first | (simp [entryFrame, mkF, argsToLocals, Value.category]; done) | rfl
def f6 (p0 : Int32) (p1 : Int32) : Int32 := (if p1 < p0 then p1 else p0)
def Q6 (Z : State) (p0 : Int32) (p1 : Int32) (h0 : Heap) (n0 : Nat) (v : Option Value) (h : Heap) (L : List Loc) : Prop := v = some (.int (f6 p0 p1)) ∧ Fr n0 L ∧ h = h0
set_option maxRecDepth 65536 in
set_option maxHeartbeats 40000000 in
theorem rm6 (l : Launch) (Z : State) (a0 : Array Value) (hw : ∀ d ∈ tables_1, d.before a0 Z = true) (ws : List Jvm.Cond) (p0 : Int32) (p1 : Int32) (h0 : Heap) (n0 : Nat) (Z0 : n0 ≤ h0.size) :
    MetFree l (⟨"java/lang/Math", "min", "(II)I"⟩ : MethodName) (head1 (Jvm.Cond.code (⟨"java/lang/Math", "min", "(II)I"⟩ : MethodName) jdk_29_method_69_code 2 (some .int) :: ws) ({ frames := 0, cells := 0, slots := 0, locals := 0 } : Room)) (fun a U => a = #[(.int p0), (.int p1)] ∧ Z.Warmed39 U.vm ∧ U.heap = h0) (fun _ _ _ _ _ => True) (fun _ U o U' => ∃ v L, o = .returned v ∧ Q6 Z p0 p1 h0 n0 v U'.heap L ∧ FrameEnd U o U' L ({ frames := 0, cells := 0, slots := 0, locals := 0 } : Room).cells ({ frames := 0, cells := 0, slots := 0, locals := 0 } : Room).slots) := by
  refine MetFree.of_bodySF (Jvm.Free.JP.mathPlain rfl (by decide +kernel)) hisR ?_
  intro p e s m args below meth c s₁ Bd hml0 hP hK
  obtain ⟨rfl, hZ, hh⟩ := hP
  have hx := Bd.exec
  have hby := Bd.bytes
  have hml : c.maxLocals = 2 := hml0
  have hown : s.vm.findClass "java/lang/Math" = some m.cls := findClass_of_methodNamed Bd.named
  have hnm := (name_of_methodNamed Bd.named Bd.method).1
  have X0 : Stand p l e ({ frames := 0, cells := 0, slots := 0, locals := 0 } : Room) s m #[(.int p0), (.int p1)] below meth c s₁ [] 0 0 := Stand.of_body Bd
  have e0 : s₁.heap = h0 := by rw [← hh, Bd.state]; rfl
  have N0 := Fr.nil n0
  refine Goes.out (Q := fun o U' => ∃ v L, o = .returned v ∧ Q6 Z p0 p1 h0 n0 v U'.heap L ∧ FrameEnd s o U' L ({ frames := 0, cells := 0, slots := 0, locals := 0 } : Room).cells ({ frames := 0, cells := 0, slots := 0, locals := 0 } : Room).slots) ?_
  refine Goes.step (S' := s₁.setTop (mkF m 0 #[.val (.int p0), .val (.int p1)] [])) (fun _ k => castTop (ef6 m p0 p1) k) ?_
  refine Goes.step (S' := s₁.setTop (mkF m 1 #[.val (.int p0), .val (.int p1)] [(.int p0)])) (fun _ k => XS.iloadN X0.here hx rfl (hb hby d6_0) rfl  k) ?_
  refine Goes.step (S' := s₁.setTop (mkF m 2 #[.val (.int p0), .val (.int p1)] [(.int p1), (.int p0)])) (fun _ k => XS.iloadN X0.here hx rfl (hb hby d6_1) rfl  k) ?_
  refine Goes.step (own_ite1 (T := s₁) (c := p1 < p0) (a0 := p1) (b0 := p0) (F := fun z1_0 => (mkF m 10 #[.val (.int p0), .val (.int p1)] [(.int z1_0)])) ?_ ?_) ?_
  · intro hc2_1 t k
    refine XS.icmpYes X0.here hx rfl (pc0 := 2) (pc' := 9) rfl (hb hby d6_2) rfl (tlt hc2_1).2.2.1 (by decide) (by decide) ?_
    show Steps p.tables e below (s₁.setTop (mkF m 9 #[.val (.int p0), .val (.int p1)] [])) _
    refine XS.iloadN X0.here hx rfl (hb hby d6_9) rfl  ?_
    show Steps p.tables e below (s₁.setTop (mkF m 10 #[.val (.int p0), .val (.int p1)] [(.int p1)])) _
    exact k
  · intro hc2_1 t k
    refine XS.icmpNo X0.here hx rfl (hb hby d6_2) rfl (flt hc2_1).2.2.1 ?_
    show Steps p.tables e below (s₁.setTop (mkF m 5 #[.val (.int p0), .val (.int p1)] [])) _
    refine XS.iloadN X0.here hx rfl (hb hby d6_5) rfl  ?_
    show Steps p.tables e below (s₁.setTop (mkF m 6 #[.val (.int p0), .val (.int p1)] [(.int p0)])) _
    refine XS.goto X0.here hx rfl (pc0 := 6) (pc' := 10) rfl (hb hby d6_6) (by decide) (by decide) ?_
    show Steps p.tables e below (s₁.setTop (mkF m 10 #[.val (.int p0), .val (.int p1)] [(.int p0)])) _
    exact k
  show Goes p.tables e below _ (s₁.setTop (mkF m 10 #[.val (.int p0), .val (.int p1)] [(.int (if p1 < p0 then p1 else p0))]))
  refine Goes.retI X0 hx Bd.notSynchronized Bd.returns (hb hby d6_10) (by decide) (by decide) ?_
  exact ⟨rfl, N0, e0⟩
theorem d5_0 : decode jdk_65_method_131_code 0 = .ok (.iload_n 1, 1) := by decide +kernel
theorem d5_1 : decode jdk_65_method_131_code 1 = .ok (.iload_n 0, 1) := by decide +kernel
theorem d5_2 : decode jdk_65_method_131_code 2 = .ok (.if_icmp .ge 35, 3) := by decide +kernel
theorem d5_37 : decode jdk_65_method_131_code 37 = .ok (.return_, 1) := by decide +kernel
theorem pn1 : plainName "java/util/Arrays" = true := by first | (simp [plainName, overriddenIn]; done) | decide +kernel
theorem ef5 (m : MethodId) (p0 : Int32) (p1 : Int32) : entryFrame m #[(.int p0), (.int p1)] 2 = mkF m 0 #[.val (.int p0), .val (.int p1)] [] := by first | (simp [entryFrame, mkF, argsToLocals, Value.category]; done) | rfl
def Q5 (Z : State) (p0 : Int32) (p1 : Int32) (h0 : Heap) (n0 : Nat) (v : Option Value) (h : Heap) (L : List Loc) : Prop := v = none ∧ Fr n0 L ∧ h = h0
set_option maxRecDepth 65536 in
set_option maxHeartbeats 40000000 in
theorem rm5 (l : Launch) (Z : State) (a0 : Array Value) (hw : ∀ d ∈ tables_1, d.before a0 Z = true) (ws : List Jvm.Cond) (p0 : Int32) (p1 : Int32) (h0 : Heap) (n0 : Nat) (Z0 : n0 ≤ h0.size) (hle : ¬ p1 < p0) :
    MetFree l (⟨"java/util/Arrays", "checkLength", "(II)V"⟩ : MethodName) (head1 (Jvm.Cond.code (⟨"java/util/Arrays", "checkLength", "(II)V"⟩ : MethodName) jdk_65_method_131_code 2 none :: ws) ({ frames := 0, cells := 0, slots := 0, locals := 0 } : Room)) (fun a U => a = #[(.int p0), (.int p1)] ∧ Z.Warmed39 U.vm ∧ U.heap = h0) (fun _ _ _ _ _ => True) (fun _ U o U' => ∃ v L, o = .returned v ∧ Q5 Z p0 p1 h0 n0 v U'.heap L ∧ FrameEnd U o U' L ({ frames := 0, cells := 0, slots := 0, locals := 0 } : Room).cells ({ frames := 0, cells := 0, slots := 0, locals := 0 } : Room).slots) := by
  refine MetFree.of_bodySF (plainFor_of_name pn1) hisR ?_
  intro p e s m args below meth c s₁ Bd hml0 hP hK
  obtain ⟨rfl, hZ, hh⟩ := hP
  have hx := Bd.exec
  have hby := Bd.bytes
  have hml : c.maxLocals = 2 := hml0
  have hown : s.vm.findClass "java/util/Arrays" = some m.cls := findClass_of_methodNamed Bd.named
  have hnm := (name_of_methodNamed Bd.named Bd.method).1
  have X0 : Stand p l e ({ frames := 0, cells := 0, slots := 0, locals := 0 } : Room) s m #[(.int p0), (.int p1)] below meth c s₁ [] 0 0 := Stand.of_body Bd
  have e0 : s₁.heap = h0 := by rw [← hh, Bd.state]; rfl
  have N0 := Fr.nil n0
  refine Goes.out (Q := fun o U' => ∃ v L, o = .returned v ∧ Q5 Z p0 p1 h0 n0 v U'.heap L ∧ FrameEnd s o U' L ({ frames := 0, cells := 0, slots := 0, locals := 0 } : Room).cells ({ frames := 0, cells := 0, slots := 0, locals := 0 } : Room).slots) ?_
  refine Goes.step (S' := s₁.setTop (mkF m 0 #[.val (.int p0), .val (.int p1)] [])) (fun _ k => castTop (ef5 m p0 p1) k) ?_
  refine Goes.step (S' := s₁.setTop (mkF m 1 #[.val (.int p0), .val (.int p1)] [(.int p1)])) (fun _ k => XS.iloadN X0.here hx rfl (hb hby d5_0) rfl  k) ?_
  refine Goes.step (S' := s₁.setTop (mkF m 2 #[.val (.int p0), .val (.int p1)] [(.int p0), (.int p1)])) (fun _ k => XS.iloadN X0.here hx rfl (hb hby d5_1) rfl  k) ?_
  refine Goes.step (S' := s₁.setTop (mkF m 37 #[.val (.int p0), .val (.int p1)] [])) (fun _ k => XS.icmpYes X0.here hx rfl (pc0 := 2) (pc' := 37) rfl (hb hby d5_2) rfl (flt hle).2.1 (by decide) (by decide) k) ?_
  refine Goes.retV X0 hx Bd.notSynchronized Bd.returns (hb hby d5_37) (by decide) (by decide) ?_
  exact ⟨rfl, N0, e0⟩
theorem pd1 : parseMethodDescriptor "(II)V" = some ⟨[.int, .int], none⟩ := by decide +kernel
theorem pd2 : parseMethodDescriptor "(II)I" = some ⟨[.int, .int], some .int⟩ := by decide +kernel
theorem d4_0 : decode jdk_65_method_133_code 0 = .ok (.iload_n 1, 1) := by decide +kernel
theorem d4_1 : decode jdk_65_method_133_code 1 = .ok (.iload_n 2, 1) := by decide +kernel
theorem d4_2 : decode jdk_65_method_133_code 2 = .ok (.invokestatic 343, 3) := by decide +kernel
theorem d4_5 : decode jdk_65_method_133_code 5 = .ok (.iload_n 2, 1) := by decide +kernel
theorem d4_6 : decode jdk_65_method_133_code 6 = .ok (.iload_n 1, 1) := by decide +kernel
theorem d4_7 : decode jdk_65_method_133_code 7 = .ok (.isub, 1) := by decide +kernel
theorem d4_8 : decode jdk_65_method_133_code 8 = .ok (.istore_n 3, 1) := by decide +kernel
theorem d4_9 : decode jdk_65_method_133_code 9 = .ok (.iload_n 3, 1) := by decide +kernel
theorem d4_10 : decode jdk_65_method_133_code 10 = .ok (.newarray .byte, 2) := by decide +kernel
theorem d4_12 : decode jdk_65_method_133_code 12 = .ok (.astore 4, 2) := by decide +kernel
theorem d4_14 : decode jdk_65_method_133_code 14 = .ok (.aload_n 0, 1) := by decide +kernel
theorem d4_15 : decode jdk_65_method_133_code 15 = .ok (.iload_n 1, 1) := by decide +kernel
theorem d4_16 : decode jdk_65_method_133_code 16 = .ok (.aload 4, 2) := by decide +kernel
theorem d4_18 : decode jdk_65_method_133_code 18 = .ok (.iconst 0, 1) := by decide +kernel
theorem d4_19 : decode jdk_65_method_133_code 19 = .ok (.aload_n 0, 1) := by decide +kernel
theorem d4_20 : decode jdk_65_method_133_code 20 = .ok (.arraylength, 1) := by decide +kernel
theorem d4_21 : decode jdk_65_method_133_code 21 = .ok (.iload_n 1, 1) := by decide +kernel
theorem d4_22 : decode jdk_65_method_133_code 22 = .ok (.isub, 1) := by decide +kernel
theorem d4_23 : decode jdk_65_method_133_code 23 = .ok (.iload_n 3, 1) := by decide +kernel
theorem d4_24 : decode jdk_65_method_133_code 24 = .ok (.invokestatic 304, 3) := by decide +kernel
theorem d4_27 : decode jdk_65_method_133_code 27 = .ok (.invokestatic 150, 3) := by decide +kernel
theorem d4_30 : decode jdk_65_method_133_code 30 = .ok (.aload 4, 2) := by decide +kernel
theorem d4_32 : decode jdk_65_method_133_code 32 = .ok (.areturn, 1) := by decide +kernel
theorem ef4 (m : MethodId) (u0 : Addr) (p1 : Int32) (p2 : Int32) : entryFrame m #[(.ref u0), (.int p1), (.int p2)] 5 = mkF m 0 #[.val (.ref u0), .val (.int p1), .val (.int p2), .unset, .unset] [] := by first | (simp [entryFrame, mkF, argsToLocals, Value.category]; done) | rfl
theorem own_pr4_2_hle (n_u0 : Int32) (vs_u0 : List Int32) (hl_u0 : vs_u0.length = n_u0.toNatClampNeg) (hn_u0 : ¬ n_u0 < 0) (p1 : Int32) (p2 : Int32) (hp0 : ¬ p1 < (0 : Int32)) (hd : (p2 - p1) = (12 : Int32)) (hle : ¬ p2 < p1) (hmin : ¬ (n_u0 - p1) < (12 : Int32)) (h4 : (p1).toNatClampNeg + 12 ≤ (n_u0).toNatClampNeg) : ¬ p2 < p1 := by
  exact hle
theorem own_case4_9 (n_u0 : Int32) (vs_u0 : List Int32) (hl_u0 : vs_u0.length = n_u0.toNatClampNeg) (hn_u0 : ¬ n_u0 < 0) (p1 : Int32) (p2 : Int32) (hp0 : ¬ p1 < (0 : Int32)) (hd : (p2 - p1) = (12 : Int32)) (hle : ¬ p2 < p1) (hmin : ¬ (n_u0 - p1) < (12 : Int32)) (h4 : (p1).toNatClampNeg + 12 ≤ (n_u0).toNatClampNeg) (v3_8 : Int32) (ev3_8 : v3_8 = (p2 - p1)) : v3_8 = (12 : Int32) := by
  rw [ev3_8]; exact hd
theorem own_case4_27 (n_u0 : Int32) (vs_u0 : List Int32) (hl_u0 : vs_u0.length = n_u0.toNatClampNeg) (hn_u0 : ¬ n_u0 < 0) (p1 : Int32) (p2 : Int32) (hp0 : ¬ p1 < (0 : Int32)) (hd : (p2 - p1) = (12 : Int32)) (hle : ¬ p2 < p1) (hmin : ¬ (n_u0 - p1) < (12 : Int32)) (h4 : (p1).toNatClampNeg + 12 ≤ (n_u0).toNatClampNeg) (ev3_8 : (12 : Int32) = (p2 - p1)) (vs_27 : Int32) (evs_27 : vs_27 = (f6 (n_u0 - p1) (12 : Int32))) : vs_27 = (12 : Int32) := by
  rw [evs_27]
  unfold f6
  by_cases h : (12 : Int32) < n_u0 - p1
  · rw [if_pos h]
  · rw [if_neg h]
    simp only [Int32.lt_iff_toInt_lt] at h hmin
    apply Int32.toInt_inj.mp
    omega
theorem own_sp4_27 (n_u0 : Int32) (vs_u0 : List Int32) (hl_u0 : vs_u0.length = n_u0.toNatClampNeg) (hn_u0 : ¬ n_u0 < 0) (p1 : Int32) (p2 : Int32) (hp0 : ¬ p1 < (0 : Int32)) (hd : (p2 - p1) = (12 : Int32)) (hle : ¬ p2 < p1) (hmin : ¬ (n_u0 - p1) < (12 : Int32)) (h4 : (p1).toNatClampNeg + 12 ≤ (n_u0).toNatClampNeg) (ev3_8 : (12 : Int32) = (p2 - p1)) (evs_27 : (12 : Int32) = (f6 (n_u0 - p1) (12 : Int32))) : ¬ p1 < 0 := by
  exact hp0
theorem own_s44_27 (n_u0 : Int32) (vs_u0 : List Int32) (hl_u0 : vs_u0.length = n_u0.toNatClampNeg) (hn_u0 : ¬ n_u0 < 0) (p1 : Int32) (p2 : Int32) (hp0 : ¬ p1 < (0 : Int32)) (hd : (p2 - p1) = (12 : Int32)) (hle : ¬ p2 < p1) (hmin : ¬ (n_u0 - p1) < (12 : Int32)) (h4 : (p1).toNatClampNeg + 12 ≤ (n_u0).toNatClampNeg) (ev3_8 : (12 : Int32) = (p2 - p1)) (evs_27 : (12 : Int32) = (f6 (n_u0 - p1) (12 : Int32))) : (p1).toNatClampNeg + ((12 : Int32)).toNatClampNeg ≤ (n_u0).toNatClampNeg := by
  exact h4
def Q4 (Z : State) (u0 : Addr) (p1 : Int32) (p2 : Int32) (k_u0 : ClassId) (n_u0 : Int32) (vs_u0 : List Int32) (h0 : Heap) (n0 : Nat) (v : Option Value) (h : Heap) (L : List Loc) : Prop := ∃ (r0 : Addr) (kk0 : ClassId), v = some (.ref r0) ∧ Fr n0 L ∧ Keep h0 h [] ∧ h0.size ≤ r0 ∧ AI Z h r0 kk0 .byte (12 : Int32) [(vs_u0.getD ((p1).toNatClampNeg + 0) 0), (vs_u0.getD ((p1).toNatClampNeg + 1) 0), (vs_u0.getD ((p1).toNatClampNeg + 2) 0), (vs_u0.getD ((p1).toNatClampNeg + 3) 0), (vs_u0.getD ((p1).toNatClampNeg + 4) 0), (vs_u0.getD ((p1).toNatClampNeg + 5) 0), (vs_u0.getD ((p1).toNatClampNeg + 6) 0), (vs_u0.getD ((p1).toNatClampNeg + 7) 0), (vs_u0.getD ((p1).toNatClampNeg + 8) 0), (vs_u0.getD ((p1).toNatClampNeg + 9) 0), (vs_u0.getD ((p1).toNatClampNeg + 10) 0), (vs_u0.getD ((p1).toNatClampNeg + 11) 0)] ∧ Z.vm.findClass "[B" = some kk0
set_option maxRecDepth 65536 in
set_option maxHeartbeats 40000000 in
theorem rm4 (l : Launch) (Z : State) (a0 : Array Value) (hw : ∀ d ∈ tables_1, d.before a0 Z = true) (ws : List Jvm.Cond) (u0 : Addr) (p1 : Int32) (p2 : Int32) (k_u0 : ClassId) (n_u0 : Int32) (vs_u0 : List Int32) (h0 : Heap) (n0 : Nat) (Z0 : n0 ≤ h0.size) (V_u0 : AI Z h0 u0 k_u0 .byte n_u0 vs_u0) (hk_u0 : Z.vm.findClass "[B" = some k_u0) (hp0 : ¬ p1 < (0 : Int32)) (hd : (p2 - p1) = (12 : Int32)) (hle : ¬ p2 < p1) (hmin : ¬ (n_u0 - p1) < (12 : Int32)) (h4 : (p1).toNatClampNeg + 12 ≤ (n_u0).toNatClampNeg) :
    MetFree l (⟨"java/util/Arrays", "copyOfRangeByte", "([BII)[B"⟩ : MethodName) (head1 (Jvm.Cond.code (⟨"java/util/Arrays", "copyOfRangeByte", "([BII)[B"⟩ : MethodName) jdk_65_method_133_code 5 (some (.array .byte)) :: ws) ({ frames := 1, cells := 1, slots := 12, locals := 18 } : Room)) (fun a U => a = #[(.ref u0), (.int p1), (.int p2)] ∧ Z.Warmed39 U.vm ∧ U.heap = h0) (fun _ _ _ _ _ => True) (fun _ U o U' => ∃ v L, o = .returned v ∧ Q4 Z u0 p1 p2 k_u0 n_u0 vs_u0 h0 n0 v U'.heap L ∧ FrameEnd U o U' L ({ frames := 1, cells := 1, slots := 12, locals := 18 } : Room).cells ({ frames := 1, cells := 1, slots := 12, locals := 18 } : Room).slots) := by
  refine MetFree.of_bodySF (plainFor_of_name pn1) hisR ?_
  intro p e s m args below meth c s₁ Bd hml0 hP hK
  obtain ⟨rfl, hZ, hh⟩ := hP
  have hx := Bd.exec
  have hby := Bd.bytes
  have hml : c.maxLocals = 5 := hml0
  have hown : s.vm.findClass "java/util/Arrays" = some m.cls := findClass_of_methodNamed Bd.named
  have hnm := (name_of_methodNamed Bd.named Bd.method).1
  have X0 : Stand p l e ({ frames := 1, cells := 1, slots := 12, locals := 18 } : Room) s m #[(.ref u0), (.int p1), (.int p2)] below meth c s₁ [] 0 0 := Stand.of_body Bd
  have e0 : s₁.heap = h0 := by rw [← hh, Bd.state]; rfl
  have N0 := Fr.nil n0
  have K0 : Keep h0 h0 [] := Keep.refl _ _
  have hl_u0 : vs_u0.length = n_u0.toNatClampNeg := V_u0.2
  have hn_u0 : ¬ n_u0 < 0 := V_u0.nn
  refine Goes.out (Q := fun o U' => ∃ v L, o = .returned v ∧ Q4 Z u0 p1 p2 k_u0 n_u0 vs_u0 h0 n0 v U'.heap L ∧ FrameEnd s o U' L ({ frames := 1, cells := 1, slots := 12, locals := 18 } : Room).cells ({ frames := 1, cells := 1, slots := 12, locals := 18 } : Room).slots) ?_
  refine Goes.step (S' := s₁.setTop (mkF m 0 #[.val (.ref u0), .val (.int p1), .val (.int p2), .unset, .unset] [])) (fun _ k => castTop (ef4 m u0 p1 p2) k) ?_
  refine Goes.step (S' := s₁.setTop (mkF m 1 #[.val (.ref u0), .val (.int p1), .val (.int p2), .unset, .unset] [(.int p1)])) (fun _ k => XS.iloadN X0.here hx rfl (hb hby d4_0) rfl  k) ?_
  refine Goes.step (S' := s₁.setTop (mkF m 2 #[.val (.ref u0), .val (.int p1), .val (.int p2), .unset, .unset] [(.int p2), (.int p1)])) (fun _ k => XS.iloadN X0.here hx rfl (hb hby d4_1) rfl  k) ?_
  obtain ⟨_, _, ⟨T1, L1, k1, n1⟩, -, X1, ⟨Lc1, hQ1, l1, y1, z1⟩, st1⟩ := Jvm.LawKit.callS X0 hx (y := (⟨"java/util/Arrays", "checkLength", "(II)V"⟩ : MethodName)) hown (mvT hZ (hw _ (List.mem_of_getElem? (i := 17) rfl))) (mvT hZ (hw _ (List.mem_of_getElem? (i := 18) rfl))) (mvT hZ (hw _ (List.mem_of_getElem? (i := 12) rfl))) (mvT hZ (hw _ (List.mem_of_getElem? (i := 19) rfl))) (by decide) (backOf (W := 0) (rm5 l Z a0 hw [] p1 p2 h0 n0 Z0 (own_pr4_2_hle n_u0 vs_u0 hl_u0 hn_u0 p1 p2 hp0 hd hle hmin h4)) hZ (hw _ (List.mem_of_getElem? (i := 19) rfl)) (hw _ (List.mem_of_getElem? (i := 12) rfl)) (by decide) (by decide)) (g := (mkF m 2 #[.val (.ref u0), .val (.int p1), .val (.int p2), .unset, .unset] [(.int p2), (.int p1)])) rfl (by rw [hml]; rfl) (argsL := [(.int p1), (.int p2)]) (rest := []) (lenOf pd1 rfl) rfl (by show 2 * 0 + _ ≤ _; exact Nat.le_of_eq rfl) (hb hby d4_2) (fun _ _ => ⟨rfl, e0, (by decide : 0 + 0 ≤ _), (by decide : 0 + 0 ≤ _)⟩)
  dsimp only [Pt.U, Pt.locs, Pt.cells, Pt.slots] at X1 l1 y1 z1 st1 hQ1
  replace X1 := X1.more (Nat.le_of_eq (y1 : k1 = 0)) (Nat.le_of_eq (z1 : n1 = 0))
  obtain ⟨rfl, N1q, e1⟩ := hQ1
  have N2 := own_frapp l1 N0 N1q
  refine Goes.step (S' := T1.setTop (mkF m 5 #[.val (.ref u0), .val (.int p1), .val (.int p2), .unset, .unset] [])) st1 ?_
  refine Goes.step (S' := T1.setTop (mkF m 6 #[.val (.ref u0), .val (.int p1), .val (.int p2), .unset, .unset] [(.int p2)])) (fun _ k => XS.iloadN X1.here hx rfl (hb hby d4_5) rfl  k) ?_
  refine Goes.step (S' := T1.setTop (mkF m 7 #[.val (.ref u0), .val (.int p1), .val (.int p2), .unset, .unset] [(.int p1), (.int p2)])) (fun _ k => XS.iloadN X1.here hx rfl (hb hby d4_6) rfl  k) ?_
  refine Goes.step (S' := T1.setTop (mkF m 8 #[.val (.ref u0), .val (.int p1), .val (.int p2), .unset, .unset] [(.int (p2 - p1))])) (fun _ k => XS.isub X1.here hx rfl (hb hby d4_7) rfl k) ?_
  refine Goes.step (S' := T1.setTop (mkF m 9 #[.val (.ref u0), .val (.int p1), .val (.int p2), .val (.int (p2 - p1)), .unset] [])) (fun _ k => XS.istoreN X1.here hx rfl (hb hby d4_8) rfl (l' := #[.val (.ref u0), .val (.int p1), .val (.int p2), .val (.int (p2 - p1)), .unset]) rfl k) ?_
  obtain ⟨v3_8, ev3_8⟩ : ∃ z : Int32, z = (p2 - p1) := ⟨_, rfl⟩
  rw [← ev3_8]
  have hcase := (own_case4_9 n_u0 vs_u0 hl_u0 hn_u0 p1 p2 hp0 hd hle hmin h4 v3_8 ev3_8)
  rcases hcase with rfl
  · refine Goes.step (S' := T1.setTop (mkF m 10 #[.val (.ref u0), .val (.int p1), .val (.int p2), .val (.int (12 : Int32)), .unset] [(.int (12 : Int32))])) (fun _ k => XS.iloadN X1.here hx rfl (hb hby d4_9) rfl  k) ?_
    obtain ⟨T3, h3, k3, X3, e3, E3, A3, hk3, st3⟩ := own_newB X1 hx hZ (hw _ (List.mem_of_getElem? (i := 1) rfl)) e1 (g := (mkF m 10 #[.val (.ref u0), .val (.int p1), .val (.int p2), .val (.int (12 : Int32)), .unset] [(.int (12 : Int32))])) rfl (hb hby d4_10) rfl (by decide) (cap := 12) (by decide) (by decide) (by decide) (by decide)
    obtain ⟨b3, g3⟩ : ∃ z, z = h0.size := ⟨_, rfl⟩
    rw [← g3] at A3 st3
    have ne4 : u0 ≠ b3 := Nat.ne_of_lt (Nat.lt_of_lt_of_le V_u0.lt (Nat.le_of_eq g3.symm))
    have g5 : n0 ≤ b3 := Nat.le_trans Z0 (Nat.le_of_eq g3.symm)
    have Z6 : n0 ≤ h3.size := Nat.le_trans Z0 E3.1
    have O7 : h0.size ≤ b3 := Nat.le_trans K0.1 (Nat.le_of_eq g3.symm)
    have V8 := V_u0.ext E3
    have K9 : Keep h0 h3 [] := K0.ext E3
    have V10 : AI Z h3 b3 k3 .byte (12 : Int32) [(0 : Int32), (0 : Int32), (0 : Int32), (0 : Int32), (0 : Int32), (0 : Int32), (0 : Int32), (0 : Int32), (0 : Int32), (0 : Int32), (0 : Int32), (0 : Int32)] := own_new A3 (by decide) rfl
    refine Goes.step (S' := T3.setTop (mkF m 12 #[.val (.ref u0), .val (.int p1), .val (.int p2), .val (.int (12 : Int32)), .unset] [(.ref b3)])) st3 ?_
    refine Goes.step (S' := T3.setTop (mkF m 14 #[.val (.ref u0), .val (.int p1), .val (.int p2), .val (.int (12 : Int32)), .val (.ref b3)] [])) (fun _ k => XS.astore X3.here hx rfl (hb hby d4_12) rfl rfl (l' := #[.val (.ref u0), .val (.int p1), .val (.int p2), .val (.int (12 : Int32)), .val (.ref b3)]) rfl k) ?_
    refine Goes.step (S' := T3.setTop (mkF m 15 #[.val (.ref u0), .val (.int p1), .val (.int p2), .val (.int (12 : Int32)), .val (.ref b3)] [(.ref u0)])) (fun _ k => XS.aloadN X3.here hx rfl (hb hby d4_14) rfl rfl k) ?_
    refine Goes.step (S' := T3.setTop (mkF m 16 #[.val (.ref u0), .val (.int p1), .val (.int p2), .val (.int (12 : Int32)), .val (.ref b3)] [(.int p1), (.ref u0)])) (fun _ k => XS.iloadN X3.here hx rfl (hb hby d4_15) rfl  k) ?_
    refine Goes.step (S' := T3.setTop (mkF m 18 #[.val (.ref u0), .val (.int p1), .val (.int p2), .val (.int (12 : Int32)), .val (.ref b3)] [(.ref b3), (.int p1), (.ref u0)])) (fun _ k => XS.aload X3.here hx rfl (hb hby d4_16) rfl rfl k) ?_
    refine Goes.step (S' := T3.setTop (mkF m 19 #[.val (.ref u0), .val (.int p1), .val (.int p2), .val (.int (12 : Int32)), .val (.ref b3)] [(.int (0 : Int32)), (.ref b3), (.int p1), (.ref u0)])) (fun _ k => XS.iconst X3.here hx rfl (hb hby d4_18) k) ?_
    refine Goes.step (S' := T3.setTop (mkF m 20 #[.val (.ref u0), .val (.int p1), .val (.int p2), .val (.int (12 : Int32)), .val (.ref b3)] [(.ref u0), (.int (0 : Int32)), (.ref b3), (.int p1), (.ref u0)])) (fun _ k => XS.aloadN X3.here hx rfl (hb hby d4_19) rfl rfl k) ?_
    refine Goes.step (S' := T3.setTop (mkF m 21 #[.val (.ref u0), .val (.int p1), .val (.int p2), .val (.int (12 : Int32)), .val (.ref b3)] [(.int n_u0), (.int (0 : Int32)), (.ref b3), (.int p1), (.ref u0)])) (fun _ k => own_len X3 hx hZ e3 V8 (hb hby d4_20) _ k) ?_
    refine Goes.step (S' := T3.setTop (mkF m 22 #[.val (.ref u0), .val (.int p1), .val (.int p2), .val (.int (12 : Int32)), .val (.ref b3)] [(.int p1), (.int n_u0), (.int (0 : Int32)), (.ref b3), (.int p1), (.ref u0)])) (fun _ k => XS.iloadN X3.here hx rfl (hb hby d4_21) rfl  k) ?_
    refine Goes.step (S' := T3.setTop (mkF m 23 #[.val (.ref u0), .val (.int p1), .val (.int p2), .val (.int (12 : Int32)), .val (.ref b3)] [(.int (n_u0 - p1)), (.int (0 : Int32)), (.ref b3), (.int p1), (.ref u0)])) (fun _ k => XS.isub X3.here hx rfl (hb hby d4_22) rfl k) ?_
    refine Goes.step (S' := T3.setTop (mkF m 24 #[.val (.ref u0), .val (.int p1), .val (.int p2), .val (.int (12 : Int32)), .val (.ref b3)] [(.int (12 : Int32)), (.int (n_u0 - p1)), (.int (0 : Int32)), (.ref b3), (.int p1), (.ref u0)])) (fun _ k => XS.iloadN X3.here hx rfl (hb hby d4_23) rfl  k) ?_
    obtain ⟨_, _, ⟨T11, L11, k11, n11⟩, -, X11, ⟨Lc11, hQ11, l11, y11, z11⟩, st11⟩ := Jvm.LawKit.callS X3 hx (y := (⟨"java/lang/Math", "min", "(II)I"⟩ : MethodName)) hown (mvT hZ (hw _ (List.mem_of_getElem? (i := 20) rfl))) (mvT hZ (hw _ (List.mem_of_getElem? (i := 21) rfl))) (mvT hZ (hw _ (List.mem_of_getElem? (i := 22) rfl))) (mvT hZ (hw _ (List.mem_of_getElem? (i := 23) rfl))) (by decide) (backOf (W := 4) (rm6 l Z a0 hw [] (n_u0 - p1) (12 : Int32) h3 n0 Z6) hZ (hw _ (List.mem_of_getElem? (i := 23) rfl)) (hw _ (List.mem_of_getElem? (i := 22) rfl)) (by decide) (by decide)) (g := (mkF m 24 #[.val (.ref u0), .val (.int p1), .val (.int p2), .val (.int (12 : Int32)), .val (.ref b3)] [(.int (12 : Int32)), (.int (n_u0 - p1)), (.int (0 : Int32)), (.ref b3), (.int p1), (.ref u0)])) rfl (by rw [hml]; rfl) (argsL := [(.int (n_u0 - p1)), (.int (12 : Int32))]) (rest := [(.int (0 : Int32)), (.ref b3), (.int p1), (.ref u0)]) (lenOf pd2 rfl) rfl (by show 2 * 0 + _ ≤ _; exact Nat.le_of_eq rfl) (hb hby d4_24) (fun _ _ => ⟨rfl, e3, (by decide : 1 + 0 ≤ _), (by decide : 12 + 0 ≤ _)⟩)
    dsimp only [Pt.U, Pt.locs, Pt.cells, Pt.slots] at X11 l11 y11 z11 st11 hQ11
    replace X11 := X11.more (Nat.le_of_eq (y11 : k11 = 1)) (Nat.le_of_eq (z11 : n11 = 12))
    obtain ⟨rfl, N11q, e11⟩ := hQ11
    have N12 := own_frapp l11 N2 N11q
    refine Goes.step (S' := T11.setTop (mkF m 27 #[.val (.ref u0), .val (.int p1), .val (.int p2), .val (.int (12 : Int32)), .val (.ref b3)] [(.int (f6 (n_u0 - p1) (12 : Int32))), (.int (0 : Int32)), (.ref b3), (.int p1), (.ref u0)])) st11 ?_
    obtain ⟨vs_27, evs_27⟩ : ∃ z : Int32, z = (f6 (n_u0 - p1) (12 : Int32)) := ⟨_, rfl⟩
    rw [← evs_27]
    have hcase := (own_case4_27 n_u0 vs_u0 hl_u0 hn_u0 p1 p2 hp0 hd hle hmin h4 ev3_8 vs_27 evs_27)
    rcases hcase with rfl
    · obtain ⟨T13, h13, L13, X13, e13, N13, K13, V_13, st13⟩ := own_copy (rl := [(vs_u0.getD ((p1).toNatClampNeg + 0) 0), (vs_u0.getD ((p1).toNatClampNeg + 1) 0), (vs_u0.getD ((p1).toNatClampNeg + 2) 0), (vs_u0.getD ((p1).toNatClampNeg + 3) 0), (vs_u0.getD ((p1).toNatClampNeg + 4) 0), (vs_u0.getD ((p1).toNatClampNeg + 5) 0), (vs_u0.getD ((p1).toNatClampNeg + 6) 0), (vs_u0.getD ((p1).toNatClampNeg + 7) 0), (vs_u0.getD ((p1).toNatClampNeg + 8) 0), (vs_u0.getD ((p1).toNatClampNeg + 9) 0), (vs_u0.getD ((p1).toNatClampNeg + 10) 0), (vs_u0.getD ((p1).toNatClampNeg + 11) 0)]) X11 hx hZ hown (hw _ (List.mem_of_getElem? (i := 24) rfl)) (hw _ (List.mem_of_getElem? (i := 27) rfl)) (hw _ (List.mem_of_getElem? (i := 25) rfl)) (hw _ (List.mem_of_getElem? (i := 26) rfl)) e11 V8 V10 (own_sp4_27 n_u0 vs_u0 hl_u0 hn_u0 p1 p2 hp0 hd hle hmin h4 ev3_8 evs_27) (by decide) (by decide) (own_s44_27 n_u0 vs_u0 hl_u0 hn_u0 p1 p2 hp0 hd hle hmin h4 ev3_8 evs_27) (by decide) rfl N12 g5 (g := (mkF m 27 #[.val (.ref u0), .val (.int p1), .val (.int p2), .val (.int (12 : Int32)), .val (.ref b3)] [(.int (12 : Int32)), (.int (0 : Int32)), (.ref b3), (.int p1), (.ref u0)])) rfl (by rw [hml]; rfl) rfl (hb hby d4_27) (by decide) (W := 0) (by show 2 * 0 + _ ≤ _; exact Nat.le_of_eq rfl) (by decide)
      have V14 := V8.keep K13 (ninS ne4 nin0)
      have K15 : Keep h0 h13 [] := K9.trans K13 (allS (Or.inr O7) all0)
      have Z16 : n0 ≤ h13.size := Nat.le_trans Z6 K13.1
      refine Goes.step (S' := T13.setTop (mkF m 30 #[.val (.ref u0), .val (.int p1), .val (.int p2), .val (.int (12 : Int32)), .val (.ref b3)] [])) st13 ?_
      refine Goes.step (S' := T13.setTop (mkF m 32 #[.val (.ref u0), .val (.int p1), .val (.int p2), .val (.int (12 : Int32)), .val (.ref b3)] [(.ref b3)])) (fun _ k => XS.aload X13.here hx rfl (hb hby d4_30) rfl rfl k) ?_
      refine Goes.retA X13 hx Bd.notSynchronized Bd.returns rfl (hb hby d4_32) (by decide) (by decide) ?_
      refine ⟨b3, k3, rfl, N13, ?_, ?_, ?_, ?_⟩
      · first | exact K15 | (rw [e13]; exact K15)
      · first | exact O7 | (rw [e13]; exact O7)
      · first | exact V_13 | (rw [e13]; exact V_13)
      · first | exact hk3 | (rw [e13]; exact hk3)
theorem pd3 : parseMethodDescriptor "([BII)[B" = some ⟨[(.array .byte), .int, .int], some (.array .byte)⟩ := by decide +kernel
theorem d3_0 : decode jdk_65_method_132_code 0 = .ok (.iload_n 1, 1) := by decide +kernel
theorem d3_1 : decode jdk_65_method_132_code 1 = .ok (.ifCond .ne 9, 3) := by decide +kernel
theorem d3_10 : decode jdk_65_method_132_code 10 = .ok (.aload_n 0, 1) := by decide +kernel
theorem d3_11 : decode jdk_65_method_132_code 11 = .ok (.iload_n 1, 1) := by decide +kernel
theorem d3_12 : decode jdk_65_method_132_code 12 = .ok (.iload_n 2, 1) := by decide +kernel
theorem d3_13 : decode jdk_65_method_132_code 13 = .ok (.invokestatic 339, 3) := by decide +kernel
theorem d3_16 : decode jdk_65_method_132_code 16 = .ok (.areturn, 1) := by decide +kernel
theorem ef3 (m : MethodId) (u0 : Addr) (p1 : Int32) (p2 : Int32) : entryFrame m #[(.ref u0), (.int p1), (.int p2)] 3 = mkF m 0 #[.val (.ref u0), .val (.int p1), .val (.int p2)] [] := by first | (simp [entryFrame, mkF, argsToLocals, Value.category]; done) | rfl
theorem own_pr3_13_hp0 (n_u0 : Int32) (vs_u0 : List Int32) (hl_u0 : vs_u0.length = n_u0.toNatClampNeg) (hn_u0 : ¬ n_u0 < 0) (p1 : Int32) (p2 : Int32) (hp0 : ¬ p1 < (0 : Int32)) (hd : (p2 - p1) = (12 : Int32)) (hle : ¬ p2 < p1) (hmin : ¬ (n_u0 - p1) < (12 : Int32)) (h4 : (p1).toNatClampNeg + 12 ≤ (n_u0).toNatClampNeg) (hp1 : ¬ (p1 = (0 : Int32))) : ¬ p1 < (0 : Int32) := by
  exact hp0
theorem own_pr3_13_hd (n_u0 : Int32) (vs_u0 : List Int32) (hl_u0 : vs_u0.length = n_u0.toNatClampNeg) (hn_u0 : ¬ n_u0 < 0) (p1 : Int32) (p2 : Int32) (hp0 : ¬ p1 < (0 : Int32)) (hd : (p2 - p1) = (12 : Int32)) (hle : ¬ p2 < p1) (hmin : ¬ (n_u0 - p1) < (12 : Int32)) (h4 : (p1).toNatClampNeg + 12 ≤ (n_u0).toNatClampNeg) (hp1 : ¬ (p1 = (0 : Int32))) : (p2 - p1) = (12 : Int32) := by
  exact hd
theorem own_pr3_13_hle (n_u0 : Int32) (vs_u0 : List Int32) (hl_u0 : vs_u0.length = n_u0.toNatClampNeg) (hn_u0 : ¬ n_u0 < 0) (p1 : Int32) (p2 : Int32) (hp0 : ¬ p1 < (0 : Int32)) (hd : (p2 - p1) = (12 : Int32)) (hle : ¬ p2 < p1) (hmin : ¬ (n_u0 - p1) < (12 : Int32)) (h4 : (p1).toNatClampNeg + 12 ≤ (n_u0).toNatClampNeg) (hp1 : ¬ (p1 = (0 : Int32))) : ¬ p2 < p1 := by
  exact hle
theorem own_pr3_13_hmin (n_u0 : Int32) (vs_u0 : List Int32) (hl_u0 : vs_u0.length = n_u0.toNatClampNeg) (hn_u0 : ¬ n_u0 < 0) (p1 : Int32) (p2 : Int32) (hp0 : ¬ p1 < (0 : Int32)) (hd : (p2 - p1) = (12 : Int32)) (hle : ¬ p2 < p1) (hmin : ¬ (n_u0 - p1) < (12 : Int32)) (h4 : (p1).toNatClampNeg + 12 ≤ (n_u0).toNatClampNeg) (hp1 : ¬ (p1 = (0 : Int32))) : ¬ (n_u0 - p1) < (12 : Int32) := by
  exact hmin
theorem own_pr3_13_h4 (n_u0 : Int32) (vs_u0 : List Int32) (hl_u0 : vs_u0.length = n_u0.toNatClampNeg) (hn_u0 : ¬ n_u0 < 0) (p1 : Int32) (p2 : Int32) (hp0 : ¬ p1 < (0 : Int32)) (hd : (p2 - p1) = (12 : Int32)) (hle : ¬ p2 < p1) (hmin : ¬ (n_u0 - p1) < (12 : Int32)) (h4 : (p1).toNatClampNeg + 12 ≤ (n_u0).toNatClampNeg) (hp1 : ¬ (p1 = (0 : Int32))) : (p1).toNatClampNeg + 12 ≤ (n_u0).toNatClampNeg := by
  exact h4
def Q3 (Z : State) (u0 : Addr) (p1 : Int32) (p2 : Int32) (k_u0 : ClassId) (n_u0 : Int32) (vs_u0 : List Int32) (h0 : Heap) (n0 : Nat) (v : Option Value) (h : Heap) (L : List Loc) : Prop := ∃ (r0 : Addr) (kk0 : ClassId), v = some (.ref r0) ∧ Fr n0 L ∧ Keep h0 h [] ∧ h0.size ≤ r0 ∧ AI Z h r0 kk0 .byte (12 : Int32) [(vs_u0.getD ((p1).toNatClampNeg + 0) 0), (vs_u0.getD ((p1).toNatClampNeg + 1) 0), (vs_u0.getD ((p1).toNatClampNeg + 2) 0), (vs_u0.getD ((p1).toNatClampNeg + 3) 0), (vs_u0.getD ((p1).toNatClampNeg + 4) 0), (vs_u0.getD ((p1).toNatClampNeg + 5) 0), (vs_u0.getD ((p1).toNatClampNeg + 6) 0), (vs_u0.getD ((p1).toNatClampNeg + 7) 0), (vs_u0.getD ((p1).toNatClampNeg + 8) 0), (vs_u0.getD ((p1).toNatClampNeg + 9) 0), (vs_u0.getD ((p1).toNatClampNeg + 10) 0), (vs_u0.getD ((p1).toNatClampNeg + 11) 0)] ∧ Z.vm.findClass "[B" = some kk0
set_option maxRecDepth 65536 in
set_option maxHeartbeats 40000000 in
theorem rm3 (l : Launch) (Z : State) (a0 : Array Value) (hw : ∀ d ∈ tables_1, d.before a0 Z = true) (ws : List Jvm.Cond) (u0 : Addr) (p1 : Int32) (p2 : Int32) (k_u0 : ClassId) (n_u0 : Int32) (vs_u0 : List Int32) (h0 : Heap) (n0 : Nat) (Z0 : n0 ≤ h0.size) (V_u0 : AI Z h0 u0 k_u0 .byte n_u0 vs_u0) (hk_u0 : Z.vm.findClass "[B" = some k_u0) (hp0 : ¬ p1 < (0 : Int32)) (hd : (p2 - p1) = (12 : Int32)) (hle : ¬ p2 < p1) (hmin : ¬ (n_u0 - p1) < (12 : Int32)) (h4 : (p1).toNatClampNeg + 12 ≤ (n_u0).toNatClampNeg) (hp1 : ¬ (p1 = (0 : Int32))) :
    MetFree l (⟨"java/util/Arrays", "copyOfRange", "([BII)[B"⟩ : MethodName) (head1 (Jvm.Cond.code (⟨"java/util/Arrays", "copyOfRange", "([BII)[B"⟩ : MethodName) jdk_65_method_132_code 3 (some (.array .byte)) :: ws) ({ frames := 2, cells := 1, slots := 12, locals := 34 } : Room)) (fun a U => a = #[(.ref u0), (.int p1), (.int p2)] ∧ Z.Warmed39 U.vm ∧ U.heap = h0) (fun _ _ _ _ _ => True) (fun _ U o U' => ∃ v L, o = .returned v ∧ Q3 Z u0 p1 p2 k_u0 n_u0 vs_u0 h0 n0 v U'.heap L ∧ FrameEnd U o U' L ({ frames := 2, cells := 1, slots := 12, locals := 34 } : Room).cells ({ frames := 2, cells := 1, slots := 12, locals := 34 } : Room).slots) := by
  refine MetFree.of_bodySF (plainFor_of_name pn1) hisR ?_
  intro p e s m args below meth c s₁ Bd hml0 hP hK
  obtain ⟨rfl, hZ, hh⟩ := hP
  have hx := Bd.exec
  have hby := Bd.bytes
  have hml : c.maxLocals = 3 := hml0
  have hown : s.vm.findClass "java/util/Arrays" = some m.cls := findClass_of_methodNamed Bd.named
  have hnm := (name_of_methodNamed Bd.named Bd.method).1
  have X0 : Stand p l e ({ frames := 2, cells := 1, slots := 12, locals := 34 } : Room) s m #[(.ref u0), (.int p1), (.int p2)] below meth c s₁ [] 0 0 := Stand.of_body Bd
  have e0 : s₁.heap = h0 := by rw [← hh, Bd.state]; rfl
  have N0 := Fr.nil n0
  have K0 : Keep h0 h0 [] := Keep.refl _ _
  have hl_u0 : vs_u0.length = n_u0.toNatClampNeg := V_u0.2
  have hn_u0 : ¬ n_u0 < 0 := V_u0.nn
  refine Goes.out (Q := fun o U' => ∃ v L, o = .returned v ∧ Q3 Z u0 p1 p2 k_u0 n_u0 vs_u0 h0 n0 v U'.heap L ∧ FrameEnd s o U' L ({ frames := 2, cells := 1, slots := 12, locals := 34 } : Room).cells ({ frames := 2, cells := 1, slots := 12, locals := 34 } : Room).slots) ?_
  refine Goes.step (S' := s₁.setTop (mkF m 0 #[.val (.ref u0), .val (.int p1), .val (.int p2)] [])) (fun _ k => castTop (ef3 m u0 p1 p2) k) ?_
  refine Goes.step (S' := s₁.setTop (mkF m 1 #[.val (.ref u0), .val (.int p1), .val (.int p2)] [(.int p1)])) (fun _ k => XS.iloadN X0.here hx rfl (hb hby d3_0) rfl  k) ?_
  refine Goes.step (S' := s₁.setTop (mkF m 10 #[.val (.ref u0), .val (.int p1), .val (.int p2)] [])) (fun _ k => XS.ifYes X0.here hx rfl (pc0 := 1) (pc' := 10) rfl (hb hby d3_1) rfl ((if0 _ _).trans (feq hp1).2) (by decide) (by decide) k) ?_
  refine Goes.step (S' := s₁.setTop (mkF m 11 #[.val (.ref u0), .val (.int p1), .val (.int p2)] [(.ref u0)])) (fun _ k => XS.aloadN X0.here hx rfl (hb hby d3_10) rfl rfl k) ?_
  refine Goes.step (S' := s₁.setTop (mkF m 12 #[.val (.ref u0), .val (.int p1), .val (.int p2)] [(.int p1), (.ref u0)])) (fun _ k => XS.iloadN X0.here hx rfl (hb hby d3_11) rfl  k) ?_
  refine Goes.step (S' := s₁.setTop (mkF m 13 #[.val (.ref u0), .val (.int p1), .val (.int p2)] [(.int p2), (.int p1), (.ref u0)])) (fun _ k => XS.iloadN X0.here hx rfl (hb hby d3_12) rfl  k) ?_
  obtain ⟨_, _, ⟨T1, L1, k1, n1⟩, -, X1, ⟨Lc1, hQ1, l1, y1, z1⟩, st1⟩ := Jvm.LawKit.callS X0 hx (y := (⟨"java/util/Arrays", "copyOfRangeByte", "([BII)[B"⟩ : MethodName)) hown (mvT hZ (hw _ (List.mem_of_getElem? (i := 14) rfl))) (mvT hZ (hw _ (List.mem_of_getElem? (i := 15) rfl))) (mvT hZ (hw _ (List.mem_of_getElem? (i := 12) rfl))) (mvT hZ (hw _ (List.mem_of_getElem? (i := 16) rfl))) (by decide) (backOf (W := 0) (rm4 l Z a0 hw [] u0 p1 p2 k_u0 n_u0 vs_u0 h0 n0 Z0 V_u0 hk_u0 (own_pr3_13_hp0 n_u0 vs_u0 hl_u0 hn_u0 p1 p2 hp0 hd hle hmin h4 hp1) (own_pr3_13_hd n_u0 vs_u0 hl_u0 hn_u0 p1 p2 hp0 hd hle hmin h4 hp1) (own_pr3_13_hle n_u0 vs_u0 hl_u0 hn_u0 p1 p2 hp0 hd hle hmin h4 hp1) (own_pr3_13_hmin n_u0 vs_u0 hl_u0 hn_u0 p1 p2 hp0 hd hle hmin h4 hp1) (own_pr3_13_h4 n_u0 vs_u0 hl_u0 hn_u0 p1 p2 hp0 hd hle hmin h4 hp1)) hZ (hw _ (List.mem_of_getElem? (i := 16) rfl)) (hw _ (List.mem_of_getElem? (i := 12) rfl)) (by decide) (by decide)) (g := (mkF m 13 #[.val (.ref u0), .val (.int p1), .val (.int p2)] [(.int p2), (.int p1), (.ref u0)])) rfl (by rw [hml]; rfl) (argsL := [(.ref u0), (.int p1), (.int p2)]) (rest := []) (lenOf pd3 rfl) rfl (by show 2 * 0 + _ ≤ _; exact Nat.le_of_eq rfl) (hb hby d3_13) (fun _ _ => ⟨rfl, e0, (by decide : 0 + 1 ≤ _), (by decide : 0 + 12 ≤ _)⟩)
  dsimp only [Pt.U, Pt.locs, Pt.cells, Pt.slots] at X1 l1 y1 z1 st1 hQ1
  replace X1 := X1.more (Nat.le_of_eq (y1 : k1 = 1)) (Nat.le_of_eq (z1 : n1 = 12))
  obtain ⟨r1_0, rk1_0, rfl, N1q, K1q, P2, P3, P4⟩ := hQ1
  have N5 := own_frapp l1 N0 N1q
  have ne6 : u0 ≠ r1_0 := Nat.ne_of_lt (Nat.lt_of_lt_of_le V_u0.lt P2)
  have g7 : n0 ≤ r1_0 := Nat.le_trans Z0 P2
  have O8 : h0.size ≤ r1_0 := Nat.le_trans K0.1 P2
  have V9 := V_u0.keep K1q nin0
  have K10 : Keep h0 T1.heap [] := K0.trans K1q all0
  have Z11 : n0 ≤ T1.heap.size := Nat.le_trans Z0 K1q.1
  refine Goes.step (S' := T1.setTop (mkF m 16 #[.val (.ref u0), .val (.int p1), .val (.int p2)] [(.ref r1_0)])) st1 ?_
  refine Goes.retA X1 hx Bd.notSynchronized Bd.returns rfl (hb hby d3_16) (by decide) (by decide) ?_
  refine ⟨r1_0, rk1_0, rfl, N5, ?_, ?_, ?_, ?_⟩
  · exact K10
  · exact O8
  · exact P3
  · exact P4
theorem pd4 : parseMethodDescriptor "(IJ[B)V" = some ⟨[.int, .long, (.array .byte)], none⟩ := by decide +kernel
theorem d1_0 : decode prog_12_method_3_code 0 = .ok (.aload_n 0, 1) := by decide +kernel
theorem d1_1 : decode prog_12_method_3_code 1 = .ok (.arraylength, 1) := by decide +kernel
theorem d1_2 : decode prog_12_method_3_code 2 = .ok (.ifCond .ne 13, 3) := by decide +kernel
theorem d1_15 : decode prog_12_method_3_code 15 = .ok (.aload_n 0, 1) := by decide +kernel
theorem d1_16 : decode prog_12_method_3_code 16 = .ok (.iconst 0, 1) := by decide +kernel
theorem d1_17 : decode prog_12_method_3_code 17 = .ok (.baload, 1) := by decide +kernel
theorem d1_18 : decode prog_12_method_3_code 18 = .ok (.istore_n 1, 1) := by decide +kernel
theorem d1_19 : decode prog_12_method_3_code 19 = .ok (.iload_n 1, 1) := by decide +kernel
theorem d1_20 : decode prog_12_method_3_code 20 = .ok (.iconst 1, 1) := by decide +kernel
theorem d1_21 : decode prog_12_method_3_code 21 = .ok (.if_icmp .eq 18, 3) := by decide +kernel
theorem d1_39 : decode prog_12_method_3_code 39 = .ok (.iload_n 1, 1) := by decide +kernel
theorem d1_40 : decode prog_12_method_3_code 40 = .ok (.invokestatic 52, 3) := by decide +kernel
theorem d1_43 : decode prog_12_method_3_code 43 = .ok (.istore_n 2, 1) := by decide +kernel
theorem d1_44 : decode prog_12_method_3_code 44 = .ok (.aload_n 0, 1) := by decide +kernel
theorem d1_45 : decode prog_12_method_3_code 45 = .ok (.arraylength, 1) := by decide +kernel
theorem d1_46 : decode prog_12_method_3_code 46 = .ok (.iload_n 2, 1) := by decide +kernel
theorem d1_47 : decode prog_12_method_3_code 47 = .ok (.bipush 16, 2) := by decide +kernel
theorem d1_49 : decode prog_12_method_3_code 49 = .ok (.iadd, 1) := by decide +kernel
theorem d1_50 : decode prog_12_method_3_code 50 = .ok (.if_icmp .ge 23, 3) := by decide +kernel
theorem d1_73 : decode prog_12_method_3_code 73 = .ok (.aload_n 0, 1) := by decide +kernel
theorem d1_74 : decode prog_12_method_3_code 74 = .ok (.arraylength, 1) := by decide +kernel
theorem d1_75 : decode prog_12_method_3_code 75 = .ok (.iload_n 2, 1) := by decide +kernel
theorem d1_76 : decode prog_12_method_3_code 76 = .ok (.isub, 1) := by decide +kernel
theorem d1_77 : decode prog_12_method_3_code 77 = .ok (.bipush 16, 2) := by decide +kernel
theorem d1_79 : decode prog_12_method_3_code 79 = .ok (.isub, 1) := by decide +kernel
theorem d1_80 : decode prog_12_method_3_code 80 = .ok (.ldc 59, 2) := by decide +kernel
theorem d1_82 : decode prog_12_method_3_code 82 = .ok (.if_icmp .le 18, 3) := by decide +kernel
theorem d1_100 : decode prog_12_method_3_code 100 = .ok (.lconst 0, 1) := by decide +kernel
theorem d1_101 : decode prog_12_method_3_code 101 = .ok (.lstore_n 3, 1) := by decide +kernel
theorem d1_102 : decode prog_12_method_3_code 102 = .ok (.iload_n 1, 1) := by decide +kernel
theorem d1_103 : decode prog_12_method_3_code 103 = .ok (.iconst 2, 1) := by decide +kernel
theorem d1_104 : decode prog_12_method_3_code 104 = .ok (.if_icmp .ne 49, 3) := by decide +kernel
theorem d1_153 : decode prog_12_method_3_code 153 = .ok (.aload_n 0, 1) := by decide +kernel
theorem d1_154 : decode prog_12_method_3_code 154 = .ok (.iload_n 2, 1) := by decide +kernel
theorem d1_155 : decode prog_12_method_3_code 155 = .ok (.bipush 12, 2) := by decide +kernel
theorem d1_157 : decode prog_12_method_3_code 157 = .ok (.isub, 1) := by decide +kernel
theorem d1_158 : decode prog_12_method_3_code 158 = .ok (.iload_n 2, 1) := by decide +kernel
theorem d1_159 : decode prog_12_method_3_code 159 = .ok (.invokestatic 63, 3) := by decide +kernel
theorem d1_162 : decode prog_12_method_3_code 162 = .ok (.astore 5, 2) := by decide +kernel
theorem d1_164 : decode prog_12_method_3_code 164 = .ok (.new 3, 3) := by decide +kernel
theorem d1_167 : decode prog_12_method_3_code 167 = .ok (.dup, 1) := by decide +kernel
theorem d1_168 : decode prog_12_method_3_code 168 = .ok (.iload_n 1, 1) := by decide +kernel
theorem d1_169 : decode prog_12_method_3_code 169 = .ok (.lload_n 3, 1) := by decide +kernel
theorem d1_170 : decode prog_12_method_3_code 170 = .ok (.aload 5, 2) := by decide +kernel
theorem d1_172 : decode prog_12_method_3_code 172 = .ok (.invokespecial 42, 3) := by decide +kernel
theorem d1_175 : decode prog_12_method_3_code 175 = .ok (.areturn, 1) := by decide +kernel
theorem ef1a (m : MethodId) (u0 : Addr) : entryFrame m #[(.ref u0)] 6 = mkF m 0 #[.val (.ref u0), .unset, .unset, .unset, .unset, .unset] [] := by first | (simp [entryFrame, mkF, argsToLocals, Value.category]; done) | rfl
theorem own_hc1a_2 (n_u0 : Int32) (vs_u0 : List Int32) (hl_u0 : vs_u0.length = n_u0.toNatClampNeg) (hn_u0 : ¬ n_u0 < 0) (hv0 : (vs_u0.getD ((0 : Int32)).toNatClampNeg 0) = (1 : Int32)) (hn : ¬ n_u0 < (29 : Int32)) (hn2 : n_u0 < (1000 : Int32)) : ¬ (n_u0 = (0 : Int32)) := by
  clear hv0 hl_u0
  simp only [Int32.lt_iff_toInt_lt, ← Int32.toInt_inj, Int32.reduceToInt] at *
  omega
theorem own_ix1a_17 (n_u0 : Int32) (vs_u0 : List Int32) (hl_u0 : vs_u0.length = n_u0.toNatClampNeg) (hn_u0 : ¬ n_u0 < 0) (hv0 : (vs_u0.getD ((0 : Int32)).toNatClampNeg 0) = (1 : Int32)) (hn : ¬ n_u0 < (29 : Int32)) (hn2 : n_u0 < (1000 : Int32)) : ¬ (0 : Int32) < 0 ∧ (0 : Int32) < n_u0 := by
  refine ⟨by decide, ?_⟩
  clear hl_u0
  simp only [Int32.lt_iff_toInt_lt, Int32.reduceToInt] at hn ⊢
  omega
theorem own_case1a_44 (n_u0 : Int32) (vs_u0 : List Int32) (hl_u0 : vs_u0.length = n_u0.toNatClampNeg) (hn_u0 : ¬ n_u0 < 0) (hv0 : (vs_u0.getD ((0 : Int32)).toNatClampNeg 0) = (1 : Int32)) (hn : ¬ n_u0 < (29 : Int32)) (hn2 : n_u0 < (1000 : Int32)) (v2_44 : Int32) (ev2_44 : v2_44 = (f2 (1 : Int32))) : v2_44 = (13 : Int32) := by
  rw [ev2_44]; rfl
theorem own_hc1a_50 (n_u0 : Int32) (vs_u0 : List Int32) (hl_u0 : vs_u0.length = n_u0.toNatClampNeg) (hn_u0 : ¬ n_u0 < 0) (hv0 : (vs_u0.getD ((0 : Int32)).toNatClampNeg 0) = (1 : Int32)) (hn : ¬ n_u0 < (29 : Int32)) (hn2 : n_u0 < (1000 : Int32)) (ev2_44 : (13 : Int32) = (f2 (1 : Int32))) : ¬ (n_u0 < (29 : Int32)) := by
  exact hn
theorem own_hc1a_82 (n_u0 : Int32) (vs_u0 : List Int32) (hl_u0 : vs_u0.length = n_u0.toNatClampNeg) (hn_u0 : ¬ n_u0 < 0) (hv0 : (vs_u0.getD ((0 : Int32)).toNatClampNeg 0) = (1 : Int32)) (hn : ¬ n_u0 < (29 : Int32)) (hn2 : n_u0 < (1000 : Int32)) (ev2_44 : (13 : Int32) = (f2 (1 : Int32))) : ¬ ((67108864 : Int32) < ((n_u0 - (13 : Int32)) - (16 : Int32))) := by
  have a := c_isub n_u0 13
  have r := rng32 (n_u0 - 13)
  have b := c_isub (n_u0 - 13) 16
  have q := rng32 (n_u0 - 13 - 16)
  have d := c_isub n_u0 1
  have w := rng32 (n_u0 - 1)
  simp only [Int32.lt_iff_toInt_lt, Int32.reduceToInt] at hn hn2 a b d ⊢
  omega
theorem own_pr1a_159_hp0 (n_u0 : Int32) (vs_u0 : List Int32) (hl_u0 : vs_u0.length = n_u0.toNatClampNeg) (hn_u0 : ¬ n_u0 < 0) (hv0 : (vs_u0.getD ((0 : Int32)).toNatClampNeg 0) = (1 : Int32)) (hn : ¬ n_u0 < (29 : Int32)) (hn2 : n_u0 < (1000 : Int32)) (ev2_44 : (13 : Int32) = (f2 (1 : Int32))) : ¬ (1 : Int32) < (0 : Int32) := by
  decide
theorem own_pr1a_159_hd (n_u0 : Int32) (vs_u0 : List Int32) (hl_u0 : vs_u0.length = n_u0.toNatClampNeg) (hn_u0 : ¬ n_u0 < 0) (hv0 : (vs_u0.getD ((0 : Int32)).toNatClampNeg 0) = (1 : Int32)) (hn : ¬ n_u0 < (29 : Int32)) (hn2 : n_u0 < (1000 : Int32)) (ev2_44 : (13 : Int32) = (f2 (1 : Int32))) : ((13 : Int32) - (1 : Int32)) = (12 : Int32) := by
  rfl
theorem own_pr1a_159_hle (n_u0 : Int32) (vs_u0 : List Int32) (hl_u0 : vs_u0.length = n_u0.toNatClampNeg) (hn_u0 : ¬ n_u0 < 0) (hv0 : (vs_u0.getD ((0 : Int32)).toNatClampNeg 0) = (1 : Int32)) (hn : ¬ n_u0 < (29 : Int32)) (hn2 : n_u0 < (1000 : Int32)) (ev2_44 : (13 : Int32) = (f2 (1 : Int32))) : ¬ (13 : Int32) < (1 : Int32) := by
  decide
theorem own_pr1a_159_hmin (n_u0 : Int32) (vs_u0 : List Int32) (hl_u0 : vs_u0.length = n_u0.toNatClampNeg) (hn_u0 : ¬ n_u0 < 0) (hv0 : (vs_u0.getD ((0 : Int32)).toNatClampNeg 0) = (1 : Int32)) (hn : ¬ n_u0 < (29 : Int32)) (hn2 : n_u0 < (1000 : Int32)) (ev2_44 : (13 : Int32) = (f2 (1 : Int32))) : ¬ (n_u0 - (1 : Int32)) < (12 : Int32) := by
  have a := c_isub n_u0 13
  have r := rng32 (n_u0 - 13)
  have b := c_isub (n_u0 - 13) 16
  have q := rng32 (n_u0 - 13 - 16)
  have d := c_isub n_u0 1
  have w := rng32 (n_u0 - 1)
  simp only [Int32.lt_iff_toInt_lt, Int32.reduceToInt] at hn hn2 a b d ⊢
  omega
theorem own_pr1a_159_h4 (n_u0 : Int32) (vs_u0 : List Int32) (hl_u0 : vs_u0.length = n_u0.toNatClampNeg) (hn_u0 : ¬ n_u0 < 0) (hv0 : (vs_u0.getD ((0 : Int32)).toNatClampNeg 0) = (1 : Int32)) (hn : ¬ n_u0 < (29 : Int32)) (hn2 : n_u0 < (1000 : Int32)) (ev2_44 : (13 : Int32) = (f2 (1 : Int32))) : ((1 : Int32)).toNatClampNeg + 12 ≤ (n_u0).toNatClampNeg := by
  simp only [Int32.lt_iff_toInt_lt, Int32.reduceToInt] at hn
  show 1 + 12 ≤ n_u0.toInt.toNat
  omega
theorem own_pr1a_159_hp1 (n_u0 : Int32) (vs_u0 : List Int32) (hl_u0 : vs_u0.length = n_u0.toNatClampNeg) (hn_u0 : ¬ n_u0 < 0) (hv0 : (vs_u0.getD ((0 : Int32)).toNatClampNeg 0) = (1 : Int32)) (hn : ¬ n_u0 < (29 : Int32)) (hn2 : n_u0 < (1000 : Int32)) (ev2_44 : (13 : Int32) = (f2 (1 : Int32))) : ¬ ((1 : Int32) = (0 : Int32)) := by
  decide
def Q1a (Z : State) (u0 : Addr) (k_u0 : ClassId) (n_u0 : Int32) (vs_u0 : List Int32) (h0 : Heap) (n0 : Nat) (v : Option Value) (h : Heap) (L : List Loc) : Prop := ∃ (r0 : Addr) (r1 : Addr) (kk0 : ClassId), v = some (.ref r0) ∧ Fr n0 L ∧ Keep h0 h [] ∧ h0.size ≤ r0 ∧ Exa Z h r0 "com/example/isopod/isopod/RecordHeader" ∧ Fld Z h r0 "com/example/isopod/isopod/RecordHeader" "generation" "J" (.long (0 : Int64)) ∧ Fld Z h r0 "com/example/isopod/isopod/RecordHeader" "nonce" "[B" (.ref r1) ∧ Fld Z h r0 "com/example/isopod/isopod/RecordHeader" "version" "I" (.int (1 : Int32)) ∧ h0.size ≤ r1 ∧ AI Z h r1 kk0 .byte (12 : Int32) [(vs_u0.getD 1 0), (vs_u0.getD 2 0), (vs_u0.getD 3 0), (vs_u0.getD 4 0), (vs_u0.getD 5 0), (vs_u0.getD 6 0), (vs_u0.getD 7 0), (vs_u0.getD 8 0), (vs_u0.getD 9 0), (vs_u0.getD 10 0), (vs_u0.getD 11 0), (vs_u0.getD 12 0)] ∧ Z.vm.findClass "[B" = some kk0 ∧ r0 ≠ r1
set_option maxRecDepth 65536 in
set_option maxHeartbeats 40000000 in
theorem rm1a (l : Launch) (Z : State) (a0 : Array Value) (hw : ∀ d ∈ tables_1, d.before a0 Z = true) (ws : List Jvm.Cond) (u0 : Addr) (k_u0 : ClassId) (n_u0 : Int32) (vs_u0 : List Int32) (h0 : Heap) (n0 : Nat) (Z0 : n0 ≤ h0.size) (V_u0 : AI Z h0 u0 k_u0 .byte n_u0 vs_u0) (hk_u0 : Z.vm.findClass "[B" = some k_u0) (hv0 : (vs_u0.getD ((0 : Int32)).toNatClampNeg 0) = (1 : Int32)) (hn : ¬ n_u0 < (29 : Int32)) (hn2 : n_u0 < (1000 : Int32)) :
    MetFree l (⟨"com/example/isopod/isopod/RecordHeader", "read", "([B)Lcom/example/isopod/isopod/RecordHeader;"⟩ : MethodName) (head1 (Jvm.Cond.code (⟨"com/example/isopod/isopod/RecordHeader", "read", "([B)Lcom/example/isopod/isopod/RecordHeader;"⟩ : MethodName) prog_12_method_3_code 6 (some (.object "com/example/isopod/isopod/RecordHeader")) :: ws) ({ frames := 3, cells := 2, slots := 15, locals := 48 } : Room)) (fun a U => a = #[(.ref u0)] ∧ Z.Warmed39 U.vm ∧ U.heap = h0) (fun _ _ _ _ _ => True) (fun _ U o U' => ∃ v L, o = .returned v ∧ Q1a Z u0 k_u0 n_u0 vs_u0 h0 n0 v U'.heap L ∧ FrameEnd U o U' L ({ frames := 3, cells := 2, slots := 15, locals := 48 } : Room).cells ({ frames := 3, cells := 2, slots := 15, locals := 48 } : Room).slots) := by
  refine MetFree.of_bodySF (plainFor_of_name pn0) hisR ?_
  intro p e s m args below meth c s₁ Bd hml0 hP hK
  obtain ⟨rfl, hZ, hh⟩ := hP
  have hx := Bd.exec
  have hby := Bd.bytes
  have hml : c.maxLocals = 6 := hml0
  have hown : s.vm.findClass "com/example/isopod/isopod/RecordHeader" = some m.cls := findClass_of_methodNamed Bd.named
  have hnm := (name_of_methodNamed Bd.named Bd.method).1
  have X0 : Stand p l e ({ frames := 3, cells := 2, slots := 15, locals := 48 } : Room) s m #[(.ref u0)] below meth c s₁ [] 0 0 := Stand.of_body Bd
  have e0 : s₁.heap = h0 := by rw [← hh, Bd.state]; rfl
  have N0 := Fr.nil n0
  have K0 : Keep h0 h0 [] := Keep.refl _ _
  have hl_u0 : vs_u0.length = n_u0.toNatClampNeg := V_u0.2
  have hn_u0 : ¬ n_u0 < 0 := V_u0.nn
  refine Goes.out (Q := fun o U' => ∃ v L, o = .returned v ∧ Q1a Z u0 k_u0 n_u0 vs_u0 h0 n0 v U'.heap L ∧ FrameEnd s o U' L ({ frames := 3, cells := 2, slots := 15, locals := 48 } : Room).cells ({ frames := 3, cells := 2, slots := 15, locals := 48 } : Room).slots) ?_
  refine Goes.step (S' := s₁.setTop (mkF m 0 #[.val (.ref u0), .unset, .unset, .unset, .unset, .unset] [])) (fun _ k => castTop (ef1a m u0) k) ?_
  refine Goes.step (S' := s₁.setTop (mkF m 1 #[.val (.ref u0), .unset, .unset, .unset, .unset, .unset] [(.ref u0)])) (fun _ k => XS.aloadN X0.here hx rfl (hb hby d1_0) rfl rfl k) ?_
  refine Goes.step (S' := s₁.setTop (mkF m 2 #[.val (.ref u0), .unset, .unset, .unset, .unset, .unset] [(.int n_u0)])) (fun _ k => own_len X0 hx hZ e0 V_u0 (hb hby d1_1) _ k) ?_
  refine Goes.step (S' := s₁.setTop (mkF m 15 #[.val (.ref u0), .unset, .unset, .unset, .unset, .unset] [])) (fun _ k => XS.ifYes X0.here hx rfl (pc0 := 2) (pc' := 15) rfl (hb hby d1_2) rfl ((if0 _ _).trans (feq (own_hc1a_2 n_u0 vs_u0 hl_u0 hn_u0 hv0 hn hn2)).2) (by decide) (by decide) k) ?_
  refine Goes.step (S' := s₁.setTop (mkF m 16 #[.val (.ref u0), .unset, .unset, .unset, .unset, .unset] [(.ref u0)])) (fun _ k => XS.aloadN X0.here hx rfl (hb hby d1_15) rfl rfl k) ?_
  refine Goes.step (S' := s₁.setTop (mkF m 17 #[.val (.ref u0), .unset, .unset, .unset, .unset, .unset] [(.int (0 : Int32)), (.ref u0)])) (fun _ k => XS.iconst X0.here hx rfl (hb hby d1_16) k) ?_
  refine Goes.step (S' := s₁.setTop (mkF m 18 #[.val (.ref u0), .unset, .unset, .unset, .unset, .unset] [(.int (vs_u0.getD ((0 : Int32)).toNatClampNeg 0))])) (fun _ k => own_baload X0 hx hZ e0 V_u0 (own_ix1a_17 n_u0 vs_u0 hl_u0 hn_u0 hv0 hn hn2) (hb hby d1_17) _ k) ?_
  refine Goes.step (S' := s₁.setTop (mkF m 19 #[.val (.ref u0), .val (.int (vs_u0.getD ((0 : Int32)).toNatClampNeg 0)), .unset, .unset, .unset, .unset] [])) (fun _ k => XS.istoreN X0.here hx rfl (hb hby d1_18) rfl (l' := #[.val (.ref u0), .val (.int (vs_u0.getD ((0 : Int32)).toNatClampNeg 0)), .unset, .unset, .unset, .unset]) rfl k) ?_
  rw [hv0]
  refine Goes.step (S' := s₁.setTop (mkF m 20 #[.val (.ref u0), .val (.int (1 : Int32)), .unset, .unset, .unset, .unset] [(.int (1 : Int32))])) (fun _ k => XS.iloadN X0.here hx rfl (hb hby d1_19) rfl  k) ?_
  refine Goes.step (S' := s₁.setTop (mkF m 21 #[.val (.ref u0), .val (.int (1 : Int32)), .unset, .unset, .unset, .unset] [(.int (1 : Int32)), (.int (1 : Int32))])) (fun _ k => XS.iconst X0.here hx rfl (hb hby d1_20) k) ?_
  refine Goes.step (S' := s₁.setTop (mkF m 39 #[.val (.ref u0), .val (.int (1 : Int32)), .unset, .unset, .unset, .unset] [])) (fun _ k => XS.icmpYes X0.here hx rfl (pc0 := 21) (pc' := 39) rfl (hb hby d1_21) rfl (teq (rfl : (1 : Int32) = (1 : Int32))).1 (by decide) (by decide) k) ?_
  refine Goes.step (S' := s₁.setTop (mkF m 40 #[.val (.ref u0), .val (.int (1 : Int32)), .unset, .unset, .unset, .unset] [(.int (1 : Int32))])) (fun _ k => XS.iloadN X0.here hx rfl (hb hby d1_39) rfl  k) ?_
  obtain ⟨_, _, ⟨T1, L1, k1, n1⟩, -, X1, ⟨Lc1, hQ1, l1, y1, z1⟩, st1⟩ := Jvm.LawKit.callS X0 hx (y := (⟨"com/example/isopod/isopod/RecordHeader", "headerLength", "(I)I"⟩ : MethodName)) hown (mvT hZ (hw _ (List.mem_of_getElem? (i := 6) rfl))) (mvT hZ (hw _ (List.mem_of_getElem? (i := 7) rfl))) (mvT hZ (hw _ (List.mem_of_getElem? (i := 4) rfl))) (mvT hZ (hw _ (List.mem_of_getElem? (i := 8) rfl))) (by decide) (backOf (W := 0) (rm2 l Z a0 hw [] (1 : Int32) h0 n0 Z0) hZ (hw _ (List.mem_of_getElem? (i := 8) rfl)) (hw _ (List.mem_of_getElem? (i := 4) rfl)) (by decide) (by decide)) (g := (mkF m 40 #[.val (.ref u0), .val (.int (1 : Int32)), .unset, .unset, .unset, .unset] [(.int (1 : Int32))])) rfl (by rw [hml]; rfl) (argsL := [(.int (1 : Int32))]) (rest := []) (lenOf pd0 rfl) rfl (by show 2 * 0 + _ ≤ _; exact Nat.le_of_eq rfl) (hb hby d1_40) (fun _ _ => ⟨rfl, e0, (by decide : 0 + 0 ≤ _), (by decide : 0 + 0 ≤ _)⟩)
  dsimp only [Pt.U, Pt.locs, Pt.cells, Pt.slots] at X1 l1 y1 z1 st1 hQ1
  replace X1 := X1.more (Nat.le_of_eq (y1 : k1 = 0)) (Nat.le_of_eq (z1 : n1 = 0))
  obtain ⟨rfl, N1q, e1⟩ := hQ1
  have N2 := own_frapp l1 N0 N1q
  refine Goes.step (S' := T1.setTop (mkF m 43 #[.val (.ref u0), .val (.int (1 : Int32)), .unset, .unset, .unset, .unset] [(.int (f2 (1 : Int32)))])) st1 ?_
  refine Goes.step (S' := T1.setTop (mkF m 44 #[.val (.ref u0), .val (.int (1 : Int32)), .val (.int (f2 (1 : Int32))), .unset, .unset, .unset] [])) (fun _ k => XS.istoreN X1.here hx rfl (hb hby d1_43) rfl (l' := #[.val (.ref u0), .val (.int (1 : Int32)), .val (.int (f2 (1 : Int32))), .unset, .unset, .unset]) rfl k) ?_
  obtain ⟨v2_44, ev2_44⟩ : ∃ z : Int32, z = (f2 (1 : Int32)) := ⟨_, rfl⟩
  rw [← ev2_44]
  have hcase := (own_case1a_44 n_u0 vs_u0 hl_u0 hn_u0 hv0 hn hn2 v2_44 ev2_44)
  rcases hcase with rfl
  · refine Goes.step (S' := T1.setTop (mkF m 45 #[.val (.ref u0), .val (.int (1 : Int32)), .val (.int (13 : Int32)), .unset, .unset, .unset] [(.ref u0)])) (fun _ k => XS.aloadN X1.here hx rfl (hb hby d1_44) rfl rfl k) ?_
    refine Goes.step (S' := T1.setTop (mkF m 46 #[.val (.ref u0), .val (.int (1 : Int32)), .val (.int (13 : Int32)), .unset, .unset, .unset] [(.int n_u0)])) (fun _ k => own_len X1 hx hZ e1 V_u0 (hb hby d1_45) _ k) ?_
    refine Goes.step (S' := T1.setTop (mkF m 47 #[.val (.ref u0), .val (.int (1 : Int32)), .val (.int (13 : Int32)), .unset, .unset, .unset] [(.int (13 : Int32)), (.int n_u0)])) (fun _ k => XS.iloadN X1.here hx rfl (hb hby d1_46) rfl  k) ?_
    refine Goes.step (S' := T1.setTop (mkF m 49 #[.val (.ref u0), .val (.int (1 : Int32)), .val (.int (13 : Int32)), .unset, .unset, .unset] [(.int (16 : Int32)), (.int (13 : Int32)), (.int n_u0)])) (fun _ k => XS.bipush X1.here hx rfl (hb hby d1_47) k) ?_
    refine Goes.step (S' := T1.setTop (mkF m 50 #[.val (.ref u0), .val (.int (1 : Int32)), .val (.int (13 : Int32)), .unset, .unset, .unset] [(.int (29 : Int32)), (.int n_u0)])) (fun _ k => XS.iadd X1.here hx rfl (hb hby d1_49) rfl k) ?_
    refine Goes.step (S' := T1.setTop (mkF m 73 #[.val (.ref u0), .val (.int (1 : Int32)), .val (.int (13 : Int32)), .unset, .unset, .unset] [])) (fun _ k => XS.icmpYes X1.here hx rfl (pc0 := 50) (pc' := 73) rfl (hb hby d1_50) rfl (flt (own_hc1a_50 n_u0 vs_u0 hl_u0 hn_u0 hv0 hn hn2 ev2_44)).2.1 (by decide) (by decide) k) ?_
    refine Goes.step (S' := T1.setTop (mkF m 74 #[.val (.ref u0), .val (.int (1 : Int32)), .val (.int (13 : Int32)), .unset, .unset, .unset] [(.ref u0)])) (fun _ k => XS.aloadN X1.here hx rfl (hb hby d1_73) rfl rfl k) ?_
    refine Goes.step (S' := T1.setTop (mkF m 75 #[.val (.ref u0), .val (.int (1 : Int32)), .val (.int (13 : Int32)), .unset, .unset, .unset] [(.int n_u0)])) (fun _ k => own_len X1 hx hZ e1 V_u0 (hb hby d1_74) _ k) ?_
    refine Goes.step (S' := T1.setTop (mkF m 76 #[.val (.ref u0), .val (.int (1 : Int32)), .val (.int (13 : Int32)), .unset, .unset, .unset] [(.int (13 : Int32)), (.int n_u0)])) (fun _ k => XS.iloadN X1.here hx rfl (hb hby d1_75) rfl  k) ?_
    refine Goes.step (S' := T1.setTop (mkF m 77 #[.val (.ref u0), .val (.int (1 : Int32)), .val (.int (13 : Int32)), .unset, .unset, .unset] [(.int (n_u0 - (13 : Int32)))])) (fun _ k => XS.isub X1.here hx rfl (hb hby d1_76) rfl k) ?_
    refine Goes.step (S' := T1.setTop (mkF m 79 #[.val (.ref u0), .val (.int (1 : Int32)), .val (.int (13 : Int32)), .unset, .unset, .unset] [(.int (16 : Int32)), (.int (n_u0 - (13 : Int32)))])) (fun _ k => XS.bipush X1.here hx rfl (hb hby d1_77) k) ?_
    refine Goes.step (S' := T1.setTop (mkF m 80 #[.val (.ref u0), .val (.int (1 : Int32)), .val (.int (13 : Int32)), .unset, .unset, .unset] [(.int ((n_u0 - (13 : Int32)) - (16 : Int32)))])) (fun _ k => XS.isub X1.here hx rfl (hb hby d1_79) rfl k) ?_
    refine Goes.step (S' := T1.setTop (mkF m 82 #[.val (.ref u0), .val (.int (1 : Int32)), .val (.int (13 : Int32)), .unset, .unset, .unset] [(.int (67108864 : Int32)), (.int ((n_u0 - (13 : Int32)) - (16 : Int32)))])) (fun _ k => X1.ldcInt hx hown (mvT hZ (hw _ (List.mem_of_getElem? (i := 9) rfl))) (g := (mkF m 80 #[.val (.ref u0), .val (.int (1 : Int32)), .val (.int (13 : Int32)), .unset, .unset, .unset] [(.int ((n_u0 - (13 : Int32)) - (16 : Int32)))])) rfl (hb hby d1_80) _ k) ?_
    refine Goes.step (S' := T1.setTop (mkF m 100 #[.val (.ref u0), .val (.int (1 : Int32)), .val (.int (13 : Int32)), .unset, .unset, .unset] [])) (fun _ k => XS.icmpYes X1.here hx rfl (pc0 := 82) (pc' := 100) rfl (hb hby d1_82) rfl (flt (own_hc1a_82 n_u0 vs_u0 hl_u0 hn_u0 hv0 hn hn2 ev2_44)).2.2.2 (by decide) (by decide) k) ?_
    refine Goes.step (S' := T1.setTop (mkF m 101 #[.val (.ref u0), .val (.int (1 : Int32)), .val (.int (13 : Int32)), .unset, .unset, .unset] [(.long (0 : Int64))])) (fun _ k => XS.lconst X1.here hx rfl (hb hby d1_100) k) ?_
    refine Goes.step (S' := T1.setTop (mkF m 102 #[.val (.ref u0), .val (.int (1 : Int32)), .val (.int (13 : Int32)), .val (.long (0 : Int64)), .second, .unset] [])) (fun _ k => XS.lstoreN X1.here hx rfl (hb hby d1_101) rfl (l' := #[.val (.ref u0), .val (.int (1 : Int32)), .val (.int (13 : Int32)), .val (.long (0 : Int64)), .second, .unset]) rfl k) ?_
    refine Goes.step (S' := T1.setTop (mkF m 103 #[.val (.ref u0), .val (.int (1 : Int32)), .val (.int (13 : Int32)), .val (.long (0 : Int64)), .second, .unset] [(.int (1 : Int32))])) (fun _ k => XS.iloadN X1.here hx rfl (hb hby d1_102) rfl  k) ?_
    refine Goes.step (S' := T1.setTop (mkF m 104 #[.val (.ref u0), .val (.int (1 : Int32)), .val (.int (13 : Int32)), .val (.long (0 : Int64)), .second, .unset] [(.int (2 : Int32)), (.int (1 : Int32))])) (fun _ k => XS.iconst X1.here hx rfl (hb hby d1_103) k) ?_
    refine Goes.step (S' := T1.setTop (mkF m 153 #[.val (.ref u0), .val (.int (1 : Int32)), .val (.int (13 : Int32)), .val (.long (0 : Int64)), .second, .unset] [])) (fun _ k => XS.icmpYes X1.here hx rfl (pc0 := 104) (pc' := 153) rfl (hb hby d1_104) rfl (feq (by decide)).2 (by decide) (by decide) k) ?_
    refine Goes.step (S' := T1.setTop (mkF m 154 #[.val (.ref u0), .val (.int (1 : Int32)), .val (.int (13 : Int32)), .val (.long (0 : Int64)), .second, .unset] [(.ref u0)])) (fun _ k => XS.aloadN X1.here hx rfl (hb hby d1_153) rfl rfl k) ?_
    refine Goes.step (S' := T1.setTop (mkF m 155 #[.val (.ref u0), .val (.int (1 : Int32)), .val (.int (13 : Int32)), .val (.long (0 : Int64)), .second, .unset] [(.int (13 : Int32)), (.ref u0)])) (fun _ k => XS.iloadN X1.here hx rfl (hb hby d1_154) rfl  k) ?_
    refine Goes.step (S' := T1.setTop (mkF m 157 #[.val (.ref u0), .val (.int (1 : Int32)), .val (.int (13 : Int32)), .val (.long (0 : Int64)), .second, .unset] [(.int (12 : Int32)), (.int (13 : Int32)), (.ref u0)])) (fun _ k => XS.bipush X1.here hx rfl (hb hby d1_155) k) ?_
    refine Goes.step (S' := T1.setTop (mkF m 158 #[.val (.ref u0), .val (.int (1 : Int32)), .val (.int (13 : Int32)), .val (.long (0 : Int64)), .second, .unset] [(.int (1 : Int32)), (.ref u0)])) (fun _ k => XS.isub X1.here hx rfl (hb hby d1_157) rfl k) ?_
    refine Goes.step (S' := T1.setTop (mkF m 159 #[.val (.ref u0), .val (.int (1 : Int32)), .val (.int (13 : Int32)), .val (.long (0 : Int64)), .second, .unset] [(.int (13 : Int32)), (.int (1 : Int32)), (.ref u0)])) (fun _ k => XS.iloadN X1.here hx rfl (hb hby d1_158) rfl  k) ?_
    obtain ⟨_, _, ⟨T3, L3, k3, n3⟩, -, X3, ⟨Lc3, hQ3, l3, y3, z3⟩, st3⟩ := Jvm.LawKit.callS X1 hx (y := (⟨"java/util/Arrays", "copyOfRange", "([BII)[B"⟩ : MethodName)) hown (mvT hZ (hw _ (List.mem_of_getElem? (i := 10) rfl))) (mvT hZ (hw _ (List.mem_of_getElem? (i := 11) rfl))) (mvT hZ (hw _ (List.mem_of_getElem? (i := 12) rfl))) (mvT hZ (hw _ (List.mem_of_getElem? (i := 13) rfl))) (by decide) (backOf (W := 0) (rm3 l Z a0 hw [] u0 (1 : Int32) (13 : Int32) k_u0 n_u0 vs_u0 h0 n0 Z0 V_u0 hk_u0 (own_pr1a_159_hp0 n_u0 vs_u0 hl_u0 hn_u0 hv0 hn hn2 ev2_44) (own_pr1a_159_hd n_u0 vs_u0 hl_u0 hn_u0 hv0 hn hn2 ev2_44) (own_pr1a_159_hle n_u0 vs_u0 hl_u0 hn_u0 hv0 hn hn2 ev2_44) (own_pr1a_159_hmin n_u0 vs_u0 hl_u0 hn_u0 hv0 hn hn2 ev2_44) (own_pr1a_159_h4 n_u0 vs_u0 hl_u0 hn_u0 hv0 hn hn2 ev2_44) (own_pr1a_159_hp1 n_u0 vs_u0 hl_u0 hn_u0 hv0 hn hn2 ev2_44)) hZ (hw _ (List.mem_of_getElem? (i := 13) rfl)) (hw _ (List.mem_of_getElem? (i := 12) rfl)) (by decide) (by decide)) (g := (mkF m 159 #[.val (.ref u0), .val (.int (1 : Int32)), .val (.int (13 : Int32)), .val (.long (0 : Int64)), .second, .unset] [(.int (13 : Int32)), (.int (1 : Int32)), (.ref u0)])) rfl (by rw [hml]; rfl) (argsL := [(.ref u0), (.int (1 : Int32)), (.int (13 : Int32))]) (rest := []) (lenOf pd3 rfl) rfl (by show 2 * 0 + _ ≤ _; exact Nat.le_of_eq rfl) (hb hby d1_159) (fun _ _ => ⟨rfl, e1, (by decide : 0 + 1 ≤ _), (by decide : 0 + 12 ≤ _)⟩)
    dsimp only [Pt.U, Pt.locs, Pt.cells, Pt.slots] at X3 l3 y3 z3 st3 hQ3
    replace X3 := X3.more (Nat.le_of_eq (y3 : k3 = 1)) (Nat.le_of_eq (z3 : n3 = 12))
    obtain ⟨r3_0, rk3_0, rfl, N3q, K3q, P4, P5, P6⟩ := hQ3
    have N7 := own_frapp l3 N2 N3q
    have ne8 : u0 ≠ r3_0 := Nat.ne_of_lt (Nat.lt_of_lt_of_le V_u0.lt P4)
    have g9 : n0 ≤ r3_0 := Nat.le_trans Z0 P4
    have O10 : h0.size ≤ r3_0 := Nat.le_trans K0.1 P4
    have V11 := V_u0.keep K3q nin0
    have K12 : Keep h0 T3.heap [] := K0.trans K3q all0
    have Z13 : n0 ≤ T3.heap.size := Nat.le_trans Z0 K3q.1
    refine Goes.step (S' := T3.setTop (mkF m 162 #[.val (.ref u0), .val (.int (1 : Int32)), .val (.int (13 : Int32)), .val (.long (0 : Int64)), .second, .unset] [(.ref r3_0)])) st3 ?_
    refine Goes.step (S' := T3.setTop (mkF m 164 #[.val (.ref u0), .val (.int (1 : Int32)), .val (.int (13 : Int32)), .val (.long (0 : Int64)), .second, .val (.ref r3_0)] [])) (fun _ k => XS.astore X3.here hx rfl (hb hby d1_162) rfl rfl (l' := #[.val (.ref u0), .val (.int (1 : Int32)), .val (.int (13 : Int32)), .val (.long (0 : Int64)), .second, .val (.ref r3_0)]) rfl k) ?_
    obtain ⟨T14, h14, X14, e14, E14, A14, D14, -, st14⟩ := newO X3 hx hZ hown (hw _ (List.mem_of_getElem? (i := 28) rfl)) (hw _ (List.mem_of_getElem? (i := 29) rfl)) (hw _ (List.mem_of_getElem? (i := 4) rfl)) rfl (g := (mkF m 164 #[.val (.ref u0), .val (.int (1 : Int32)), .val (.int (13 : Int32)), .val (.long (0 : Int64)), .second, .val (.ref r3_0)] [])) rfl (hb hby d1_164) (by decide) (by decide)
    obtain ⟨b14, g14⟩ : ∃ z, z = T3.heap.size := ⟨_, rfl⟩
    rw [← g14] at A14 D14 st14
    have ne15 : u0 ≠ b14 := Nat.ne_of_lt (Nat.lt_of_lt_of_le V11.lt (Nat.le_of_eq g14.symm))
    have ne16 : r3_0 ≠ b14 := Nat.ne_of_lt (Nat.lt_of_lt_of_le P5.lt (Nat.le_of_eq g14.symm))
    have g17 : n0 ≤ b14 := Nat.le_trans Z13 (Nat.le_of_eq g14.symm)
    have Z18 : n0 ≤ h14.size := Nat.le_trans Z13 E14.1
    have O19 : h0.size ≤ b14 := Nat.le_trans K12.1 (Nat.le_of_eq g14.symm)
    have V20 := V11.ext E14
    have V21 := P5.ext E14
    have K22 : Keep h0 h14 [] := K12.ext E14
    have F23 : Fld Z h14 b14 "com/example/isopod/isopod/RecordHeader" "version" "I" (.int (0 : Int32)) := D14 (Or.inr (hw _ (List.mem_of_getElem? (i := 37) rfl))) (ty := .int) (by decide)
    have F24 : Fld Z h14 b14 "com/example/isopod/isopod/RecordHeader" "generation" "J" (.long (0 : Int64)) := D14 (Or.inr (hw _ (List.mem_of_getElem? (i := 39) rfl))) (ty := .long) (by decide)
    have F25 : Fld Z h14 b14 "com/example/isopod/isopod/RecordHeader" "nonce" "[B" .null := D14 (Or.inr (hw _ (List.mem_of_getElem? (i := 41) rfl))) (ty := (.array .byte)) (by decide)
    refine Goes.step (S' := T14.setTop (mkF m 167 #[.val (.ref u0), .val (.int (1 : Int32)), .val (.int (13 : Int32)), .val (.long (0 : Int64)), .second, .val (.ref r3_0)] [(.ref b14)])) st14 ?_
    refine Goes.step (S' := T14.setTop (mkF m 168 #[.val (.ref u0), .val (.int (1 : Int32)), .val (.int (13 : Int32)), .val (.long (0 : Int64)), .second, .val (.ref r3_0)] [(.ref b14), (.ref b14)])) (fun _ k => XS.dup X14.here hx rfl (hb hby d1_167) rfl rfl k) ?_
    refine Goes.step (S' := T14.setTop (mkF m 169 #[.val (.ref u0), .val (.int (1 : Int32)), .val (.int (13 : Int32)), .val (.long (0 : Int64)), .second, .val (.ref r3_0)] [(.int (1 : Int32)), (.ref b14), (.ref b14)])) (fun _ k => XS.iloadN X14.here hx rfl (hb hby d1_168) rfl  k) ?_
    refine Goes.step (S' := T14.setTop (mkF m 170 #[.val (.ref u0), .val (.int (1 : Int32)), .val (.int (13 : Int32)), .val (.long (0 : Int64)), .second, .val (.ref r3_0)] [(.long (0 : Int64)), (.int (1 : Int32)), (.ref b14), (.ref b14)])) (fun _ k => XS.lloadN X14.here hx rfl (hb hby d1_169) rfl  k) ?_
    refine Goes.step (S' := T14.setTop (mkF m 172 #[.val (.ref u0), .val (.int (1 : Int32)), .val (.int (13 : Int32)), .val (.long (0 : Int64)), .second, .val (.ref r3_0)] [(.ref r3_0), (.long (0 : Int64)), (.int (1 : Int32)), (.ref b14), (.ref b14)])) (fun _ k => XS.aload X14.here hx rfl (hb hby d1_170) rfl rfl k) ?_
    obtain ⟨_, _, ⟨T26, L26, k26, n26⟩, -, X26, ⟨Lc26, hQ26, l26, y26, z26⟩, st26⟩ := X14.specialBack hx (y := (⟨"com/example/isopod/isopod/RecordHeader", "<init>", "(IJ[B)V"⟩ : MethodName)) rfl hown (mvT hZ (hw _ (List.mem_of_getElem? (i := 30) rfl))) (mvT hZ (hw _ (List.mem_of_getElem? (i := 31) rfl))) (mvT hZ (hw _ (List.mem_of_getElem? (i := 32) rfl))) (by decide) (backOf (W := 1) (rm7 l Z a0 hw [] b14 (1 : Int32) (0 : Int64) r3_0 rk3_0 ((12 : Int32)) ([(vs_u0.getD 1 0), (vs_u0.getD 2 0), (vs_u0.getD 3 0), (vs_u0.getD 4 0), (vs_u0.getD 5 0), (vs_u0.getD 6 0), (vs_u0.getD 7 0), (vs_u0.getD 8 0), (vs_u0.getD 9 0), (vs_u0.getD 10 0), (vs_u0.getD 11 0), (vs_u0.getD 12 0)]) h14 n0 Z18 V21 P6 A14 F23 F24 F25 g17 ne16) hZ (hw _ (List.mem_of_getElem? (i := 32) rfl)) (hw _ (List.mem_of_getElem? (i := 4) rfl)) (by decide) (by decide)) (g := (mkF m 172 #[.val (.ref u0), .val (.int (1 : Int32)), .val (.int (13 : Int32)), .val (.long (0 : Int64)), .second, .val (.ref r3_0)] [(.ref r3_0), (.long (0 : Int64)), (.int (1 : Int32)), (.ref b14), (.ref b14)])) rfl (by rw [hml]; rfl) (Steps.refl _) (a := b14) (argsL := [(.int (1 : Int32)), (.long (0 : Int64)), (.ref r3_0)]) (rest := [(.ref b14)]) (lenOf pd4 rfl) rfl (by show 2 * 0 + _ ≤ _; exact Nat.le_of_eq rfl) (hb hby d1_172) (fun _ _ => ⟨rfl, e14, (by decide : 2 + 0 ≤ _), (by decide : 15 + 0 ≤ _)⟩)
    dsimp only [Pt.U, Pt.locs, Pt.cells, Pt.slots] at X26 l26 y26 z26 st26 hQ26
    replace X26 := X26.more (Nat.le_of_eq (y26 : k26 = 2)) (Nat.le_of_eq (z26 : n26 = 15))
    obtain ⟨rfl, N26q, K26q, E_27, F28, F29, F30⟩ := hQ26
    have N31 := own_frapp l26 N7 N26q
    have V32 := V20.keep K26q (ninS ne15 nin0)
    have V33 := V21.keep K26q (ninS ne16 nin0)
    have E_34 := A14.keep K26q
    have K35 : Keep h0 T26.heap [] := K22.trans K26q (allS (Or.inr O19) all0)
    have Z36 : n0 ≤ T26.heap.size := Nat.le_trans Z18 K26q.1
    refine Goes.step (S' := T26.setTop (mkF m 175 #[.val (.ref u0), .val (.int (1 : Int32)), .val (.int (13 : Int32)), .val (.long (0 : Int64)), .second, .val (.ref r3_0)] [(.ref b14)])) (fun _ k => st26.trans k) ?_
    refine Goes.retA X26 hx Bd.notSynchronized Bd.returns rfl (hb hby d1_175) (by decide) (by decide) ?_
    refine ⟨b14, r3_0, rk3_0, rfl, N31, ?_, ?_, ?_, ?_, ?_, ?_, ?_, ?_, ?_, ?_⟩
    · exact K35
    · exact O19
    · exact E_27
    · exact F28
    · exact F29
    · exact F30
    · exact O10
    · exact V33
    · exact P6
    · exact (Ne.symm ne16)
theorem d1_24 : decode prog_12_method_3_code 24 = .ok (.iload_n 1, 1) := by decide +kernel
theorem d1_25 : decode prog_12_method_3_code 25 = .ok (.iconst 2, 1) := by decide +kernel
theorem d1_26 : decode prog_12_method_3_code 26 = .ok (.if_icmp .eq 13, 3) := by decide +kernel
theorem d1_107 : decode prog_12_method_3_code 107 = .ok (.iconst 1, 1) := by decide +kernel
theorem d1_108 : decode prog_12_method_3_code 108 = .ok (.istore 5, 2) := by decide +kernel
theorem d1_110 : decode prog_12_method_3_code 110 = .ok (.iload 5, 2) := by decide +kernel
theorem d1_112 : decode prog_12_method_3_code 112 = .ok (.iconst 4, 1) := by decide +kernel
theorem d1_113 : decode prog_12_method_3_code 113 = .ok (.if_icmp .gt 24, 3) := by decide +kernel
theorem d1_116 : decode prog_12_method_3_code 116 = .ok (.lload_n 3, 1) := by decide +kernel
theorem d1_117 : decode prog_12_method_3_code 117 = .ok (.bipush 8, 2) := by decide +kernel
theorem d1_119 : decode prog_12_method_3_code 119 = .ok (.lshl, 1) := by decide +kernel
theorem d1_120 : decode prog_12_method_3_code 120 = .ok (.aload_n 0, 1) := by decide +kernel
theorem d1_121 : decode prog_12_method_3_code 121 = .ok (.iload 5, 2) := by decide +kernel
theorem d1_123 : decode prog_12_method_3_code 123 = .ok (.baload, 1) := by decide +kernel
theorem d1_124 : decode prog_12_method_3_code 124 = .ok (.sipush 255, 3) := by decide +kernel
theorem d1_127 : decode prog_12_method_3_code 127 = .ok (.iand, 1) := by decide +kernel
theorem d1_128 : decode prog_12_method_3_code 128 = .ok (.i2l, 1) := by decide +kernel
theorem d1_129 : decode prog_12_method_3_code 129 = .ok (.lor, 1) := by decide +kernel
theorem d1_130 : decode prog_12_method_3_code 130 = .ok (.lstore_n 3, 1) := by decide +kernel
theorem d1_131 : decode prog_12_method_3_code 131 = .ok (.iinc 5 1, 3) := by decide +kernel
theorem d1_134 : decode prog_12_method_3_code 134 = .ok (.goto (-24), 3) := by decide +kernel
theorem d1_137 : decode prog_12_method_3_code 137 = .ok (.lload_n 3, 1) := by decide +kernel
theorem d1_138 : decode prog_12_method_3_code 138 = .ok (.lconst 0, 1) := by decide +kernel
theorem d1_139 : decode prog_12_method_3_code 139 = .ok (.lcmp, 1) := by decide +kernel
theorem d1_140 : decode prog_12_method_3_code 140 = .ok (.ifCond .ne 13, 3) := by decide +kernel
theorem ef1b (m : MethodId) (u0 : Addr) : entryFrame m #[(.ref u0)] 6 = mkF m 0 #[.val (.ref u0), .unset, .unset, .unset, .unset, .unset] [] := by first | (simp [entryFrame, mkF, argsToLocals, Value.category]; done) | rfl
theorem own_hc1b_2 (n_u0 : Int32) (vs_u0 : List Int32) (hl_u0 : vs_u0.length = n_u0.toNatClampNeg) (hn_u0 : ¬ n_u0 < 0) (gen : Int64) (hv0 : (vs_u0.getD ((0 : Int32)).toNatClampNeg 0) = (2 : Int32)) (hn : ¬ n_u0 < (33 : Int32)) (hn2 : n_u0 < (1000 : Int32)) (hgen : (((((((((0 : Int64) <<< ((8 : Int32) &&& 0x3f).toInt64) ||| (((vs_u0.getD ((1 : Int32)).toNatClampNeg 0) &&& (255 : Int32)).toInt64)) <<< ((8 : Int32) &&& 0x3f).toInt64) ||| (((vs_u0.getD ((2 : Int32)).toNatClampNeg 0) &&& (255 : Int32)).toInt64)) <<< ((8 : Int32) &&& 0x3f).toInt64) ||| (((vs_u0.getD ((3 : Int32)).toNatClampNeg 0) &&& (255 : Int32)).toInt64)) <<< ((8 : Int32) &&& 0x3f).toInt64) ||| (((vs_u0.getD ((4 : Int32)).toNatClampNeg 0) &&& (255 : Int32)).toInt64)) = gen) (hg0 : ¬ (gen = (0 : Int64))) : ¬ (n_u0 = (0 : Int32)) := by
  clear hv0 hl_u0 hgen hg0
  simp only [Int32.lt_iff_toInt_lt, ← Int32.toInt_inj, Int32.reduceToInt] at *
  omega
theorem own_ix1b_17 (n_u0 : Int32) (vs_u0 : List Int32) (hl_u0 : vs_u0.length = n_u0.toNatClampNeg) (hn_u0 : ¬ n_u0 < 0) (gen : Int64) (hv0 : (vs_u0.getD ((0 : Int32)).toNatClampNeg 0) = (2 : Int32)) (hn : ¬ n_u0 < (33 : Int32)) (hn2 : n_u0 < (1000 : Int32)) (hgen : (((((((((0 : Int64) <<< ((8 : Int32) &&& 0x3f).toInt64) ||| (((vs_u0.getD ((1 : Int32)).toNatClampNeg 0) &&& (255 : Int32)).toInt64)) <<< ((8 : Int32) &&& 0x3f).toInt64) ||| (((vs_u0.getD ((2 : Int32)).toNatClampNeg 0) &&& (255 : Int32)).toInt64)) <<< ((8 : Int32) &&& 0x3f).toInt64) ||| (((vs_u0.getD ((3 : Int32)).toNatClampNeg 0) &&& (255 : Int32)).toInt64)) <<< ((8 : Int32) &&& 0x3f).toInt64) ||| (((vs_u0.getD ((4 : Int32)).toNatClampNeg 0) &&& (255 : Int32)).toInt64)) = gen) (hg0 : ¬ (gen = (0 : Int64))) : ¬ (0 : Int32) < 0 ∧ (0 : Int32) < n_u0 := by
  refine ⟨by decide, ?_⟩
  clear hl_u0 hgen hg0
  simp only [Int32.lt_iff_toInt_lt, Int32.reduceToInt] at hn ⊢
  omega
theorem own_case1b_44 (n_u0 : Int32) (vs_u0 : List Int32) (hl_u0 : vs_u0.length = n_u0.toNatClampNeg) (hn_u0 : ¬ n_u0 < 0) (gen : Int64) (hv0 : (vs_u0.getD ((0 : Int32)).toNatClampNeg 0) = (2 : Int32)) (hn : ¬ n_u0 < (33 : Int32)) (hn2 : n_u0 < (1000 : Int32)) (hgen : (((((((((0 : Int64) <<< ((8 : Int32) &&& 0x3f).toInt64) ||| (((vs_u0.getD ((1 : Int32)).toNatClampNeg 0) &&& (255 : Int32)).toInt64)) <<< ((8 : Int32) &&& 0x3f).toInt64) ||| (((vs_u0.getD ((2 : Int32)).toNatClampNeg 0) &&& (255 : Int32)).toInt64)) <<< ((8 : Int32) &&& 0x3f).toInt64) ||| (((vs_u0.getD ((3 : Int32)).toNatClampNeg 0) &&& (255 : Int32)).toInt64)) <<< ((8 : Int32) &&& 0x3f).toInt64) ||| (((vs_u0.getD ((4 : Int32)).toNatClampNeg 0) &&& (255 : Int32)).toInt64)) = gen) (hg0 : ¬ (gen = (0 : Int64))) (v2_44 : Int32) (ev2_44 : v2_44 = (f2 (2 : Int32))) : v2_44 = (17 : Int32) := by
  rw [ev2_44]; rfl
theorem own_hc1b_50 (n_u0 : Int32) (vs_u0 : List Int32) (hl_u0 : vs_u0.length = n_u0.toNatClampNeg) (hn_u0 : ¬ n_u0 < 0) (gen : Int64) (hv0 : (vs_u0.getD ((0 : Int32)).toNatClampNeg 0) = (2 : Int32)) (hn : ¬ n_u0 < (33 : Int32)) (hn2 : n_u0 < (1000 : Int32)) (hgen : (((((((((0 : Int64) <<< ((8 : Int32) &&& 0x3f).toInt64) ||| (((vs_u0.getD ((1 : Int32)).toNatClampNeg 0) &&& (255 : Int32)).toInt64)) <<< ((8 : Int32) &&& 0x3f).toInt64) ||| (((vs_u0.getD ((2 : Int32)).toNatClampNeg 0) &&& (255 : Int32)).toInt64)) <<< ((8 : Int32) &&& 0x3f).toInt64) ||| (((vs_u0.getD ((3 : Int32)).toNatClampNeg 0) &&& (255 : Int32)).toInt64)) <<< ((8 : Int32) &&& 0x3f).toInt64) ||| (((vs_u0.getD ((4 : Int32)).toNatClampNeg 0) &&& (255 : Int32)).toInt64)) = gen) (hg0 : ¬ (gen = (0 : Int64))) (ev2_44 : (17 : Int32) = (f2 (2 : Int32))) : ¬ (n_u0 < (33 : Int32)) := by
  exact hn
theorem own_hc1b_82 (n_u0 : Int32) (vs_u0 : List Int32) (hl_u0 : vs_u0.length = n_u0.toNatClampNeg) (hn_u0 : ¬ n_u0 < 0) (gen : Int64) (hv0 : (vs_u0.getD ((0 : Int32)).toNatClampNeg 0) = (2 : Int32)) (hn : ¬ n_u0 < (33 : Int32)) (hn2 : n_u0 < (1000 : Int32)) (hgen : (((((((((0 : Int64) <<< ((8 : Int32) &&& 0x3f).toInt64) ||| (((vs_u0.getD ((1 : Int32)).toNatClampNeg 0) &&& (255 : Int32)).toInt64)) <<< ((8 : Int32) &&& 0x3f).toInt64) ||| (((vs_u0.getD ((2 : Int32)).toNatClampNeg 0) &&& (255 : Int32)).toInt64)) <<< ((8 : Int32) &&& 0x3f).toInt64) ||| (((vs_u0.getD ((3 : Int32)).toNatClampNeg 0) &&& (255 : Int32)).toInt64)) <<< ((8 : Int32) &&& 0x3f).toInt64) ||| (((vs_u0.getD ((4 : Int32)).toNatClampNeg 0) &&& (255 : Int32)).toInt64)) = gen) (hg0 : ¬ (gen = (0 : Int64))) (ev2_44 : (17 : Int32) = (f2 (2 : Int32))) : ¬ ((67108864 : Int32) < ((n_u0 - (17 : Int32)) - (16 : Int32))) := by
  have a := c_isub n_u0 17
  have r := rng32 (n_u0 - 17)
  have b := c_isub (n_u0 - 17) 16
  have q := rng32 (n_u0 - 17 - 16)
  have d := c_isub n_u0 5
  have w := rng32 (n_u0 - 5)
  simp only [Int32.lt_iff_toInt_lt, Int32.reduceToInt] at hn hn2 a b d ⊢
  omega
theorem own_ix1b_123 (n_u0 : Int32) (vs_u0 : List Int32) (hl_u0 : vs_u0.length = n_u0.toNatClampNeg) (hn_u0 : ¬ n_u0 < 0) (gen : Int64) (hv0 : (vs_u0.getD ((0 : Int32)).toNatClampNeg 0) = (2 : Int32)) (hn : ¬ n_u0 < (33 : Int32)) (hn2 : n_u0 < (1000 : Int32)) (hgen : (((((((((0 : Int64) <<< ((8 : Int32) &&& 0x3f).toInt64) ||| (((vs_u0.getD ((1 : Int32)).toNatClampNeg 0) &&& (255 : Int32)).toInt64)) <<< ((8 : Int32) &&& 0x3f).toInt64) ||| (((vs_u0.getD ((2 : Int32)).toNatClampNeg 0) &&& (255 : Int32)).toInt64)) <<< ((8 : Int32) &&& 0x3f).toInt64) ||| (((vs_u0.getD ((3 : Int32)).toNatClampNeg 0) &&& (255 : Int32)).toInt64)) <<< ((8 : Int32) &&& 0x3f).toInt64) ||| (((vs_u0.getD ((4 : Int32)).toNatClampNeg 0) &&& (255 : Int32)).toInt64)) = gen) (hg0 : ¬ (gen = (0 : Int64))) (ev2_44 : (17 : Int32) = (f2 (2 : Int32))) : ¬ (1 : Int32) < 0 ∧ (1 : Int32) < n_u0 := by
  refine ⟨by decide, ?_⟩
  clear hl_u0 hgen hg0
  simp only [Int32.lt_iff_toInt_lt, Int32.reduceToInt] at hn ⊢
  omega
theorem own_ix1b_123_2 (n_u0 : Int32) (vs_u0 : List Int32) (hl_u0 : vs_u0.length = n_u0.toNatClampNeg) (hn_u0 : ¬ n_u0 < 0) (gen : Int64) (hv0 : (vs_u0.getD ((0 : Int32)).toNatClampNeg 0) = (2 : Int32)) (hn : ¬ n_u0 < (33 : Int32)) (hn2 : n_u0 < (1000 : Int32)) (hgen : (((((((((0 : Int64) <<< ((8 : Int32) &&& 0x3f).toInt64) ||| (((vs_u0.getD ((1 : Int32)).toNatClampNeg 0) &&& (255 : Int32)).toInt64)) <<< ((8 : Int32) &&& 0x3f).toInt64) ||| (((vs_u0.getD ((2 : Int32)).toNatClampNeg 0) &&& (255 : Int32)).toInt64)) <<< ((8 : Int32) &&& 0x3f).toInt64) ||| (((vs_u0.getD ((3 : Int32)).toNatClampNeg 0) &&& (255 : Int32)).toInt64)) <<< ((8 : Int32) &&& 0x3f).toInt64) ||| (((vs_u0.getD ((4 : Int32)).toNatClampNeg 0) &&& (255 : Int32)).toInt64)) = gen) (hg0 : ¬ (gen = (0 : Int64))) (ev2_44 : (17 : Int32) = (f2 (2 : Int32))) : ¬ (2 : Int32) < 0 ∧ (2 : Int32) < n_u0 := by
  refine ⟨by decide, ?_⟩
  clear hl_u0 hgen hg0
  simp only [Int32.lt_iff_toInt_lt, Int32.reduceToInt] at hn ⊢
  omega
theorem own_ix1b_123_3 (n_u0 : Int32) (vs_u0 : List Int32) (hl_u0 : vs_u0.length = n_u0.toNatClampNeg) (hn_u0 : ¬ n_u0 < 0) (gen : Int64) (hv0 : (vs_u0.getD ((0 : Int32)).toNatClampNeg 0) = (2 : Int32)) (hn : ¬ n_u0 < (33 : Int32)) (hn2 : n_u0 < (1000 : Int32)) (hgen : (((((((((0 : Int64) <<< ((8 : Int32) &&& 0x3f).toInt64) ||| (((vs_u0.getD ((1 : Int32)).toNatClampNeg 0) &&& (255 : Int32)).toInt64)) <<< ((8 : Int32) &&& 0x3f).toInt64) ||| (((vs_u0.getD ((2 : Int32)).toNatClampNeg 0) &&& (255 : Int32)).toInt64)) <<< ((8 : Int32) &&& 0x3f).toInt64) ||| (((vs_u0.getD ((3 : Int32)).toNatClampNeg 0) &&& (255 : Int32)).toInt64)) <<< ((8 : Int32) &&& 0x3f).toInt64) ||| (((vs_u0.getD ((4 : Int32)).toNatClampNeg 0) &&& (255 : Int32)).toInt64)) = gen) (hg0 : ¬ (gen = (0 : Int64))) (ev2_44 : (17 : Int32) = (f2 (2 : Int32))) : ¬ (3 : Int32) < 0 ∧ (3 : Int32) < n_u0 := by
  refine ⟨by decide, ?_⟩
  clear hl_u0 hgen hg0
  simp only [Int32.lt_iff_toInt_lt, Int32.reduceToInt] at hn ⊢
  omega
theorem own_ix1b_123_4 (n_u0 : Int32) (vs_u0 : List Int32) (hl_u0 : vs_u0.length = n_u0.toNatClampNeg) (hn_u0 : ¬ n_u0 < 0) (gen : Int64) (hv0 : (vs_u0.getD ((0 : Int32)).toNatClampNeg 0) = (2 : Int32)) (hn : ¬ n_u0 < (33 : Int32)) (hn2 : n_u0 < (1000 : Int32)) (hgen : (((((((((0 : Int64) <<< ((8 : Int32) &&& 0x3f).toInt64) ||| (((vs_u0.getD ((1 : Int32)).toNatClampNeg 0) &&& (255 : Int32)).toInt64)) <<< ((8 : Int32) &&& 0x3f).toInt64) ||| (((vs_u0.getD ((2 : Int32)).toNatClampNeg 0) &&& (255 : Int32)).toInt64)) <<< ((8 : Int32) &&& 0x3f).toInt64) ||| (((vs_u0.getD ((3 : Int32)).toNatClampNeg 0) &&& (255 : Int32)).toInt64)) <<< ((8 : Int32) &&& 0x3f).toInt64) ||| (((vs_u0.getD ((4 : Int32)).toNatClampNeg 0) &&& (255 : Int32)).toInt64)) = gen) (hg0 : ¬ (gen = (0 : Int64))) (ev2_44 : (17 : Int32) = (f2 (2 : Int32))) : ¬ (4 : Int32) < 0 ∧ (4 : Int32) < n_u0 := by
  refine ⟨by decide, ?_⟩
  clear hl_u0 hgen hg0
  simp only [Int32.lt_iff_toInt_lt, Int32.reduceToInt] at hn ⊢
  omega
theorem own_hc1b_140 (n_u0 : Int32) (vs_u0 : List Int32) (hl_u0 : vs_u0.length = n_u0.toNatClampNeg) (hn_u0 : ¬ n_u0 < 0) (gen : Int64) (hv0 : (vs_u0.getD ((0 : Int32)).toNatClampNeg 0) = (2 : Int32)) (hn : ¬ n_u0 < (33 : Int32)) (hn2 : n_u0 < (1000 : Int32)) (hgen : (((((((((0 : Int64) <<< ((8 : Int32) &&& 0x3f).toInt64) ||| (((vs_u0.getD ((1 : Int32)).toNatClampNeg 0) &&& (255 : Int32)).toInt64)) <<< ((8 : Int32) &&& 0x3f).toInt64) ||| (((vs_u0.getD ((2 : Int32)).toNatClampNeg 0) &&& (255 : Int32)).toInt64)) <<< ((8 : Int32) &&& 0x3f).toInt64) ||| (((vs_u0.getD ((3 : Int32)).toNatClampNeg 0) &&& (255 : Int32)).toInt64)) <<< ((8 : Int32) &&& 0x3f).toInt64) ||| (((vs_u0.getD ((4 : Int32)).toNatClampNeg 0) &&& (255 : Int32)).toInt64)) = gen) (hg0 : ¬ (gen = (0 : Int64))) (ev2_44 : (17 : Int32) = (f2 (2 : Int32))) : ¬ (gen = (0 : Int64)) := by
  exact hg0
theorem own_pr1b_159_hp0 (n_u0 : Int32) (vs_u0 : List Int32) (hl_u0 : vs_u0.length = n_u0.toNatClampNeg) (hn_u0 : ¬ n_u0 < 0) (gen : Int64) (hv0 : (vs_u0.getD ((0 : Int32)).toNatClampNeg 0) = (2 : Int32)) (hn : ¬ n_u0 < (33 : Int32)) (hn2 : n_u0 < (1000 : Int32)) (hgen : (((((((((0 : Int64) <<< ((8 : Int32) &&& 0x3f).toInt64) ||| (((vs_u0.getD ((1 : Int32)).toNatClampNeg 0) &&& (255 : Int32)).toInt64)) <<< ((8 : Int32) &&& 0x3f).toInt64) ||| (((vs_u0.getD ((2 : Int32)).toNatClampNeg 0) &&& (255 : Int32)).toInt64)) <<< ((8 : Int32) &&& 0x3f).toInt64) ||| (((vs_u0.getD ((3 : Int32)).toNatClampNeg 0) &&& (255 : Int32)).toInt64)) <<< ((8 : Int32) &&& 0x3f).toInt64) ||| (((vs_u0.getD ((4 : Int32)).toNatClampNeg 0) &&& (255 : Int32)).toInt64)) = gen) (hg0 : ¬ (gen = (0 : Int64))) (ev2_44 : (17 : Int32) = (f2 (2 : Int32))) : ¬ (5 : Int32) < (0 : Int32) := by
  decide
theorem own_pr1b_159_hd (n_u0 : Int32) (vs_u0 : List Int32) (hl_u0 : vs_u0.length = n_u0.toNatClampNeg) (hn_u0 : ¬ n_u0 < 0) (gen : Int64) (hv0 : (vs_u0.getD ((0 : Int32)).toNatClampNeg 0) = (2 : Int32)) (hn : ¬ n_u0 < (33 : Int32)) (hn2 : n_u0 < (1000 : Int32)) (hgen : (((((((((0 : Int64) <<< ((8 : Int32) &&& 0x3f).toInt64) ||| (((vs_u0.getD ((1 : Int32)).toNatClampNeg 0) &&& (255 : Int32)).toInt64)) <<< ((8 : Int32) &&& 0x3f).toInt64) ||| (((vs_u0.getD ((2 : Int32)).toNatClampNeg 0) &&& (255 : Int32)).toInt64)) <<< ((8 : Int32) &&& 0x3f).toInt64) ||| (((vs_u0.getD ((3 : Int32)).toNatClampNeg 0) &&& (255 : Int32)).toInt64)) <<< ((8 : Int32) &&& 0x3f).toInt64) ||| (((vs_u0.getD ((4 : Int32)).toNatClampNeg 0) &&& (255 : Int32)).toInt64)) = gen) (hg0 : ¬ (gen = (0 : Int64))) (ev2_44 : (17 : Int32) = (f2 (2 : Int32))) : ((17 : Int32) - (5 : Int32)) = (12 : Int32) := by
  rfl
theorem own_pr1b_159_hle (n_u0 : Int32) (vs_u0 : List Int32) (hl_u0 : vs_u0.length = n_u0.toNatClampNeg) (hn_u0 : ¬ n_u0 < 0) (gen : Int64) (hv0 : (vs_u0.getD ((0 : Int32)).toNatClampNeg 0) = (2 : Int32)) (hn : ¬ n_u0 < (33 : Int32)) (hn2 : n_u0 < (1000 : Int32)) (hgen : (((((((((0 : Int64) <<< ((8 : Int32) &&& 0x3f).toInt64) ||| (((vs_u0.getD ((1 : Int32)).toNatClampNeg 0) &&& (255 : Int32)).toInt64)) <<< ((8 : Int32) &&& 0x3f).toInt64) ||| (((vs_u0.getD ((2 : Int32)).toNatClampNeg 0) &&& (255 : Int32)).toInt64)) <<< ((8 : Int32) &&& 0x3f).toInt64) ||| (((vs_u0.getD ((3 : Int32)).toNatClampNeg 0) &&& (255 : Int32)).toInt64)) <<< ((8 : Int32) &&& 0x3f).toInt64) ||| (((vs_u0.getD ((4 : Int32)).toNatClampNeg 0) &&& (255 : Int32)).toInt64)) = gen) (hg0 : ¬ (gen = (0 : Int64))) (ev2_44 : (17 : Int32) = (f2 (2 : Int32))) : ¬ (17 : Int32) < (5 : Int32) := by
  decide
theorem own_pr1b_159_hmin (n_u0 : Int32) (vs_u0 : List Int32) (hl_u0 : vs_u0.length = n_u0.toNatClampNeg) (hn_u0 : ¬ n_u0 < 0) (gen : Int64) (hv0 : (vs_u0.getD ((0 : Int32)).toNatClampNeg 0) = (2 : Int32)) (hn : ¬ n_u0 < (33 : Int32)) (hn2 : n_u0 < (1000 : Int32)) (hgen : (((((((((0 : Int64) <<< ((8 : Int32) &&& 0x3f).toInt64) ||| (((vs_u0.getD ((1 : Int32)).toNatClampNeg 0) &&& (255 : Int32)).toInt64)) <<< ((8 : Int32) &&& 0x3f).toInt64) ||| (((vs_u0.getD ((2 : Int32)).toNatClampNeg 0) &&& (255 : Int32)).toInt64)) <<< ((8 : Int32) &&& 0x3f).toInt64) ||| (((vs_u0.getD ((3 : Int32)).toNatClampNeg 0) &&& (255 : Int32)).toInt64)) <<< ((8 : Int32) &&& 0x3f).toInt64) ||| (((vs_u0.getD ((4 : Int32)).toNatClampNeg 0) &&& (255 : Int32)).toInt64)) = gen) (hg0 : ¬ (gen = (0 : Int64))) (ev2_44 : (17 : Int32) = (f2 (2 : Int32))) : ¬ (n_u0 - (5 : Int32)) < (12 : Int32) := by
  have a := c_isub n_u0 17
  have r := rng32 (n_u0 - 17)
  have b := c_isub (n_u0 - 17) 16
  have q := rng32 (n_u0 - 17 - 16)
  have d := c_isub n_u0 5
  have w := rng32 (n_u0 - 5)
  simp only [Int32.lt_iff_toInt_lt, Int32.reduceToInt] at hn hn2 a b d ⊢
  omega
theorem own_pr1b_159_h4 (n_u0 : Int32) (vs_u0 : List Int32) (hl_u0 : vs_u0.length = n_u0.toNatClampNeg) (hn_u0 : ¬ n_u0 < 0) (gen : Int64) (hv0 : (vs_u0.getD ((0 : Int32)).toNatClampNeg 0) = (2 : Int32)) (hn : ¬ n_u0 < (33 : Int32)) (hn2 : n_u0 < (1000 : Int32)) (hgen : (((((((((0 : Int64) <<< ((8 : Int32) &&& 0x3f).toInt64) ||| (((vs_u0.getD ((1 : Int32)).toNatClampNeg 0) &&& (255 : Int32)).toInt64)) <<< ((8 : Int32) &&& 0x3f).toInt64) ||| (((vs_u0.getD ((2 : Int32)).toNatClampNeg 0) &&& (255 : Int32)).toInt64)) <<< ((8 : Int32) &&& 0x3f).toInt64) ||| (((vs_u0.getD ((3 : Int32)).toNatClampNeg 0) &&& (255 : Int32)).toInt64)) <<< ((8 : Int32) &&& 0x3f).toInt64) ||| (((vs_u0.getD ((4 : Int32)).toNatClampNeg 0) &&& (255 : Int32)).toInt64)) = gen) (hg0 : ¬ (gen = (0 : Int64))) (ev2_44 : (17 : Int32) = (f2 (2 : Int32))) : ((5 : Int32)).toNatClampNeg + 12 ≤ (n_u0).toNatClampNeg := by
  simp only [Int32.lt_iff_toInt_lt, Int32.reduceToInt] at hn
  show 5 + 12 ≤ n_u0.toInt.toNat
  omega
theorem own_pr1b_159_hp1 (n_u0 : Int32) (vs_u0 : List Int32) (hl_u0 : vs_u0.length = n_u0.toNatClampNeg) (hn_u0 : ¬ n_u0 < 0) (gen : Int64) (hv0 : (vs_u0.getD ((0 : Int32)).toNatClampNeg 0) = (2 : Int32)) (hn : ¬ n_u0 < (33 : Int32)) (hn2 : n_u0 < (1000 : Int32)) (hgen : (((((((((0 : Int64) <<< ((8 : Int32) &&& 0x3f).toInt64) ||| (((vs_u0.getD ((1 : Int32)).toNatClampNeg 0) &&& (255 : Int32)).toInt64)) <<< ((8 : Int32) &&& 0x3f).toInt64) ||| (((vs_u0.getD ((2 : Int32)).toNatClampNeg 0) &&& (255 : Int32)).toInt64)) <<< ((8 : Int32) &&& 0x3f).toInt64) ||| (((vs_u0.getD ((3 : Int32)).toNatClampNeg 0) &&& (255 : Int32)).toInt64)) <<< ((8 : Int32) &&& 0x3f).toInt64) ||| (((vs_u0.getD ((4 : Int32)).toNatClampNeg 0) &&& (255 : Int32)).toInt64)) = gen) (hg0 : ¬ (gen = (0 : Int64))) (ev2_44 : (17 : Int32) = (f2 (2 : Int32))) : ¬ ((5 : Int32) = (0 : Int32)) := by
  decide
def Q1b (Z : State) (u0 : Addr) (k_u0 : ClassId) (n_u0 : Int32) (vs_u0 : List Int32) (gen : Int64) (h0 : Heap) (n0 : Nat) (v : Option Value) (h : Heap) (L : List Loc) : Prop := ∃ (r0 : Addr) (r1 : Addr) (kk0 : ClassId), v = some (.ref r0) ∧ Fr n0 L ∧ Keep h0 h [] ∧ h0.size ≤ r0 ∧ Exa Z h r0 "com/example/isopod/isopod/RecordHeader" ∧ Fld Z h r0 "com/example/isopod/isopod/RecordHeader" "generation" "J" (.long gen) ∧ Fld Z h r0 "com/example/isopod/isopod/RecordHeader" "nonce" "[B" (.ref r1) ∧ Fld Z h r0 "com/example/isopod/isopod/RecordHeader" "version" "I" (.int (2 : Int32)) ∧ h0.size ≤ r1 ∧ AI Z h r1 kk0 .byte (12 : Int32) [(vs_u0.getD 5 0), (vs_u0.getD 6 0), (vs_u0.getD 7 0), (vs_u0.getD 8 0), (vs_u0.getD 9 0), (vs_u0.getD 10 0), (vs_u0.getD 11 0), (vs_u0.getD 12 0), (vs_u0.getD 13 0), (vs_u0.getD 14 0), (vs_u0.getD 15 0), (vs_u0.getD 16 0)] ∧ Z.vm.findClass "[B" = some kk0 ∧ r0 ≠ r1
set_option maxRecDepth 65536 in
set_option maxHeartbeats 40000000 in
theorem rm1b (l : Launch) (Z : State) (a0 : Array Value) (hw : ∀ d ∈ tables_1, d.before a0 Z = true) (ws : List Jvm.Cond) (u0 : Addr) (k_u0 : ClassId) (n_u0 : Int32) (vs_u0 : List Int32) (gen : Int64) (h0 : Heap) (n0 : Nat) (Z0 : n0 ≤ h0.size) (V_u0 : AI Z h0 u0 k_u0 .byte n_u0 vs_u0) (hk_u0 : Z.vm.findClass "[B" = some k_u0) (hv0 : (vs_u0.getD ((0 : Int32)).toNatClampNeg 0) = (2 : Int32)) (hn : ¬ n_u0 < (33 : Int32)) (hn2 : n_u0 < (1000 : Int32)) (hgen : (((((((((0 : Int64) <<< ((8 : Int32) &&& 0x3f).toInt64) ||| (((vs_u0.getD ((1 : Int32)).toNatClampNeg 0) &&& (255 : Int32)).toInt64)) <<< ((8 : Int32) &&& 0x3f).toInt64) ||| (((vs_u0.getD ((2 : Int32)).toNatClampNeg 0) &&& (255 : Int32)).toInt64)) <<< ((8 : Int32) &&& 0x3f).toInt64) ||| (((vs_u0.getD ((3 : Int32)).toNatClampNeg 0) &&& (255 : Int32)).toInt64)) <<< ((8 : Int32) &&& 0x3f).toInt64) ||| (((vs_u0.getD ((4 : Int32)).toNatClampNeg 0) &&& (255 : Int32)).toInt64)) = gen) (hg0 : ¬ (gen = (0 : Int64))) :
    MetFree l (⟨"com/example/isopod/isopod/RecordHeader", "read", "([B)Lcom/example/isopod/isopod/RecordHeader;"⟩ : MethodName) (head1 (Jvm.Cond.code (⟨"com/example/isopod/isopod/RecordHeader", "read", "([B)Lcom/example/isopod/isopod/RecordHeader;"⟩ : MethodName) prog_12_method_3_code 6 (some (.object "com/example/isopod/isopod/RecordHeader")) :: ws) ({ frames := 3, cells := 2, slots := 15, locals := 48 } : Room)) (fun a U => a = #[(.ref u0)] ∧ Z.Warmed39 U.vm ∧ U.heap = h0) (fun _ _ _ _ _ => True) (fun _ U o U' => ∃ v L, o = .returned v ∧ Q1b Z u0 k_u0 n_u0 vs_u0 gen h0 n0 v U'.heap L ∧ FrameEnd U o U' L ({ frames := 3, cells := 2, slots := 15, locals := 48 } : Room).cells ({ frames := 3, cells := 2, slots := 15, locals := 48 } : Room).slots) := by
  refine MetFree.of_bodySF (plainFor_of_name pn0) hisR ?_
  intro p e s m args below meth c s₁ Bd hml0 hP hK
  obtain ⟨rfl, hZ, hh⟩ := hP
  have hx := Bd.exec
  have hby := Bd.bytes
  have hml : c.maxLocals = 6 := hml0
  have hown : s.vm.findClass "com/example/isopod/isopod/RecordHeader" = some m.cls := findClass_of_methodNamed Bd.named
  have hnm := (name_of_methodNamed Bd.named Bd.method).1
  have X0 : Stand p l e ({ frames := 3, cells := 2, slots := 15, locals := 48 } : Room) s m #[(.ref u0)] below meth c s₁ [] 0 0 := Stand.of_body Bd
  have e0 : s₁.heap = h0 := by rw [← hh, Bd.state]; rfl
  have N0 := Fr.nil n0
  have K0 : Keep h0 h0 [] := Keep.refl _ _
  have hl_u0 : vs_u0.length = n_u0.toNatClampNeg := V_u0.2
  have hn_u0 : ¬ n_u0 < 0 := V_u0.nn
  refine Goes.out (Q := fun o U' => ∃ v L, o = .returned v ∧ Q1b Z u0 k_u0 n_u0 vs_u0 gen h0 n0 v U'.heap L ∧ FrameEnd s o U' L ({ frames := 3, cells := 2, slots := 15, locals := 48 } : Room).cells ({ frames := 3, cells := 2, slots := 15, locals := 48 } : Room).slots) ?_
  refine Goes.step (S' := s₁.setTop (mkF m 0 #[.val (.ref u0), .unset, .unset, .unset, .unset, .unset] [])) (fun _ k => castTop (ef1b m u0) k) ?_
  refine Goes.step (S' := s₁.setTop (mkF m 1 #[.val (.ref u0), .unset, .unset, .unset, .unset, .unset] [(.ref u0)])) (fun _ k => XS.aloadN X0.here hx rfl (hb hby d1_0) rfl rfl k) ?_
  refine Goes.step (S' := s₁.setTop (mkF m 2 #[.val (.ref u0), .unset, .unset, .unset, .unset, .unset] [(.int n_u0)])) (fun _ k => own_len X0 hx hZ e0 V_u0 (hb hby d1_1) _ k) ?_
  refine Goes.step (S' := s₁.setTop (mkF m 15 #[.val (.ref u0), .unset, .unset, .unset, .unset, .unset] [])) (fun _ k => XS.ifYes X0.here hx rfl (pc0 := 2) (pc' := 15) rfl (hb hby d1_2) rfl ((if0 _ _).trans (feq (own_hc1b_2 n_u0 vs_u0 hl_u0 hn_u0 gen hv0 hn hn2 hgen hg0)).2) (by decide) (by decide) k) ?_
  refine Goes.step (S' := s₁.setTop (mkF m 16 #[.val (.ref u0), .unset, .unset, .unset, .unset, .unset] [(.ref u0)])) (fun _ k => XS.aloadN X0.here hx rfl (hb hby d1_15) rfl rfl k) ?_
  refine Goes.step (S' := s₁.setTop (mkF m 17 #[.val (.ref u0), .unset, .unset, .unset, .unset, .unset] [(.int (0 : Int32)), (.ref u0)])) (fun _ k => XS.iconst X0.here hx rfl (hb hby d1_16) k) ?_
  refine Goes.step (S' := s₁.setTop (mkF m 18 #[.val (.ref u0), .unset, .unset, .unset, .unset, .unset] [(.int (vs_u0.getD ((0 : Int32)).toNatClampNeg 0))])) (fun _ k => own_baload X0 hx hZ e0 V_u0 (own_ix1b_17 n_u0 vs_u0 hl_u0 hn_u0 gen hv0 hn hn2 hgen hg0) (hb hby d1_17) _ k) ?_
  refine Goes.step (S' := s₁.setTop (mkF m 19 #[.val (.ref u0), .val (.int (vs_u0.getD ((0 : Int32)).toNatClampNeg 0)), .unset, .unset, .unset, .unset] [])) (fun _ k => XS.istoreN X0.here hx rfl (hb hby d1_18) rfl (l' := #[.val (.ref u0), .val (.int (vs_u0.getD ((0 : Int32)).toNatClampNeg 0)), .unset, .unset, .unset, .unset]) rfl k) ?_
  rw [hv0]
  refine Goes.step (S' := s₁.setTop (mkF m 20 #[.val (.ref u0), .val (.int (2 : Int32)), .unset, .unset, .unset, .unset] [(.int (2 : Int32))])) (fun _ k => XS.iloadN X0.here hx rfl (hb hby d1_19) rfl  k) ?_
  refine Goes.step (S' := s₁.setTop (mkF m 21 #[.val (.ref u0), .val (.int (2 : Int32)), .unset, .unset, .unset, .unset] [(.int (1 : Int32)), (.int (2 : Int32))])) (fun _ k => XS.iconst X0.here hx rfl (hb hby d1_20) k) ?_
  refine Goes.step (S' := s₁.setTop (mkF m 24 #[.val (.ref u0), .val (.int (2 : Int32)), .unset, .unset, .unset, .unset] [])) (fun _ k => XS.icmpNo X0.here hx rfl (hb hby d1_21) rfl (feq (by decide)).1 k) ?_
  refine Goes.step (S' := s₁.setTop (mkF m 25 #[.val (.ref u0), .val (.int (2 : Int32)), .unset, .unset, .unset, .unset] [(.int (2 : Int32))])) (fun _ k => XS.iloadN X0.here hx rfl (hb hby d1_24) rfl  k) ?_
  refine Goes.step (S' := s₁.setTop (mkF m 26 #[.val (.ref u0), .val (.int (2 : Int32)), .unset, .unset, .unset, .unset] [(.int (2 : Int32)), (.int (2 : Int32))])) (fun _ k => XS.iconst X0.here hx rfl (hb hby d1_25) k) ?_
  refine Goes.step (S' := s₁.setTop (mkF m 39 #[.val (.ref u0), .val (.int (2 : Int32)), .unset, .unset, .unset, .unset] [])) (fun _ k => XS.icmpYes X0.here hx rfl (pc0 := 26) (pc' := 39) rfl (hb hby d1_26) rfl (teq (rfl : (2 : Int32) = (2 : Int32))).1 (by decide) (by decide) k) ?_
  refine Goes.step (S' := s₁.setTop (mkF m 40 #[.val (.ref u0), .val (.int (2 : Int32)), .unset, .unset, .unset, .unset] [(.int (2 : Int32))])) (fun _ k => XS.iloadN X0.here hx rfl (hb hby d1_39) rfl  k) ?_
  obtain ⟨_, _, ⟨T1, L1, k1, n1⟩, -, X1, ⟨Lc1, hQ1, l1, y1, z1⟩, st1⟩ := Jvm.LawKit.callS X0 hx (y := (⟨"com/example/isopod/isopod/RecordHeader", "headerLength", "(I)I"⟩ : MethodName)) hown (mvT hZ (hw _ (List.mem_of_getElem? (i := 6) rfl))) (mvT hZ (hw _ (List.mem_of_getElem? (i := 7) rfl))) (mvT hZ (hw _ (List.mem_of_getElem? (i := 4) rfl))) (mvT hZ (hw _ (List.mem_of_getElem? (i := 8) rfl))) (by decide) (backOf (W := 0) (rm2 l Z a0 hw [] (2 : Int32) h0 n0 Z0) hZ (hw _ (List.mem_of_getElem? (i := 8) rfl)) (hw _ (List.mem_of_getElem? (i := 4) rfl)) (by decide) (by decide)) (g := (mkF m 40 #[.val (.ref u0), .val (.int (2 : Int32)), .unset, .unset, .unset, .unset] [(.int (2 : Int32))])) rfl (by rw [hml]; rfl) (argsL := [(.int (2 : Int32))]) (rest := []) (lenOf pd0 rfl) rfl (by show 2 * 0 + _ ≤ _; exact Nat.le_of_eq rfl) (hb hby d1_40) (fun _ _ => ⟨rfl, e0, (by decide : 0 + 0 ≤ _), (by decide : 0 + 0 ≤ _)⟩)
  dsimp only [Pt.U, Pt.locs, Pt.cells, Pt.slots] at X1 l1 y1 z1 st1 hQ1
  replace X1 := X1.more (Nat.le_of_eq (y1 : k1 = 0)) (Nat.le_of_eq (z1 : n1 = 0))
  obtain ⟨rfl, N1q, e1⟩ := hQ1
  have N2 := own_frapp l1 N0 N1q
  refine Goes.step (S' := T1.setTop (mkF m 43 #[.val (.ref u0), .val (.int (2 : Int32)), .unset, .unset, .unset, .unset] [(.int (f2 (2 : Int32)))])) st1 ?_
  refine Goes.step (S' := T1.setTop (mkF m 44 #[.val (.ref u0), .val (.int (2 : Int32)), .val (.int (f2 (2 : Int32))), .unset, .unset, .unset] [])) (fun _ k => XS.istoreN X1.here hx rfl (hb hby d1_43) rfl (l' := #[.val (.ref u0), .val (.int (2 : Int32)), .val (.int (f2 (2 : Int32))), .unset, .unset, .unset]) rfl k) ?_
  obtain ⟨v2_44, ev2_44⟩ : ∃ z : Int32, z = (f2 (2 : Int32)) := ⟨_, rfl⟩
  rw [← ev2_44]
  have hcase := (own_case1b_44 n_u0 vs_u0 hl_u0 hn_u0 gen hv0 hn hn2 hgen hg0 v2_44 ev2_44)
  rcases hcase with rfl
  · refine Goes.step (S' := T1.setTop (mkF m 45 #[.val (.ref u0), .val (.int (2 : Int32)), .val (.int (17 : Int32)), .unset, .unset, .unset] [(.ref u0)])) (fun _ k => XS.aloadN X1.here hx rfl (hb hby d1_44) rfl rfl k) ?_
    refine Goes.step (S' := T1.setTop (mkF m 46 #[.val (.ref u0), .val (.int (2 : Int32)), .val (.int (17 : Int32)), .unset, .unset, .unset] [(.int n_u0)])) (fun _ k => own_len X1 hx hZ e1 V_u0 (hb hby d1_45) _ k) ?_
    refine Goes.step (S' := T1.setTop (mkF m 47 #[.val (.ref u0), .val (.int (2 : Int32)), .val (.int (17 : Int32)), .unset, .unset, .unset] [(.int (17 : Int32)), (.int n_u0)])) (fun _ k => XS.iloadN X1.here hx rfl (hb hby d1_46) rfl  k) ?_
    refine Goes.step (S' := T1.setTop (mkF m 49 #[.val (.ref u0), .val (.int (2 : Int32)), .val (.int (17 : Int32)), .unset, .unset, .unset] [(.int (16 : Int32)), (.int (17 : Int32)), (.int n_u0)])) (fun _ k => XS.bipush X1.here hx rfl (hb hby d1_47) k) ?_
    refine Goes.step (S' := T1.setTop (mkF m 50 #[.val (.ref u0), .val (.int (2 : Int32)), .val (.int (17 : Int32)), .unset, .unset, .unset] [(.int (33 : Int32)), (.int n_u0)])) (fun _ k => XS.iadd X1.here hx rfl (hb hby d1_49) rfl k) ?_
    refine Goes.step (S' := T1.setTop (mkF m 73 #[.val (.ref u0), .val (.int (2 : Int32)), .val (.int (17 : Int32)), .unset, .unset, .unset] [])) (fun _ k => XS.icmpYes X1.here hx rfl (pc0 := 50) (pc' := 73) rfl (hb hby d1_50) rfl (flt (own_hc1b_50 n_u0 vs_u0 hl_u0 hn_u0 gen hv0 hn hn2 hgen hg0 ev2_44)).2.1 (by decide) (by decide) k) ?_
    refine Goes.step (S' := T1.setTop (mkF m 74 #[.val (.ref u0), .val (.int (2 : Int32)), .val (.int (17 : Int32)), .unset, .unset, .unset] [(.ref u0)])) (fun _ k => XS.aloadN X1.here hx rfl (hb hby d1_73) rfl rfl k) ?_
    refine Goes.step (S' := T1.setTop (mkF m 75 #[.val (.ref u0), .val (.int (2 : Int32)), .val (.int (17 : Int32)), .unset, .unset, .unset] [(.int n_u0)])) (fun _ k => own_len X1 hx hZ e1 V_u0 (hb hby d1_74) _ k) ?_
    refine Goes.step (S' := T1.setTop (mkF m 76 #[.val (.ref u0), .val (.int (2 : Int32)), .val (.int (17 : Int32)), .unset, .unset, .unset] [(.int (17 : Int32)), (.int n_u0)])) (fun _ k => XS.iloadN X1.here hx rfl (hb hby d1_75) rfl  k) ?_
    refine Goes.step (S' := T1.setTop (mkF m 77 #[.val (.ref u0), .val (.int (2 : Int32)), .val (.int (17 : Int32)), .unset, .unset, .unset] [(.int (n_u0 - (17 : Int32)))])) (fun _ k => XS.isub X1.here hx rfl (hb hby d1_76) rfl k) ?_
    refine Goes.step (S' := T1.setTop (mkF m 79 #[.val (.ref u0), .val (.int (2 : Int32)), .val (.int (17 : Int32)), .unset, .unset, .unset] [(.int (16 : Int32)), (.int (n_u0 - (17 : Int32)))])) (fun _ k => XS.bipush X1.here hx rfl (hb hby d1_77) k) ?_
    refine Goes.step (S' := T1.setTop (mkF m 80 #[.val (.ref u0), .val (.int (2 : Int32)), .val (.int (17 : Int32)), .unset, .unset, .unset] [(.int ((n_u0 - (17 : Int32)) - (16 : Int32)))])) (fun _ k => XS.isub X1.here hx rfl (hb hby d1_79) rfl k) ?_
    refine Goes.step (S' := T1.setTop (mkF m 82 #[.val (.ref u0), .val (.int (2 : Int32)), .val (.int (17 : Int32)), .unset, .unset, .unset] [(.int (67108864 : Int32)), (.int ((n_u0 - (17 : Int32)) - (16 : Int32)))])) (fun _ k => X1.ldcInt hx hown (mvT hZ (hw _ (List.mem_of_getElem? (i := 9) rfl))) (g := (mkF m 80 #[.val (.ref u0), .val (.int (2 : Int32)), .val (.int (17 : Int32)), .unset, .unset, .unset] [(.int ((n_u0 - (17 : Int32)) - (16 : Int32)))])) rfl (hb hby d1_80) _ k) ?_
    refine Goes.step (S' := T1.setTop (mkF m 100 #[.val (.ref u0), .val (.int (2 : Int32)), .val (.int (17 : Int32)), .unset, .unset, .unset] [])) (fun _ k => XS.icmpYes X1.here hx rfl (pc0 := 82) (pc' := 100) rfl (hb hby d1_82) rfl (flt (own_hc1b_82 n_u0 vs_u0 hl_u0 hn_u0 gen hv0 hn hn2 hgen hg0 ev2_44)).2.2.2 (by decide) (by decide) k) ?_
    refine Goes.step (S' := T1.setTop (mkF m 101 #[.val (.ref u0), .val (.int (2 : Int32)), .val (.int (17 : Int32)), .unset, .unset, .unset] [(.long (0 : Int64))])) (fun _ k => XS.lconst X1.here hx rfl (hb hby d1_100) k) ?_
    refine Goes.step (S' := T1.setTop (mkF m 102 #[.val (.ref u0), .val (.int (2 : Int32)), .val (.int (17 : Int32)), .val (.long (0 : Int64)), .second, .unset] [])) (fun _ k => XS.lstoreN X1.here hx rfl (hb hby d1_101) rfl (l' := #[.val (.ref u0), .val (.int (2 : Int32)), .val (.int (17 : Int32)), .val (.long (0 : Int64)), .second, .unset]) rfl k) ?_
    refine Goes.step (S' := T1.setTop (mkF m 103 #[.val (.ref u0), .val (.int (2 : Int32)), .val (.int (17 : Int32)), .val (.long (0 : Int64)), .second, .unset] [(.int (2 : Int32))])) (fun _ k => XS.iloadN X1.here hx rfl (hb hby d1_102) rfl  k) ?_
    refine Goes.step (S' := T1.setTop (mkF m 104 #[.val (.ref u0), .val (.int (2 : Int32)), .val (.int (17 : Int32)), .val (.long (0 : Int64)), .second, .unset] [(.int (2 : Int32)), (.int (2 : Int32))])) (fun _ k => XS.iconst X1.here hx rfl (hb hby d1_103) k) ?_
    refine Goes.step (S' := T1.setTop (mkF m 107 #[.val (.ref u0), .val (.int (2 : Int32)), .val (.int (17 : Int32)), .val (.long (0 : Int64)), .second, .unset] [])) (fun _ k => XS.icmpNo X1.here hx rfl (hb hby d1_104) rfl (teq (rfl : (2 : Int32) = (2 : Int32))).2 k) ?_
    refine Goes.step (S' := T1.setTop (mkF m 108 #[.val (.ref u0), .val (.int (2 : Int32)), .val (.int (17 : Int32)), .val (.long (0 : Int64)), .second, .unset] [(.int (1 : Int32))])) (fun _ k => XS.iconst X1.here hx rfl (hb hby d1_107) k) ?_
    refine Goes.step (S' := T1.setTop (mkF m 110 #[.val (.ref u0), .val (.int (2 : Int32)), .val (.int (17 : Int32)), .val (.long (0 : Int64)), .second, .val (.int (1 : Int32))] [])) (fun _ k => XS.istore X1.here hx rfl (hb hby d1_108) rfl (l' := #[.val (.ref u0), .val (.int (2 : Int32)), .val (.int (17 : Int32)), .val (.long (0 : Int64)), .second, .val (.int (1 : Int32))]) rfl k) ?_
    refine Goes.step (S' := T1.setTop (mkF m 112 #[.val (.ref u0), .val (.int (2 : Int32)), .val (.int (17 : Int32)), .val (.long (0 : Int64)), .second, .val (.int (1 : Int32))] [(.int (1 : Int32))])) (fun _ k => XS.iload X1.here hx rfl (hb hby d1_110) rfl  k) ?_
    refine Goes.step (S' := T1.setTop (mkF m 113 #[.val (.ref u0), .val (.int (2 : Int32)), .val (.int (17 : Int32)), .val (.long (0 : Int64)), .second, .val (.int (1 : Int32))] [(.int (4 : Int32)), (.int (1 : Int32))])) (fun _ k => XS.iconst X1.here hx rfl (hb hby d1_112) k) ?_
    refine Goes.step (S' := T1.setTop (mkF m 116 #[.val (.ref u0), .val (.int (2 : Int32)), .val (.int (17 : Int32)), .val (.long (0 : Int64)), .second, .val (.int (1 : Int32))] [])) (fun _ k => XS.icmpNo X1.here hx rfl (hb hby d1_113) rfl (flt (by decide)).2.2.1 k) ?_
    refine Goes.step (S' := T1.setTop (mkF m 117 #[.val (.ref u0), .val (.int (2 : Int32)), .val (.int (17 : Int32)), .val (.long (0 : Int64)), .second, .val (.int (1 : Int32))] [(.long (0 : Int64))])) (fun _ k => XS.lloadN X1.here hx rfl (hb hby d1_116) rfl  k) ?_
    refine Goes.step (S' := T1.setTop (mkF m 119 #[.val (.ref u0), .val (.int (2 : Int32)), .val (.int (17 : Int32)), .val (.long (0 : Int64)), .second, .val (.int (1 : Int32))] [(.int (8 : Int32)), (.long (0 : Int64))])) (fun _ k => XS.bipush X1.here hx rfl (hb hby d1_117) k) ?_
    refine Goes.step (S' := T1.setTop (mkF m 120 #[.val (.ref u0), .val (.int (2 : Int32)), .val (.int (17 : Int32)), .val (.long (0 : Int64)), .second, .val (.int (1 : Int32))] [(.long ((0 : Int64) <<< ((8 : Int32) &&& 0x3f).toInt64))])) (fun _ k => XS.lshl X1.here hx rfl (hb hby d1_119) rfl k) ?_
    refine Goes.step (S' := T1.setTop (mkF m 121 #[.val (.ref u0), .val (.int (2 : Int32)), .val (.int (17 : Int32)), .val (.long (0 : Int64)), .second, .val (.int (1 : Int32))] [(.ref u0), (.long ((0 : Int64) <<< ((8 : Int32) &&& 0x3f).toInt64))])) (fun _ k => XS.aloadN X1.here hx rfl (hb hby d1_120) rfl rfl k) ?_
    refine Goes.step (S' := T1.setTop (mkF m 123 #[.val (.ref u0), .val (.int (2 : Int32)), .val (.int (17 : Int32)), .val (.long (0 : Int64)), .second, .val (.int (1 : Int32))] [(.int (1 : Int32)), (.ref u0), (.long ((0 : Int64) <<< ((8 : Int32) &&& 0x3f).toInt64))])) (fun _ k => XS.iload X1.here hx rfl (hb hby d1_121) rfl  k) ?_
    refine Goes.step (S' := T1.setTop (mkF m 124 #[.val (.ref u0), .val (.int (2 : Int32)), .val (.int (17 : Int32)), .val (.long (0 : Int64)), .second, .val (.int (1 : Int32))] [(.int (vs_u0.getD ((1 : Int32)).toNatClampNeg 0)), (.long ((0 : Int64) <<< ((8 : Int32) &&& 0x3f).toInt64))])) (fun _ k => own_baload X1 hx hZ e1 V_u0 (own_ix1b_123 n_u0 vs_u0 hl_u0 hn_u0 gen hv0 hn hn2 hgen hg0 ev2_44) (hb hby d1_123) _ k) ?_
    refine Goes.step (S' := T1.setTop (mkF m 127 #[.val (.ref u0), .val (.int (2 : Int32)), .val (.int (17 : Int32)), .val (.long (0 : Int64)), .second, .val (.int (1 : Int32))] [(.int (255 : Int32)), (.int (vs_u0.getD ((1 : Int32)).toNatClampNeg 0)), (.long ((0 : Int64) <<< ((8 : Int32) &&& 0x3f).toInt64))])) (fun _ k => XS.sipush X1.here hx rfl (hb hby d1_124) k) ?_
    refine Goes.step (S' := T1.setTop (mkF m 128 #[.val (.ref u0), .val (.int (2 : Int32)), .val (.int (17 : Int32)), .val (.long (0 : Int64)), .second, .val (.int (1 : Int32))] [(.int ((vs_u0.getD ((1 : Int32)).toNatClampNeg 0) &&& (255 : Int32))), (.long ((0 : Int64) <<< ((8 : Int32) &&& 0x3f).toInt64))])) (fun _ k => XS.iand X1.here hx rfl (hb hby d1_127) rfl k) ?_
    refine Goes.step (S' := T1.setTop (mkF m 129 #[.val (.ref u0), .val (.int (2 : Int32)), .val (.int (17 : Int32)), .val (.long (0 : Int64)), .second, .val (.int (1 : Int32))] [(.long (((vs_u0.getD ((1 : Int32)).toNatClampNeg 0) &&& (255 : Int32)).toInt64)), (.long ((0 : Int64) <<< ((8 : Int32) &&& 0x3f).toInt64))])) (fun _ k => XS.i2l X1.here hx rfl (hb hby d1_128) rfl k) ?_
    refine Goes.step (S' := T1.setTop (mkF m 130 #[.val (.ref u0), .val (.int (2 : Int32)), .val (.int (17 : Int32)), .val (.long (0 : Int64)), .second, .val (.int (1 : Int32))] [(.long (((0 : Int64) <<< ((8 : Int32) &&& 0x3f).toInt64) ||| (((vs_u0.getD ((1 : Int32)).toNatClampNeg 0) &&& (255 : Int32)).toInt64)))])) (fun _ k => XS.lor X1.here hx rfl (hb hby d1_129) rfl k) ?_
    refine Goes.step (S' := T1.setTop (mkF m 131 #[.val (.ref u0), .val (.int (2 : Int32)), .val (.int (17 : Int32)), .val (.long (((0 : Int64) <<< ((8 : Int32) &&& 0x3f).toInt64) ||| (((vs_u0.getD ((1 : Int32)).toNatClampNeg 0) &&& (255 : Int32)).toInt64))), .second, .val (.int (1 : Int32))] [])) (fun _ k => XS.lstoreN X1.here hx rfl (hb hby d1_130) rfl (l' := #[.val (.ref u0), .val (.int (2 : Int32)), .val (.int (17 : Int32)), .val (.long (((0 : Int64) <<< ((8 : Int32) &&& 0x3f).toInt64) ||| (((vs_u0.getD ((1 : Int32)).toNatClampNeg 0) &&& (255 : Int32)).toInt64))), .second, .val (.int (1 : Int32))]) rfl k) ?_
    refine Goes.step (S' := T1.setTop (mkF m 134 #[.val (.ref u0), .val (.int (2 : Int32)), .val (.int (17 : Int32)), .val (.long (((0 : Int64) <<< ((8 : Int32) &&& 0x3f).toInt64) ||| (((vs_u0.getD ((1 : Int32)).toNatClampNeg 0) &&& (255 : Int32)).toInt64))), .second, .val (.int (2 : Int32))] [])) (fun _ k => XS.iinc X1.here hx rfl (hb hby d1_131) rfl (l' := #[.val (.ref u0), .val (.int (2 : Int32)), .val (.int (17 : Int32)), .val (.long (((0 : Int64) <<< ((8 : Int32) &&& 0x3f).toInt64) ||| (((vs_u0.getD ((1 : Int32)).toNatClampNeg 0) &&& (255 : Int32)).toInt64))), .second, .val (.int (2 : Int32))]) rfl k) ?_
    refine Goes.step (S' := T1.setTop (mkF m 110 #[.val (.ref u0), .val (.int (2 : Int32)), .val (.int (17 : Int32)), .val (.long (((0 : Int64) <<< ((8 : Int32) &&& 0x3f).toInt64) ||| (((vs_u0.getD ((1 : Int32)).toNatClampNeg 0) &&& (255 : Int32)).toInt64))), .second, .val (.int (2 : Int32))] [])) (fun _ k => XS.goto X1.here hx rfl (pc0 := 134) (pc' := 110) rfl (hb hby d1_134) (by decide) (by decide) k) ?_
    refine Goes.step (S' := T1.setTop (mkF m 112 #[.val (.ref u0), .val (.int (2 : Int32)), .val (.int (17 : Int32)), .val (.long (((0 : Int64) <<< ((8 : Int32) &&& 0x3f).toInt64) ||| (((vs_u0.getD ((1 : Int32)).toNatClampNeg 0) &&& (255 : Int32)).toInt64))), .second, .val (.int (2 : Int32))] [(.int (2 : Int32))])) (fun _ k => XS.iload X1.here hx rfl (hb hby d1_110) rfl  k) ?_
    refine Goes.step (S' := T1.setTop (mkF m 113 #[.val (.ref u0), .val (.int (2 : Int32)), .val (.int (17 : Int32)), .val (.long (((0 : Int64) <<< ((8 : Int32) &&& 0x3f).toInt64) ||| (((vs_u0.getD ((1 : Int32)).toNatClampNeg 0) &&& (255 : Int32)).toInt64))), .second, .val (.int (2 : Int32))] [(.int (4 : Int32)), (.int (2 : Int32))])) (fun _ k => XS.iconst X1.here hx rfl (hb hby d1_112) k) ?_
    refine Goes.step (S' := T1.setTop (mkF m 116 #[.val (.ref u0), .val (.int (2 : Int32)), .val (.int (17 : Int32)), .val (.long (((0 : Int64) <<< ((8 : Int32) &&& 0x3f).toInt64) ||| (((vs_u0.getD ((1 : Int32)).toNatClampNeg 0) &&& (255 : Int32)).toInt64))), .second, .val (.int (2 : Int32))] [])) (fun _ k => XS.icmpNo X1.here hx rfl (hb hby d1_113) rfl (flt (by decide)).2.2.1 k) ?_
    refine Goes.step (S' := T1.setTop (mkF m 117 #[.val (.ref u0), .val (.int (2 : Int32)), .val (.int (17 : Int32)), .val (.long (((0 : Int64) <<< ((8 : Int32) &&& 0x3f).toInt64) ||| (((vs_u0.getD ((1 : Int32)).toNatClampNeg 0) &&& (255 : Int32)).toInt64))), .second, .val (.int (2 : Int32))] [(.long (((0 : Int64) <<< ((8 : Int32) &&& 0x3f).toInt64) ||| (((vs_u0.getD ((1 : Int32)).toNatClampNeg 0) &&& (255 : Int32)).toInt64)))])) (fun _ k => XS.lloadN X1.here hx rfl (hb hby d1_116) rfl  k) ?_
    refine Goes.step (S' := T1.setTop (mkF m 119 #[.val (.ref u0), .val (.int (2 : Int32)), .val (.int (17 : Int32)), .val (.long (((0 : Int64) <<< ((8 : Int32) &&& 0x3f).toInt64) ||| (((vs_u0.getD ((1 : Int32)).toNatClampNeg 0) &&& (255 : Int32)).toInt64))), .second, .val (.int (2 : Int32))] [(.int (8 : Int32)), (.long (((0 : Int64) <<< ((8 : Int32) &&& 0x3f).toInt64) ||| (((vs_u0.getD ((1 : Int32)).toNatClampNeg 0) &&& (255 : Int32)).toInt64)))])) (fun _ k => XS.bipush X1.here hx rfl (hb hby d1_117) k) ?_
    refine Goes.step (S' := T1.setTop (mkF m 120 #[.val (.ref u0), .val (.int (2 : Int32)), .val (.int (17 : Int32)), .val (.long (((0 : Int64) <<< ((8 : Int32) &&& 0x3f).toInt64) ||| (((vs_u0.getD ((1 : Int32)).toNatClampNeg 0) &&& (255 : Int32)).toInt64))), .second, .val (.int (2 : Int32))] [(.long ((((0 : Int64) <<< ((8 : Int32) &&& 0x3f).toInt64) ||| (((vs_u0.getD ((1 : Int32)).toNatClampNeg 0) &&& (255 : Int32)).toInt64)) <<< ((8 : Int32) &&& 0x3f).toInt64))])) (fun _ k => XS.lshl X1.here hx rfl (hb hby d1_119) rfl k) ?_
    refine Goes.step (S' := T1.setTop (mkF m 121 #[.val (.ref u0), .val (.int (2 : Int32)), .val (.int (17 : Int32)), .val (.long (((0 : Int64) <<< ((8 : Int32) &&& 0x3f).toInt64) ||| (((vs_u0.getD ((1 : Int32)).toNatClampNeg 0) &&& (255 : Int32)).toInt64))), .second, .val (.int (2 : Int32))] [(.ref u0), (.long ((((0 : Int64) <<< ((8 : Int32) &&& 0x3f).toInt64) ||| (((vs_u0.getD ((1 : Int32)).toNatClampNeg 0) &&& (255 : Int32)).toInt64)) <<< ((8 : Int32) &&& 0x3f).toInt64))])) (fun _ k => XS.aloadN X1.here hx rfl (hb hby d1_120) rfl rfl k) ?_
    refine Goes.step (S' := T1.setTop (mkF m 123 #[.val (.ref u0), .val (.int (2 : Int32)), .val (.int (17 : Int32)), .val (.long (((0 : Int64) <<< ((8 : Int32) &&& 0x3f).toInt64) ||| (((vs_u0.getD ((1 : Int32)).toNatClampNeg 0) &&& (255 : Int32)).toInt64))), .second, .val (.int (2 : Int32))] [(.int (2 : Int32)), (.ref u0), (.long ((((0 : Int64) <<< ((8 : Int32) &&& 0x3f).toInt64) ||| (((vs_u0.getD ((1 : Int32)).toNatClampNeg 0) &&& (255 : Int32)).toInt64)) <<< ((8 : Int32) &&& 0x3f).toInt64))])) (fun _ k => XS.iload X1.here hx rfl (hb hby d1_121) rfl  k) ?_
    refine Goes.step (S' := T1.setTop (mkF m 124 #[.val (.ref u0), .val (.int (2 : Int32)), .val (.int (17 : Int32)), .val (.long (((0 : Int64) <<< ((8 : Int32) &&& 0x3f).toInt64) ||| (((vs_u0.getD ((1 : Int32)).toNatClampNeg 0) &&& (255 : Int32)).toInt64))), .second, .val (.int (2 : Int32))] [(.int (vs_u0.getD ((2 : Int32)).toNatClampNeg 0)), (.long ((((0 : Int64) <<< ((8 : Int32) &&& 0x3f).toInt64) ||| (((vs_u0.getD ((1 : Int32)).toNatClampNeg 0) &&& (255 : Int32)).toInt64)) <<< ((8 : Int32) &&& 0x3f).toInt64))])) (fun _ k => own_baload X1 hx hZ e1 V_u0 (own_ix1b_123_2 n_u0 vs_u0 hl_u0 hn_u0 gen hv0 hn hn2 hgen hg0 ev2_44) (hb hby d1_123) _ k) ?_
    refine Goes.step (S' := T1.setTop (mkF m 127 #[.val (.ref u0), .val (.int (2 : Int32)), .val (.int (17 : Int32)), .val (.long (((0 : Int64) <<< ((8 : Int32) &&& 0x3f).toInt64) ||| (((vs_u0.getD ((1 : Int32)).toNatClampNeg 0) &&& (255 : Int32)).toInt64))), .second, .val (.int (2 : Int32))] [(.int (255 : Int32)), (.int (vs_u0.getD ((2 : Int32)).toNatClampNeg 0)), (.long ((((0 : Int64) <<< ((8 : Int32) &&& 0x3f).toInt64) ||| (((vs_u0.getD ((1 : Int32)).toNatClampNeg 0) &&& (255 : Int32)).toInt64)) <<< ((8 : Int32) &&& 0x3f).toInt64))])) (fun _ k => XS.sipush X1.here hx rfl (hb hby d1_124) k) ?_
    refine Goes.step (S' := T1.setTop (mkF m 128 #[.val (.ref u0), .val (.int (2 : Int32)), .val (.int (17 : Int32)), .val (.long (((0 : Int64) <<< ((8 : Int32) &&& 0x3f).toInt64) ||| (((vs_u0.getD ((1 : Int32)).toNatClampNeg 0) &&& (255 : Int32)).toInt64))), .second, .val (.int (2 : Int32))] [(.int ((vs_u0.getD ((2 : Int32)).toNatClampNeg 0) &&& (255 : Int32))), (.long ((((0 : Int64) <<< ((8 : Int32) &&& 0x3f).toInt64) ||| (((vs_u0.getD ((1 : Int32)).toNatClampNeg 0) &&& (255 : Int32)).toInt64)) <<< ((8 : Int32) &&& 0x3f).toInt64))])) (fun _ k => XS.iand X1.here hx rfl (hb hby d1_127) rfl k) ?_
    refine Goes.step (S' := T1.setTop (mkF m 129 #[.val (.ref u0), .val (.int (2 : Int32)), .val (.int (17 : Int32)), .val (.long (((0 : Int64) <<< ((8 : Int32) &&& 0x3f).toInt64) ||| (((vs_u0.getD ((1 : Int32)).toNatClampNeg 0) &&& (255 : Int32)).toInt64))), .second, .val (.int (2 : Int32))] [(.long (((vs_u0.getD ((2 : Int32)).toNatClampNeg 0) &&& (255 : Int32)).toInt64)), (.long ((((0 : Int64) <<< ((8 : Int32) &&& 0x3f).toInt64) ||| (((vs_u0.getD ((1 : Int32)).toNatClampNeg 0) &&& (255 : Int32)).toInt64)) <<< ((8 : Int32) &&& 0x3f).toInt64))])) (fun _ k => XS.i2l X1.here hx rfl (hb hby d1_128) rfl k) ?_
    refine Goes.step (S' := T1.setTop (mkF m 130 #[.val (.ref u0), .val (.int (2 : Int32)), .val (.int (17 : Int32)), .val (.long (((0 : Int64) <<< ((8 : Int32) &&& 0x3f).toInt64) ||| (((vs_u0.getD ((1 : Int32)).toNatClampNeg 0) &&& (255 : Int32)).toInt64))), .second, .val (.int (2 : Int32))] [(.long (((((0 : Int64) <<< ((8 : Int32) &&& 0x3f).toInt64) ||| (((vs_u0.getD ((1 : Int32)).toNatClampNeg 0) &&& (255 : Int32)).toInt64)) <<< ((8 : Int32) &&& 0x3f).toInt64) ||| (((vs_u0.getD ((2 : Int32)).toNatClampNeg 0) &&& (255 : Int32)).toInt64)))])) (fun _ k => XS.lor X1.here hx rfl (hb hby d1_129) rfl k) ?_
    refine Goes.step (S' := T1.setTop (mkF m 131 #[.val (.ref u0), .val (.int (2 : Int32)), .val (.int (17 : Int32)), .val (.long (((((0 : Int64) <<< ((8 : Int32) &&& 0x3f).toInt64) ||| (((vs_u0.getD ((1 : Int32)).toNatClampNeg 0) &&& (255 : Int32)).toInt64)) <<< ((8 : Int32) &&& 0x3f).toInt64) ||| (((vs_u0.getD ((2 : Int32)).toNatClampNeg 0) &&& (255 : Int32)).toInt64))), .second, .val (.int (2 : Int32))] [])) (fun _ k => XS.lstoreN X1.here hx rfl (hb hby d1_130) rfl (l' := #[.val (.ref u0), .val (.int (2 : Int32)), .val (.int (17 : Int32)), .val (.long (((((0 : Int64) <<< ((8 : Int32) &&& 0x3f).toInt64) ||| (((vs_u0.getD ((1 : Int32)).toNatClampNeg 0) &&& (255 : Int32)).toInt64)) <<< ((8 : Int32) &&& 0x3f).toInt64) ||| (((vs_u0.getD ((2 : Int32)).toNatClampNeg 0) &&& (255 : Int32)).toInt64))), .second, .val (.int (2 : Int32))]) rfl k) ?_
    refine Goes.step (S' := T1.setTop (mkF m 134 #[.val (.ref u0), .val (.int (2 : Int32)), .val (.int (17 : Int32)), .val (.long (((((0 : Int64) <<< ((8 : Int32) &&& 0x3f).toInt64) ||| (((vs_u0.getD ((1 : Int32)).toNatClampNeg 0) &&& (255 : Int32)).toInt64)) <<< ((8 : Int32) &&& 0x3f).toInt64) ||| (((vs_u0.getD ((2 : Int32)).toNatClampNeg 0) &&& (255 : Int32)).toInt64))), .second, .val (.int (3 : Int32))] [])) (fun _ k => XS.iinc X1.here hx rfl (hb hby d1_131) rfl (l' := #[.val (.ref u0), .val (.int (2 : Int32)), .val (.int (17 : Int32)), .val (.long (((((0 : Int64) <<< ((8 : Int32) &&& 0x3f).toInt64) ||| (((vs_u0.getD ((1 : Int32)).toNatClampNeg 0) &&& (255 : Int32)).toInt64)) <<< ((8 : Int32) &&& 0x3f).toInt64) ||| (((vs_u0.getD ((2 : Int32)).toNatClampNeg 0) &&& (255 : Int32)).toInt64))), .second, .val (.int (3 : Int32))]) rfl k) ?_
    refine Goes.step (S' := T1.setTop (mkF m 110 #[.val (.ref u0), .val (.int (2 : Int32)), .val (.int (17 : Int32)), .val (.long (((((0 : Int64) <<< ((8 : Int32) &&& 0x3f).toInt64) ||| (((vs_u0.getD ((1 : Int32)).toNatClampNeg 0) &&& (255 : Int32)).toInt64)) <<< ((8 : Int32) &&& 0x3f).toInt64) ||| (((vs_u0.getD ((2 : Int32)).toNatClampNeg 0) &&& (255 : Int32)).toInt64))), .second, .val (.int (3 : Int32))] [])) (fun _ k => XS.goto X1.here hx rfl (pc0 := 134) (pc' := 110) rfl (hb hby d1_134) (by decide) (by decide) k) ?_
    refine Goes.step (S' := T1.setTop (mkF m 112 #[.val (.ref u0), .val (.int (2 : Int32)), .val (.int (17 : Int32)), .val (.long (((((0 : Int64) <<< ((8 : Int32) &&& 0x3f).toInt64) ||| (((vs_u0.getD ((1 : Int32)).toNatClampNeg 0) &&& (255 : Int32)).toInt64)) <<< ((8 : Int32) &&& 0x3f).toInt64) ||| (((vs_u0.getD ((2 : Int32)).toNatClampNeg 0) &&& (255 : Int32)).toInt64))), .second, .val (.int (3 : Int32))] [(.int (3 : Int32))])) (fun _ k => XS.iload X1.here hx rfl (hb hby d1_110) rfl  k) ?_
    refine Goes.step (S' := T1.setTop (mkF m 113 #[.val (.ref u0), .val (.int (2 : Int32)), .val (.int (17 : Int32)), .val (.long (((((0 : Int64) <<< ((8 : Int32) &&& 0x3f).toInt64) ||| (((vs_u0.getD ((1 : Int32)).toNatClampNeg 0) &&& (255 : Int32)).toInt64)) <<< ((8 : Int32) &&& 0x3f).toInt64) ||| (((vs_u0.getD ((2 : Int32)).toNatClampNeg 0) &&& (255 : Int32)).toInt64))), .second, .val (.int (3 : Int32))] [(.int (4 : Int32)), (.int (3 : Int32))])) (fun _ k => XS.iconst X1.here hx rfl (hb hby d1_112) k) ?_
    refine Goes.step (S' := T1.setTop (mkF m 116 #[.val (.ref u0), .val (.int (2 : Int32)), .val (.int (17 : Int32)), .val (.long (((((0 : Int64) <<< ((8 : Int32) &&& 0x3f).toInt64) ||| (((vs_u0.getD ((1 : Int32)).toNatClampNeg 0) &&& (255 : Int32)).toInt64)) <<< ((8 : Int32) &&& 0x3f).toInt64) ||| (((vs_u0.getD ((2 : Int32)).toNatClampNeg 0) &&& (255 : Int32)).toInt64))), .second, .val (.int (3 : Int32))] [])) (fun _ k => XS.icmpNo X1.here hx rfl (hb hby d1_113) rfl (flt (by decide)).2.2.1 k) ?_
    refine Goes.step (S' := T1.setTop (mkF m 117 #[.val (.ref u0), .val (.int (2 : Int32)), .val (.int (17 : Int32)), .val (.long (((((0 : Int64) <<< ((8 : Int32) &&& 0x3f).toInt64) ||| (((vs_u0.getD ((1 : Int32)).toNatClampNeg 0) &&& (255 : Int32)).toInt64)) <<< ((8 : Int32) &&& 0x3f).toInt64) ||| (((vs_u0.getD ((2 : Int32)).toNatClampNeg 0) &&& (255 : Int32)).toInt64))), .second, .val (.int (3 : Int32))] [(.long (((((0 : Int64) <<< ((8 : Int32) &&& 0x3f).toInt64) ||| (((vs_u0.getD ((1 : Int32)).toNatClampNeg 0) &&& (255 : Int32)).toInt64)) <<< ((8 : Int32) &&& 0x3f).toInt64) ||| (((vs_u0.getD ((2 : Int32)).toNatClampNeg 0) &&& (255 : Int32)).toInt64)))])) (fun _ k => XS.lloadN X1.here hx rfl (hb hby d1_116) rfl  k) ?_
    refine Goes.step (S' := T1.setTop (mkF m 119 #[.val (.ref u0), .val (.int (2 : Int32)), .val (.int (17 : Int32)), .val (.long (((((0 : Int64) <<< ((8 : Int32) &&& 0x3f).toInt64) ||| (((vs_u0.getD ((1 : Int32)).toNatClampNeg 0) &&& (255 : Int32)).toInt64)) <<< ((8 : Int32) &&& 0x3f).toInt64) ||| (((vs_u0.getD ((2 : Int32)).toNatClampNeg 0) &&& (255 : Int32)).toInt64))), .second, .val (.int (3 : Int32))] [(.int (8 : Int32)), (.long (((((0 : Int64) <<< ((8 : Int32) &&& 0x3f).toInt64) ||| (((vs_u0.getD ((1 : Int32)).toNatClampNeg 0) &&& (255 : Int32)).toInt64)) <<< ((8 : Int32) &&& 0x3f).toInt64) ||| (((vs_u0.getD ((2 : Int32)).toNatClampNeg 0) &&& (255 : Int32)).toInt64)))])) (fun _ k => XS.bipush X1.here hx rfl (hb hby d1_117) k) ?_
    refine Goes.step (S' := T1.setTop (mkF m 120 #[.val (.ref u0), .val (.int (2 : Int32)), .val (.int (17 : Int32)), .val (.long (((((0 : Int64) <<< ((8 : Int32) &&& 0x3f).toInt64) ||| (((vs_u0.getD ((1 : Int32)).toNatClampNeg 0) &&& (255 : Int32)).toInt64)) <<< ((8 : Int32) &&& 0x3f).toInt64) ||| (((vs_u0.getD ((2 : Int32)).toNatClampNeg 0) &&& (255 : Int32)).toInt64))), .second, .val (.int (3 : Int32))] [(.long ((((((0 : Int64) <<< ((8 : Int32) &&& 0x3f).toInt64) ||| (((vs_u0.getD ((1 : Int32)).toNatClampNeg 0) &&& (255 : Int32)).toInt64)) <<< ((8 : Int32) &&& 0x3f).toInt64) ||| (((vs_u0.getD ((2 : Int32)).toNatClampNeg 0) &&& (255 : Int32)).toInt64)) <<< ((8 : Int32) &&& 0x3f).toInt64))])) (fun _ k => XS.lshl X1.here hx rfl (hb hby d1_119) rfl k) ?_
    refine Goes.step (S' := T1.setTop (mkF m 121 #[.val (.ref u0), .val (.int (2 : Int32)), .val (.int (17 : Int32)), .val (.long (((((0 : Int64) <<< ((8 : Int32) &&& 0x3f).toInt64) ||| (((vs_u0.getD ((1 : Int32)).toNatClampNeg 0) &&& (255 : Int32)).toInt64)) <<< ((8 : Int32) &&& 0x3f).toInt64) ||| (((vs_u0.getD ((2 : Int32)).toNatClampNeg 0) &&& (255 : Int32)).toInt64))), .second, .val (.int (3 : Int32))] [(.ref u0), (.long ((((((0 : Int64) <<< ((8 : Int32) &&& 0x3f).toInt64) ||| (((vs_u0.getD ((1 : Int32)).toNatClampNeg 0) &&& (255 : Int32)).toInt64)) <<< ((8 : Int32) &&& 0x3f).toInt64) ||| (((vs_u0.getD ((2 : Int32)).toNatClampNeg 0) &&& (255 : Int32)).toInt64)) <<< ((8 : Int32) &&& 0x3f).toInt64))])) (fun _ k => XS.aloadN X1.here hx rfl (hb hby d1_120) rfl rfl k) ?_
    refine Goes.step (S' := T1.setTop (mkF m 123 #[.val (.ref u0), .val (.int (2 : Int32)), .val (.int (17 : Int32)), .val (.long (((((0 : Int64) <<< ((8 : Int32) &&& 0x3f).toInt64) ||| (((vs_u0.getD ((1 : Int32)).toNatClampNeg 0) &&& (255 : Int32)).toInt64)) <<< ((8 : Int32) &&& 0x3f).toInt64) ||| (((vs_u0.getD ((2 : Int32)).toNatClampNeg 0) &&& (255 : Int32)).toInt64))), .second, .val (.int (3 : Int32))] [(.int (3 : Int32)), (.ref u0), (.long ((((((0 : Int64) <<< ((8 : Int32) &&& 0x3f).toInt64) ||| (((vs_u0.getD ((1 : Int32)).toNatClampNeg 0) &&& (255 : Int32)).toInt64)) <<< ((8 : Int32) &&& 0x3f).toInt64) ||| (((vs_u0.getD ((2 : Int32)).toNatClampNeg 0) &&& (255 : Int32)).toInt64)) <<< ((8 : Int32) &&& 0x3f).toInt64))])) (fun _ k => XS.iload X1.here hx rfl (hb hby d1_121) rfl  k) ?_
    refine Goes.step (S' := T1.setTop (mkF m 124 #[.val (.ref u0), .val (.int (2 : Int32)), .val (.int (17 : Int32)), .val (.long (((((0 : Int64) <<< ((8 : Int32) &&& 0x3f).toInt64) ||| (((vs_u0.getD ((1 : Int32)).toNatClampNeg 0) &&& (255 : Int32)).toInt64)) <<< ((8 : Int32) &&& 0x3f).toInt64) ||| (((vs_u0.getD ((2 : Int32)).toNatClampNeg 0) &&& (255 : Int32)).toInt64))), .second, .val (.int (3 : Int32))] [(.int (vs_u0.getD ((3 : Int32)).toNatClampNeg 0)), (.long ((((((0 : Int64) <<< ((8 : Int32) &&& 0x3f).toInt64) ||| (((vs_u0.getD ((1 : Int32)).toNatClampNeg 0) &&& (255 : Int32)).toInt64)) <<< ((8 : Int32) &&& 0x3f).toInt64) ||| (((vs_u0.getD ((2 : Int32)).toNatClampNeg 0) &&& (255 : Int32)).toInt64)) <<< ((8 : Int32) &&& 0x3f).toInt64))])) (fun _ k => own_baload X1 hx hZ e1 V_u0 (own_ix1b_123_3 n_u0 vs_u0 hl_u0 hn_u0 gen hv0 hn hn2 hgen hg0 ev2_44) (hb hby d1_123) _ k) ?_
    refine Goes.step (S' := T1.setTop (mkF m 127 #[.val (.ref u0), .val (.int (2 : Int32)), .val (.int (17 : Int32)), .val (.long (((((0 : Int64) <<< ((8 : Int32) &&& 0x3f).toInt64) ||| (((vs_u0.getD ((1 : Int32)).toNatClampNeg 0) &&& (255 : Int32)).toInt64)) <<< ((8 : Int32) &&& 0x3f).toInt64) ||| (((vs_u0.getD ((2 : Int32)).toNatClampNeg 0) &&& (255 : Int32)).toInt64))), .second, .val (.int (3 : Int32))] [(.int (255 : Int32)), (.int (vs_u0.getD ((3 : Int32)).toNatClampNeg 0)), (.long ((((((0 : Int64) <<< ((8 : Int32) &&& 0x3f).toInt64) ||| (((vs_u0.getD ((1 : Int32)).toNatClampNeg 0) &&& (255 : Int32)).toInt64)) <<< ((8 : Int32) &&& 0x3f).toInt64) ||| (((vs_u0.getD ((2 : Int32)).toNatClampNeg 0) &&& (255 : Int32)).toInt64)) <<< ((8 : Int32) &&& 0x3f).toInt64))])) (fun _ k => XS.sipush X1.here hx rfl (hb hby d1_124) k) ?_
    refine Goes.step (S' := T1.setTop (mkF m 128 #[.val (.ref u0), .val (.int (2 : Int32)), .val (.int (17 : Int32)), .val (.long (((((0 : Int64) <<< ((8 : Int32) &&& 0x3f).toInt64) ||| (((vs_u0.getD ((1 : Int32)).toNatClampNeg 0) &&& (255 : Int32)).toInt64)) <<< ((8 : Int32) &&& 0x3f).toInt64) ||| (((vs_u0.getD ((2 : Int32)).toNatClampNeg 0) &&& (255 : Int32)).toInt64))), .second, .val (.int (3 : Int32))] [(.int ((vs_u0.getD ((3 : Int32)).toNatClampNeg 0) &&& (255 : Int32))), (.long ((((((0 : Int64) <<< ((8 : Int32) &&& 0x3f).toInt64) ||| (((vs_u0.getD ((1 : Int32)).toNatClampNeg 0) &&& (255 : Int32)).toInt64)) <<< ((8 : Int32) &&& 0x3f).toInt64) ||| (((vs_u0.getD ((2 : Int32)).toNatClampNeg 0) &&& (255 : Int32)).toInt64)) <<< ((8 : Int32) &&& 0x3f).toInt64))])) (fun _ k => XS.iand X1.here hx rfl (hb hby d1_127) rfl k) ?_
    refine Goes.step (S' := T1.setTop (mkF m 129 #[.val (.ref u0), .val (.int (2 : Int32)), .val (.int (17 : Int32)), .val (.long (((((0 : Int64) <<< ((8 : Int32) &&& 0x3f).toInt64) ||| (((vs_u0.getD ((1 : Int32)).toNatClampNeg 0) &&& (255 : Int32)).toInt64)) <<< ((8 : Int32) &&& 0x3f).toInt64) ||| (((vs_u0.getD ((2 : Int32)).toNatClampNeg 0) &&& (255 : Int32)).toInt64))), .second, .val (.int (3 : Int32))] [(.long (((vs_u0.getD ((3 : Int32)).toNatClampNeg 0) &&& (255 : Int32)).toInt64)), (.long ((((((0 : Int64) <<< ((8 : Int32) &&& 0x3f).toInt64) ||| (((vs_u0.getD ((1 : Int32)).toNatClampNeg 0) &&& (255 : Int32)).toInt64)) <<< ((8 : Int32) &&& 0x3f).toInt64) ||| (((vs_u0.getD ((2 : Int32)).toNatClampNeg 0) &&& (255 : Int32)).toInt64)) <<< ((8 : Int32) &&& 0x3f).toInt64))])) (fun _ k => XS.i2l X1.here hx rfl (hb hby d1_128) rfl k) ?_
    refine Goes.step (S' := T1.setTop (mkF m 130 #[.val (.ref u0), .val (.int (2 : Int32)), .val (.int (17 : Int32)), .val (.long (((((0 : Int64) <<< ((8 : Int32) &&& 0x3f).toInt64) ||| (((vs_u0.getD ((1 : Int32)).toNatClampNeg 0) &&& (255 : Int32)).toInt64)) <<< ((8 : Int32) &&& 0x3f).toInt64) ||| (((vs_u0.getD ((2 : Int32)).toNatClampNeg 0) &&& (255 : Int32)).toInt64))), .second, .val (.int (3 : Int32))] [(.long (((((((0 : Int64) <<< ((8 : Int32) &&& 0x3f).toInt64) ||| (((vs_u0.getD ((1 : Int32)).toNatClampNeg 0) &&& (255 : Int32)).toInt64)) <<< ((8 : Int32) &&& 0x3f).toInt64) ||| (((vs_u0.getD ((2 : Int32)).toNatClampNeg 0) &&& (255 : Int32)).toInt64)) <<< ((8 : Int32) &&& 0x3f).toInt64) ||| (((vs_u0.getD ((3 : Int32)).toNatClampNeg 0) &&& (255 : Int32)).toInt64)))])) (fun _ k => XS.lor X1.here hx rfl (hb hby d1_129) rfl k) ?_
    refine Goes.step (S' := T1.setTop (mkF m 131 #[.val (.ref u0), .val (.int (2 : Int32)), .val (.int (17 : Int32)), .val (.long (((((((0 : Int64) <<< ((8 : Int32) &&& 0x3f).toInt64) ||| (((vs_u0.getD ((1 : Int32)).toNatClampNeg 0) &&& (255 : Int32)).toInt64)) <<< ((8 : Int32) &&& 0x3f).toInt64) ||| (((vs_u0.getD ((2 : Int32)).toNatClampNeg 0) &&& (255 : Int32)).toInt64)) <<< ((8 : Int32) &&& 0x3f).toInt64) ||| (((vs_u0.getD ((3 : Int32)).toNatClampNeg 0) &&& (255 : Int32)).toInt64))), .second, .val (.int (3 : Int32))] [])) (fun _ k => XS.lstoreN X1.here hx rfl (hb hby d1_130) rfl (l' := #[.val (.ref u0), .val (.int (2 : Int32)), .val (.int (17 : Int32)), .val (.long (((((((0 : Int64) <<< ((8 : Int32) &&& 0x3f).toInt64) ||| (((vs_u0.getD ((1 : Int32)).toNatClampNeg 0) &&& (255 : Int32)).toInt64)) <<< ((8 : Int32) &&& 0x3f).toInt64) ||| (((vs_u0.getD ((2 : Int32)).toNatClampNeg 0) &&& (255 : Int32)).toInt64)) <<< ((8 : Int32) &&& 0x3f).toInt64) ||| (((vs_u0.getD ((3 : Int32)).toNatClampNeg 0) &&& (255 : Int32)).toInt64))), .second, .val (.int (3 : Int32))]) rfl k) ?_
    refine Goes.step (S' := T1.setTop (mkF m 134 #[.val (.ref u0), .val (.int (2 : Int32)), .val (.int (17 : Int32)), .val (.long (((((((0 : Int64) <<< ((8 : Int32) &&& 0x3f).toInt64) ||| (((vs_u0.getD ((1 : Int32)).toNatClampNeg 0) &&& (255 : Int32)).toInt64)) <<< ((8 : Int32) &&& 0x3f).toInt64) ||| (((vs_u0.getD ((2 : Int32)).toNatClampNeg 0) &&& (255 : Int32)).toInt64)) <<< ((8 : Int32) &&& 0x3f).toInt64) ||| (((vs_u0.getD ((3 : Int32)).toNatClampNeg 0) &&& (255 : Int32)).toInt64))), .second, .val (.int (4 : Int32))] [])) (fun _ k => XS.iinc X1.here hx rfl (hb hby d1_131) rfl (l' := #[.val (.ref u0), .val (.int (2 : Int32)), .val (.int (17 : Int32)), .val (.long (((((((0 : Int64) <<< ((8 : Int32) &&& 0x3f).toInt64) ||| (((vs_u0.getD ((1 : Int32)).toNatClampNeg 0) &&& (255 : Int32)).toInt64)) <<< ((8 : Int32) &&& 0x3f).toInt64) ||| (((vs_u0.getD ((2 : Int32)).toNatClampNeg 0) &&& (255 : Int32)).toInt64)) <<< ((8 : Int32) &&& 0x3f).toInt64) ||| (((vs_u0.getD ((3 : Int32)).toNatClampNeg 0) &&& (255 : Int32)).toInt64))), .second, .val (.int (4 : Int32))]) rfl k) ?_
    refine Goes.step (S' := T1.setTop (mkF m 110 #[.val (.ref u0), .val (.int (2 : Int32)), .val (.int (17 : Int32)), .val (.long (((((((0 : Int64) <<< ((8 : Int32) &&& 0x3f).toInt64) ||| (((vs_u0.getD ((1 : Int32)).toNatClampNeg 0) &&& (255 : Int32)).toInt64)) <<< ((8 : Int32) &&& 0x3f).toInt64) ||| (((vs_u0.getD ((2 : Int32)).toNatClampNeg 0) &&& (255 : Int32)).toInt64)) <<< ((8 : Int32) &&& 0x3f).toInt64) ||| (((vs_u0.getD ((3 : Int32)).toNatClampNeg 0) &&& (255 : Int32)).toInt64))), .second, .val (.int (4 : Int32))] [])) (fun _ k => XS.goto X1.here hx rfl (pc0 := 134) (pc' := 110) rfl (hb hby d1_134) (by decide) (by decide) k) ?_
    refine Goes.step (S' := T1.setTop (mkF m 112 #[.val (.ref u0), .val (.int (2 : Int32)), .val (.int (17 : Int32)), .val (.long (((((((0 : Int64) <<< ((8 : Int32) &&& 0x3f).toInt64) ||| (((vs_u0.getD ((1 : Int32)).toNatClampNeg 0) &&& (255 : Int32)).toInt64)) <<< ((8 : Int32) &&& 0x3f).toInt64) ||| (((vs_u0.getD ((2 : Int32)).toNatClampNeg 0) &&& (255 : Int32)).toInt64)) <<< ((8 : Int32) &&& 0x3f).toInt64) ||| (((vs_u0.getD ((3 : Int32)).toNatClampNeg 0) &&& (255 : Int32)).toInt64))), .second, .val (.int (4 : Int32))] [(.int (4 : Int32))])) (fun _ k => XS.iload X1.here hx rfl (hb hby d1_110) rfl  k) ?_
    refine Goes.step (S' := T1.setTop (mkF m 113 #[.val (.ref u0), .val (.int (2 : Int32)), .val (.int (17 : Int32)), .val (.long (((((((0 : Int64) <<< ((8 : Int32) &&& 0x3f).toInt64) ||| (((vs_u0.getD ((1 : Int32)).toNatClampNeg 0) &&& (255 : Int32)).toInt64)) <<< ((8 : Int32) &&& 0x3f).toInt64) ||| (((vs_u0.getD ((2 : Int32)).toNatClampNeg 0) &&& (255 : Int32)).toInt64)) <<< ((8 : Int32) &&& 0x3f).toInt64) ||| (((vs_u0.getD ((3 : Int32)).toNatClampNeg 0) &&& (255 : Int32)).toInt64))), .second, .val (.int (4 : Int32))] [(.int (4 : Int32)), (.int (4 : Int32))])) (fun _ k => XS.iconst X1.here hx rfl (hb hby d1_112) k) ?_
    refine Goes.step (S' := T1.setTop (mkF m 116 #[.val (.ref u0), .val (.int (2 : Int32)), .val (.int (17 : Int32)), .val (.long (((((((0 : Int64) <<< ((8 : Int32) &&& 0x3f).toInt64) ||| (((vs_u0.getD ((1 : Int32)).toNatClampNeg 0) &&& (255 : Int32)).toInt64)) <<< ((8 : Int32) &&& 0x3f).toInt64) ||| (((vs_u0.getD ((2 : Int32)).toNatClampNeg 0) &&& (255 : Int32)).toInt64)) <<< ((8 : Int32) &&& 0x3f).toInt64) ||| (((vs_u0.getD ((3 : Int32)).toNatClampNeg 0) &&& (255 : Int32)).toInt64))), .second, .val (.int (4 : Int32))] [])) (fun _ k => XS.icmpNo X1.here hx rfl (hb hby d1_113) rfl (flt (by decide)).2.2.1 k) ?_
    refine Goes.step (S' := T1.setTop (mkF m 117 #[.val (.ref u0), .val (.int (2 : Int32)), .val (.int (17 : Int32)), .val (.long (((((((0 : Int64) <<< ((8 : Int32) &&& 0x3f).toInt64) ||| (((vs_u0.getD ((1 : Int32)).toNatClampNeg 0) &&& (255 : Int32)).toInt64)) <<< ((8 : Int32) &&& 0x3f).toInt64) ||| (((vs_u0.getD ((2 : Int32)).toNatClampNeg 0) &&& (255 : Int32)).toInt64)) <<< ((8 : Int32) &&& 0x3f).toInt64) ||| (((vs_u0.getD ((3 : Int32)).toNatClampNeg 0) &&& (255 : Int32)).toInt64))), .second, .val (.int (4 : Int32))] [(.long (((((((0 : Int64) <<< ((8 : Int32) &&& 0x3f).toInt64) ||| (((vs_u0.getD ((1 : Int32)).toNatClampNeg 0) &&& (255 : Int32)).toInt64)) <<< ((8 : Int32) &&& 0x3f).toInt64) ||| (((vs_u0.getD ((2 : Int32)).toNatClampNeg 0) &&& (255 : Int32)).toInt64)) <<< ((8 : Int32) &&& 0x3f).toInt64) ||| (((vs_u0.getD ((3 : Int32)).toNatClampNeg 0) &&& (255 : Int32)).toInt64)))])) (fun _ k => XS.lloadN X1.here hx rfl (hb hby d1_116) rfl  k) ?_
    refine Goes.step (S' := T1.setTop (mkF m 119 #[.val (.ref u0), .val (.int (2 : Int32)), .val (.int (17 : Int32)), .val (.long (((((((0 : Int64) <<< ((8 : Int32) &&& 0x3f).toInt64) ||| (((vs_u0.getD ((1 : Int32)).toNatClampNeg 0) &&& (255 : Int32)).toInt64)) <<< ((8 : Int32) &&& 0x3f).toInt64) ||| (((vs_u0.getD ((2 : Int32)).toNatClampNeg 0) &&& (255 : Int32)).toInt64)) <<< ((8 : Int32) &&& 0x3f).toInt64) ||| (((vs_u0.getD ((3 : Int32)).toNatClampNeg 0) &&& (255 : Int32)).toInt64))), .second, .val (.int (4 : Int32))] [(.int (8 : Int32)), (.long (((((((0 : Int64) <<< ((8 : Int32) &&& 0x3f).toInt64) ||| (((vs_u0.getD ((1 : Int32)).toNatClampNeg 0) &&& (255 : Int32)).toInt64)) <<< ((8 : Int32) &&& 0x3f).toInt64) ||| (((vs_u0.getD ((2 : Int32)).toNatClampNeg 0) &&& (255 : Int32)).toInt64)) <<< ((8 : Int32) &&& 0x3f).toInt64) ||| (((vs_u0.getD ((3 : Int32)).toNatClampNeg 0) &&& (255 : Int32)).toInt64)))])) (fun _ k => XS.bipush X1.here hx rfl (hb hby d1_117) k) ?_
    refine Goes.step (S' := T1.setTop (mkF m 120 #[.val (.ref u0), .val (.int (2 : Int32)), .val (.int (17 : Int32)), .val (.long (((((((0 : Int64) <<< ((8 : Int32) &&& 0x3f).toInt64) ||| (((vs_u0.getD ((1 : Int32)).toNatClampNeg 0) &&& (255 : Int32)).toInt64)) <<< ((8 : Int32) &&& 0x3f).toInt64) ||| (((vs_u0.getD ((2 : Int32)).toNatClampNeg 0) &&& (255 : Int32)).toInt64)) <<< ((8 : Int32) &&& 0x3f).toInt64) ||| (((vs_u0.getD ((3 : Int32)).toNatClampNeg 0) &&& (255 : Int32)).toInt64))), .second, .val (.int (4 : Int32))] [(.long ((((((((0 : Int64) <<< ((8 : Int32) &&& 0x3f).toInt64) ||| (((vs_u0.getD ((1 : Int32)).toNatClampNeg 0) &&& (255 : Int32)).toInt64)) <<< ((8 : Int32) &&& 0x3f).toInt64) ||| (((vs_u0.getD ((2 : Int32)).toNatClampNeg 0) &&& (255 : Int32)).toInt64)) <<< ((8 : Int32) &&& 0x3f).toInt64) ||| (((vs_u0.getD ((3 : Int32)).toNatClampNeg 0) &&& (255 : Int32)).toInt64)) <<< ((8 : Int32) &&& 0x3f).toInt64))])) (fun _ k => XS.lshl X1.here hx rfl (hb hby d1_119) rfl k) ?_
    refine Goes.step (S' := T1.setTop (mkF m 121 #[.val (.ref u0), .val (.int (2 : Int32)), .val (.int (17 : Int32)), .val (.long (((((((0 : Int64) <<< ((8 : Int32) &&& 0x3f).toInt64) ||| (((vs_u0.getD ((1 : Int32)).toNatClampNeg 0) &&& (255 : Int32)).toInt64)) <<< ((8 : Int32) &&& 0x3f).toInt64) ||| (((vs_u0.getD ((2 : Int32)).toNatClampNeg 0) &&& (255 : Int32)).toInt64)) <<< ((8 : Int32) &&& 0x3f).toInt64) ||| (((vs_u0.getD ((3 : Int32)).toNatClampNeg 0) &&& (255 : Int32)).toInt64))), .second, .val (.int (4 : Int32))] [(.ref u0), (.long ((((((((0 : Int64) <<< ((8 : Int32) &&& 0x3f).toInt64) ||| (((vs_u0.getD ((1 : Int32)).toNatClampNeg 0) &&& (255 : Int32)).toInt64)) <<< ((8 : Int32) &&& 0x3f).toInt64) ||| (((vs_u0.getD ((2 : Int32)).toNatClampNeg 0) &&& (255 : Int32)).toInt64)) <<< ((8 : Int32) &&& 0x3f).toInt64) ||| (((vs_u0.getD ((3 : Int32)).toNatClampNeg 0) &&& (255 : Int32)).toInt64)) <<< ((8 : Int32) &&& 0x3f).toInt64))])) (fun _ k => XS.aloadN X1.here hx rfl (hb hby d1_120) rfl rfl k) ?_
    refine Goes.step (S' := T1.setTop (mkF m 123 #[.val (.ref u0), .val (.int (2 : Int32)), .val (.int (17 : Int32)), .val (.long (((((((0 : Int64) <<< ((8 : Int32) &&& 0x3f).toInt64) ||| (((vs_u0.getD ((1 : Int32)).toNatClampNeg 0) &&& (255 : Int32)).toInt64)) <<< ((8 : Int32) &&& 0x3f).toInt64) ||| (((vs_u0.getD ((2 : Int32)).toNatClampNeg 0) &&& (255 : Int32)).toInt64)) <<< ((8 : Int32) &&& 0x3f).toInt64) ||| (((vs_u0.getD ((3 : Int32)).toNatClampNeg 0) &&& (255 : Int32)).toInt64))), .second, .val (.int (4 : Int32))] [(.int (4 : Int32)), (.ref u0), (.long ((((((((0 : Int64) <<< ((8 : Int32) &&& 0x3f).toInt64) ||| (((vs_u0.getD ((1 : Int32)).toNatClampNeg 0) &&& (255 : Int32)).toInt64)) <<< ((8 : Int32) &&& 0x3f).toInt64) ||| (((vs_u0.getD ((2 : Int32)).toNatClampNeg 0) &&& (255 : Int32)).toInt64)) <<< ((8 : Int32) &&& 0x3f).toInt64) ||| (((vs_u0.getD ((3 : Int32)).toNatClampNeg 0) &&& (255 : Int32)).toInt64)) <<< ((8 : Int32) &&& 0x3f).toInt64))])) (fun _ k => XS.iload X1.here hx rfl (hb hby d1_121) rfl  k) ?_
    refine Goes.step (S' := T1.setTop (mkF m 124 #[.val (.ref u0), .val (.int (2 : Int32)), .val (.int (17 : Int32)), .val (.long (((((((0 : Int64) <<< ((8 : Int32) &&& 0x3f).toInt64) ||| (((vs_u0.getD ((1 : Int32)).toNatClampNeg 0) &&& (255 : Int32)).toInt64)) <<< ((8 : Int32) &&& 0x3f).toInt64) ||| (((vs_u0.getD ((2 : Int32)).toNatClampNeg 0) &&& (255 : Int32)).toInt64)) <<< ((8 : Int32) &&& 0x3f).toInt64) ||| (((vs_u0.getD ((3 : Int32)).toNatClampNeg 0) &&& (255 : Int32)).toInt64))), .second, .val (.int (4 : Int32))] [(.int (vs_u0.getD ((4 : Int32)).toNatClampNeg 0)), (.long ((((((((0 : Int64) <<< ((8 : Int32) &&& 0x3f).toInt64) ||| (((vs_u0.getD ((1 : Int32)).toNatClampNeg 0) &&& (255 : Int32)).toInt64)) <<< ((8 : Int32) &&& 0x3f).toInt64) ||| (((vs_u0.getD ((2 : Int32)).toNatClampNeg 0) &&& (255 : Int32)).toInt64)) <<< ((8 : Int32) &&& 0x3f).toInt64) ||| (((vs_u0.getD ((3 : Int32)).toNatClampNeg 0) &&& (255 : Int32)).toInt64)) <<< ((8 : Int32) &&& 0x3f).toInt64))])) (fun _ k => own_baload X1 hx hZ e1 V_u0 (own_ix1b_123_4 n_u0 vs_u0 hl_u0 hn_u0 gen hv0 hn hn2 hgen hg0 ev2_44) (hb hby d1_123) _ k) ?_
    refine Goes.step (S' := T1.setTop (mkF m 127 #[.val (.ref u0), .val (.int (2 : Int32)), .val (.int (17 : Int32)), .val (.long (((((((0 : Int64) <<< ((8 : Int32) &&& 0x3f).toInt64) ||| (((vs_u0.getD ((1 : Int32)).toNatClampNeg 0) &&& (255 : Int32)).toInt64)) <<< ((8 : Int32) &&& 0x3f).toInt64) ||| (((vs_u0.getD ((2 : Int32)).toNatClampNeg 0) &&& (255 : Int32)).toInt64)) <<< ((8 : Int32) &&& 0x3f).toInt64) ||| (((vs_u0.getD ((3 : Int32)).toNatClampNeg 0) &&& (255 : Int32)).toInt64))), .second, .val (.int (4 : Int32))] [(.int (255 : Int32)), (.int (vs_u0.getD ((4 : Int32)).toNatClampNeg 0)), (.long ((((((((0 : Int64) <<< ((8 : Int32) &&& 0x3f).toInt64) ||| (((vs_u0.getD ((1 : Int32)).toNatClampNeg 0) &&& (255 : Int32)).toInt64)) <<< ((8 : Int32) &&& 0x3f).toInt64) ||| (((vs_u0.getD ((2 : Int32)).toNatClampNeg 0) &&& (255 : Int32)).toInt64)) <<< ((8 : Int32) &&& 0x3f).toInt64) ||| (((vs_u0.getD ((3 : Int32)).toNatClampNeg 0) &&& (255 : Int32)).toInt64)) <<< ((8 : Int32) &&& 0x3f).toInt64))])) (fun _ k => XS.sipush X1.here hx rfl (hb hby d1_124) k) ?_
    refine Goes.step (S' := T1.setTop (mkF m 128 #[.val (.ref u0), .val (.int (2 : Int32)), .val (.int (17 : Int32)), .val (.long (((((((0 : Int64) <<< ((8 : Int32) &&& 0x3f).toInt64) ||| (((vs_u0.getD ((1 : Int32)).toNatClampNeg 0) &&& (255 : Int32)).toInt64)) <<< ((8 : Int32) &&& 0x3f).toInt64) ||| (((vs_u0.getD ((2 : Int32)).toNatClampNeg 0) &&& (255 : Int32)).toInt64)) <<< ((8 : Int32) &&& 0x3f).toInt64) ||| (((vs_u0.getD ((3 : Int32)).toNatClampNeg 0) &&& (255 : Int32)).toInt64))), .second, .val (.int (4 : Int32))] [(.int ((vs_u0.getD ((4 : Int32)).toNatClampNeg 0) &&& (255 : Int32))), (.long ((((((((0 : Int64) <<< ((8 : Int32) &&& 0x3f).toInt64) ||| (((vs_u0.getD ((1 : Int32)).toNatClampNeg 0) &&& (255 : Int32)).toInt64)) <<< ((8 : Int32) &&& 0x3f).toInt64) ||| (((vs_u0.getD ((2 : Int32)).toNatClampNeg 0) &&& (255 : Int32)).toInt64)) <<< ((8 : Int32) &&& 0x3f).toInt64) ||| (((vs_u0.getD ((3 : Int32)).toNatClampNeg 0) &&& (255 : Int32)).toInt64)) <<< ((8 : Int32) &&& 0x3f).toInt64))])) (fun _ k => XS.iand X1.here hx rfl (hb hby d1_127) rfl k) ?_
    refine Goes.step (S' := T1.setTop (mkF m 129 #[.val (.ref u0), .val (.int (2 : Int32)), .val (.int (17 : Int32)), .val (.long (((((((0 : Int64) <<< ((8 : Int32) &&& 0x3f).toInt64) ||| (((vs_u0.getD ((1 : Int32)).toNatClampNeg 0) &&& (255 : Int32)).toInt64)) <<< ((8 : Int32) &&& 0x3f).toInt64) ||| (((vs_u0.getD ((2 : Int32)).toNatClampNeg 0) &&& (255 : Int32)).toInt64)) <<< ((8 : Int32) &&& 0x3f).toInt64) ||| (((vs_u0.getD ((3 : Int32)).toNatClampNeg 0) &&& (255 : Int32)).toInt64))), .second, .val (.int (4 : Int32))] [(.long (((vs_u0.getD ((4 : Int32)).toNatClampNeg 0) &&& (255 : Int32)).toInt64)), (.long ((((((((0 : Int64) <<< ((8 : Int32) &&& 0x3f).toInt64) ||| (((vs_u0.getD ((1 : Int32)).toNatClampNeg 0) &&& (255 : Int32)).toInt64)) <<< ((8 : Int32) &&& 0x3f).toInt64) ||| (((vs_u0.getD ((2 : Int32)).toNatClampNeg 0) &&& (255 : Int32)).toInt64)) <<< ((8 : Int32) &&& 0x3f).toInt64) ||| (((vs_u0.getD ((3 : Int32)).toNatClampNeg 0) &&& (255 : Int32)).toInt64)) <<< ((8 : Int32) &&& 0x3f).toInt64))])) (fun _ k => XS.i2l X1.here hx rfl (hb hby d1_128) rfl k) ?_
    refine Goes.step (S' := T1.setTop (mkF m 130 #[.val (.ref u0), .val (.int (2 : Int32)), .val (.int (17 : Int32)), .val (.long (((((((0 : Int64) <<< ((8 : Int32) &&& 0x3f).toInt64) ||| (((vs_u0.getD ((1 : Int32)).toNatClampNeg 0) &&& (255 : Int32)).toInt64)) <<< ((8 : Int32) &&& 0x3f).toInt64) ||| (((vs_u0.getD ((2 : Int32)).toNatClampNeg 0) &&& (255 : Int32)).toInt64)) <<< ((8 : Int32) &&& 0x3f).toInt64) ||| (((vs_u0.getD ((3 : Int32)).toNatClampNeg 0) &&& (255 : Int32)).toInt64))), .second, .val (.int (4 : Int32))] [(.long (((((((((0 : Int64) <<< ((8 : Int32) &&& 0x3f).toInt64) ||| (((vs_u0.getD ((1 : Int32)).toNatClampNeg 0) &&& (255 : Int32)).toInt64)) <<< ((8 : Int32) &&& 0x3f).toInt64) ||| (((vs_u0.getD ((2 : Int32)).toNatClampNeg 0) &&& (255 : Int32)).toInt64)) <<< ((8 : Int32) &&& 0x3f).toInt64) ||| (((vs_u0.getD ((3 : Int32)).toNatClampNeg 0) &&& (255 : Int32)).toInt64)) <<< ((8 : Int32) &&& 0x3f).toInt64) ||| (((vs_u0.getD ((4 : Int32)).toNatClampNeg 0) &&& (255 : Int32)).toInt64)))])) (fun _ k => XS.lor X1.here hx rfl (hb hby d1_129) rfl k) ?_
    refine Goes.step (S' := T1.setTop (mkF m 131 #[.val (.ref u0), .val (.int (2 : Int32)), .val (.int (17 : Int32)), .val (.long (((((((((0 : Int64) <<< ((8 : Int32) &&& 0x3f).toInt64) ||| (((vs_u0.getD ((1 : Int32)).toNatClampNeg 0) &&& (255 : Int32)).toInt64)) <<< ((8 : Int32) &&& 0x3f).toInt64) ||| (((vs_u0.getD ((2 : Int32)).toNatClampNeg 0) &&& (255 : Int32)).toInt64)) <<< ((8 : Int32) &&& 0x3f).toInt64) ||| (((vs_u0.getD ((3 : Int32)).toNatClampNeg 0) &&& (255 : Int32)).toInt64)) <<< ((8 : Int32) &&& 0x3f).toInt64) ||| (((vs_u0.getD ((4 : Int32)).toNatClampNeg 0) &&& (255 : Int32)).toInt64))), .second, .val (.int (4 : Int32))] [])) (fun _ k => XS.lstoreN X1.here hx rfl (hb hby d1_130) rfl (l' := #[.val (.ref u0), .val (.int (2 : Int32)), .val (.int (17 : Int32)), .val (.long (((((((((0 : Int64) <<< ((8 : Int32) &&& 0x3f).toInt64) ||| (((vs_u0.getD ((1 : Int32)).toNatClampNeg 0) &&& (255 : Int32)).toInt64)) <<< ((8 : Int32) &&& 0x3f).toInt64) ||| (((vs_u0.getD ((2 : Int32)).toNatClampNeg 0) &&& (255 : Int32)).toInt64)) <<< ((8 : Int32) &&& 0x3f).toInt64) ||| (((vs_u0.getD ((3 : Int32)).toNatClampNeg 0) &&& (255 : Int32)).toInt64)) <<< ((8 : Int32) &&& 0x3f).toInt64) ||| (((vs_u0.getD ((4 : Int32)).toNatClampNeg 0) &&& (255 : Int32)).toInt64))), .second, .val (.int (4 : Int32))]) rfl k) ?_
    refine Goes.step (S' := T1.setTop (mkF m 134 #[.val (.ref u0), .val (.int (2 : Int32)), .val (.int (17 : Int32)), .val (.long (((((((((0 : Int64) <<< ((8 : Int32) &&& 0x3f).toInt64) ||| (((vs_u0.getD ((1 : Int32)).toNatClampNeg 0) &&& (255 : Int32)).toInt64)) <<< ((8 : Int32) &&& 0x3f).toInt64) ||| (((vs_u0.getD ((2 : Int32)).toNatClampNeg 0) &&& (255 : Int32)).toInt64)) <<< ((8 : Int32) &&& 0x3f).toInt64) ||| (((vs_u0.getD ((3 : Int32)).toNatClampNeg 0) &&& (255 : Int32)).toInt64)) <<< ((8 : Int32) &&& 0x3f).toInt64) ||| (((vs_u0.getD ((4 : Int32)).toNatClampNeg 0) &&& (255 : Int32)).toInt64))), .second, .val (.int (5 : Int32))] [])) (fun _ k => XS.iinc X1.here hx rfl (hb hby d1_131) rfl (l' := #[.val (.ref u0), .val (.int (2 : Int32)), .val (.int (17 : Int32)), .val (.long (((((((((0 : Int64) <<< ((8 : Int32) &&& 0x3f).toInt64) ||| (((vs_u0.getD ((1 : Int32)).toNatClampNeg 0) &&& (255 : Int32)).toInt64)) <<< ((8 : Int32) &&& 0x3f).toInt64) ||| (((vs_u0.getD ((2 : Int32)).toNatClampNeg 0) &&& (255 : Int32)).toInt64)) <<< ((8 : Int32) &&& 0x3f).toInt64) ||| (((vs_u0.getD ((3 : Int32)).toNatClampNeg 0) &&& (255 : Int32)).toInt64)) <<< ((8 : Int32) &&& 0x3f).toInt64) ||| (((vs_u0.getD ((4 : Int32)).toNatClampNeg 0) &&& (255 : Int32)).toInt64))), .second, .val (.int (5 : Int32))]) rfl k) ?_
    refine Goes.step (S' := T1.setTop (mkF m 110 #[.val (.ref u0), .val (.int (2 : Int32)), .val (.int (17 : Int32)), .val (.long (((((((((0 : Int64) <<< ((8 : Int32) &&& 0x3f).toInt64) ||| (((vs_u0.getD ((1 : Int32)).toNatClampNeg 0) &&& (255 : Int32)).toInt64)) <<< ((8 : Int32) &&& 0x3f).toInt64) ||| (((vs_u0.getD ((2 : Int32)).toNatClampNeg 0) &&& (255 : Int32)).toInt64)) <<< ((8 : Int32) &&& 0x3f).toInt64) ||| (((vs_u0.getD ((3 : Int32)).toNatClampNeg 0) &&& (255 : Int32)).toInt64)) <<< ((8 : Int32) &&& 0x3f).toInt64) ||| (((vs_u0.getD ((4 : Int32)).toNatClampNeg 0) &&& (255 : Int32)).toInt64))), .second, .val (.int (5 : Int32))] [])) (fun _ k => XS.goto X1.here hx rfl (pc0 := 134) (pc' := 110) rfl (hb hby d1_134) (by decide) (by decide) k) ?_
    refine Goes.step (S' := T1.setTop (mkF m 112 #[.val (.ref u0), .val (.int (2 : Int32)), .val (.int (17 : Int32)), .val (.long (((((((((0 : Int64) <<< ((8 : Int32) &&& 0x3f).toInt64) ||| (((vs_u0.getD ((1 : Int32)).toNatClampNeg 0) &&& (255 : Int32)).toInt64)) <<< ((8 : Int32) &&& 0x3f).toInt64) ||| (((vs_u0.getD ((2 : Int32)).toNatClampNeg 0) &&& (255 : Int32)).toInt64)) <<< ((8 : Int32) &&& 0x3f).toInt64) ||| (((vs_u0.getD ((3 : Int32)).toNatClampNeg 0) &&& (255 : Int32)).toInt64)) <<< ((8 : Int32) &&& 0x3f).toInt64) ||| (((vs_u0.getD ((4 : Int32)).toNatClampNeg 0) &&& (255 : Int32)).toInt64))), .second, .val (.int (5 : Int32))] [(.int (5 : Int32))])) (fun _ k => XS.iload X1.here hx rfl (hb hby d1_110) rfl  k) ?_
    refine Goes.step (S' := T1.setTop (mkF m 113 #[.val (.ref u0), .val (.int (2 : Int32)), .val (.int (17 : Int32)), .val (.long (((((((((0 : Int64) <<< ((8 : Int32) &&& 0x3f).toInt64) ||| (((vs_u0.getD ((1 : Int32)).toNatClampNeg 0) &&& (255 : Int32)).toInt64)) <<< ((8 : Int32) &&& 0x3f).toInt64) ||| (((vs_u0.getD ((2 : Int32)).toNatClampNeg 0) &&& (255 : Int32)).toInt64)) <<< ((8 : Int32) &&& 0x3f).toInt64) ||| (((vs_u0.getD ((3 : Int32)).toNatClampNeg 0) &&& (255 : Int32)).toInt64)) <<< ((8 : Int32) &&& 0x3f).toInt64) ||| (((vs_u0.getD ((4 : Int32)).toNatClampNeg 0) &&& (255 : Int32)).toInt64))), .second, .val (.int (5 : Int32))] [(.int (4 : Int32)), (.int (5 : Int32))])) (fun _ k => XS.iconst X1.here hx rfl (hb hby d1_112) k) ?_
    refine Goes.step (S' := T1.setTop (mkF m 137 #[.val (.ref u0), .val (.int (2 : Int32)), .val (.int (17 : Int32)), .val (.long (((((((((0 : Int64) <<< ((8 : Int32) &&& 0x3f).toInt64) ||| (((vs_u0.getD ((1 : Int32)).toNatClampNeg 0) &&& (255 : Int32)).toInt64)) <<< ((8 : Int32) &&& 0x3f).toInt64) ||| (((vs_u0.getD ((2 : Int32)).toNatClampNeg 0) &&& (255 : Int32)).toInt64)) <<< ((8 : Int32) &&& 0x3f).toInt64) ||| (((vs_u0.getD ((3 : Int32)).toNatClampNeg 0) &&& (255 : Int32)).toInt64)) <<< ((8 : Int32) &&& 0x3f).toInt64) ||| (((vs_u0.getD ((4 : Int32)).toNatClampNeg 0) &&& (255 : Int32)).toInt64))), .second, .val (.int (5 : Int32))] [])) (fun _ k => XS.icmpYes X1.here hx rfl (pc0 := 113) (pc' := 137) rfl (hb hby d1_113) rfl (tlt (by decide)).2.2.1 (by decide) (by decide) k) ?_
    rw [hgen]
    refine Goes.step (S' := T1.setTop (mkF m 138 #[.val (.ref u0), .val (.int (2 : Int32)), .val (.int (17 : Int32)), .val (.long gen), .second, .val (.int (5 : Int32))] [(.long gen)])) (fun _ k => XS.lloadN X1.here hx rfl (hb hby d1_137) rfl  k) ?_
    refine Goes.step (S' := T1.setTop (mkF m 139 #[.val (.ref u0), .val (.int (2 : Int32)), .val (.int (17 : Int32)), .val (.long gen), .second, .val (.int (5 : Int32))] [(.long (0 : Int64)), (.long gen)])) (fun _ k => XS.lconst X1.here hx rfl (hb hby d1_138) k) ?_
    refine Goes.step (S' := T1.setTop (mkF m 140 #[.val (.ref u0), .val (.int (2 : Int32)), .val (.int (17 : Int32)), .val (.long gen), .second, .val (.int (5 : Int32))] [(.int (lcmpW gen (0 : Int64)))])) (fun _ k => XS.lcmp X1.here hx rfl (hb hby d1_139) rfl k) ?_
    refine Goes.step (S' := T1.setTop (mkF m 153 #[.val (.ref u0), .val (.int (2 : Int32)), .val (.int (17 : Int32)), .val (.long gen), .second, .val (.int (5 : Int32))] [])) (fun _ k => XS.ifYes X1.here hx rfl (pc0 := 140) (pc' := 153) rfl (hb hby d1_140) rfl ((if0 _ _).trans (feq (mt (lw_eq gen (0 : Int64)).mp (own_hc1b_140 n_u0 vs_u0 hl_u0 hn_u0 gen hv0 hn hn2 hgen hg0 ev2_44))).2) (by decide) (by decide) k) ?_
    refine Goes.step (S' := T1.setTop (mkF m 154 #[.val (.ref u0), .val (.int (2 : Int32)), .val (.int (17 : Int32)), .val (.long gen), .second, .val (.int (5 : Int32))] [(.ref u0)])) (fun _ k => XS.aloadN X1.here hx rfl (hb hby d1_153) rfl rfl k) ?_
    refine Goes.step (S' := T1.setTop (mkF m 155 #[.val (.ref u0), .val (.int (2 : Int32)), .val (.int (17 : Int32)), .val (.long gen), .second, .val (.int (5 : Int32))] [(.int (17 : Int32)), (.ref u0)])) (fun _ k => XS.iloadN X1.here hx rfl (hb hby d1_154) rfl  k) ?_
    refine Goes.step (S' := T1.setTop (mkF m 157 #[.val (.ref u0), .val (.int (2 : Int32)), .val (.int (17 : Int32)), .val (.long gen), .second, .val (.int (5 : Int32))] [(.int (12 : Int32)), (.int (17 : Int32)), (.ref u0)])) (fun _ k => XS.bipush X1.here hx rfl (hb hby d1_155) k) ?_
    refine Goes.step (S' := T1.setTop (mkF m 158 #[.val (.ref u0), .val (.int (2 : Int32)), .val (.int (17 : Int32)), .val (.long gen), .second, .val (.int (5 : Int32))] [(.int (5 : Int32)), (.ref u0)])) (fun _ k => XS.isub X1.here hx rfl (hb hby d1_157) rfl k) ?_
    refine Goes.step (S' := T1.setTop (mkF m 159 #[.val (.ref u0), .val (.int (2 : Int32)), .val (.int (17 : Int32)), .val (.long gen), .second, .val (.int (5 : Int32))] [(.int (17 : Int32)), (.int (5 : Int32)), (.ref u0)])) (fun _ k => XS.iloadN X1.here hx rfl (hb hby d1_158) rfl  k) ?_
    obtain ⟨_, _, ⟨T3, L3, k3, n3⟩, -, X3, ⟨Lc3, hQ3, l3, y3, z3⟩, st3⟩ := Jvm.LawKit.callS X1 hx (y := (⟨"java/util/Arrays", "copyOfRange", "([BII)[B"⟩ : MethodName)) hown (mvT hZ (hw _ (List.mem_of_getElem? (i := 10) rfl))) (mvT hZ (hw _ (List.mem_of_getElem? (i := 11) rfl))) (mvT hZ (hw _ (List.mem_of_getElem? (i := 12) rfl))) (mvT hZ (hw _ (List.mem_of_getElem? (i := 13) rfl))) (by decide) (backOf (W := 0) (rm3 l Z a0 hw [] u0 (5 : Int32) (17 : Int32) k_u0 n_u0 vs_u0 h0 n0 Z0 V_u0 hk_u0 (own_pr1b_159_hp0 n_u0 vs_u0 hl_u0 hn_u0 gen hv0 hn hn2 hgen hg0 ev2_44) (own_pr1b_159_hd n_u0 vs_u0 hl_u0 hn_u0 gen hv0 hn hn2 hgen hg0 ev2_44) (own_pr1b_159_hle n_u0 vs_u0 hl_u0 hn_u0 gen hv0 hn hn2 hgen hg0 ev2_44) (own_pr1b_159_hmin n_u0 vs_u0 hl_u0 hn_u0 gen hv0 hn hn2 hgen hg0 ev2_44) (own_pr1b_159_h4 n_u0 vs_u0 hl_u0 hn_u0 gen hv0 hn hn2 hgen hg0 ev2_44) (own_pr1b_159_hp1 n_u0 vs_u0 hl_u0 hn_u0 gen hv0 hn hn2 hgen hg0 ev2_44)) hZ (hw _ (List.mem_of_getElem? (i := 13) rfl)) (hw _ (List.mem_of_getElem? (i := 12) rfl)) (by decide) (by decide)) (g := (mkF m 159 #[.val (.ref u0), .val (.int (2 : Int32)), .val (.int (17 : Int32)), .val (.long gen), .second, .val (.int (5 : Int32))] [(.int (17 : Int32)), (.int (5 : Int32)), (.ref u0)])) rfl (by rw [hml]; rfl) (argsL := [(.ref u0), (.int (5 : Int32)), (.int (17 : Int32))]) (rest := []) (lenOf pd3 rfl) rfl (by show 2 * 0 + _ ≤ _; exact Nat.le_of_eq rfl) (hb hby d1_159) (fun _ _ => ⟨rfl, e1, (by decide : 0 + 1 ≤ _), (by decide : 0 + 12 ≤ _)⟩)
    dsimp only [Pt.U, Pt.locs, Pt.cells, Pt.slots] at X3 l3 y3 z3 st3 hQ3
    replace X3 := X3.more (Nat.le_of_eq (y3 : k3 = 1)) (Nat.le_of_eq (z3 : n3 = 12))
    obtain ⟨r3_0, rk3_0, rfl, N3q, K3q, P4, P5, P6⟩ := hQ3
    have N7 := own_frapp l3 N2 N3q
    have ne8 : u0 ≠ r3_0 := Nat.ne_of_lt (Nat.lt_of_lt_of_le V_u0.lt P4)
    have g9 : n0 ≤ r3_0 := Nat.le_trans Z0 P4
    have O10 : h0.size ≤ r3_0 := Nat.le_trans K0.1 P4
    have V11 := V_u0.keep K3q nin0
    have K12 : Keep h0 T3.heap [] := K0.trans K3q all0
    have Z13 : n0 ≤ T3.heap.size := Nat.le_trans Z0 K3q.1
    refine Goes.step (S' := T3.setTop (mkF m 162 #[.val (.ref u0), .val (.int (2 : Int32)), .val (.int (17 : Int32)), .val (.long gen), .second, .val (.int (5 : Int32))] [(.ref r3_0)])) st3 ?_
    refine Goes.step (S' := T3.setTop (mkF m 164 #[.val (.ref u0), .val (.int (2 : Int32)), .val (.int (17 : Int32)), .val (.long gen), .second, .val (.ref r3_0)] [])) (fun _ k => XS.astore X3.here hx rfl (hb hby d1_162) rfl rfl (l' := #[.val (.ref u0), .val (.int (2 : Int32)), .val (.int (17 : Int32)), .val (.long gen), .second, .val (.ref r3_0)]) rfl k) ?_
    obtain ⟨T14, h14, X14, e14, E14, A14, D14, -, st14⟩ := newO X3 hx hZ hown (hw _ (List.mem_of_getElem? (i := 28) rfl)) (hw _ (List.mem_of_getElem? (i := 29) rfl)) (hw _ (List.mem_of_getElem? (i := 4) rfl)) rfl (g := (mkF m 164 #[.val (.ref u0), .val (.int (2 : Int32)), .val (.int (17 : Int32)), .val (.long gen), .second, .val (.ref r3_0)] [])) rfl (hb hby d1_164) (by decide) (by decide)
    obtain ⟨b14, g14⟩ : ∃ z, z = T3.heap.size := ⟨_, rfl⟩
    rw [← g14] at A14 D14 st14
    have ne15 : u0 ≠ b14 := Nat.ne_of_lt (Nat.lt_of_lt_of_le V11.lt (Nat.le_of_eq g14.symm))
    have ne16 : r3_0 ≠ b14 := Nat.ne_of_lt (Nat.lt_of_lt_of_le P5.lt (Nat.le_of_eq g14.symm))
    have g17 : n0 ≤ b14 := Nat.le_trans Z13 (Nat.le_of_eq g14.symm)
    have Z18 : n0 ≤ h14.size := Nat.le_trans Z13 E14.1
    have O19 : h0.size ≤ b14 := Nat.le_trans K12.1 (Nat.le_of_eq g14.symm)
    have V20 := V11.ext E14
    have V21 := P5.ext E14
    have K22 : Keep h0 h14 [] := K12.ext E14
    have F23 : Fld Z h14 b14 "com/example/isopod/isopod/RecordHeader" "version" "I" (.int (0 : Int32)) := D14 (Or.inr (hw _ (List.mem_of_getElem? (i := 37) rfl))) (ty := .int) (by decide)
    have F24 : Fld Z h14 b14 "com/example/isopod/isopod/RecordHeader" "generation" "J" (.long (0 : Int64)) := D14 (Or.inr (hw _ (List.mem_of_getElem? (i := 39) rfl))) (ty := .long) (by decide)
    have F25 : Fld Z h14 b14 "com/example/isopod/isopod/RecordHeader" "nonce" "[B" .null := D14 (Or.inr (hw _ (List.mem_of_getElem? (i := 41) rfl))) (ty := (.array .byte)) (by decide)
    refine Goes.step (S' := T14.setTop (mkF m 167 #[.val (.ref u0), .val (.int (2 : Int32)), .val (.int (17 : Int32)), .val (.long gen), .second, .val (.ref r3_0)] [(.ref b14)])) st14 ?_
    refine Goes.step (S' := T14.setTop (mkF m 168 #[.val (.ref u0), .val (.int (2 : Int32)), .val (.int (17 : Int32)), .val (.long gen), .second, .val (.ref r3_0)] [(.ref b14), (.ref b14)])) (fun _ k => XS.dup X14.here hx rfl (hb hby d1_167) rfl rfl k) ?_
    refine Goes.step (S' := T14.setTop (mkF m 169 #[.val (.ref u0), .val (.int (2 : Int32)), .val (.int (17 : Int32)), .val (.long gen), .second, .val (.ref r3_0)] [(.int (2 : Int32)), (.ref b14), (.ref b14)])) (fun _ k => XS.iloadN X14.here hx rfl (hb hby d1_168) rfl  k) ?_
    refine Goes.step (S' := T14.setTop (mkF m 170 #[.val (.ref u0), .val (.int (2 : Int32)), .val (.int (17 : Int32)), .val (.long gen), .second, .val (.ref r3_0)] [(.long gen), (.int (2 : Int32)), (.ref b14), (.ref b14)])) (fun _ k => XS.lloadN X14.here hx rfl (hb hby d1_169) rfl  k) ?_
    refine Goes.step (S' := T14.setTop (mkF m 172 #[.val (.ref u0), .val (.int (2 : Int32)), .val (.int (17 : Int32)), .val (.long gen), .second, .val (.ref r3_0)] [(.ref r3_0), (.long gen), (.int (2 : Int32)), (.ref b14), (.ref b14)])) (fun _ k => XS.aload X14.here hx rfl (hb hby d1_170) rfl rfl k) ?_
    obtain ⟨_, _, ⟨T26, L26, k26, n26⟩, -, X26, ⟨Lc26, hQ26, l26, y26, z26⟩, st26⟩ := X14.specialBack hx (y := (⟨"com/example/isopod/isopod/RecordHeader", "<init>", "(IJ[B)V"⟩ : MethodName)) rfl hown (mvT hZ (hw _ (List.mem_of_getElem? (i := 30) rfl))) (mvT hZ (hw _ (List.mem_of_getElem? (i := 31) rfl))) (mvT hZ (hw _ (List.mem_of_getElem? (i := 32) rfl))) (by decide) (backOf (W := 1) (rm7 l Z a0 hw [] b14 (2 : Int32) gen r3_0 rk3_0 ((12 : Int32)) ([(vs_u0.getD 5 0), (vs_u0.getD 6 0), (vs_u0.getD 7 0), (vs_u0.getD 8 0), (vs_u0.getD 9 0), (vs_u0.getD 10 0), (vs_u0.getD 11 0), (vs_u0.getD 12 0), (vs_u0.getD 13 0), (vs_u0.getD 14 0), (vs_u0.getD 15 0), (vs_u0.getD 16 0)]) h14 n0 Z18 V21 P6 A14 F23 F24 F25 g17 ne16) hZ (hw _ (List.mem_of_getElem? (i := 32) rfl)) (hw _ (List.mem_of_getElem? (i := 4) rfl)) (by decide) (by decide)) (g := (mkF m 172 #[.val (.ref u0), .val (.int (2 : Int32)), .val (.int (17 : Int32)), .val (.long gen), .second, .val (.ref r3_0)] [(.ref r3_0), (.long gen), (.int (2 : Int32)), (.ref b14), (.ref b14)])) rfl (by rw [hml]; rfl) (Steps.refl _) (a := b14) (argsL := [(.int (2 : Int32)), (.long gen), (.ref r3_0)]) (rest := [(.ref b14)]) (lenOf pd4 rfl) rfl (by show 2 * 0 + _ ≤ _; exact Nat.le_of_eq rfl) (hb hby d1_172) (fun _ _ => ⟨rfl, e14, (by decide : 2 + 0 ≤ _), (by decide : 15 + 0 ≤ _)⟩)
    dsimp only [Pt.U, Pt.locs, Pt.cells, Pt.slots] at X26 l26 y26 z26 st26 hQ26
    replace X26 := X26.more (Nat.le_of_eq (y26 : k26 = 2)) (Nat.le_of_eq (z26 : n26 = 15))
    obtain ⟨rfl, N26q, K26q, E_27, F28, F29, F30⟩ := hQ26
    have N31 := own_frapp l26 N7 N26q
    have V32 := V20.keep K26q (ninS ne15 nin0)
    have V33 := V21.keep K26q (ninS ne16 nin0)
    have E_34 := A14.keep K26q
    have K35 : Keep h0 T26.heap [] := K22.trans K26q (allS (Or.inr O19) all0)
    have Z36 : n0 ≤ T26.heap.size := Nat.le_trans Z18 K26q.1
    refine Goes.step (S' := T26.setTop (mkF m 175 #[.val (.ref u0), .val (.int (2 : Int32)), .val (.int (17 : Int32)), .val (.long gen), .second, .val (.ref r3_0)] [(.ref b14)])) (fun _ k => st26.trans k) ?_
    refine Goes.retA X26 hx Bd.notSynchronized Bd.returns rfl (hb hby d1_175) (by decide) (by decide) ?_
    refine ⟨b14, r3_0, rk3_0, rfl, N31, ?_, ?_, ?_, ?_, ?_, ?_, ?_, ?_, ?_, ?_⟩
    · exact K35
    · exact O19
    · exact E_27
    · exact F28
    · exact F29
    · exact F30
    · exact O10
    · exact V33
    · exact P6
    · exact (Ne.symm ne16)
theorem own_lo8 (a : Int64) (b : Int32) (h1 : 0 ≤ a.toInt) (h2 : a.toInt < 1099511627776) (h3 : 0 ≤ b.toInt) (h4 : b.toInt < 256) : ((a <<< ((8 : Int32) &&& 0x3f).toInt64) ||| b.toInt64).toInt = a.toInt * 256 + b.toInt := by
  have s : ((a <<< ((8 : Int32) &&& 0x3f).toInt64).toInt - a.toInt * 256) % 18446744073709551616 = 0 := c_lshl a 8 8 (by decide)
  have r := rng64 (a <<< ((8 : Int32) &&& 0x3f).toInt64)
  have g := c_i2l b
  have e : (a <<< ((8 : Int32) &&& 0x3f).toInt64).toInt = a.toInt * 256 := by omega
  have o := c_orL (a <<< ((8 : Int32) &&& 0x3f).toInt64) b.toInt64 8 (by decide) 256 (by decide) (by omega) (by omega) (by omega)
  have r2 := rng64 ((a <<< ((8 : Int32) &&& 0x3f).toInt64) ||| b.toInt64)
  omega
theorem own_gen (p0 : Int32) : (((((((((0 : Int64) <<< ((8 : Int32) &&& 0x3f).toInt64) ||| (((nar .byte (((p0.toUInt32 >>> ((24 : Int32) &&& 31).toUInt32).toInt32).toInt8.toInt32)) &&& (255 : Int32)).toInt64)) <<< ((8 : Int32) &&& 0x3f).toInt64) ||| (((nar .byte (((p0.toUInt32 >>> ((16 : Int32) &&& 31).toUInt32).toInt32).toInt8.toInt32)) &&& (255 : Int32)).toInt64)) <<< ((8 : Int32) &&& 0x3f).toInt64) ||| (((nar .byte (((p0.toUInt32 >>> ((8 : Int32) &&& 31).toUInt32).toInt32).toInt8.toInt32)) &&& (255 : Int32)).toInt64)) <<< ((8 : Int32) &&& 0x3f).toInt64) ||| (((nar .byte (p0.toInt8.toInt32)) &&& (255 : Int32)).toInt64)) = ((p0.toInt64) &&& (4294967295 : Int64)) := by
  rw [own_b255, own_b255, own_b255, own_b255]
  have s3 : ((p0.toUInt32 >>> ((24 : Int32) &&& 31).toUInt32).toInt32).toInt = (p0.toInt % 4294967296) / 16777216 := c_iushr p0 24 24 (by decide) (by decide)
  have s2 : ((p0.toUInt32 >>> ((16 : Int32) &&& 31).toUInt32).toInt32).toInt = (p0.toInt % 4294967296) / 65536 := c_iushr p0 16 16 (by decide) (by decide)
  have s1 : ((p0.toUInt32 >>> ((8 : Int32) &&& 31).toUInt32).toInt32).toInt = (p0.toInt % 4294967296) / 256 := c_iushr p0 8 8 (by decide) (by decide)
  have m3 := own_m255 ((p0.toUInt32 >>> ((24 : Int32) &&& 31).toUInt32).toInt32)
  have m2 := own_m255 ((p0.toUInt32 >>> ((16 : Int32) &&& 31).toUInt32).toInt32)
  have m1 := own_m255 ((p0.toUInt32 >>> ((8 : Int32) &&& 31).toUInt32).toInt32)
  have m0 := own_m255 p0
  have g := c_i2l p0
  have k : ((p0.toInt64) &&& 4294967295).toInt = p0.toInt64.toInt % 4294967296 := c_maskL _ 4294967295 32 (by decide) (by decide)
  generalize ((p0.toUInt32 >>> ((24 : Int32) &&& 31).toUInt32).toInt32) &&& 255 = b3 at *
  generalize ((p0.toUInt32 >>> ((16 : Int32) &&& 31).toUInt32).toInt32) &&& 255 = b2 at *
  generalize ((p0.toUInt32 >>> ((8 : Int32) &&& 31).toUInt32).toInt32) &&& 255 = b1 at *
  generalize p0 &&& 255 = b0 at *
  have z : (0 : Int64).toInt = 0 := rfl
  have a3 := own_lo8 0 b3 (by omega) (by omega) (by omega) (by omega)
  generalize ((0 : Int64) <<< ((8 : Int32) &&& 0x3f).toInt64) ||| b3.toInt64 = x3 at *
  have a2 := own_lo8 x3 b2 (by omega) (by omega) (by omega) (by omega)
  generalize (x3 <<< ((8 : Int32) &&& 0x3f).toInt64) ||| b2.toInt64 = x2 at *
  have a1 := own_lo8 x2 b1 (by omega) (by omega) (by omega) (by omega)
  generalize (x2 <<< ((8 : Int32) &&& 0x3f).toInt64) ||| b1.toInt64 = x1 at *
  have a0 := own_lo8 x1 b0 (by omega) (by omega) (by omega) (by omega)
  apply Int64.toInt_inj.mp
  omega
theorem pd5 : parseMethodDescriptor "([B)Lcom/example/isopod/isopod/RecordHeader;" = some ⟨[(.array .byte)], some (.object "com/example/isopod/isopod/RecordHeader")⟩ := by decide +kernel
theorem pd6 : parseMethodDescriptor "()[B" = some ⟨[], some (.array .byte)⟩ := by decide +kernel
theorem pd7 : parseMethodDescriptor "()I" = some ⟨[], some .int⟩ := by decide +kernel
theorem pd8 : parseMethodDescriptor "()J" = some ⟨[], some .long⟩ := by decide +kernel
theorem pn2 : plainName "com/example/isopod/isopod/RecordHeaderReadPinLaw" = true := by first | (simp [plainName, overriddenIn]; done) | decide +kernel
theorem ef0 (m : MethodId) (p0 : Int32) (p1 : Int32) (p2 : Int32) (p3 : Int32) (p4 : Int32) (p5 : Int32) : entryFrame m #[(.int p0), (.int p1), (.int p2), (.int p3), (.int p4), (.int p5)] maxLocals = mkF m 0 #[.val (.int p0), .val (.int p1), .val (.int p2), .val (.int p3), .val (.int p4), .val (.int p5), .unset, .unset, .unset, .unset, .unset, .unset, .unset, .unset, .unset, .unset, .unset] [] := by first | (simp [entryFrame, mkF, argsToLocals, Value.category, maxLocals]; done) | rfl
theorem own_pr0_427_hv0 (p0 : Int32) (p1 : Int32) (p2 : Int32) (p3 : Int32) (p4 : Int32) (p5 : Int32) (hc4_1 : (p4 &&& (1 : Int32)) = (0 : Int32)) (hc18_2 : (p4 &&& (2 : Int32)) = (0 : Int32)) (y78 : Int32) (ey78 : y78 = (nar .byte (((p1.toUInt32 >>> ((24 : Int32) &&& 31).toUInt32).toInt32).toInt8.toInt32))) (y87 : Int32) (ey87 : y87 = (nar .byte (((p1.toUInt32 >>> ((16 : Int32) &&& 31).toUInt32).toInt32).toInt8.toInt32))) (y96 : Int32) (ey96 : y96 = (nar .byte (((p1.toUInt32 >>> ((8 : Int32) &&& 31).toUInt32).toInt32).toInt8.toInt32))) (y102 : Int32) (ey102 : y102 = (nar .byte (p1.toInt8.toInt32))) (y111 : Int32) (ey111 : y111 = (nar .byte (((p2.toUInt32 >>> ((24 : Int32) &&& 31).toUInt32).toInt32).toInt8.toInt32))) (y120 : Int32) (ey120 : y120 = (nar .byte (((p2.toUInt32 >>> ((16 : Int32) &&& 31).toUInt32).toInt32).toInt8.toInt32))) (y130 : Int32) (ey130 : y130 = (nar .byte (((p2.toUInt32 >>> ((8 : Int32) &&& 31).toUInt32).toInt32).toInt8.toInt32))) (y137 : Int32) (ey137 : y137 = (nar .byte (p2.toInt8.toInt32))) (y147 : Int32) (ey147 : y147 = (nar .byte (((p3.toUInt32 >>> ((24 : Int32) &&& 31).toUInt32).toInt32).toInt8.toInt32))) (y157 : Int32) (ey157 : y157 = (nar .byte (((p3.toUInt32 >>> ((16 : Int32) &&& 31).toUInt32).toInt32).toInt8.toInt32))) (y167 : Int32) (ey167 : y167 = (nar .byte (((p3.toUInt32 >>> ((8 : Int32) &&& 31).toUInt32).toInt32).toInt8.toInt32))) (y174 : Int32) (ey174 : y174 = (nar .byte (p3.toInt8.toInt32))) (y215 : Int32) (ey215 : y215 = (nar .byte ((1 : Int32).toInt8.toInt32))) (y410 : Int32) (ey410 : y410 = (nar .byte (p5.toInt8.toInt32))) (y424 : Int32) (ey424 : y424 = (nar .byte (((p5.toUInt32 >>> ((8 : Int32) &&& 31).toUInt32).toInt32).toInt8.toInt32))) : ([y215, (nar .byte y78), (nar .byte y87), (nar .byte y96), (nar .byte y102), (nar .byte y111), (nar .byte y120), (nar .byte y130), (nar .byte y137), (nar .byte y147), (nar .byte y157), (nar .byte y167), (nar .byte y174), y410, (0 : Int32), (0 : Int32), (0 : Int32), (0 : Int32), (0 : Int32), (0 : Int32), (0 : Int32), (0 : Int32), (0 : Int32), (0 : Int32), (0 : Int32), (0 : Int32), (0 : Int32), (0 : Int32), (0 : Int32), (0 : Int32), (0 : Int32), (0 : Int32), (0 : Int32), (0 : Int32), (0 : Int32), (0 : Int32), (0 : Int32), (0 : Int32), (0 : Int32), y424].getD ((0 : Int32)).toNatClampNeg 0) = (1 : Int32) := by
  subst_vars
  rfl
theorem own_pr0_427_hn (p0 : Int32) (p1 : Int32) (p2 : Int32) (p3 : Int32) (p4 : Int32) (p5 : Int32) (hc4_1 : (p4 &&& (1 : Int32)) = (0 : Int32)) (hc18_2 : (p4 &&& (2 : Int32)) = (0 : Int32)) : ¬ (40 : Int32) < (29 : Int32) := by
  decide
theorem own_pr0_427_hn2 (p0 : Int32) (p1 : Int32) (p2 : Int32) (p3 : Int32) (p4 : Int32) (p5 : Int32) (hc4_1 : (p4 &&& (1 : Int32)) = (0 : Int32)) (hc18_2 : (p4 &&& (2 : Int32)) = (0 : Int32)) : (40 : Int32) < (1000 : Int32) := by
  decide
theorem own_pr0_434_hlen (p0 : Int32) (p1 : Int32) (p2 : Int32) (p3 : Int32) (p4 : Int32) (p5 : Int32) (hc4_1 : (p4 &&& (1 : Int32)) = (0 : Int32)) (hc18_2 : (p4 &&& (2 : Int32)) = (0 : Int32)) : (12 : Int32) = (12 : Int32) := by
  rfl
theorem own_hc0_455 (p0 : Int32) (p1 : Int32) (p2 : Int32) (p3 : Int32) (p4 : Int32) (p5 : Int32) (hc4_1 : (p4 &&& (1 : Int32)) = (0 : Int32)) (hc18_2 : (p4 &&& (2 : Int32)) = (0 : Int32)) (y78 : Int32) (ey78 : y78 = (nar .byte (((p1.toUInt32 >>> ((24 : Int32) &&& 31).toUInt32).toInt32).toInt8.toInt32))) : (nar .byte y78) = y78 := by
  subst_vars
  exact own_nb _
theorem own_hc0_466 (p0 : Int32) (p1 : Int32) (p2 : Int32) (p3 : Int32) (p4 : Int32) (p5 : Int32) (hc4_1 : (p4 &&& (1 : Int32)) = (0 : Int32)) (hc18_2 : (p4 &&& (2 : Int32)) = (0 : Int32)) (y87 : Int32) (ey87 : y87 = (nar .byte (((p1.toUInt32 >>> ((16 : Int32) &&& 31).toUInt32).toInt32).toInt8.toInt32))) : (nar .byte y87) = y87 := by
  subst_vars
  exact own_nb _
theorem own_hc0_477 (p0 : Int32) (p1 : Int32) (p2 : Int32) (p3 : Int32) (p4 : Int32) (p5 : Int32) (hc4_1 : (p4 &&& (1 : Int32)) = (0 : Int32)) (hc18_2 : (p4 &&& (2 : Int32)) = (0 : Int32)) (y96 : Int32) (ey96 : y96 = (nar .byte (((p1.toUInt32 >>> ((8 : Int32) &&& 31).toUInt32).toInt32).toInt8.toInt32))) : (nar .byte y96) = y96 := by
  subst_vars
  exact own_nb _
theorem own_hc0_488 (p0 : Int32) (p1 : Int32) (p2 : Int32) (p3 : Int32) (p4 : Int32) (p5 : Int32) (hc4_1 : (p4 &&& (1 : Int32)) = (0 : Int32)) (hc18_2 : (p4 &&& (2 : Int32)) = (0 : Int32)) (y102 : Int32) (ey102 : y102 = (nar .byte (p1.toInt8.toInt32))) : (nar .byte y102) = y102 := by
  subst_vars
  exact own_nb _
theorem own_hc0_499 (p0 : Int32) (p1 : Int32) (p2 : Int32) (p3 : Int32) (p4 : Int32) (p5 : Int32) (hc4_1 : (p4 &&& (1 : Int32)) = (0 : Int32)) (hc18_2 : (p4 &&& (2 : Int32)) = (0 : Int32)) (y111 : Int32) (ey111 : y111 = (nar .byte (((p2.toUInt32 >>> ((24 : Int32) &&& 31).toUInt32).toInt32).toInt8.toInt32))) : (nar .byte y111) = y111 := by
  subst_vars
  exact own_nb _
theorem own_hc0_510 (p0 : Int32) (p1 : Int32) (p2 : Int32) (p3 : Int32) (p4 : Int32) (p5 : Int32) (hc4_1 : (p4 &&& (1 : Int32)) = (0 : Int32)) (hc18_2 : (p4 &&& (2 : Int32)) = (0 : Int32)) (y120 : Int32) (ey120 : y120 = (nar .byte (((p2.toUInt32 >>> ((16 : Int32) &&& 31).toUInt32).toInt32).toInt8.toInt32))) : (nar .byte y120) = y120 := by
  subst_vars
  exact own_nb _
theorem own_hc0_523 (p0 : Int32) (p1 : Int32) (p2 : Int32) (p3 : Int32) (p4 : Int32) (p5 : Int32) (hc4_1 : (p4 &&& (1 : Int32)) = (0 : Int32)) (hc18_2 : (p4 &&& (2 : Int32)) = (0 : Int32)) (y130 : Int32) (ey130 : y130 = (nar .byte (((p2.toUInt32 >>> ((8 : Int32) &&& 31).toUInt32).toInt32).toInt8.toInt32))) : (nar .byte y130) = y130 := by
  subst_vars
  exact own_nb _
theorem own_hc0_536 (p0 : Int32) (p1 : Int32) (p2 : Int32) (p3 : Int32) (p4 : Int32) (p5 : Int32) (hc4_1 : (p4 &&& (1 : Int32)) = (0 : Int32)) (hc18_2 : (p4 &&& (2 : Int32)) = (0 : Int32)) (y137 : Int32) (ey137 : y137 = (nar .byte (p2.toInt8.toInt32))) : (nar .byte y137) = y137 := by
  subst_vars
  exact own_nb _
theorem own_hc0_549 (p0 : Int32) (p1 : Int32) (p2 : Int32) (p3 : Int32) (p4 : Int32) (p5 : Int32) (hc4_1 : (p4 &&& (1 : Int32)) = (0 : Int32)) (hc18_2 : (p4 &&& (2 : Int32)) = (0 : Int32)) (y147 : Int32) (ey147 : y147 = (nar .byte (((p3.toUInt32 >>> ((24 : Int32) &&& 31).toUInt32).toInt32).toInt8.toInt32))) : (nar .byte y147) = y147 := by
  subst_vars
  exact own_nb _
theorem own_hc0_562 (p0 : Int32) (p1 : Int32) (p2 : Int32) (p3 : Int32) (p4 : Int32) (p5 : Int32) (hc4_1 : (p4 &&& (1 : Int32)) = (0 : Int32)) (hc18_2 : (p4 &&& (2 : Int32)) = (0 : Int32)) (y157 : Int32) (ey157 : y157 = (nar .byte (((p3.toUInt32 >>> ((16 : Int32) &&& 31).toUInt32).toInt32).toInt8.toInt32))) : (nar .byte y157) = y157 := by
  subst_vars
  exact own_nb _
theorem own_hc0_575 (p0 : Int32) (p1 : Int32) (p2 : Int32) (p3 : Int32) (p4 : Int32) (p5 : Int32) (hc4_1 : (p4 &&& (1 : Int32)) = (0 : Int32)) (hc18_2 : (p4 &&& (2 : Int32)) = (0 : Int32)) (y167 : Int32) (ey167 : y167 = (nar .byte (((p3.toUInt32 >>> ((8 : Int32) &&& 31).toUInt32).toInt32).toInt8.toInt32))) : (nar .byte y167) = y167 := by
  subst_vars
  exact own_nb _
theorem own_hc0_588 (p0 : Int32) (p1 : Int32) (p2 : Int32) (p3 : Int32) (p4 : Int32) (p5 : Int32) (hc4_1 : (p4 &&& (1 : Int32)) = (0 : Int32)) (hc18_2 : (p4 &&& (2 : Int32)) = (0 : Int32)) (y174 : Int32) (ey174 : y174 = (nar .byte (p3.toInt8.toInt32))) : (nar .byte y174) = y174 := by
  subst_vars
  exact own_nb _
theorem own_hc0_613 (p0 : Int32) (p1 : Int32) (p2 : Int32) (p3 : Int32) (p4 : Int32) (p5 : Int32) (hc4_1 : (p4 &&& (1 : Int32)) = (0 : Int32)) (hc18_2 : (p4 &&& (2 : Int32)) = (0 : Int32)) : (f10 (1 : Int32) (0 : Int64)) = (1 : Int32) := by
  rfl
theorem own_hc0_633 (p0 : Int32) (p1 : Int32) (p2 : Int32) (p3 : Int32) (p4 : Int32) (p5 : Int32) (hc4_1 : (p4 &&& (1 : Int32)) = (0 : Int32)) (hc18_2 : (p4 &&& (2 : Int32)) = (0 : Int32)) : (f11 (1 : Int32) (0 : Int64)) = (0 : Int64) := by
  rfl
theorem own_hc0_643 (p0 : Int32) (p1 : Int32) (p2 : Int32) (p3 : Int32) (p4 : Int32) (p5 : Int32) (hc4_1 : (p4 &&& (1 : Int32)) = (0 : Int32)) (hc18_2 : (p4 &&& (2 : Int32)) = (0 : Int32)) : (f12 (1 : Int32)) = (13 : Int32) := by
  rfl
theorem own_pr0_427_hv0_2 (p0 : Int32) (p1 : Int32) (p2 : Int32) (p3 : Int32) (p4 : Int32) (p5 : Int32) (hc4_1 : (p4 &&& (1 : Int32)) = (0 : Int32)) (hc18_2 : ¬ ((p4 &&& (2 : Int32)) = (0 : Int32))) (y78 : Int32) (ey78 : y78 = (nar .byte (((p1.toUInt32 >>> ((24 : Int32) &&& 31).toUInt32).toInt32).toInt8.toInt32))) (y87 : Int32) (ey87 : y87 = (nar .byte (((p1.toUInt32 >>> ((16 : Int32) &&& 31).toUInt32).toInt32).toInt8.toInt32))) (y96 : Int32) (ey96 : y96 = (nar .byte (((p1.toUInt32 >>> ((8 : Int32) &&& 31).toUInt32).toInt32).toInt8.toInt32))) (y102 : Int32) (ey102 : y102 = (nar .byte (p1.toInt8.toInt32))) (y111 : Int32) (ey111 : y111 = (nar .byte (((p2.toUInt32 >>> ((24 : Int32) &&& 31).toUInt32).toInt32).toInt8.toInt32))) (y120 : Int32) (ey120 : y120 = (nar .byte (((p2.toUInt32 >>> ((16 : Int32) &&& 31).toUInt32).toInt32).toInt8.toInt32))) (y130 : Int32) (ey130 : y130 = (nar .byte (((p2.toUInt32 >>> ((8 : Int32) &&& 31).toUInt32).toInt32).toInt8.toInt32))) (y137 : Int32) (ey137 : y137 = (nar .byte (p2.toInt8.toInt32))) (y147 : Int32) (ey147 : y147 = (nar .byte (((p3.toUInt32 >>> ((24 : Int32) &&& 31).toUInt32).toInt32).toInt8.toInt32))) (y157 : Int32) (ey157 : y157 = (nar .byte (((p3.toUInt32 >>> ((16 : Int32) &&& 31).toUInt32).toInt32).toInt8.toInt32))) (y167 : Int32) (ey167 : y167 = (nar .byte (((p3.toUInt32 >>> ((8 : Int32) &&& 31).toUInt32).toInt32).toInt8.toInt32))) (y174 : Int32) (ey174 : y174 = (nar .byte (p3.toInt8.toInt32))) (y215 : Int32) (ey215 : y215 = (nar .byte ((1 : Int32).toInt8.toInt32))) (y410 : Int32) (ey410 : y410 = (nar .byte (p5.toInt8.toInt32))) (y424 : Int32) (ey424 : y424 = (nar .byte (((p5.toUInt32 >>> ((8 : Int32) &&& 31).toUInt32).toInt32).toInt8.toInt32))) : ([y215, (nar .byte y78), (nar .byte y87), (nar .byte y96), (nar .byte y102), (nar .byte y111), (nar .byte y120), (nar .byte y130), (nar .byte y137), (nar .byte y147), (nar .byte y157), (nar .byte y167), (nar .byte y174), y410, (0 : Int32), (0 : Int32), (0 : Int32), (0 : Int32), (0 : Int32), (0 : Int32), (0 : Int32), (0 : Int32), (0 : Int32), (0 : Int32), (0 : Int32), (0 : Int32), (0 : Int32), (0 : Int32), y424].getD ((0 : Int32)).toNatClampNeg 0) = (1 : Int32) := by
  subst_vars
  rfl
theorem own_pr0_427_hn_2 (p0 : Int32) (p1 : Int32) (p2 : Int32) (p3 : Int32) (p4 : Int32) (p5 : Int32) (hc4_1 : (p4 &&& (1 : Int32)) = (0 : Int32)) (hc18_2 : ¬ ((p4 &&& (2 : Int32)) = (0 : Int32))) : ¬ (29 : Int32) < (29 : Int32) := by
  decide
theorem own_pr0_427_hn2_2 (p0 : Int32) (p1 : Int32) (p2 : Int32) (p3 : Int32) (p4 : Int32) (p5 : Int32) (hc4_1 : (p4 &&& (1 : Int32)) = (0 : Int32)) (hc18_2 : ¬ ((p4 &&& (2 : Int32)) = (0 : Int32))) : (29 : Int32) < (1000 : Int32) := by
  decide
theorem own_pr0_434_hlen_2 (p0 : Int32) (p1 : Int32) (p2 : Int32) (p3 : Int32) (p4 : Int32) (p5 : Int32) (hc4_1 : (p4 &&& (1 : Int32)) = (0 : Int32)) (hc18_2 : ¬ ((p4 &&& (2 : Int32)) = (0 : Int32))) : (12 : Int32) = (12 : Int32) := by
  rfl
theorem own_hc0_455_2 (p0 : Int32) (p1 : Int32) (p2 : Int32) (p3 : Int32) (p4 : Int32) (p5 : Int32) (hc4_1 : (p4 &&& (1 : Int32)) = (0 : Int32)) (hc18_2 : ¬ ((p4 &&& (2 : Int32)) = (0 : Int32))) (y78 : Int32) (ey78 : y78 = (nar .byte (((p1.toUInt32 >>> ((24 : Int32) &&& 31).toUInt32).toInt32).toInt8.toInt32))) : (nar .byte y78) = y78 := by
  subst_vars
  exact own_nb _
theorem own_hc0_466_2 (p0 : Int32) (p1 : Int32) (p2 : Int32) (p3 : Int32) (p4 : Int32) (p5 : Int32) (hc4_1 : (p4 &&& (1 : Int32)) = (0 : Int32)) (hc18_2 : ¬ ((p4 &&& (2 : Int32)) = (0 : Int32))) (y87 : Int32) (ey87 : y87 = (nar .byte (((p1.toUInt32 >>> ((16 : Int32) &&& 31).toUInt32).toInt32).toInt8.toInt32))) : (nar .byte y87) = y87 := by
  subst_vars
  exact own_nb _
theorem own_hc0_477_2 (p0 : Int32) (p1 : Int32) (p2 : Int32) (p3 : Int32) (p4 : Int32) (p5 : Int32) (hc4_1 : (p4 &&& (1 : Int32)) = (0 : Int32)) (hc18_2 : ¬ ((p4 &&& (2 : Int32)) = (0 : Int32))) (y96 : Int32) (ey96 : y96 = (nar .byte (((p1.toUInt32 >>> ((8 : Int32) &&& 31).toUInt32).toInt32).toInt8.toInt32))) : (nar .byte y96) = y96 := by
  subst_vars
  exact own_nb _
theorem own_hc0_488_2 (p0 : Int32) (p1 : Int32) (p2 : Int32) (p3 : Int32) (p4 : Int32) (p5 : Int32) (hc4_1 : (p4 &&& (1 : Int32)) = (0 : Int32)) (hc18_2 : ¬ ((p4 &&& (2 : Int32)) = (0 : Int32))) (y102 : Int32) (ey102 : y102 = (nar .byte (p1.toInt8.toInt32))) : (nar .byte y102) = y102 := by
  subst_vars
  exact own_nb _
theorem own_hc0_499_2 (p0 : Int32) (p1 : Int32) (p2 : Int32) (p3 : Int32) (p4 : Int32) (p5 : Int32) (hc4_1 : (p4 &&& (1 : Int32)) = (0 : Int32)) (hc18_2 : ¬ ((p4 &&& (2 : Int32)) = (0 : Int32))) (y111 : Int32) (ey111 : y111 = (nar .byte (((p2.toUInt32 >>> ((24 : Int32) &&& 31).toUInt32).toInt32).toInt8.toInt32))) : (nar .byte y111) = y111 := by
  subst_vars
  exact own_nb _
theorem own_hc0_510_2 (p0 : Int32) (p1 : Int32) (p2 : Int32) (p3 : Int32) (p4 : Int32) (p5 : Int32) (hc4_1 : (p4 &&& (1 : Int32)) = (0 : Int32)) (hc18_2 : ¬ ((p4 &&& (2 : Int32)) = (0 : Int32))) (y120 : Int32) (ey120 : y120 = (nar .byte (((p2.toUInt32 >>> ((16 : Int32) &&& 31).toUInt32).toInt32).toInt8.toInt32))) : (nar .byte y120) = y120 := by
  subst_vars
  exact own_nb _
theorem own_hc0_523_2 (p0 : Int32) (p1 : Int32) (p2 : Int32) (p3 : Int32) (p4 : Int32) (p5 : Int32) (hc4_1 : (p4 &&& (1 : Int32)) = (0 : Int32)) (hc18_2 : ¬ ((p4 &&& (2 : Int32)) = (0 : Int32))) (y130 : Int32) (ey130 : y130 = (nar .byte (((p2.toUInt32 >>> ((8 : Int32) &&& 31).toUInt32).toInt32).toInt8.toInt32))) : (nar .byte y130) = y130 := by
  subst_vars
  exact own_nb _
theorem own_hc0_536_2 (p0 : Int32) (p1 : Int32) (p2 : Int32) (p3 : Int32) (p4 : Int32) (p5 : Int32) (hc4_1 : (p4 &&& (1 : Int32)) = (0 : Int32)) (hc18_2 : ¬ ((p4 &&& (2 : Int32)) = (0 : Int32))) (y137 : Int32) (ey137 : y137 = (nar .byte (p2.toInt8.toInt32))) : (nar .byte y137) = y137 := by
  subst_vars
  exact own_nb _
theorem own_hc0_549_2 (p0 : Int32) (p1 : Int32) (p2 : Int32) (p3 : Int32) (p4 : Int32) (p5 : Int32) (hc4_1 : (p4 &&& (1 : Int32)) = (0 : Int32)) (hc18_2 : ¬ ((p4 &&& (2 : Int32)) = (0 : Int32))) (y147 : Int32) (ey147 : y147 = (nar .byte (((p3.toUInt32 >>> ((24 : Int32) &&& 31).toUInt32).toInt32).toInt8.toInt32))) : (nar .byte y147) = y147 := by
  subst_vars
  exact own_nb _
theorem own_hc0_562_2 (p0 : Int32) (p1 : Int32) (p2 : Int32) (p3 : Int32) (p4 : Int32) (p5 : Int32) (hc4_1 : (p4 &&& (1 : Int32)) = (0 : Int32)) (hc18_2 : ¬ ((p4 &&& (2 : Int32)) = (0 : Int32))) (y157 : Int32) (ey157 : y157 = (nar .byte (((p3.toUInt32 >>> ((16 : Int32) &&& 31).toUInt32).toInt32).toInt8.toInt32))) : (nar .byte y157) = y157 := by
  subst_vars
  exact own_nb _
theorem own_hc0_575_2 (p0 : Int32) (p1 : Int32) (p2 : Int32) (p3 : Int32) (p4 : Int32) (p5 : Int32) (hc4_1 : (p4 &&& (1 : Int32)) = (0 : Int32)) (hc18_2 : ¬ ((p4 &&& (2 : Int32)) = (0 : Int32))) (y167 : Int32) (ey167 : y167 = (nar .byte (((p3.toUInt32 >>> ((8 : Int32) &&& 31).toUInt32).toInt32).toInt8.toInt32))) : (nar .byte y167) = y167 := by
  subst_vars
  exact own_nb _
theorem own_hc0_588_2 (p0 : Int32) (p1 : Int32) (p2 : Int32) (p3 : Int32) (p4 : Int32) (p5 : Int32) (hc4_1 : (p4 &&& (1 : Int32)) = (0 : Int32)) (hc18_2 : ¬ ((p4 &&& (2 : Int32)) = (0 : Int32))) (y174 : Int32) (ey174 : y174 = (nar .byte (p3.toInt8.toInt32))) : (nar .byte y174) = y174 := by
  subst_vars
  exact own_nb _
theorem own_hc0_613_2 (p0 : Int32) (p1 : Int32) (p2 : Int32) (p3 : Int32) (p4 : Int32) (p5 : Int32) (hc4_1 : (p4 &&& (1 : Int32)) = (0 : Int32)) (hc18_2 : ¬ ((p4 &&& (2 : Int32)) = (0 : Int32))) : (f10 (1 : Int32) (0 : Int64)) = (1 : Int32) := by
  rfl
theorem own_hc0_633_2 (p0 : Int32) (p1 : Int32) (p2 : Int32) (p3 : Int32) (p4 : Int32) (p5 : Int32) (hc4_1 : (p4 &&& (1 : Int32)) = (0 : Int32)) (hc18_2 : ¬ ((p4 &&& (2 : Int32)) = (0 : Int32))) : (f11 (1 : Int32) (0 : Int64)) = (0 : Int64) := by
  rfl
theorem own_hc0_643_2 (p0 : Int32) (p1 : Int32) (p2 : Int32) (p3 : Int32) (p4 : Int32) (p5 : Int32) (hc4_1 : (p4 &&& (1 : Int32)) = (0 : Int32)) (hc18_2 : ¬ ((p4 &&& (2 : Int32)) = (0 : Int32))) : (f12 (1 : Int32)) = (13 : Int32) := by
  rfl
theorem own_pr0_427_hv0_3 (p0 : Int32) (p1 : Int32) (p2 : Int32) (p3 : Int32) (p4 : Int32) (p5 : Int32) (hc4_1 : ¬ ((p4 &&& (1 : Int32)) = (0 : Int32))) (hc18_3 : (p4 &&& (2 : Int32)) = (0 : Int32)) (v8_34 : Int64) (ev8_34 : v8_34 = ((p0.toInt64) &&& (4294967295 : Int64))) (hc45_4 : ¬ (v8_34 = (0 : Int64))) (y78 : Int32) (ey78 : y78 = (nar .byte (((p1.toUInt32 >>> ((24 : Int32) &&& 31).toUInt32).toInt32).toInt8.toInt32))) (y87 : Int32) (ey87 : y87 = (nar .byte (((p1.toUInt32 >>> ((16 : Int32) &&& 31).toUInt32).toInt32).toInt8.toInt32))) (y96 : Int32) (ey96 : y96 = (nar .byte (((p1.toUInt32 >>> ((8 : Int32) &&& 31).toUInt32).toInt32).toInt8.toInt32))) (y102 : Int32) (ey102 : y102 = (nar .byte (p1.toInt8.toInt32))) (y111 : Int32) (ey111 : y111 = (nar .byte (((p2.toUInt32 >>> ((24 : Int32) &&& 31).toUInt32).toInt32).toInt8.toInt32))) (y120 : Int32) (ey120 : y120 = (nar .byte (((p2.toUInt32 >>> ((16 : Int32) &&& 31).toUInt32).toInt32).toInt8.toInt32))) (y130 : Int32) (ey130 : y130 = (nar .byte (((p2.toUInt32 >>> ((8 : Int32) &&& 31).toUInt32).toInt32).toInt8.toInt32))) (y137 : Int32) (ey137 : y137 = (nar .byte (p2.toInt8.toInt32))) (y147 : Int32) (ey147 : y147 = (nar .byte (((p3.toUInt32 >>> ((24 : Int32) &&& 31).toUInt32).toInt32).toInt8.toInt32))) (y157 : Int32) (ey157 : y157 = (nar .byte (((p3.toUInt32 >>> ((16 : Int32) &&& 31).toUInt32).toInt32).toInt8.toInt32))) (y167 : Int32) (ey167 : y167 = (nar .byte (((p3.toUInt32 >>> ((8 : Int32) &&& 31).toUInt32).toInt32).toInt8.toInt32))) (y174 : Int32) (ey174 : y174 = (nar .byte (p3.toInt8.toInt32))) (y215 : Int32) (ey215 : y215 = (nar .byte ((2 : Int32).toInt8.toInt32))) (y229 : Int32) (ey229 : y229 = (nar .byte (((p0.toUInt32 >>> ((24 : Int32) &&& 31).toUInt32).toInt32).toInt8.toInt32))) (y238 : Int32) (ey238 : y238 = (nar .byte (((p0.toUInt32 >>> ((16 : Int32) &&& 31).toUInt32).toInt32).toInt8.toInt32))) (y247 : Int32) (ey247 : y247 = (nar .byte (((p0.toUInt32 >>> ((8 : Int32) &&& 31).toUInt32).toInt32).toInt8.toInt32))) (y253 : Int32) (ey253 : y253 = (nar .byte (p0.toInt8.toInt32))) (y410 : Int32) (ey410 : y410 = (nar .byte (p5.toInt8.toInt32))) (y424 : Int32) (ey424 : y424 = (nar .byte (((p5.toUInt32 >>> ((8 : Int32) &&& 31).toUInt32).toInt32).toInt8.toInt32))) : ([y215, y229, y238, y247, y253, (nar .byte y78), (nar .byte y87), (nar .byte y96), (nar .byte y102), (nar .byte y111), (nar .byte y120), (nar .byte y130), (nar .byte y137), (nar .byte y147), (nar .byte y157), (nar .byte y167), (nar .byte y174), y410, (0 : Int32), (0 : Int32), (0 : Int32), (0 : Int32), (0 : Int32), (0 : Int32), (0 : Int32), (0 : Int32), (0 : Int32), (0 : Int32), (0 : Int32), (0 : Int32), (0 : Int32), (0 : Int32), (0 : Int32), (0 : Int32), (0 : Int32), (0 : Int32), (0 : Int32), (0 : Int32), (0 : Int32), y424].getD ((0 : Int32)).toNatClampNeg 0) = (2 : Int32) := by
  subst_vars
  rfl
theorem own_pr0_427_hn_3 (p0 : Int32) (p1 : Int32) (p2 : Int32) (p3 : Int32) (p4 : Int32) (p5 : Int32) (hc4_1 : ¬ ((p4 &&& (1 : Int32)) = (0 : Int32))) (hc18_3 : (p4 &&& (2 : Int32)) = (0 : Int32)) (v8_34 : Int64) (ev8_34 : v8_34 = ((p0.toInt64) &&& (4294967295 : Int64))) (hc45_4 : ¬ (v8_34 = (0 : Int64))) : ¬ (40 : Int32) < (33 : Int32) := by
  decide
theorem own_pr0_427_hn2_3 (p0 : Int32) (p1 : Int32) (p2 : Int32) (p3 : Int32) (p4 : Int32) (p5 : Int32) (hc4_1 : ¬ ((p4 &&& (1 : Int32)) = (0 : Int32))) (hc18_3 : (p4 &&& (2 : Int32)) = (0 : Int32)) (v8_34 : Int64) (ev8_34 : v8_34 = ((p0.toInt64) &&& (4294967295 : Int64))) (hc45_4 : ¬ (v8_34 = (0 : Int64))) : (40 : Int32) < (1000 : Int32) := by
  decide
theorem own_pr0_427_hgen (p0 : Int32) (p1 : Int32) (p2 : Int32) (p3 : Int32) (p4 : Int32) (p5 : Int32) (hc4_1 : ¬ ((p4 &&& (1 : Int32)) = (0 : Int32))) (hc18_3 : (p4 &&& (2 : Int32)) = (0 : Int32)) (v8_34 : Int64) (ev8_34 : v8_34 = ((p0.toInt64) &&& (4294967295 : Int64))) (hc45_4 : ¬ (v8_34 = (0 : Int64))) (y78 : Int32) (ey78 : y78 = (nar .byte (((p1.toUInt32 >>> ((24 : Int32) &&& 31).toUInt32).toInt32).toInt8.toInt32))) (y87 : Int32) (ey87 : y87 = (nar .byte (((p1.toUInt32 >>> ((16 : Int32) &&& 31).toUInt32).toInt32).toInt8.toInt32))) (y96 : Int32) (ey96 : y96 = (nar .byte (((p1.toUInt32 >>> ((8 : Int32) &&& 31).toUInt32).toInt32).toInt8.toInt32))) (y102 : Int32) (ey102 : y102 = (nar .byte (p1.toInt8.toInt32))) (y111 : Int32) (ey111 : y111 = (nar .byte (((p2.toUInt32 >>> ((24 : Int32) &&& 31).toUInt32).toInt32).toInt8.toInt32))) (y120 : Int32) (ey120 : y120 = (nar .byte (((p2.toUInt32 >>> ((16 : Int32) &&& 31).toUInt32).toInt32).toInt8.toInt32))) (y130 : Int32) (ey130 : y130 = (nar .byte (((p2.toUInt32 >>> ((8 : Int32) &&& 31).toUInt32).toInt32).toInt8.toInt32))) (y137 : Int32) (ey137 : y137 = (nar .byte (p2.toInt8.toInt32))) (y147 : Int32) (ey147 : y147 = (nar .byte (((p3.toUInt32 >>> ((24 : Int32) &&& 31).toUInt32).toInt32).toInt8.toInt32))) (y157 : Int32) (ey157 : y157 = (nar .byte (((p3.toUInt32 >>> ((16 : Int32) &&& 31).toUInt32).toInt32).toInt8.toInt32))) (y167 : Int32) (ey167 : y167 = (nar .byte (((p3.toUInt32 >>> ((8 : Int32) &&& 31).toUInt32).toInt32).toInt8.toInt32))) (y174 : Int32) (ey174 : y174 = (nar .byte (p3.toInt8.toInt32))) (y215 : Int32) (ey215 : y215 = (nar .byte ((2 : Int32).toInt8.toInt32))) (y229 : Int32) (ey229 : y229 = (nar .byte (((p0.toUInt32 >>> ((24 : Int32) &&& 31).toUInt32).toInt32).toInt8.toInt32))) (y238 : Int32) (ey238 : y238 = (nar .byte (((p0.toUInt32 >>> ((16 : Int32) &&& 31).toUInt32).toInt32).toInt8.toInt32))) (y247 : Int32) (ey247 : y247 = (nar .byte (((p0.toUInt32 >>> ((8 : Int32) &&& 31).toUInt32).toInt32).toInt8.toInt32))) (y253 : Int32) (ey253 : y253 = (nar .byte (p0.toInt8.toInt32))) (y410 : Int32) (ey410 : y410 = (nar .byte (p5.toInt8.toInt32))) (y424 : Int32) (ey424 : y424 = (nar .byte (((p5.toUInt32 >>> ((8 : Int32) &&& 31).toUInt32).toInt32).toInt8.toInt32))) : (((((((((0 : Int64) <<< ((8 : Int32) &&& 0x3f).toInt64) ||| ((([y215, y229, y238, y247, y253, (nar .byte y78), (nar .byte y87), (nar .byte y96), (nar .byte y102), (nar .byte y111), (nar .byte y120), (nar .byte y130), (nar .byte y137), (nar .byte y147), (nar .byte y157), (nar .byte y167), (nar .byte y174), y410, (0 : Int32), (0 : Int32), (0 : Int32), (0 : Int32), (0 : Int32), (0 : Int32), (0 : Int32), (0 : Int32), (0 : Int32), (0 : Int32), (0 : Int32), (0 : Int32), (0 : Int32), (0 : Int32), (0 : Int32), (0 : Int32), (0 : Int32), (0 : Int32), (0 : Int32), (0 : Int32), (0 : Int32), y424].getD ((1 : Int32)).toNatClampNeg 0) &&& (255 : Int32)).toInt64)) <<< ((8 : Int32) &&& 0x3f).toInt64) ||| ((([y215, y229, y238, y247, y253, (nar .byte y78), (nar .byte y87), (nar .byte y96), (nar .byte y102), (nar .byte y111), (nar .byte y120), (nar .byte y130), (nar .byte y137), (nar .byte y147), (nar .byte y157), (nar .byte y167), (nar .byte y174), y410, (0 : Int32), (0 : Int32), (0 : Int32), (0 : Int32), (0 : Int32), (0 : Int32), (0 : Int32), (0 : Int32), (0 : Int32), (0 : Int32), (0 : Int32), (0 : Int32), (0 : Int32), (0 : Int32), (0 : Int32), (0 : Int32), (0 : Int32), (0 : Int32), (0 : Int32), (0 : Int32), (0 : Int32), y424].getD ((2 : Int32)).toNatClampNeg 0) &&& (255 : Int32)).toInt64)) <<< ((8 : Int32) &&& 0x3f).toInt64) ||| ((([y215, y229, y238, y247, y253, (nar .byte y78), (nar .byte y87), (nar .byte y96), (nar .byte y102), (nar .byte y111), (nar .byte y120), (nar .byte y130), (nar .byte y137), (nar .byte y147), (nar .byte y157), (nar .byte y167), (nar .byte y174), y410, (0 : Int32), (0 : Int32), (0 : Int32), (0 : Int32), (0 : Int32), (0 : Int32), (0 : Int32), (0 : Int32), (0 : Int32), (0 : Int32), (0 : Int32), (0 : Int32), (0 : Int32), (0 : Int32), (0 : Int32), (0 : Int32), (0 : Int32), (0 : Int32), (0 : Int32), (0 : Int32), (0 : Int32), y424].getD ((3 : Int32)).toNatClampNeg 0) &&& (255 : Int32)).toInt64)) <<< ((8 : Int32) &&& 0x3f).toInt64) ||| ((([y215, y229, y238, y247, y253, (nar .byte y78), (nar .byte y87), (nar .byte y96), (nar .byte y102), (nar .byte y111), (nar .byte y120), (nar .byte y130), (nar .byte y137), (nar .byte y147), (nar .byte y157), (nar .byte y167), (nar .byte y174), y410, (0 : Int32), (0 : Int32), (0 : Int32), (0 : Int32), (0 : Int32), (0 : Int32), (0 : Int32), (0 : Int32), (0 : Int32), (0 : Int32), (0 : Int32), (0 : Int32), (0 : Int32), (0 : Int32), (0 : Int32), (0 : Int32), (0 : Int32), (0 : Int32), (0 : Int32), (0 : Int32), (0 : Int32), y424].getD ((4 : Int32)).toNatClampNeg 0) &&& (255 : Int32)).toInt64)) = v8_34 := by
  subst_vars
  exact own_gen p0
theorem own_pr0_427_hg0 (p0 : Int32) (p1 : Int32) (p2 : Int32) (p3 : Int32) (p4 : Int32) (p5 : Int32) (hc4_1 : ¬ ((p4 &&& (1 : Int32)) = (0 : Int32))) (hc18_3 : (p4 &&& (2 : Int32)) = (0 : Int32)) (v8_34 : Int64) (ev8_34 : v8_34 = ((p0.toInt64) &&& (4294967295 : Int64))) (hc45_4 : ¬ (v8_34 = (0 : Int64))) : ¬ (v8_34 = (0 : Int64)) := by
  assumption
theorem own_pr0_434_hlen_3 (p0 : Int32) (p1 : Int32) (p2 : Int32) (p3 : Int32) (p4 : Int32) (p5 : Int32) (hc4_1 : ¬ ((p4 &&& (1 : Int32)) = (0 : Int32))) (hc18_3 : (p4 &&& (2 : Int32)) = (0 : Int32)) (v8_34 : Int64) (ev8_34 : v8_34 = ((p0.toInt64) &&& (4294967295 : Int64))) (hc45_4 : ¬ (v8_34 = (0 : Int64))) : (12 : Int32) = (12 : Int32) := by
  rfl
theorem own_hc0_455_3 (p0 : Int32) (p1 : Int32) (p2 : Int32) (p3 : Int32) (p4 : Int32) (p5 : Int32) (hc4_1 : ¬ ((p4 &&& (1 : Int32)) = (0 : Int32))) (hc18_3 : (p4 &&& (2 : Int32)) = (0 : Int32)) (v8_34 : Int64) (ev8_34 : v8_34 = ((p0.toInt64) &&& (4294967295 : Int64))) (hc45_4 : ¬ (v8_34 = (0 : Int64))) (y78 : Int32) (ey78 : y78 = (nar .byte (((p1.toUInt32 >>> ((24 : Int32) &&& 31).toUInt32).toInt32).toInt8.toInt32))) : (nar .byte y78) = y78 := by
  subst_vars
  exact own_nb _
theorem own_hc0_466_3 (p0 : Int32) (p1 : Int32) (p2 : Int32) (p3 : Int32) (p4 : Int32) (p5 : Int32) (hc4_1 : ¬ ((p4 &&& (1 : Int32)) = (0 : Int32))) (hc18_3 : (p4 &&& (2 : Int32)) = (0 : Int32)) (v8_34 : Int64) (ev8_34 : v8_34 = ((p0.toInt64) &&& (4294967295 : Int64))) (hc45_4 : ¬ (v8_34 = (0 : Int64))) (y87 : Int32) (ey87 : y87 = (nar .byte (((p1.toUInt32 >>> ((16 : Int32) &&& 31).toUInt32).toInt32).toInt8.toInt32))) : (nar .byte y87) = y87 := by
  subst_vars
  exact own_nb _
theorem own_hc0_477_3 (p0 : Int32) (p1 : Int32) (p2 : Int32) (p3 : Int32) (p4 : Int32) (p5 : Int32) (hc4_1 : ¬ ((p4 &&& (1 : Int32)) = (0 : Int32))) (hc18_3 : (p4 &&& (2 : Int32)) = (0 : Int32)) (v8_34 : Int64) (ev8_34 : v8_34 = ((p0.toInt64) &&& (4294967295 : Int64))) (hc45_4 : ¬ (v8_34 = (0 : Int64))) (y96 : Int32) (ey96 : y96 = (nar .byte (((p1.toUInt32 >>> ((8 : Int32) &&& 31).toUInt32).toInt32).toInt8.toInt32))) : (nar .byte y96) = y96 := by
  subst_vars
  exact own_nb _
theorem own_hc0_488_3 (p0 : Int32) (p1 : Int32) (p2 : Int32) (p3 : Int32) (p4 : Int32) (p5 : Int32) (hc4_1 : ¬ ((p4 &&& (1 : Int32)) = (0 : Int32))) (hc18_3 : (p4 &&& (2 : Int32)) = (0 : Int32)) (v8_34 : Int64) (ev8_34 : v8_34 = ((p0.toInt64) &&& (4294967295 : Int64))) (hc45_4 : ¬ (v8_34 = (0 : Int64))) (y102 : Int32) (ey102 : y102 = (nar .byte (p1.toInt8.toInt32))) : (nar .byte y102) = y102 := by
  subst_vars
  exact own_nb _
theorem own_hc0_499_3 (p0 : Int32) (p1 : Int32) (p2 : Int32) (p3 : Int32) (p4 : Int32) (p5 : Int32) (hc4_1 : ¬ ((p4 &&& (1 : Int32)) = (0 : Int32))) (hc18_3 : (p4 &&& (2 : Int32)) = (0 : Int32)) (v8_34 : Int64) (ev8_34 : v8_34 = ((p0.toInt64) &&& (4294967295 : Int64))) (hc45_4 : ¬ (v8_34 = (0 : Int64))) (y111 : Int32) (ey111 : y111 = (nar .byte (((p2.toUInt32 >>> ((24 : Int32) &&& 31).toUInt32).toInt32).toInt8.toInt32))) : (nar .byte y111) = y111 := by
  subst_vars
  exact own_nb _
theorem own_hc0_510_3 (p0 : Int32) (p1 : Int32) (p2 : Int32) (p3 : Int32) (p4 : Int32) (p5 : Int32) (hc4_1 : ¬ ((p4 &&& (1 : Int32)) = (0 : Int32))) (hc18_3 : (p4 &&& (2 : Int32)) = (0 : Int32)) (v8_34 : Int64) (ev8_34 : v8_34 = ((p0.toInt64) &&& (4294967295 : Int64))) (hc45_4 : ¬ (v8_34 = (0 : Int64))) (y120 : Int32) (ey120 : y120 = (nar .byte (((p2.toUInt32 >>> ((16 : Int32) &&& 31).toUInt32).toInt32).toInt8.toInt32))) : (nar .byte y120) = y120 := by
  subst_vars
  exact own_nb _
theorem own_hc0_523_3 (p0 : Int32) (p1 : Int32) (p2 : Int32) (p3 : Int32) (p4 : Int32) (p5 : Int32) (hc4_1 : ¬ ((p4 &&& (1 : Int32)) = (0 : Int32))) (hc18_3 : (p4 &&& (2 : Int32)) = (0 : Int32)) (v8_34 : Int64) (ev8_34 : v8_34 = ((p0.toInt64) &&& (4294967295 : Int64))) (hc45_4 : ¬ (v8_34 = (0 : Int64))) (y130 : Int32) (ey130 : y130 = (nar .byte (((p2.toUInt32 >>> ((8 : Int32) &&& 31).toUInt32).toInt32).toInt8.toInt32))) : (nar .byte y130) = y130 := by
  subst_vars
  exact own_nb _
theorem own_hc0_536_3 (p0 : Int32) (p1 : Int32) (p2 : Int32) (p3 : Int32) (p4 : Int32) (p5 : Int32) (hc4_1 : ¬ ((p4 &&& (1 : Int32)) = (0 : Int32))) (hc18_3 : (p4 &&& (2 : Int32)) = (0 : Int32)) (v8_34 : Int64) (ev8_34 : v8_34 = ((p0.toInt64) &&& (4294967295 : Int64))) (hc45_4 : ¬ (v8_34 = (0 : Int64))) (y137 : Int32) (ey137 : y137 = (nar .byte (p2.toInt8.toInt32))) : (nar .byte y137) = y137 := by
  subst_vars
  exact own_nb _
theorem own_hc0_549_3 (p0 : Int32) (p1 : Int32) (p2 : Int32) (p3 : Int32) (p4 : Int32) (p5 : Int32) (hc4_1 : ¬ ((p4 &&& (1 : Int32)) = (0 : Int32))) (hc18_3 : (p4 &&& (2 : Int32)) = (0 : Int32)) (v8_34 : Int64) (ev8_34 : v8_34 = ((p0.toInt64) &&& (4294967295 : Int64))) (hc45_4 : ¬ (v8_34 = (0 : Int64))) (y147 : Int32) (ey147 : y147 = (nar .byte (((p3.toUInt32 >>> ((24 : Int32) &&& 31).toUInt32).toInt32).toInt8.toInt32))) : (nar .byte y147) = y147 := by
  subst_vars
  exact own_nb _
theorem own_hc0_562_3 (p0 : Int32) (p1 : Int32) (p2 : Int32) (p3 : Int32) (p4 : Int32) (p5 : Int32) (hc4_1 : ¬ ((p4 &&& (1 : Int32)) = (0 : Int32))) (hc18_3 : (p4 &&& (2 : Int32)) = (0 : Int32)) (v8_34 : Int64) (ev8_34 : v8_34 = ((p0.toInt64) &&& (4294967295 : Int64))) (hc45_4 : ¬ (v8_34 = (0 : Int64))) (y157 : Int32) (ey157 : y157 = (nar .byte (((p3.toUInt32 >>> ((16 : Int32) &&& 31).toUInt32).toInt32).toInt8.toInt32))) : (nar .byte y157) = y157 := by
  subst_vars
  exact own_nb _
theorem own_hc0_575_3 (p0 : Int32) (p1 : Int32) (p2 : Int32) (p3 : Int32) (p4 : Int32) (p5 : Int32) (hc4_1 : ¬ ((p4 &&& (1 : Int32)) = (0 : Int32))) (hc18_3 : (p4 &&& (2 : Int32)) = (0 : Int32)) (v8_34 : Int64) (ev8_34 : v8_34 = ((p0.toInt64) &&& (4294967295 : Int64))) (hc45_4 : ¬ (v8_34 = (0 : Int64))) (y167 : Int32) (ey167 : y167 = (nar .byte (((p3.toUInt32 >>> ((8 : Int32) &&& 31).toUInt32).toInt32).toInt8.toInt32))) : (nar .byte y167) = y167 := by
  subst_vars
  exact own_nb _
theorem own_hc0_588_3 (p0 : Int32) (p1 : Int32) (p2 : Int32) (p3 : Int32) (p4 : Int32) (p5 : Int32) (hc4_1 : ¬ ((p4 &&& (1 : Int32)) = (0 : Int32))) (hc18_3 : (p4 &&& (2 : Int32)) = (0 : Int32)) (v8_34 : Int64) (ev8_34 : v8_34 = ((p0.toInt64) &&& (4294967295 : Int64))) (hc45_4 : ¬ (v8_34 = (0 : Int64))) (y174 : Int32) (ey174 : y174 = (nar .byte (p3.toInt8.toInt32))) : (nar .byte y174) = y174 := by
  subst_vars
  exact own_nb _
theorem own_hc0_613_3 (p0 : Int32) (p1 : Int32) (p2 : Int32) (p3 : Int32) (p4 : Int32) (p5 : Int32) (hc4_1 : ¬ ((p4 &&& (1 : Int32)) = (0 : Int32))) (hc18_3 : (p4 &&& (2 : Int32)) = (0 : Int32)) (v8_34 : Int64) (ev8_34 : v8_34 = ((p0.toInt64) &&& (4294967295 : Int64))) (hc45_4 : ¬ (v8_34 = (0 : Int64))) : (f10 (2 : Int32) v8_34) = (2 : Int32) := by
  rfl
theorem own_hc0_633_3 (p0 : Int32) (p1 : Int32) (p2 : Int32) (p3 : Int32) (p4 : Int32) (p5 : Int32) (hc4_1 : ¬ ((p4 &&& (1 : Int32)) = (0 : Int32))) (hc18_3 : (p4 &&& (2 : Int32)) = (0 : Int32)) (v8_34 : Int64) (ev8_34 : v8_34 = ((p0.toInt64) &&& (4294967295 : Int64))) (hc45_4 : ¬ (v8_34 = (0 : Int64))) : (f11 (2 : Int32) v8_34) = v8_34 := by
  rfl
theorem own_hc0_643_3 (p0 : Int32) (p1 : Int32) (p2 : Int32) (p3 : Int32) (p4 : Int32) (p5 : Int32) (hc4_1 : ¬ ((p4 &&& (1 : Int32)) = (0 : Int32))) (hc18_3 : (p4 &&& (2 : Int32)) = (0 : Int32)) (v8_34 : Int64) (ev8_34 : v8_34 = ((p0.toInt64) &&& (4294967295 : Int64))) (hc45_4 : ¬ (v8_34 = (0 : Int64))) : (f12 (2 : Int32)) = (17 : Int32) := by
  rfl
theorem own_pr0_427_hv0_4 (p0 : Int32) (p1 : Int32) (p2 : Int32) (p3 : Int32) (p4 : Int32) (p5 : Int32) (hc4_1 : ¬ ((p4 &&& (1 : Int32)) = (0 : Int32))) (hc18_3 : ¬ ((p4 &&& (2 : Int32)) = (0 : Int32))) (v8_34 : Int64) (ev8_34 : v8_34 = ((p0.toInt64) &&& (4294967295 : Int64))) (hc45_5 : ¬ (v8_34 = (0 : Int64))) (y78 : Int32) (ey78 : y78 = (nar .byte (((p1.toUInt32 >>> ((24 : Int32) &&& 31).toUInt32).toInt32).toInt8.toInt32))) (y87 : Int32) (ey87 : y87 = (nar .byte (((p1.toUInt32 >>> ((16 : Int32) &&& 31).toUInt32).toInt32).toInt8.toInt32))) (y96 : Int32) (ey96 : y96 = (nar .byte (((p1.toUInt32 >>> ((8 : Int32) &&& 31).toUInt32).toInt32).toInt8.toInt32))) (y102 : Int32) (ey102 : y102 = (nar .byte (p1.toInt8.toInt32))) (y111 : Int32) (ey111 : y111 = (nar .byte (((p2.toUInt32 >>> ((24 : Int32) &&& 31).toUInt32).toInt32).toInt8.toInt32))) (y120 : Int32) (ey120 : y120 = (nar .byte (((p2.toUInt32 >>> ((16 : Int32) &&& 31).toUInt32).toInt32).toInt8.toInt32))) (y130 : Int32) (ey130 : y130 = (nar .byte (((p2.toUInt32 >>> ((8 : Int32) &&& 31).toUInt32).toInt32).toInt8.toInt32))) (y137 : Int32) (ey137 : y137 = (nar .byte (p2.toInt8.toInt32))) (y147 : Int32) (ey147 : y147 = (nar .byte (((p3.toUInt32 >>> ((24 : Int32) &&& 31).toUInt32).toInt32).toInt8.toInt32))) (y157 : Int32) (ey157 : y157 = (nar .byte (((p3.toUInt32 >>> ((16 : Int32) &&& 31).toUInt32).toInt32).toInt8.toInt32))) (y167 : Int32) (ey167 : y167 = (nar .byte (((p3.toUInt32 >>> ((8 : Int32) &&& 31).toUInt32).toInt32).toInt8.toInt32))) (y174 : Int32) (ey174 : y174 = (nar .byte (p3.toInt8.toInt32))) (y215 : Int32) (ey215 : y215 = (nar .byte ((2 : Int32).toInt8.toInt32))) (y229 : Int32) (ey229 : y229 = (nar .byte (((p0.toUInt32 >>> ((24 : Int32) &&& 31).toUInt32).toInt32).toInt8.toInt32))) (y238 : Int32) (ey238 : y238 = (nar .byte (((p0.toUInt32 >>> ((16 : Int32) &&& 31).toUInt32).toInt32).toInt8.toInt32))) (y247 : Int32) (ey247 : y247 = (nar .byte (((p0.toUInt32 >>> ((8 : Int32) &&& 31).toUInt32).toInt32).toInt8.toInt32))) (y253 : Int32) (ey253 : y253 = (nar .byte (p0.toInt8.toInt32))) (y410 : Int32) (ey410 : y410 = (nar .byte (p5.toInt8.toInt32))) (y424 : Int32) (ey424 : y424 = (nar .byte (((p5.toUInt32 >>> ((8 : Int32) &&& 31).toUInt32).toInt32).toInt8.toInt32))) : ([y215, y229, y238, y247, y253, (nar .byte y78), (nar .byte y87), (nar .byte y96), (nar .byte y102), (nar .byte y111), (nar .byte y120), (nar .byte y130), (nar .byte y137), (nar .byte y147), (nar .byte y157), (nar .byte y167), (nar .byte y174), y410, (0 : Int32), (0 : Int32), (0 : Int32), (0 : Int32), (0 : Int32), (0 : Int32), (0 : Int32), (0 : Int32), (0 : Int32), (0 : Int32), (0 : Int32), (0 : Int32), (0 : Int32), (0 : Int32), y424].getD ((0 : Int32)).toNatClampNeg 0) = (2 : Int32) := by
  subst_vars
  rfl
theorem own_pr0_427_hn_4 (p0 : Int32) (p1 : Int32) (p2 : Int32) (p3 : Int32) (p4 : Int32) (p5 : Int32) (hc4_1 : ¬ ((p4 &&& (1 : Int32)) = (0 : Int32))) (hc18_3 : ¬ ((p4 &&& (2 : Int32)) = (0 : Int32))) (v8_34 : Int64) (ev8_34 : v8_34 = ((p0.toInt64) &&& (4294967295 : Int64))) (hc45_5 : ¬ (v8_34 = (0 : Int64))) : ¬ (33 : Int32) < (33 : Int32) := by
  decide
theorem own_pr0_427_hn2_4 (p0 : Int32) (p1 : Int32) (p2 : Int32) (p3 : Int32) (p4 : Int32) (p5 : Int32) (hc4_1 : ¬ ((p4 &&& (1 : Int32)) = (0 : Int32))) (hc18_3 : ¬ ((p4 &&& (2 : Int32)) = (0 : Int32))) (v8_34 : Int64) (ev8_34 : v8_34 = ((p0.toInt64) &&& (4294967295 : Int64))) (hc45_5 : ¬ (v8_34 = (0 : Int64))) : (33 : Int32) < (1000 : Int32) := by
  decide
theorem own_pr0_427_hgen_2 (p0 : Int32) (p1 : Int32) (p2 : Int32) (p3 : Int32) (p4 : Int32) (p5 : Int32) (hc4_1 : ¬ ((p4 &&& (1 : Int32)) = (0 : Int32))) (hc18_3 : ¬ ((p4 &&& (2 : Int32)) = (0 : Int32))) (v8_34 : Int64) (ev8_34 : v8_34 = ((p0.toInt64) &&& (4294967295 : Int64))) (hc45_5 : ¬ (v8_34 = (0 : Int64))) (y78 : Int32) (ey78 : y78 = (nar .byte (((p1.toUInt32 >>> ((24 : Int32) &&& 31).toUInt32).toInt32).toInt8.toInt32))) (y87 : Int32) (ey87 : y87 = (nar .byte (((p1.toUInt32 >>> ((16 : Int32) &&& 31).toUInt32).toInt32).toInt8.toInt32))) (y96 : Int32) (ey96 : y96 = (nar .byte (((p1.toUInt32 >>> ((8 : Int32) &&& 31).toUInt32).toInt32).toInt8.toInt32))) (y102 : Int32) (ey102 : y102 = (nar .byte (p1.toInt8.toInt32))) (y111 : Int32) (ey111 : y111 = (nar .byte (((p2.toUInt32 >>> ((24 : Int32) &&& 31).toUInt32).toInt32).toInt8.toInt32))) (y120 : Int32) (ey120 : y120 = (nar .byte (((p2.toUInt32 >>> ((16 : Int32) &&& 31).toUInt32).toInt32).toInt8.toInt32))) (y130 : Int32) (ey130 : y130 = (nar .byte (((p2.toUInt32 >>> ((8 : Int32) &&& 31).toUInt32).toInt32).toInt8.toInt32))) (y137 : Int32) (ey137 : y137 = (nar .byte (p2.toInt8.toInt32))) (y147 : Int32) (ey147 : y147 = (nar .byte (((p3.toUInt32 >>> ((24 : Int32) &&& 31).toUInt32).toInt32).toInt8.toInt32))) (y157 : Int32) (ey157 : y157 = (nar .byte (((p3.toUInt32 >>> ((16 : Int32) &&& 31).toUInt32).toInt32).toInt8.toInt32))) (y167 : Int32) (ey167 : y167 = (nar .byte (((p3.toUInt32 >>> ((8 : Int32) &&& 31).toUInt32).toInt32).toInt8.toInt32))) (y174 : Int32) (ey174 : y174 = (nar .byte (p3.toInt8.toInt32))) (y215 : Int32) (ey215 : y215 = (nar .byte ((2 : Int32).toInt8.toInt32))) (y229 : Int32) (ey229 : y229 = (nar .byte (((p0.toUInt32 >>> ((24 : Int32) &&& 31).toUInt32).toInt32).toInt8.toInt32))) (y238 : Int32) (ey238 : y238 = (nar .byte (((p0.toUInt32 >>> ((16 : Int32) &&& 31).toUInt32).toInt32).toInt8.toInt32))) (y247 : Int32) (ey247 : y247 = (nar .byte (((p0.toUInt32 >>> ((8 : Int32) &&& 31).toUInt32).toInt32).toInt8.toInt32))) (y253 : Int32) (ey253 : y253 = (nar .byte (p0.toInt8.toInt32))) (y410 : Int32) (ey410 : y410 = (nar .byte (p5.toInt8.toInt32))) (y424 : Int32) (ey424 : y424 = (nar .byte (((p5.toUInt32 >>> ((8 : Int32) &&& 31).toUInt32).toInt32).toInt8.toInt32))) : (((((((((0 : Int64) <<< ((8 : Int32) &&& 0x3f).toInt64) ||| ((([y215, y229, y238, y247, y253, (nar .byte y78), (nar .byte y87), (nar .byte y96), (nar .byte y102), (nar .byte y111), (nar .byte y120), (nar .byte y130), (nar .byte y137), (nar .byte y147), (nar .byte y157), (nar .byte y167), (nar .byte y174), y410, (0 : Int32), (0 : Int32), (0 : Int32), (0 : Int32), (0 : Int32), (0 : Int32), (0 : Int32), (0 : Int32), (0 : Int32), (0 : Int32), (0 : Int32), (0 : Int32), (0 : Int32), (0 : Int32), y424].getD ((1 : Int32)).toNatClampNeg 0) &&& (255 : Int32)).toInt64)) <<< ((8 : Int32) &&& 0x3f).toInt64) ||| ((([y215, y229, y238, y247, y253, (nar .byte y78), (nar .byte y87), (nar .byte y96), (nar .byte y102), (nar .byte y111), (nar .byte y120), (nar .byte y130), (nar .byte y137), (nar .byte y147), (nar .byte y157), (nar .byte y167), (nar .byte y174), y410, (0 : Int32), (0 : Int32), (0 : Int32), (0 : Int32), (0 : Int32), (0 : Int32), (0 : Int32), (0 : Int32), (0 : Int32), (0 : Int32), (0 : Int32), (0 : Int32), (0 : Int32), (0 : Int32), y424].getD ((2 : Int32)).toNatClampNeg 0) &&& (255 : Int32)).toInt64)) <<< ((8 : Int32) &&& 0x3f).toInt64) ||| ((([y215, y229, y238, y247, y253, (nar .byte y78), (nar .byte y87), (nar .byte y96), (nar .byte y102), (nar .byte y111), (nar .byte y120), (nar .byte y130), (nar .byte y137), (nar .byte y147), (nar .byte y157), (nar .byte y167), (nar .byte y174), y410, (0 : Int32), (0 : Int32), (0 : Int32), (0 : Int32), (0 : Int32), (0 : Int32), (0 : Int32), (0 : Int32), (0 : Int32), (0 : Int32), (0 : Int32), (0 : Int32), (0 : Int32), (0 : Int32), y424].getD ((3 : Int32)).toNatClampNeg 0) &&& (255 : Int32)).toInt64)) <<< ((8 : Int32) &&& 0x3f).toInt64) ||| ((([y215, y229, y238, y247, y253, (nar .byte y78), (nar .byte y87), (nar .byte y96), (nar .byte y102), (nar .byte y111), (nar .byte y120), (nar .byte y130), (nar .byte y137), (nar .byte y147), (nar .byte y157), (nar .byte y167), (nar .byte y174), y410, (0 : Int32), (0 : Int32), (0 : Int32), (0 : Int32), (0 : Int32), (0 : Int32), (0 : Int32), (0 : Int32), (0 : Int32), (0 : Int32), (0 : Int32), (0 : Int32), (0 : Int32), (0 : Int32), y424].getD ((4 : Int32)).toNatClampNeg 0) &&& (255 : Int32)).toInt64)) = v8_34 := by
  subst_vars
  exact own_gen p0
theorem own_pr0_427_hg0_2 (p0 : Int32) (p1 : Int32) (p2 : Int32) (p3 : Int32) (p4 : Int32) (p5 : Int32) (hc4_1 : ¬ ((p4 &&& (1 : Int32)) = (0 : Int32))) (hc18_3 : ¬ ((p4 &&& (2 : Int32)) = (0 : Int32))) (v8_34 : Int64) (ev8_34 : v8_34 = ((p0.toInt64) &&& (4294967295 : Int64))) (hc45_5 : ¬ (v8_34 = (0 : Int64))) : ¬ (v8_34 = (0 : Int64)) := by
  assumption
theorem own_pr0_434_hlen_4 (p0 : Int32) (p1 : Int32) (p2 : Int32) (p3 : Int32) (p4 : Int32) (p5 : Int32) (hc4_1 : ¬ ((p4 &&& (1 : Int32)) = (0 : Int32))) (hc18_3 : ¬ ((p4 &&& (2 : Int32)) = (0 : Int32))) (v8_34 : Int64) (ev8_34 : v8_34 = ((p0.toInt64) &&& (4294967295 : Int64))) (hc45_5 : ¬ (v8_34 = (0 : Int64))) : (12 : Int32) = (12 : Int32) := by
  rfl
theorem own_hc0_455_4 (p0 : Int32) (p1 : Int32) (p2 : Int32) (p3 : Int32) (p4 : Int32) (p5 : Int32) (hc4_1 : ¬ ((p4 &&& (1 : Int32)) = (0 : Int32))) (hc18_3 : ¬ ((p4 &&& (2 : Int32)) = (0 : Int32))) (v8_34 : Int64) (ev8_34 : v8_34 = ((p0.toInt64) &&& (4294967295 : Int64))) (hc45_5 : ¬ (v8_34 = (0 : Int64))) (y78 : Int32) (ey78 : y78 = (nar .byte (((p1.toUInt32 >>> ((24 : Int32) &&& 31).toUInt32).toInt32).toInt8.toInt32))) : (nar .byte y78) = y78 := by
  subst_vars
  exact own_nb _
theorem own_hc0_466_4 (p0 : Int32) (p1 : Int32) (p2 : Int32) (p3 : Int32) (p4 : Int32) (p5 : Int32) (hc4_1 : ¬ ((p4 &&& (1 : Int32)) = (0 : Int32))) (hc18_3 : ¬ ((p4 &&& (2 : Int32)) = (0 : Int32))) (v8_34 : Int64) (ev8_34 : v8_34 = ((p0.toInt64) &&& (4294967295 : Int64))) (hc45_5 : ¬ (v8_34 = (0 : Int64))) (y87 : Int32) (ey87 : y87 = (nar .byte (((p1.toUInt32 >>> ((16 : Int32) &&& 31).toUInt32).toInt32).toInt8.toInt32))) : (nar .byte y87) = y87 := by
  subst_vars
  exact own_nb _
theorem own_hc0_477_4 (p0 : Int32) (p1 : Int32) (p2 : Int32) (p3 : Int32) (p4 : Int32) (p5 : Int32) (hc4_1 : ¬ ((p4 &&& (1 : Int32)) = (0 : Int32))) (hc18_3 : ¬ ((p4 &&& (2 : Int32)) = (0 : Int32))) (v8_34 : Int64) (ev8_34 : v8_34 = ((p0.toInt64) &&& (4294967295 : Int64))) (hc45_5 : ¬ (v8_34 = (0 : Int64))) (y96 : Int32) (ey96 : y96 = (nar .byte (((p1.toUInt32 >>> ((8 : Int32) &&& 31).toUInt32).toInt32).toInt8.toInt32))) : (nar .byte y96) = y96 := by
  subst_vars
  exact own_nb _
theorem own_hc0_488_4 (p0 : Int32) (p1 : Int32) (p2 : Int32) (p3 : Int32) (p4 : Int32) (p5 : Int32) (hc4_1 : ¬ ((p4 &&& (1 : Int32)) = (0 : Int32))) (hc18_3 : ¬ ((p4 &&& (2 : Int32)) = (0 : Int32))) (v8_34 : Int64) (ev8_34 : v8_34 = ((p0.toInt64) &&& (4294967295 : Int64))) (hc45_5 : ¬ (v8_34 = (0 : Int64))) (y102 : Int32) (ey102 : y102 = (nar .byte (p1.toInt8.toInt32))) : (nar .byte y102) = y102 := by
  subst_vars
  exact own_nb _
theorem own_hc0_499_4 (p0 : Int32) (p1 : Int32) (p2 : Int32) (p3 : Int32) (p4 : Int32) (p5 : Int32) (hc4_1 : ¬ ((p4 &&& (1 : Int32)) = (0 : Int32))) (hc18_3 : ¬ ((p4 &&& (2 : Int32)) = (0 : Int32))) (v8_34 : Int64) (ev8_34 : v8_34 = ((p0.toInt64) &&& (4294967295 : Int64))) (hc45_5 : ¬ (v8_34 = (0 : Int64))) (y111 : Int32) (ey111 : y111 = (nar .byte (((p2.toUInt32 >>> ((24 : Int32) &&& 31).toUInt32).toInt32).toInt8.toInt32))) : (nar .byte y111) = y111 := by
  subst_vars
  exact own_nb _
theorem own_hc0_510_4 (p0 : Int32) (p1 : Int32) (p2 : Int32) (p3 : Int32) (p4 : Int32) (p5 : Int32) (hc4_1 : ¬ ((p4 &&& (1 : Int32)) = (0 : Int32))) (hc18_3 : ¬ ((p4 &&& (2 : Int32)) = (0 : Int32))) (v8_34 : Int64) (ev8_34 : v8_34 = ((p0.toInt64) &&& (4294967295 : Int64))) (hc45_5 : ¬ (v8_34 = (0 : Int64))) (y120 : Int32) (ey120 : y120 = (nar .byte (((p2.toUInt32 >>> ((16 : Int32) &&& 31).toUInt32).toInt32).toInt8.toInt32))) : (nar .byte y120) = y120 := by
  subst_vars
  exact own_nb _
theorem own_hc0_523_4 (p0 : Int32) (p1 : Int32) (p2 : Int32) (p3 : Int32) (p4 : Int32) (p5 : Int32) (hc4_1 : ¬ ((p4 &&& (1 : Int32)) = (0 : Int32))) (hc18_3 : ¬ ((p4 &&& (2 : Int32)) = (0 : Int32))) (v8_34 : Int64) (ev8_34 : v8_34 = ((p0.toInt64) &&& (4294967295 : Int64))) (hc45_5 : ¬ (v8_34 = (0 : Int64))) (y130 : Int32) (ey130 : y130 = (nar .byte (((p2.toUInt32 >>> ((8 : Int32) &&& 31).toUInt32).toInt32).toInt8.toInt32))) : (nar .byte y130) = y130 := by
  subst_vars
  exact own_nb _
theorem own_hc0_536_4 (p0 : Int32) (p1 : Int32) (p2 : Int32) (p3 : Int32) (p4 : Int32) (p5 : Int32) (hc4_1 : ¬ ((p4 &&& (1 : Int32)) = (0 : Int32))) (hc18_3 : ¬ ((p4 &&& (2 : Int32)) = (0 : Int32))) (v8_34 : Int64) (ev8_34 : v8_34 = ((p0.toInt64) &&& (4294967295 : Int64))) (hc45_5 : ¬ (v8_34 = (0 : Int64))) (y137 : Int32) (ey137 : y137 = (nar .byte (p2.toInt8.toInt32))) : (nar .byte y137) = y137 := by
  subst_vars
  exact own_nb _
theorem own_hc0_549_4 (p0 : Int32) (p1 : Int32) (p2 : Int32) (p3 : Int32) (p4 : Int32) (p5 : Int32) (hc4_1 : ¬ ((p4 &&& (1 : Int32)) = (0 : Int32))) (hc18_3 : ¬ ((p4 &&& (2 : Int32)) = (0 : Int32))) (v8_34 : Int64) (ev8_34 : v8_34 = ((p0.toInt64) &&& (4294967295 : Int64))) (hc45_5 : ¬ (v8_34 = (0 : Int64))) (y147 : Int32) (ey147 : y147 = (nar .byte (((p3.toUInt32 >>> ((24 : Int32) &&& 31).toUInt32).toInt32).toInt8.toInt32))) : (nar .byte y147) = y147 := by
  subst_vars
  exact own_nb _
theorem own_hc0_562_4 (p0 : Int32) (p1 : Int32) (p2 : Int32) (p3 : Int32) (p4 : Int32) (p5 : Int32) (hc4_1 : ¬ ((p4 &&& (1 : Int32)) = (0 : Int32))) (hc18_3 : ¬ ((p4 &&& (2 : Int32)) = (0 : Int32))) (v8_34 : Int64) (ev8_34 : v8_34 = ((p0.toInt64) &&& (4294967295 : Int64))) (hc45_5 : ¬ (v8_34 = (0 : Int64))) (y157 : Int32) (ey157 : y157 = (nar .byte (((p3.toUInt32 >>> ((16 : Int32) &&& 31).toUInt32).toInt32).toInt8.toInt32))) : (nar .byte y157) = y157 := by
  subst_vars
  exact own_nb _
theorem own_hc0_575_4 (p0 : Int32) (p1 : Int32) (p2 : Int32) (p3 : Int32) (p4 : Int32) (p5 : Int32) (hc4_1 : ¬ ((p4 &&& (1 : Int32)) = (0 : Int32))) (hc18_3 : ¬ ((p4 &&& (2 : Int32)) = (0 : Int32))) (v8_34 : Int64) (ev8_34 : v8_34 = ((p0.toInt64) &&& (4294967295 : Int64))) (hc45_5 : ¬ (v8_34 = (0 : Int64))) (y167 : Int32) (ey167 : y167 = (nar .byte (((p3.toUInt32 >>> ((8 : Int32) &&& 31).toUInt32).toInt32).toInt8.toInt32))) : (nar .byte y167) = y167 := by
  subst_vars
  exact own_nb _
theorem own_hc0_588_4 (p0 : Int32) (p1 : Int32) (p2 : Int32) (p3 : Int32) (p4 : Int32) (p5 : Int32) (hc4_1 : ¬ ((p4 &&& (1 : Int32)) = (0 : Int32))) (hc18_3 : ¬ ((p4 &&& (2 : Int32)) = (0 : Int32))) (v8_34 : Int64) (ev8_34 : v8_34 = ((p0.toInt64) &&& (4294967295 : Int64))) (hc45_5 : ¬ (v8_34 = (0 : Int64))) (y174 : Int32) (ey174 : y174 = (nar .byte (p3.toInt8.toInt32))) : (nar .byte y174) = y174 := by
  subst_vars
  exact own_nb _
theorem own_hc0_613_4 (p0 : Int32) (p1 : Int32) (p2 : Int32) (p3 : Int32) (p4 : Int32) (p5 : Int32) (hc4_1 : ¬ ((p4 &&& (1 : Int32)) = (0 : Int32))) (hc18_3 : ¬ ((p4 &&& (2 : Int32)) = (0 : Int32))) (v8_34 : Int64) (ev8_34 : v8_34 = ((p0.toInt64) &&& (4294967295 : Int64))) (hc45_5 : ¬ (v8_34 = (0 : Int64))) : (f10 (2 : Int32) v8_34) = (2 : Int32) := by
  rfl
theorem own_hc0_633_4 (p0 : Int32) (p1 : Int32) (p2 : Int32) (p3 : Int32) (p4 : Int32) (p5 : Int32) (hc4_1 : ¬ ((p4 &&& (1 : Int32)) = (0 : Int32))) (hc18_3 : ¬ ((p4 &&& (2 : Int32)) = (0 : Int32))) (v8_34 : Int64) (ev8_34 : v8_34 = ((p0.toInt64) &&& (4294967295 : Int64))) (hc45_5 : ¬ (v8_34 = (0 : Int64))) : (f11 (2 : Int32) v8_34) = v8_34 := by
  rfl
theorem own_hc0_643_4 (p0 : Int32) (p1 : Int32) (p2 : Int32) (p3 : Int32) (p4 : Int32) (p5 : Int32) (hc4_1 : ¬ ((p4 &&& (1 : Int32)) = (0 : Int32))) (hc18_3 : ¬ ((p4 &&& (2 : Int32)) = (0 : Int32))) (v8_34 : Int64) (ev8_34 : v8_34 = ((p0.toInt64) &&& (4294967295 : Int64))) (hc45_5 : ¬ (v8_34 = (0 : Int64))) : (f12 (2 : Int32)) = (17 : Int32) := by
  rfl
def Q0 (Z : State) (p0 : Int32) (p1 : Int32) (p2 : Int32) (p3 : Int32) (p4 : Int32) (p5 : Int32) (h0 : Heap) (n0 : Nat) (v : Option Value) (h : Heap) (L : List Loc) : Prop := v = some (.int 1) ∧ Fr n0 L
set_option maxRecDepth 65536 in
set_option maxHeartbeats 40000000 in
theorem rm0 (l : Launch) (Z : State) (a0 : Array Value) (hw : ∀ d ∈ tables_1, d.before a0 Z = true) (ws : List Jvm.Cond) (p0 : Int32) (p1 : Int32) (p2 : Int32) (p3 : Int32) (p4 : Int32) (p5 : Int32) (h0 : Heap) (n0 : Nat) (Z0 : n0 ≤ h0.size) :
    MetFree l x (head1 (Jvm.Cond.code x code maxLocals ret :: ws) room_1) (fun a U => a = #[(.int p0), (.int p1), (.int p2), (.int p3), (.int p4), (.int p5)] ∧ Z.Warmed39 U.vm ∧ U.heap = h0) (fun _ _ _ _ _ => True) (fun _ U o U' => ∃ v L, o = .returned v ∧ Q0 Z p0 p1 p2 p3 p4 p5 h0 n0 v U'.heap L ∧ FrameEnd U o U' L room_1.cells room_1.slots) := by
  refine MetFree.of_bodySF (plainFor_of_name pn2) hisR ?_
  intro p e s m args below meth c s₁ Bd hml0 hP hK
  obtain ⟨rfl, hZ, hh⟩ := hP
  have hx := Bd.exec
  have hby := Bd.bytes
  have hml : c.maxLocals = 17 := hml0
  have hown : s.vm.findClass "com/example/isopod/isopod/RecordHeaderReadPinLaw" = some m.cls := findClass_of_methodNamed Bd.named
  have hnm := (name_of_methodNamed Bd.named Bd.method).1
  have X0 : Stand p l e room_1 s m #[(.int p0), (.int p1), (.int p2), (.int p3), (.int p4), (.int p5)] below meth c s₁ [] 0 0 := Stand.of_body Bd
  have e0 : s₁.heap = h0 := by rw [← hh, Bd.state]; rfl
  have N0 := Fr.nil n0
  refine Goes.out (Q := fun o U' => ∃ v L, o = .returned v ∧ Q0 Z p0 p1 p2 p3 p4 p5 h0 n0 v U'.heap L ∧ FrameEnd s o U' L room_1.cells room_1.slots) ?_
  refine Goes.step (S' := s₁.setTop (mkF m 0 #[.val (.int p0), .val (.int p1), .val (.int p2), .val (.int p3), .val (.int p4), .val (.int p5), .unset, .unset, .unset, .unset, .unset, .unset, .unset, .unset, .unset, .unset, .unset] [])) (fun _ k => castTop (ef0 m p0 p1 p2 p3 p4 p5) k) ?_
  refine G_iload X0 hx (hb hby at_0) rfl (pc' := 2) rfl ?_
  refine G_iconst X0 hx (hb hby at_2) (z := 1) rfl (pc' := 3) rfl ?_
  refine Goes.step (S' := s₁.setTop (mkF m 4 #[.val (.int p0), .val (.int p1), .val (.int p2), .val (.int p3), .val (.int p4), .val (.int p5), .unset, .unset, .unset, .unset, .unset, .unset, .unset, .unset, .unset, .unset, .unset] [(.int (p4 &&& (1 : Int32)))])) (fun _ k => XS.iand X0.here hx rfl (hb hby at_3) rfl k) ?_
  by_cases hc4_1 : (p4 &&& (1 : Int32)) = (0 : Int32)
  · refine Goes.step (S' := s₁.setTop (mkF m 11 #[.val (.int p0), .val (.int p1), .val (.int p2), .val (.int p3), .val (.int p4), .val (.int p5), .unset, .unset, .unset, .unset, .unset, .unset, .unset, .unset, .unset, .unset, .unset] [])) (fun _ k => XS.ifYes X0.here hx rfl (pc0 := 4) (pc' := 11) rfl (hb hby at_4) rfl ((if0 _ _).trans (teq hc4_1).1) (by decide) (by decide) k) ?_
    refine G_iconst X0 hx (hb hby at_11) (z := 0) rfl (pc' := 12) rfl ?_
    refine Goes.step (S' := s₁.setTop (mkF m 14 #[.val (.int p0), .val (.int p1), .val (.int p2), .val (.int p3), .val (.int p4), .val (.int p5), .val (.int (0 : Int32)), .unset, .unset, .unset, .unset, .unset, .unset, .unset, .unset, .unset, .unset] [])) (fun _ k => XS.istore X0.here hx rfl (hb hby at_12) rfl (l' := #[.val (.int p0), .val (.int p1), .val (.int p2), .val (.int p3), .val (.int p4), .val (.int p5), .val (.int (0 : Int32)), .unset, .unset, .unset, .unset, .unset, .unset, .unset, .unset, .unset, .unset]) rfl k) ?_
    refine G_iload X0 hx (hb hby at_14) rfl (pc' := 16) rfl ?_
    refine G_iconst X0 hx (hb hby at_16) (z := 2) rfl (pc' := 17) rfl ?_
    refine Goes.step (S' := s₁.setTop (mkF m 18 #[.val (.int p0), .val (.int p1), .val (.int p2), .val (.int p3), .val (.int p4), .val (.int p5), .val (.int (0 : Int32)), .unset, .unset, .unset, .unset, .unset, .unset, .unset, .unset, .unset, .unset] [(.int (p4 &&& (2 : Int32)))])) (fun _ k => XS.iand X0.here hx rfl (hb hby at_17) rfl k) ?_
    by_cases hc18_2 : (p4 &&& (2 : Int32)) = (0 : Int32)
    · refine Goes.step (S' := s₁.setTop (mkF m 25 #[.val (.int p0), .val (.int p1), .val (.int p2), .val (.int p3), .val (.int p4), .val (.int p5), .val (.int (0 : Int32)), .unset, .unset, .unset, .unset, .unset, .unset, .unset, .unset, .unset, .unset] [])) (fun _ k => XS.ifYes X0.here hx rfl (pc0 := 18) (pc' := 25) rfl (hb hby at_18) rfl ((if0 _ _).trans (teq hc18_2).1) (by decide) (by decide) k) ?_
      refine G_iconst X0 hx (hb hby at_25) (z := 0) rfl (pc' := 26) rfl ?_
      refine Goes.step (S' := s₁.setTop (mkF m 28 #[.val (.int p0), .val (.int p1), .val (.int p2), .val (.int p3), .val (.int p4), .val (.int p5), .val (.int (0 : Int32)), .val (.int (0 : Int32)), .unset, .unset, .unset, .unset, .unset, .unset, .unset, .unset, .unset] [])) (fun _ k => XS.istore X0.here hx rfl (hb hby at_26) rfl (l' := #[.val (.int p0), .val (.int p1), .val (.int p2), .val (.int p3), .val (.int p4), .val (.int p5), .val (.int (0 : Int32)), .val (.int (0 : Int32)), .unset, .unset, .unset, .unset, .unset, .unset, .unset, .unset, .unset]) rfl k) ?_
      refine G_iloadN X0 hx (hb hby at_28) rfl (pc' := 29) rfl ?_
      refine Goes.step (S' := s₁.setTop (mkF m 30 #[.val (.int p0), .val (.int p1), .val (.int p2), .val (.int p3), .val (.int p4), .val (.int p5), .val (.int (0 : Int32)), .val (.int (0 : Int32)), .unset, .unset, .unset, .unset, .unset, .unset, .unset, .unset, .unset] [(.long (p0.toInt64))])) (fun _ k => XS.i2l X0.here hx rfl (hb hby at_29) rfl k) ?_
      refine Goes.step (S' := s₁.setTop (mkF m 33 #[.val (.int p0), .val (.int p1), .val (.int p2), .val (.int p3), .val (.int p4), .val (.int p5), .val (.int (0 : Int32)), .val (.int (0 : Int32)), .unset, .unset, .unset, .unset, .unset, .unset, .unset, .unset, .unset] [(.long (4294967295 : Int64)), (.long (p0.toInt64))])) (fun _ k => X0.ldc2Long hx hown (mvT hZ (hw _ (List.mem_of_getElem? (i := 0) rfl))) (g := (mkF m 30 #[.val (.int p0), .val (.int p1), .val (.int p2), .val (.int p3), .val (.int p4), .val (.int p5), .val (.int (0 : Int32)), .val (.int (0 : Int32)), .unset, .unset, .unset, .unset, .unset, .unset, .unset, .unset, .unset] [(.long (p0.toInt64))])) rfl (hb hby at_30) _ k) ?_
      refine Goes.step (S' := s₁.setTop (mkF m 34 #[.val (.int p0), .val (.int p1), .val (.int p2), .val (.int p3), .val (.int p4), .val (.int p5), .val (.int (0 : Int32)), .val (.int (0 : Int32)), .unset, .unset, .unset, .unset, .unset, .unset, .unset, .unset, .unset] [(.long ((p0.toInt64) &&& (4294967295 : Int64)))])) (fun _ k => XS.land X0.here hx rfl (hb hby at_33) rfl k) ?_
      refine Goes.step (S' := s₁.setTop (mkF m 36 #[.val (.int p0), .val (.int p1), .val (.int p2), .val (.int p3), .val (.int p4), .val (.int p5), .val (.int (0 : Int32)), .val (.int (0 : Int32)), .val (.long ((p0.toInt64) &&& (4294967295 : Int64))), .second, .unset, .unset, .unset, .unset, .unset, .unset, .unset] [])) (fun _ k => XS.lstore X0.here hx rfl (hb hby at_34) rfl (l' := #[.val (.int p0), .val (.int p1), .val (.int p2), .val (.int p3), .val (.int p4), .val (.int p5), .val (.int (0 : Int32)), .val (.int (0 : Int32)), .val (.long ((p0.toInt64) &&& (4294967295 : Int64))), .second, .unset, .unset, .unset, .unset, .unset, .unset, .unset]) rfl k) ?_
      obtain ⟨v8_34, ev8_34⟩ : ∃ z : Int64, z = ((p0.toInt64) &&& (4294967295 : Int64)) := ⟨_, rfl⟩
      rw [← ev8_34]
      refine G_iload X0 hx (hb hby at_36) rfl (pc' := 38) rfl ?_
      refine Goes.step (S' := s₁.setTop (mkF m 50 #[.val (.int p0), .val (.int p1), .val (.int p2), .val (.int p3), .val (.int p4), .val (.int p5), .val (.int (0 : Int32)), .val (.int (0 : Int32)), .val (.long v8_34), .second, .unset, .unset, .unset, .unset, .unset, .unset, .unset] [])) (fun _ k => XS.ifYes X0.here hx rfl (pc0 := 38) (pc' := 50) rfl (hb hby at_38) rfl ((if0 _ _).trans (teq (rfl : (0 : Int32) = (0 : Int32))).1) (by decide) (by decide) k) ?_
      refine G_iload X0 hx (hb hby at_50) rfl (pc' := 52) rfl ?_
      refine Goes.step (S' := s₁.setTop (mkF m 60 #[.val (.int p0), .val (.int p1), .val (.int p2), .val (.int p3), .val (.int p4), .val (.int p5), .val (.int (0 : Int32)), .val (.int (0 : Int32)), .val (.long v8_34), .second, .unset, .unset, .unset, .unset, .unset, .unset, .unset] [])) (fun _ k => XS.ifYes X0.here hx rfl (pc0 := 52) (pc' := 60) rfl (hb hby at_52) rfl ((if0 _ _).trans (teq (rfl : (0 : Int32) = (0 : Int32))).1) (by decide) (by decide) k) ?_
      refine G_bipush X0 hx (hb hby at_60) (z := 13) rfl (pc' := 62) rfl ?_
      refine Goes.step (S' := s₁.setTop (mkF m 64 #[.val (.int p0), .val (.int p1), .val (.int p2), .val (.int p3), .val (.int p4), .val (.int p5), .val (.int (0 : Int32)), .val (.int (0 : Int32)), .val (.long v8_34), .second, .val (.int (13 : Int32)), .unset, .unset, .unset, .unset, .unset, .unset] [])) (fun _ k => XS.istore X0.here hx rfl (hb hby at_62) rfl (l' := #[.val (.int p0), .val (.int p1), .val (.int p2), .val (.int p3), .val (.int p4), .val (.int p5), .val (.int (0 : Int32)), .val (.int (0 : Int32)), .val (.long v8_34), .second, .val (.int (13 : Int32)), .unset, .unset, .unset, .unset, .unset, .unset]) rfl k) ?_
      refine G_bipush X0 hx (hb hby at_64) (z := 12) rfl (pc' := 66) rfl ?_
      obtain ⟨T1, h1, k1, X1, e1, E1, A1, hk1, st1⟩ := own_newB X0 hx hZ (hw _ (List.mem_of_getElem? (i := 1) rfl)) e0 (g := (mkF m 66 #[.val (.int p0), .val (.int p1), .val (.int p2), .val (.int p3), .val (.int p4), .val (.int p5), .val (.int (0 : Int32)), .val (.int (0 : Int32)), .val (.long v8_34), .second, .val (.int (13 : Int32)), .unset, .unset, .unset, .unset, .unset, .unset] [(.int (12 : Int32))])) rfl (hb hby at_66) rfl (by decide) (cap := 12) (by decide) (by decide) (by decide) (by decide)
      obtain ⟨b1, g1⟩ : ∃ z, z = h0.size := ⟨_, rfl⟩
      rw [← g1] at A1 st1
      have g2 : n0 ≤ b1 := Nat.le_trans Z0 (Nat.le_of_eq g1.symm)
      have Z3 : n0 ≤ h1.size := Nat.le_trans Z0 E1.1
      have V4 : AI Z h1 b1 k1 .byte (12 : Int32) [(0 : Int32), (0 : Int32), (0 : Int32), (0 : Int32), (0 : Int32), (0 : Int32), (0 : Int32), (0 : Int32), (0 : Int32), (0 : Int32), (0 : Int32), (0 : Int32)] := own_new A1 (by decide) rfl
      refine Goes.step (S' := T1.setTop (mkF m 68 #[.val (.int p0), .val (.int p1), .val (.int p2), .val (.int p3), .val (.int p4), .val (.int p5), .val (.int (0 : Int32)), .val (.int (0 : Int32)), .val (.long v8_34), .second, .val (.int (13 : Int32)), .unset, .unset, .unset, .unset, .unset, .unset] [(.ref b1)])) st1 ?_
      refine Goes.step (S' := T1.setTop (mkF m 70 #[.val (.int p0), .val (.int p1), .val (.int p2), .val (.int p3), .val (.int p4), .val (.int p5), .val (.int (0 : Int32)), .val (.int (0 : Int32)), .val (.long v8_34), .second, .val (.int (13 : Int32)), .val (.ref b1), .unset, .unset, .unset, .unset, .unset] [])) (fun _ k => XS.astore X1.here hx rfl (hb hby at_68) rfl rfl (l' := #[.val (.int p0), .val (.int p1), .val (.int p2), .val (.int p3), .val (.int p4), .val (.int p5), .val (.int (0 : Int32)), .val (.int (0 : Int32)), .val (.long v8_34), .second, .val (.int (13 : Int32)), .val (.ref b1), .unset, .unset, .unset, .unset, .unset]) rfl k) ?_
      refine G_aload X1 hx (hb hby at_70) rfl rfl (pc' := 72) rfl ?_
      refine G_iconst X1 hx (hb hby at_72) (z := 0) rfl (pc' := 73) rfl ?_
      refine G_iloadN X1 hx (hb hby at_73) rfl (pc' := 74) rfl ?_
      refine G_bipush X1 hx (hb hby at_74) (z := 24) rfl (pc' := 76) rfl ?_
      refine G_iushr X1 hx (hb hby at_76) (pc' := 77) rfl ?_
      refine G_i2b X1 hx (hb hby at_77) (pc' := 78) rfl ?_
      obtain ⟨T5, h5, X5, e5, W5, V_5, st5⟩ := own_bastore X1 hx hZ e1 V4 ⟨by decide, by decide⟩ (g := (mkF m 78 #[.val (.int p0), .val (.int p1), .val (.int p2), .val (.int p3), .val (.int p4), .val (.int p5), .val (.int (0 : Int32)), .val (.int (0 : Int32)), .val (.long v8_34), .second, .val (.int (13 : Int32)), .val (.ref b1), .unset, .unset, .unset, .unset, .unset] [(.int (((p1.toUInt32 >>> ((24 : Int32) &&& 31).toUInt32).toInt32).toInt8.toInt32)), (.int (0 : Int32)), (.ref b1)])) rfl rfl (hb hby at_78)
      obtain ⟨y78, ey78⟩ : ∃ z : Int32, z = (nar .byte (((p1.toUInt32 >>> ((24 : Int32) &&& 31).toUInt32).toInt32).toInt8.toInt32)) := ⟨_, rfl⟩
      replace V_5 : AI Z h5 b1 k1 .byte (12 : Int32) [y78, (0 : Int32), (0 : Int32), (0 : Int32), (0 : Int32), (0 : Int32), (0 : Int32), (0 : Int32), (0 : Int32), (0 : Int32), (0 : Int32), (0 : Int32)] := by rw [ey78]; exact V_5
      have N6 := Fr.snoc X5 N0 g2
      have Z7 : n0 ≤ h5.size := Nat.le_trans Z3 (Nat.le_of_eq W5.size.symm)
      refine Goes.step (S' := T5.setTop (mkF m 79 #[.val (.int p0), .val (.int p1), .val (.int p2), .val (.int p3), .val (.int p4), .val (.int p5), .val (.int (0 : Int32)), .val (.int (0 : Int32)), .val (.long v8_34), .second, .val (.int (13 : Int32)), .val (.ref b1), .unset, .unset, .unset, .unset, .unset] [])) st5 ?_
      refine G_aload X5 hx (hb hby at_79) rfl rfl (pc' := 81) rfl ?_
      refine G_iconst X5 hx (hb hby at_81) (z := 1) rfl (pc' := 82) rfl ?_
      refine G_iloadN X5 hx (hb hby at_82) rfl (pc' := 83) rfl ?_
      refine G_bipush X5 hx (hb hby at_83) (z := 16) rfl (pc' := 85) rfl ?_
      refine G_iushr X5 hx (hb hby at_85) (pc' := 86) rfl ?_
      refine G_i2b X5 hx (hb hby at_86) (pc' := 87) rfl ?_
      obtain ⟨T8, h8, X8, e8, W8, V_8, st8⟩ := own_bastore X5 hx hZ e5 V_5 ⟨by decide, by decide⟩ (g := (mkF m 87 #[.val (.int p0), .val (.int p1), .val (.int p2), .val (.int p3), .val (.int p4), .val (.int p5), .val (.int (0 : Int32)), .val (.int (0 : Int32)), .val (.long v8_34), .second, .val (.int (13 : Int32)), .val (.ref b1), .unset, .unset, .unset, .unset, .unset] [(.int (((p1.toUInt32 >>> ((16 : Int32) &&& 31).toUInt32).toInt32).toInt8.toInt32)), (.int (1 : Int32)), (.ref b1)])) rfl rfl (hb hby at_87)
      obtain ⟨y87, ey87⟩ : ∃ z : Int32, z = (nar .byte (((p1.toUInt32 >>> ((16 : Int32) &&& 31).toUInt32).toInt32).toInt8.toInt32)) := ⟨_, rfl⟩
      replace V_8 : AI Z h8 b1 k1 .byte (12 : Int32) [y78, y87, (0 : Int32), (0 : Int32), (0 : Int32), (0 : Int32), (0 : Int32), (0 : Int32), (0 : Int32), (0 : Int32), (0 : Int32), (0 : Int32)] := by rw [ey87]; exact V_8
      have N9 := Fr.snoc X8 N6 g2
      have Z10 : n0 ≤ h8.size := Nat.le_trans Z7 (Nat.le_of_eq W8.size.symm)
      refine Goes.step (S' := T8.setTop (mkF m 88 #[.val (.int p0), .val (.int p1), .val (.int p2), .val (.int p3), .val (.int p4), .val (.int p5), .val (.int (0 : Int32)), .val (.int (0 : Int32)), .val (.long v8_34), .second, .val (.int (13 : Int32)), .val (.ref b1), .unset, .unset, .unset, .unset, .unset] [])) st8 ?_
      refine G_aload X8 hx (hb hby at_88) rfl rfl (pc' := 90) rfl ?_
      refine G_iconst X8 hx (hb hby at_90) (z := 2) rfl (pc' := 91) rfl ?_
      refine G_iloadN X8 hx (hb hby at_91) rfl (pc' := 92) rfl ?_
      refine G_bipush X8 hx (hb hby at_92) (z := 8) rfl (pc' := 94) rfl ?_
      refine G_iushr X8 hx (hb hby at_94) (pc' := 95) rfl ?_
      refine G_i2b X8 hx (hb hby at_95) (pc' := 96) rfl ?_
      obtain ⟨T11, h11, X11, e11, W11, V_11, st11⟩ := own_bastore X8 hx hZ e8 V_8 ⟨by decide, by decide⟩ (g := (mkF m 96 #[.val (.int p0), .val (.int p1), .val (.int p2), .val (.int p3), .val (.int p4), .val (.int p5), .val (.int (0 : Int32)), .val (.int (0 : Int32)), .val (.long v8_34), .second, .val (.int (13 : Int32)), .val (.ref b1), .unset, .unset, .unset, .unset, .unset] [(.int (((p1.toUInt32 >>> ((8 : Int32) &&& 31).toUInt32).toInt32).toInt8.toInt32)), (.int (2 : Int32)), (.ref b1)])) rfl rfl (hb hby at_96)
      obtain ⟨y96, ey96⟩ : ∃ z : Int32, z = (nar .byte (((p1.toUInt32 >>> ((8 : Int32) &&& 31).toUInt32).toInt32).toInt8.toInt32)) := ⟨_, rfl⟩
      replace V_11 : AI Z h11 b1 k1 .byte (12 : Int32) [y78, y87, y96, (0 : Int32), (0 : Int32), (0 : Int32), (0 : Int32), (0 : Int32), (0 : Int32), (0 : Int32), (0 : Int32), (0 : Int32)] := by rw [ey96]; exact V_11
      have N12 := Fr.snoc X11 N9 g2
      have Z13 : n0 ≤ h11.size := Nat.le_trans Z10 (Nat.le_of_eq W11.size.symm)
      refine Goes.step (S' := T11.setTop (mkF m 97 #[.val (.int p0), .val (.int p1), .val (.int p2), .val (.int p3), .val (.int p4), .val (.int p5), .val (.int (0 : Int32)), .val (.int (0 : Int32)), .val (.long v8_34), .second, .val (.int (13 : Int32)), .val (.ref b1), .unset, .unset, .unset, .unset, .unset] [])) st11 ?_
      refine G_aload X11 hx (hb hby at_97) rfl rfl (pc' := 99) rfl ?_
      refine G_iconst X11 hx (hb hby at_99) (z := 3) rfl (pc' := 100) rfl ?_
      refine G_iloadN X11 hx (hb hby at_100) rfl (pc' := 101) rfl ?_
      refine G_i2b X11 hx (hb hby at_101) (pc' := 102) rfl ?_
      obtain ⟨T14, h14, X14, e14, W14, V_14, st14⟩ := own_bastore X11 hx hZ e11 V_11 ⟨by decide, by decide⟩ (g := (mkF m 102 #[.val (.int p0), .val (.int p1), .val (.int p2), .val (.int p3), .val (.int p4), .val (.int p5), .val (.int (0 : Int32)), .val (.int (0 : Int32)), .val (.long v8_34), .second, .val (.int (13 : Int32)), .val (.ref b1), .unset, .unset, .unset, .unset, .unset] [(.int (p1.toInt8.toInt32)), (.int (3 : Int32)), (.ref b1)])) rfl rfl (hb hby at_102)
      obtain ⟨y102, ey102⟩ : ∃ z : Int32, z = (nar .byte (p1.toInt8.toInt32)) := ⟨_, rfl⟩
      replace V_14 : AI Z h14 b1 k1 .byte (12 : Int32) [y78, y87, y96, y102, (0 : Int32), (0 : Int32), (0 : Int32), (0 : Int32), (0 : Int32), (0 : Int32), (0 : Int32), (0 : Int32)] := by rw [ey102]; exact V_14
      have N15 := Fr.snoc X14 N12 g2
      have Z16 : n0 ≤ h14.size := Nat.le_trans Z13 (Nat.le_of_eq W14.size.symm)
      refine Goes.step (S' := T14.setTop (mkF m 103 #[.val (.int p0), .val (.int p1), .val (.int p2), .val (.int p3), .val (.int p4), .val (.int p5), .val (.int (0 : Int32)), .val (.int (0 : Int32)), .val (.long v8_34), .second, .val (.int (13 : Int32)), .val (.ref b1), .unset, .unset, .unset, .unset, .unset] [])) st14 ?_
      refine G_aload X14 hx (hb hby at_103) rfl rfl (pc' := 105) rfl ?_
      refine G_iconst X14 hx (hb hby at_105) (z := 4) rfl (pc' := 106) rfl ?_
      refine G_iloadN X14 hx (hb hby at_106) rfl (pc' := 107) rfl ?_
      refine G_bipush X14 hx (hb hby at_107) (z := 24) rfl (pc' := 109) rfl ?_
      refine G_iushr X14 hx (hb hby at_109) (pc' := 110) rfl ?_
      refine G_i2b X14 hx (hb hby at_110) (pc' := 111) rfl ?_
      obtain ⟨T17, h17, X17, e17, W17, V_17, st17⟩ := own_bastore X14 hx hZ e14 V_14 ⟨by decide, by decide⟩ (g := (mkF m 111 #[.val (.int p0), .val (.int p1), .val (.int p2), .val (.int p3), .val (.int p4), .val (.int p5), .val (.int (0 : Int32)), .val (.int (0 : Int32)), .val (.long v8_34), .second, .val (.int (13 : Int32)), .val (.ref b1), .unset, .unset, .unset, .unset, .unset] [(.int (((p2.toUInt32 >>> ((24 : Int32) &&& 31).toUInt32).toInt32).toInt8.toInt32)), (.int (4 : Int32)), (.ref b1)])) rfl rfl (hb hby at_111)
      obtain ⟨y111, ey111⟩ : ∃ z : Int32, z = (nar .byte (((p2.toUInt32 >>> ((24 : Int32) &&& 31).toUInt32).toInt32).toInt8.toInt32)) := ⟨_, rfl⟩
      replace V_17 : AI Z h17 b1 k1 .byte (12 : Int32) [y78, y87, y96, y102, y111, (0 : Int32), (0 : Int32), (0 : Int32), (0 : Int32), (0 : Int32), (0 : Int32), (0 : Int32)] := by rw [ey111]; exact V_17
      have N18 := Fr.snoc X17 N15 g2
      have Z19 : n0 ≤ h17.size := Nat.le_trans Z16 (Nat.le_of_eq W17.size.symm)
      refine Goes.step (S' := T17.setTop (mkF m 112 #[.val (.int p0), .val (.int p1), .val (.int p2), .val (.int p3), .val (.int p4), .val (.int p5), .val (.int (0 : Int32)), .val (.int (0 : Int32)), .val (.long v8_34), .second, .val (.int (13 : Int32)), .val (.ref b1), .unset, .unset, .unset, .unset, .unset] [])) st17 ?_
      refine G_aload X17 hx (hb hby at_112) rfl rfl (pc' := 114) rfl ?_
      refine G_iconst X17 hx (hb hby at_114) (z := 5) rfl (pc' := 115) rfl ?_
      refine G_iloadN X17 hx (hb hby at_115) rfl (pc' := 116) rfl ?_
      refine G_bipush X17 hx (hb hby at_116) (z := 16) rfl (pc' := 118) rfl ?_
      refine G_iushr X17 hx (hb hby at_118) (pc' := 119) rfl ?_
      refine G_i2b X17 hx (hb hby at_119) (pc' := 120) rfl ?_
      obtain ⟨T20, h20, X20, e20, W20, V_20, st20⟩ := own_bastore X17 hx hZ e17 V_17 ⟨by decide, by decide⟩ (g := (mkF m 120 #[.val (.int p0), .val (.int p1), .val (.int p2), .val (.int p3), .val (.int p4), .val (.int p5), .val (.int (0 : Int32)), .val (.int (0 : Int32)), .val (.long v8_34), .second, .val (.int (13 : Int32)), .val (.ref b1), .unset, .unset, .unset, .unset, .unset] [(.int (((p2.toUInt32 >>> ((16 : Int32) &&& 31).toUInt32).toInt32).toInt8.toInt32)), (.int (5 : Int32)), (.ref b1)])) rfl rfl (hb hby at_120)
      obtain ⟨y120, ey120⟩ : ∃ z : Int32, z = (nar .byte (((p2.toUInt32 >>> ((16 : Int32) &&& 31).toUInt32).toInt32).toInt8.toInt32)) := ⟨_, rfl⟩
      replace V_20 : AI Z h20 b1 k1 .byte (12 : Int32) [y78, y87, y96, y102, y111, y120, (0 : Int32), (0 : Int32), (0 : Int32), (0 : Int32), (0 : Int32), (0 : Int32)] := by rw [ey120]; exact V_20
      have N21 := Fr.snoc X20 N18 g2
      have Z22 : n0 ≤ h20.size := Nat.le_trans Z19 (Nat.le_of_eq W20.size.symm)
      refine Goes.step (S' := T20.setTop (mkF m 121 #[.val (.int p0), .val (.int p1), .val (.int p2), .val (.int p3), .val (.int p4), .val (.int p5), .val (.int (0 : Int32)), .val (.int (0 : Int32)), .val (.long v8_34), .second, .val (.int (13 : Int32)), .val (.ref b1), .unset, .unset, .unset, .unset, .unset] [])) st20 ?_
      refine G_aload X20 hx (hb hby at_121) rfl rfl (pc' := 123) rfl ?_
      refine G_bipush X20 hx (hb hby at_123) (z := 6) rfl (pc' := 125) rfl ?_
      refine G_iloadN X20 hx (hb hby at_125) rfl (pc' := 126) rfl ?_
      refine G_bipush X20 hx (hb hby at_126) (z := 8) rfl (pc' := 128) rfl ?_
      refine G_iushr X20 hx (hb hby at_128) (pc' := 129) rfl ?_
      refine G_i2b X20 hx (hb hby at_129) (pc' := 130) rfl ?_
      obtain ⟨T23, h23, X23, e23, W23, V_23, st23⟩ := own_bastore X20 hx hZ e20 V_20 ⟨by decide, by decide⟩ (g := (mkF m 130 #[.val (.int p0), .val (.int p1), .val (.int p2), .val (.int p3), .val (.int p4), .val (.int p5), .val (.int (0 : Int32)), .val (.int (0 : Int32)), .val (.long v8_34), .second, .val (.int (13 : Int32)), .val (.ref b1), .unset, .unset, .unset, .unset, .unset] [(.int (((p2.toUInt32 >>> ((8 : Int32) &&& 31).toUInt32).toInt32).toInt8.toInt32)), (.int (6 : Int32)), (.ref b1)])) rfl rfl (hb hby at_130)
      obtain ⟨y130, ey130⟩ : ∃ z : Int32, z = (nar .byte (((p2.toUInt32 >>> ((8 : Int32) &&& 31).toUInt32).toInt32).toInt8.toInt32)) := ⟨_, rfl⟩
      replace V_23 : AI Z h23 b1 k1 .byte (12 : Int32) [y78, y87, y96, y102, y111, y120, y130, (0 : Int32), (0 : Int32), (0 : Int32), (0 : Int32), (0 : Int32)] := by rw [ey130]; exact V_23
      have N24 := Fr.snoc X23 N21 g2
      have Z25 : n0 ≤ h23.size := Nat.le_trans Z22 (Nat.le_of_eq W23.size.symm)
      refine Goes.step (S' := T23.setTop (mkF m 131 #[.val (.int p0), .val (.int p1), .val (.int p2), .val (.int p3), .val (.int p4), .val (.int p5), .val (.int (0 : Int32)), .val (.int (0 : Int32)), .val (.long v8_34), .second, .val (.int (13 : Int32)), .val (.ref b1), .unset, .unset, .unset, .unset, .unset] [])) st23 ?_
      refine G_aload X23 hx (hb hby at_131) rfl rfl (pc' := 133) rfl ?_
      refine G_bipush X23 hx (hb hby at_133) (z := 7) rfl (pc' := 135) rfl ?_
      refine G_iloadN X23 hx (hb hby at_135) rfl (pc' := 136) rfl ?_
      refine G_i2b X23 hx (hb hby at_136) (pc' := 137) rfl ?_
      obtain ⟨T26, h26, X26, e26, W26, V_26, st26⟩ := own_bastore X23 hx hZ e23 V_23 ⟨by decide, by decide⟩ (g := (mkF m 137 #[.val (.int p0), .val (.int p1), .val (.int p2), .val (.int p3), .val (.int p4), .val (.int p5), .val (.int (0 : Int32)), .val (.int (0 : Int32)), .val (.long v8_34), .second, .val (.int (13 : Int32)), .val (.ref b1), .unset, .unset, .unset, .unset, .unset] [(.int (p2.toInt8.toInt32)), (.int (7 : Int32)), (.ref b1)])) rfl rfl (hb hby at_137)
      obtain ⟨y137, ey137⟩ : ∃ z : Int32, z = (nar .byte (p2.toInt8.toInt32)) := ⟨_, rfl⟩
      replace V_26 : AI Z h26 b1 k1 .byte (12 : Int32) [y78, y87, y96, y102, y111, y120, y130, y137, (0 : Int32), (0 : Int32), (0 : Int32), (0 : Int32)] := by rw [ey137]; exact V_26
      have N27 := Fr.snoc X26 N24 g2
      have Z28 : n0 ≤ h26.size := Nat.le_trans Z25 (Nat.le_of_eq W26.size.symm)
      refine Goes.step (S' := T26.setTop (mkF m 138 #[.val (.int p0), .val (.int p1), .val (.int p2), .val (.int p3), .val (.int p4), .val (.int p5), .val (.int (0 : Int32)), .val (.int (0 : Int32)), .val (.long v8_34), .second, .val (.int (13 : Int32)), .val (.ref b1), .unset, .unset, .unset, .unset, .unset] [])) st26 ?_
      refine G_aload X26 hx (hb hby at_138) rfl rfl (pc' := 140) rfl ?_
      refine G_bipush X26 hx (hb hby at_140) (z := 8) rfl (pc' := 142) rfl ?_
      refine G_iloadN X26 hx (hb hby at_142) rfl (pc' := 143) rfl ?_
      refine G_bipush X26 hx (hb hby at_143) (z := 24) rfl (pc' := 145) rfl ?_
      refine G_iushr X26 hx (hb hby at_145) (pc' := 146) rfl ?_
      refine G_i2b X26 hx (hb hby at_146) (pc' := 147) rfl ?_
      obtain ⟨T29, h29, X29, e29, W29, V_29, st29⟩ := own_bastore X26 hx hZ e26 V_26 ⟨by decide, by decide⟩ (g := (mkF m 147 #[.val (.int p0), .val (.int p1), .val (.int p2), .val (.int p3), .val (.int p4), .val (.int p5), .val (.int (0 : Int32)), .val (.int (0 : Int32)), .val (.long v8_34), .second, .val (.int (13 : Int32)), .val (.ref b1), .unset, .unset, .unset, .unset, .unset] [(.int (((p3.toUInt32 >>> ((24 : Int32) &&& 31).toUInt32).toInt32).toInt8.toInt32)), (.int (8 : Int32)), (.ref b1)])) rfl rfl (hb hby at_147)
      obtain ⟨y147, ey147⟩ : ∃ z : Int32, z = (nar .byte (((p3.toUInt32 >>> ((24 : Int32) &&& 31).toUInt32).toInt32).toInt8.toInt32)) := ⟨_, rfl⟩
      replace V_29 : AI Z h29 b1 k1 .byte (12 : Int32) [y78, y87, y96, y102, y111, y120, y130, y137, y147, (0 : Int32), (0 : Int32), (0 : Int32)] := by rw [ey147]; exact V_29
      have N30 := Fr.snoc X29 N27 g2
      have Z31 : n0 ≤ h29.size := Nat.le_trans Z28 (Nat.le_of_eq W29.size.symm)
      refine Goes.step (S' := T29.setTop (mkF m 148 #[.val (.int p0), .val (.int p1), .val (.int p2), .val (.int p3), .val (.int p4), .val (.int p5), .val (.int (0 : Int32)), .val (.int (0 : Int32)), .val (.long v8_34), .second, .val (.int (13 : Int32)), .val (.ref b1), .unset, .unset, .unset, .unset, .unset] [])) st29 ?_
      refine G_aload X29 hx (hb hby at_148) rfl rfl (pc' := 150) rfl ?_
      refine G_bipush X29 hx (hb hby at_150) (z := 9) rfl (pc' := 152) rfl ?_
      refine G_iloadN X29 hx (hb hby at_152) rfl (pc' := 153) rfl ?_
      refine G_bipush X29 hx (hb hby at_153) (z := 16) rfl (pc' := 155) rfl ?_
      refine G_iushr X29 hx (hb hby at_155) (pc' := 156) rfl ?_
      refine G_i2b X29 hx (hb hby at_156) (pc' := 157) rfl ?_
      obtain ⟨T32, h32, X32, e32, W32, V_32, st32⟩ := own_bastore X29 hx hZ e29 V_29 ⟨by decide, by decide⟩ (g := (mkF m 157 #[.val (.int p0), .val (.int p1), .val (.int p2), .val (.int p3), .val (.int p4), .val (.int p5), .val (.int (0 : Int32)), .val (.int (0 : Int32)), .val (.long v8_34), .second, .val (.int (13 : Int32)), .val (.ref b1), .unset, .unset, .unset, .unset, .unset] [(.int (((p3.toUInt32 >>> ((16 : Int32) &&& 31).toUInt32).toInt32).toInt8.toInt32)), (.int (9 : Int32)), (.ref b1)])) rfl rfl (hb hby at_157)
      obtain ⟨y157, ey157⟩ : ∃ z : Int32, z = (nar .byte (((p3.toUInt32 >>> ((16 : Int32) &&& 31).toUInt32).toInt32).toInt8.toInt32)) := ⟨_, rfl⟩
      replace V_32 : AI Z h32 b1 k1 .byte (12 : Int32) [y78, y87, y96, y102, y111, y120, y130, y137, y147, y157, (0 : Int32), (0 : Int32)] := by rw [ey157]; exact V_32
      have N33 := Fr.snoc X32 N30 g2
      have Z34 : n0 ≤ h32.size := Nat.le_trans Z31 (Nat.le_of_eq W32.size.symm)
      refine Goes.step (S' := T32.setTop (mkF m 158 #[.val (.int p0), .val (.int p1), .val (.int p2), .val (.int p3), .val (.int p4), .val (.int p5), .val (.int (0 : Int32)), .val (.int (0 : Int32)), .val (.long v8_34), .second, .val (.int (13 : Int32)), .val (.ref b1), .unset, .unset, .unset, .unset, .unset] [])) st32 ?_
      refine G_aload X32 hx (hb hby at_158) rfl rfl (pc' := 160) rfl ?_
      refine G_bipush X32 hx (hb hby at_160) (z := 10) rfl (pc' := 162) rfl ?_
      refine G_iloadN X32 hx (hb hby at_162) rfl (pc' := 163) rfl ?_
      refine G_bipush X32 hx (hb hby at_163) (z := 8) rfl (pc' := 165) rfl ?_
      refine G_iushr X32 hx (hb hby at_165) (pc' := 166) rfl ?_
      refine G_i2b X32 hx (hb hby at_166) (pc' := 167) rfl ?_
      obtain ⟨T35, h35, X35, e35, W35, V_35, st35⟩ := own_bastore X32 hx hZ e32 V_32 ⟨by decide, by decide⟩ (g := (mkF m 167 #[.val (.int p0), .val (.int p1), .val (.int p2), .val (.int p3), .val (.int p4), .val (.int p5), .val (.int (0 : Int32)), .val (.int (0 : Int32)), .val (.long v8_34), .second, .val (.int (13 : Int32)), .val (.ref b1), .unset, .unset, .unset, .unset, .unset] [(.int (((p3.toUInt32 >>> ((8 : Int32) &&& 31).toUInt32).toInt32).toInt8.toInt32)), (.int (10 : Int32)), (.ref b1)])) rfl rfl (hb hby at_167)
      obtain ⟨y167, ey167⟩ : ∃ z : Int32, z = (nar .byte (((p3.toUInt32 >>> ((8 : Int32) &&& 31).toUInt32).toInt32).toInt8.toInt32)) := ⟨_, rfl⟩
      replace V_35 : AI Z h35 b1 k1 .byte (12 : Int32) [y78, y87, y96, y102, y111, y120, y130, y137, y147, y157, y167, (0 : Int32)] := by rw [ey167]; exact V_35
      have N36 := Fr.snoc X35 N33 g2
      have Z37 : n0 ≤ h35.size := Nat.le_trans Z34 (Nat.le_of_eq W35.size.symm)
      refine Goes.step (S' := T35.setTop (mkF m 168 #[.val (.int p0), .val (.int p1), .val (.int p2), .val (.int p3), .val (.int p4), .val (.int p5), .val (.int (0 : Int32)), .val (.int (0 : Int32)), .val (.long v8_34), .second, .val (.int (13 : Int32)), .val (.ref b1), .unset, .unset, .unset, .unset, .unset] [])) st35 ?_
      refine G_aload X35 hx (hb hby at_168) rfl rfl (pc' := 170) rfl ?_
      refine G_bipush X35 hx (hb hby at_170) (z := 11) rfl (pc' := 172) rfl ?_
      refine G_iloadN X35 hx (hb hby at_172) rfl (pc' := 173) rfl ?_
      refine G_i2b X35 hx (hb hby at_173) (pc' := 174) rfl ?_
      obtain ⟨T38, h38, X38, e38, W38, V_38, st38⟩ := own_bastore X35 hx hZ e35 V_35 ⟨by decide, by decide⟩ (g := (mkF m 174 #[.val (.int p0), .val (.int p1), .val (.int p2), .val (.int p3), .val (.int p4), .val (.int p5), .val (.int (0 : Int32)), .val (.int (0 : Int32)), .val (.long v8_34), .second, .val (.int (13 : Int32)), .val (.ref b1), .unset, .unset, .unset, .unset, .unset] [(.int (p3.toInt8.toInt32)), (.int (11 : Int32)), (.ref b1)])) rfl rfl (hb hby at_174)
      obtain ⟨y174, ey174⟩ : ∃ z : Int32, z = (nar .byte (p3.toInt8.toInt32)) := ⟨_, rfl⟩
      replace V_38 : AI Z h38 b1 k1 .byte (12 : Int32) [y78, y87, y96, y102, y111, y120, y130, y137, y147, y157, y167, y174] := by rw [ey174]; exact V_38
      have N39 := Fr.snoc X38 N36 g2
      have Z40 : n0 ≤ h38.size := Nat.le_trans Z37 (Nat.le_of_eq W38.size.symm)
      refine Goes.step (S' := T38.setTop (mkF m 175 #[.val (.int p0), .val (.int p1), .val (.int p2), .val (.int p3), .val (.int p4), .val (.int p5), .val (.int (0 : Int32)), .val (.int (0 : Int32)), .val (.long v8_34), .second, .val (.int (13 : Int32)), .val (.ref b1), .unset, .unset, .unset, .unset, .unset] [])) st38 ?_
      refine G_iload X38 hx (hb hby at_175) rfl (pc' := 177) rfl ?_
      refine Goes.step (S' := T38.setTop (mkF m 195 #[.val (.int p0), .val (.int p1), .val (.int p2), .val (.int p3), .val (.int p4), .val (.int p5), .val (.int (0 : Int32)), .val (.int (0 : Int32)), .val (.long v8_34), .second, .val (.int (13 : Int32)), .val (.ref b1), .unset, .unset, .unset, .unset, .unset] [])) (fun _ k => XS.ifYes X38.here hx rfl (pc0 := 177) (pc' := 195) rfl (hb hby at_177) rfl ((if0 _ _).trans (teq (rfl : (0 : Int32) = (0 : Int32))).1) (by decide) (by decide) k) ?_
      refine G_bipush X38 hx (hb hby at_195) (z := 40) rfl (pc' := 197) rfl ?_
      obtain ⟨T41, h41, k41, X41, e41, E41, A41, hk41, st41⟩ := own_newB X38 hx hZ (hw _ (List.mem_of_getElem? (i := 1) rfl)) e38 (g := (mkF m 197 #[.val (.int p0), .val (.int p1), .val (.int p2), .val (.int p3), .val (.int p4), .val (.int p5), .val (.int (0 : Int32)), .val (.int (0 : Int32)), .val (.long v8_34), .second, .val (.int (13 : Int32)), .val (.ref b1), .unset, .unset, .unset, .unset, .unset] [(.int (40 : Int32))])) rfl (hb hby at_197) rfl (by decide) (cap := 40) (by decide) (by decide) (by decide) (by decide)
      obtain ⟨b41, g41⟩ : ∃ z, z = h38.size := ⟨_, rfl⟩
      rw [← g41] at A41 st41
      have ne42 : b1 ≠ b41 := Nat.ne_of_lt (Nat.lt_of_lt_of_le V_38.lt (Nat.le_of_eq g41.symm))
      have g43 : n0 ≤ b41 := Nat.le_trans Z40 (Nat.le_of_eq g41.symm)
      have Z44 : n0 ≤ h41.size := Nat.le_trans Z40 E41.1
      have V45 := V_38.ext E41
      have V46 : AI Z h41 b41 k41 .byte (40 : Int32) [(0 : Int32), (0 : Int32), (0 : Int32), (0 : Int32), (0 : Int32), (0 : Int32), (0 : Int32), (0 : Int32), (0 : Int32), (0 : Int32), (0 : Int32), (0 : Int32), (0 : Int32), (0 : Int32), (0 : Int32), (0 : Int32), (0 : Int32), (0 : Int32), (0 : Int32), (0 : Int32), (0 : Int32), (0 : Int32), (0 : Int32), (0 : Int32), (0 : Int32), (0 : Int32), (0 : Int32), (0 : Int32), (0 : Int32), (0 : Int32), (0 : Int32), (0 : Int32), (0 : Int32), (0 : Int32), (0 : Int32), (0 : Int32), (0 : Int32), (0 : Int32), (0 : Int32), (0 : Int32)] := own_new A41 (by decide) rfl
      refine Goes.step (S' := T41.setTop (mkF m 199 #[.val (.int p0), .val (.int p1), .val (.int p2), .val (.int p3), .val (.int p4), .val (.int p5), .val (.int (0 : Int32)), .val (.int (0 : Int32)), .val (.long v8_34), .second, .val (.int (13 : Int32)), .val (.ref b1), .unset, .unset, .unset, .unset, .unset] [(.ref b41)])) st41 ?_
      refine Goes.step (S' := T41.setTop (mkF m 201 #[.val (.int p0), .val (.int p1), .val (.int p2), .val (.int p3), .val (.int p4), .val (.int p5), .val (.int (0 : Int32)), .val (.int (0 : Int32)), .val (.long v8_34), .second, .val (.int (13 : Int32)), .val (.ref b1), .val (.ref b41), .unset, .unset, .unset, .unset] [])) (fun _ k => XS.astore X41.here hx rfl (hb hby at_199) rfl rfl (l' := #[.val (.int p0), .val (.int p1), .val (.int p2), .val (.int p3), .val (.int p4), .val (.int p5), .val (.int (0 : Int32)), .val (.int (0 : Int32)), .val (.long v8_34), .second, .val (.int (13 : Int32)), .val (.ref b1), .val (.ref b41), .unset, .unset, .unset, .unset]) rfl k) ?_
      refine G_aload X41 hx (hb hby at_201) rfl rfl (pc' := 203) rfl ?_
      refine G_iconst X41 hx (hb hby at_203) (z := 0) rfl (pc' := 204) rfl ?_
      refine G_iload X41 hx (hb hby at_204) rfl (pc' := 206) rfl ?_
      refine Goes.step (S' := T41.setTop (mkF m 213 #[.val (.int p0), .val (.int p1), .val (.int p2), .val (.int p3), .val (.int p4), .val (.int p5), .val (.int (0 : Int32)), .val (.int (0 : Int32)), .val (.long v8_34), .second, .val (.int (13 : Int32)), .val (.ref b1), .val (.ref b41), .unset, .unset, .unset, .unset] [(.int (0 : Int32)), (.ref b41)])) (fun _ k => XS.ifYes X41.here hx rfl (pc0 := 206) (pc' := 213) rfl (hb hby at_206) rfl ((if0 _ _).trans (teq (rfl : (0 : Int32) = (0 : Int32))).1) (by decide) (by decide) k) ?_
      refine G_iconst X41 hx (hb hby at_213) (z := 1) rfl (pc' := 214) rfl ?_
      refine G_i2b X41 hx (hb hby at_214) (pc' := 215) rfl ?_
      obtain ⟨T47, h47, X47, e47, W47, V_47, st47⟩ := own_bastore X41 hx hZ e41 V46 ⟨by decide, by decide⟩ (g := (mkF m 215 #[.val (.int p0), .val (.int p1), .val (.int p2), .val (.int p3), .val (.int p4), .val (.int p5), .val (.int (0 : Int32)), .val (.int (0 : Int32)), .val (.long v8_34), .second, .val (.int (13 : Int32)), .val (.ref b1), .val (.ref b41), .unset, .unset, .unset, .unset] [(.int ((1 : Int32).toInt8.toInt32)), (.int (0 : Int32)), (.ref b41)])) rfl rfl (hb hby at_215)
      obtain ⟨y215, ey215⟩ : ∃ z : Int32, z = (nar .byte ((1 : Int32).toInt8.toInt32)) := ⟨_, rfl⟩
      replace V_47 : AI Z h47 b41 k41 .byte (40 : Int32) [y215, (0 : Int32), (0 : Int32), (0 : Int32), (0 : Int32), (0 : Int32), (0 : Int32), (0 : Int32), (0 : Int32), (0 : Int32), (0 : Int32), (0 : Int32), (0 : Int32), (0 : Int32), (0 : Int32), (0 : Int32), (0 : Int32), (0 : Int32), (0 : Int32), (0 : Int32), (0 : Int32), (0 : Int32), (0 : Int32), (0 : Int32), (0 : Int32), (0 : Int32), (0 : Int32), (0 : Int32), (0 : Int32), (0 : Int32), (0 : Int32), (0 : Int32), (0 : Int32), (0 : Int32), (0 : Int32), (0 : Int32), (0 : Int32), (0 : Int32), (0 : Int32), (0 : Int32)] := by rw [ey215]; exact V_47
      have N48 := Fr.snoc X47 N39 g43
      have Z49 : n0 ≤ h47.size := Nat.le_trans Z44 (Nat.le_of_eq W47.size.symm)
      have V50 := V45.other W47 ne42
      refine Goes.step (S' := T47.setTop (mkF m 216 #[.val (.int p0), .val (.int p1), .val (.int p2), .val (.int p3), .val (.int p4), .val (.int p5), .val (.int (0 : Int32)), .val (.int (0 : Int32)), .val (.long v8_34), .second, .val (.int (13 : Int32)), .val (.ref b1), .val (.ref b41), .unset, .unset, .unset, .unset] [])) st47 ?_
      refine G_iload X47 hx (hb hby at_216) rfl (pc' := 218) rfl ?_
      refine Goes.step (S' := T47.setTop (mkF m 254 #[.val (.int p0), .val (.int p1), .val (.int p2), .val (.int p3), .val (.int p4), .val (.int p5), .val (.int (0 : Int32)), .val (.int (0 : Int32)), .val (.long v8_34), .second, .val (.int (13 : Int32)), .val (.ref b1), .val (.ref b41), .unset, .unset, .unset, .unset] [])) (fun _ k => XS.ifYes X47.here hx rfl (pc0 := 218) (pc' := 254) rfl (hb hby at_218) rfl ((if0 _ _).trans (teq (rfl : (0 : Int32) = (0 : Int32))).1) (by decide) (by decide) k) ?_
      refine G_iload X47 hx (hb hby at_254) rfl (pc' := 256) rfl ?_
      refine G_bipush X47 hx (hb hby at_256) (z := 12) rfl (pc' := 258) rfl ?_
      refine Goes.step (S' := T47.setTop (mkF m 259 #[.val (.int p0), .val (.int p1), .val (.int p2), .val (.int p3), .val (.int p4), .val (.int p5), .val (.int (0 : Int32)), .val (.int (0 : Int32)), .val (.long v8_34), .second, .val (.int (13 : Int32)), .val (.ref b1), .val (.ref b41), .unset, .unset, .unset, .unset] [(.int (1 : Int32))])) (fun _ k => XS.isub X47.here hx rfl (hb hby at_258) rfl k) ?_
      refine Goes.step (S' := T47.setTop (mkF m 261 #[.val (.int p0), .val (.int p1), .val (.int p2), .val (.int p3), .val (.int p4), .val (.int p5), .val (.int (0 : Int32)), .val (.int (0 : Int32)), .val (.long v8_34), .second, .val (.int (13 : Int32)), .val (.ref b1), .val (.ref b41), .val (.int (1 : Int32)), .unset, .unset, .unset] [])) (fun _ k => XS.istore X47.here hx rfl (hb hby at_259) rfl (l' := #[.val (.int p0), .val (.int p1), .val (.int p2), .val (.int p3), .val (.int p4), .val (.int p5), .val (.int (0 : Int32)), .val (.int (0 : Int32)), .val (.long v8_34), .second, .val (.int (13 : Int32)), .val (.ref b1), .val (.ref b41), .val (.int (1 : Int32)), .unset, .unset, .unset]) rfl k) ?_
      refine G_aload X47 hx (hb hby at_261) rfl rfl (pc' := 263) rfl ?_
      refine G_iload X47 hx (hb hby at_263) rfl (pc' := 265) rfl ?_
      refine G_aload X47 hx (hb hby at_265) rfl rfl (pc' := 267) rfl ?_
      refine G_iconst X47 hx (hb hby at_267) (z := 0) rfl (pc' := 268) rfl ?_
      refine Goes.step (S' := T47.setTop (mkF m 269 #[.val (.int p0), .val (.int p1), .val (.int p2), .val (.int p3), .val (.int p4), .val (.int p5), .val (.int (0 : Int32)), .val (.int (0 : Int32)), .val (.long v8_34), .second, .val (.int (13 : Int32)), .val (.ref b1), .val (.ref b41), .val (.int (1 : Int32)), .unset, .unset, .unset] [(.int y78), (.int (1 : Int32)), (.ref b41)])) (fun _ k => own_baload X47 hx hZ e47 V50 ⟨by decide, by decide⟩ (hb hby at_268) _ k) ?_
      obtain ⟨T51, h51, X51, e51, W51, V_51, st51⟩ := own_bastore X47 hx hZ e47 V_47 ⟨by decide, by decide⟩ (g := (mkF m 269 #[.val (.int p0), .val (.int p1), .val (.int p2), .val (.int p3), .val (.int p4), .val (.int p5), .val (.int (0 : Int32)), .val (.int (0 : Int32)), .val (.long v8_34), .second, .val (.int (13 : Int32)), .val (.ref b1), .val (.ref b41), .val (.int (1 : Int32)), .unset, .unset, .unset] [(.int y78), (.int (1 : Int32)), (.ref b41)])) rfl rfl (hb hby at_269)
      replace V_51 : AI Z h51 b41 k41 .byte (40 : Int32) [y215, (nar .byte y78), (0 : Int32), (0 : Int32), (0 : Int32), (0 : Int32), (0 : Int32), (0 : Int32), (0 : Int32), (0 : Int32), (0 : Int32), (0 : Int32), (0 : Int32), (0 : Int32), (0 : Int32), (0 : Int32), (0 : Int32), (0 : Int32), (0 : Int32), (0 : Int32), (0 : Int32), (0 : Int32), (0 : Int32), (0 : Int32), (0 : Int32), (0 : Int32), (0 : Int32), (0 : Int32), (0 : Int32), (0 : Int32), (0 : Int32), (0 : Int32), (0 : Int32), (0 : Int32), (0 : Int32), (0 : Int32), (0 : Int32), (0 : Int32), (0 : Int32), (0 : Int32)] := V_51
      have N52 := Fr.snoc X51 N48 g43
      have Z53 : n0 ≤ h51.size := Nat.le_trans Z49 (Nat.le_of_eq W51.size.symm)
      have V54 := V50.other W51 ne42
      refine Goes.step (S' := T51.setTop (mkF m 270 #[.val (.int p0), .val (.int p1), .val (.int p2), .val (.int p3), .val (.int p4), .val (.int p5), .val (.int (0 : Int32)), .val (.int (0 : Int32)), .val (.long v8_34), .second, .val (.int (13 : Int32)), .val (.ref b1), .val (.ref b41), .val (.int (1 : Int32)), .unset, .unset, .unset] [])) st51 ?_
      refine G_aload X51 hx (hb hby at_270) rfl rfl (pc' := 272) rfl ?_
      refine G_iload X51 hx (hb hby at_272) rfl (pc' := 274) rfl ?_
      refine G_iconst X51 hx (hb hby at_274) (z := 1) rfl (pc' := 275) rfl ?_
      refine G_iadd X51 hx (hb hby at_275) (z := 2) rfl (pc' := 276) rfl ?_
      refine G_aload X51 hx (hb hby at_276) rfl rfl (pc' := 278) rfl ?_
      refine G_iconst X51 hx (hb hby at_278) (z := 1) rfl (pc' := 279) rfl ?_
      refine Goes.step (S' := T51.setTop (mkF m 280 #[.val (.int p0), .val (.int p1), .val (.int p2), .val (.int p3), .val (.int p4), .val (.int p5), .val (.int (0 : Int32)), .val (.int (0 : Int32)), .val (.long v8_34), .second, .val (.int (13 : Int32)), .val (.ref b1), .val (.ref b41), .val (.int (1 : Int32)), .unset, .unset, .unset] [(.int y87), (.int (2 : Int32)), (.ref b41)])) (fun _ k => own_baload X51 hx hZ e51 V54 ⟨by decide, by decide⟩ (hb hby at_279) _ k) ?_
      obtain ⟨T55, h55, X55, e55, W55, V_55, st55⟩ := own_bastore X51 hx hZ e51 V_51 ⟨by decide, by decide⟩ (g := (mkF m 280 #[.val (.int p0), .val (.int p1), .val (.int p2), .val (.int p3), .val (.int p4), .val (.int p5), .val (.int (0 : Int32)), .val (.int (0 : Int32)), .val (.long v8_34), .second, .val (.int (13 : Int32)), .val (.ref b1), .val (.ref b41), .val (.int (1 : Int32)), .unset, .unset, .unset] [(.int y87), (.int (2 : Int32)), (.ref b41)])) rfl rfl (hb hby at_280)
      replace V_55 : AI Z h55 b41 k41 .byte (40 : Int32) [y215, (nar .byte y78), (nar .byte y87), (0 : Int32), (0 : Int32), (0 : Int32), (0 : Int32), (0 : Int32), (0 : Int32), (0 : Int32), (0 : Int32), (0 : Int32), (0 : Int32), (0 : Int32), (0 : Int32), (0 : Int32), (0 : Int32), (0 : Int32), (0 : Int32), (0 : Int32), (0 : Int32), (0 : Int32), (0 : Int32), (0 : Int32), (0 : Int32), (0 : Int32), (0 : Int32), (0 : Int32), (0 : Int32), (0 : Int32), (0 : Int32), (0 : Int32), (0 : Int32), (0 : Int32), (0 : Int32), (0 : Int32), (0 : Int32), (0 : Int32), (0 : Int32), (0 : Int32)] := V_55
      have N56 := Fr.snoc X55 N52 g43
      have Z57 : n0 ≤ h55.size := Nat.le_trans Z53 (Nat.le_of_eq W55.size.symm)
      have V58 := V54.other W55 ne42
      refine Goes.step (S' := T55.setTop (mkF m 281 #[.val (.int p0), .val (.int p1), .val (.int p2), .val (.int p3), .val (.int p4), .val (.int p5), .val (.int (0 : Int32)), .val (.int (0 : Int32)), .val (.long v8_34), .second, .val (.int (13 : Int32)), .val (.ref b1), .val (.ref b41), .val (.int (1 : Int32)), .unset, .unset, .unset] [])) st55 ?_
      refine G_aload X55 hx (hb hby at_281) rfl rfl (pc' := 283) rfl ?_
      refine G_iload X55 hx (hb hby at_283) rfl (pc' := 285) rfl ?_
      refine G_iconst X55 hx (hb hby at_285) (z := 2) rfl (pc' := 286) rfl ?_
      refine G_iadd X55 hx (hb hby at_286) (z := 3) rfl (pc' := 287) rfl ?_
      refine G_aload X55 hx (hb hby at_287) rfl rfl (pc' := 289) rfl ?_
      refine G_iconst X55 hx (hb hby at_289) (z := 2) rfl (pc' := 290) rfl ?_
      refine Goes.step (S' := T55.setTop (mkF m 291 #[.val (.int p0), .val (.int p1), .val (.int p2), .val (.int p3), .val (.int p4), .val (.int p5), .val (.int (0 : Int32)), .val (.int (0 : Int32)), .val (.long v8_34), .second, .val (.int (13 : Int32)), .val (.ref b1), .val (.ref b41), .val (.int (1 : Int32)), .unset, .unset, .unset] [(.int y96), (.int (3 : Int32)), (.ref b41)])) (fun _ k => own_baload X55 hx hZ e55 V58 ⟨by decide, by decide⟩ (hb hby at_290) _ k) ?_
      obtain ⟨T59, h59, X59, e59, W59, V_59, st59⟩ := own_bastore X55 hx hZ e55 V_55 ⟨by decide, by decide⟩ (g := (mkF m 291 #[.val (.int p0), .val (.int p1), .val (.int p2), .val (.int p3), .val (.int p4), .val (.int p5), .val (.int (0 : Int32)), .val (.int (0 : Int32)), .val (.long v8_34), .second, .val (.int (13 : Int32)), .val (.ref b1), .val (.ref b41), .val (.int (1 : Int32)), .unset, .unset, .unset] [(.int y96), (.int (3 : Int32)), (.ref b41)])) rfl rfl (hb hby at_291)
      replace V_59 : AI Z h59 b41 k41 .byte (40 : Int32) [y215, (nar .byte y78), (nar .byte y87), (nar .byte y96), (0 : Int32), (0 : Int32), (0 : Int32), (0 : Int32), (0 : Int32), (0 : Int32), (0 : Int32), (0 : Int32), (0 : Int32), (0 : Int32), (0 : Int32), (0 : Int32), (0 : Int32), (0 : Int32), (0 : Int32), (0 : Int32), (0 : Int32), (0 : Int32), (0 : Int32), (0 : Int32), (0 : Int32), (0 : Int32), (0 : Int32), (0 : Int32), (0 : Int32), (0 : Int32), (0 : Int32), (0 : Int32), (0 : Int32), (0 : Int32), (0 : Int32), (0 : Int32), (0 : Int32), (0 : Int32), (0 : Int32), (0 : Int32)] := V_59
      have N60 := Fr.snoc X59 N56 g43
      have Z61 : n0 ≤ h59.size := Nat.le_trans Z57 (Nat.le_of_eq W59.size.symm)
      have V62 := V58.other W59 ne42
      refine Goes.step (S' := T59.setTop (mkF m 292 #[.val (.int p0), .val (.int p1), .val (.int p2), .val (.int p3), .val (.int p4), .val (.int p5), .val (.int (0 : Int32)), .val (.int (0 : Int32)), .val (.long v8_34), .second, .val (.int (13 : Int32)), .val (.ref b1), .val (.ref b41), .val (.int (1 : Int32)), .unset, .unset, .unset] [])) st59 ?_
      refine G_aload X59 hx (hb hby at_292) rfl rfl (pc' := 294) rfl ?_
      refine G_iload X59 hx (hb hby at_294) rfl (pc' := 296) rfl ?_
      refine G_iconst X59 hx (hb hby at_296) (z := 3) rfl (pc' := 297) rfl ?_
      refine G_iadd X59 hx (hb hby at_297) (z := 4) rfl (pc' := 298) rfl ?_
      refine G_aload X59 hx (hb hby at_298) rfl rfl (pc' := 300) rfl ?_
      refine G_iconst X59 hx (hb hby at_300) (z := 3) rfl (pc' := 301) rfl ?_
      refine Goes.step (S' := T59.setTop (mkF m 302 #[.val (.int p0), .val (.int p1), .val (.int p2), .val (.int p3), .val (.int p4), .val (.int p5), .val (.int (0 : Int32)), .val (.int (0 : Int32)), .val (.long v8_34), .second, .val (.int (13 : Int32)), .val (.ref b1), .val (.ref b41), .val (.int (1 : Int32)), .unset, .unset, .unset] [(.int y102), (.int (4 : Int32)), (.ref b41)])) (fun _ k => own_baload X59 hx hZ e59 V62 ⟨by decide, by decide⟩ (hb hby at_301) _ k) ?_
      obtain ⟨T63, h63, X63, e63, W63, V_63, st63⟩ := own_bastore X59 hx hZ e59 V_59 ⟨by decide, by decide⟩ (g := (mkF m 302 #[.val (.int p0), .val (.int p1), .val (.int p2), .val (.int p3), .val (.int p4), .val (.int p5), .val (.int (0 : Int32)), .val (.int (0 : Int32)), .val (.long v8_34), .second, .val (.int (13 : Int32)), .val (.ref b1), .val (.ref b41), .val (.int (1 : Int32)), .unset, .unset, .unset] [(.int y102), (.int (4 : Int32)), (.ref b41)])) rfl rfl (hb hby at_302)
      replace V_63 : AI Z h63 b41 k41 .byte (40 : Int32) [y215, (nar .byte y78), (nar .byte y87), (nar .byte y96), (nar .byte y102), (0 : Int32), (0 : Int32), (0 : Int32), (0 : Int32), (0 : Int32), (0 : Int32), (0 : Int32), (0 : Int32), (0 : Int32), (0 : Int32), (0 : Int32), (0 : Int32), (0 : Int32), (0 : Int32), (0 : Int32), (0 : Int32), (0 : Int32), (0 : Int32), (0 : Int32), (0 : Int32), (0 : Int32), (0 : Int32), (0 : Int32), (0 : Int32), (0 : Int32), (0 : Int32), (0 : Int32), (0 : Int32), (0 : Int32), (0 : Int32), (0 : Int32), (0 : Int32), (0 : Int32), (0 : Int32), (0 : Int32)] := V_63
      have N64 := Fr.snoc X63 N60 g43
      have Z65 : n0 ≤ h63.size := Nat.le_trans Z61 (Nat.le_of_eq W63.size.symm)
      have V66 := V62.other W63 ne42
      refine Goes.step (S' := T63.setTop (mkF m 303 #[.val (.int p0), .val (.int p1), .val (.int p2), .val (.int p3), .val (.int p4), .val (.int p5), .val (.int (0 : Int32)), .val (.int (0 : Int32)), .val (.long v8_34), .second, .val (.int (13 : Int32)), .val (.ref b1), .val (.ref b41), .val (.int (1 : Int32)), .unset, .unset, .unset] [])) st63 ?_
      refine G_aload X63 hx (hb hby at_303) rfl rfl (pc' := 305) rfl ?_
      refine G_iload X63 hx (hb hby at_305) rfl (pc' := 307) rfl ?_
      refine G_iconst X63 hx (hb hby at_307) (z := 4) rfl (pc' := 308) rfl ?_
      refine G_iadd X63 hx (hb hby at_308) (z := 5) rfl (pc' := 309) rfl ?_
      refine G_aload X63 hx (hb hby at_309) rfl rfl (pc' := 311) rfl ?_
      refine G_iconst X63 hx (hb hby at_311) (z := 4) rfl (pc' := 312) rfl ?_
      refine Goes.step (S' := T63.setTop (mkF m 313 #[.val (.int p0), .val (.int p1), .val (.int p2), .val (.int p3), .val (.int p4), .val (.int p5), .val (.int (0 : Int32)), .val (.int (0 : Int32)), .val (.long v8_34), .second, .val (.int (13 : Int32)), .val (.ref b1), .val (.ref b41), .val (.int (1 : Int32)), .unset, .unset, .unset] [(.int y111), (.int (5 : Int32)), (.ref b41)])) (fun _ k => own_baload X63 hx hZ e63 V66 ⟨by decide, by decide⟩ (hb hby at_312) _ k) ?_
      obtain ⟨T67, h67, X67, e67, W67, V_67, st67⟩ := own_bastore X63 hx hZ e63 V_63 ⟨by decide, by decide⟩ (g := (mkF m 313 #[.val (.int p0), .val (.int p1), .val (.int p2), .val (.int p3), .val (.int p4), .val (.int p5), .val (.int (0 : Int32)), .val (.int (0 : Int32)), .val (.long v8_34), .second, .val (.int (13 : Int32)), .val (.ref b1), .val (.ref b41), .val (.int (1 : Int32)), .unset, .unset, .unset] [(.int y111), (.int (5 : Int32)), (.ref b41)])) rfl rfl (hb hby at_313)
      replace V_67 : AI Z h67 b41 k41 .byte (40 : Int32) [y215, (nar .byte y78), (nar .byte y87), (nar .byte y96), (nar .byte y102), (nar .byte y111), (0 : Int32), (0 : Int32), (0 : Int32), (0 : Int32), (0 : Int32), (0 : Int32), (0 : Int32), (0 : Int32), (0 : Int32), (0 : Int32), (0 : Int32), (0 : Int32), (0 : Int32), (0 : Int32), (0 : Int32), (0 : Int32), (0 : Int32), (0 : Int32), (0 : Int32), (0 : Int32), (0 : Int32), (0 : Int32), (0 : Int32), (0 : Int32), (0 : Int32), (0 : Int32), (0 : Int32), (0 : Int32), (0 : Int32), (0 : Int32), (0 : Int32), (0 : Int32), (0 : Int32), (0 : Int32)] := V_67
      have N68 := Fr.snoc X67 N64 g43
      have Z69 : n0 ≤ h67.size := Nat.le_trans Z65 (Nat.le_of_eq W67.size.symm)
      have V70 := V66.other W67 ne42
      refine Goes.step (S' := T67.setTop (mkF m 314 #[.val (.int p0), .val (.int p1), .val (.int p2), .val (.int p3), .val (.int p4), .val (.int p5), .val (.int (0 : Int32)), .val (.int (0 : Int32)), .val (.long v8_34), .second, .val (.int (13 : Int32)), .val (.ref b1), .val (.ref b41), .val (.int (1 : Int32)), .unset, .unset, .unset] [])) st67 ?_
      refine G_aload X67 hx (hb hby at_314) rfl rfl (pc' := 316) rfl ?_
      refine G_iload X67 hx (hb hby at_316) rfl (pc' := 318) rfl ?_
      refine G_iconst X67 hx (hb hby at_318) (z := 5) rfl (pc' := 319) rfl ?_
      refine G_iadd X67 hx (hb hby at_319) (z := 6) rfl (pc' := 320) rfl ?_
      refine G_aload X67 hx (hb hby at_320) rfl rfl (pc' := 322) rfl ?_
      refine G_iconst X67 hx (hb hby at_322) (z := 5) rfl (pc' := 323) rfl ?_
      refine Goes.step (S' := T67.setTop (mkF m 324 #[.val (.int p0), .val (.int p1), .val (.int p2), .val (.int p3), .val (.int p4), .val (.int p5), .val (.int (0 : Int32)), .val (.int (0 : Int32)), .val (.long v8_34), .second, .val (.int (13 : Int32)), .val (.ref b1), .val (.ref b41), .val (.int (1 : Int32)), .unset, .unset, .unset] [(.int y120), (.int (6 : Int32)), (.ref b41)])) (fun _ k => own_baload X67 hx hZ e67 V70 ⟨by decide, by decide⟩ (hb hby at_323) _ k) ?_
      obtain ⟨T71, h71, X71, e71, W71, V_71, st71⟩ := own_bastore X67 hx hZ e67 V_67 ⟨by decide, by decide⟩ (g := (mkF m 324 #[.val (.int p0), .val (.int p1), .val (.int p2), .val (.int p3), .val (.int p4), .val (.int p5), .val (.int (0 : Int32)), .val (.int (0 : Int32)), .val (.long v8_34), .second, .val (.int (13 : Int32)), .val (.ref b1), .val (.ref b41), .val (.int (1 : Int32)), .unset, .unset, .unset] [(.int y120), (.int (6 : Int32)), (.ref b41)])) rfl rfl (hb hby at_324)
      replace V_71 : AI Z h71 b41 k41 .byte (40 : Int32) [y215, (nar .byte y78), (nar .byte y87), (nar .byte y96), (nar .byte y102), (nar .byte y111), (nar .byte y120), (0 : Int32), (0 : Int32), (0 : Int32), (0 : Int32), (0 : Int32), (0 : Int32), (0 : Int32), (0 : Int32), (0 : Int32), (0 : Int32), (0 : Int32), (0 : Int32), (0 : Int32), (0 : Int32), (0 : Int32), (0 : Int32), (0 : Int32), (0 : Int32), (0 : Int32), (0 : Int32), (0 : Int32), (0 : Int32), (0 : Int32), (0 : Int32), (0 : Int32), (0 : Int32), (0 : Int32), (0 : Int32), (0 : Int32), (0 : Int32), (0 : Int32), (0 : Int32), (0 : Int32)] := V_71
      have N72 := Fr.snoc X71 N68 g43
      have Z73 : n0 ≤ h71.size := Nat.le_trans Z69 (Nat.le_of_eq W71.size.symm)
      have V74 := V70.other W71 ne42
      refine Goes.step (S' := T71.setTop (mkF m 325 #[.val (.int p0), .val (.int p1), .val (.int p2), .val (.int p3), .val (.int p4), .val (.int p5), .val (.int (0 : Int32)), .val (.int (0 : Int32)), .val (.long v8_34), .second, .val (.int (13 : Int32)), .val (.ref b1), .val (.ref b41), .val (.int (1 : Int32)), .unset, .unset, .unset] [])) st71 ?_
      refine G_aload X71 hx (hb hby at_325) rfl rfl (pc' := 327) rfl ?_
      refine G_iload X71 hx (hb hby at_327) rfl (pc' := 329) rfl ?_
      refine G_bipush X71 hx (hb hby at_329) (z := 6) rfl (pc' := 331) rfl ?_
      refine G_iadd X71 hx (hb hby at_331) (z := 7) rfl (pc' := 332) rfl ?_
      refine G_aload X71 hx (hb hby at_332) rfl rfl (pc' := 334) rfl ?_
      refine G_bipush X71 hx (hb hby at_334) (z := 6) rfl (pc' := 336) rfl ?_
      refine Goes.step (S' := T71.setTop (mkF m 337 #[.val (.int p0), .val (.int p1), .val (.int p2), .val (.int p3), .val (.int p4), .val (.int p5), .val (.int (0 : Int32)), .val (.int (0 : Int32)), .val (.long v8_34), .second, .val (.int (13 : Int32)), .val (.ref b1), .val (.ref b41), .val (.int (1 : Int32)), .unset, .unset, .unset] [(.int y130), (.int (7 : Int32)), (.ref b41)])) (fun _ k => own_baload X71 hx hZ e71 V74 ⟨by decide, by decide⟩ (hb hby at_336) _ k) ?_
      obtain ⟨T75, h75, X75, e75, W75, V_75, st75⟩ := own_bastore X71 hx hZ e71 V_71 ⟨by decide, by decide⟩ (g := (mkF m 337 #[.val (.int p0), .val (.int p1), .val (.int p2), .val (.int p3), .val (.int p4), .val (.int p5), .val (.int (0 : Int32)), .val (.int (0 : Int32)), .val (.long v8_34), .second, .val (.int (13 : Int32)), .val (.ref b1), .val (.ref b41), .val (.int (1 : Int32)), .unset, .unset, .unset] [(.int y130), (.int (7 : Int32)), (.ref b41)])) rfl rfl (hb hby at_337)
      replace V_75 : AI Z h75 b41 k41 .byte (40 : Int32) [y215, (nar .byte y78), (nar .byte y87), (nar .byte y96), (nar .byte y102), (nar .byte y111), (nar .byte y120), (nar .byte y130), (0 : Int32), (0 : Int32), (0 : Int32), (0 : Int32), (0 : Int32), (0 : Int32), (0 : Int32), (0 : Int32), (0 : Int32), (0 : Int32), (0 : Int32), (0 : Int32), (0 : Int32), (0 : Int32), (0 : Int32), (0 : Int32), (0 : Int32), (0 : Int32), (0 : Int32), (0 : Int32), (0 : Int32), (0 : Int32), (0 : Int32), (0 : Int32), (0 : Int32), (0 : Int32), (0 : Int32), (0 : Int32), (0 : Int32), (0 : Int32), (0 : Int32), (0 : Int32)] := V_75
      have N76 := Fr.snoc X75 N72 g43
      have Z77 : n0 ≤ h75.size := Nat.le_trans Z73 (Nat.le_of_eq W75.size.symm)
      have V78 := V74.other W75 ne42
      refine Goes.step (S' := T75.setTop (mkF m 338 #[.val (.int p0), .val (.int p1), .val (.int p2), .val (.int p3), .val (.int p4), .val (.int p5), .val (.int (0 : Int32)), .val (.int (0 : Int32)), .val (.long v8_34), .second, .val (.int (13 : Int32)), .val (.ref b1), .val (.ref b41), .val (.int (1 : Int32)), .unset, .unset, .unset] [])) st75 ?_
      refine G_aload X75 hx (hb hby at_338) rfl rfl (pc' := 340) rfl ?_
      refine G_iload X75 hx (hb hby at_340) rfl (pc' := 342) rfl ?_
      refine G_bipush X75 hx (hb hby at_342) (z := 7) rfl (pc' := 344) rfl ?_
      refine G_iadd X75 hx (hb hby at_344) (z := 8) rfl (pc' := 345) rfl ?_
      refine G_aload X75 hx (hb hby at_345) rfl rfl (pc' := 347) rfl ?_
      refine G_bipush X75 hx (hb hby at_347) (z := 7) rfl (pc' := 349) rfl ?_
      refine Goes.step (S' := T75.setTop (mkF m 350 #[.val (.int p0), .val (.int p1), .val (.int p2), .val (.int p3), .val (.int p4), .val (.int p5), .val (.int (0 : Int32)), .val (.int (0 : Int32)), .val (.long v8_34), .second, .val (.int (13 : Int32)), .val (.ref b1), .val (.ref b41), .val (.int (1 : Int32)), .unset, .unset, .unset] [(.int y137), (.int (8 : Int32)), (.ref b41)])) (fun _ k => own_baload X75 hx hZ e75 V78 ⟨by decide, by decide⟩ (hb hby at_349) _ k) ?_
      obtain ⟨T79, h79, X79, e79, W79, V_79, st79⟩ := own_bastore X75 hx hZ e75 V_75 ⟨by decide, by decide⟩ (g := (mkF m 350 #[.val (.int p0), .val (.int p1), .val (.int p2), .val (.int p3), .val (.int p4), .val (.int p5), .val (.int (0 : Int32)), .val (.int (0 : Int32)), .val (.long v8_34), .second, .val (.int (13 : Int32)), .val (.ref b1), .val (.ref b41), .val (.int (1 : Int32)), .unset, .unset, .unset] [(.int y137), (.int (8 : Int32)), (.ref b41)])) rfl rfl (hb hby at_350)
      replace V_79 : AI Z h79 b41 k41 .byte (40 : Int32) [y215, (nar .byte y78), (nar .byte y87), (nar .byte y96), (nar .byte y102), (nar .byte y111), (nar .byte y120), (nar .byte y130), (nar .byte y137), (0 : Int32), (0 : Int32), (0 : Int32), (0 : Int32), (0 : Int32), (0 : Int32), (0 : Int32), (0 : Int32), (0 : Int32), (0 : Int32), (0 : Int32), (0 : Int32), (0 : Int32), (0 : Int32), (0 : Int32), (0 : Int32), (0 : Int32), (0 : Int32), (0 : Int32), (0 : Int32), (0 : Int32), (0 : Int32), (0 : Int32), (0 : Int32), (0 : Int32), (0 : Int32), (0 : Int32), (0 : Int32), (0 : Int32), (0 : Int32), (0 : Int32)] := V_79
      have N80 := Fr.snoc X79 N76 g43
      have Z81 : n0 ≤ h79.size := Nat.le_trans Z77 (Nat.le_of_eq W79.size.symm)
      have V82 := V78.other W79 ne42
      refine Goes.step (S' := T79.setTop (mkF m 351 #[.val (.int p0), .val (.int p1), .val (.int p2), .val (.int p3), .val (.int p4), .val (.int p5), .val (.int (0 : Int32)), .val (.int (0 : Int32)), .val (.long v8_34), .second, .val (.int (13 : Int32)), .val (.ref b1), .val (.ref b41), .val (.int (1 : Int32)), .unset, .unset, .unset] [])) st79 ?_
      refine G_aload X79 hx (hb hby at_351) rfl rfl (pc' := 353) rfl ?_
      refine G_iload X79 hx (hb hby at_353) rfl (pc' := 355) rfl ?_
      refine G_bipush X79 hx (hb hby at_355) (z := 8) rfl (pc' := 357) rfl ?_
      refine G_iadd X79 hx (hb hby at_357) (z := 9) rfl (pc' := 358) rfl ?_
      refine G_aload X79 hx (hb hby at_358) rfl rfl (pc' := 360) rfl ?_
      refine G_bipush X79 hx (hb hby at_360) (z := 8) rfl (pc' := 362) rfl ?_
      refine Goes.step (S' := T79.setTop (mkF m 363 #[.val (.int p0), .val (.int p1), .val (.int p2), .val (.int p3), .val (.int p4), .val (.int p5), .val (.int (0 : Int32)), .val (.int (0 : Int32)), .val (.long v8_34), .second, .val (.int (13 : Int32)), .val (.ref b1), .val (.ref b41), .val (.int (1 : Int32)), .unset, .unset, .unset] [(.int y147), (.int (9 : Int32)), (.ref b41)])) (fun _ k => own_baload X79 hx hZ e79 V82 ⟨by decide, by decide⟩ (hb hby at_362) _ k) ?_
      obtain ⟨T83, h83, X83, e83, W83, V_83, st83⟩ := own_bastore X79 hx hZ e79 V_79 ⟨by decide, by decide⟩ (g := (mkF m 363 #[.val (.int p0), .val (.int p1), .val (.int p2), .val (.int p3), .val (.int p4), .val (.int p5), .val (.int (0 : Int32)), .val (.int (0 : Int32)), .val (.long v8_34), .second, .val (.int (13 : Int32)), .val (.ref b1), .val (.ref b41), .val (.int (1 : Int32)), .unset, .unset, .unset] [(.int y147), (.int (9 : Int32)), (.ref b41)])) rfl rfl (hb hby at_363)
      replace V_83 : AI Z h83 b41 k41 .byte (40 : Int32) [y215, (nar .byte y78), (nar .byte y87), (nar .byte y96), (nar .byte y102), (nar .byte y111), (nar .byte y120), (nar .byte y130), (nar .byte y137), (nar .byte y147), (0 : Int32), (0 : Int32), (0 : Int32), (0 : Int32), (0 : Int32), (0 : Int32), (0 : Int32), (0 : Int32), (0 : Int32), (0 : Int32), (0 : Int32), (0 : Int32), (0 : Int32), (0 : Int32), (0 : Int32), (0 : Int32), (0 : Int32), (0 : Int32), (0 : Int32), (0 : Int32), (0 : Int32), (0 : Int32), (0 : Int32), (0 : Int32), (0 : Int32), (0 : Int32), (0 : Int32), (0 : Int32), (0 : Int32), (0 : Int32)] := V_83
      have N84 := Fr.snoc X83 N80 g43
      have Z85 : n0 ≤ h83.size := Nat.le_trans Z81 (Nat.le_of_eq W83.size.symm)
      have V86 := V82.other W83 ne42
      refine Goes.step (S' := T83.setTop (mkF m 364 #[.val (.int p0), .val (.int p1), .val (.int p2), .val (.int p3), .val (.int p4), .val (.int p5), .val (.int (0 : Int32)), .val (.int (0 : Int32)), .val (.long v8_34), .second, .val (.int (13 : Int32)), .val (.ref b1), .val (.ref b41), .val (.int (1 : Int32)), .unset, .unset, .unset] [])) st83 ?_
      refine G_aload X83 hx (hb hby at_364) rfl rfl (pc' := 366) rfl ?_
      refine G_iload X83 hx (hb hby at_366) rfl (pc' := 368) rfl ?_
      refine G_bipush X83 hx (hb hby at_368) (z := 9) rfl (pc' := 370) rfl ?_
      refine G_iadd X83 hx (hb hby at_370) (z := 10) rfl (pc' := 371) rfl ?_
      refine G_aload X83 hx (hb hby at_371) rfl rfl (pc' := 373) rfl ?_
      refine G_bipush X83 hx (hb hby at_373) (z := 9) rfl (pc' := 375) rfl ?_
      refine Goes.step (S' := T83.setTop (mkF m 376 #[.val (.int p0), .val (.int p1), .val (.int p2), .val (.int p3), .val (.int p4), .val (.int p5), .val (.int (0 : Int32)), .val (.int (0 : Int32)), .val (.long v8_34), .second, .val (.int (13 : Int32)), .val (.ref b1), .val (.ref b41), .val (.int (1 : Int32)), .unset, .unset, .unset] [(.int y157), (.int (10 : Int32)), (.ref b41)])) (fun _ k => own_baload X83 hx hZ e83 V86 ⟨by decide, by decide⟩ (hb hby at_375) _ k) ?_
      obtain ⟨T87, h87, X87, e87, W87, V_87, st87⟩ := own_bastore X83 hx hZ e83 V_83 ⟨by decide, by decide⟩ (g := (mkF m 376 #[.val (.int p0), .val (.int p1), .val (.int p2), .val (.int p3), .val (.int p4), .val (.int p5), .val (.int (0 : Int32)), .val (.int (0 : Int32)), .val (.long v8_34), .second, .val (.int (13 : Int32)), .val (.ref b1), .val (.ref b41), .val (.int (1 : Int32)), .unset, .unset, .unset] [(.int y157), (.int (10 : Int32)), (.ref b41)])) rfl rfl (hb hby at_376)
      replace V_87 : AI Z h87 b41 k41 .byte (40 : Int32) [y215, (nar .byte y78), (nar .byte y87), (nar .byte y96), (nar .byte y102), (nar .byte y111), (nar .byte y120), (nar .byte y130), (nar .byte y137), (nar .byte y147), (nar .byte y157), (0 : Int32), (0 : Int32), (0 : Int32), (0 : Int32), (0 : Int32), (0 : Int32), (0 : Int32), (0 : Int32), (0 : Int32), (0 : Int32), (0 : Int32), (0 : Int32), (0 : Int32), (0 : Int32), (0 : Int32), (0 : Int32), (0 : Int32), (0 : Int32), (0 : Int32), (0 : Int32), (0 : Int32), (0 : Int32), (0 : Int32), (0 : Int32), (0 : Int32), (0 : Int32), (0 : Int32), (0 : Int32), (0 : Int32)] := V_87
      have N88 := Fr.snoc X87 N84 g43
      have Z89 : n0 ≤ h87.size := Nat.le_trans Z85 (Nat.le_of_eq W87.size.symm)
      have V90 := V86.other W87 ne42
      refine Goes.step (S' := T87.setTop (mkF m 377 #[.val (.int p0), .val (.int p1), .val (.int p2), .val (.int p3), .val (.int p4), .val (.int p5), .val (.int (0 : Int32)), .val (.int (0 : Int32)), .val (.long v8_34), .second, .val (.int (13 : Int32)), .val (.ref b1), .val (.ref b41), .val (.int (1 : Int32)), .unset, .unset, .unset] [])) st87 ?_
      refine G_aload X87 hx (hb hby at_377) rfl rfl (pc' := 379) rfl ?_
      refine G_iload X87 hx (hb hby at_379) rfl (pc' := 381) rfl ?_
      refine G_bipush X87 hx (hb hby at_381) (z := 10) rfl (pc' := 383) rfl ?_
      refine G_iadd X87 hx (hb hby at_383) (z := 11) rfl (pc' := 384) rfl ?_
      refine G_aload X87 hx (hb hby at_384) rfl rfl (pc' := 386) rfl ?_
      refine G_bipush X87 hx (hb hby at_386) (z := 10) rfl (pc' := 388) rfl ?_
      refine Goes.step (S' := T87.setTop (mkF m 389 #[.val (.int p0), .val (.int p1), .val (.int p2), .val (.int p3), .val (.int p4), .val (.int p5), .val (.int (0 : Int32)), .val (.int (0 : Int32)), .val (.long v8_34), .second, .val (.int (13 : Int32)), .val (.ref b1), .val (.ref b41), .val (.int (1 : Int32)), .unset, .unset, .unset] [(.int y167), (.int (11 : Int32)), (.ref b41)])) (fun _ k => own_baload X87 hx hZ e87 V90 ⟨by decide, by decide⟩ (hb hby at_388) _ k) ?_
      obtain ⟨T91, h91, X91, e91, W91, V_91, st91⟩ := own_bastore X87 hx hZ e87 V_87 ⟨by decide, by decide⟩ (g := (mkF m 389 #[.val (.int p0), .val (.int p1), .val (.int p2), .val (.int p3), .val (.int p4), .val (.int p5), .val (.int (0 : Int32)), .val (.int (0 : Int32)), .val (.long v8_34), .second, .val (.int (13 : Int32)), .val (.ref b1), .val (.ref b41), .val (.int (1 : Int32)), .unset, .unset, .unset] [(.int y167), (.int (11 : Int32)), (.ref b41)])) rfl rfl (hb hby at_389)
      replace V_91 : AI Z h91 b41 k41 .byte (40 : Int32) [y215, (nar .byte y78), (nar .byte y87), (nar .byte y96), (nar .byte y102), (nar .byte y111), (nar .byte y120), (nar .byte y130), (nar .byte y137), (nar .byte y147), (nar .byte y157), (nar .byte y167), (0 : Int32), (0 : Int32), (0 : Int32), (0 : Int32), (0 : Int32), (0 : Int32), (0 : Int32), (0 : Int32), (0 : Int32), (0 : Int32), (0 : Int32), (0 : Int32), (0 : Int32), (0 : Int32), (0 : Int32), (0 : Int32), (0 : Int32), (0 : Int32), (0 : Int32), (0 : Int32), (0 : Int32), (0 : Int32), (0 : Int32), (0 : Int32), (0 : Int32), (0 : Int32), (0 : Int32), (0 : Int32)] := V_91
      have N92 := Fr.snoc X91 N88 g43
      have Z93 : n0 ≤ h91.size := Nat.le_trans Z89 (Nat.le_of_eq W91.size.symm)
      have V94 := V90.other W91 ne42
      refine Goes.step (S' := T91.setTop (mkF m 390 #[.val (.int p0), .val (.int p1), .val (.int p2), .val (.int p3), .val (.int p4), .val (.int p5), .val (.int (0 : Int32)), .val (.int (0 : Int32)), .val (.long v8_34), .second, .val (.int (13 : Int32)), .val (.ref b1), .val (.ref b41), .val (.int (1 : Int32)), .unset, .unset, .unset] [])) st91 ?_
      refine G_aload X91 hx (hb hby at_390) rfl rfl (pc' := 392) rfl ?_
      refine G_iload X91 hx (hb hby at_392) rfl (pc' := 394) rfl ?_
      refine G_bipush X91 hx (hb hby at_394) (z := 11) rfl (pc' := 396) rfl ?_
      refine G_iadd X91 hx (hb hby at_396) (z := 12) rfl (pc' := 397) rfl ?_
      refine G_aload X91 hx (hb hby at_397) rfl rfl (pc' := 399) rfl ?_
      refine G_bipush X91 hx (hb hby at_399) (z := 11) rfl (pc' := 401) rfl ?_
      refine Goes.step (S' := T91.setTop (mkF m 402 #[.val (.int p0), .val (.int p1), .val (.int p2), .val (.int p3), .val (.int p4), .val (.int p5), .val (.int (0 : Int32)), .val (.int (0 : Int32)), .val (.long v8_34), .second, .val (.int (13 : Int32)), .val (.ref b1), .val (.ref b41), .val (.int (1 : Int32)), .unset, .unset, .unset] [(.int y174), (.int (12 : Int32)), (.ref b41)])) (fun _ k => own_baload X91 hx hZ e91 V94 ⟨by decide, by decide⟩ (hb hby at_401) _ k) ?_
      obtain ⟨T95, h95, X95, e95, W95, V_95, st95⟩ := own_bastore X91 hx hZ e91 V_91 ⟨by decide, by decide⟩ (g := (mkF m 402 #[.val (.int p0), .val (.int p1), .val (.int p2), .val (.int p3), .val (.int p4), .val (.int p5), .val (.int (0 : Int32)), .val (.int (0 : Int32)), .val (.long v8_34), .second, .val (.int (13 : Int32)), .val (.ref b1), .val (.ref b41), .val (.int (1 : Int32)), .unset, .unset, .unset] [(.int y174), (.int (12 : Int32)), (.ref b41)])) rfl rfl (hb hby at_402)
      replace V_95 : AI Z h95 b41 k41 .byte (40 : Int32) [y215, (nar .byte y78), (nar .byte y87), (nar .byte y96), (nar .byte y102), (nar .byte y111), (nar .byte y120), (nar .byte y130), (nar .byte y137), (nar .byte y147), (nar .byte y157), (nar .byte y167), (nar .byte y174), (0 : Int32), (0 : Int32), (0 : Int32), (0 : Int32), (0 : Int32), (0 : Int32), (0 : Int32), (0 : Int32), (0 : Int32), (0 : Int32), (0 : Int32), (0 : Int32), (0 : Int32), (0 : Int32), (0 : Int32), (0 : Int32), (0 : Int32), (0 : Int32), (0 : Int32), (0 : Int32), (0 : Int32), (0 : Int32), (0 : Int32), (0 : Int32), (0 : Int32), (0 : Int32), (0 : Int32)] := V_95
      have N96 := Fr.snoc X95 N92 g43
      have Z97 : n0 ≤ h95.size := Nat.le_trans Z93 (Nat.le_of_eq W95.size.symm)
      have V98 := V94.other W95 ne42
      refine Goes.step (S' := T95.setTop (mkF m 403 #[.val (.int p0), .val (.int p1), .val (.int p2), .val (.int p3), .val (.int p4), .val (.int p5), .val (.int (0 : Int32)), .val (.int (0 : Int32)), .val (.long v8_34), .second, .val (.int (13 : Int32)), .val (.ref b1), .val (.ref b41), .val (.int (1 : Int32)), .unset, .unset, .unset] [])) st95 ?_
      refine G_aload X95 hx (hb hby at_403) rfl rfl (pc' := 405) rfl ?_
      refine G_iload X95 hx (hb hby at_405) rfl (pc' := 407) rfl ?_
      refine G_iload X95 hx (hb hby at_407) rfl (pc' := 409) rfl ?_
      refine G_i2b X95 hx (hb hby at_409) (pc' := 410) rfl ?_
      obtain ⟨T99, h99, X99, e99, W99, V_99, st99⟩ := own_bastore X95 hx hZ e95 V_95 ⟨by decide, by decide⟩ (g := (mkF m 410 #[.val (.int p0), .val (.int p1), .val (.int p2), .val (.int p3), .val (.int p4), .val (.int p5), .val (.int (0 : Int32)), .val (.int (0 : Int32)), .val (.long v8_34), .second, .val (.int (13 : Int32)), .val (.ref b1), .val (.ref b41), .val (.int (1 : Int32)), .unset, .unset, .unset] [(.int (p5.toInt8.toInt32)), (.int (13 : Int32)), (.ref b41)])) rfl rfl (hb hby at_410)
      obtain ⟨y410, ey410⟩ : ∃ z : Int32, z = (nar .byte (p5.toInt8.toInt32)) := ⟨_, rfl⟩
      replace V_99 : AI Z h99 b41 k41 .byte (40 : Int32) [y215, (nar .byte y78), (nar .byte y87), (nar .byte y96), (nar .byte y102), (nar .byte y111), (nar .byte y120), (nar .byte y130), (nar .byte y137), (nar .byte y147), (nar .byte y157), (nar .byte y167), (nar .byte y174), y410, (0 : Int32), (0 : Int32), (0 : Int32), (0 : Int32), (0 : Int32), (0 : Int32), (0 : Int32), (0 : Int32), (0 : Int32), (0 : Int32), (0 : Int32), (0 : Int32), (0 : Int32), (0 : Int32), (0 : Int32), (0 : Int32), (0 : Int32), (0 : Int32), (0 : Int32), (0 : Int32), (0 : Int32), (0 : Int32), (0 : Int32), (0 : Int32), (0 : Int32), (0 : Int32)] := by rw [ey410]; exact V_99
      have N100 := Fr.snoc X99 N96 g43
      have Z101 : n0 ≤ h99.size := Nat.le_trans Z97 (Nat.le_of_eq W99.size.symm)
      have V102 := V98.other W99 ne42
      refine Goes.step (S' := T99.setTop (mkF m 411 #[.val (.int p0), .val (.int p1), .val (.int p2), .val (.int p3), .val (.int p4), .val (.int p5), .val (.int (0 : Int32)), .val (.int (0 : Int32)), .val (.long v8_34), .second, .val (.int (13 : Int32)), .val (.ref b1), .val (.ref b41), .val (.int (1 : Int32)), .unset, .unset, .unset] [])) st99 ?_
      refine G_aload X99 hx (hb hby at_411) rfl rfl (pc' := 413) rfl ?_
      refine G_aload X99 hx (hb hby at_413) rfl rfl (pc' := 415) rfl ?_
      refine Goes.step (S' := T99.setTop (mkF m 416 #[.val (.int p0), .val (.int p1), .val (.int p2), .val (.int p3), .val (.int p4), .val (.int p5), .val (.int (0 : Int32)), .val (.int (0 : Int32)), .val (.long v8_34), .second, .val (.int (13 : Int32)), .val (.ref b1), .val (.ref b41), .val (.int (1 : Int32)), .unset, .unset, .unset] [(.int (40 : Int32)), (.ref b41)])) (fun _ k => own_len X99 hx hZ e99 V_99 (hb hby at_415) _ k) ?_
      refine G_iconst X99 hx (hb hby at_416) (z := 1) rfl (pc' := 417) rfl ?_
      refine Goes.step (S' := T99.setTop (mkF m 418 #[.val (.int p0), .val (.int p1), .val (.int p2), .val (.int p3), .val (.int p4), .val (.int p5), .val (.int (0 : Int32)), .val (.int (0 : Int32)), .val (.long v8_34), .second, .val (.int (13 : Int32)), .val (.ref b1), .val (.ref b41), .val (.int (1 : Int32)), .unset, .unset, .unset] [(.int (39 : Int32)), (.ref b41)])) (fun _ k => XS.isub X99.here hx rfl (hb hby at_417) rfl k) ?_
      refine G_iload X99 hx (hb hby at_418) rfl (pc' := 420) rfl ?_
      refine G_bipush X99 hx (hb hby at_420) (z := 8) rfl (pc' := 422) rfl ?_
      refine G_iushr X99 hx (hb hby at_422) (pc' := 423) rfl ?_
      refine G_i2b X99 hx (hb hby at_423) (pc' := 424) rfl ?_
      obtain ⟨T103, h103, X103, e103, W103, V_103, st103⟩ := own_bastore X99 hx hZ e99 V_99 ⟨by decide, by decide⟩ (g := (mkF m 424 #[.val (.int p0), .val (.int p1), .val (.int p2), .val (.int p3), .val (.int p4), .val (.int p5), .val (.int (0 : Int32)), .val (.int (0 : Int32)), .val (.long v8_34), .second, .val (.int (13 : Int32)), .val (.ref b1), .val (.ref b41), .val (.int (1 : Int32)), .unset, .unset, .unset] [(.int (((p5.toUInt32 >>> ((8 : Int32) &&& 31).toUInt32).toInt32).toInt8.toInt32)), (.int (39 : Int32)), (.ref b41)])) rfl rfl (hb hby at_424)
      obtain ⟨y424, ey424⟩ : ∃ z : Int32, z = (nar .byte (((p5.toUInt32 >>> ((8 : Int32) &&& 31).toUInt32).toInt32).toInt8.toInt32)) := ⟨_, rfl⟩
      replace V_103 : AI Z h103 b41 k41 .byte (40 : Int32) [y215, (nar .byte y78), (nar .byte y87), (nar .byte y96), (nar .byte y102), (nar .byte y111), (nar .byte y120), (nar .byte y130), (nar .byte y137), (nar .byte y147), (nar .byte y157), (nar .byte y167), (nar .byte y174), y410, (0 : Int32), (0 : Int32), (0 : Int32), (0 : Int32), (0 : Int32), (0 : Int32), (0 : Int32), (0 : Int32), (0 : Int32), (0 : Int32), (0 : Int32), (0 : Int32), (0 : Int32), (0 : Int32), (0 : Int32), (0 : Int32), (0 : Int32), (0 : Int32), (0 : Int32), (0 : Int32), (0 : Int32), (0 : Int32), (0 : Int32), (0 : Int32), (0 : Int32), y424] := by rw [ey424]; exact V_103
      have N104 := Fr.snoc X103 N100 g43
      have Z105 : n0 ≤ h103.size := Nat.le_trans Z101 (Nat.le_of_eq W103.size.symm)
      have V106 := V102.other W103 ne42
      refine Goes.step (S' := T103.setTop (mkF m 425 #[.val (.int p0), .val (.int p1), .val (.int p2), .val (.int p3), .val (.int p4), .val (.int p5), .val (.int (0 : Int32)), .val (.int (0 : Int32)), .val (.long v8_34), .second, .val (.int (13 : Int32)), .val (.ref b1), .val (.ref b41), .val (.int (1 : Int32)), .unset, .unset, .unset] [])) st103 ?_
      refine G_aload X103 hx (hb hby at_425) rfl rfl (pc' := 427) rfl ?_
      obtain ⟨_, _, ⟨T107, L107, k107, n107⟩, -, X107, ⟨Lc107, hQ107, l107, y107, z107⟩, st107⟩ := Jvm.LawKit.callS X103 hx (y := (⟨"com/example/isopod/isopod/RecordHeader", "read", "([B)Lcom/example/isopod/isopod/RecordHeader;"⟩ : MethodName)) hown (mvT hZ (hw _ (List.mem_of_getElem? (i := 2) rfl))) (mvT hZ (hw _ (List.mem_of_getElem? (i := 3) rfl))) (mvT hZ (hw _ (List.mem_of_getElem? (i := 4) rfl))) (mvT hZ (hw _ (List.mem_of_getElem? (i := 5) rfl))) (by decide) (backOf (W := 0) (rm1a l Z a0 hw [] b41 k41 ((40 : Int32)) ([y215, (nar .byte y78), (nar .byte y87), (nar .byte y96), (nar .byte y102), (nar .byte y111), (nar .byte y120), (nar .byte y130), (nar .byte y137), (nar .byte y147), (nar .byte y157), (nar .byte y167), (nar .byte y174), y410, (0 : Int32), (0 : Int32), (0 : Int32), (0 : Int32), (0 : Int32), (0 : Int32), (0 : Int32), (0 : Int32), (0 : Int32), (0 : Int32), (0 : Int32), (0 : Int32), (0 : Int32), (0 : Int32), (0 : Int32), (0 : Int32), (0 : Int32), (0 : Int32), (0 : Int32), (0 : Int32), (0 : Int32), (0 : Int32), (0 : Int32), (0 : Int32), (0 : Int32), y424]) h103 n0 Z105 V_103 hk41 (own_pr0_427_hv0 p0 p1 p2 p3 p4 p5 hc4_1 hc18_2 y78 ey78 y87 ey87 y96 ey96 y102 ey102 y111 ey111 y120 ey120 y130 ey130 y137 ey137 y147 ey147 y157 ey157 y167 ey167 y174 ey174 y215 ey215 y410 ey410 y424 ey424) (own_pr0_427_hn p0 p1 p2 p3 p4 p5 hc4_1 hc18_2) (own_pr0_427_hn2 p0 p1 p2 p3 p4 p5 hc4_1 hc18_2)) hZ (hw _ (List.mem_of_getElem? (i := 5) rfl)) (hw _ (List.mem_of_getElem? (i := 4) rfl)) (by decide) (by decide)) (g := (mkF m 427 #[.val (.int p0), .val (.int p1), .val (.int p2), .val (.int p3), .val (.int p4), .val (.int p5), .val (.int (0 : Int32)), .val (.int (0 : Int32)), .val (.long v8_34), .second, .val (.int (13 : Int32)), .val (.ref b1), .val (.ref b41), .val (.int (1 : Int32)), .unset, .unset, .unset] [(.ref b41)])) rfl (by rw [hml]; rfl) (argsL := [(.ref b41)]) (rest := []) (lenOf pd5 rfl) rfl (by show 2 * 0 + _ ≤ _; exact Nat.le_of_eq rfl) (hb hby at_427) (fun _ _ => ⟨rfl, e103, (by decide : 2 + 2 ≤ _), (by decide : 52 + 15 ≤ _)⟩)
      dsimp only [Pt.U, Pt.locs, Pt.cells, Pt.slots] at X107 l107 y107 z107 st107 hQ107
      replace X107 := X107.more (Nat.le_of_eq (y107 : k107 = 4)) (Nat.le_of_eq (z107 : n107 = 67))
      obtain ⟨r107_0, r107_1, rk107_0, rfl, N107q, K107q, P108, P109, P110, P111, P112, P113, P114, P115, P116⟩ := hQ107
      have N117 := own_frapp l107 N104 N107q
      have ne118 : b1 ≠ r107_0 := Nat.ne_of_lt (Nat.lt_of_lt_of_le V106.lt P108)
      have ne119 : b41 ≠ r107_0 := Nat.ne_of_lt (Nat.lt_of_lt_of_le V_103.lt P108)
      have g120 : n0 ≤ r107_0 := Nat.le_trans Z105 P108
      have ne121 : b1 ≠ r107_1 := Nat.ne_of_lt (Nat.lt_of_lt_of_le V106.lt P113)
      have ne122 : b41 ≠ r107_1 := Nat.ne_of_lt (Nat.lt_of_lt_of_le V_103.lt P113)
      have g123 : n0 ≤ r107_1 := Nat.le_trans Z105 P113
      have V124 := V106.keep K107q nin0
      have V125 := V_103.keep K107q nin0
      have Z126 : n0 ≤ T107.heap.size := Nat.le_trans Z105 K107q.1
      refine Goes.step (S' := T107.setTop (mkF m 430 #[.val (.int p0), .val (.int p1), .val (.int p2), .val (.int p3), .val (.int p4), .val (.int p5), .val (.int (0 : Int32)), .val (.int (0 : Int32)), .val (.long v8_34), .second, .val (.int (13 : Int32)), .val (.ref b1), .val (.ref b41), .val (.int (1 : Int32)), .unset, .unset, .unset] [(.ref r107_0)])) st107 ?_
      refine Goes.step (S' := T107.setTop (mkF m 432 #[.val (.int p0), .val (.int p1), .val (.int p2), .val (.int p3), .val (.int p4), .val (.int p5), .val (.int (0 : Int32)), .val (.int (0 : Int32)), .val (.long v8_34), .second, .val (.int (13 : Int32)), .val (.ref b1), .val (.ref b41), .val (.int (1 : Int32)), .val (.ref r107_0), .unset, .unset] [])) (fun _ k => XS.astore X107.here hx rfl (hb hby at_430) rfl rfl (l' := #[.val (.int p0), .val (.int p1), .val (.int p2), .val (.int p3), .val (.int p4), .val (.int p5), .val (.int (0 : Int32)), .val (.int (0 : Int32)), .val (.long v8_34), .second, .val (.int (13 : Int32)), .val (.ref b1), .val (.ref b41), .val (.int (1 : Int32)), .val (.ref r107_0), .unset, .unset]) rfl k) ?_
      refine G_aload X107 hx (hb hby at_432) rfl rfl (pc' := 434) rfl ?_
      obtain ⟨cq127, kq127, q127a, q127b, q127c⟩ := isOf hZ rfl P109
      obtain ⟨_, _, ⟨T127, L127, k127, n127⟩, -, X127, ⟨Lc127, hQ127, l127, y127, z127⟩, st127⟩ := X107.virtualBack hx (y := (⟨"com/example/isopod/isopod/RecordHeader", "nonce", "()[B"⟩ : MethodName)) (z := (⟨"com/example/isopod/isopod/RecordHeader", "nonce", "()[B"⟩ : MethodName)) hown (mvT hZ (hw _ (List.mem_of_getElem? (i := 42) rfl))) (mvT hZ (hw _ (List.mem_of_getElem? (i := 43) rfl))) (notFace_of_selects (args := #[]) (mvT hZ (hw _ (List.mem_of_getElem? (i := 45) rfl)))) (mvT hZ (hw _ (List.mem_of_getElem? (i := 45) rfl))) (mvT hZ (hw _ (List.mem_of_getElem? (i := 44) rfl))) (by decide) (backOf (W := 0) (rm9 l Z a0 hw [] r107_0 r107_1 rk107_0 ((12 : Int32)) ([(nar .byte y78), (nar .byte y87), (nar .byte y96), (nar .byte y102), (nar .byte y111), (nar .byte y120), (nar .byte y130), (nar .byte y137), (nar .byte y147), (nar .byte y157), (nar .byte y167), (nar .byte y174)]) T107.heap n0 Z126 P109 P111 P114 P115 (own_pr0_434_hlen p0 p1 p2 p3 p4 p5 hc4_1 hc18_2)) hZ (hw _ (List.mem_of_getElem? (i := 46) rfl)) (hw _ (List.mem_of_getElem? (i := 4) rfl)) (by decide) (by decide)) q127a q127c (g := (mkF m 434 #[.val (.int p0), .val (.int p1), .val (.int p2), .val (.int p3), .val (.int p4), .val (.int p5), .val (.int (0 : Int32)), .val (.int (0 : Int32)), .val (.long v8_34), .second, .val (.int (13 : Int32)), .val (.ref b1), .val (.ref b41), .val (.int (1 : Int32)), .val (.ref r107_0), .unset, .unset] [(.ref r107_0)])) rfl (by rw [hml]; rfl) (Steps.refl _) (argsL := []) (rest := []) (lenOf pd6 rfl) rfl (by show 2 * 0 + _ ≤ _; exact Nat.le_of_eq rfl) (hb hby at_434) (fun _ _ => ⟨rfl, rfl, (by decide : 4 + 1 ≤ _), (by decide : 67 + 12 ≤ _)⟩)
      dsimp only [Pt.U, Pt.locs, Pt.cells, Pt.slots] at X127 l127 y127 z127 st127 hQ127
      replace X127 := X127.more (Nat.le_of_eq (y127 : k127 = 5)) (Nat.le_of_eq (z127 : n127 = 79))
      obtain ⟨r127_0, rk127_0, rfl, N127q, K127q, P128, P129, P130⟩ := hQ127
      have N131 := own_frapp l127 N117 N127q
      have ne132 : b1 ≠ r127_0 := Nat.ne_of_lt (Nat.lt_of_lt_of_le V124.lt P128)
      have ne133 : b41 ≠ r127_0 := Nat.ne_of_lt (Nat.lt_of_lt_of_le V125.lt P128)
      have ne134 : r107_1 ≠ r127_0 := Nat.ne_of_lt (Nat.lt_of_lt_of_le P114.lt P128)
      have ne135 : r107_0 ≠ r127_0 := Nat.ne_of_lt (Nat.lt_of_lt_of_le P109.lt P128)
      have g136 : n0 ≤ r127_0 := Nat.le_trans Z126 P128
      have V137 := V124.keep K127q nin0
      have V138 := V125.keep K127q nin0
      have V139 := P114.keep K127q nin0
      have E_140 := P109.keep K127q
      have F141 := P110.keep K127q nin0
      have F142 := P111.keep K127q nin0
      have F143 := P112.keep K127q nin0
      have Z144 : n0 ≤ T127.heap.size := Nat.le_trans Z126 K127q.1
      refine Goes.step (S' := T127.setTop (mkF m 437 #[.val (.int p0), .val (.int p1), .val (.int p2), .val (.int p3), .val (.int p4), .val (.int p5), .val (.int (0 : Int32)), .val (.int (0 : Int32)), .val (.long v8_34), .second, .val (.int (13 : Int32)), .val (.ref b1), .val (.ref b41), .val (.int (1 : Int32)), .val (.ref r107_0), .unset, .unset] [(.ref r127_0)])) (fun _ k => st127.trans k) ?_
      refine Goes.step (S' := T127.setTop (mkF m 439 #[.val (.int p0), .val (.int p1), .val (.int p2), .val (.int p3), .val (.int p4), .val (.int p5), .val (.int (0 : Int32)), .val (.int (0 : Int32)), .val (.long v8_34), .second, .val (.int (13 : Int32)), .val (.ref b1), .val (.ref b41), .val (.int (1 : Int32)), .val (.ref r107_0), .val (.ref r127_0), .unset] [])) (fun _ k => XS.astore X127.here hx rfl (hb hby at_437) rfl rfl (l' := #[.val (.int p0), .val (.int p1), .val (.int p2), .val (.int p3), .val (.int p4), .val (.int p5), .val (.int (0 : Int32)), .val (.int (0 : Int32)), .val (.long v8_34), .second, .val (.int (13 : Int32)), .val (.ref b1), .val (.ref b41), .val (.int (1 : Int32)), .val (.ref r107_0), .val (.ref r127_0), .unset]) rfl k) ?_
      refine G_aload X127 hx (hb hby at_439) rfl rfl (pc' := 441) rfl ?_
      refine Goes.step (S' := T127.setTop (mkF m 442 #[.val (.int p0), .val (.int p1), .val (.int p2), .val (.int p3), .val (.int p4), .val (.int p5), .val (.int (0 : Int32)), .val (.int (0 : Int32)), .val (.long v8_34), .second, .val (.int (13 : Int32)), .val (.ref b1), .val (.ref b41), .val (.int (1 : Int32)), .val (.ref r107_0), .val (.ref r127_0), .unset] [(.int (12 : Int32))])) (fun _ k => own_len X127 hx hZ rfl P129 (hb hby at_441) _ k) ?_
      refine G_bipush X127 hx (hb hby at_442) (z := 12) rfl (pc' := 444) rfl ?_
      refine Goes.step (S' := T127.setTop (mkF m 447 #[.val (.int p0), .val (.int p1), .val (.int p2), .val (.int p3), .val (.int p4), .val (.int p5), .val (.int (0 : Int32)), .val (.int (0 : Int32)), .val (.long v8_34), .second, .val (.int (13 : Int32)), .val (.ref b1), .val (.ref b41), .val (.int (1 : Int32)), .val (.ref r107_0), .val (.ref r127_0), .unset] [])) (fun _ k => XS.icmpNo X127.here hx rfl (hb hby at_444) rfl (teq (rfl : (12 : Int32) = (12 : Int32))).2 k) ?_
      refine G_aload X127 hx (hb hby at_447) rfl rfl (pc' := 449) rfl ?_
      refine G_iconst X127 hx (hb hby at_449) (z := 0) rfl (pc' := 450) rfl ?_
      refine Goes.step (S' := T127.setTop (mkF m 451 #[.val (.int p0), .val (.int p1), .val (.int p2), .val (.int p3), .val (.int p4), .val (.int p5), .val (.int (0 : Int32)), .val (.int (0 : Int32)), .val (.long v8_34), .second, .val (.int (13 : Int32)), .val (.ref b1), .val (.ref b41), .val (.int (1 : Int32)), .val (.ref r107_0), .val (.ref r127_0), .unset] [(.int (nar .byte y78))])) (fun _ k => own_baload X127 hx hZ rfl P129 ⟨by decide, by decide⟩ (hb hby at_450) _ k) ?_
      refine G_aload X127 hx (hb hby at_451) rfl rfl (pc' := 453) rfl ?_
      refine G_iconst X127 hx (hb hby at_453) (z := 0) rfl (pc' := 454) rfl ?_
      refine Goes.step (S' := T127.setTop (mkF m 455 #[.val (.int p0), .val (.int p1), .val (.int p2), .val (.int p3), .val (.int p4), .val (.int p5), .val (.int (0 : Int32)), .val (.int (0 : Int32)), .val (.long v8_34), .second, .val (.int (13 : Int32)), .val (.ref b1), .val (.ref b41), .val (.int (1 : Int32)), .val (.ref r107_0), .val (.ref r127_0), .unset] [(.int y78), (.int (nar .byte y78))])) (fun _ k => own_baload X127 hx hZ rfl V137 ⟨by decide, by decide⟩ (hb hby at_454) _ k) ?_
      refine Goes.step (S' := T127.setTop (mkF m 458 #[.val (.int p0), .val (.int p1), .val (.int p2), .val (.int p3), .val (.int p4), .val (.int p5), .val (.int (0 : Int32)), .val (.int (0 : Int32)), .val (.long v8_34), .second, .val (.int (13 : Int32)), .val (.ref b1), .val (.ref b41), .val (.int (1 : Int32)), .val (.ref r107_0), .val (.ref r127_0), .unset] [])) (fun _ k => XS.icmpNo X127.here hx rfl (hb hby at_455) rfl (teq (own_hc0_455 p0 p1 p2 p3 p4 p5 hc4_1 hc18_2 y78 ey78)).2 k) ?_
      refine G_aload X127 hx (hb hby at_458) rfl rfl (pc' := 460) rfl ?_
      refine G_iconst X127 hx (hb hby at_460) (z := 1) rfl (pc' := 461) rfl ?_
      refine Goes.step (S' := T127.setTop (mkF m 462 #[.val (.int p0), .val (.int p1), .val (.int p2), .val (.int p3), .val (.int p4), .val (.int p5), .val (.int (0 : Int32)), .val (.int (0 : Int32)), .val (.long v8_34), .second, .val (.int (13 : Int32)), .val (.ref b1), .val (.ref b41), .val (.int (1 : Int32)), .val (.ref r107_0), .val (.ref r127_0), .unset] [(.int (nar .byte y87))])) (fun _ k => own_baload X127 hx hZ rfl P129 ⟨by decide, by decide⟩ (hb hby at_461) _ k) ?_
      refine G_aload X127 hx (hb hby at_462) rfl rfl (pc' := 464) rfl ?_
      refine G_iconst X127 hx (hb hby at_464) (z := 1) rfl (pc' := 465) rfl ?_
      refine Goes.step (S' := T127.setTop (mkF m 466 #[.val (.int p0), .val (.int p1), .val (.int p2), .val (.int p3), .val (.int p4), .val (.int p5), .val (.int (0 : Int32)), .val (.int (0 : Int32)), .val (.long v8_34), .second, .val (.int (13 : Int32)), .val (.ref b1), .val (.ref b41), .val (.int (1 : Int32)), .val (.ref r107_0), .val (.ref r127_0), .unset] [(.int y87), (.int (nar .byte y87))])) (fun _ k => own_baload X127 hx hZ rfl V137 ⟨by decide, by decide⟩ (hb hby at_465) _ k) ?_
      refine Goes.step (S' := T127.setTop (mkF m 469 #[.val (.int p0), .val (.int p1), .val (.int p2), .val (.int p3), .val (.int p4), .val (.int p5), .val (.int (0 : Int32)), .val (.int (0 : Int32)), .val (.long v8_34), .second, .val (.int (13 : Int32)), .val (.ref b1), .val (.ref b41), .val (.int (1 : Int32)), .val (.ref r107_0), .val (.ref r127_0), .unset] [])) (fun _ k => XS.icmpNo X127.here hx rfl (hb hby at_466) rfl (teq (own_hc0_466 p0 p1 p2 p3 p4 p5 hc4_1 hc18_2 y87 ey87)).2 k) ?_
      refine G_aload X127 hx (hb hby at_469) rfl rfl (pc' := 471) rfl ?_
      refine G_iconst X127 hx (hb hby at_471) (z := 2) rfl (pc' := 472) rfl ?_
      refine Goes.step (S' := T127.setTop (mkF m 473 #[.val (.int p0), .val (.int p1), .val (.int p2), .val (.int p3), .val (.int p4), .val (.int p5), .val (.int (0 : Int32)), .val (.int (0 : Int32)), .val (.long v8_34), .second, .val (.int (13 : Int32)), .val (.ref b1), .val (.ref b41), .val (.int (1 : Int32)), .val (.ref r107_0), .val (.ref r127_0), .unset] [(.int (nar .byte y96))])) (fun _ k => own_baload X127 hx hZ rfl P129 ⟨by decide, by decide⟩ (hb hby at_472) _ k) ?_
      refine G_aload X127 hx (hb hby at_473) rfl rfl (pc' := 475) rfl ?_
      refine G_iconst X127 hx (hb hby at_475) (z := 2) rfl (pc' := 476) rfl ?_
      refine Goes.step (S' := T127.setTop (mkF m 477 #[.val (.int p0), .val (.int p1), .val (.int p2), .val (.int p3), .val (.int p4), .val (.int p5), .val (.int (0 : Int32)), .val (.int (0 : Int32)), .val (.long v8_34), .second, .val (.int (13 : Int32)), .val (.ref b1), .val (.ref b41), .val (.int (1 : Int32)), .val (.ref r107_0), .val (.ref r127_0), .unset] [(.int y96), (.int (nar .byte y96))])) (fun _ k => own_baload X127 hx hZ rfl V137 ⟨by decide, by decide⟩ (hb hby at_476) _ k) ?_
      refine Goes.step (S' := T127.setTop (mkF m 480 #[.val (.int p0), .val (.int p1), .val (.int p2), .val (.int p3), .val (.int p4), .val (.int p5), .val (.int (0 : Int32)), .val (.int (0 : Int32)), .val (.long v8_34), .second, .val (.int (13 : Int32)), .val (.ref b1), .val (.ref b41), .val (.int (1 : Int32)), .val (.ref r107_0), .val (.ref r127_0), .unset] [])) (fun _ k => XS.icmpNo X127.here hx rfl (hb hby at_477) rfl (teq (own_hc0_477 p0 p1 p2 p3 p4 p5 hc4_1 hc18_2 y96 ey96)).2 k) ?_
      refine G_aload X127 hx (hb hby at_480) rfl rfl (pc' := 482) rfl ?_
      refine G_iconst X127 hx (hb hby at_482) (z := 3) rfl (pc' := 483) rfl ?_
      refine Goes.step (S' := T127.setTop (mkF m 484 #[.val (.int p0), .val (.int p1), .val (.int p2), .val (.int p3), .val (.int p4), .val (.int p5), .val (.int (0 : Int32)), .val (.int (0 : Int32)), .val (.long v8_34), .second, .val (.int (13 : Int32)), .val (.ref b1), .val (.ref b41), .val (.int (1 : Int32)), .val (.ref r107_0), .val (.ref r127_0), .unset] [(.int (nar .byte y102))])) (fun _ k => own_baload X127 hx hZ rfl P129 ⟨by decide, by decide⟩ (hb hby at_483) _ k) ?_
      refine G_aload X127 hx (hb hby at_484) rfl rfl (pc' := 486) rfl ?_
      refine G_iconst X127 hx (hb hby at_486) (z := 3) rfl (pc' := 487) rfl ?_
      refine Goes.step (S' := T127.setTop (mkF m 488 #[.val (.int p0), .val (.int p1), .val (.int p2), .val (.int p3), .val (.int p4), .val (.int p5), .val (.int (0 : Int32)), .val (.int (0 : Int32)), .val (.long v8_34), .second, .val (.int (13 : Int32)), .val (.ref b1), .val (.ref b41), .val (.int (1 : Int32)), .val (.ref r107_0), .val (.ref r127_0), .unset] [(.int y102), (.int (nar .byte y102))])) (fun _ k => own_baload X127 hx hZ rfl V137 ⟨by decide, by decide⟩ (hb hby at_487) _ k) ?_
      refine Goes.step (S' := T127.setTop (mkF m 491 #[.val (.int p0), .val (.int p1), .val (.int p2), .val (.int p3), .val (.int p4), .val (.int p5), .val (.int (0 : Int32)), .val (.int (0 : Int32)), .val (.long v8_34), .second, .val (.int (13 : Int32)), .val (.ref b1), .val (.ref b41), .val (.int (1 : Int32)), .val (.ref r107_0), .val (.ref r127_0), .unset] [])) (fun _ k => XS.icmpNo X127.here hx rfl (hb hby at_488) rfl (teq (own_hc0_488 p0 p1 p2 p3 p4 p5 hc4_1 hc18_2 y102 ey102)).2 k) ?_
      refine G_aload X127 hx (hb hby at_491) rfl rfl (pc' := 493) rfl ?_
      refine G_iconst X127 hx (hb hby at_493) (z := 4) rfl (pc' := 494) rfl ?_
      refine Goes.step (S' := T127.setTop (mkF m 495 #[.val (.int p0), .val (.int p1), .val (.int p2), .val (.int p3), .val (.int p4), .val (.int p5), .val (.int (0 : Int32)), .val (.int (0 : Int32)), .val (.long v8_34), .second, .val (.int (13 : Int32)), .val (.ref b1), .val (.ref b41), .val (.int (1 : Int32)), .val (.ref r107_0), .val (.ref r127_0), .unset] [(.int (nar .byte y111))])) (fun _ k => own_baload X127 hx hZ rfl P129 ⟨by decide, by decide⟩ (hb hby at_494) _ k) ?_
      refine G_aload X127 hx (hb hby at_495) rfl rfl (pc' := 497) rfl ?_
      refine G_iconst X127 hx (hb hby at_497) (z := 4) rfl (pc' := 498) rfl ?_
      refine Goes.step (S' := T127.setTop (mkF m 499 #[.val (.int p0), .val (.int p1), .val (.int p2), .val (.int p3), .val (.int p4), .val (.int p5), .val (.int (0 : Int32)), .val (.int (0 : Int32)), .val (.long v8_34), .second, .val (.int (13 : Int32)), .val (.ref b1), .val (.ref b41), .val (.int (1 : Int32)), .val (.ref r107_0), .val (.ref r127_0), .unset] [(.int y111), (.int (nar .byte y111))])) (fun _ k => own_baload X127 hx hZ rfl V137 ⟨by decide, by decide⟩ (hb hby at_498) _ k) ?_
      refine Goes.step (S' := T127.setTop (mkF m 502 #[.val (.int p0), .val (.int p1), .val (.int p2), .val (.int p3), .val (.int p4), .val (.int p5), .val (.int (0 : Int32)), .val (.int (0 : Int32)), .val (.long v8_34), .second, .val (.int (13 : Int32)), .val (.ref b1), .val (.ref b41), .val (.int (1 : Int32)), .val (.ref r107_0), .val (.ref r127_0), .unset] [])) (fun _ k => XS.icmpNo X127.here hx rfl (hb hby at_499) rfl (teq (own_hc0_499 p0 p1 p2 p3 p4 p5 hc4_1 hc18_2 y111 ey111)).2 k) ?_
      refine G_aload X127 hx (hb hby at_502) rfl rfl (pc' := 504) rfl ?_
      refine G_iconst X127 hx (hb hby at_504) (z := 5) rfl (pc' := 505) rfl ?_
      refine Goes.step (S' := T127.setTop (mkF m 506 #[.val (.int p0), .val (.int p1), .val (.int p2), .val (.int p3), .val (.int p4), .val (.int p5), .val (.int (0 : Int32)), .val (.int (0 : Int32)), .val (.long v8_34), .second, .val (.int (13 : Int32)), .val (.ref b1), .val (.ref b41), .val (.int (1 : Int32)), .val (.ref r107_0), .val (.ref r127_0), .unset] [(.int (nar .byte y120))])) (fun _ k => own_baload X127 hx hZ rfl P129 ⟨by decide, by decide⟩ (hb hby at_505) _ k) ?_
      refine G_aload X127 hx (hb hby at_506) rfl rfl (pc' := 508) rfl ?_
      refine G_iconst X127 hx (hb hby at_508) (z := 5) rfl (pc' := 509) rfl ?_
      refine Goes.step (S' := T127.setTop (mkF m 510 #[.val (.int p0), .val (.int p1), .val (.int p2), .val (.int p3), .val (.int p4), .val (.int p5), .val (.int (0 : Int32)), .val (.int (0 : Int32)), .val (.long v8_34), .second, .val (.int (13 : Int32)), .val (.ref b1), .val (.ref b41), .val (.int (1 : Int32)), .val (.ref r107_0), .val (.ref r127_0), .unset] [(.int y120), (.int (nar .byte y120))])) (fun _ k => own_baload X127 hx hZ rfl V137 ⟨by decide, by decide⟩ (hb hby at_509) _ k) ?_
      refine Goes.step (S' := T127.setTop (mkF m 513 #[.val (.int p0), .val (.int p1), .val (.int p2), .val (.int p3), .val (.int p4), .val (.int p5), .val (.int (0 : Int32)), .val (.int (0 : Int32)), .val (.long v8_34), .second, .val (.int (13 : Int32)), .val (.ref b1), .val (.ref b41), .val (.int (1 : Int32)), .val (.ref r107_0), .val (.ref r127_0), .unset] [])) (fun _ k => XS.icmpNo X127.here hx rfl (hb hby at_510) rfl (teq (own_hc0_510 p0 p1 p2 p3 p4 p5 hc4_1 hc18_2 y120 ey120)).2 k) ?_
      refine G_aload X127 hx (hb hby at_513) rfl rfl (pc' := 515) rfl ?_
      refine G_bipush X127 hx (hb hby at_515) (z := 6) rfl (pc' := 517) rfl ?_
      refine Goes.step (S' := T127.setTop (mkF m 518 #[.val (.int p0), .val (.int p1), .val (.int p2), .val (.int p3), .val (.int p4), .val (.int p5), .val (.int (0 : Int32)), .val (.int (0 : Int32)), .val (.long v8_34), .second, .val (.int (13 : Int32)), .val (.ref b1), .val (.ref b41), .val (.int (1 : Int32)), .val (.ref r107_0), .val (.ref r127_0), .unset] [(.int (nar .byte y130))])) (fun _ k => own_baload X127 hx hZ rfl P129 ⟨by decide, by decide⟩ (hb hby at_517) _ k) ?_
      refine G_aload X127 hx (hb hby at_518) rfl rfl (pc' := 520) rfl ?_
      refine G_bipush X127 hx (hb hby at_520) (z := 6) rfl (pc' := 522) rfl ?_
      refine Goes.step (S' := T127.setTop (mkF m 523 #[.val (.int p0), .val (.int p1), .val (.int p2), .val (.int p3), .val (.int p4), .val (.int p5), .val (.int (0 : Int32)), .val (.int (0 : Int32)), .val (.long v8_34), .second, .val (.int (13 : Int32)), .val (.ref b1), .val (.ref b41), .val (.int (1 : Int32)), .val (.ref r107_0), .val (.ref r127_0), .unset] [(.int y130), (.int (nar .byte y130))])) (fun _ k => own_baload X127 hx hZ rfl V137 ⟨by decide, by decide⟩ (hb hby at_522) _ k) ?_
      refine Goes.step (S' := T127.setTop (mkF m 526 #[.val (.int p0), .val (.int p1), .val (.int p2), .val (.int p3), .val (.int p4), .val (.int p5), .val (.int (0 : Int32)), .val (.int (0 : Int32)), .val (.long v8_34), .second, .val (.int (13 : Int32)), .val (.ref b1), .val (.ref b41), .val (.int (1 : Int32)), .val (.ref r107_0), .val (.ref r127_0), .unset] [])) (fun _ k => XS.icmpNo X127.here hx rfl (hb hby at_523) rfl (teq (own_hc0_523 p0 p1 p2 p3 p4 p5 hc4_1 hc18_2 y130 ey130)).2 k) ?_
      refine G_aload X127 hx (hb hby at_526) rfl rfl (pc' := 528) rfl ?_
      refine G_bipush X127 hx (hb hby at_528) (z := 7) rfl (pc' := 530) rfl ?_
      refine Goes.step (S' := T127.setTop (mkF m 531 #[.val (.int p0), .val (.int p1), .val (.int p2), .val (.int p3), .val (.int p4), .val (.int p5), .val (.int (0 : Int32)), .val (.int (0 : Int32)), .val (.long v8_34), .second, .val (.int (13 : Int32)), .val (.ref b1), .val (.ref b41), .val (.int (1 : Int32)), .val (.ref r107_0), .val (.ref r127_0), .unset] [(.int (nar .byte y137))])) (fun _ k => own_baload X127 hx hZ rfl P129 ⟨by decide, by decide⟩ (hb hby at_530) _ k) ?_
      refine G_aload X127 hx (hb hby at_531) rfl rfl (pc' := 533) rfl ?_
      refine G_bipush X127 hx (hb hby at_533) (z := 7) rfl (pc' := 535) rfl ?_
      refine Goes.step (S' := T127.setTop (mkF m 536 #[.val (.int p0), .val (.int p1), .val (.int p2), .val (.int p3), .val (.int p4), .val (.int p5), .val (.int (0 : Int32)), .val (.int (0 : Int32)), .val (.long v8_34), .second, .val (.int (13 : Int32)), .val (.ref b1), .val (.ref b41), .val (.int (1 : Int32)), .val (.ref r107_0), .val (.ref r127_0), .unset] [(.int y137), (.int (nar .byte y137))])) (fun _ k => own_baload X127 hx hZ rfl V137 ⟨by decide, by decide⟩ (hb hby at_535) _ k) ?_
      refine Goes.step (S' := T127.setTop (mkF m 539 #[.val (.int p0), .val (.int p1), .val (.int p2), .val (.int p3), .val (.int p4), .val (.int p5), .val (.int (0 : Int32)), .val (.int (0 : Int32)), .val (.long v8_34), .second, .val (.int (13 : Int32)), .val (.ref b1), .val (.ref b41), .val (.int (1 : Int32)), .val (.ref r107_0), .val (.ref r127_0), .unset] [])) (fun _ k => XS.icmpNo X127.here hx rfl (hb hby at_536) rfl (teq (own_hc0_536 p0 p1 p2 p3 p4 p5 hc4_1 hc18_2 y137 ey137)).2 k) ?_
      refine G_aload X127 hx (hb hby at_539) rfl rfl (pc' := 541) rfl ?_
      refine G_bipush X127 hx (hb hby at_541) (z := 8) rfl (pc' := 543) rfl ?_
      refine Goes.step (S' := T127.setTop (mkF m 544 #[.val (.int p0), .val (.int p1), .val (.int p2), .val (.int p3), .val (.int p4), .val (.int p5), .val (.int (0 : Int32)), .val (.int (0 : Int32)), .val (.long v8_34), .second, .val (.int (13 : Int32)), .val (.ref b1), .val (.ref b41), .val (.int (1 : Int32)), .val (.ref r107_0), .val (.ref r127_0), .unset] [(.int (nar .byte y147))])) (fun _ k => own_baload X127 hx hZ rfl P129 ⟨by decide, by decide⟩ (hb hby at_543) _ k) ?_
      refine G_aload X127 hx (hb hby at_544) rfl rfl (pc' := 546) rfl ?_
      refine G_bipush X127 hx (hb hby at_546) (z := 8) rfl (pc' := 548) rfl ?_
      refine Goes.step (S' := T127.setTop (mkF m 549 #[.val (.int p0), .val (.int p1), .val (.int p2), .val (.int p3), .val (.int p4), .val (.int p5), .val (.int (0 : Int32)), .val (.int (0 : Int32)), .val (.long v8_34), .second, .val (.int (13 : Int32)), .val (.ref b1), .val (.ref b41), .val (.int (1 : Int32)), .val (.ref r107_0), .val (.ref r127_0), .unset] [(.int y147), (.int (nar .byte y147))])) (fun _ k => own_baload X127 hx hZ rfl V137 ⟨by decide, by decide⟩ (hb hby at_548) _ k) ?_
      refine Goes.step (S' := T127.setTop (mkF m 552 #[.val (.int p0), .val (.int p1), .val (.int p2), .val (.int p3), .val (.int p4), .val (.int p5), .val (.int (0 : Int32)), .val (.int (0 : Int32)), .val (.long v8_34), .second, .val (.int (13 : Int32)), .val (.ref b1), .val (.ref b41), .val (.int (1 : Int32)), .val (.ref r107_0), .val (.ref r127_0), .unset] [])) (fun _ k => XS.icmpNo X127.here hx rfl (hb hby at_549) rfl (teq (own_hc0_549 p0 p1 p2 p3 p4 p5 hc4_1 hc18_2 y147 ey147)).2 k) ?_
      refine G_aload X127 hx (hb hby at_552) rfl rfl (pc' := 554) rfl ?_
      refine G_bipush X127 hx (hb hby at_554) (z := 9) rfl (pc' := 556) rfl ?_
      refine Goes.step (S' := T127.setTop (mkF m 557 #[.val (.int p0), .val (.int p1), .val (.int p2), .val (.int p3), .val (.int p4), .val (.int p5), .val (.int (0 : Int32)), .val (.int (0 : Int32)), .val (.long v8_34), .second, .val (.int (13 : Int32)), .val (.ref b1), .val (.ref b41), .val (.int (1 : Int32)), .val (.ref r107_0), .val (.ref r127_0), .unset] [(.int (nar .byte y157))])) (fun _ k => own_baload X127 hx hZ rfl P129 ⟨by decide, by decide⟩ (hb hby at_556) _ k) ?_
      refine G_aload X127 hx (hb hby at_557) rfl rfl (pc' := 559) rfl ?_
      refine G_bipush X127 hx (hb hby at_559) (z := 9) rfl (pc' := 561) rfl ?_
      refine Goes.step (S' := T127.setTop (mkF m 562 #[.val (.int p0), .val (.int p1), .val (.int p2), .val (.int p3), .val (.int p4), .val (.int p5), .val (.int (0 : Int32)), .val (.int (0 : Int32)), .val (.long v8_34), .second, .val (.int (13 : Int32)), .val (.ref b1), .val (.ref b41), .val (.int (1 : Int32)), .val (.ref r107_0), .val (.ref r127_0), .unset] [(.int y157), (.int (nar .byte y157))])) (fun _ k => own_baload X127 hx hZ rfl V137 ⟨by decide, by decide⟩ (hb hby at_561) _ k) ?_
      refine Goes.step (S' := T127.setTop (mkF m 565 #[.val (.int p0), .val (.int p1), .val (.int p2), .val (.int p3), .val (.int p4), .val (.int p5), .val (.int (0 : Int32)), .val (.int (0 : Int32)), .val (.long v8_34), .second, .val (.int (13 : Int32)), .val (.ref b1), .val (.ref b41), .val (.int (1 : Int32)), .val (.ref r107_0), .val (.ref r127_0), .unset] [])) (fun _ k => XS.icmpNo X127.here hx rfl (hb hby at_562) rfl (teq (own_hc0_562 p0 p1 p2 p3 p4 p5 hc4_1 hc18_2 y157 ey157)).2 k) ?_
      refine G_aload X127 hx (hb hby at_565) rfl rfl (pc' := 567) rfl ?_
      refine G_bipush X127 hx (hb hby at_567) (z := 10) rfl (pc' := 569) rfl ?_
      refine Goes.step (S' := T127.setTop (mkF m 570 #[.val (.int p0), .val (.int p1), .val (.int p2), .val (.int p3), .val (.int p4), .val (.int p5), .val (.int (0 : Int32)), .val (.int (0 : Int32)), .val (.long v8_34), .second, .val (.int (13 : Int32)), .val (.ref b1), .val (.ref b41), .val (.int (1 : Int32)), .val (.ref r107_0), .val (.ref r127_0), .unset] [(.int (nar .byte y167))])) (fun _ k => own_baload X127 hx hZ rfl P129 ⟨by decide, by decide⟩ (hb hby at_569) _ k) ?_
      refine G_aload X127 hx (hb hby at_570) rfl rfl (pc' := 572) rfl ?_
      refine G_bipush X127 hx (hb hby at_572) (z := 10) rfl (pc' := 574) rfl ?_
      refine Goes.step (S' := T127.setTop (mkF m 575 #[.val (.int p0), .val (.int p1), .val (.int p2), .val (.int p3), .val (.int p4), .val (.int p5), .val (.int (0 : Int32)), .val (.int (0 : Int32)), .val (.long v8_34), .second, .val (.int (13 : Int32)), .val (.ref b1), .val (.ref b41), .val (.int (1 : Int32)), .val (.ref r107_0), .val (.ref r127_0), .unset] [(.int y167), (.int (nar .byte y167))])) (fun _ k => own_baload X127 hx hZ rfl V137 ⟨by decide, by decide⟩ (hb hby at_574) _ k) ?_
      refine Goes.step (S' := T127.setTop (mkF m 578 #[.val (.int p0), .val (.int p1), .val (.int p2), .val (.int p3), .val (.int p4), .val (.int p5), .val (.int (0 : Int32)), .val (.int (0 : Int32)), .val (.long v8_34), .second, .val (.int (13 : Int32)), .val (.ref b1), .val (.ref b41), .val (.int (1 : Int32)), .val (.ref r107_0), .val (.ref r127_0), .unset] [])) (fun _ k => XS.icmpNo X127.here hx rfl (hb hby at_575) rfl (teq (own_hc0_575 p0 p1 p2 p3 p4 p5 hc4_1 hc18_2 y167 ey167)).2 k) ?_
      refine G_aload X127 hx (hb hby at_578) rfl rfl (pc' := 580) rfl ?_
      refine G_bipush X127 hx (hb hby at_580) (z := 11) rfl (pc' := 582) rfl ?_
      refine Goes.step (S' := T127.setTop (mkF m 583 #[.val (.int p0), .val (.int p1), .val (.int p2), .val (.int p3), .val (.int p4), .val (.int p5), .val (.int (0 : Int32)), .val (.int (0 : Int32)), .val (.long v8_34), .second, .val (.int (13 : Int32)), .val (.ref b1), .val (.ref b41), .val (.int (1 : Int32)), .val (.ref r107_0), .val (.ref r127_0), .unset] [(.int (nar .byte y174))])) (fun _ k => own_baload X127 hx hZ rfl P129 ⟨by decide, by decide⟩ (hb hby at_582) _ k) ?_
      refine G_aload X127 hx (hb hby at_583) rfl rfl (pc' := 585) rfl ?_
      refine G_bipush X127 hx (hb hby at_585) (z := 11) rfl (pc' := 587) rfl ?_
      refine Goes.step (S' := T127.setTop (mkF m 588 #[.val (.int p0), .val (.int p1), .val (.int p2), .val (.int p3), .val (.int p4), .val (.int p5), .val (.int (0 : Int32)), .val (.int (0 : Int32)), .val (.long v8_34), .second, .val (.int (13 : Int32)), .val (.ref b1), .val (.ref b41), .val (.int (1 : Int32)), .val (.ref r107_0), .val (.ref r127_0), .unset] [(.int y174), (.int (nar .byte y174))])) (fun _ k => own_baload X127 hx hZ rfl V137 ⟨by decide, by decide⟩ (hb hby at_587) _ k) ?_
      refine Goes.step (S' := T127.setTop (mkF m 591 #[.val (.int p0), .val (.int p1), .val (.int p2), .val (.int p3), .val (.int p4), .val (.int p5), .val (.int (0 : Int32)), .val (.int (0 : Int32)), .val (.long v8_34), .second, .val (.int (13 : Int32)), .val (.ref b1), .val (.ref b41), .val (.int (1 : Int32)), .val (.ref r107_0), .val (.ref r127_0), .unset] [])) (fun _ k => XS.icmpNo X127.here hx rfl (hb hby at_588) rfl (teq (own_hc0_588 p0 p1 p2 p3 p4 p5 hc4_1 hc18_2 y174 ey174)).2 k) ?_
      refine G_iconst X127 hx (hb hby at_591) (z := 1) rfl (pc' := 592) rfl ?_
      refine Goes.step (S' := T127.setTop (mkF m 596 #[.val (.int p0), .val (.int p1), .val (.int p2), .val (.int p3), .val (.int p4), .val (.int p5), .val (.int (0 : Int32)), .val (.int (0 : Int32)), .val (.long v8_34), .second, .val (.int (13 : Int32)), .val (.ref b1), .val (.ref b41), .val (.int (1 : Int32)), .val (.ref r107_0), .val (.ref r127_0), .unset] [(.int (1 : Int32))])) (fun _ k => XS.goto X127.here hx rfl (pc0 := 592) (pc' := 596) rfl (hb hby at_592) (by decide) (by decide) k) ?_
      refine Goes.step (S' := T127.setTop (mkF m 598 #[.val (.int p0), .val (.int p1), .val (.int p2), .val (.int p3), .val (.int p4), .val (.int p5), .val (.int (0 : Int32)), .val (.int (0 : Int32)), .val (.long v8_34), .second, .val (.int (13 : Int32)), .val (.ref b1), .val (.ref b41), .val (.int (1 : Int32)), .val (.ref r107_0), .val (.ref r127_0), .val (.int (1 : Int32))] [])) (fun _ k => XS.istore X127.here hx rfl (hb hby at_596) rfl (l' := #[.val (.int p0), .val (.int p1), .val (.int p2), .val (.int p3), .val (.int p4), .val (.int p5), .val (.int (0 : Int32)), .val (.int (0 : Int32)), .val (.long v8_34), .second, .val (.int (13 : Int32)), .val (.ref b1), .val (.ref b41), .val (.int (1 : Int32)), .val (.ref r107_0), .val (.ref r127_0), .val (.int (1 : Int32))]) rfl k) ?_
      refine G_aload X127 hx (hb hby at_598) rfl rfl (pc' := 600) rfl ?_
      obtain ⟨cq145, kq145, q145a, q145b, q145c⟩ := isOf hZ rfl E_140
      obtain ⟨_, _, ⟨T145, L145, k145, n145⟩, -, X145, ⟨Lc145, hQ145, l145, y145, z145⟩, st145⟩ := X127.virtualBack hx (y := (⟨"com/example/isopod/isopod/RecordHeader", "version", "()I"⟩ : MethodName)) (z := (⟨"com/example/isopod/isopod/RecordHeader", "version", "()I"⟩ : MethodName)) hown (mvT hZ (hw _ (List.mem_of_getElem? (i := 56) rfl))) (mvT hZ (hw _ (List.mem_of_getElem? (i := 57) rfl))) (notFace_of_selects (args := #[]) (mvT hZ (hw _ (List.mem_of_getElem? (i := 59) rfl)))) (mvT hZ (hw _ (List.mem_of_getElem? (i := 59) rfl))) (mvT hZ (hw _ (List.mem_of_getElem? (i := 58) rfl))) (by decide) (backOf (W := 0) (rm10 l Z a0 hw [] r107_0 ((1 : Int32)) ((0 : Int64)) T127.heap n0 Z144 E_140 F143 F141) hZ (hw _ (List.mem_of_getElem? (i := 60) rfl)) (hw _ (List.mem_of_getElem? (i := 4) rfl)) (by decide) (by decide)) q145a q145c (g := (mkF m 600 #[.val (.int p0), .val (.int p1), .val (.int p2), .val (.int p3), .val (.int p4), .val (.int p5), .val (.int (0 : Int32)), .val (.int (0 : Int32)), .val (.long v8_34), .second, .val (.int (13 : Int32)), .val (.ref b1), .val (.ref b41), .val (.int (1 : Int32)), .val (.ref r107_0), .val (.ref r127_0), .val (.int (1 : Int32))] [(.ref r107_0)])) rfl (by rw [hml]; rfl) (Steps.refl _) (argsL := []) (rest := []) (lenOf pd7 rfl) rfl (by show 2 * 0 + _ ≤ _; exact Nat.le_of_eq rfl) (hb hby at_600) (fun _ _ => ⟨rfl, rfl, (by decide : 5 + 0 ≤ _), (by decide : 79 + 0 ≤ _)⟩)
      dsimp only [Pt.U, Pt.locs, Pt.cells, Pt.slots] at X145 l145 y145 z145 st145 hQ145
      replace X145 := X145.more (Nat.le_of_eq (y145 : k145 = 5)) (Nat.le_of_eq (z145 : n145 = 79))
      obtain ⟨rfl, N145q, e145⟩ := hQ145
      have N146 := own_frapp l145 N131 N145q
      refine Goes.step (S' := T145.setTop (mkF m 603 #[.val (.int p0), .val (.int p1), .val (.int p2), .val (.int p3), .val (.int p4), .val (.int p5), .val (.int (0 : Int32)), .val (.int (0 : Int32)), .val (.long v8_34), .second, .val (.int (13 : Int32)), .val (.ref b1), .val (.ref b41), .val (.int (1 : Int32)), .val (.ref r107_0), .val (.ref r127_0), .val (.int (1 : Int32))] [(.int (f10 (1 : Int32) (0 : Int64)))])) (fun _ k => st145.trans k) ?_
      refine G_iload X145 hx (hb hby at_603) rfl (pc' := 605) rfl ?_
      refine Goes.step (S' := T145.setTop (mkF m 612 #[.val (.int p0), .val (.int p1), .val (.int p2), .val (.int p3), .val (.int p4), .val (.int p5), .val (.int (0 : Int32)), .val (.int (0 : Int32)), .val (.long v8_34), .second, .val (.int (13 : Int32)), .val (.ref b1), .val (.ref b41), .val (.int (1 : Int32)), .val (.ref r107_0), .val (.ref r127_0), .val (.int (1 : Int32))] [(.int (f10 (1 : Int32) (0 : Int64)))])) (fun _ k => XS.ifYes X145.here hx rfl (pc0 := 605) (pc' := 612) rfl (hb hby at_605) rfl ((if0 _ _).trans (teq (rfl : (0 : Int32) = (0 : Int32))).1) (by decide) (by decide) k) ?_
      refine G_iconst X145 hx (hb hby at_612) (z := 1) rfl (pc' := 613) rfl ?_
      refine Goes.step (S' := T145.setTop (mkF m 616 #[.val (.int p0), .val (.int p1), .val (.int p2), .val (.int p3), .val (.int p4), .val (.int p5), .val (.int (0 : Int32)), .val (.int (0 : Int32)), .val (.long v8_34), .second, .val (.int (13 : Int32)), .val (.ref b1), .val (.ref b41), .val (.int (1 : Int32)), .val (.ref r107_0), .val (.ref r127_0), .val (.int (1 : Int32))] [])) (fun _ k => XS.icmpNo X145.here hx rfl (hb hby at_613) rfl (teq (own_hc0_613 p0 p1 p2 p3 p4 p5 hc4_1 hc18_2)).2 k) ?_
      refine G_aload X145 hx (hb hby at_616) rfl rfl (pc' := 618) rfl ?_
      obtain ⟨cq147, kq147, q147a, q147b, q147c⟩ := isOf hZ e145 E_140
      obtain ⟨_, _, ⟨T147, L147, k147, n147⟩, -, X147, ⟨Lc147, hQ147, l147, y147, z147⟩, st147⟩ := X145.virtualBack hx (y := (⟨"com/example/isopod/isopod/RecordHeader", "generation", "()J"⟩ : MethodName)) (z := (⟨"com/example/isopod/isopod/RecordHeader", "generation", "()J"⟩ : MethodName)) hown (mvT hZ (hw _ (List.mem_of_getElem? (i := 61) rfl))) (mvT hZ (hw _ (List.mem_of_getElem? (i := 62) rfl))) (notFace_of_selects (args := #[]) (mvT hZ (hw _ (List.mem_of_getElem? (i := 64) rfl)))) (mvT hZ (hw _ (List.mem_of_getElem? (i := 64) rfl))) (mvT hZ (hw _ (List.mem_of_getElem? (i := 63) rfl))) (by decide) (backOf (W := 0) (rm11 l Z a0 hw [] r107_0 ((1 : Int32)) ((0 : Int64)) T127.heap n0 Z144 E_140 F143 F141) hZ (hw _ (List.mem_of_getElem? (i := 65) rfl)) (hw _ (List.mem_of_getElem? (i := 4) rfl)) (by decide) (by decide)) q147a q147c (g := (mkF m 618 #[.val (.int p0), .val (.int p1), .val (.int p2), .val (.int p3), .val (.int p4), .val (.int p5), .val (.int (0 : Int32)), .val (.int (0 : Int32)), .val (.long v8_34), .second, .val (.int (13 : Int32)), .val (.ref b1), .val (.ref b41), .val (.int (1 : Int32)), .val (.ref r107_0), .val (.ref r127_0), .val (.int (1 : Int32))] [(.ref r107_0)])) rfl (by rw [hml]; rfl) (Steps.refl _) (argsL := []) (rest := []) (lenOf pd8 rfl) rfl (by show 2 * 0 + _ ≤ _; exact Nat.le_of_eq rfl) (hb hby at_618) (fun _ _ => ⟨rfl, e145, (by decide : 5 + 0 ≤ _), (by decide : 79 + 0 ≤ _)⟩)
      dsimp only [Pt.U, Pt.locs, Pt.cells, Pt.slots] at X147 l147 y147 z147 st147 hQ147
      replace X147 := X147.more (Nat.le_of_eq (y147 : k147 = 5)) (Nat.le_of_eq (z147 : n147 = 79))
      obtain ⟨rfl, N147q, e147⟩ := hQ147
      have N148 := own_frapp l147 N146 N147q
      refine Goes.step (S' := T147.setTop (mkF m 621 #[.val (.int p0), .val (.int p1), .val (.int p2), .val (.int p3), .val (.int p4), .val (.int p5), .val (.int (0 : Int32)), .val (.int (0 : Int32)), .val (.long v8_34), .second, .val (.int (13 : Int32)), .val (.ref b1), .val (.ref b41), .val (.int (1 : Int32)), .val (.ref r107_0), .val (.ref r127_0), .val (.int (1 : Int32))] [(.long (f11 (1 : Int32) (0 : Int64)))])) (fun _ k => st147.trans k) ?_
      refine G_iload X147 hx (hb hby at_621) rfl (pc' := 623) rfl ?_
      refine Goes.step (S' := T147.setTop (mkF m 631 #[.val (.int p0), .val (.int p1), .val (.int p2), .val (.int p3), .val (.int p4), .val (.int p5), .val (.int (0 : Int32)), .val (.int (0 : Int32)), .val (.long v8_34), .second, .val (.int (13 : Int32)), .val (.ref b1), .val (.ref b41), .val (.int (1 : Int32)), .val (.ref r107_0), .val (.ref r127_0), .val (.int (1 : Int32))] [(.long (f11 (1 : Int32) (0 : Int64)))])) (fun _ k => XS.ifYes X147.here hx rfl (pc0 := 623) (pc' := 631) rfl (hb hby at_623) rfl ((if0 _ _).trans (teq (rfl : (0 : Int32) = (0 : Int32))).1) (by decide) (by decide) k) ?_
      refine Goes.step (S' := T147.setTop (mkF m 632 #[.val (.int p0), .val (.int p1), .val (.int p2), .val (.int p3), .val (.int p4), .val (.int p5), .val (.int (0 : Int32)), .val (.int (0 : Int32)), .val (.long v8_34), .second, .val (.int (13 : Int32)), .val (.ref b1), .val (.ref b41), .val (.int (1 : Int32)), .val (.ref r107_0), .val (.ref r127_0), .val (.int (1 : Int32))] [(.long (0 : Int64)), (.long (f11 (1 : Int32) (0 : Int64)))])) (fun _ k => XS.lconst X147.here hx rfl (hb hby at_631) k) ?_
      refine Goes.step (S' := T147.setTop (mkF m 633 #[.val (.int p0), .val (.int p1), .val (.int p2), .val (.int p3), .val (.int p4), .val (.int p5), .val (.int (0 : Int32)), .val (.int (0 : Int32)), .val (.long v8_34), .second, .val (.int (13 : Int32)), .val (.ref b1), .val (.ref b41), .val (.int (1 : Int32)), .val (.ref r107_0), .val (.ref r127_0), .val (.int (1 : Int32))] [(.int (lcmpW (f11 (1 : Int32) (0 : Int64)) (0 : Int64)))])) (fun _ k => XS.lcmp X147.here hx rfl (hb hby at_632) rfl k) ?_
      refine Goes.step (S' := T147.setTop (mkF m 636 #[.val (.int p0), .val (.int p1), .val (.int p2), .val (.int p3), .val (.int p4), .val (.int p5), .val (.int (0 : Int32)), .val (.int (0 : Int32)), .val (.long v8_34), .second, .val (.int (13 : Int32)), .val (.ref b1), .val (.ref b41), .val (.int (1 : Int32)), .val (.ref r107_0), .val (.ref r127_0), .val (.int (1 : Int32))] [])) (fun _ k => XS.ifNo X147.here hx rfl (hb hby at_633) rfl ((if0 _ _).trans (teq ((lw_eq (f11 (1 : Int32) (0 : Int64)) (0 : Int64)).mpr (own_hc0_633 p0 p1 p2 p3 p4 p5 hc4_1 hc18_2))).2) k) ?_
      refine G_aload X147 hx (hb hby at_636) rfl rfl (pc' := 638) rfl ?_
      obtain ⟨cq149, kq149, q149a, q149b, q149c⟩ := isOf hZ e147 E_140
      obtain ⟨_, _, ⟨T149, L149, k149, n149⟩, -, X149, ⟨Lc149, hQ149, l149, y149, z149⟩, st149⟩ := X147.virtualBack hx (y := (⟨"com/example/isopod/isopod/RecordHeader", "length", "()I"⟩ : MethodName)) (z := (⟨"com/example/isopod/isopod/RecordHeader", "length", "()I"⟩ : MethodName)) hown (mvT hZ (hw _ (List.mem_of_getElem? (i := 66) rfl))) (mvT hZ (hw _ (List.mem_of_getElem? (i := 67) rfl))) (notFace_of_selects (args := #[]) (mvT hZ (hw _ (List.mem_of_getElem? (i := 69) rfl)))) (mvT hZ (hw _ (List.mem_of_getElem? (i := 69) rfl))) (mvT hZ (hw _ (List.mem_of_getElem? (i := 68) rfl))) (by decide) (backOf (W := 0) (rm12 l Z a0 hw [] r107_0 ((1 : Int32)) T127.heap n0 Z144 E_140 F143) hZ (hw _ (List.mem_of_getElem? (i := 70) rfl)) (hw _ (List.mem_of_getElem? (i := 4) rfl)) (by decide) (by decide)) q149a q149c (g := (mkF m 638 #[.val (.int p0), .val (.int p1), .val (.int p2), .val (.int p3), .val (.int p4), .val (.int p5), .val (.int (0 : Int32)), .val (.int (0 : Int32)), .val (.long v8_34), .second, .val (.int (13 : Int32)), .val (.ref b1), .val (.ref b41), .val (.int (1 : Int32)), .val (.ref r107_0), .val (.ref r127_0), .val (.int (1 : Int32))] [(.ref r107_0)])) rfl (by rw [hml]; rfl) (Steps.refl _) (argsL := []) (rest := []) (lenOf pd7 rfl) rfl (by show 2 * 0 + _ ≤ _; exact Nat.le_of_eq rfl) (hb hby at_638) (fun _ _ => ⟨rfl, e147, (by decide : 5 + 0 ≤ _), (by decide : 79 + 0 ≤ _)⟩)
      dsimp only [Pt.U, Pt.locs, Pt.cells, Pt.slots] at X149 l149 y149 z149 st149 hQ149
      replace X149 := X149.more (Nat.le_of_eq (y149 : k149 = 5)) (Nat.le_of_eq (z149 : n149 = 79))
      obtain ⟨rfl, N149q, e149⟩ := hQ149
      have N150 := own_frapp l149 N148 N149q
      refine Goes.step (S' := T149.setTop (mkF m 641 #[.val (.int p0), .val (.int p1), .val (.int p2), .val (.int p3), .val (.int p4), .val (.int p5), .val (.int (0 : Int32)), .val (.int (0 : Int32)), .val (.long v8_34), .second, .val (.int (13 : Int32)), .val (.ref b1), .val (.ref b41), .val (.int (1 : Int32)), .val (.ref r107_0), .val (.ref r127_0), .val (.int (1 : Int32))] [(.int (f12 (1 : Int32)))])) (fun _ k => st149.trans k) ?_
      refine G_iload X149 hx (hb hby at_641) rfl (pc' := 643) rfl ?_
      refine Goes.step (S' := T149.setTop (mkF m 646 #[.val (.int p0), .val (.int p1), .val (.int p2), .val (.int p3), .val (.int p4), .val (.int p5), .val (.int (0 : Int32)), .val (.int (0 : Int32)), .val (.long v8_34), .second, .val (.int (13 : Int32)), .val (.ref b1), .val (.ref b41), .val (.int (1 : Int32)), .val (.ref r107_0), .val (.ref r127_0), .val (.int (1 : Int32))] [])) (fun _ k => XS.icmpNo X149.here hx rfl (hb hby at_643) rfl (teq (own_hc0_643 p0 p1 p2 p3 p4 p5 hc4_1 hc18_2)).2 k) ?_
      refine G_iload X149 hx (hb hby at_646) rfl (pc' := 648) rfl ?_
      refine Goes.step (S' := T149.setTop (mkF m 651 #[.val (.int p0), .val (.int p1), .val (.int p2), .val (.int p3), .val (.int p4), .val (.int p5), .val (.int (0 : Int32)), .val (.int (0 : Int32)), .val (.long v8_34), .second, .val (.int (13 : Int32)), .val (.ref b1), .val (.ref b41), .val (.int (1 : Int32)), .val (.ref r107_0), .val (.ref r127_0), .val (.int (1 : Int32))] [])) (fun _ k => XS.ifNo X149.here hx rfl (hb hby at_648) rfl ((if0 _ _).trans (feq (by decide)).1) k) ?_
      refine G_iconst X149 hx (hb hby at_651) (z := 1) rfl (pc' := 652) rfl ?_
      refine Goes.step (S' := T149.setTop (mkF m 656 #[.val (.int p0), .val (.int p1), .val (.int p2), .val (.int p3), .val (.int p4), .val (.int p5), .val (.int (0 : Int32)), .val (.int (0 : Int32)), .val (.long v8_34), .second, .val (.int (13 : Int32)), .val (.ref b1), .val (.ref b41), .val (.int (1 : Int32)), .val (.ref r107_0), .val (.ref r127_0), .val (.int (1 : Int32))] [(.int (1 : Int32))])) (fun _ k => XS.goto X149.here hx rfl (pc0 := 652) (pc' := 656) rfl (hb hby at_652) (by decide) (by decide) k) ?_
      refine Goes.retN X149 hx Bd.notSynchronized (t := .boolean) Bd.returns (by simp) (hb hby at_656) (by decide) (by decide) ?_
      exact ⟨rfl, N150⟩
    · refine Goes.step (S' := s₁.setTop (mkF m 21 #[.val (.int p0), .val (.int p1), .val (.int p2), .val (.int p3), .val (.int p4), .val (.int p5), .val (.int (0 : Int32)), .unset, .unset, .unset, .unset, .unset, .unset, .unset, .unset, .unset, .unset] [])) (fun _ k => XS.ifNo X0.here hx rfl (hb hby at_18) rfl ((if0 _ _).trans (feq hc18_2).1) k) ?_
      refine G_iconst X0 hx (hb hby at_21) (z := 1) rfl (pc' := 22) rfl ?_
      refine Goes.step (S' := s₁.setTop (mkF m 26 #[.val (.int p0), .val (.int p1), .val (.int p2), .val (.int p3), .val (.int p4), .val (.int p5), .val (.int (0 : Int32)), .unset, .unset, .unset, .unset, .unset, .unset, .unset, .unset, .unset, .unset] [(.int (1 : Int32))])) (fun _ k => XS.goto X0.here hx rfl (pc0 := 22) (pc' := 26) rfl (hb hby at_22) (by decide) (by decide) k) ?_
      refine Goes.step (S' := s₁.setTop (mkF m 28 #[.val (.int p0), .val (.int p1), .val (.int p2), .val (.int p3), .val (.int p4), .val (.int p5), .val (.int (0 : Int32)), .val (.int (1 : Int32)), .unset, .unset, .unset, .unset, .unset, .unset, .unset, .unset, .unset] [])) (fun _ k => XS.istore X0.here hx rfl (hb hby at_26) rfl (l' := #[.val (.int p0), .val (.int p1), .val (.int p2), .val (.int p3), .val (.int p4), .val (.int p5), .val (.int (0 : Int32)), .val (.int (1 : Int32)), .unset, .unset, .unset, .unset, .unset, .unset, .unset, .unset, .unset]) rfl k) ?_
      refine G_iloadN X0 hx (hb hby at_28) rfl (pc' := 29) rfl ?_
      refine Goes.step (S' := s₁.setTop (mkF m 30 #[.val (.int p0), .val (.int p1), .val (.int p2), .val (.int p3), .val (.int p4), .val (.int p5), .val (.int (0 : Int32)), .val (.int (1 : Int32)), .unset, .unset, .unset, .unset, .unset, .unset, .unset, .unset, .unset] [(.long (p0.toInt64))])) (fun _ k => XS.i2l X0.here hx rfl (hb hby at_29) rfl k) ?_
      refine Goes.step (S' := s₁.setTop (mkF m 33 #[.val (.int p0), .val (.int p1), .val (.int p2), .val (.int p3), .val (.int p4), .val (.int p5), .val (.int (0 : Int32)), .val (.int (1 : Int32)), .unset, .unset, .unset, .unset, .unset, .unset, .unset, .unset, .unset] [(.long (4294967295 : Int64)), (.long (p0.toInt64))])) (fun _ k => X0.ldc2Long hx hown (mvT hZ (hw _ (List.mem_of_getElem? (i := 0) rfl))) (g := (mkF m 30 #[.val (.int p0), .val (.int p1), .val (.int p2), .val (.int p3), .val (.int p4), .val (.int p5), .val (.int (0 : Int32)), .val (.int (1 : Int32)), .unset, .unset, .unset, .unset, .unset, .unset, .unset, .unset, .unset] [(.long (p0.toInt64))])) rfl (hb hby at_30) _ k) ?_
      refine Goes.step (S' := s₁.setTop (mkF m 34 #[.val (.int p0), .val (.int p1), .val (.int p2), .val (.int p3), .val (.int p4), .val (.int p5), .val (.int (0 : Int32)), .val (.int (1 : Int32)), .unset, .unset, .unset, .unset, .unset, .unset, .unset, .unset, .unset] [(.long ((p0.toInt64) &&& (4294967295 : Int64)))])) (fun _ k => XS.land X0.here hx rfl (hb hby at_33) rfl k) ?_
      refine Goes.step (S' := s₁.setTop (mkF m 36 #[.val (.int p0), .val (.int p1), .val (.int p2), .val (.int p3), .val (.int p4), .val (.int p5), .val (.int (0 : Int32)), .val (.int (1 : Int32)), .val (.long ((p0.toInt64) &&& (4294967295 : Int64))), .second, .unset, .unset, .unset, .unset, .unset, .unset, .unset] [])) (fun _ k => XS.lstore X0.here hx rfl (hb hby at_34) rfl (l' := #[.val (.int p0), .val (.int p1), .val (.int p2), .val (.int p3), .val (.int p4), .val (.int p5), .val (.int (0 : Int32)), .val (.int (1 : Int32)), .val (.long ((p0.toInt64) &&& (4294967295 : Int64))), .second, .unset, .unset, .unset, .unset, .unset, .unset, .unset]) rfl k) ?_
      obtain ⟨v8_34, ev8_34⟩ : ∃ z : Int64, z = ((p0.toInt64) &&& (4294967295 : Int64)) := ⟨_, rfl⟩
      rw [← ev8_34]
      refine G_iload X0 hx (hb hby at_36) rfl (pc' := 38) rfl ?_
      refine Goes.step (S' := s₁.setTop (mkF m 50 #[.val (.int p0), .val (.int p1), .val (.int p2), .val (.int p3), .val (.int p4), .val (.int p5), .val (.int (0 : Int32)), .val (.int (1 : Int32)), .val (.long v8_34), .second, .unset, .unset, .unset, .unset, .unset, .unset, .unset] [])) (fun _ k => XS.ifYes X0.here hx rfl (pc0 := 38) (pc' := 50) rfl (hb hby at_38) rfl ((if0 _ _).trans (teq (rfl : (0 : Int32) = (0 : Int32))).1) (by decide) (by decide) k) ?_
      refine G_iload X0 hx (hb hby at_50) rfl (pc' := 52) rfl ?_
      refine Goes.step (S' := s₁.setTop (mkF m 60 #[.val (.int p0), .val (.int p1), .val (.int p2), .val (.int p3), .val (.int p4), .val (.int p5), .val (.int (0 : Int32)), .val (.int (1 : Int32)), .val (.long v8_34), .second, .unset, .unset, .unset, .unset, .unset, .unset, .unset] [])) (fun _ k => XS.ifYes X0.here hx rfl (pc0 := 52) (pc' := 60) rfl (hb hby at_52) rfl ((if0 _ _).trans (teq (rfl : (0 : Int32) = (0 : Int32))).1) (by decide) (by decide) k) ?_
      refine G_bipush X0 hx (hb hby at_60) (z := 13) rfl (pc' := 62) rfl ?_
      refine Goes.step (S' := s₁.setTop (mkF m 64 #[.val (.int p0), .val (.int p1), .val (.int p2), .val (.int p3), .val (.int p4), .val (.int p5), .val (.int (0 : Int32)), .val (.int (1 : Int32)), .val (.long v8_34), .second, .val (.int (13 : Int32)), .unset, .unset, .unset, .unset, .unset, .unset] [])) (fun _ k => XS.istore X0.here hx rfl (hb hby at_62) rfl (l' := #[.val (.int p0), .val (.int p1), .val (.int p2), .val (.int p3), .val (.int p4), .val (.int p5), .val (.int (0 : Int32)), .val (.int (1 : Int32)), .val (.long v8_34), .second, .val (.int (13 : Int32)), .unset, .unset, .unset, .unset, .unset, .unset]) rfl k) ?_
      refine G_bipush X0 hx (hb hby at_64) (z := 12) rfl (pc' := 66) rfl ?_
      obtain ⟨T151, h151, k151, X151, e151, E151, A151, hk151, st151⟩ := own_newB X0 hx hZ (hw _ (List.mem_of_getElem? (i := 1) rfl)) e0 (g := (mkF m 66 #[.val (.int p0), .val (.int p1), .val (.int p2), .val (.int p3), .val (.int p4), .val (.int p5), .val (.int (0 : Int32)), .val (.int (1 : Int32)), .val (.long v8_34), .second, .val (.int (13 : Int32)), .unset, .unset, .unset, .unset, .unset, .unset] [(.int (12 : Int32))])) rfl (hb hby at_66) rfl (by decide) (cap := 12) (by decide) (by decide) (by decide) (by decide)
      obtain ⟨b151, g151⟩ : ∃ z, z = h0.size := ⟨_, rfl⟩
      rw [← g151] at A151 st151
      have g152 : n0 ≤ b151 := Nat.le_trans Z0 (Nat.le_of_eq g151.symm)
      have Z153 : n0 ≤ h151.size := Nat.le_trans Z0 E151.1
      have V154 : AI Z h151 b151 k151 .byte (12 : Int32) [(0 : Int32), (0 : Int32), (0 : Int32), (0 : Int32), (0 : Int32), (0 : Int32), (0 : Int32), (0 : Int32), (0 : Int32), (0 : Int32), (0 : Int32), (0 : Int32)] := own_new A151 (by decide) rfl
      refine Goes.step (S' := T151.setTop (mkF m 68 #[.val (.int p0), .val (.int p1), .val (.int p2), .val (.int p3), .val (.int p4), .val (.int p5), .val (.int (0 : Int32)), .val (.int (1 : Int32)), .val (.long v8_34), .second, .val (.int (13 : Int32)), .unset, .unset, .unset, .unset, .unset, .unset] [(.ref b151)])) st151 ?_
      refine Goes.step (S' := T151.setTop (mkF m 70 #[.val (.int p0), .val (.int p1), .val (.int p2), .val (.int p3), .val (.int p4), .val (.int p5), .val (.int (0 : Int32)), .val (.int (1 : Int32)), .val (.long v8_34), .second, .val (.int (13 : Int32)), .val (.ref b151), .unset, .unset, .unset, .unset, .unset] [])) (fun _ k => XS.astore X151.here hx rfl (hb hby at_68) rfl rfl (l' := #[.val (.int p0), .val (.int p1), .val (.int p2), .val (.int p3), .val (.int p4), .val (.int p5), .val (.int (0 : Int32)), .val (.int (1 : Int32)), .val (.long v8_34), .second, .val (.int (13 : Int32)), .val (.ref b151), .unset, .unset, .unset, .unset, .unset]) rfl k) ?_
      refine G_aload X151 hx (hb hby at_70) rfl rfl (pc' := 72) rfl ?_
      refine G_iconst X151 hx (hb hby at_72) (z := 0) rfl (pc' := 73) rfl ?_
      refine G_iloadN X151 hx (hb hby at_73) rfl (pc' := 74) rfl ?_
      refine G_bipush X151 hx (hb hby at_74) (z := 24) rfl (pc' := 76) rfl ?_
      refine G_iushr X151 hx (hb hby at_76) (pc' := 77) rfl ?_
      refine G_i2b X151 hx (hb hby at_77) (pc' := 78) rfl ?_
      obtain ⟨T155, h155, X155, e155, W155, V_155, st155⟩ := own_bastore X151 hx hZ e151 V154 ⟨by decide, by decide⟩ (g := (mkF m 78 #[.val (.int p0), .val (.int p1), .val (.int p2), .val (.int p3), .val (.int p4), .val (.int p5), .val (.int (0 : Int32)), .val (.int (1 : Int32)), .val (.long v8_34), .second, .val (.int (13 : Int32)), .val (.ref b151), .unset, .unset, .unset, .unset, .unset] [(.int (((p1.toUInt32 >>> ((24 : Int32) &&& 31).toUInt32).toInt32).toInt8.toInt32)), (.int (0 : Int32)), (.ref b151)])) rfl rfl (hb hby at_78)
      obtain ⟨y78, ey78⟩ : ∃ z : Int32, z = (nar .byte (((p1.toUInt32 >>> ((24 : Int32) &&& 31).toUInt32).toInt32).toInt8.toInt32)) := ⟨_, rfl⟩
      replace V_155 : AI Z h155 b151 k151 .byte (12 : Int32) [y78, (0 : Int32), (0 : Int32), (0 : Int32), (0 : Int32), (0 : Int32), (0 : Int32), (0 : Int32), (0 : Int32), (0 : Int32), (0 : Int32), (0 : Int32)] := by rw [ey78]; exact V_155
      have N156 := Fr.snoc X155 N0 g152
      have Z157 : n0 ≤ h155.size := Nat.le_trans Z153 (Nat.le_of_eq W155.size.symm)
      refine Goes.step (S' := T155.setTop (mkF m 79 #[.val (.int p0), .val (.int p1), .val (.int p2), .val (.int p3), .val (.int p4), .val (.int p5), .val (.int (0 : Int32)), .val (.int (1 : Int32)), .val (.long v8_34), .second, .val (.int (13 : Int32)), .val (.ref b151), .unset, .unset, .unset, .unset, .unset] [])) st155 ?_
      refine G_aload X155 hx (hb hby at_79) rfl rfl (pc' := 81) rfl ?_
      refine G_iconst X155 hx (hb hby at_81) (z := 1) rfl (pc' := 82) rfl ?_
      refine G_iloadN X155 hx (hb hby at_82) rfl (pc' := 83) rfl ?_
      refine G_bipush X155 hx (hb hby at_83) (z := 16) rfl (pc' := 85) rfl ?_
      refine G_iushr X155 hx (hb hby at_85) (pc' := 86) rfl ?_
      refine G_i2b X155 hx (hb hby at_86) (pc' := 87) rfl ?_
      obtain ⟨T158, h158, X158, e158, W158, V_158, st158⟩ := own_bastore X155 hx hZ e155 V_155 ⟨by decide, by decide⟩ (g := (mkF m 87 #[.val (.int p0), .val (.int p1), .val (.int p2), .val (.int p3), .val (.int p4), .val (.int p5), .val (.int (0 : Int32)), .val (.int (1 : Int32)), .val (.long v8_34), .second, .val (.int (13 : Int32)), .val (.ref b151), .unset, .unset, .unset, .unset, .unset] [(.int (((p1.toUInt32 >>> ((16 : Int32) &&& 31).toUInt32).toInt32).toInt8.toInt32)), (.int (1 : Int32)), (.ref b151)])) rfl rfl (hb hby at_87)
      obtain ⟨y87, ey87⟩ : ∃ z : Int32, z = (nar .byte (((p1.toUInt32 >>> ((16 : Int32) &&& 31).toUInt32).toInt32).toInt8.toInt32)) := ⟨_, rfl⟩
      replace V_158 : AI Z h158 b151 k151 .byte (12 : Int32) [y78, y87, (0 : Int32), (0 : Int32), (0 : Int32), (0 : Int32), (0 : Int32), (0 : Int32), (0 : Int32), (0 : Int32), (0 : Int32), (0 : Int32)] := by rw [ey87]; exact V_158
      have N159 := Fr.snoc X158 N156 g152
      have Z160 : n0 ≤ h158.size := Nat.le_trans Z157 (Nat.le_of_eq W158.size.symm)
      refine Goes.step (S' := T158.setTop (mkF m 88 #[.val (.int p0), .val (.int p1), .val (.int p2), .val (.int p3), .val (.int p4), .val (.int p5), .val (.int (0 : Int32)), .val (.int (1 : Int32)), .val (.long v8_34), .second, .val (.int (13 : Int32)), .val (.ref b151), .unset, .unset, .unset, .unset, .unset] [])) st158 ?_
      refine G_aload X158 hx (hb hby at_88) rfl rfl (pc' := 90) rfl ?_
      refine G_iconst X158 hx (hb hby at_90) (z := 2) rfl (pc' := 91) rfl ?_
      refine G_iloadN X158 hx (hb hby at_91) rfl (pc' := 92) rfl ?_
      refine G_bipush X158 hx (hb hby at_92) (z := 8) rfl (pc' := 94) rfl ?_
      refine G_iushr X158 hx (hb hby at_94) (pc' := 95) rfl ?_
      refine G_i2b X158 hx (hb hby at_95) (pc' := 96) rfl ?_
      obtain ⟨T161, h161, X161, e161, W161, V_161, st161⟩ := own_bastore X158 hx hZ e158 V_158 ⟨by decide, by decide⟩ (g := (mkF m 96 #[.val (.int p0), .val (.int p1), .val (.int p2), .val (.int p3), .val (.int p4), .val (.int p5), .val (.int (0 : Int32)), .val (.int (1 : Int32)), .val (.long v8_34), .second, .val (.int (13 : Int32)), .val (.ref b151), .unset, .unset, .unset, .unset, .unset] [(.int (((p1.toUInt32 >>> ((8 : Int32) &&& 31).toUInt32).toInt32).toInt8.toInt32)), (.int (2 : Int32)), (.ref b151)])) rfl rfl (hb hby at_96)
      obtain ⟨y96, ey96⟩ : ∃ z : Int32, z = (nar .byte (((p1.toUInt32 >>> ((8 : Int32) &&& 31).toUInt32).toInt32).toInt8.toInt32)) := ⟨_, rfl⟩
      replace V_161 : AI Z h161 b151 k151 .byte (12 : Int32) [y78, y87, y96, (0 : Int32), (0 : Int32), (0 : Int32), (0 : Int32), (0 : Int32), (0 : Int32), (0 : Int32), (0 : Int32), (0 : Int32)] := by rw [ey96]; exact V_161
      have N162 := Fr.snoc X161 N159 g152
      have Z163 : n0 ≤ h161.size := Nat.le_trans Z160 (Nat.le_of_eq W161.size.symm)
      refine Goes.step (S' := T161.setTop (mkF m 97 #[.val (.int p0), .val (.int p1), .val (.int p2), .val (.int p3), .val (.int p4), .val (.int p5), .val (.int (0 : Int32)), .val (.int (1 : Int32)), .val (.long v8_34), .second, .val (.int (13 : Int32)), .val (.ref b151), .unset, .unset, .unset, .unset, .unset] [])) st161 ?_
      refine G_aload X161 hx (hb hby at_97) rfl rfl (pc' := 99) rfl ?_
      refine G_iconst X161 hx (hb hby at_99) (z := 3) rfl (pc' := 100) rfl ?_
      refine G_iloadN X161 hx (hb hby at_100) rfl (pc' := 101) rfl ?_
      refine G_i2b X161 hx (hb hby at_101) (pc' := 102) rfl ?_
      obtain ⟨T164, h164, X164, e164, W164, V_164, st164⟩ := own_bastore X161 hx hZ e161 V_161 ⟨by decide, by decide⟩ (g := (mkF m 102 #[.val (.int p0), .val (.int p1), .val (.int p2), .val (.int p3), .val (.int p4), .val (.int p5), .val (.int (0 : Int32)), .val (.int (1 : Int32)), .val (.long v8_34), .second, .val (.int (13 : Int32)), .val (.ref b151), .unset, .unset, .unset, .unset, .unset] [(.int (p1.toInt8.toInt32)), (.int (3 : Int32)), (.ref b151)])) rfl rfl (hb hby at_102)
      obtain ⟨y102, ey102⟩ : ∃ z : Int32, z = (nar .byte (p1.toInt8.toInt32)) := ⟨_, rfl⟩
      replace V_164 : AI Z h164 b151 k151 .byte (12 : Int32) [y78, y87, y96, y102, (0 : Int32), (0 : Int32), (0 : Int32), (0 : Int32), (0 : Int32), (0 : Int32), (0 : Int32), (0 : Int32)] := by rw [ey102]; exact V_164
      have N165 := Fr.snoc X164 N162 g152
      have Z166 : n0 ≤ h164.size := Nat.le_trans Z163 (Nat.le_of_eq W164.size.symm)
      refine Goes.step (S' := T164.setTop (mkF m 103 #[.val (.int p0), .val (.int p1), .val (.int p2), .val (.int p3), .val (.int p4), .val (.int p5), .val (.int (0 : Int32)), .val (.int (1 : Int32)), .val (.long v8_34), .second, .val (.int (13 : Int32)), .val (.ref b151), .unset, .unset, .unset, .unset, .unset] [])) st164 ?_
      refine G_aload X164 hx (hb hby at_103) rfl rfl (pc' := 105) rfl ?_
      refine G_iconst X164 hx (hb hby at_105) (z := 4) rfl (pc' := 106) rfl ?_
      refine G_iloadN X164 hx (hb hby at_106) rfl (pc' := 107) rfl ?_
      refine G_bipush X164 hx (hb hby at_107) (z := 24) rfl (pc' := 109) rfl ?_
      refine G_iushr X164 hx (hb hby at_109) (pc' := 110) rfl ?_
      refine G_i2b X164 hx (hb hby at_110) (pc' := 111) rfl ?_
      obtain ⟨T167, h167, X167, e167, W167, V_167, st167⟩ := own_bastore X164 hx hZ e164 V_164 ⟨by decide, by decide⟩ (g := (mkF m 111 #[.val (.int p0), .val (.int p1), .val (.int p2), .val (.int p3), .val (.int p4), .val (.int p5), .val (.int (0 : Int32)), .val (.int (1 : Int32)), .val (.long v8_34), .second, .val (.int (13 : Int32)), .val (.ref b151), .unset, .unset, .unset, .unset, .unset] [(.int (((p2.toUInt32 >>> ((24 : Int32) &&& 31).toUInt32).toInt32).toInt8.toInt32)), (.int (4 : Int32)), (.ref b151)])) rfl rfl (hb hby at_111)
      obtain ⟨y111, ey111⟩ : ∃ z : Int32, z = (nar .byte (((p2.toUInt32 >>> ((24 : Int32) &&& 31).toUInt32).toInt32).toInt8.toInt32)) := ⟨_, rfl⟩
      replace V_167 : AI Z h167 b151 k151 .byte (12 : Int32) [y78, y87, y96, y102, y111, (0 : Int32), (0 : Int32), (0 : Int32), (0 : Int32), (0 : Int32), (0 : Int32), (0 : Int32)] := by rw [ey111]; exact V_167
      have N168 := Fr.snoc X167 N165 g152
      have Z169 : n0 ≤ h167.size := Nat.le_trans Z166 (Nat.le_of_eq W167.size.symm)
      refine Goes.step (S' := T167.setTop (mkF m 112 #[.val (.int p0), .val (.int p1), .val (.int p2), .val (.int p3), .val (.int p4), .val (.int p5), .val (.int (0 : Int32)), .val (.int (1 : Int32)), .val (.long v8_34), .second, .val (.int (13 : Int32)), .val (.ref b151), .unset, .unset, .unset, .unset, .unset] [])) st167 ?_
      refine G_aload X167 hx (hb hby at_112) rfl rfl (pc' := 114) rfl ?_
      refine G_iconst X167 hx (hb hby at_114) (z := 5) rfl (pc' := 115) rfl ?_
      refine G_iloadN X167 hx (hb hby at_115) rfl (pc' := 116) rfl ?_
      refine G_bipush X167 hx (hb hby at_116) (z := 16) rfl (pc' := 118) rfl ?_
      refine G_iushr X167 hx (hb hby at_118) (pc' := 119) rfl ?_
      refine G_i2b X167 hx (hb hby at_119) (pc' := 120) rfl ?_
      obtain ⟨T170, h170, X170, e170, W170, V_170, st170⟩ := own_bastore X167 hx hZ e167 V_167 ⟨by decide, by decide⟩ (g := (mkF m 120 #[.val (.int p0), .val (.int p1), .val (.int p2), .val (.int p3), .val (.int p4), .val (.int p5), .val (.int (0 : Int32)), .val (.int (1 : Int32)), .val (.long v8_34), .second, .val (.int (13 : Int32)), .val (.ref b151), .unset, .unset, .unset, .unset, .unset] [(.int (((p2.toUInt32 >>> ((16 : Int32) &&& 31).toUInt32).toInt32).toInt8.toInt32)), (.int (5 : Int32)), (.ref b151)])) rfl rfl (hb hby at_120)
      obtain ⟨y120, ey120⟩ : ∃ z : Int32, z = (nar .byte (((p2.toUInt32 >>> ((16 : Int32) &&& 31).toUInt32).toInt32).toInt8.toInt32)) := ⟨_, rfl⟩
      replace V_170 : AI Z h170 b151 k151 .byte (12 : Int32) [y78, y87, y96, y102, y111, y120, (0 : Int32), (0 : Int32), (0 : Int32), (0 : Int32), (0 : Int32), (0 : Int32)] := by rw [ey120]; exact V_170
      have N171 := Fr.snoc X170 N168 g152
      have Z172 : n0 ≤ h170.size := Nat.le_trans Z169 (Nat.le_of_eq W170.size.symm)
      refine Goes.step (S' := T170.setTop (mkF m 121 #[.val (.int p0), .val (.int p1), .val (.int p2), .val (.int p3), .val (.int p4), .val (.int p5), .val (.int (0 : Int32)), .val (.int (1 : Int32)), .val (.long v8_34), .second, .val (.int (13 : Int32)), .val (.ref b151), .unset, .unset, .unset, .unset, .unset] [])) st170 ?_
      refine G_aload X170 hx (hb hby at_121) rfl rfl (pc' := 123) rfl ?_
      refine G_bipush X170 hx (hb hby at_123) (z := 6) rfl (pc' := 125) rfl ?_
      refine G_iloadN X170 hx (hb hby at_125) rfl (pc' := 126) rfl ?_
      refine G_bipush X170 hx (hb hby at_126) (z := 8) rfl (pc' := 128) rfl ?_
      refine G_iushr X170 hx (hb hby at_128) (pc' := 129) rfl ?_
      refine G_i2b X170 hx (hb hby at_129) (pc' := 130) rfl ?_
      obtain ⟨T173, h173, X173, e173, W173, V_173, st173⟩ := own_bastore X170 hx hZ e170 V_170 ⟨by decide, by decide⟩ (g := (mkF m 130 #[.val (.int p0), .val (.int p1), .val (.int p2), .val (.int p3), .val (.int p4), .val (.int p5), .val (.int (0 : Int32)), .val (.int (1 : Int32)), .val (.long v8_34), .second, .val (.int (13 : Int32)), .val (.ref b151), .unset, .unset, .unset, .unset, .unset] [(.int (((p2.toUInt32 >>> ((8 : Int32) &&& 31).toUInt32).toInt32).toInt8.toInt32)), (.int (6 : Int32)), (.ref b151)])) rfl rfl (hb hby at_130)
      obtain ⟨y130, ey130⟩ : ∃ z : Int32, z = (nar .byte (((p2.toUInt32 >>> ((8 : Int32) &&& 31).toUInt32).toInt32).toInt8.toInt32)) := ⟨_, rfl⟩
      replace V_173 : AI Z h173 b151 k151 .byte (12 : Int32) [y78, y87, y96, y102, y111, y120, y130, (0 : Int32), (0 : Int32), (0 : Int32), (0 : Int32), (0 : Int32)] := by rw [ey130]; exact V_173
      have N174 := Fr.snoc X173 N171 g152
      have Z175 : n0 ≤ h173.size := Nat.le_trans Z172 (Nat.le_of_eq W173.size.symm)
      refine Goes.step (S' := T173.setTop (mkF m 131 #[.val (.int p0), .val (.int p1), .val (.int p2), .val (.int p3), .val (.int p4), .val (.int p5), .val (.int (0 : Int32)), .val (.int (1 : Int32)), .val (.long v8_34), .second, .val (.int (13 : Int32)), .val (.ref b151), .unset, .unset, .unset, .unset, .unset] [])) st173 ?_
      refine G_aload X173 hx (hb hby at_131) rfl rfl (pc' := 133) rfl ?_
      refine G_bipush X173 hx (hb hby at_133) (z := 7) rfl (pc' := 135) rfl ?_
      refine G_iloadN X173 hx (hb hby at_135) rfl (pc' := 136) rfl ?_
      refine G_i2b X173 hx (hb hby at_136) (pc' := 137) rfl ?_
      obtain ⟨T176, h176, X176, e176, W176, V_176, st176⟩ := own_bastore X173 hx hZ e173 V_173 ⟨by decide, by decide⟩ (g := (mkF m 137 #[.val (.int p0), .val (.int p1), .val (.int p2), .val (.int p3), .val (.int p4), .val (.int p5), .val (.int (0 : Int32)), .val (.int (1 : Int32)), .val (.long v8_34), .second, .val (.int (13 : Int32)), .val (.ref b151), .unset, .unset, .unset, .unset, .unset] [(.int (p2.toInt8.toInt32)), (.int (7 : Int32)), (.ref b151)])) rfl rfl (hb hby at_137)
      obtain ⟨y137, ey137⟩ : ∃ z : Int32, z = (nar .byte (p2.toInt8.toInt32)) := ⟨_, rfl⟩
      replace V_176 : AI Z h176 b151 k151 .byte (12 : Int32) [y78, y87, y96, y102, y111, y120, y130, y137, (0 : Int32), (0 : Int32), (0 : Int32), (0 : Int32)] := by rw [ey137]; exact V_176
      have N177 := Fr.snoc X176 N174 g152
      have Z178 : n0 ≤ h176.size := Nat.le_trans Z175 (Nat.le_of_eq W176.size.symm)
      refine Goes.step (S' := T176.setTop (mkF m 138 #[.val (.int p0), .val (.int p1), .val (.int p2), .val (.int p3), .val (.int p4), .val (.int p5), .val (.int (0 : Int32)), .val (.int (1 : Int32)), .val (.long v8_34), .second, .val (.int (13 : Int32)), .val (.ref b151), .unset, .unset, .unset, .unset, .unset] [])) st176 ?_
      refine G_aload X176 hx (hb hby at_138) rfl rfl (pc' := 140) rfl ?_
      refine G_bipush X176 hx (hb hby at_140) (z := 8) rfl (pc' := 142) rfl ?_
      refine G_iloadN X176 hx (hb hby at_142) rfl (pc' := 143) rfl ?_
      refine G_bipush X176 hx (hb hby at_143) (z := 24) rfl (pc' := 145) rfl ?_
      refine G_iushr X176 hx (hb hby at_145) (pc' := 146) rfl ?_
      refine G_i2b X176 hx (hb hby at_146) (pc' := 147) rfl ?_
      obtain ⟨T179, h179, X179, e179, W179, V_179, st179⟩ := own_bastore X176 hx hZ e176 V_176 ⟨by decide, by decide⟩ (g := (mkF m 147 #[.val (.int p0), .val (.int p1), .val (.int p2), .val (.int p3), .val (.int p4), .val (.int p5), .val (.int (0 : Int32)), .val (.int (1 : Int32)), .val (.long v8_34), .second, .val (.int (13 : Int32)), .val (.ref b151), .unset, .unset, .unset, .unset, .unset] [(.int (((p3.toUInt32 >>> ((24 : Int32) &&& 31).toUInt32).toInt32).toInt8.toInt32)), (.int (8 : Int32)), (.ref b151)])) rfl rfl (hb hby at_147)
      obtain ⟨y147, ey147⟩ : ∃ z : Int32, z = (nar .byte (((p3.toUInt32 >>> ((24 : Int32) &&& 31).toUInt32).toInt32).toInt8.toInt32)) := ⟨_, rfl⟩
      replace V_179 : AI Z h179 b151 k151 .byte (12 : Int32) [y78, y87, y96, y102, y111, y120, y130, y137, y147, (0 : Int32), (0 : Int32), (0 : Int32)] := by rw [ey147]; exact V_179
      have N180 := Fr.snoc X179 N177 g152
      have Z181 : n0 ≤ h179.size := Nat.le_trans Z178 (Nat.le_of_eq W179.size.symm)
      refine Goes.step (S' := T179.setTop (mkF m 148 #[.val (.int p0), .val (.int p1), .val (.int p2), .val (.int p3), .val (.int p4), .val (.int p5), .val (.int (0 : Int32)), .val (.int (1 : Int32)), .val (.long v8_34), .second, .val (.int (13 : Int32)), .val (.ref b151), .unset, .unset, .unset, .unset, .unset] [])) st179 ?_
      refine G_aload X179 hx (hb hby at_148) rfl rfl (pc' := 150) rfl ?_
      refine G_bipush X179 hx (hb hby at_150) (z := 9) rfl (pc' := 152) rfl ?_
      refine G_iloadN X179 hx (hb hby at_152) rfl (pc' := 153) rfl ?_
      refine G_bipush X179 hx (hb hby at_153) (z := 16) rfl (pc' := 155) rfl ?_
      refine G_iushr X179 hx (hb hby at_155) (pc' := 156) rfl ?_
      refine G_i2b X179 hx (hb hby at_156) (pc' := 157) rfl ?_
      obtain ⟨T182, h182, X182, e182, W182, V_182, st182⟩ := own_bastore X179 hx hZ e179 V_179 ⟨by decide, by decide⟩ (g := (mkF m 157 #[.val (.int p0), .val (.int p1), .val (.int p2), .val (.int p3), .val (.int p4), .val (.int p5), .val (.int (0 : Int32)), .val (.int (1 : Int32)), .val (.long v8_34), .second, .val (.int (13 : Int32)), .val (.ref b151), .unset, .unset, .unset, .unset, .unset] [(.int (((p3.toUInt32 >>> ((16 : Int32) &&& 31).toUInt32).toInt32).toInt8.toInt32)), (.int (9 : Int32)), (.ref b151)])) rfl rfl (hb hby at_157)
      obtain ⟨y157, ey157⟩ : ∃ z : Int32, z = (nar .byte (((p3.toUInt32 >>> ((16 : Int32) &&& 31).toUInt32).toInt32).toInt8.toInt32)) := ⟨_, rfl⟩
      replace V_182 : AI Z h182 b151 k151 .byte (12 : Int32) [y78, y87, y96, y102, y111, y120, y130, y137, y147, y157, (0 : Int32), (0 : Int32)] := by rw [ey157]; exact V_182
      have N183 := Fr.snoc X182 N180 g152
      have Z184 : n0 ≤ h182.size := Nat.le_trans Z181 (Nat.le_of_eq W182.size.symm)
      refine Goes.step (S' := T182.setTop (mkF m 158 #[.val (.int p0), .val (.int p1), .val (.int p2), .val (.int p3), .val (.int p4), .val (.int p5), .val (.int (0 : Int32)), .val (.int (1 : Int32)), .val (.long v8_34), .second, .val (.int (13 : Int32)), .val (.ref b151), .unset, .unset, .unset, .unset, .unset] [])) st182 ?_
      refine G_aload X182 hx (hb hby at_158) rfl rfl (pc' := 160) rfl ?_
      refine G_bipush X182 hx (hb hby at_160) (z := 10) rfl (pc' := 162) rfl ?_
      refine G_iloadN X182 hx (hb hby at_162) rfl (pc' := 163) rfl ?_
      refine G_bipush X182 hx (hb hby at_163) (z := 8) rfl (pc' := 165) rfl ?_
      refine G_iushr X182 hx (hb hby at_165) (pc' := 166) rfl ?_
      refine G_i2b X182 hx (hb hby at_166) (pc' := 167) rfl ?_
      obtain ⟨T185, h185, X185, e185, W185, V_185, st185⟩ := own_bastore X182 hx hZ e182 V_182 ⟨by decide, by decide⟩ (g := (mkF m 167 #[.val (.int p0), .val (.int p1), .val (.int p2), .val (.int p3), .val (.int p4), .val (.int p5), .val (.int (0 : Int32)), .val (.int (1 : Int32)), .val (.long v8_34), .second, .val (.int (13 : Int32)), .val (.ref b151), .unset, .unset, .unset, .unset, .unset] [(.int (((p3.toUInt32 >>> ((8 : Int32) &&& 31).toUInt32).toInt32).toInt8.toInt32)), (.int (10 : Int32)), (.ref b151)])) rfl rfl (hb hby at_167)
      obtain ⟨y167, ey167⟩ : ∃ z : Int32, z = (nar .byte (((p3.toUInt32 >>> ((8 : Int32) &&& 31).toUInt32).toInt32).toInt8.toInt32)) := ⟨_, rfl⟩
      replace V_185 : AI Z h185 b151 k151 .byte (12 : Int32) [y78, y87, y96, y102, y111, y120, y130, y137, y147, y157, y167, (0 : Int32)] := by rw [ey167]; exact V_185
      have N186 := Fr.snoc X185 N183 g152
      have Z187 : n0 ≤ h185.size := Nat.le_trans Z184 (Nat.le_of_eq W185.size.symm)
      refine Goes.step (S' := T185.setTop (mkF m 168 #[.val (.int p0), .val (.int p1), .val (.int p2), .val (.int p3), .val (.int p4), .val (.int p5), .val (.int (0 : Int32)), .val (.int (1 : Int32)), .val (.long v8_34), .second, .val (.int (13 : Int32)), .val (.ref b151), .unset, .unset, .unset, .unset, .unset] [])) st185 ?_
      refine G_aload X185 hx (hb hby at_168) rfl rfl (pc' := 170) rfl ?_
      refine G_bipush X185 hx (hb hby at_170) (z := 11) rfl (pc' := 172) rfl ?_
      refine G_iloadN X185 hx (hb hby at_172) rfl (pc' := 173) rfl ?_
      refine G_i2b X185 hx (hb hby at_173) (pc' := 174) rfl ?_
      obtain ⟨T188, h188, X188, e188, W188, V_188, st188⟩ := own_bastore X185 hx hZ e185 V_185 ⟨by decide, by decide⟩ (g := (mkF m 174 #[.val (.int p0), .val (.int p1), .val (.int p2), .val (.int p3), .val (.int p4), .val (.int p5), .val (.int (0 : Int32)), .val (.int (1 : Int32)), .val (.long v8_34), .second, .val (.int (13 : Int32)), .val (.ref b151), .unset, .unset, .unset, .unset, .unset] [(.int (p3.toInt8.toInt32)), (.int (11 : Int32)), (.ref b151)])) rfl rfl (hb hby at_174)
      obtain ⟨y174, ey174⟩ : ∃ z : Int32, z = (nar .byte (p3.toInt8.toInt32)) := ⟨_, rfl⟩
      replace V_188 : AI Z h188 b151 k151 .byte (12 : Int32) [y78, y87, y96, y102, y111, y120, y130, y137, y147, y157, y167, y174] := by rw [ey174]; exact V_188
      have N189 := Fr.snoc X188 N186 g152
      have Z190 : n0 ≤ h188.size := Nat.le_trans Z187 (Nat.le_of_eq W188.size.symm)
      refine Goes.step (S' := T188.setTop (mkF m 175 #[.val (.int p0), .val (.int p1), .val (.int p2), .val (.int p3), .val (.int p4), .val (.int p5), .val (.int (0 : Int32)), .val (.int (1 : Int32)), .val (.long v8_34), .second, .val (.int (13 : Int32)), .val (.ref b151), .unset, .unset, .unset, .unset, .unset] [])) st188 ?_
      refine G_iload X188 hx (hb hby at_175) rfl (pc' := 177) rfl ?_
      refine Goes.step (S' := T188.setTop (mkF m 180 #[.val (.int p0), .val (.int p1), .val (.int p2), .val (.int p3), .val (.int p4), .val (.int p5), .val (.int (0 : Int32)), .val (.int (1 : Int32)), .val (.long v8_34), .second, .val (.int (13 : Int32)), .val (.ref b151), .unset, .unset, .unset, .unset, .unset] [])) (fun _ k => XS.ifNo X188.here hx rfl (hb hby at_177) rfl ((if0 _ _).trans (feq (by decide)).1) k) ?_
      refine G_iload X188 hx (hb hby at_180) rfl (pc' := 182) rfl ?_
      refine Goes.step (S' := T188.setTop (mkF m 190 #[.val (.int p0), .val (.int p1), .val (.int p2), .val (.int p3), .val (.int p4), .val (.int p5), .val (.int (0 : Int32)), .val (.int (1 : Int32)), .val (.long v8_34), .second, .val (.int (13 : Int32)), .val (.ref b151), .unset, .unset, .unset, .unset, .unset] [])) (fun _ k => XS.ifYes X188.here hx rfl (pc0 := 182) (pc' := 190) rfl (hb hby at_182) rfl ((if0 _ _).trans (teq (rfl : (0 : Int32) = (0 : Int32))).1) (by decide) (by decide) k) ?_
      refine G_bipush X188 hx (hb hby at_190) (z := 29) rfl (pc' := 192) rfl ?_
      refine Goes.step (S' := T188.setTop (mkF m 197 #[.val (.int p0), .val (.int p1), .val (.int p2), .val (.int p3), .val (.int p4), .val (.int p5), .val (.int (0 : Int32)), .val (.int (1 : Int32)), .val (.long v8_34), .second, .val (.int (13 : Int32)), .val (.ref b151), .unset, .unset, .unset, .unset, .unset] [(.int (29 : Int32))])) (fun _ k => XS.goto X188.here hx rfl (pc0 := 192) (pc' := 197) rfl (hb hby at_192) (by decide) (by decide) k) ?_
      obtain ⟨T191, h191, k191, X191, e191, E191, A191, hk191, st191⟩ := own_newB X188 hx hZ (hw _ (List.mem_of_getElem? (i := 1) rfl)) e188 (g := (mkF m 197 #[.val (.int p0), .val (.int p1), .val (.int p2), .val (.int p3), .val (.int p4), .val (.int p5), .val (.int (0 : Int32)), .val (.int (1 : Int32)), .val (.long v8_34), .second, .val (.int (13 : Int32)), .val (.ref b151), .unset, .unset, .unset, .unset, .unset] [(.int (29 : Int32))])) rfl (hb hby at_197) rfl (by decide) (cap := 29) (by decide) (by decide) (by decide) (by decide)
      obtain ⟨b191, g191⟩ : ∃ z, z = h188.size := ⟨_, rfl⟩
      rw [← g191] at A191 st191
      have ne192 : b151 ≠ b191 := Nat.ne_of_lt (Nat.lt_of_lt_of_le V_188.lt (Nat.le_of_eq g191.symm))
      have g193 : n0 ≤ b191 := Nat.le_trans Z190 (Nat.le_of_eq g191.symm)
      have Z194 : n0 ≤ h191.size := Nat.le_trans Z190 E191.1
      have V195 := V_188.ext E191
      have V196 : AI Z h191 b191 k191 .byte (29 : Int32) [(0 : Int32), (0 : Int32), (0 : Int32), (0 : Int32), (0 : Int32), (0 : Int32), (0 : Int32), (0 : Int32), (0 : Int32), (0 : Int32), (0 : Int32), (0 : Int32), (0 : Int32), (0 : Int32), (0 : Int32), (0 : Int32), (0 : Int32), (0 : Int32), (0 : Int32), (0 : Int32), (0 : Int32), (0 : Int32), (0 : Int32), (0 : Int32), (0 : Int32), (0 : Int32), (0 : Int32), (0 : Int32), (0 : Int32)] := own_new A191 (by decide) rfl
      refine Goes.step (S' := T191.setTop (mkF m 199 #[.val (.int p0), .val (.int p1), .val (.int p2), .val (.int p3), .val (.int p4), .val (.int p5), .val (.int (0 : Int32)), .val (.int (1 : Int32)), .val (.long v8_34), .second, .val (.int (13 : Int32)), .val (.ref b151), .unset, .unset, .unset, .unset, .unset] [(.ref b191)])) st191 ?_
      refine Goes.step (S' := T191.setTop (mkF m 201 #[.val (.int p0), .val (.int p1), .val (.int p2), .val (.int p3), .val (.int p4), .val (.int p5), .val (.int (0 : Int32)), .val (.int (1 : Int32)), .val (.long v8_34), .second, .val (.int (13 : Int32)), .val (.ref b151), .val (.ref b191), .unset, .unset, .unset, .unset] [])) (fun _ k => XS.astore X191.here hx rfl (hb hby at_199) rfl rfl (l' := #[.val (.int p0), .val (.int p1), .val (.int p2), .val (.int p3), .val (.int p4), .val (.int p5), .val (.int (0 : Int32)), .val (.int (1 : Int32)), .val (.long v8_34), .second, .val (.int (13 : Int32)), .val (.ref b151), .val (.ref b191), .unset, .unset, .unset, .unset]) rfl k) ?_
      refine G_aload X191 hx (hb hby at_201) rfl rfl (pc' := 203) rfl ?_
      refine G_iconst X191 hx (hb hby at_203) (z := 0) rfl (pc' := 204) rfl ?_
      refine G_iload X191 hx (hb hby at_204) rfl (pc' := 206) rfl ?_
      refine Goes.step (S' := T191.setTop (mkF m 213 #[.val (.int p0), .val (.int p1), .val (.int p2), .val (.int p3), .val (.int p4), .val (.int p5), .val (.int (0 : Int32)), .val (.int (1 : Int32)), .val (.long v8_34), .second, .val (.int (13 : Int32)), .val (.ref b151), .val (.ref b191), .unset, .unset, .unset, .unset] [(.int (0 : Int32)), (.ref b191)])) (fun _ k => XS.ifYes X191.here hx rfl (pc0 := 206) (pc' := 213) rfl (hb hby at_206) rfl ((if0 _ _).trans (teq (rfl : (0 : Int32) = (0 : Int32))).1) (by decide) (by decide) k) ?_
      refine G_iconst X191 hx (hb hby at_213) (z := 1) rfl (pc' := 214) rfl ?_
      refine G_i2b X191 hx (hb hby at_214) (pc' := 215) rfl ?_
      obtain ⟨T197, h197, X197, e197, W197, V_197, st197⟩ := own_bastore X191 hx hZ e191 V196 ⟨by decide, by decide⟩ (g := (mkF m 215 #[.val (.int p0), .val (.int p1), .val (.int p2), .val (.int p3), .val (.int p4), .val (.int p5), .val (.int (0 : Int32)), .val (.int (1 : Int32)), .val (.long v8_34), .second, .val (.int (13 : Int32)), .val (.ref b151), .val (.ref b191), .unset, .unset, .unset, .unset] [(.int ((1 : Int32).toInt8.toInt32)), (.int (0 : Int32)), (.ref b191)])) rfl rfl (hb hby at_215)
      obtain ⟨y215, ey215⟩ : ∃ z : Int32, z = (nar .byte ((1 : Int32).toInt8.toInt32)) := ⟨_, rfl⟩
      replace V_197 : AI Z h197 b191 k191 .byte (29 : Int32) [y215, (0 : Int32), (0 : Int32), (0 : Int32), (0 : Int32), (0 : Int32), (0 : Int32), (0 : Int32), (0 : Int32), (0 : Int32), (0 : Int32), (0 : Int32), (0 : Int32), (0 : Int32), (0 : Int32), (0 : Int32), (0 : Int32), (0 : Int32), (0 : Int32), (0 : Int32), (0 : Int32), (0 : Int32), (0 : Int32), (0 : Int32), (0 : Int32), (0 : Int32), (0 : Int32), (0 : Int32), (0 : Int32)] := by rw [ey215]; exact V_197
      have N198 := Fr.snoc X197 N189 g193
      have Z199 : n0 ≤ h197.size := Nat.le_trans Z194 (Nat.le_of_eq W197.size.symm)
      have V200 := V195.other W197 ne192
      refine Goes.step (S' := T197.setTop (mkF m 216 #[.val (.int p0), .val (.int p1), .val (.int p2), .val (.int p3), .val (.int p4), .val (.int p5), .val (.int (0 : Int32)), .val (.int (1 : Int32)), .val (.long v8_34), .second, .val (.int (13 : Int32)), .val (.ref b151), .val (.ref b191), .unset, .unset, .unset, .unset] [])) st197 ?_
      refine G_iload X197 hx (hb hby at_216) rfl (pc' := 218) rfl ?_
      refine Goes.step (S' := T197.setTop (mkF m 254 #[.val (.int p0), .val (.int p1), .val (.int p2), .val (.int p3), .val (.int p4), .val (.int p5), .val (.int (0 : Int32)), .val (.int (1 : Int32)), .val (.long v8_34), .second, .val (.int (13 : Int32)), .val (.ref b151), .val (.ref b191), .unset, .unset, .unset, .unset] [])) (fun _ k => XS.ifYes X197.here hx rfl (pc0 := 218) (pc' := 254) rfl (hb hby at_218) rfl ((if0 _ _).trans (teq (rfl : (0 : Int32) = (0 : Int32))).1) (by decide) (by decide) k) ?_
      refine G_iload X197 hx (hb hby at_254) rfl (pc' := 256) rfl ?_
      refine G_bipush X197 hx (hb hby at_256) (z := 12) rfl (pc' := 258) rfl ?_
      refine Goes.step (S' := T197.setTop (mkF m 259 #[.val (.int p0), .val (.int p1), .val (.int p2), .val (.int p3), .val (.int p4), .val (.int p5), .val (.int (0 : Int32)), .val (.int (1 : Int32)), .val (.long v8_34), .second, .val (.int (13 : Int32)), .val (.ref b151), .val (.ref b191), .unset, .unset, .unset, .unset] [(.int (1 : Int32))])) (fun _ k => XS.isub X197.here hx rfl (hb hby at_258) rfl k) ?_
      refine Goes.step (S' := T197.setTop (mkF m 261 #[.val (.int p0), .val (.int p1), .val (.int p2), .val (.int p3), .val (.int p4), .val (.int p5), .val (.int (0 : Int32)), .val (.int (1 : Int32)), .val (.long v8_34), .second, .val (.int (13 : Int32)), .val (.ref b151), .val (.ref b191), .val (.int (1 : Int32)), .unset, .unset, .unset] [])) (fun _ k => XS.istore X197.here hx rfl (hb hby at_259) rfl (l' := #[.val (.int p0), .val (.int p1), .val (.int p2), .val (.int p3), .val (.int p4), .val (.int p5), .val (.int (0 : Int32)), .val (.int (1 : Int32)), .val (.long v8_34), .second, .val (.int (13 : Int32)), .val (.ref b151), .val (.ref b191), .val (.int (1 : Int32)), .unset, .unset, .unset]) rfl k) ?_
      refine G_aload X197 hx (hb hby at_261) rfl rfl (pc' := 263) rfl ?_
      refine G_iload X197 hx (hb hby at_263) rfl (pc' := 265) rfl ?_
      refine G_aload X197 hx (hb hby at_265) rfl rfl (pc' := 267) rfl ?_
      refine G_iconst X197 hx (hb hby at_267) (z := 0) rfl (pc' := 268) rfl ?_
      refine Goes.step (S' := T197.setTop (mkF m 269 #[.val (.int p0), .val (.int p1), .val (.int p2), .val (.int p3), .val (.int p4), .val (.int p5), .val (.int (0 : Int32)), .val (.int (1 : Int32)), .val (.long v8_34), .second, .val (.int (13 : Int32)), .val (.ref b151), .val (.ref b191), .val (.int (1 : Int32)), .unset, .unset, .unset] [(.int y78), (.int (1 : Int32)), (.ref b191)])) (fun _ k => own_baload X197 hx hZ e197 V200 ⟨by decide, by decide⟩ (hb hby at_268) _ k) ?_
      obtain ⟨T201, h201, X201, e201, W201, V_201, st201⟩ := own_bastore X197 hx hZ e197 V_197 ⟨by decide, by decide⟩ (g := (mkF m 269 #[.val (.int p0), .val (.int p1), .val (.int p2), .val (.int p3), .val (.int p4), .val (.int p5), .val (.int (0 : Int32)), .val (.int (1 : Int32)), .val (.long v8_34), .second, .val (.int (13 : Int32)), .val (.ref b151), .val (.ref b191), .val (.int (1 : Int32)), .unset, .unset, .unset] [(.int y78), (.int (1 : Int32)), (.ref b191)])) rfl rfl (hb hby at_269)
      replace V_201 : AI Z h201 b191 k191 .byte (29 : Int32) [y215, (nar .byte y78), (0 : Int32), (0 : Int32), (0 : Int32), (0 : Int32), (0 : Int32), (0 : Int32), (0 : Int32), (0 : Int32), (0 : Int32), (0 : Int32), (0 : Int32), (0 : Int32), (0 : Int32), (0 : Int32), (0 : Int32), (0 : Int32), (0 : Int32), (0 : Int32), (0 : Int32), (0 : Int32), (0 : Int32), (0 : Int32), (0 : Int32), (0 : Int32), (0 : Int32), (0 : Int32), (0 : Int32)] := V_201
      have N202 := Fr.snoc X201 N198 g193
      have Z203 : n0 ≤ h201.size := Nat.le_trans Z199 (Nat.le_of_eq W201.size.symm)
      have V204 := V200.other W201 ne192
      refine Goes.step (S' := T201.setTop (mkF m 270 #[.val (.int p0), .val (.int p1), .val (.int p2), .val (.int p3), .val (.int p4), .val (.int p5), .val (.int (0 : Int32)), .val (.int (1 : Int32)), .val (.long v8_34), .second, .val (.int (13 : Int32)), .val (.ref b151), .val (.ref b191), .val (.int (1 : Int32)), .unset, .unset, .unset] [])) st201 ?_
      refine G_aload X201 hx (hb hby at_270) rfl rfl (pc' := 272) rfl ?_
      refine G_iload X201 hx (hb hby at_272) rfl (pc' := 274) rfl ?_
      refine G_iconst X201 hx (hb hby at_274) (z := 1) rfl (pc' := 275) rfl ?_
      refine G_iadd X201 hx (hb hby at_275) (z := 2) rfl (pc' := 276) rfl ?_
      refine G_aload X201 hx (hb hby at_276) rfl rfl (pc' := 278) rfl ?_
      refine G_iconst X201 hx (hb hby at_278) (z := 1) rfl (pc' := 279) rfl ?_
      refine Goes.step (S' := T201.setTop (mkF m 280 #[.val (.int p0), .val (.int p1), .val (.int p2), .val (.int p3), .val (.int p4), .val (.int p5), .val (.int (0 : Int32)), .val (.int (1 : Int32)), .val (.long v8_34), .second, .val (.int (13 : Int32)), .val (.ref b151), .val (.ref b191), .val (.int (1 : Int32)), .unset, .unset, .unset] [(.int y87), (.int (2 : Int32)), (.ref b191)])) (fun _ k => own_baload X201 hx hZ e201 V204 ⟨by decide, by decide⟩ (hb hby at_279) _ k) ?_
      obtain ⟨T205, h205, X205, e205, W205, V_205, st205⟩ := own_bastore X201 hx hZ e201 V_201 ⟨by decide, by decide⟩ (g := (mkF m 280 #[.val (.int p0), .val (.int p1), .val (.int p2), .val (.int p3), .val (.int p4), .val (.int p5), .val (.int (0 : Int32)), .val (.int (1 : Int32)), .val (.long v8_34), .second, .val (.int (13 : Int32)), .val (.ref b151), .val (.ref b191), .val (.int (1 : Int32)), .unset, .unset, .unset] [(.int y87), (.int (2 : Int32)), (.ref b191)])) rfl rfl (hb hby at_280)
      replace V_205 : AI Z h205 b191 k191 .byte (29 : Int32) [y215, (nar .byte y78), (nar .byte y87), (0 : Int32), (0 : Int32), (0 : Int32), (0 : Int32), (0 : Int32), (0 : Int32), (0 : Int32), (0 : Int32), (0 : Int32), (0 : Int32), (0 : Int32), (0 : Int32), (0 : Int32), (0 : Int32), (0 : Int32), (0 : Int32), (0 : Int32), (0 : Int32), (0 : Int32), (0 : Int32), (0 : Int32), (0 : Int32), (0 : Int32), (0 : Int32), (0 : Int32), (0 : Int32)] := V_205
      have N206 := Fr.snoc X205 N202 g193
      have Z207 : n0 ≤ h205.size := Nat.le_trans Z203 (Nat.le_of_eq W205.size.symm)
      have V208 := V204.other W205 ne192
      refine Goes.step (S' := T205.setTop (mkF m 281 #[.val (.int p0), .val (.int p1), .val (.int p2), .val (.int p3), .val (.int p4), .val (.int p5), .val (.int (0 : Int32)), .val (.int (1 : Int32)), .val (.long v8_34), .second, .val (.int (13 : Int32)), .val (.ref b151), .val (.ref b191), .val (.int (1 : Int32)), .unset, .unset, .unset] [])) st205 ?_
      refine G_aload X205 hx (hb hby at_281) rfl rfl (pc' := 283) rfl ?_
      refine G_iload X205 hx (hb hby at_283) rfl (pc' := 285) rfl ?_
      refine G_iconst X205 hx (hb hby at_285) (z := 2) rfl (pc' := 286) rfl ?_
      refine G_iadd X205 hx (hb hby at_286) (z := 3) rfl (pc' := 287) rfl ?_
      refine G_aload X205 hx (hb hby at_287) rfl rfl (pc' := 289) rfl ?_
      refine G_iconst X205 hx (hb hby at_289) (z := 2) rfl (pc' := 290) rfl ?_
      refine Goes.step (S' := T205.setTop (mkF m 291 #[.val (.int p0), .val (.int p1), .val (.int p2), .val (.int p3), .val (.int p4), .val (.int p5), .val (.int (0 : Int32)), .val (.int (1 : Int32)), .val (.long v8_34), .second, .val (.int (13 : Int32)), .val (.ref b151), .val (.ref b191), .val (.int (1 : Int32)), .unset, .unset, .unset] [(.int y96), (.int (3 : Int32)), (.ref b191)])) (fun _ k => own_baload X205 hx hZ e205 V208 ⟨by decide, by decide⟩ (hb hby at_290) _ k) ?_
      obtain ⟨T209, h209, X209, e209, W209, V_209, st209⟩ := own_bastore X205 hx hZ e205 V_205 ⟨by decide, by decide⟩ (g := (mkF m 291 #[.val (.int p0), .val (.int p1), .val (.int p2), .val (.int p3), .val (.int p4), .val (.int p5), .val (.int (0 : Int32)), .val (.int (1 : Int32)), .val (.long v8_34), .second, .val (.int (13 : Int32)), .val (.ref b151), .val (.ref b191), .val (.int (1 : Int32)), .unset, .unset, .unset] [(.int y96), (.int (3 : Int32)), (.ref b191)])) rfl rfl (hb hby at_291)
      replace V_209 : AI Z h209 b191 k191 .byte (29 : Int32) [y215, (nar .byte y78), (nar .byte y87), (nar .byte y96), (0 : Int32), (0 : Int32), (0 : Int32), (0 : Int32), (0 : Int32), (0 : Int32), (0 : Int32), (0 : Int32), (0 : Int32), (0 : Int32), (0 : Int32), (0 : Int32), (0 : Int32), (0 : Int32), (0 : Int32), (0 : Int32), (0 : Int32), (0 : Int32), (0 : Int32), (0 : Int32), (0 : Int32), (0 : Int32), (0 : Int32), (0 : Int32), (0 : Int32)] := V_209
      have N210 := Fr.snoc X209 N206 g193
      have Z211 : n0 ≤ h209.size := Nat.le_trans Z207 (Nat.le_of_eq W209.size.symm)
      have V212 := V208.other W209 ne192
      refine Goes.step (S' := T209.setTop (mkF m 292 #[.val (.int p0), .val (.int p1), .val (.int p2), .val (.int p3), .val (.int p4), .val (.int p5), .val (.int (0 : Int32)), .val (.int (1 : Int32)), .val (.long v8_34), .second, .val (.int (13 : Int32)), .val (.ref b151), .val (.ref b191), .val (.int (1 : Int32)), .unset, .unset, .unset] [])) st209 ?_
      refine G_aload X209 hx (hb hby at_292) rfl rfl (pc' := 294) rfl ?_
      refine G_iload X209 hx (hb hby at_294) rfl (pc' := 296) rfl ?_
      refine G_iconst X209 hx (hb hby at_296) (z := 3) rfl (pc' := 297) rfl ?_
      refine G_iadd X209 hx (hb hby at_297) (z := 4) rfl (pc' := 298) rfl ?_
      refine G_aload X209 hx (hb hby at_298) rfl rfl (pc' := 300) rfl ?_
      refine G_iconst X209 hx (hb hby at_300) (z := 3) rfl (pc' := 301) rfl ?_
      refine Goes.step (S' := T209.setTop (mkF m 302 #[.val (.int p0), .val (.int p1), .val (.int p2), .val (.int p3), .val (.int p4), .val (.int p5), .val (.int (0 : Int32)), .val (.int (1 : Int32)), .val (.long v8_34), .second, .val (.int (13 : Int32)), .val (.ref b151), .val (.ref b191), .val (.int (1 : Int32)), .unset, .unset, .unset] [(.int y102), (.int (4 : Int32)), (.ref b191)])) (fun _ k => own_baload X209 hx hZ e209 V212 ⟨by decide, by decide⟩ (hb hby at_301) _ k) ?_
      obtain ⟨T213, h213, X213, e213, W213, V_213, st213⟩ := own_bastore X209 hx hZ e209 V_209 ⟨by decide, by decide⟩ (g := (mkF m 302 #[.val (.int p0), .val (.int p1), .val (.int p2), .val (.int p3), .val (.int p4), .val (.int p5), .val (.int (0 : Int32)), .val (.int (1 : Int32)), .val (.long v8_34), .second, .val (.int (13 : Int32)), .val (.ref b151), .val (.ref b191), .val (.int (1 : Int32)), .unset, .unset, .unset] [(.int y102), (.int (4 : Int32)), (.ref b191)])) rfl rfl (hb hby at_302)
      replace V_213 : AI Z h213 b191 k191 .byte (29 : Int32) [y215, (nar .byte y78), (nar .byte y87), (nar .byte y96), (nar .byte y102), (0 : Int32), (0 : Int32), (0 : Int32), (0 : Int32), (0 : Int32), (0 : Int32), (0 : Int32), (0 : Int32), (0 : Int32), (0 : Int32), (0 : Int32), (0 : Int32), (0 : Int32), (0 : Int32), (0 : Int32), (0 : Int32), (0 : Int32), (0 : Int32), (0 : Int32), (0 : Int32), (0 : Int32), (0 : Int32), (0 : Int32), (0 : Int32)] := V_213
      have N214 := Fr.snoc X213 N210 g193
      have Z215 : n0 ≤ h213.size := Nat.le_trans Z211 (Nat.le_of_eq W213.size.symm)
      have V216 := V212.other W213 ne192
      refine Goes.step (S' := T213.setTop (mkF m 303 #[.val (.int p0), .val (.int p1), .val (.int p2), .val (.int p3), .val (.int p4), .val (.int p5), .val (.int (0 : Int32)), .val (.int (1 : Int32)), .val (.long v8_34), .second, .val (.int (13 : Int32)), .val (.ref b151), .val (.ref b191), .val (.int (1 : Int32)), .unset, .unset, .unset] [])) st213 ?_
      refine G_aload X213 hx (hb hby at_303) rfl rfl (pc' := 305) rfl ?_
      refine G_iload X213 hx (hb hby at_305) rfl (pc' := 307) rfl ?_
      refine G_iconst X213 hx (hb hby at_307) (z := 4) rfl (pc' := 308) rfl ?_
      refine G_iadd X213 hx (hb hby at_308) (z := 5) rfl (pc' := 309) rfl ?_
      refine G_aload X213 hx (hb hby at_309) rfl rfl (pc' := 311) rfl ?_
      refine G_iconst X213 hx (hb hby at_311) (z := 4) rfl (pc' := 312) rfl ?_
      refine Goes.step (S' := T213.setTop (mkF m 313 #[.val (.int p0), .val (.int p1), .val (.int p2), .val (.int p3), .val (.int p4), .val (.int p5), .val (.int (0 : Int32)), .val (.int (1 : Int32)), .val (.long v8_34), .second, .val (.int (13 : Int32)), .val (.ref b151), .val (.ref b191), .val (.int (1 : Int32)), .unset, .unset, .unset] [(.int y111), (.int (5 : Int32)), (.ref b191)])) (fun _ k => own_baload X213 hx hZ e213 V216 ⟨by decide, by decide⟩ (hb hby at_312) _ k) ?_
      obtain ⟨T217, h217, X217, e217, W217, V_217, st217⟩ := own_bastore X213 hx hZ e213 V_213 ⟨by decide, by decide⟩ (g := (mkF m 313 #[.val (.int p0), .val (.int p1), .val (.int p2), .val (.int p3), .val (.int p4), .val (.int p5), .val (.int (0 : Int32)), .val (.int (1 : Int32)), .val (.long v8_34), .second, .val (.int (13 : Int32)), .val (.ref b151), .val (.ref b191), .val (.int (1 : Int32)), .unset, .unset, .unset] [(.int y111), (.int (5 : Int32)), (.ref b191)])) rfl rfl (hb hby at_313)
      replace V_217 : AI Z h217 b191 k191 .byte (29 : Int32) [y215, (nar .byte y78), (nar .byte y87), (nar .byte y96), (nar .byte y102), (nar .byte y111), (0 : Int32), (0 : Int32), (0 : Int32), (0 : Int32), (0 : Int32), (0 : Int32), (0 : Int32), (0 : Int32), (0 : Int32), (0 : Int32), (0 : Int32), (0 : Int32), (0 : Int32), (0 : Int32), (0 : Int32), (0 : Int32), (0 : Int32), (0 : Int32), (0 : Int32), (0 : Int32), (0 : Int32), (0 : Int32), (0 : Int32)] := V_217
      have N218 := Fr.snoc X217 N214 g193
      have Z219 : n0 ≤ h217.size := Nat.le_trans Z215 (Nat.le_of_eq W217.size.symm)
      have V220 := V216.other W217 ne192
      refine Goes.step (S' := T217.setTop (mkF m 314 #[.val (.int p0), .val (.int p1), .val (.int p2), .val (.int p3), .val (.int p4), .val (.int p5), .val (.int (0 : Int32)), .val (.int (1 : Int32)), .val (.long v8_34), .second, .val (.int (13 : Int32)), .val (.ref b151), .val (.ref b191), .val (.int (1 : Int32)), .unset, .unset, .unset] [])) st217 ?_
      refine G_aload X217 hx (hb hby at_314) rfl rfl (pc' := 316) rfl ?_
      refine G_iload X217 hx (hb hby at_316) rfl (pc' := 318) rfl ?_
      refine G_iconst X217 hx (hb hby at_318) (z := 5) rfl (pc' := 319) rfl ?_
      refine G_iadd X217 hx (hb hby at_319) (z := 6) rfl (pc' := 320) rfl ?_
      refine G_aload X217 hx (hb hby at_320) rfl rfl (pc' := 322) rfl ?_
      refine G_iconst X217 hx (hb hby at_322) (z := 5) rfl (pc' := 323) rfl ?_
      refine Goes.step (S' := T217.setTop (mkF m 324 #[.val (.int p0), .val (.int p1), .val (.int p2), .val (.int p3), .val (.int p4), .val (.int p5), .val (.int (0 : Int32)), .val (.int (1 : Int32)), .val (.long v8_34), .second, .val (.int (13 : Int32)), .val (.ref b151), .val (.ref b191), .val (.int (1 : Int32)), .unset, .unset, .unset] [(.int y120), (.int (6 : Int32)), (.ref b191)])) (fun _ k => own_baload X217 hx hZ e217 V220 ⟨by decide, by decide⟩ (hb hby at_323) _ k) ?_
      obtain ⟨T221, h221, X221, e221, W221, V_221, st221⟩ := own_bastore X217 hx hZ e217 V_217 ⟨by decide, by decide⟩ (g := (mkF m 324 #[.val (.int p0), .val (.int p1), .val (.int p2), .val (.int p3), .val (.int p4), .val (.int p5), .val (.int (0 : Int32)), .val (.int (1 : Int32)), .val (.long v8_34), .second, .val (.int (13 : Int32)), .val (.ref b151), .val (.ref b191), .val (.int (1 : Int32)), .unset, .unset, .unset] [(.int y120), (.int (6 : Int32)), (.ref b191)])) rfl rfl (hb hby at_324)
      replace V_221 : AI Z h221 b191 k191 .byte (29 : Int32) [y215, (nar .byte y78), (nar .byte y87), (nar .byte y96), (nar .byte y102), (nar .byte y111), (nar .byte y120), (0 : Int32), (0 : Int32), (0 : Int32), (0 : Int32), (0 : Int32), (0 : Int32), (0 : Int32), (0 : Int32), (0 : Int32), (0 : Int32), (0 : Int32), (0 : Int32), (0 : Int32), (0 : Int32), (0 : Int32), (0 : Int32), (0 : Int32), (0 : Int32), (0 : Int32), (0 : Int32), (0 : Int32), (0 : Int32)] := V_221
      have N222 := Fr.snoc X221 N218 g193
      have Z223 : n0 ≤ h221.size := Nat.le_trans Z219 (Nat.le_of_eq W221.size.symm)
      have V224 := V220.other W221 ne192
      refine Goes.step (S' := T221.setTop (mkF m 325 #[.val (.int p0), .val (.int p1), .val (.int p2), .val (.int p3), .val (.int p4), .val (.int p5), .val (.int (0 : Int32)), .val (.int (1 : Int32)), .val (.long v8_34), .second, .val (.int (13 : Int32)), .val (.ref b151), .val (.ref b191), .val (.int (1 : Int32)), .unset, .unset, .unset] [])) st221 ?_
      refine G_aload X221 hx (hb hby at_325) rfl rfl (pc' := 327) rfl ?_
      refine G_iload X221 hx (hb hby at_327) rfl (pc' := 329) rfl ?_
      refine G_bipush X221 hx (hb hby at_329) (z := 6) rfl (pc' := 331) rfl ?_
      refine G_iadd X221 hx (hb hby at_331) (z := 7) rfl (pc' := 332) rfl ?_
      refine G_aload X221 hx (hb hby at_332) rfl rfl (pc' := 334) rfl ?_
      refine G_bipush X221 hx (hb hby at_334) (z := 6) rfl (pc' := 336) rfl ?_
      refine Goes.step (S' := T221.setTop (mkF m 337 #[.val (.int p0), .val (.int p1), .val (.int p2), .val (.int p3), .val (.int p4), .val (.int p5), .val (.int (0 : Int32)), .val (.int (1 : Int32)), .val (.long v8_34), .second, .val (.int (13 : Int32)), .val (.ref b151), .val (.ref b191), .val (.int (1 : Int32)), .unset, .unset, .unset] [(.int y130), (.int (7 : Int32)), (.ref b191)])) (fun _ k => own_baload X221 hx hZ e221 V224 ⟨by decide, by decide⟩ (hb hby at_336) _ k) ?_
      obtain ⟨T225, h225, X225, e225, W225, V_225, st225⟩ := own_bastore X221 hx hZ e221 V_221 ⟨by decide, by decide⟩ (g := (mkF m 337 #[.val (.int p0), .val (.int p1), .val (.int p2), .val (.int p3), .val (.int p4), .val (.int p5), .val (.int (0 : Int32)), .val (.int (1 : Int32)), .val (.long v8_34), .second, .val (.int (13 : Int32)), .val (.ref b151), .val (.ref b191), .val (.int (1 : Int32)), .unset, .unset, .unset] [(.int y130), (.int (7 : Int32)), (.ref b191)])) rfl rfl (hb hby at_337)
      replace V_225 : AI Z h225 b191 k191 .byte (29 : Int32) [y215, (nar .byte y78), (nar .byte y87), (nar .byte y96), (nar .byte y102), (nar .byte y111), (nar .byte y120), (nar .byte y130), (0 : Int32), (0 : Int32), (0 : Int32), (0 : Int32), (0 : Int32), (0 : Int32), (0 : Int32), (0 : Int32), (0 : Int32), (0 : Int32), (0 : Int32), (0 : Int32), (0 : Int32), (0 : Int32), (0 : Int32), (0 : Int32), (0 : Int32), (0 : Int32), (0 : Int32), (0 : Int32), (0 : Int32)] := V_225
      have N226 := Fr.snoc X225 N222 g193
      have Z227 : n0 ≤ h225.size := Nat.le_trans Z223 (Nat.le_of_eq W225.size.symm)
      have V228 := V224.other W225 ne192
      refine Goes.step (S' := T225.setTop (mkF m 338 #[.val (.int p0), .val (.int p1), .val (.int p2), .val (.int p3), .val (.int p4), .val (.int p5), .val (.int (0 : Int32)), .val (.int (1 : Int32)), .val (.long v8_34), .second, .val (.int (13 : Int32)), .val (.ref b151), .val (.ref b191), .val (.int (1 : Int32)), .unset, .unset, .unset] [])) st225 ?_
      refine G_aload X225 hx (hb hby at_338) rfl rfl (pc' := 340) rfl ?_
      refine G_iload X225 hx (hb hby at_340) rfl (pc' := 342) rfl ?_
      refine G_bipush X225 hx (hb hby at_342) (z := 7) rfl (pc' := 344) rfl ?_
      refine G_iadd X225 hx (hb hby at_344) (z := 8) rfl (pc' := 345) rfl ?_
      refine G_aload X225 hx (hb hby at_345) rfl rfl (pc' := 347) rfl ?_
      refine G_bipush X225 hx (hb hby at_347) (z := 7) rfl (pc' := 349) rfl ?_
      refine Goes.step (S' := T225.setTop (mkF m 350 #[.val (.int p0), .val (.int p1), .val (.int p2), .val (.int p3), .val (.int p4), .val (.int p5), .val (.int (0 : Int32)), .val (.int (1 : Int32)), .val (.long v8_34), .second, .val (.int (13 : Int32)), .val (.ref b151), .val (.ref b191), .val (.int (1 : Int32)), .unset, .unset, .unset] [(.int y137), (.int (8 : Int32)), (.ref b191)])) (fun _ k => own_baload X225 hx hZ e225 V228 ⟨by decide, by decide⟩ (hb hby at_349) _ k) ?_
      obtain ⟨T229, h229, X229, e229, W229, V_229, st229⟩ := own_bastore X225 hx hZ e225 V_225 ⟨by decide, by decide⟩ (g := (mkF m 350 #[.val (.int p0), .val (.int p1), .val (.int p2), .val (.int p3), .val (.int p4), .val (.int p5), .val (.int (0 : Int32)), .val (.int (1 : Int32)), .val (.long v8_34), .second, .val (.int (13 : Int32)), .val (.ref b151), .val (.ref b191), .val (.int (1 : Int32)), .unset, .unset, .unset] [(.int y137), (.int (8 : Int32)), (.ref b191)])) rfl rfl (hb hby at_350)
      replace V_229 : AI Z h229 b191 k191 .byte (29 : Int32) [y215, (nar .byte y78), (nar .byte y87), (nar .byte y96), (nar .byte y102), (nar .byte y111), (nar .byte y120), (nar .byte y130), (nar .byte y137), (0 : Int32), (0 : Int32), (0 : Int32), (0 : Int32), (0 : Int32), (0 : Int32), (0 : Int32), (0 : Int32), (0 : Int32), (0 : Int32), (0 : Int32), (0 : Int32), (0 : Int32), (0 : Int32), (0 : Int32), (0 : Int32), (0 : Int32), (0 : Int32), (0 : Int32), (0 : Int32)] := V_229
      have N230 := Fr.snoc X229 N226 g193
      have Z231 : n0 ≤ h229.size := Nat.le_trans Z227 (Nat.le_of_eq W229.size.symm)
      have V232 := V228.other W229 ne192
      refine Goes.step (S' := T229.setTop (mkF m 351 #[.val (.int p0), .val (.int p1), .val (.int p2), .val (.int p3), .val (.int p4), .val (.int p5), .val (.int (0 : Int32)), .val (.int (1 : Int32)), .val (.long v8_34), .second, .val (.int (13 : Int32)), .val (.ref b151), .val (.ref b191), .val (.int (1 : Int32)), .unset, .unset, .unset] [])) st229 ?_
      refine G_aload X229 hx (hb hby at_351) rfl rfl (pc' := 353) rfl ?_
      refine G_iload X229 hx (hb hby at_353) rfl (pc' := 355) rfl ?_
      refine G_bipush X229 hx (hb hby at_355) (z := 8) rfl (pc' := 357) rfl ?_
      refine G_iadd X229 hx (hb hby at_357) (z := 9) rfl (pc' := 358) rfl ?_
      refine G_aload X229 hx (hb hby at_358) rfl rfl (pc' := 360) rfl ?_
      refine G_bipush X229 hx (hb hby at_360) (z := 8) rfl (pc' := 362) rfl ?_
      refine Goes.step (S' := T229.setTop (mkF m 363 #[.val (.int p0), .val (.int p1), .val (.int p2), .val (.int p3), .val (.int p4), .val (.int p5), .val (.int (0 : Int32)), .val (.int (1 : Int32)), .val (.long v8_34), .second, .val (.int (13 : Int32)), .val (.ref b151), .val (.ref b191), .val (.int (1 : Int32)), .unset, .unset, .unset] [(.int y147), (.int (9 : Int32)), (.ref b191)])) (fun _ k => own_baload X229 hx hZ e229 V232 ⟨by decide, by decide⟩ (hb hby at_362) _ k) ?_
      obtain ⟨T233, h233, X233, e233, W233, V_233, st233⟩ := own_bastore X229 hx hZ e229 V_229 ⟨by decide, by decide⟩ (g := (mkF m 363 #[.val (.int p0), .val (.int p1), .val (.int p2), .val (.int p3), .val (.int p4), .val (.int p5), .val (.int (0 : Int32)), .val (.int (1 : Int32)), .val (.long v8_34), .second, .val (.int (13 : Int32)), .val (.ref b151), .val (.ref b191), .val (.int (1 : Int32)), .unset, .unset, .unset] [(.int y147), (.int (9 : Int32)), (.ref b191)])) rfl rfl (hb hby at_363)
      replace V_233 : AI Z h233 b191 k191 .byte (29 : Int32) [y215, (nar .byte y78), (nar .byte y87), (nar .byte y96), (nar .byte y102), (nar .byte y111), (nar .byte y120), (nar .byte y130), (nar .byte y137), (nar .byte y147), (0 : Int32), (0 : Int32), (0 : Int32), (0 : Int32), (0 : Int32), (0 : Int32), (0 : Int32), (0 : Int32), (0 : Int32), (0 : Int32), (0 : Int32), (0 : Int32), (0 : Int32), (0 : Int32), (0 : Int32), (0 : Int32), (0 : Int32), (0 : Int32), (0 : Int32)] := V_233
      have N234 := Fr.snoc X233 N230 g193
      have Z235 : n0 ≤ h233.size := Nat.le_trans Z231 (Nat.le_of_eq W233.size.symm)
      have V236 := V232.other W233 ne192
      refine Goes.step (S' := T233.setTop (mkF m 364 #[.val (.int p0), .val (.int p1), .val (.int p2), .val (.int p3), .val (.int p4), .val (.int p5), .val (.int (0 : Int32)), .val (.int (1 : Int32)), .val (.long v8_34), .second, .val (.int (13 : Int32)), .val (.ref b151), .val (.ref b191), .val (.int (1 : Int32)), .unset, .unset, .unset] [])) st233 ?_
      refine G_aload X233 hx (hb hby at_364) rfl rfl (pc' := 366) rfl ?_
      refine G_iload X233 hx (hb hby at_366) rfl (pc' := 368) rfl ?_
      refine G_bipush X233 hx (hb hby at_368) (z := 9) rfl (pc' := 370) rfl ?_
      refine G_iadd X233 hx (hb hby at_370) (z := 10) rfl (pc' := 371) rfl ?_
      refine G_aload X233 hx (hb hby at_371) rfl rfl (pc' := 373) rfl ?_
      refine G_bipush X233 hx (hb hby at_373) (z := 9) rfl (pc' := 375) rfl ?_
      refine Goes.step (S' := T233.setTop (mkF m 376 #[.val (.int p0), .val (.int p1), .val (.int p2), .val (.int p3), .val (.int p4), .val (.int p5), .val (.int (0 : Int32)), .val (.int (1 : Int32)), .val (.long v8_34), .second, .val (.int (13 : Int32)), .val (.ref b151), .val (.ref b191), .val (.int (1 : Int32)), .unset, .unset, .unset] [(.int y157), (.int (10 : Int32)), (.ref b191)])) (fun _ k => own_baload X233 hx hZ e233 V236 ⟨by decide, by decide⟩ (hb hby at_375) _ k) ?_
      obtain ⟨T237, h237, X237, e237, W237, V_237, st237⟩ := own_bastore X233 hx hZ e233 V_233 ⟨by decide, by decide⟩ (g := (mkF m 376 #[.val (.int p0), .val (.int p1), .val (.int p2), .val (.int p3), .val (.int p4), .val (.int p5), .val (.int (0 : Int32)), .val (.int (1 : Int32)), .val (.long v8_34), .second, .val (.int (13 : Int32)), .val (.ref b151), .val (.ref b191), .val (.int (1 : Int32)), .unset, .unset, .unset] [(.int y157), (.int (10 : Int32)), (.ref b191)])) rfl rfl (hb hby at_376)
      replace V_237 : AI Z h237 b191 k191 .byte (29 : Int32) [y215, (nar .byte y78), (nar .byte y87), (nar .byte y96), (nar .byte y102), (nar .byte y111), (nar .byte y120), (nar .byte y130), (nar .byte y137), (nar .byte y147), (nar .byte y157), (0 : Int32), (0 : Int32), (0 : Int32), (0 : Int32), (0 : Int32), (0 : Int32), (0 : Int32), (0 : Int32), (0 : Int32), (0 : Int32), (0 : Int32), (0 : Int32), (0 : Int32), (0 : Int32), (0 : Int32), (0 : Int32), (0 : Int32), (0 : Int32)] := V_237
      have N238 := Fr.snoc X237 N234 g193
      have Z239 : n0 ≤ h237.size := Nat.le_trans Z235 (Nat.le_of_eq W237.size.symm)
      have V240 := V236.other W237 ne192
      refine Goes.step (S' := T237.setTop (mkF m 377 #[.val (.int p0), .val (.int p1), .val (.int p2), .val (.int p3), .val (.int p4), .val (.int p5), .val (.int (0 : Int32)), .val (.int (1 : Int32)), .val (.long v8_34), .second, .val (.int (13 : Int32)), .val (.ref b151), .val (.ref b191), .val (.int (1 : Int32)), .unset, .unset, .unset] [])) st237 ?_
      refine G_aload X237 hx (hb hby at_377) rfl rfl (pc' := 379) rfl ?_
      refine G_iload X237 hx (hb hby at_379) rfl (pc' := 381) rfl ?_
      refine G_bipush X237 hx (hb hby at_381) (z := 10) rfl (pc' := 383) rfl ?_
      refine G_iadd X237 hx (hb hby at_383) (z := 11) rfl (pc' := 384) rfl ?_
      refine G_aload X237 hx (hb hby at_384) rfl rfl (pc' := 386) rfl ?_
      refine G_bipush X237 hx (hb hby at_386) (z := 10) rfl (pc' := 388) rfl ?_
      refine Goes.step (S' := T237.setTop (mkF m 389 #[.val (.int p0), .val (.int p1), .val (.int p2), .val (.int p3), .val (.int p4), .val (.int p5), .val (.int (0 : Int32)), .val (.int (1 : Int32)), .val (.long v8_34), .second, .val (.int (13 : Int32)), .val (.ref b151), .val (.ref b191), .val (.int (1 : Int32)), .unset, .unset, .unset] [(.int y167), (.int (11 : Int32)), (.ref b191)])) (fun _ k => own_baload X237 hx hZ e237 V240 ⟨by decide, by decide⟩ (hb hby at_388) _ k) ?_
      obtain ⟨T241, h241, X241, e241, W241, V_241, st241⟩ := own_bastore X237 hx hZ e237 V_237 ⟨by decide, by decide⟩ (g := (mkF m 389 #[.val (.int p0), .val (.int p1), .val (.int p2), .val (.int p3), .val (.int p4), .val (.int p5), .val (.int (0 : Int32)), .val (.int (1 : Int32)), .val (.long v8_34), .second, .val (.int (13 : Int32)), .val (.ref b151), .val (.ref b191), .val (.int (1 : Int32)), .unset, .unset, .unset] [(.int y167), (.int (11 : Int32)), (.ref b191)])) rfl rfl (hb hby at_389)
      replace V_241 : AI Z h241 b191 k191 .byte (29 : Int32) [y215, (nar .byte y78), (nar .byte y87), (nar .byte y96), (nar .byte y102), (nar .byte y111), (nar .byte y120), (nar .byte y130), (nar .byte y137), (nar .byte y147), (nar .byte y157), (nar .byte y167), (0 : Int32), (0 : Int32), (0 : Int32), (0 : Int32), (0 : Int32), (0 : Int32), (0 : Int32), (0 : Int32), (0 : Int32), (0 : Int32), (0 : Int32), (0 : Int32), (0 : Int32), (0 : Int32), (0 : Int32), (0 : Int32), (0 : Int32)] := V_241
      have N242 := Fr.snoc X241 N238 g193
      have Z243 : n0 ≤ h241.size := Nat.le_trans Z239 (Nat.le_of_eq W241.size.symm)
      have V244 := V240.other W241 ne192
      refine Goes.step (S' := T241.setTop (mkF m 390 #[.val (.int p0), .val (.int p1), .val (.int p2), .val (.int p3), .val (.int p4), .val (.int p5), .val (.int (0 : Int32)), .val (.int (1 : Int32)), .val (.long v8_34), .second, .val (.int (13 : Int32)), .val (.ref b151), .val (.ref b191), .val (.int (1 : Int32)), .unset, .unset, .unset] [])) st241 ?_
      refine G_aload X241 hx (hb hby at_390) rfl rfl (pc' := 392) rfl ?_
      refine G_iload X241 hx (hb hby at_392) rfl (pc' := 394) rfl ?_
      refine G_bipush X241 hx (hb hby at_394) (z := 11) rfl (pc' := 396) rfl ?_
      refine G_iadd X241 hx (hb hby at_396) (z := 12) rfl (pc' := 397) rfl ?_
      refine G_aload X241 hx (hb hby at_397) rfl rfl (pc' := 399) rfl ?_
      refine G_bipush X241 hx (hb hby at_399) (z := 11) rfl (pc' := 401) rfl ?_
      refine Goes.step (S' := T241.setTop (mkF m 402 #[.val (.int p0), .val (.int p1), .val (.int p2), .val (.int p3), .val (.int p4), .val (.int p5), .val (.int (0 : Int32)), .val (.int (1 : Int32)), .val (.long v8_34), .second, .val (.int (13 : Int32)), .val (.ref b151), .val (.ref b191), .val (.int (1 : Int32)), .unset, .unset, .unset] [(.int y174), (.int (12 : Int32)), (.ref b191)])) (fun _ k => own_baload X241 hx hZ e241 V244 ⟨by decide, by decide⟩ (hb hby at_401) _ k) ?_
      obtain ⟨T245, h245, X245, e245, W245, V_245, st245⟩ := own_bastore X241 hx hZ e241 V_241 ⟨by decide, by decide⟩ (g := (mkF m 402 #[.val (.int p0), .val (.int p1), .val (.int p2), .val (.int p3), .val (.int p4), .val (.int p5), .val (.int (0 : Int32)), .val (.int (1 : Int32)), .val (.long v8_34), .second, .val (.int (13 : Int32)), .val (.ref b151), .val (.ref b191), .val (.int (1 : Int32)), .unset, .unset, .unset] [(.int y174), (.int (12 : Int32)), (.ref b191)])) rfl rfl (hb hby at_402)
      replace V_245 : AI Z h245 b191 k191 .byte (29 : Int32) [y215, (nar .byte y78), (nar .byte y87), (nar .byte y96), (nar .byte y102), (nar .byte y111), (nar .byte y120), (nar .byte y130), (nar .byte y137), (nar .byte y147), (nar .byte y157), (nar .byte y167), (nar .byte y174), (0 : Int32), (0 : Int32), (0 : Int32), (0 : Int32), (0 : Int32), (0 : Int32), (0 : Int32), (0 : Int32), (0 : Int32), (0 : Int32), (0 : Int32), (0 : Int32), (0 : Int32), (0 : Int32), (0 : Int32), (0 : Int32)] := V_245
      have N246 := Fr.snoc X245 N242 g193
      have Z247 : n0 ≤ h245.size := Nat.le_trans Z243 (Nat.le_of_eq W245.size.symm)
      have V248 := V244.other W245 ne192
      refine Goes.step (S' := T245.setTop (mkF m 403 #[.val (.int p0), .val (.int p1), .val (.int p2), .val (.int p3), .val (.int p4), .val (.int p5), .val (.int (0 : Int32)), .val (.int (1 : Int32)), .val (.long v8_34), .second, .val (.int (13 : Int32)), .val (.ref b151), .val (.ref b191), .val (.int (1 : Int32)), .unset, .unset, .unset] [])) st245 ?_
      refine G_aload X245 hx (hb hby at_403) rfl rfl (pc' := 405) rfl ?_
      refine G_iload X245 hx (hb hby at_405) rfl (pc' := 407) rfl ?_
      refine G_iload X245 hx (hb hby at_407) rfl (pc' := 409) rfl ?_
      refine G_i2b X245 hx (hb hby at_409) (pc' := 410) rfl ?_
      obtain ⟨T249, h249, X249, e249, W249, V_249, st249⟩ := own_bastore X245 hx hZ e245 V_245 ⟨by decide, by decide⟩ (g := (mkF m 410 #[.val (.int p0), .val (.int p1), .val (.int p2), .val (.int p3), .val (.int p4), .val (.int p5), .val (.int (0 : Int32)), .val (.int (1 : Int32)), .val (.long v8_34), .second, .val (.int (13 : Int32)), .val (.ref b151), .val (.ref b191), .val (.int (1 : Int32)), .unset, .unset, .unset] [(.int (p5.toInt8.toInt32)), (.int (13 : Int32)), (.ref b191)])) rfl rfl (hb hby at_410)
      obtain ⟨y410, ey410⟩ : ∃ z : Int32, z = (nar .byte (p5.toInt8.toInt32)) := ⟨_, rfl⟩
      replace V_249 : AI Z h249 b191 k191 .byte (29 : Int32) [y215, (nar .byte y78), (nar .byte y87), (nar .byte y96), (nar .byte y102), (nar .byte y111), (nar .byte y120), (nar .byte y130), (nar .byte y137), (nar .byte y147), (nar .byte y157), (nar .byte y167), (nar .byte y174), y410, (0 : Int32), (0 : Int32), (0 : Int32), (0 : Int32), (0 : Int32), (0 : Int32), (0 : Int32), (0 : Int32), (0 : Int32), (0 : Int32), (0 : Int32), (0 : Int32), (0 : Int32), (0 : Int32), (0 : Int32)] := by rw [ey410]; exact V_249
      have N250 := Fr.snoc X249 N246 g193
      have Z251 : n0 ≤ h249.size := Nat.le_trans Z247 (Nat.le_of_eq W249.size.symm)
      have V252 := V248.other W249 ne192
      refine Goes.step (S' := T249.setTop (mkF m 411 #[.val (.int p0), .val (.int p1), .val (.int p2), .val (.int p3), .val (.int p4), .val (.int p5), .val (.int (0 : Int32)), .val (.int (1 : Int32)), .val (.long v8_34), .second, .val (.int (13 : Int32)), .val (.ref b151), .val (.ref b191), .val (.int (1 : Int32)), .unset, .unset, .unset] [])) st249 ?_
      refine G_aload X249 hx (hb hby at_411) rfl rfl (pc' := 413) rfl ?_
      refine G_aload X249 hx (hb hby at_413) rfl rfl (pc' := 415) rfl ?_
      refine Goes.step (S' := T249.setTop (mkF m 416 #[.val (.int p0), .val (.int p1), .val (.int p2), .val (.int p3), .val (.int p4), .val (.int p5), .val (.int (0 : Int32)), .val (.int (1 : Int32)), .val (.long v8_34), .second, .val (.int (13 : Int32)), .val (.ref b151), .val (.ref b191), .val (.int (1 : Int32)), .unset, .unset, .unset] [(.int (29 : Int32)), (.ref b191)])) (fun _ k => own_len X249 hx hZ e249 V_249 (hb hby at_415) _ k) ?_
      refine G_iconst X249 hx (hb hby at_416) (z := 1) rfl (pc' := 417) rfl ?_
      refine Goes.step (S' := T249.setTop (mkF m 418 #[.val (.int p0), .val (.int p1), .val (.int p2), .val (.int p3), .val (.int p4), .val (.int p5), .val (.int (0 : Int32)), .val (.int (1 : Int32)), .val (.long v8_34), .second, .val (.int (13 : Int32)), .val (.ref b151), .val (.ref b191), .val (.int (1 : Int32)), .unset, .unset, .unset] [(.int (28 : Int32)), (.ref b191)])) (fun _ k => XS.isub X249.here hx rfl (hb hby at_417) rfl k) ?_
      refine G_iload X249 hx (hb hby at_418) rfl (pc' := 420) rfl ?_
      refine G_bipush X249 hx (hb hby at_420) (z := 8) rfl (pc' := 422) rfl ?_
      refine G_iushr X249 hx (hb hby at_422) (pc' := 423) rfl ?_
      refine G_i2b X249 hx (hb hby at_423) (pc' := 424) rfl ?_
      obtain ⟨T253, h253, X253, e253, W253, V_253, st253⟩ := own_bastore X249 hx hZ e249 V_249 ⟨by decide, by decide⟩ (g := (mkF m 424 #[.val (.int p0), .val (.int p1), .val (.int p2), .val (.int p3), .val (.int p4), .val (.int p5), .val (.int (0 : Int32)), .val (.int (1 : Int32)), .val (.long v8_34), .second, .val (.int (13 : Int32)), .val (.ref b151), .val (.ref b191), .val (.int (1 : Int32)), .unset, .unset, .unset] [(.int (((p5.toUInt32 >>> ((8 : Int32) &&& 31).toUInt32).toInt32).toInt8.toInt32)), (.int (28 : Int32)), (.ref b191)])) rfl rfl (hb hby at_424)
      obtain ⟨y424, ey424⟩ : ∃ z : Int32, z = (nar .byte (((p5.toUInt32 >>> ((8 : Int32) &&& 31).toUInt32).toInt32).toInt8.toInt32)) := ⟨_, rfl⟩
      replace V_253 : AI Z h253 b191 k191 .byte (29 : Int32) [y215, (nar .byte y78), (nar .byte y87), (nar .byte y96), (nar .byte y102), (nar .byte y111), (nar .byte y120), (nar .byte y130), (nar .byte y137), (nar .byte y147), (nar .byte y157), (nar .byte y167), (nar .byte y174), y410, (0 : Int32), (0 : Int32), (0 : Int32), (0 : Int32), (0 : Int32), (0 : Int32), (0 : Int32), (0 : Int32), (0 : Int32), (0 : Int32), (0 : Int32), (0 : Int32), (0 : Int32), (0 : Int32), y424] := by rw [ey424]; exact V_253
      have N254 := Fr.snoc X253 N250 g193
      have Z255 : n0 ≤ h253.size := Nat.le_trans Z251 (Nat.le_of_eq W253.size.symm)
      have V256 := V252.other W253 ne192
      refine Goes.step (S' := T253.setTop (mkF m 425 #[.val (.int p0), .val (.int p1), .val (.int p2), .val (.int p3), .val (.int p4), .val (.int p5), .val (.int (0 : Int32)), .val (.int (1 : Int32)), .val (.long v8_34), .second, .val (.int (13 : Int32)), .val (.ref b151), .val (.ref b191), .val (.int (1 : Int32)), .unset, .unset, .unset] [])) st253 ?_
      refine G_aload X253 hx (hb hby at_425) rfl rfl (pc' := 427) rfl ?_
      obtain ⟨_, _, ⟨T257, L257, k257, n257⟩, -, X257, ⟨Lc257, hQ257, l257, y257, z257⟩, st257⟩ := Jvm.LawKit.callS X253 hx (y := (⟨"com/example/isopod/isopod/RecordHeader", "read", "([B)Lcom/example/isopod/isopod/RecordHeader;"⟩ : MethodName)) hown (mvT hZ (hw _ (List.mem_of_getElem? (i := 2) rfl))) (mvT hZ (hw _ (List.mem_of_getElem? (i := 3) rfl))) (mvT hZ (hw _ (List.mem_of_getElem? (i := 4) rfl))) (mvT hZ (hw _ (List.mem_of_getElem? (i := 5) rfl))) (by decide) (backOf (W := 0) (rm1a l Z a0 hw [] b191 k191 ((29 : Int32)) ([y215, (nar .byte y78), (nar .byte y87), (nar .byte y96), (nar .byte y102), (nar .byte y111), (nar .byte y120), (nar .byte y130), (nar .byte y137), (nar .byte y147), (nar .byte y157), (nar .byte y167), (nar .byte y174), y410, (0 : Int32), (0 : Int32), (0 : Int32), (0 : Int32), (0 : Int32), (0 : Int32), (0 : Int32), (0 : Int32), (0 : Int32), (0 : Int32), (0 : Int32), (0 : Int32), (0 : Int32), (0 : Int32), y424]) h253 n0 Z255 V_253 hk191 (own_pr0_427_hv0_2 p0 p1 p2 p3 p4 p5 hc4_1 hc18_2 y78 ey78 y87 ey87 y96 ey96 y102 ey102 y111 ey111 y120 ey120 y130 ey130 y137 ey137 y147 ey147 y157 ey157 y167 ey167 y174 ey174 y215 ey215 y410 ey410 y424 ey424) (own_pr0_427_hn_2 p0 p1 p2 p3 p4 p5 hc4_1 hc18_2) (own_pr0_427_hn2_2 p0 p1 p2 p3 p4 p5 hc4_1 hc18_2)) hZ (hw _ (List.mem_of_getElem? (i := 5) rfl)) (hw _ (List.mem_of_getElem? (i := 4) rfl)) (by decide) (by decide)) (g := (mkF m 427 #[.val (.int p0), .val (.int p1), .val (.int p2), .val (.int p3), .val (.int p4), .val (.int p5), .val (.int (0 : Int32)), .val (.int (1 : Int32)), .val (.long v8_34), .second, .val (.int (13 : Int32)), .val (.ref b151), .val (.ref b191), .val (.int (1 : Int32)), .unset, .unset, .unset] [(.ref b191)])) rfl (by rw [hml]; rfl) (argsL := [(.ref b191)]) (rest := []) (lenOf pd5 rfl) rfl (by show 2 * 0 + _ ≤ _; exact Nat.le_of_eq rfl) (hb hby at_427) (fun _ _ => ⟨rfl, e253, (by decide : 2 + 2 ≤ _), (by decide : 41 + 15 ≤ _)⟩)
      dsimp only [Pt.U, Pt.locs, Pt.cells, Pt.slots] at X257 l257 y257 z257 st257 hQ257
      replace X257 := X257.more (Nat.le_of_eq (y257 : k257 = 4)) (Nat.le_of_eq (z257 : n257 = 56))
      obtain ⟨r257_0, r257_1, rk257_0, rfl, N257q, K257q, P258, P259, P260, P261, P262, P263, P264, P265, P266⟩ := hQ257
      have N267 := own_frapp l257 N254 N257q
      have ne268 : b151 ≠ r257_0 := Nat.ne_of_lt (Nat.lt_of_lt_of_le V256.lt P258)
      have ne269 : b191 ≠ r257_0 := Nat.ne_of_lt (Nat.lt_of_lt_of_le V_253.lt P258)
      have g270 : n0 ≤ r257_0 := Nat.le_trans Z255 P258
      have ne271 : b151 ≠ r257_1 := Nat.ne_of_lt (Nat.lt_of_lt_of_le V256.lt P263)
      have ne272 : b191 ≠ r257_1 := Nat.ne_of_lt (Nat.lt_of_lt_of_le V_253.lt P263)
      have g273 : n0 ≤ r257_1 := Nat.le_trans Z255 P263
      have V274 := V256.keep K257q nin0
      have V275 := V_253.keep K257q nin0
      have Z276 : n0 ≤ T257.heap.size := Nat.le_trans Z255 K257q.1
      refine Goes.step (S' := T257.setTop (mkF m 430 #[.val (.int p0), .val (.int p1), .val (.int p2), .val (.int p3), .val (.int p4), .val (.int p5), .val (.int (0 : Int32)), .val (.int (1 : Int32)), .val (.long v8_34), .second, .val (.int (13 : Int32)), .val (.ref b151), .val (.ref b191), .val (.int (1 : Int32)), .unset, .unset, .unset] [(.ref r257_0)])) st257 ?_
      refine Goes.step (S' := T257.setTop (mkF m 432 #[.val (.int p0), .val (.int p1), .val (.int p2), .val (.int p3), .val (.int p4), .val (.int p5), .val (.int (0 : Int32)), .val (.int (1 : Int32)), .val (.long v8_34), .second, .val (.int (13 : Int32)), .val (.ref b151), .val (.ref b191), .val (.int (1 : Int32)), .val (.ref r257_0), .unset, .unset] [])) (fun _ k => XS.astore X257.here hx rfl (hb hby at_430) rfl rfl (l' := #[.val (.int p0), .val (.int p1), .val (.int p2), .val (.int p3), .val (.int p4), .val (.int p5), .val (.int (0 : Int32)), .val (.int (1 : Int32)), .val (.long v8_34), .second, .val (.int (13 : Int32)), .val (.ref b151), .val (.ref b191), .val (.int (1 : Int32)), .val (.ref r257_0), .unset, .unset]) rfl k) ?_
      refine G_aload X257 hx (hb hby at_432) rfl rfl (pc' := 434) rfl ?_
      obtain ⟨cq277, kq277, q277a, q277b, q277c⟩ := isOf hZ rfl P259
      obtain ⟨_, _, ⟨T277, L277, k277, n277⟩, -, X277, ⟨Lc277, hQ277, l277, y277, z277⟩, st277⟩ := X257.virtualBack hx (y := (⟨"com/example/isopod/isopod/RecordHeader", "nonce", "()[B"⟩ : MethodName)) (z := (⟨"com/example/isopod/isopod/RecordHeader", "nonce", "()[B"⟩ : MethodName)) hown (mvT hZ (hw _ (List.mem_of_getElem? (i := 42) rfl))) (mvT hZ (hw _ (List.mem_of_getElem? (i := 43) rfl))) (notFace_of_selects (args := #[]) (mvT hZ (hw _ (List.mem_of_getElem? (i := 45) rfl)))) (mvT hZ (hw _ (List.mem_of_getElem? (i := 45) rfl))) (mvT hZ (hw _ (List.mem_of_getElem? (i := 44) rfl))) (by decide) (backOf (W := 0) (rm9 l Z a0 hw [] r257_0 r257_1 rk257_0 ((12 : Int32)) ([(nar .byte y78), (nar .byte y87), (nar .byte y96), (nar .byte y102), (nar .byte y111), (nar .byte y120), (nar .byte y130), (nar .byte y137), (nar .byte y147), (nar .byte y157), (nar .byte y167), (nar .byte y174)]) T257.heap n0 Z276 P259 P261 P264 P265 (own_pr0_434_hlen_2 p0 p1 p2 p3 p4 p5 hc4_1 hc18_2)) hZ (hw _ (List.mem_of_getElem? (i := 46) rfl)) (hw _ (List.mem_of_getElem? (i := 4) rfl)) (by decide) (by decide)) q277a q277c (g := (mkF m 434 #[.val (.int p0), .val (.int p1), .val (.int p2), .val (.int p3), .val (.int p4), .val (.int p5), .val (.int (0 : Int32)), .val (.int (1 : Int32)), .val (.long v8_34), .second, .val (.int (13 : Int32)), .val (.ref b151), .val (.ref b191), .val (.int (1 : Int32)), .val (.ref r257_0), .unset, .unset] [(.ref r257_0)])) rfl (by rw [hml]; rfl) (Steps.refl _) (argsL := []) (rest := []) (lenOf pd6 rfl) rfl (by show 2 * 0 + _ ≤ _; exact Nat.le_of_eq rfl) (hb hby at_434) (fun _ _ => ⟨rfl, rfl, (by decide : 4 + 1 ≤ _), (by decide : 56 + 12 ≤ _)⟩)
      dsimp only [Pt.U, Pt.locs, Pt.cells, Pt.slots] at X277 l277 y277 z277 st277 hQ277
      replace X277 := X277.more (Nat.le_of_eq (y277 : k277 = 5)) (Nat.le_of_eq (z277 : n277 = 68))
      obtain ⟨r277_0, rk277_0, rfl, N277q, K277q, P278, P279, P280⟩ := hQ277
      have N281 := own_frapp l277 N267 N277q
      have ne282 : b151 ≠ r277_0 := Nat.ne_of_lt (Nat.lt_of_lt_of_le V274.lt P278)
      have ne283 : b191 ≠ r277_0 := Nat.ne_of_lt (Nat.lt_of_lt_of_le V275.lt P278)
      have ne284 : r257_1 ≠ r277_0 := Nat.ne_of_lt (Nat.lt_of_lt_of_le P264.lt P278)
      have ne285 : r257_0 ≠ r277_0 := Nat.ne_of_lt (Nat.lt_of_lt_of_le P259.lt P278)
      have g286 : n0 ≤ r277_0 := Nat.le_trans Z276 P278
      have V287 := V274.keep K277q nin0
      have V288 := V275.keep K277q nin0
      have V289 := P264.keep K277q nin0
      have E_290 := P259.keep K277q
      have F291 := P260.keep K277q nin0
      have F292 := P261.keep K277q nin0
      have F293 := P262.keep K277q nin0
      have Z294 : n0 ≤ T277.heap.size := Nat.le_trans Z276 K277q.1
      refine Goes.step (S' := T277.setTop (mkF m 437 #[.val (.int p0), .val (.int p1), .val (.int p2), .val (.int p3), .val (.int p4), .val (.int p5), .val (.int (0 : Int32)), .val (.int (1 : Int32)), .val (.long v8_34), .second, .val (.int (13 : Int32)), .val (.ref b151), .val (.ref b191), .val (.int (1 : Int32)), .val (.ref r257_0), .unset, .unset] [(.ref r277_0)])) (fun _ k => st277.trans k) ?_
      refine Goes.step (S' := T277.setTop (mkF m 439 #[.val (.int p0), .val (.int p1), .val (.int p2), .val (.int p3), .val (.int p4), .val (.int p5), .val (.int (0 : Int32)), .val (.int (1 : Int32)), .val (.long v8_34), .second, .val (.int (13 : Int32)), .val (.ref b151), .val (.ref b191), .val (.int (1 : Int32)), .val (.ref r257_0), .val (.ref r277_0), .unset] [])) (fun _ k => XS.astore X277.here hx rfl (hb hby at_437) rfl rfl (l' := #[.val (.int p0), .val (.int p1), .val (.int p2), .val (.int p3), .val (.int p4), .val (.int p5), .val (.int (0 : Int32)), .val (.int (1 : Int32)), .val (.long v8_34), .second, .val (.int (13 : Int32)), .val (.ref b151), .val (.ref b191), .val (.int (1 : Int32)), .val (.ref r257_0), .val (.ref r277_0), .unset]) rfl k) ?_
      refine G_aload X277 hx (hb hby at_439) rfl rfl (pc' := 441) rfl ?_
      refine Goes.step (S' := T277.setTop (mkF m 442 #[.val (.int p0), .val (.int p1), .val (.int p2), .val (.int p3), .val (.int p4), .val (.int p5), .val (.int (0 : Int32)), .val (.int (1 : Int32)), .val (.long v8_34), .second, .val (.int (13 : Int32)), .val (.ref b151), .val (.ref b191), .val (.int (1 : Int32)), .val (.ref r257_0), .val (.ref r277_0), .unset] [(.int (12 : Int32))])) (fun _ k => own_len X277 hx hZ rfl P279 (hb hby at_441) _ k) ?_
      refine G_bipush X277 hx (hb hby at_442) (z := 12) rfl (pc' := 444) rfl ?_
      refine Goes.step (S' := T277.setTop (mkF m 447 #[.val (.int p0), .val (.int p1), .val (.int p2), .val (.int p3), .val (.int p4), .val (.int p5), .val (.int (0 : Int32)), .val (.int (1 : Int32)), .val (.long v8_34), .second, .val (.int (13 : Int32)), .val (.ref b151), .val (.ref b191), .val (.int (1 : Int32)), .val (.ref r257_0), .val (.ref r277_0), .unset] [])) (fun _ k => XS.icmpNo X277.here hx rfl (hb hby at_444) rfl (teq (rfl : (12 : Int32) = (12 : Int32))).2 k) ?_
      refine G_aload X277 hx (hb hby at_447) rfl rfl (pc' := 449) rfl ?_
      refine G_iconst X277 hx (hb hby at_449) (z := 0) rfl (pc' := 450) rfl ?_
      refine Goes.step (S' := T277.setTop (mkF m 451 #[.val (.int p0), .val (.int p1), .val (.int p2), .val (.int p3), .val (.int p4), .val (.int p5), .val (.int (0 : Int32)), .val (.int (1 : Int32)), .val (.long v8_34), .second, .val (.int (13 : Int32)), .val (.ref b151), .val (.ref b191), .val (.int (1 : Int32)), .val (.ref r257_0), .val (.ref r277_0), .unset] [(.int (nar .byte y78))])) (fun _ k => own_baload X277 hx hZ rfl P279 ⟨by decide, by decide⟩ (hb hby at_450) _ k) ?_
      refine G_aload X277 hx (hb hby at_451) rfl rfl (pc' := 453) rfl ?_
      refine G_iconst X277 hx (hb hby at_453) (z := 0) rfl (pc' := 454) rfl ?_
      refine Goes.step (S' := T277.setTop (mkF m 455 #[.val (.int p0), .val (.int p1), .val (.int p2), .val (.int p3), .val (.int p4), .val (.int p5), .val (.int (0 : Int32)), .val (.int (1 : Int32)), .val (.long v8_34), .second, .val (.int (13 : Int32)), .val (.ref b151), .val (.ref b191), .val (.int (1 : Int32)), .val (.ref r257_0), .val (.ref r277_0), .unset] [(.int y78), (.int (nar .byte y78))])) (fun _ k => own_baload X277 hx hZ rfl V287 ⟨by decide, by decide⟩ (hb hby at_454) _ k) ?_
      refine Goes.step (S' := T277.setTop (mkF m 458 #[.val (.int p0), .val (.int p1), .val (.int p2), .val (.int p3), .val (.int p4), .val (.int p5), .val (.int (0 : Int32)), .val (.int (1 : Int32)), .val (.long v8_34), .second, .val (.int (13 : Int32)), .val (.ref b151), .val (.ref b191), .val (.int (1 : Int32)), .val (.ref r257_0), .val (.ref r277_0), .unset] [])) (fun _ k => XS.icmpNo X277.here hx rfl (hb hby at_455) rfl (teq (own_hc0_455_2 p0 p1 p2 p3 p4 p5 hc4_1 hc18_2 y78 ey78)).2 k) ?_
      refine G_aload X277 hx (hb hby at_458) rfl rfl (pc' := 460) rfl ?_
      refine G_iconst X277 hx (hb hby at_460) (z := 1) rfl (pc' := 461) rfl ?_
      refine Goes.step (S' := T277.setTop (mkF m 462 #[.val (.int p0), .val (.int p1), .val (.int p2), .val (.int p3), .val (.int p4), .val (.int p5), .val (.int (0 : Int32)), .val (.int (1 : Int32)), .val (.long v8_34), .second, .val (.int (13 : Int32)), .val (.ref b151), .val (.ref b191), .val (.int (1 : Int32)), .val (.ref r257_0), .val (.ref r277_0), .unset] [(.int (nar .byte y87))])) (fun _ k => own_baload X277 hx hZ rfl P279 ⟨by decide, by decide⟩ (hb hby at_461) _ k) ?_
      refine G_aload X277 hx (hb hby at_462) rfl rfl (pc' := 464) rfl ?_
      refine G_iconst X277 hx (hb hby at_464) (z := 1) rfl (pc' := 465) rfl ?_
      refine Goes.step (S' := T277.setTop (mkF m 466 #[.val (.int p0), .val (.int p1), .val (.int p2), .val (.int p3), .val (.int p4), .val (.int p5), .val (.int (0 : Int32)), .val (.int (1 : Int32)), .val (.long v8_34), .second, .val (.int (13 : Int32)), .val (.ref b151), .val (.ref b191), .val (.int (1 : Int32)), .val (.ref r257_0), .val (.ref r277_0), .unset] [(.int y87), (.int (nar .byte y87))])) (fun _ k => own_baload X277 hx hZ rfl V287 ⟨by decide, by decide⟩ (hb hby at_465) _ k) ?_
      refine Goes.step (S' := T277.setTop (mkF m 469 #[.val (.int p0), .val (.int p1), .val (.int p2), .val (.int p3), .val (.int p4), .val (.int p5), .val (.int (0 : Int32)), .val (.int (1 : Int32)), .val (.long v8_34), .second, .val (.int (13 : Int32)), .val (.ref b151), .val (.ref b191), .val (.int (1 : Int32)), .val (.ref r257_0), .val (.ref r277_0), .unset] [])) (fun _ k => XS.icmpNo X277.here hx rfl (hb hby at_466) rfl (teq (own_hc0_466_2 p0 p1 p2 p3 p4 p5 hc4_1 hc18_2 y87 ey87)).2 k) ?_
      refine G_aload X277 hx (hb hby at_469) rfl rfl (pc' := 471) rfl ?_
      refine G_iconst X277 hx (hb hby at_471) (z := 2) rfl (pc' := 472) rfl ?_
      refine Goes.step (S' := T277.setTop (mkF m 473 #[.val (.int p0), .val (.int p1), .val (.int p2), .val (.int p3), .val (.int p4), .val (.int p5), .val (.int (0 : Int32)), .val (.int (1 : Int32)), .val (.long v8_34), .second, .val (.int (13 : Int32)), .val (.ref b151), .val (.ref b191), .val (.int (1 : Int32)), .val (.ref r257_0), .val (.ref r277_0), .unset] [(.int (nar .byte y96))])) (fun _ k => own_baload X277 hx hZ rfl P279 ⟨by decide, by decide⟩ (hb hby at_472) _ k) ?_
      refine G_aload X277 hx (hb hby at_473) rfl rfl (pc' := 475) rfl ?_
      refine G_iconst X277 hx (hb hby at_475) (z := 2) rfl (pc' := 476) rfl ?_
      refine Goes.step (S' := T277.setTop (mkF m 477 #[.val (.int p0), .val (.int p1), .val (.int p2), .val (.int p3), .val (.int p4), .val (.int p5), .val (.int (0 : Int32)), .val (.int (1 : Int32)), .val (.long v8_34), .second, .val (.int (13 : Int32)), .val (.ref b151), .val (.ref b191), .val (.int (1 : Int32)), .val (.ref r257_0), .val (.ref r277_0), .unset] [(.int y96), (.int (nar .byte y96))])) (fun _ k => own_baload X277 hx hZ rfl V287 ⟨by decide, by decide⟩ (hb hby at_476) _ k) ?_
      refine Goes.step (S' := T277.setTop (mkF m 480 #[.val (.int p0), .val (.int p1), .val (.int p2), .val (.int p3), .val (.int p4), .val (.int p5), .val (.int (0 : Int32)), .val (.int (1 : Int32)), .val (.long v8_34), .second, .val (.int (13 : Int32)), .val (.ref b151), .val (.ref b191), .val (.int (1 : Int32)), .val (.ref r257_0), .val (.ref r277_0), .unset] [])) (fun _ k => XS.icmpNo X277.here hx rfl (hb hby at_477) rfl (teq (own_hc0_477_2 p0 p1 p2 p3 p4 p5 hc4_1 hc18_2 y96 ey96)).2 k) ?_
      refine G_aload X277 hx (hb hby at_480) rfl rfl (pc' := 482) rfl ?_
      refine G_iconst X277 hx (hb hby at_482) (z := 3) rfl (pc' := 483) rfl ?_
      refine Goes.step (S' := T277.setTop (mkF m 484 #[.val (.int p0), .val (.int p1), .val (.int p2), .val (.int p3), .val (.int p4), .val (.int p5), .val (.int (0 : Int32)), .val (.int (1 : Int32)), .val (.long v8_34), .second, .val (.int (13 : Int32)), .val (.ref b151), .val (.ref b191), .val (.int (1 : Int32)), .val (.ref r257_0), .val (.ref r277_0), .unset] [(.int (nar .byte y102))])) (fun _ k => own_baload X277 hx hZ rfl P279 ⟨by decide, by decide⟩ (hb hby at_483) _ k) ?_
      refine G_aload X277 hx (hb hby at_484) rfl rfl (pc' := 486) rfl ?_
      refine G_iconst X277 hx (hb hby at_486) (z := 3) rfl (pc' := 487) rfl ?_
      refine Goes.step (S' := T277.setTop (mkF m 488 #[.val (.int p0), .val (.int p1), .val (.int p2), .val (.int p3), .val (.int p4), .val (.int p5), .val (.int (0 : Int32)), .val (.int (1 : Int32)), .val (.long v8_34), .second, .val (.int (13 : Int32)), .val (.ref b151), .val (.ref b191), .val (.int (1 : Int32)), .val (.ref r257_0), .val (.ref r277_0), .unset] [(.int y102), (.int (nar .byte y102))])) (fun _ k => own_baload X277 hx hZ rfl V287 ⟨by decide, by decide⟩ (hb hby at_487) _ k) ?_
      refine Goes.step (S' := T277.setTop (mkF m 491 #[.val (.int p0), .val (.int p1), .val (.int p2), .val (.int p3), .val (.int p4), .val (.int p5), .val (.int (0 : Int32)), .val (.int (1 : Int32)), .val (.long v8_34), .second, .val (.int (13 : Int32)), .val (.ref b151), .val (.ref b191), .val (.int (1 : Int32)), .val (.ref r257_0), .val (.ref r277_0), .unset] [])) (fun _ k => XS.icmpNo X277.here hx rfl (hb hby at_488) rfl (teq (own_hc0_488_2 p0 p1 p2 p3 p4 p5 hc4_1 hc18_2 y102 ey102)).2 k) ?_
      refine G_aload X277 hx (hb hby at_491) rfl rfl (pc' := 493) rfl ?_
      refine G_iconst X277 hx (hb hby at_493) (z := 4) rfl (pc' := 494) rfl ?_
      refine Goes.step (S' := T277.setTop (mkF m 495 #[.val (.int p0), .val (.int p1), .val (.int p2), .val (.int p3), .val (.int p4), .val (.int p5), .val (.int (0 : Int32)), .val (.int (1 : Int32)), .val (.long v8_34), .second, .val (.int (13 : Int32)), .val (.ref b151), .val (.ref b191), .val (.int (1 : Int32)), .val (.ref r257_0), .val (.ref r277_0), .unset] [(.int (nar .byte y111))])) (fun _ k => own_baload X277 hx hZ rfl P279 ⟨by decide, by decide⟩ (hb hby at_494) _ k) ?_
      refine G_aload X277 hx (hb hby at_495) rfl rfl (pc' := 497) rfl ?_
      refine G_iconst X277 hx (hb hby at_497) (z := 4) rfl (pc' := 498) rfl ?_
      refine Goes.step (S' := T277.setTop (mkF m 499 #[.val (.int p0), .val (.int p1), .val (.int p2), .val (.int p3), .val (.int p4), .val (.int p5), .val (.int (0 : Int32)), .val (.int (1 : Int32)), .val (.long v8_34), .second, .val (.int (13 : Int32)), .val (.ref b151), .val (.ref b191), .val (.int (1 : Int32)), .val (.ref r257_0), .val (.ref r277_0), .unset] [(.int y111), (.int (nar .byte y111))])) (fun _ k => own_baload X277 hx hZ rfl V287 ⟨by decide, by decide⟩ (hb hby at_498) _ k) ?_
      refine Goes.step (S' := T277.setTop (mkF m 502 #[.val (.int p0), .val (.int p1), .val (.int p2), .val (.int p3), .val (.int p4), .val (.int p5), .val (.int (0 : Int32)), .val (.int (1 : Int32)), .val (.long v8_34), .second, .val (.int (13 : Int32)), .val (.ref b151), .val (.ref b191), .val (.int (1 : Int32)), .val (.ref r257_0), .val (.ref r277_0), .unset] [])) (fun _ k => XS.icmpNo X277.here hx rfl (hb hby at_499) rfl (teq (own_hc0_499_2 p0 p1 p2 p3 p4 p5 hc4_1 hc18_2 y111 ey111)).2 k) ?_
      refine G_aload X277 hx (hb hby at_502) rfl rfl (pc' := 504) rfl ?_
      refine G_iconst X277 hx (hb hby at_504) (z := 5) rfl (pc' := 505) rfl ?_
      refine Goes.step (S' := T277.setTop (mkF m 506 #[.val (.int p0), .val (.int p1), .val (.int p2), .val (.int p3), .val (.int p4), .val (.int p5), .val (.int (0 : Int32)), .val (.int (1 : Int32)), .val (.long v8_34), .second, .val (.int (13 : Int32)), .val (.ref b151), .val (.ref b191), .val (.int (1 : Int32)), .val (.ref r257_0), .val (.ref r277_0), .unset] [(.int (nar .byte y120))])) (fun _ k => own_baload X277 hx hZ rfl P279 ⟨by decide, by decide⟩ (hb hby at_505) _ k) ?_
      refine G_aload X277 hx (hb hby at_506) rfl rfl (pc' := 508) rfl ?_
      refine G_iconst X277 hx (hb hby at_508) (z := 5) rfl (pc' := 509) rfl ?_
      refine Goes.step (S' := T277.setTop (mkF m 510 #[.val (.int p0), .val (.int p1), .val (.int p2), .val (.int p3), .val (.int p4), .val (.int p5), .val (.int (0 : Int32)), .val (.int (1 : Int32)), .val (.long v8_34), .second, .val (.int (13 : Int32)), .val (.ref b151), .val (.ref b191), .val (.int (1 : Int32)), .val (.ref r257_0), .val (.ref r277_0), .unset] [(.int y120), (.int (nar .byte y120))])) (fun _ k => own_baload X277 hx hZ rfl V287 ⟨by decide, by decide⟩ (hb hby at_509) _ k) ?_
      refine Goes.step (S' := T277.setTop (mkF m 513 #[.val (.int p0), .val (.int p1), .val (.int p2), .val (.int p3), .val (.int p4), .val (.int p5), .val (.int (0 : Int32)), .val (.int (1 : Int32)), .val (.long v8_34), .second, .val (.int (13 : Int32)), .val (.ref b151), .val (.ref b191), .val (.int (1 : Int32)), .val (.ref r257_0), .val (.ref r277_0), .unset] [])) (fun _ k => XS.icmpNo X277.here hx rfl (hb hby at_510) rfl (teq (own_hc0_510_2 p0 p1 p2 p3 p4 p5 hc4_1 hc18_2 y120 ey120)).2 k) ?_
      refine G_aload X277 hx (hb hby at_513) rfl rfl (pc' := 515) rfl ?_
      refine G_bipush X277 hx (hb hby at_515) (z := 6) rfl (pc' := 517) rfl ?_
      refine Goes.step (S' := T277.setTop (mkF m 518 #[.val (.int p0), .val (.int p1), .val (.int p2), .val (.int p3), .val (.int p4), .val (.int p5), .val (.int (0 : Int32)), .val (.int (1 : Int32)), .val (.long v8_34), .second, .val (.int (13 : Int32)), .val (.ref b151), .val (.ref b191), .val (.int (1 : Int32)), .val (.ref r257_0), .val (.ref r277_0), .unset] [(.int (nar .byte y130))])) (fun _ k => own_baload X277 hx hZ rfl P279 ⟨by decide, by decide⟩ (hb hby at_517) _ k) ?_
      refine G_aload X277 hx (hb hby at_518) rfl rfl (pc' := 520) rfl ?_
      refine G_bipush X277 hx (hb hby at_520) (z := 6) rfl (pc' := 522) rfl ?_
      refine Goes.step (S' := T277.setTop (mkF m 523 #[.val (.int p0), .val (.int p1), .val (.int p2), .val (.int p3), .val (.int p4), .val (.int p5), .val (.int (0 : Int32)), .val (.int (1 : Int32)), .val (.long v8_34), .second, .val (.int (13 : Int32)), .val (.ref b151), .val (.ref b191), .val (.int (1 : Int32)), .val (.ref r257_0), .val (.ref r277_0), .unset] [(.int y130), (.int (nar .byte y130))])) (fun _ k => own_baload X277 hx hZ rfl V287 ⟨by decide, by decide⟩ (hb hby at_522) _ k) ?_
      refine Goes.step (S' := T277.setTop (mkF m 526 #[.val (.int p0), .val (.int p1), .val (.int p2), .val (.int p3), .val (.int p4), .val (.int p5), .val (.int (0 : Int32)), .val (.int (1 : Int32)), .val (.long v8_34), .second, .val (.int (13 : Int32)), .val (.ref b151), .val (.ref b191), .val (.int (1 : Int32)), .val (.ref r257_0), .val (.ref r277_0), .unset] [])) (fun _ k => XS.icmpNo X277.here hx rfl (hb hby at_523) rfl (teq (own_hc0_523_2 p0 p1 p2 p3 p4 p5 hc4_1 hc18_2 y130 ey130)).2 k) ?_
      refine G_aload X277 hx (hb hby at_526) rfl rfl (pc' := 528) rfl ?_
      refine G_bipush X277 hx (hb hby at_528) (z := 7) rfl (pc' := 530) rfl ?_
      refine Goes.step (S' := T277.setTop (mkF m 531 #[.val (.int p0), .val (.int p1), .val (.int p2), .val (.int p3), .val (.int p4), .val (.int p5), .val (.int (0 : Int32)), .val (.int (1 : Int32)), .val (.long v8_34), .second, .val (.int (13 : Int32)), .val (.ref b151), .val (.ref b191), .val (.int (1 : Int32)), .val (.ref r257_0), .val (.ref r277_0), .unset] [(.int (nar .byte y137))])) (fun _ k => own_baload X277 hx hZ rfl P279 ⟨by decide, by decide⟩ (hb hby at_530) _ k) ?_
      refine G_aload X277 hx (hb hby at_531) rfl rfl (pc' := 533) rfl ?_
      refine G_bipush X277 hx (hb hby at_533) (z := 7) rfl (pc' := 535) rfl ?_
      refine Goes.step (S' := T277.setTop (mkF m 536 #[.val (.int p0), .val (.int p1), .val (.int p2), .val (.int p3), .val (.int p4), .val (.int p5), .val (.int (0 : Int32)), .val (.int (1 : Int32)), .val (.long v8_34), .second, .val (.int (13 : Int32)), .val (.ref b151), .val (.ref b191), .val (.int (1 : Int32)), .val (.ref r257_0), .val (.ref r277_0), .unset] [(.int y137), (.int (nar .byte y137))])) (fun _ k => own_baload X277 hx hZ rfl V287 ⟨by decide, by decide⟩ (hb hby at_535) _ k) ?_
      refine Goes.step (S' := T277.setTop (mkF m 539 #[.val (.int p0), .val (.int p1), .val (.int p2), .val (.int p3), .val (.int p4), .val (.int p5), .val (.int (0 : Int32)), .val (.int (1 : Int32)), .val (.long v8_34), .second, .val (.int (13 : Int32)), .val (.ref b151), .val (.ref b191), .val (.int (1 : Int32)), .val (.ref r257_0), .val (.ref r277_0), .unset] [])) (fun _ k => XS.icmpNo X277.here hx rfl (hb hby at_536) rfl (teq (own_hc0_536_2 p0 p1 p2 p3 p4 p5 hc4_1 hc18_2 y137 ey137)).2 k) ?_
      refine G_aload X277 hx (hb hby at_539) rfl rfl (pc' := 541) rfl ?_
      refine G_bipush X277 hx (hb hby at_541) (z := 8) rfl (pc' := 543) rfl ?_
      refine Goes.step (S' := T277.setTop (mkF m 544 #[.val (.int p0), .val (.int p1), .val (.int p2), .val (.int p3), .val (.int p4), .val (.int p5), .val (.int (0 : Int32)), .val (.int (1 : Int32)), .val (.long v8_34), .second, .val (.int (13 : Int32)), .val (.ref b151), .val (.ref b191), .val (.int (1 : Int32)), .val (.ref r257_0), .val (.ref r277_0), .unset] [(.int (nar .byte y147))])) (fun _ k => own_baload X277 hx hZ rfl P279 ⟨by decide, by decide⟩ (hb hby at_543) _ k) ?_
      refine G_aload X277 hx (hb hby at_544) rfl rfl (pc' := 546) rfl ?_
      refine G_bipush X277 hx (hb hby at_546) (z := 8) rfl (pc' := 548) rfl ?_
      refine Goes.step (S' := T277.setTop (mkF m 549 #[.val (.int p0), .val (.int p1), .val (.int p2), .val (.int p3), .val (.int p4), .val (.int p5), .val (.int (0 : Int32)), .val (.int (1 : Int32)), .val (.long v8_34), .second, .val (.int (13 : Int32)), .val (.ref b151), .val (.ref b191), .val (.int (1 : Int32)), .val (.ref r257_0), .val (.ref r277_0), .unset] [(.int y147), (.int (nar .byte y147))])) (fun _ k => own_baload X277 hx hZ rfl V287 ⟨by decide, by decide⟩ (hb hby at_548) _ k) ?_
      refine Goes.step (S' := T277.setTop (mkF m 552 #[.val (.int p0), .val (.int p1), .val (.int p2), .val (.int p3), .val (.int p4), .val (.int p5), .val (.int (0 : Int32)), .val (.int (1 : Int32)), .val (.long v8_34), .second, .val (.int (13 : Int32)), .val (.ref b151), .val (.ref b191), .val (.int (1 : Int32)), .val (.ref r257_0), .val (.ref r277_0), .unset] [])) (fun _ k => XS.icmpNo X277.here hx rfl (hb hby at_549) rfl (teq (own_hc0_549_2 p0 p1 p2 p3 p4 p5 hc4_1 hc18_2 y147 ey147)).2 k) ?_
      refine G_aload X277 hx (hb hby at_552) rfl rfl (pc' := 554) rfl ?_
      refine G_bipush X277 hx (hb hby at_554) (z := 9) rfl (pc' := 556) rfl ?_
      refine Goes.step (S' := T277.setTop (mkF m 557 #[.val (.int p0), .val (.int p1), .val (.int p2), .val (.int p3), .val (.int p4), .val (.int p5), .val (.int (0 : Int32)), .val (.int (1 : Int32)), .val (.long v8_34), .second, .val (.int (13 : Int32)), .val (.ref b151), .val (.ref b191), .val (.int (1 : Int32)), .val (.ref r257_0), .val (.ref r277_0), .unset] [(.int (nar .byte y157))])) (fun _ k => own_baload X277 hx hZ rfl P279 ⟨by decide, by decide⟩ (hb hby at_556) _ k) ?_
      refine G_aload X277 hx (hb hby at_557) rfl rfl (pc' := 559) rfl ?_
      refine G_bipush X277 hx (hb hby at_559) (z := 9) rfl (pc' := 561) rfl ?_
      refine Goes.step (S' := T277.setTop (mkF m 562 #[.val (.int p0), .val (.int p1), .val (.int p2), .val (.int p3), .val (.int p4), .val (.int p5), .val (.int (0 : Int32)), .val (.int (1 : Int32)), .val (.long v8_34), .second, .val (.int (13 : Int32)), .val (.ref b151), .val (.ref b191), .val (.int (1 : Int32)), .val (.ref r257_0), .val (.ref r277_0), .unset] [(.int y157), (.int (nar .byte y157))])) (fun _ k => own_baload X277 hx hZ rfl V287 ⟨by decide, by decide⟩ (hb hby at_561) _ k) ?_
      refine Goes.step (S' := T277.setTop (mkF m 565 #[.val (.int p0), .val (.int p1), .val (.int p2), .val (.int p3), .val (.int p4), .val (.int p5), .val (.int (0 : Int32)), .val (.int (1 : Int32)), .val (.long v8_34), .second, .val (.int (13 : Int32)), .val (.ref b151), .val (.ref b191), .val (.int (1 : Int32)), .val (.ref r257_0), .val (.ref r277_0), .unset] [])) (fun _ k => XS.icmpNo X277.here hx rfl (hb hby at_562) rfl (teq (own_hc0_562_2 p0 p1 p2 p3 p4 p5 hc4_1 hc18_2 y157 ey157)).2 k) ?_
      refine G_aload X277 hx (hb hby at_565) rfl rfl (pc' := 567) rfl ?_
      refine G_bipush X277 hx (hb hby at_567) (z := 10) rfl (pc' := 569) rfl ?_
      refine Goes.step (S' := T277.setTop (mkF m 570 #[.val (.int p0), .val (.int p1), .val (.int p2), .val (.int p3), .val (.int p4), .val (.int p5), .val (.int (0 : Int32)), .val (.int (1 : Int32)), .val (.long v8_34), .second, .val (.int (13 : Int32)), .val (.ref b151), .val (.ref b191), .val (.int (1 : Int32)), .val (.ref r257_0), .val (.ref r277_0), .unset] [(.int (nar .byte y167))])) (fun _ k => own_baload X277 hx hZ rfl P279 ⟨by decide, by decide⟩ (hb hby at_569) _ k) ?_
      refine G_aload X277 hx (hb hby at_570) rfl rfl (pc' := 572) rfl ?_
      refine G_bipush X277 hx (hb hby at_572) (z := 10) rfl (pc' := 574) rfl ?_
      refine Goes.step (S' := T277.setTop (mkF m 575 #[.val (.int p0), .val (.int p1), .val (.int p2), .val (.int p3), .val (.int p4), .val (.int p5), .val (.int (0 : Int32)), .val (.int (1 : Int32)), .val (.long v8_34), .second, .val (.int (13 : Int32)), .val (.ref b151), .val (.ref b191), .val (.int (1 : Int32)), .val (.ref r257_0), .val (.ref r277_0), .unset] [(.int y167), (.int (nar .byte y167))])) (fun _ k => own_baload X277 hx hZ rfl V287 ⟨by decide, by decide⟩ (hb hby at_574) _ k) ?_
      refine Goes.step (S' := T277.setTop (mkF m 578 #[.val (.int p0), .val (.int p1), .val (.int p2), .val (.int p3), .val (.int p4), .val (.int p5), .val (.int (0 : Int32)), .val (.int (1 : Int32)), .val (.long v8_34), .second, .val (.int (13 : Int32)), .val (.ref b151), .val (.ref b191), .val (.int (1 : Int32)), .val (.ref r257_0), .val (.ref r277_0), .unset] [])) (fun _ k => XS.icmpNo X277.here hx rfl (hb hby at_575) rfl (teq (own_hc0_575_2 p0 p1 p2 p3 p4 p5 hc4_1 hc18_2 y167 ey167)).2 k) ?_
      refine G_aload X277 hx (hb hby at_578) rfl rfl (pc' := 580) rfl ?_
      refine G_bipush X277 hx (hb hby at_580) (z := 11) rfl (pc' := 582) rfl ?_
      refine Goes.step (S' := T277.setTop (mkF m 583 #[.val (.int p0), .val (.int p1), .val (.int p2), .val (.int p3), .val (.int p4), .val (.int p5), .val (.int (0 : Int32)), .val (.int (1 : Int32)), .val (.long v8_34), .second, .val (.int (13 : Int32)), .val (.ref b151), .val (.ref b191), .val (.int (1 : Int32)), .val (.ref r257_0), .val (.ref r277_0), .unset] [(.int (nar .byte y174))])) (fun _ k => own_baload X277 hx hZ rfl P279 ⟨by decide, by decide⟩ (hb hby at_582) _ k) ?_
      refine G_aload X277 hx (hb hby at_583) rfl rfl (pc' := 585) rfl ?_
      refine G_bipush X277 hx (hb hby at_585) (z := 11) rfl (pc' := 587) rfl ?_
      refine Goes.step (S' := T277.setTop (mkF m 588 #[.val (.int p0), .val (.int p1), .val (.int p2), .val (.int p3), .val (.int p4), .val (.int p5), .val (.int (0 : Int32)), .val (.int (1 : Int32)), .val (.long v8_34), .second, .val (.int (13 : Int32)), .val (.ref b151), .val (.ref b191), .val (.int (1 : Int32)), .val (.ref r257_0), .val (.ref r277_0), .unset] [(.int y174), (.int (nar .byte y174))])) (fun _ k => own_baload X277 hx hZ rfl V287 ⟨by decide, by decide⟩ (hb hby at_587) _ k) ?_
      refine Goes.step (S' := T277.setTop (mkF m 591 #[.val (.int p0), .val (.int p1), .val (.int p2), .val (.int p3), .val (.int p4), .val (.int p5), .val (.int (0 : Int32)), .val (.int (1 : Int32)), .val (.long v8_34), .second, .val (.int (13 : Int32)), .val (.ref b151), .val (.ref b191), .val (.int (1 : Int32)), .val (.ref r257_0), .val (.ref r277_0), .unset] [])) (fun _ k => XS.icmpNo X277.here hx rfl (hb hby at_588) rfl (teq (own_hc0_588_2 p0 p1 p2 p3 p4 p5 hc4_1 hc18_2 y174 ey174)).2 k) ?_
      refine G_iconst X277 hx (hb hby at_591) (z := 1) rfl (pc' := 592) rfl ?_
      refine Goes.step (S' := T277.setTop (mkF m 596 #[.val (.int p0), .val (.int p1), .val (.int p2), .val (.int p3), .val (.int p4), .val (.int p5), .val (.int (0 : Int32)), .val (.int (1 : Int32)), .val (.long v8_34), .second, .val (.int (13 : Int32)), .val (.ref b151), .val (.ref b191), .val (.int (1 : Int32)), .val (.ref r257_0), .val (.ref r277_0), .unset] [(.int (1 : Int32))])) (fun _ k => XS.goto X277.here hx rfl (pc0 := 592) (pc' := 596) rfl (hb hby at_592) (by decide) (by decide) k) ?_
      refine Goes.step (S' := T277.setTop (mkF m 598 #[.val (.int p0), .val (.int p1), .val (.int p2), .val (.int p3), .val (.int p4), .val (.int p5), .val (.int (0 : Int32)), .val (.int (1 : Int32)), .val (.long v8_34), .second, .val (.int (13 : Int32)), .val (.ref b151), .val (.ref b191), .val (.int (1 : Int32)), .val (.ref r257_0), .val (.ref r277_0), .val (.int (1 : Int32))] [])) (fun _ k => XS.istore X277.here hx rfl (hb hby at_596) rfl (l' := #[.val (.int p0), .val (.int p1), .val (.int p2), .val (.int p3), .val (.int p4), .val (.int p5), .val (.int (0 : Int32)), .val (.int (1 : Int32)), .val (.long v8_34), .second, .val (.int (13 : Int32)), .val (.ref b151), .val (.ref b191), .val (.int (1 : Int32)), .val (.ref r257_0), .val (.ref r277_0), .val (.int (1 : Int32))]) rfl k) ?_
      refine G_aload X277 hx (hb hby at_598) rfl rfl (pc' := 600) rfl ?_
      obtain ⟨cq295, kq295, q295a, q295b, q295c⟩ := isOf hZ rfl E_290
      obtain ⟨_, _, ⟨T295, L295, k295, n295⟩, -, X295, ⟨Lc295, hQ295, l295, y295, z295⟩, st295⟩ := X277.virtualBack hx (y := (⟨"com/example/isopod/isopod/RecordHeader", "version", "()I"⟩ : MethodName)) (z := (⟨"com/example/isopod/isopod/RecordHeader", "version", "()I"⟩ : MethodName)) hown (mvT hZ (hw _ (List.mem_of_getElem? (i := 56) rfl))) (mvT hZ (hw _ (List.mem_of_getElem? (i := 57) rfl))) (notFace_of_selects (args := #[]) (mvT hZ (hw _ (List.mem_of_getElem? (i := 59) rfl)))) (mvT hZ (hw _ (List.mem_of_getElem? (i := 59) rfl))) (mvT hZ (hw _ (List.mem_of_getElem? (i := 58) rfl))) (by decide) (backOf (W := 0) (rm10 l Z a0 hw [] r257_0 ((1 : Int32)) ((0 : Int64)) T277.heap n0 Z294 E_290 F293 F291) hZ (hw _ (List.mem_of_getElem? (i := 60) rfl)) (hw _ (List.mem_of_getElem? (i := 4) rfl)) (by decide) (by decide)) q295a q295c (g := (mkF m 600 #[.val (.int p0), .val (.int p1), .val (.int p2), .val (.int p3), .val (.int p4), .val (.int p5), .val (.int (0 : Int32)), .val (.int (1 : Int32)), .val (.long v8_34), .second, .val (.int (13 : Int32)), .val (.ref b151), .val (.ref b191), .val (.int (1 : Int32)), .val (.ref r257_0), .val (.ref r277_0), .val (.int (1 : Int32))] [(.ref r257_0)])) rfl (by rw [hml]; rfl) (Steps.refl _) (argsL := []) (rest := []) (lenOf pd7 rfl) rfl (by show 2 * 0 + _ ≤ _; exact Nat.le_of_eq rfl) (hb hby at_600) (fun _ _ => ⟨rfl, rfl, (by decide : 5 + 0 ≤ _), (by decide : 68 + 0 ≤ _)⟩)
      dsimp only [Pt.U, Pt.locs, Pt.cells, Pt.slots] at X295 l295 y295 z295 st295 hQ295
      replace X295 := X295.more (Nat.le_of_eq (y295 : k295 = 5)) (Nat.le_of_eq (z295 : n295 = 68))
      obtain ⟨rfl, N295q, e295⟩ := hQ295
      have N296 := own_frapp l295 N281 N295q
      refine Goes.step (S' := T295.setTop (mkF m 603 #[.val (.int p0), .val (.int p1), .val (.int p2), .val (.int p3), .val (.int p4), .val (.int p5), .val (.int (0 : Int32)), .val (.int (1 : Int32)), .val (.long v8_34), .second, .val (.int (13 : Int32)), .val (.ref b151), .val (.ref b191), .val (.int (1 : Int32)), .val (.ref r257_0), .val (.ref r277_0), .val (.int (1 : Int32))] [(.int (f10 (1 : Int32) (0 : Int64)))])) (fun _ k => st295.trans k) ?_
      refine G_iload X295 hx (hb hby at_603) rfl (pc' := 605) rfl ?_
      refine Goes.step (S' := T295.setTop (mkF m 612 #[.val (.int p0), .val (.int p1), .val (.int p2), .val (.int p3), .val (.int p4), .val (.int p5), .val (.int (0 : Int32)), .val (.int (1 : Int32)), .val (.long v8_34), .second, .val (.int (13 : Int32)), .val (.ref b151), .val (.ref b191), .val (.int (1 : Int32)), .val (.ref r257_0), .val (.ref r277_0), .val (.int (1 : Int32))] [(.int (f10 (1 : Int32) (0 : Int64)))])) (fun _ k => XS.ifYes X295.here hx rfl (pc0 := 605) (pc' := 612) rfl (hb hby at_605) rfl ((if0 _ _).trans (teq (rfl : (0 : Int32) = (0 : Int32))).1) (by decide) (by decide) k) ?_
      refine G_iconst X295 hx (hb hby at_612) (z := 1) rfl (pc' := 613) rfl ?_
      refine Goes.step (S' := T295.setTop (mkF m 616 #[.val (.int p0), .val (.int p1), .val (.int p2), .val (.int p3), .val (.int p4), .val (.int p5), .val (.int (0 : Int32)), .val (.int (1 : Int32)), .val (.long v8_34), .second, .val (.int (13 : Int32)), .val (.ref b151), .val (.ref b191), .val (.int (1 : Int32)), .val (.ref r257_0), .val (.ref r277_0), .val (.int (1 : Int32))] [])) (fun _ k => XS.icmpNo X295.here hx rfl (hb hby at_613) rfl (teq (own_hc0_613_2 p0 p1 p2 p3 p4 p5 hc4_1 hc18_2)).2 k) ?_
      refine G_aload X295 hx (hb hby at_616) rfl rfl (pc' := 618) rfl ?_
      obtain ⟨cq297, kq297, q297a, q297b, q297c⟩ := isOf hZ e295 E_290
      obtain ⟨_, _, ⟨T297, L297, k297, n297⟩, -, X297, ⟨Lc297, hQ297, l297, y297, z297⟩, st297⟩ := X295.virtualBack hx (y := (⟨"com/example/isopod/isopod/RecordHeader", "generation", "()J"⟩ : MethodName)) (z := (⟨"com/example/isopod/isopod/RecordHeader", "generation", "()J"⟩ : MethodName)) hown (mvT hZ (hw _ (List.mem_of_getElem? (i := 61) rfl))) (mvT hZ (hw _ (List.mem_of_getElem? (i := 62) rfl))) (notFace_of_selects (args := #[]) (mvT hZ (hw _ (List.mem_of_getElem? (i := 64) rfl)))) (mvT hZ (hw _ (List.mem_of_getElem? (i := 64) rfl))) (mvT hZ (hw _ (List.mem_of_getElem? (i := 63) rfl))) (by decide) (backOf (W := 0) (rm11 l Z a0 hw [] r257_0 ((1 : Int32)) ((0 : Int64)) T277.heap n0 Z294 E_290 F293 F291) hZ (hw _ (List.mem_of_getElem? (i := 65) rfl)) (hw _ (List.mem_of_getElem? (i := 4) rfl)) (by decide) (by decide)) q297a q297c (g := (mkF m 618 #[.val (.int p0), .val (.int p1), .val (.int p2), .val (.int p3), .val (.int p4), .val (.int p5), .val (.int (0 : Int32)), .val (.int (1 : Int32)), .val (.long v8_34), .second, .val (.int (13 : Int32)), .val (.ref b151), .val (.ref b191), .val (.int (1 : Int32)), .val (.ref r257_0), .val (.ref r277_0), .val (.int (1 : Int32))] [(.ref r257_0)])) rfl (by rw [hml]; rfl) (Steps.refl _) (argsL := []) (rest := []) (lenOf pd8 rfl) rfl (by show 2 * 0 + _ ≤ _; exact Nat.le_of_eq rfl) (hb hby at_618) (fun _ _ => ⟨rfl, e295, (by decide : 5 + 0 ≤ _), (by decide : 68 + 0 ≤ _)⟩)
      dsimp only [Pt.U, Pt.locs, Pt.cells, Pt.slots] at X297 l297 y297 z297 st297 hQ297
      replace X297 := X297.more (Nat.le_of_eq (y297 : k297 = 5)) (Nat.le_of_eq (z297 : n297 = 68))
      obtain ⟨rfl, N297q, e297⟩ := hQ297
      have N298 := own_frapp l297 N296 N297q
      refine Goes.step (S' := T297.setTop (mkF m 621 #[.val (.int p0), .val (.int p1), .val (.int p2), .val (.int p3), .val (.int p4), .val (.int p5), .val (.int (0 : Int32)), .val (.int (1 : Int32)), .val (.long v8_34), .second, .val (.int (13 : Int32)), .val (.ref b151), .val (.ref b191), .val (.int (1 : Int32)), .val (.ref r257_0), .val (.ref r277_0), .val (.int (1 : Int32))] [(.long (f11 (1 : Int32) (0 : Int64)))])) (fun _ k => st297.trans k) ?_
      refine G_iload X297 hx (hb hby at_621) rfl (pc' := 623) rfl ?_
      refine Goes.step (S' := T297.setTop (mkF m 631 #[.val (.int p0), .val (.int p1), .val (.int p2), .val (.int p3), .val (.int p4), .val (.int p5), .val (.int (0 : Int32)), .val (.int (1 : Int32)), .val (.long v8_34), .second, .val (.int (13 : Int32)), .val (.ref b151), .val (.ref b191), .val (.int (1 : Int32)), .val (.ref r257_0), .val (.ref r277_0), .val (.int (1 : Int32))] [(.long (f11 (1 : Int32) (0 : Int64)))])) (fun _ k => XS.ifYes X297.here hx rfl (pc0 := 623) (pc' := 631) rfl (hb hby at_623) rfl ((if0 _ _).trans (teq (rfl : (0 : Int32) = (0 : Int32))).1) (by decide) (by decide) k) ?_
      refine Goes.step (S' := T297.setTop (mkF m 632 #[.val (.int p0), .val (.int p1), .val (.int p2), .val (.int p3), .val (.int p4), .val (.int p5), .val (.int (0 : Int32)), .val (.int (1 : Int32)), .val (.long v8_34), .second, .val (.int (13 : Int32)), .val (.ref b151), .val (.ref b191), .val (.int (1 : Int32)), .val (.ref r257_0), .val (.ref r277_0), .val (.int (1 : Int32))] [(.long (0 : Int64)), (.long (f11 (1 : Int32) (0 : Int64)))])) (fun _ k => XS.lconst X297.here hx rfl (hb hby at_631) k) ?_
      refine Goes.step (S' := T297.setTop (mkF m 633 #[.val (.int p0), .val (.int p1), .val (.int p2), .val (.int p3), .val (.int p4), .val (.int p5), .val (.int (0 : Int32)), .val (.int (1 : Int32)), .val (.long v8_34), .second, .val (.int (13 : Int32)), .val (.ref b151), .val (.ref b191), .val (.int (1 : Int32)), .val (.ref r257_0), .val (.ref r277_0), .val (.int (1 : Int32))] [(.int (lcmpW (f11 (1 : Int32) (0 : Int64)) (0 : Int64)))])) (fun _ k => XS.lcmp X297.here hx rfl (hb hby at_632) rfl k) ?_
      refine Goes.step (S' := T297.setTop (mkF m 636 #[.val (.int p0), .val (.int p1), .val (.int p2), .val (.int p3), .val (.int p4), .val (.int p5), .val (.int (0 : Int32)), .val (.int (1 : Int32)), .val (.long v8_34), .second, .val (.int (13 : Int32)), .val (.ref b151), .val (.ref b191), .val (.int (1 : Int32)), .val (.ref r257_0), .val (.ref r277_0), .val (.int (1 : Int32))] [])) (fun _ k => XS.ifNo X297.here hx rfl (hb hby at_633) rfl ((if0 _ _).trans (teq ((lw_eq (f11 (1 : Int32) (0 : Int64)) (0 : Int64)).mpr (own_hc0_633_2 p0 p1 p2 p3 p4 p5 hc4_1 hc18_2))).2) k) ?_
      refine G_aload X297 hx (hb hby at_636) rfl rfl (pc' := 638) rfl ?_
      obtain ⟨cq299, kq299, q299a, q299b, q299c⟩ := isOf hZ e297 E_290
      obtain ⟨_, _, ⟨T299, L299, k299, n299⟩, -, X299, ⟨Lc299, hQ299, l299, y299, z299⟩, st299⟩ := X297.virtualBack hx (y := (⟨"com/example/isopod/isopod/RecordHeader", "length", "()I"⟩ : MethodName)) (z := (⟨"com/example/isopod/isopod/RecordHeader", "length", "()I"⟩ : MethodName)) hown (mvT hZ (hw _ (List.mem_of_getElem? (i := 66) rfl))) (mvT hZ (hw _ (List.mem_of_getElem? (i := 67) rfl))) (notFace_of_selects (args := #[]) (mvT hZ (hw _ (List.mem_of_getElem? (i := 69) rfl)))) (mvT hZ (hw _ (List.mem_of_getElem? (i := 69) rfl))) (mvT hZ (hw _ (List.mem_of_getElem? (i := 68) rfl))) (by decide) (backOf (W := 0) (rm12 l Z a0 hw [] r257_0 ((1 : Int32)) T277.heap n0 Z294 E_290 F293) hZ (hw _ (List.mem_of_getElem? (i := 70) rfl)) (hw _ (List.mem_of_getElem? (i := 4) rfl)) (by decide) (by decide)) q299a q299c (g := (mkF m 638 #[.val (.int p0), .val (.int p1), .val (.int p2), .val (.int p3), .val (.int p4), .val (.int p5), .val (.int (0 : Int32)), .val (.int (1 : Int32)), .val (.long v8_34), .second, .val (.int (13 : Int32)), .val (.ref b151), .val (.ref b191), .val (.int (1 : Int32)), .val (.ref r257_0), .val (.ref r277_0), .val (.int (1 : Int32))] [(.ref r257_0)])) rfl (by rw [hml]; rfl) (Steps.refl _) (argsL := []) (rest := []) (lenOf pd7 rfl) rfl (by show 2 * 0 + _ ≤ _; exact Nat.le_of_eq rfl) (hb hby at_638) (fun _ _ => ⟨rfl, e297, (by decide : 5 + 0 ≤ _), (by decide : 68 + 0 ≤ _)⟩)
      dsimp only [Pt.U, Pt.locs, Pt.cells, Pt.slots] at X299 l299 y299 z299 st299 hQ299
      replace X299 := X299.more (Nat.le_of_eq (y299 : k299 = 5)) (Nat.le_of_eq (z299 : n299 = 68))
      obtain ⟨rfl, N299q, e299⟩ := hQ299
      have N300 := own_frapp l299 N298 N299q
      refine Goes.step (S' := T299.setTop (mkF m 641 #[.val (.int p0), .val (.int p1), .val (.int p2), .val (.int p3), .val (.int p4), .val (.int p5), .val (.int (0 : Int32)), .val (.int (1 : Int32)), .val (.long v8_34), .second, .val (.int (13 : Int32)), .val (.ref b151), .val (.ref b191), .val (.int (1 : Int32)), .val (.ref r257_0), .val (.ref r277_0), .val (.int (1 : Int32))] [(.int (f12 (1 : Int32)))])) (fun _ k => st299.trans k) ?_
      refine G_iload X299 hx (hb hby at_641) rfl (pc' := 643) rfl ?_
      refine Goes.step (S' := T299.setTop (mkF m 646 #[.val (.int p0), .val (.int p1), .val (.int p2), .val (.int p3), .val (.int p4), .val (.int p5), .val (.int (0 : Int32)), .val (.int (1 : Int32)), .val (.long v8_34), .second, .val (.int (13 : Int32)), .val (.ref b151), .val (.ref b191), .val (.int (1 : Int32)), .val (.ref r257_0), .val (.ref r277_0), .val (.int (1 : Int32))] [])) (fun _ k => XS.icmpNo X299.here hx rfl (hb hby at_643) rfl (teq (own_hc0_643_2 p0 p1 p2 p3 p4 p5 hc4_1 hc18_2)).2 k) ?_
      refine G_iload X299 hx (hb hby at_646) rfl (pc' := 648) rfl ?_
      refine Goes.step (S' := T299.setTop (mkF m 651 #[.val (.int p0), .val (.int p1), .val (.int p2), .val (.int p3), .val (.int p4), .val (.int p5), .val (.int (0 : Int32)), .val (.int (1 : Int32)), .val (.long v8_34), .second, .val (.int (13 : Int32)), .val (.ref b151), .val (.ref b191), .val (.int (1 : Int32)), .val (.ref r257_0), .val (.ref r277_0), .val (.int (1 : Int32))] [])) (fun _ k => XS.ifNo X299.here hx rfl (hb hby at_648) rfl ((if0 _ _).trans (feq (by decide)).1) k) ?_
      refine G_iconst X299 hx (hb hby at_651) (z := 1) rfl (pc' := 652) rfl ?_
      refine Goes.step (S' := T299.setTop (mkF m 656 #[.val (.int p0), .val (.int p1), .val (.int p2), .val (.int p3), .val (.int p4), .val (.int p5), .val (.int (0 : Int32)), .val (.int (1 : Int32)), .val (.long v8_34), .second, .val (.int (13 : Int32)), .val (.ref b151), .val (.ref b191), .val (.int (1 : Int32)), .val (.ref r257_0), .val (.ref r277_0), .val (.int (1 : Int32))] [(.int (1 : Int32))])) (fun _ k => XS.goto X299.here hx rfl (pc0 := 652) (pc' := 656) rfl (hb hby at_652) (by decide) (by decide) k) ?_
      refine Goes.retN X299 hx Bd.notSynchronized (t := .boolean) Bd.returns (by simp) (hb hby at_656) (by decide) (by decide) ?_
      exact ⟨rfl, N300⟩
  · refine Goes.step (S' := s₁.setTop (mkF m 7 #[.val (.int p0), .val (.int p1), .val (.int p2), .val (.int p3), .val (.int p4), .val (.int p5), .unset, .unset, .unset, .unset, .unset, .unset, .unset, .unset, .unset, .unset, .unset] [])) (fun _ k => XS.ifNo X0.here hx rfl (hb hby at_4) rfl ((if0 _ _).trans (feq hc4_1).1) k) ?_
    refine G_iconst X0 hx (hb hby at_7) (z := 1) rfl (pc' := 8) rfl ?_
    refine Goes.step (S' := s₁.setTop (mkF m 12 #[.val (.int p0), .val (.int p1), .val (.int p2), .val (.int p3), .val (.int p4), .val (.int p5), .unset, .unset, .unset, .unset, .unset, .unset, .unset, .unset, .unset, .unset, .unset] [(.int (1 : Int32))])) (fun _ k => XS.goto X0.here hx rfl (pc0 := 8) (pc' := 12) rfl (hb hby at_8) (by decide) (by decide) k) ?_
    refine Goes.step (S' := s₁.setTop (mkF m 14 #[.val (.int p0), .val (.int p1), .val (.int p2), .val (.int p3), .val (.int p4), .val (.int p5), .val (.int (1 : Int32)), .unset, .unset, .unset, .unset, .unset, .unset, .unset, .unset, .unset, .unset] [])) (fun _ k => XS.istore X0.here hx rfl (hb hby at_12) rfl (l' := #[.val (.int p0), .val (.int p1), .val (.int p2), .val (.int p3), .val (.int p4), .val (.int p5), .val (.int (1 : Int32)), .unset, .unset, .unset, .unset, .unset, .unset, .unset, .unset, .unset, .unset]) rfl k) ?_
    refine G_iload X0 hx (hb hby at_14) rfl (pc' := 16) rfl ?_
    refine G_iconst X0 hx (hb hby at_16) (z := 2) rfl (pc' := 17) rfl ?_
    refine Goes.step (S' := s₁.setTop (mkF m 18 #[.val (.int p0), .val (.int p1), .val (.int p2), .val (.int p3), .val (.int p4), .val (.int p5), .val (.int (1 : Int32)), .unset, .unset, .unset, .unset, .unset, .unset, .unset, .unset, .unset, .unset] [(.int (p4 &&& (2 : Int32)))])) (fun _ k => XS.iand X0.here hx rfl (hb hby at_17) rfl k) ?_
    by_cases hc18_3 : (p4 &&& (2 : Int32)) = (0 : Int32)
    · refine Goes.step (S' := s₁.setTop (mkF m 25 #[.val (.int p0), .val (.int p1), .val (.int p2), .val (.int p3), .val (.int p4), .val (.int p5), .val (.int (1 : Int32)), .unset, .unset, .unset, .unset, .unset, .unset, .unset, .unset, .unset, .unset] [])) (fun _ k => XS.ifYes X0.here hx rfl (pc0 := 18) (pc' := 25) rfl (hb hby at_18) rfl ((if0 _ _).trans (teq hc18_3).1) (by decide) (by decide) k) ?_
      refine G_iconst X0 hx (hb hby at_25) (z := 0) rfl (pc' := 26) rfl ?_
      refine Goes.step (S' := s₁.setTop (mkF m 28 #[.val (.int p0), .val (.int p1), .val (.int p2), .val (.int p3), .val (.int p4), .val (.int p5), .val (.int (1 : Int32)), .val (.int (0 : Int32)), .unset, .unset, .unset, .unset, .unset, .unset, .unset, .unset, .unset] [])) (fun _ k => XS.istore X0.here hx rfl (hb hby at_26) rfl (l' := #[.val (.int p0), .val (.int p1), .val (.int p2), .val (.int p3), .val (.int p4), .val (.int p5), .val (.int (1 : Int32)), .val (.int (0 : Int32)), .unset, .unset, .unset, .unset, .unset, .unset, .unset, .unset, .unset]) rfl k) ?_
      refine G_iloadN X0 hx (hb hby at_28) rfl (pc' := 29) rfl ?_
      refine Goes.step (S' := s₁.setTop (mkF m 30 #[.val (.int p0), .val (.int p1), .val (.int p2), .val (.int p3), .val (.int p4), .val (.int p5), .val (.int (1 : Int32)), .val (.int (0 : Int32)), .unset, .unset, .unset, .unset, .unset, .unset, .unset, .unset, .unset] [(.long (p0.toInt64))])) (fun _ k => XS.i2l X0.here hx rfl (hb hby at_29) rfl k) ?_
      refine Goes.step (S' := s₁.setTop (mkF m 33 #[.val (.int p0), .val (.int p1), .val (.int p2), .val (.int p3), .val (.int p4), .val (.int p5), .val (.int (1 : Int32)), .val (.int (0 : Int32)), .unset, .unset, .unset, .unset, .unset, .unset, .unset, .unset, .unset] [(.long (4294967295 : Int64)), (.long (p0.toInt64))])) (fun _ k => X0.ldc2Long hx hown (mvT hZ (hw _ (List.mem_of_getElem? (i := 0) rfl))) (g := (mkF m 30 #[.val (.int p0), .val (.int p1), .val (.int p2), .val (.int p3), .val (.int p4), .val (.int p5), .val (.int (1 : Int32)), .val (.int (0 : Int32)), .unset, .unset, .unset, .unset, .unset, .unset, .unset, .unset, .unset] [(.long (p0.toInt64))])) rfl (hb hby at_30) _ k) ?_
      refine Goes.step (S' := s₁.setTop (mkF m 34 #[.val (.int p0), .val (.int p1), .val (.int p2), .val (.int p3), .val (.int p4), .val (.int p5), .val (.int (1 : Int32)), .val (.int (0 : Int32)), .unset, .unset, .unset, .unset, .unset, .unset, .unset, .unset, .unset] [(.long ((p0.toInt64) &&& (4294967295 : Int64)))])) (fun _ k => XS.land X0.here hx rfl (hb hby at_33) rfl k) ?_
      refine Goes.step (S' := s₁.setTop (mkF m 36 #[.val (.int p0), .val (.int p1), .val (.int p2), .val (.int p3), .val (.int p4), .val (.int p5), .val (.int (1 : Int32)), .val (.int (0 : Int32)), .val (.long ((p0.toInt64) &&& (4294967295 : Int64))), .second, .unset, .unset, .unset, .unset, .unset, .unset, .unset] [])) (fun _ k => XS.lstore X0.here hx rfl (hb hby at_34) rfl (l' := #[.val (.int p0), .val (.int p1), .val (.int p2), .val (.int p3), .val (.int p4), .val (.int p5), .val (.int (1 : Int32)), .val (.int (0 : Int32)), .val (.long ((p0.toInt64) &&& (4294967295 : Int64))), .second, .unset, .unset, .unset, .unset, .unset, .unset, .unset]) rfl k) ?_
      obtain ⟨v8_34, ev8_34⟩ : ∃ z : Int64, z = ((p0.toInt64) &&& (4294967295 : Int64)) := ⟨_, rfl⟩
      rw [← ev8_34]
      refine G_iload X0 hx (hb hby at_36) rfl (pc' := 38) rfl ?_
      refine Goes.step (S' := s₁.setTop (mkF m 41 #[.val (.int p0), .val (.int p1), .val (.int p2), .val (.int p3), .val (.int p4), .val (.int p5), .val (.int (1 : Int32)), .val (.int (0 : Int32)), .val (.long v8_34), .second, .unset, .unset, .unset, .unset, .unset, .unset, .unset] [])) (fun _ k => XS.ifNo X0.here hx rfl (hb hby at_38) rfl ((if0 _ _).trans (feq (by decide)).1) k) ?_
      refine G_lload X0 hx (hb hby at_41) rfl (pc' := 43) rfl ?_
      refine Goes.step (S' := s₁.setTop (mkF m 44 #[.val (.int p0), .val (.int p1), .val (.int p2), .val (.int p3), .val (.int p4), .val (.int p5), .val (.int (1 : Int32)), .val (.int (0 : Int32)), .val (.long v8_34), .second, .unset, .unset, .unset, .unset, .unset, .unset, .unset] [(.long (0 : Int64)), (.long v8_34)])) (fun _ k => XS.lconst X0.here hx rfl (hb hby at_43) k) ?_
      refine Goes.step (S' := s₁.setTop (mkF m 45 #[.val (.int p0), .val (.int p1), .val (.int p2), .val (.int p3), .val (.int p4), .val (.int p5), .val (.int (1 : Int32)), .val (.int (0 : Int32)), .val (.long v8_34), .second, .unset, .unset, .unset, .unset, .unset, .unset, .unset] [(.int (lcmpW v8_34 (0 : Int64)))])) (fun _ k => XS.lcmp X0.here hx rfl (hb hby at_44) rfl k) ?_
      by_cases hc45_4 : v8_34 = (0 : Int64)
      · refine Goes.step (S' := s₁.setTop (mkF m 48 #[.val (.int p0), .val (.int p1), .val (.int p2), .val (.int p3), .val (.int p4), .val (.int p5), .val (.int (1 : Int32)), .val (.int (0 : Int32)), .val (.long v8_34), .second, .unset, .unset, .unset, .unset, .unset, .unset, .unset] [])) (fun _ k => XS.ifNo X0.here hx rfl (hb hby at_45) rfl ((if0 _ _).trans (teq ((lw_eq v8_34 (0 : Int64)).mpr hc45_4)).2) k) ?_
        refine G_iconst X0 hx (hb hby at_48) (z := 1) rfl (pc' := 49) rfl ?_
        refine Goes.retN X0 hx Bd.notSynchronized (t := .boolean) Bd.returns (by simp) (hb hby at_49) (by decide) (by decide) ?_
        exact ⟨rfl, N0⟩
      · refine Goes.step (S' := s₁.setTop (mkF m 50 #[.val (.int p0), .val (.int p1), .val (.int p2), .val (.int p3), .val (.int p4), .val (.int p5), .val (.int (1 : Int32)), .val (.int (0 : Int32)), .val (.long v8_34), .second, .unset, .unset, .unset, .unset, .unset, .unset, .unset] [])) (fun _ k => XS.ifYes X0.here hx rfl (pc0 := 45) (pc' := 50) rfl (hb hby at_45) rfl ((if0 _ _).trans (feq (mt (lw_eq v8_34 (0 : Int64)).mp hc45_4)).2) (by decide) (by decide) k) ?_
        refine G_iload X0 hx (hb hby at_50) rfl (pc' := 52) rfl ?_
        refine Goes.step (S' := s₁.setTop (mkF m 55 #[.val (.int p0), .val (.int p1), .val (.int p2), .val (.int p3), .val (.int p4), .val (.int p5), .val (.int (1 : Int32)), .val (.int (0 : Int32)), .val (.long v8_34), .second, .unset, .unset, .unset, .unset, .unset, .unset, .unset] [])) (fun _ k => XS.ifNo X0.here hx rfl (hb hby at_52) rfl ((if0 _ _).trans (feq (by decide)).1) k) ?_
        refine G_bipush X0 hx (hb hby at_55) (z := 17) rfl (pc' := 57) rfl ?_
        refine Goes.step (S' := s₁.setTop (mkF m 62 #[.val (.int p0), .val (.int p1), .val (.int p2), .val (.int p3), .val (.int p4), .val (.int p5), .val (.int (1 : Int32)), .val (.int (0 : Int32)), .val (.long v8_34), .second, .unset, .unset, .unset, .unset, .unset, .unset, .unset] [(.int (17 : Int32))])) (fun _ k => XS.goto X0.here hx rfl (pc0 := 57) (pc' := 62) rfl (hb hby at_57) (by decide) (by decide) k) ?_
        refine Goes.step (S' := s₁.setTop (mkF m 64 #[.val (.int p0), .val (.int p1), .val (.int p2), .val (.int p3), .val (.int p4), .val (.int p5), .val (.int (1 : Int32)), .val (.int (0 : Int32)), .val (.long v8_34), .second, .val (.int (17 : Int32)), .unset, .unset, .unset, .unset, .unset, .unset] [])) (fun _ k => XS.istore X0.here hx rfl (hb hby at_62) rfl (l' := #[.val (.int p0), .val (.int p1), .val (.int p2), .val (.int p3), .val (.int p4), .val (.int p5), .val (.int (1 : Int32)), .val (.int (0 : Int32)), .val (.long v8_34), .second, .val (.int (17 : Int32)), .unset, .unset, .unset, .unset, .unset, .unset]) rfl k) ?_
        refine G_bipush X0 hx (hb hby at_64) (z := 12) rfl (pc' := 66) rfl ?_
        obtain ⟨T301, h301, k301, X301, e301, E301, A301, hk301, st301⟩ := own_newB X0 hx hZ (hw _ (List.mem_of_getElem? (i := 1) rfl)) e0 (g := (mkF m 66 #[.val (.int p0), .val (.int p1), .val (.int p2), .val (.int p3), .val (.int p4), .val (.int p5), .val (.int (1 : Int32)), .val (.int (0 : Int32)), .val (.long v8_34), .second, .val (.int (17 : Int32)), .unset, .unset, .unset, .unset, .unset, .unset] [(.int (12 : Int32))])) rfl (hb hby at_66) rfl (by decide) (cap := 12) (by decide) (by decide) (by decide) (by decide)
        obtain ⟨b301, g301⟩ : ∃ z, z = h0.size := ⟨_, rfl⟩
        rw [← g301] at A301 st301
        have g302 : n0 ≤ b301 := Nat.le_trans Z0 (Nat.le_of_eq g301.symm)
        have Z303 : n0 ≤ h301.size := Nat.le_trans Z0 E301.1
        have V304 : AI Z h301 b301 k301 .byte (12 : Int32) [(0 : Int32), (0 : Int32), (0 : Int32), (0 : Int32), (0 : Int32), (0 : Int32), (0 : Int32), (0 : Int32), (0 : Int32), (0 : Int32), (0 : Int32), (0 : Int32)] := own_new A301 (by decide) rfl
        refine Goes.step (S' := T301.setTop (mkF m 68 #[.val (.int p0), .val (.int p1), .val (.int p2), .val (.int p3), .val (.int p4), .val (.int p5), .val (.int (1 : Int32)), .val (.int (0 : Int32)), .val (.long v8_34), .second, .val (.int (17 : Int32)), .unset, .unset, .unset, .unset, .unset, .unset] [(.ref b301)])) st301 ?_
        refine Goes.step (S' := T301.setTop (mkF m 70 #[.val (.int p0), .val (.int p1), .val (.int p2), .val (.int p3), .val (.int p4), .val (.int p5), .val (.int (1 : Int32)), .val (.int (0 : Int32)), .val (.long v8_34), .second, .val (.int (17 : Int32)), .val (.ref b301), .unset, .unset, .unset, .unset, .unset] [])) (fun _ k => XS.astore X301.here hx rfl (hb hby at_68) rfl rfl (l' := #[.val (.int p0), .val (.int p1), .val (.int p2), .val (.int p3), .val (.int p4), .val (.int p5), .val (.int (1 : Int32)), .val (.int (0 : Int32)), .val (.long v8_34), .second, .val (.int (17 : Int32)), .val (.ref b301), .unset, .unset, .unset, .unset, .unset]) rfl k) ?_
        refine G_aload X301 hx (hb hby at_70) rfl rfl (pc' := 72) rfl ?_
        refine G_iconst X301 hx (hb hby at_72) (z := 0) rfl (pc' := 73) rfl ?_
        refine G_iloadN X301 hx (hb hby at_73) rfl (pc' := 74) rfl ?_
        refine G_bipush X301 hx (hb hby at_74) (z := 24) rfl (pc' := 76) rfl ?_
        refine G_iushr X301 hx (hb hby at_76) (pc' := 77) rfl ?_
        refine G_i2b X301 hx (hb hby at_77) (pc' := 78) rfl ?_
        obtain ⟨T305, h305, X305, e305, W305, V_305, st305⟩ := own_bastore X301 hx hZ e301 V304 ⟨by decide, by decide⟩ (g := (mkF m 78 #[.val (.int p0), .val (.int p1), .val (.int p2), .val (.int p3), .val (.int p4), .val (.int p5), .val (.int (1 : Int32)), .val (.int (0 : Int32)), .val (.long v8_34), .second, .val (.int (17 : Int32)), .val (.ref b301), .unset, .unset, .unset, .unset, .unset] [(.int (((p1.toUInt32 >>> ((24 : Int32) &&& 31).toUInt32).toInt32).toInt8.toInt32)), (.int (0 : Int32)), (.ref b301)])) rfl rfl (hb hby at_78)
        obtain ⟨y78, ey78⟩ : ∃ z : Int32, z = (nar .byte (((p1.toUInt32 >>> ((24 : Int32) &&& 31).toUInt32).toInt32).toInt8.toInt32)) := ⟨_, rfl⟩
        replace V_305 : AI Z h305 b301 k301 .byte (12 : Int32) [y78, (0 : Int32), (0 : Int32), (0 : Int32), (0 : Int32), (0 : Int32), (0 : Int32), (0 : Int32), (0 : Int32), (0 : Int32), (0 : Int32), (0 : Int32)] := by rw [ey78]; exact V_305
        have N306 := Fr.snoc X305 N0 g302
        have Z307 : n0 ≤ h305.size := Nat.le_trans Z303 (Nat.le_of_eq W305.size.symm)
        refine Goes.step (S' := T305.setTop (mkF m 79 #[.val (.int p0), .val (.int p1), .val (.int p2), .val (.int p3), .val (.int p4), .val (.int p5), .val (.int (1 : Int32)), .val (.int (0 : Int32)), .val (.long v8_34), .second, .val (.int (17 : Int32)), .val (.ref b301), .unset, .unset, .unset, .unset, .unset] [])) st305 ?_
        refine G_aload X305 hx (hb hby at_79) rfl rfl (pc' := 81) rfl ?_
        refine G_iconst X305 hx (hb hby at_81) (z := 1) rfl (pc' := 82) rfl ?_
        refine G_iloadN X305 hx (hb hby at_82) rfl (pc' := 83) rfl ?_
        refine G_bipush X305 hx (hb hby at_83) (z := 16) rfl (pc' := 85) rfl ?_
        refine G_iushr X305 hx (hb hby at_85) (pc' := 86) rfl ?_
        refine G_i2b X305 hx (hb hby at_86) (pc' := 87) rfl ?_
        obtain ⟨T308, h308, X308, e308, W308, V_308, st308⟩ := own_bastore X305 hx hZ e305 V_305 ⟨by decide, by decide⟩ (g := (mkF m 87 #[.val (.int p0), .val (.int p1), .val (.int p2), .val (.int p3), .val (.int p4), .val (.int p5), .val (.int (1 : Int32)), .val (.int (0 : Int32)), .val (.long v8_34), .second, .val (.int (17 : Int32)), .val (.ref b301), .unset, .unset, .unset, .unset, .unset] [(.int (((p1.toUInt32 >>> ((16 : Int32) &&& 31).toUInt32).toInt32).toInt8.toInt32)), (.int (1 : Int32)), (.ref b301)])) rfl rfl (hb hby at_87)
        obtain ⟨y87, ey87⟩ : ∃ z : Int32, z = (nar .byte (((p1.toUInt32 >>> ((16 : Int32) &&& 31).toUInt32).toInt32).toInt8.toInt32)) := ⟨_, rfl⟩
        replace V_308 : AI Z h308 b301 k301 .byte (12 : Int32) [y78, y87, (0 : Int32), (0 : Int32), (0 : Int32), (0 : Int32), (0 : Int32), (0 : Int32), (0 : Int32), (0 : Int32), (0 : Int32), (0 : Int32)] := by rw [ey87]; exact V_308
        have N309 := Fr.snoc X308 N306 g302
        have Z310 : n0 ≤ h308.size := Nat.le_trans Z307 (Nat.le_of_eq W308.size.symm)
        refine Goes.step (S' := T308.setTop (mkF m 88 #[.val (.int p0), .val (.int p1), .val (.int p2), .val (.int p3), .val (.int p4), .val (.int p5), .val (.int (1 : Int32)), .val (.int (0 : Int32)), .val (.long v8_34), .second, .val (.int (17 : Int32)), .val (.ref b301), .unset, .unset, .unset, .unset, .unset] [])) st308 ?_
        refine G_aload X308 hx (hb hby at_88) rfl rfl (pc' := 90) rfl ?_
        refine G_iconst X308 hx (hb hby at_90) (z := 2) rfl (pc' := 91) rfl ?_
        refine G_iloadN X308 hx (hb hby at_91) rfl (pc' := 92) rfl ?_
        refine G_bipush X308 hx (hb hby at_92) (z := 8) rfl (pc' := 94) rfl ?_
        refine G_iushr X308 hx (hb hby at_94) (pc' := 95) rfl ?_
        refine G_i2b X308 hx (hb hby at_95) (pc' := 96) rfl ?_
        obtain ⟨T311, h311, X311, e311, W311, V_311, st311⟩ := own_bastore X308 hx hZ e308 V_308 ⟨by decide, by decide⟩ (g := (mkF m 96 #[.val (.int p0), .val (.int p1), .val (.int p2), .val (.int p3), .val (.int p4), .val (.int p5), .val (.int (1 : Int32)), .val (.int (0 : Int32)), .val (.long v8_34), .second, .val (.int (17 : Int32)), .val (.ref b301), .unset, .unset, .unset, .unset, .unset] [(.int (((p1.toUInt32 >>> ((8 : Int32) &&& 31).toUInt32).toInt32).toInt8.toInt32)), (.int (2 : Int32)), (.ref b301)])) rfl rfl (hb hby at_96)
        obtain ⟨y96, ey96⟩ : ∃ z : Int32, z = (nar .byte (((p1.toUInt32 >>> ((8 : Int32) &&& 31).toUInt32).toInt32).toInt8.toInt32)) := ⟨_, rfl⟩
        replace V_311 : AI Z h311 b301 k301 .byte (12 : Int32) [y78, y87, y96, (0 : Int32), (0 : Int32), (0 : Int32), (0 : Int32), (0 : Int32), (0 : Int32), (0 : Int32), (0 : Int32), (0 : Int32)] := by rw [ey96]; exact V_311
        have N312 := Fr.snoc X311 N309 g302
        have Z313 : n0 ≤ h311.size := Nat.le_trans Z310 (Nat.le_of_eq W311.size.symm)
        refine Goes.step (S' := T311.setTop (mkF m 97 #[.val (.int p0), .val (.int p1), .val (.int p2), .val (.int p3), .val (.int p4), .val (.int p5), .val (.int (1 : Int32)), .val (.int (0 : Int32)), .val (.long v8_34), .second, .val (.int (17 : Int32)), .val (.ref b301), .unset, .unset, .unset, .unset, .unset] [])) st311 ?_
        refine G_aload X311 hx (hb hby at_97) rfl rfl (pc' := 99) rfl ?_
        refine G_iconst X311 hx (hb hby at_99) (z := 3) rfl (pc' := 100) rfl ?_
        refine G_iloadN X311 hx (hb hby at_100) rfl (pc' := 101) rfl ?_
        refine G_i2b X311 hx (hb hby at_101) (pc' := 102) rfl ?_
        obtain ⟨T314, h314, X314, e314, W314, V_314, st314⟩ := own_bastore X311 hx hZ e311 V_311 ⟨by decide, by decide⟩ (g := (mkF m 102 #[.val (.int p0), .val (.int p1), .val (.int p2), .val (.int p3), .val (.int p4), .val (.int p5), .val (.int (1 : Int32)), .val (.int (0 : Int32)), .val (.long v8_34), .second, .val (.int (17 : Int32)), .val (.ref b301), .unset, .unset, .unset, .unset, .unset] [(.int (p1.toInt8.toInt32)), (.int (3 : Int32)), (.ref b301)])) rfl rfl (hb hby at_102)
        obtain ⟨y102, ey102⟩ : ∃ z : Int32, z = (nar .byte (p1.toInt8.toInt32)) := ⟨_, rfl⟩
        replace V_314 : AI Z h314 b301 k301 .byte (12 : Int32) [y78, y87, y96, y102, (0 : Int32), (0 : Int32), (0 : Int32), (0 : Int32), (0 : Int32), (0 : Int32), (0 : Int32), (0 : Int32)] := by rw [ey102]; exact V_314
        have N315 := Fr.snoc X314 N312 g302
        have Z316 : n0 ≤ h314.size := Nat.le_trans Z313 (Nat.le_of_eq W314.size.symm)
        refine Goes.step (S' := T314.setTop (mkF m 103 #[.val (.int p0), .val (.int p1), .val (.int p2), .val (.int p3), .val (.int p4), .val (.int p5), .val (.int (1 : Int32)), .val (.int (0 : Int32)), .val (.long v8_34), .second, .val (.int (17 : Int32)), .val (.ref b301), .unset, .unset, .unset, .unset, .unset] [])) st314 ?_
        refine G_aload X314 hx (hb hby at_103) rfl rfl (pc' := 105) rfl ?_
        refine G_iconst X314 hx (hb hby at_105) (z := 4) rfl (pc' := 106) rfl ?_
        refine G_iloadN X314 hx (hb hby at_106) rfl (pc' := 107) rfl ?_
        refine G_bipush X314 hx (hb hby at_107) (z := 24) rfl (pc' := 109) rfl ?_
        refine G_iushr X314 hx (hb hby at_109) (pc' := 110) rfl ?_
        refine G_i2b X314 hx (hb hby at_110) (pc' := 111) rfl ?_
        obtain ⟨T317, h317, X317, e317, W317, V_317, st317⟩ := own_bastore X314 hx hZ e314 V_314 ⟨by decide, by decide⟩ (g := (mkF m 111 #[.val (.int p0), .val (.int p1), .val (.int p2), .val (.int p3), .val (.int p4), .val (.int p5), .val (.int (1 : Int32)), .val (.int (0 : Int32)), .val (.long v8_34), .second, .val (.int (17 : Int32)), .val (.ref b301), .unset, .unset, .unset, .unset, .unset] [(.int (((p2.toUInt32 >>> ((24 : Int32) &&& 31).toUInt32).toInt32).toInt8.toInt32)), (.int (4 : Int32)), (.ref b301)])) rfl rfl (hb hby at_111)
        obtain ⟨y111, ey111⟩ : ∃ z : Int32, z = (nar .byte (((p2.toUInt32 >>> ((24 : Int32) &&& 31).toUInt32).toInt32).toInt8.toInt32)) := ⟨_, rfl⟩
        replace V_317 : AI Z h317 b301 k301 .byte (12 : Int32) [y78, y87, y96, y102, y111, (0 : Int32), (0 : Int32), (0 : Int32), (0 : Int32), (0 : Int32), (0 : Int32), (0 : Int32)] := by rw [ey111]; exact V_317
        have N318 := Fr.snoc X317 N315 g302
        have Z319 : n0 ≤ h317.size := Nat.le_trans Z316 (Nat.le_of_eq W317.size.symm)
        refine Goes.step (S' := T317.setTop (mkF m 112 #[.val (.int p0), .val (.int p1), .val (.int p2), .val (.int p3), .val (.int p4), .val (.int p5), .val (.int (1 : Int32)), .val (.int (0 : Int32)), .val (.long v8_34), .second, .val (.int (17 : Int32)), .val (.ref b301), .unset, .unset, .unset, .unset, .unset] [])) st317 ?_
        refine G_aload X317 hx (hb hby at_112) rfl rfl (pc' := 114) rfl ?_
        refine G_iconst X317 hx (hb hby at_114) (z := 5) rfl (pc' := 115) rfl ?_
        refine G_iloadN X317 hx (hb hby at_115) rfl (pc' := 116) rfl ?_
        refine G_bipush X317 hx (hb hby at_116) (z := 16) rfl (pc' := 118) rfl ?_
        refine G_iushr X317 hx (hb hby at_118) (pc' := 119) rfl ?_
        refine G_i2b X317 hx (hb hby at_119) (pc' := 120) rfl ?_
        obtain ⟨T320, h320, X320, e320, W320, V_320, st320⟩ := own_bastore X317 hx hZ e317 V_317 ⟨by decide, by decide⟩ (g := (mkF m 120 #[.val (.int p0), .val (.int p1), .val (.int p2), .val (.int p3), .val (.int p4), .val (.int p5), .val (.int (1 : Int32)), .val (.int (0 : Int32)), .val (.long v8_34), .second, .val (.int (17 : Int32)), .val (.ref b301), .unset, .unset, .unset, .unset, .unset] [(.int (((p2.toUInt32 >>> ((16 : Int32) &&& 31).toUInt32).toInt32).toInt8.toInt32)), (.int (5 : Int32)), (.ref b301)])) rfl rfl (hb hby at_120)
        obtain ⟨y120, ey120⟩ : ∃ z : Int32, z = (nar .byte (((p2.toUInt32 >>> ((16 : Int32) &&& 31).toUInt32).toInt32).toInt8.toInt32)) := ⟨_, rfl⟩
        replace V_320 : AI Z h320 b301 k301 .byte (12 : Int32) [y78, y87, y96, y102, y111, y120, (0 : Int32), (0 : Int32), (0 : Int32), (0 : Int32), (0 : Int32), (0 : Int32)] := by rw [ey120]; exact V_320
        have N321 := Fr.snoc X320 N318 g302
        have Z322 : n0 ≤ h320.size := Nat.le_trans Z319 (Nat.le_of_eq W320.size.symm)
        refine Goes.step (S' := T320.setTop (mkF m 121 #[.val (.int p0), .val (.int p1), .val (.int p2), .val (.int p3), .val (.int p4), .val (.int p5), .val (.int (1 : Int32)), .val (.int (0 : Int32)), .val (.long v8_34), .second, .val (.int (17 : Int32)), .val (.ref b301), .unset, .unset, .unset, .unset, .unset] [])) st320 ?_
        refine G_aload X320 hx (hb hby at_121) rfl rfl (pc' := 123) rfl ?_
        refine G_bipush X320 hx (hb hby at_123) (z := 6) rfl (pc' := 125) rfl ?_
        refine G_iloadN X320 hx (hb hby at_125) rfl (pc' := 126) rfl ?_
        refine G_bipush X320 hx (hb hby at_126) (z := 8) rfl (pc' := 128) rfl ?_
        refine G_iushr X320 hx (hb hby at_128) (pc' := 129) rfl ?_
        refine G_i2b X320 hx (hb hby at_129) (pc' := 130) rfl ?_
        obtain ⟨T323, h323, X323, e323, W323, V_323, st323⟩ := own_bastore X320 hx hZ e320 V_320 ⟨by decide, by decide⟩ (g := (mkF m 130 #[.val (.int p0), .val (.int p1), .val (.int p2), .val (.int p3), .val (.int p4), .val (.int p5), .val (.int (1 : Int32)), .val (.int (0 : Int32)), .val (.long v8_34), .second, .val (.int (17 : Int32)), .val (.ref b301), .unset, .unset, .unset, .unset, .unset] [(.int (((p2.toUInt32 >>> ((8 : Int32) &&& 31).toUInt32).toInt32).toInt8.toInt32)), (.int (6 : Int32)), (.ref b301)])) rfl rfl (hb hby at_130)
        obtain ⟨y130, ey130⟩ : ∃ z : Int32, z = (nar .byte (((p2.toUInt32 >>> ((8 : Int32) &&& 31).toUInt32).toInt32).toInt8.toInt32)) := ⟨_, rfl⟩
        replace V_323 : AI Z h323 b301 k301 .byte (12 : Int32) [y78, y87, y96, y102, y111, y120, y130, (0 : Int32), (0 : Int32), (0 : Int32), (0 : Int32), (0 : Int32)] := by rw [ey130]; exact V_323
        have N324 := Fr.snoc X323 N321 g302
        have Z325 : n0 ≤ h323.size := Nat.le_trans Z322 (Nat.le_of_eq W323.size.symm)
        refine Goes.step (S' := T323.setTop (mkF m 131 #[.val (.int p0), .val (.int p1), .val (.int p2), .val (.int p3), .val (.int p4), .val (.int p5), .val (.int (1 : Int32)), .val (.int (0 : Int32)), .val (.long v8_34), .second, .val (.int (17 : Int32)), .val (.ref b301), .unset, .unset, .unset, .unset, .unset] [])) st323 ?_
        refine G_aload X323 hx (hb hby at_131) rfl rfl (pc' := 133) rfl ?_
        refine G_bipush X323 hx (hb hby at_133) (z := 7) rfl (pc' := 135) rfl ?_
        refine G_iloadN X323 hx (hb hby at_135) rfl (pc' := 136) rfl ?_
        refine G_i2b X323 hx (hb hby at_136) (pc' := 137) rfl ?_
        obtain ⟨T326, h326, X326, e326, W326, V_326, st326⟩ := own_bastore X323 hx hZ e323 V_323 ⟨by decide, by decide⟩ (g := (mkF m 137 #[.val (.int p0), .val (.int p1), .val (.int p2), .val (.int p3), .val (.int p4), .val (.int p5), .val (.int (1 : Int32)), .val (.int (0 : Int32)), .val (.long v8_34), .second, .val (.int (17 : Int32)), .val (.ref b301), .unset, .unset, .unset, .unset, .unset] [(.int (p2.toInt8.toInt32)), (.int (7 : Int32)), (.ref b301)])) rfl rfl (hb hby at_137)
        obtain ⟨y137, ey137⟩ : ∃ z : Int32, z = (nar .byte (p2.toInt8.toInt32)) := ⟨_, rfl⟩
        replace V_326 : AI Z h326 b301 k301 .byte (12 : Int32) [y78, y87, y96, y102, y111, y120, y130, y137, (0 : Int32), (0 : Int32), (0 : Int32), (0 : Int32)] := by rw [ey137]; exact V_326
        have N327 := Fr.snoc X326 N324 g302
        have Z328 : n0 ≤ h326.size := Nat.le_trans Z325 (Nat.le_of_eq W326.size.symm)
        refine Goes.step (S' := T326.setTop (mkF m 138 #[.val (.int p0), .val (.int p1), .val (.int p2), .val (.int p3), .val (.int p4), .val (.int p5), .val (.int (1 : Int32)), .val (.int (0 : Int32)), .val (.long v8_34), .second, .val (.int (17 : Int32)), .val (.ref b301), .unset, .unset, .unset, .unset, .unset] [])) st326 ?_
        refine G_aload X326 hx (hb hby at_138) rfl rfl (pc' := 140) rfl ?_
        refine G_bipush X326 hx (hb hby at_140) (z := 8) rfl (pc' := 142) rfl ?_
        refine G_iloadN X326 hx (hb hby at_142) rfl (pc' := 143) rfl ?_
        refine G_bipush X326 hx (hb hby at_143) (z := 24) rfl (pc' := 145) rfl ?_
        refine G_iushr X326 hx (hb hby at_145) (pc' := 146) rfl ?_
        refine G_i2b X326 hx (hb hby at_146) (pc' := 147) rfl ?_
        obtain ⟨T329, h329, X329, e329, W329, V_329, st329⟩ := own_bastore X326 hx hZ e326 V_326 ⟨by decide, by decide⟩ (g := (mkF m 147 #[.val (.int p0), .val (.int p1), .val (.int p2), .val (.int p3), .val (.int p4), .val (.int p5), .val (.int (1 : Int32)), .val (.int (0 : Int32)), .val (.long v8_34), .second, .val (.int (17 : Int32)), .val (.ref b301), .unset, .unset, .unset, .unset, .unset] [(.int (((p3.toUInt32 >>> ((24 : Int32) &&& 31).toUInt32).toInt32).toInt8.toInt32)), (.int (8 : Int32)), (.ref b301)])) rfl rfl (hb hby at_147)
        obtain ⟨y147, ey147⟩ : ∃ z : Int32, z = (nar .byte (((p3.toUInt32 >>> ((24 : Int32) &&& 31).toUInt32).toInt32).toInt8.toInt32)) := ⟨_, rfl⟩
        replace V_329 : AI Z h329 b301 k301 .byte (12 : Int32) [y78, y87, y96, y102, y111, y120, y130, y137, y147, (0 : Int32), (0 : Int32), (0 : Int32)] := by rw [ey147]; exact V_329
        have N330 := Fr.snoc X329 N327 g302
        have Z331 : n0 ≤ h329.size := Nat.le_trans Z328 (Nat.le_of_eq W329.size.symm)
        refine Goes.step (S' := T329.setTop (mkF m 148 #[.val (.int p0), .val (.int p1), .val (.int p2), .val (.int p3), .val (.int p4), .val (.int p5), .val (.int (1 : Int32)), .val (.int (0 : Int32)), .val (.long v8_34), .second, .val (.int (17 : Int32)), .val (.ref b301), .unset, .unset, .unset, .unset, .unset] [])) st329 ?_
        refine G_aload X329 hx (hb hby at_148) rfl rfl (pc' := 150) rfl ?_
        refine G_bipush X329 hx (hb hby at_150) (z := 9) rfl (pc' := 152) rfl ?_
        refine G_iloadN X329 hx (hb hby at_152) rfl (pc' := 153) rfl ?_
        refine G_bipush X329 hx (hb hby at_153) (z := 16) rfl (pc' := 155) rfl ?_
        refine G_iushr X329 hx (hb hby at_155) (pc' := 156) rfl ?_
        refine G_i2b X329 hx (hb hby at_156) (pc' := 157) rfl ?_
        obtain ⟨T332, h332, X332, e332, W332, V_332, st332⟩ := own_bastore X329 hx hZ e329 V_329 ⟨by decide, by decide⟩ (g := (mkF m 157 #[.val (.int p0), .val (.int p1), .val (.int p2), .val (.int p3), .val (.int p4), .val (.int p5), .val (.int (1 : Int32)), .val (.int (0 : Int32)), .val (.long v8_34), .second, .val (.int (17 : Int32)), .val (.ref b301), .unset, .unset, .unset, .unset, .unset] [(.int (((p3.toUInt32 >>> ((16 : Int32) &&& 31).toUInt32).toInt32).toInt8.toInt32)), (.int (9 : Int32)), (.ref b301)])) rfl rfl (hb hby at_157)
        obtain ⟨y157, ey157⟩ : ∃ z : Int32, z = (nar .byte (((p3.toUInt32 >>> ((16 : Int32) &&& 31).toUInt32).toInt32).toInt8.toInt32)) := ⟨_, rfl⟩
        replace V_332 : AI Z h332 b301 k301 .byte (12 : Int32) [y78, y87, y96, y102, y111, y120, y130, y137, y147, y157, (0 : Int32), (0 : Int32)] := by rw [ey157]; exact V_332
        have N333 := Fr.snoc X332 N330 g302
        have Z334 : n0 ≤ h332.size := Nat.le_trans Z331 (Nat.le_of_eq W332.size.symm)
        refine Goes.step (S' := T332.setTop (mkF m 158 #[.val (.int p0), .val (.int p1), .val (.int p2), .val (.int p3), .val (.int p4), .val (.int p5), .val (.int (1 : Int32)), .val (.int (0 : Int32)), .val (.long v8_34), .second, .val (.int (17 : Int32)), .val (.ref b301), .unset, .unset, .unset, .unset, .unset] [])) st332 ?_
        refine G_aload X332 hx (hb hby at_158) rfl rfl (pc' := 160) rfl ?_
        refine G_bipush X332 hx (hb hby at_160) (z := 10) rfl (pc' := 162) rfl ?_
        refine G_iloadN X332 hx (hb hby at_162) rfl (pc' := 163) rfl ?_
        refine G_bipush X332 hx (hb hby at_163) (z := 8) rfl (pc' := 165) rfl ?_
        refine G_iushr X332 hx (hb hby at_165) (pc' := 166) rfl ?_
        refine G_i2b X332 hx (hb hby at_166) (pc' := 167) rfl ?_
        obtain ⟨T335, h335, X335, e335, W335, V_335, st335⟩ := own_bastore X332 hx hZ e332 V_332 ⟨by decide, by decide⟩ (g := (mkF m 167 #[.val (.int p0), .val (.int p1), .val (.int p2), .val (.int p3), .val (.int p4), .val (.int p5), .val (.int (1 : Int32)), .val (.int (0 : Int32)), .val (.long v8_34), .second, .val (.int (17 : Int32)), .val (.ref b301), .unset, .unset, .unset, .unset, .unset] [(.int (((p3.toUInt32 >>> ((8 : Int32) &&& 31).toUInt32).toInt32).toInt8.toInt32)), (.int (10 : Int32)), (.ref b301)])) rfl rfl (hb hby at_167)
        obtain ⟨y167, ey167⟩ : ∃ z : Int32, z = (nar .byte (((p3.toUInt32 >>> ((8 : Int32) &&& 31).toUInt32).toInt32).toInt8.toInt32)) := ⟨_, rfl⟩
        replace V_335 : AI Z h335 b301 k301 .byte (12 : Int32) [y78, y87, y96, y102, y111, y120, y130, y137, y147, y157, y167, (0 : Int32)] := by rw [ey167]; exact V_335
        have N336 := Fr.snoc X335 N333 g302
        have Z337 : n0 ≤ h335.size := Nat.le_trans Z334 (Nat.le_of_eq W335.size.symm)
        refine Goes.step (S' := T335.setTop (mkF m 168 #[.val (.int p0), .val (.int p1), .val (.int p2), .val (.int p3), .val (.int p4), .val (.int p5), .val (.int (1 : Int32)), .val (.int (0 : Int32)), .val (.long v8_34), .second, .val (.int (17 : Int32)), .val (.ref b301), .unset, .unset, .unset, .unset, .unset] [])) st335 ?_
        refine G_aload X335 hx (hb hby at_168) rfl rfl (pc' := 170) rfl ?_
        refine G_bipush X335 hx (hb hby at_170) (z := 11) rfl (pc' := 172) rfl ?_
        refine G_iloadN X335 hx (hb hby at_172) rfl (pc' := 173) rfl ?_
        refine G_i2b X335 hx (hb hby at_173) (pc' := 174) rfl ?_
        obtain ⟨T338, h338, X338, e338, W338, V_338, st338⟩ := own_bastore X335 hx hZ e335 V_335 ⟨by decide, by decide⟩ (g := (mkF m 174 #[.val (.int p0), .val (.int p1), .val (.int p2), .val (.int p3), .val (.int p4), .val (.int p5), .val (.int (1 : Int32)), .val (.int (0 : Int32)), .val (.long v8_34), .second, .val (.int (17 : Int32)), .val (.ref b301), .unset, .unset, .unset, .unset, .unset] [(.int (p3.toInt8.toInt32)), (.int (11 : Int32)), (.ref b301)])) rfl rfl (hb hby at_174)
        obtain ⟨y174, ey174⟩ : ∃ z : Int32, z = (nar .byte (p3.toInt8.toInt32)) := ⟨_, rfl⟩
        replace V_338 : AI Z h338 b301 k301 .byte (12 : Int32) [y78, y87, y96, y102, y111, y120, y130, y137, y147, y157, y167, y174] := by rw [ey174]; exact V_338
        have N339 := Fr.snoc X338 N336 g302
        have Z340 : n0 ≤ h338.size := Nat.le_trans Z337 (Nat.le_of_eq W338.size.symm)
        refine Goes.step (S' := T338.setTop (mkF m 175 #[.val (.int p0), .val (.int p1), .val (.int p2), .val (.int p3), .val (.int p4), .val (.int p5), .val (.int (1 : Int32)), .val (.int (0 : Int32)), .val (.long v8_34), .second, .val (.int (17 : Int32)), .val (.ref b301), .unset, .unset, .unset, .unset, .unset] [])) st338 ?_
        refine G_iload X338 hx (hb hby at_175) rfl (pc' := 177) rfl ?_
        refine Goes.step (S' := T338.setTop (mkF m 195 #[.val (.int p0), .val (.int p1), .val (.int p2), .val (.int p3), .val (.int p4), .val (.int p5), .val (.int (1 : Int32)), .val (.int (0 : Int32)), .val (.long v8_34), .second, .val (.int (17 : Int32)), .val (.ref b301), .unset, .unset, .unset, .unset, .unset] [])) (fun _ k => XS.ifYes X338.here hx rfl (pc0 := 177) (pc' := 195) rfl (hb hby at_177) rfl ((if0 _ _).trans (teq (rfl : (0 : Int32) = (0 : Int32))).1) (by decide) (by decide) k) ?_
        refine G_bipush X338 hx (hb hby at_195) (z := 40) rfl (pc' := 197) rfl ?_
        obtain ⟨T341, h341, k341, X341, e341, E341, A341, hk341, st341⟩ := own_newB X338 hx hZ (hw _ (List.mem_of_getElem? (i := 1) rfl)) e338 (g := (mkF m 197 #[.val (.int p0), .val (.int p1), .val (.int p2), .val (.int p3), .val (.int p4), .val (.int p5), .val (.int (1 : Int32)), .val (.int (0 : Int32)), .val (.long v8_34), .second, .val (.int (17 : Int32)), .val (.ref b301), .unset, .unset, .unset, .unset, .unset] [(.int (40 : Int32))])) rfl (hb hby at_197) rfl (by decide) (cap := 40) (by decide) (by decide) (by decide) (by decide)
        obtain ⟨b341, g341⟩ : ∃ z, z = h338.size := ⟨_, rfl⟩
        rw [← g341] at A341 st341
        have ne342 : b301 ≠ b341 := Nat.ne_of_lt (Nat.lt_of_lt_of_le V_338.lt (Nat.le_of_eq g341.symm))
        have g343 : n0 ≤ b341 := Nat.le_trans Z340 (Nat.le_of_eq g341.symm)
        have Z344 : n0 ≤ h341.size := Nat.le_trans Z340 E341.1
        have V345 := V_338.ext E341
        have V346 : AI Z h341 b341 k341 .byte (40 : Int32) [(0 : Int32), (0 : Int32), (0 : Int32), (0 : Int32), (0 : Int32), (0 : Int32), (0 : Int32), (0 : Int32), (0 : Int32), (0 : Int32), (0 : Int32), (0 : Int32), (0 : Int32), (0 : Int32), (0 : Int32), (0 : Int32), (0 : Int32), (0 : Int32), (0 : Int32), (0 : Int32), (0 : Int32), (0 : Int32), (0 : Int32), (0 : Int32), (0 : Int32), (0 : Int32), (0 : Int32), (0 : Int32), (0 : Int32), (0 : Int32), (0 : Int32), (0 : Int32), (0 : Int32), (0 : Int32), (0 : Int32), (0 : Int32), (0 : Int32), (0 : Int32), (0 : Int32), (0 : Int32)] := own_new A341 (by decide) rfl
        refine Goes.step (S' := T341.setTop (mkF m 199 #[.val (.int p0), .val (.int p1), .val (.int p2), .val (.int p3), .val (.int p4), .val (.int p5), .val (.int (1 : Int32)), .val (.int (0 : Int32)), .val (.long v8_34), .second, .val (.int (17 : Int32)), .val (.ref b301), .unset, .unset, .unset, .unset, .unset] [(.ref b341)])) st341 ?_
        refine Goes.step (S' := T341.setTop (mkF m 201 #[.val (.int p0), .val (.int p1), .val (.int p2), .val (.int p3), .val (.int p4), .val (.int p5), .val (.int (1 : Int32)), .val (.int (0 : Int32)), .val (.long v8_34), .second, .val (.int (17 : Int32)), .val (.ref b301), .val (.ref b341), .unset, .unset, .unset, .unset] [])) (fun _ k => XS.astore X341.here hx rfl (hb hby at_199) rfl rfl (l' := #[.val (.int p0), .val (.int p1), .val (.int p2), .val (.int p3), .val (.int p4), .val (.int p5), .val (.int (1 : Int32)), .val (.int (0 : Int32)), .val (.long v8_34), .second, .val (.int (17 : Int32)), .val (.ref b301), .val (.ref b341), .unset, .unset, .unset, .unset]) rfl k) ?_
        refine G_aload X341 hx (hb hby at_201) rfl rfl (pc' := 203) rfl ?_
        refine G_iconst X341 hx (hb hby at_203) (z := 0) rfl (pc' := 204) rfl ?_
        refine G_iload X341 hx (hb hby at_204) rfl (pc' := 206) rfl ?_
        refine Goes.step (S' := T341.setTop (mkF m 209 #[.val (.int p0), .val (.int p1), .val (.int p2), .val (.int p3), .val (.int p4), .val (.int p5), .val (.int (1 : Int32)), .val (.int (0 : Int32)), .val (.long v8_34), .second, .val (.int (17 : Int32)), .val (.ref b301), .val (.ref b341), .unset, .unset, .unset, .unset] [(.int (0 : Int32)), (.ref b341)])) (fun _ k => XS.ifNo X341.here hx rfl (hb hby at_206) rfl ((if0 _ _).trans (feq (by decide)).1) k) ?_
        refine G_iconst X341 hx (hb hby at_209) (z := 2) rfl (pc' := 210) rfl ?_
        refine Goes.step (S' := T341.setTop (mkF m 214 #[.val (.int p0), .val (.int p1), .val (.int p2), .val (.int p3), .val (.int p4), .val (.int p5), .val (.int (1 : Int32)), .val (.int (0 : Int32)), .val (.long v8_34), .second, .val (.int (17 : Int32)), .val (.ref b301), .val (.ref b341), .unset, .unset, .unset, .unset] [(.int (2 : Int32)), (.int (0 : Int32)), (.ref b341)])) (fun _ k => XS.goto X341.here hx rfl (pc0 := 210) (pc' := 214) rfl (hb hby at_210) (by decide) (by decide) k) ?_
        refine G_i2b X341 hx (hb hby at_214) (pc' := 215) rfl ?_
        obtain ⟨T347, h347, X347, e347, W347, V_347, st347⟩ := own_bastore X341 hx hZ e341 V346 ⟨by decide, by decide⟩ (g := (mkF m 215 #[.val (.int p0), .val (.int p1), .val (.int p2), .val (.int p3), .val (.int p4), .val (.int p5), .val (.int (1 : Int32)), .val (.int (0 : Int32)), .val (.long v8_34), .second, .val (.int (17 : Int32)), .val (.ref b301), .val (.ref b341), .unset, .unset, .unset, .unset] [(.int ((2 : Int32).toInt8.toInt32)), (.int (0 : Int32)), (.ref b341)])) rfl rfl (hb hby at_215)
        obtain ⟨y215, ey215⟩ : ∃ z : Int32, z = (nar .byte ((2 : Int32).toInt8.toInt32)) := ⟨_, rfl⟩
        replace V_347 : AI Z h347 b341 k341 .byte (40 : Int32) [y215, (0 : Int32), (0 : Int32), (0 : Int32), (0 : Int32), (0 : Int32), (0 : Int32), (0 : Int32), (0 : Int32), (0 : Int32), (0 : Int32), (0 : Int32), (0 : Int32), (0 : Int32), (0 : Int32), (0 : Int32), (0 : Int32), (0 : Int32), (0 : Int32), (0 : Int32), (0 : Int32), (0 : Int32), (0 : Int32), (0 : Int32), (0 : Int32), (0 : Int32), (0 : Int32), (0 : Int32), (0 : Int32), (0 : Int32), (0 : Int32), (0 : Int32), (0 : Int32), (0 : Int32), (0 : Int32), (0 : Int32), (0 : Int32), (0 : Int32), (0 : Int32), (0 : Int32)] := by rw [ey215]; exact V_347
        have N348 := Fr.snoc X347 N339 g343
        have Z349 : n0 ≤ h347.size := Nat.le_trans Z344 (Nat.le_of_eq W347.size.symm)
        have V350 := V345.other W347 ne342
        refine Goes.step (S' := T347.setTop (mkF m 216 #[.val (.int p0), .val (.int p1), .val (.int p2), .val (.int p3), .val (.int p4), .val (.int p5), .val (.int (1 : Int32)), .val (.int (0 : Int32)), .val (.long v8_34), .second, .val (.int (17 : Int32)), .val (.ref b301), .val (.ref b341), .unset, .unset, .unset, .unset] [])) st347 ?_
        refine G_iload X347 hx (hb hby at_216) rfl (pc' := 218) rfl ?_
        refine Goes.step (S' := T347.setTop (mkF m 221 #[.val (.int p0), .val (.int p1), .val (.int p2), .val (.int p3), .val (.int p4), .val (.int p5), .val (.int (1 : Int32)), .val (.int (0 : Int32)), .val (.long v8_34), .second, .val (.int (17 : Int32)), .val (.ref b301), .val (.ref b341), .unset, .unset, .unset, .unset] [])) (fun _ k => XS.ifNo X347.here hx rfl (hb hby at_218) rfl ((if0 _ _).trans (feq (by decide)).1) k) ?_
        refine G_aload X347 hx (hb hby at_221) rfl rfl (pc' := 223) rfl ?_
        refine G_iconst X347 hx (hb hby at_223) (z := 1) rfl (pc' := 224) rfl ?_
        refine G_iloadN X347 hx (hb hby at_224) rfl (pc' := 225) rfl ?_
        refine G_bipush X347 hx (hb hby at_225) (z := 24) rfl (pc' := 227) rfl ?_
        refine G_iushr X347 hx (hb hby at_227) (pc' := 228) rfl ?_
        refine G_i2b X347 hx (hb hby at_228) (pc' := 229) rfl ?_
        obtain ⟨T351, h351, X351, e351, W351, V_351, st351⟩ := own_bastore X347 hx hZ e347 V_347 ⟨by decide, by decide⟩ (g := (mkF m 229 #[.val (.int p0), .val (.int p1), .val (.int p2), .val (.int p3), .val (.int p4), .val (.int p5), .val (.int (1 : Int32)), .val (.int (0 : Int32)), .val (.long v8_34), .second, .val (.int (17 : Int32)), .val (.ref b301), .val (.ref b341), .unset, .unset, .unset, .unset] [(.int (((p0.toUInt32 >>> ((24 : Int32) &&& 31).toUInt32).toInt32).toInt8.toInt32)), (.int (1 : Int32)), (.ref b341)])) rfl rfl (hb hby at_229)
        obtain ⟨y229, ey229⟩ : ∃ z : Int32, z = (nar .byte (((p0.toUInt32 >>> ((24 : Int32) &&& 31).toUInt32).toInt32).toInt8.toInt32)) := ⟨_, rfl⟩
        replace V_351 : AI Z h351 b341 k341 .byte (40 : Int32) [y215, y229, (0 : Int32), (0 : Int32), (0 : Int32), (0 : Int32), (0 : Int32), (0 : Int32), (0 : Int32), (0 : Int32), (0 : Int32), (0 : Int32), (0 : Int32), (0 : Int32), (0 : Int32), (0 : Int32), (0 : Int32), (0 : Int32), (0 : Int32), (0 : Int32), (0 : Int32), (0 : Int32), (0 : Int32), (0 : Int32), (0 : Int32), (0 : Int32), (0 : Int32), (0 : Int32), (0 : Int32), (0 : Int32), (0 : Int32), (0 : Int32), (0 : Int32), (0 : Int32), (0 : Int32), (0 : Int32), (0 : Int32), (0 : Int32), (0 : Int32), (0 : Int32)] := by rw [ey229]; exact V_351
        have N352 := Fr.snoc X351 N348 g343
        have Z353 : n0 ≤ h351.size := Nat.le_trans Z349 (Nat.le_of_eq W351.size.symm)
        have V354 := V350.other W351 ne342
        refine Goes.step (S' := T351.setTop (mkF m 230 #[.val (.int p0), .val (.int p1), .val (.int p2), .val (.int p3), .val (.int p4), .val (.int p5), .val (.int (1 : Int32)), .val (.int (0 : Int32)), .val (.long v8_34), .second, .val (.int (17 : Int32)), .val (.ref b301), .val (.ref b341), .unset, .unset, .unset, .unset] [])) st351 ?_
        refine G_aload X351 hx (hb hby at_230) rfl rfl (pc' := 232) rfl ?_
        refine G_iconst X351 hx (hb hby at_232) (z := 2) rfl (pc' := 233) rfl ?_
        refine G_iloadN X351 hx (hb hby at_233) rfl (pc' := 234) rfl ?_
        refine G_bipush X351 hx (hb hby at_234) (z := 16) rfl (pc' := 236) rfl ?_
        refine G_iushr X351 hx (hb hby at_236) (pc' := 237) rfl ?_
        refine G_i2b X351 hx (hb hby at_237) (pc' := 238) rfl ?_
        obtain ⟨T355, h355, X355, e355, W355, V_355, st355⟩ := own_bastore X351 hx hZ e351 V_351 ⟨by decide, by decide⟩ (g := (mkF m 238 #[.val (.int p0), .val (.int p1), .val (.int p2), .val (.int p3), .val (.int p4), .val (.int p5), .val (.int (1 : Int32)), .val (.int (0 : Int32)), .val (.long v8_34), .second, .val (.int (17 : Int32)), .val (.ref b301), .val (.ref b341), .unset, .unset, .unset, .unset] [(.int (((p0.toUInt32 >>> ((16 : Int32) &&& 31).toUInt32).toInt32).toInt8.toInt32)), (.int (2 : Int32)), (.ref b341)])) rfl rfl (hb hby at_238)
        obtain ⟨y238, ey238⟩ : ∃ z : Int32, z = (nar .byte (((p0.toUInt32 >>> ((16 : Int32) &&& 31).toUInt32).toInt32).toInt8.toInt32)) := ⟨_, rfl⟩
        replace V_355 : AI Z h355 b341 k341 .byte (40 : Int32) [y215, y229, y238, (0 : Int32), (0 : Int32), (0 : Int32), (0 : Int32), (0 : Int32), (0 : Int32), (0 : Int32), (0 : Int32), (0 : Int32), (0 : Int32), (0 : Int32), (0 : Int32), (0 : Int32), (0 : Int32), (0 : Int32), (0 : Int32), (0 : Int32), (0 : Int32), (0 : Int32), (0 : Int32), (0 : Int32), (0 : Int32), (0 : Int32), (0 : Int32), (0 : Int32), (0 : Int32), (0 : Int32), (0 : Int32), (0 : Int32), (0 : Int32), (0 : Int32), (0 : Int32), (0 : Int32), (0 : Int32), (0 : Int32), (0 : Int32), (0 : Int32)] := by rw [ey238]; exact V_355
        have N356 := Fr.snoc X355 N352 g343
        have Z357 : n0 ≤ h355.size := Nat.le_trans Z353 (Nat.le_of_eq W355.size.symm)
        have V358 := V354.other W355 ne342
        refine Goes.step (S' := T355.setTop (mkF m 239 #[.val (.int p0), .val (.int p1), .val (.int p2), .val (.int p3), .val (.int p4), .val (.int p5), .val (.int (1 : Int32)), .val (.int (0 : Int32)), .val (.long v8_34), .second, .val (.int (17 : Int32)), .val (.ref b301), .val (.ref b341), .unset, .unset, .unset, .unset] [])) st355 ?_
        refine G_aload X355 hx (hb hby at_239) rfl rfl (pc' := 241) rfl ?_
        refine G_iconst X355 hx (hb hby at_241) (z := 3) rfl (pc' := 242) rfl ?_
        refine G_iloadN X355 hx (hb hby at_242) rfl (pc' := 243) rfl ?_
        refine G_bipush X355 hx (hb hby at_243) (z := 8) rfl (pc' := 245) rfl ?_
        refine G_iushr X355 hx (hb hby at_245) (pc' := 246) rfl ?_
        refine G_i2b X355 hx (hb hby at_246) (pc' := 247) rfl ?_
        obtain ⟨T359, h359, X359, e359, W359, V_359, st359⟩ := own_bastore X355 hx hZ e355 V_355 ⟨by decide, by decide⟩ (g := (mkF m 247 #[.val (.int p0), .val (.int p1), .val (.int p2), .val (.int p3), .val (.int p4), .val (.int p5), .val (.int (1 : Int32)), .val (.int (0 : Int32)), .val (.long v8_34), .second, .val (.int (17 : Int32)), .val (.ref b301), .val (.ref b341), .unset, .unset, .unset, .unset] [(.int (((p0.toUInt32 >>> ((8 : Int32) &&& 31).toUInt32).toInt32).toInt8.toInt32)), (.int (3 : Int32)), (.ref b341)])) rfl rfl (hb hby at_247)
        obtain ⟨y247, ey247⟩ : ∃ z : Int32, z = (nar .byte (((p0.toUInt32 >>> ((8 : Int32) &&& 31).toUInt32).toInt32).toInt8.toInt32)) := ⟨_, rfl⟩
        replace V_359 : AI Z h359 b341 k341 .byte (40 : Int32) [y215, y229, y238, y247, (0 : Int32), (0 : Int32), (0 : Int32), (0 : Int32), (0 : Int32), (0 : Int32), (0 : Int32), (0 : Int32), (0 : Int32), (0 : Int32), (0 : Int32), (0 : Int32), (0 : Int32), (0 : Int32), (0 : Int32), (0 : Int32), (0 : Int32), (0 : Int32), (0 : Int32), (0 : Int32), (0 : Int32), (0 : Int32), (0 : Int32), (0 : Int32), (0 : Int32), (0 : Int32), (0 : Int32), (0 : Int32), (0 : Int32), (0 : Int32), (0 : Int32), (0 : Int32), (0 : Int32), (0 : Int32), (0 : Int32), (0 : Int32)] := by rw [ey247]; exact V_359
        have N360 := Fr.snoc X359 N356 g343
        have Z361 : n0 ≤ h359.size := Nat.le_trans Z357 (Nat.le_of_eq W359.size.symm)
        have V362 := V358.other W359 ne342
        refine Goes.step (S' := T359.setTop (mkF m 248 #[.val (.int p0), .val (.int p1), .val (.int p2), .val (.int p3), .val (.int p4), .val (.int p5), .val (.int (1 : Int32)), .val (.int (0 : Int32)), .val (.long v8_34), .second, .val (.int (17 : Int32)), .val (.ref b301), .val (.ref b341), .unset, .unset, .unset, .unset] [])) st359 ?_
        refine G_aload X359 hx (hb hby at_248) rfl rfl (pc' := 250) rfl ?_
        refine G_iconst X359 hx (hb hby at_250) (z := 4) rfl (pc' := 251) rfl ?_
        refine G_iloadN X359 hx (hb hby at_251) rfl (pc' := 252) rfl ?_
        refine G_i2b X359 hx (hb hby at_252) (pc' := 253) rfl ?_
        obtain ⟨T363, h363, X363, e363, W363, V_363, st363⟩ := own_bastore X359 hx hZ e359 V_359 ⟨by decide, by decide⟩ (g := (mkF m 253 #[.val (.int p0), .val (.int p1), .val (.int p2), .val (.int p3), .val (.int p4), .val (.int p5), .val (.int (1 : Int32)), .val (.int (0 : Int32)), .val (.long v8_34), .second, .val (.int (17 : Int32)), .val (.ref b301), .val (.ref b341), .unset, .unset, .unset, .unset] [(.int (p0.toInt8.toInt32)), (.int (4 : Int32)), (.ref b341)])) rfl rfl (hb hby at_253)
        obtain ⟨y253, ey253⟩ : ∃ z : Int32, z = (nar .byte (p0.toInt8.toInt32)) := ⟨_, rfl⟩
        replace V_363 : AI Z h363 b341 k341 .byte (40 : Int32) [y215, y229, y238, y247, y253, (0 : Int32), (0 : Int32), (0 : Int32), (0 : Int32), (0 : Int32), (0 : Int32), (0 : Int32), (0 : Int32), (0 : Int32), (0 : Int32), (0 : Int32), (0 : Int32), (0 : Int32), (0 : Int32), (0 : Int32), (0 : Int32), (0 : Int32), (0 : Int32), (0 : Int32), (0 : Int32), (0 : Int32), (0 : Int32), (0 : Int32), (0 : Int32), (0 : Int32), (0 : Int32), (0 : Int32), (0 : Int32), (0 : Int32), (0 : Int32), (0 : Int32), (0 : Int32), (0 : Int32), (0 : Int32), (0 : Int32)] := by rw [ey253]; exact V_363
        have N364 := Fr.snoc X363 N360 g343
        have Z365 : n0 ≤ h363.size := Nat.le_trans Z361 (Nat.le_of_eq W363.size.symm)
        have V366 := V362.other W363 ne342
        refine Goes.step (S' := T363.setTop (mkF m 254 #[.val (.int p0), .val (.int p1), .val (.int p2), .val (.int p3), .val (.int p4), .val (.int p5), .val (.int (1 : Int32)), .val (.int (0 : Int32)), .val (.long v8_34), .second, .val (.int (17 : Int32)), .val (.ref b301), .val (.ref b341), .unset, .unset, .unset, .unset] [])) st363 ?_
        refine G_iload X363 hx (hb hby at_254) rfl (pc' := 256) rfl ?_
        refine G_bipush X363 hx (hb hby at_256) (z := 12) rfl (pc' := 258) rfl ?_
        refine Goes.step (S' := T363.setTop (mkF m 259 #[.val (.int p0), .val (.int p1), .val (.int p2), .val (.int p3), .val (.int p4), .val (.int p5), .val (.int (1 : Int32)), .val (.int (0 : Int32)), .val (.long v8_34), .second, .val (.int (17 : Int32)), .val (.ref b301), .val (.ref b341), .unset, .unset, .unset, .unset] [(.int (5 : Int32))])) (fun _ k => XS.isub X363.here hx rfl (hb hby at_258) rfl k) ?_
        refine Goes.step (S' := T363.setTop (mkF m 261 #[.val (.int p0), .val (.int p1), .val (.int p2), .val (.int p3), .val (.int p4), .val (.int p5), .val (.int (1 : Int32)), .val (.int (0 : Int32)), .val (.long v8_34), .second, .val (.int (17 : Int32)), .val (.ref b301), .val (.ref b341), .val (.int (5 : Int32)), .unset, .unset, .unset] [])) (fun _ k => XS.istore X363.here hx rfl (hb hby at_259) rfl (l' := #[.val (.int p0), .val (.int p1), .val (.int p2), .val (.int p3), .val (.int p4), .val (.int p5), .val (.int (1 : Int32)), .val (.int (0 : Int32)), .val (.long v8_34), .second, .val (.int (17 : Int32)), .val (.ref b301), .val (.ref b341), .val (.int (5 : Int32)), .unset, .unset, .unset]) rfl k) ?_
        refine G_aload X363 hx (hb hby at_261) rfl rfl (pc' := 263) rfl ?_
        refine G_iload X363 hx (hb hby at_263) rfl (pc' := 265) rfl ?_
        refine G_aload X363 hx (hb hby at_265) rfl rfl (pc' := 267) rfl ?_
        refine G_iconst X363 hx (hb hby at_267) (z := 0) rfl (pc' := 268) rfl ?_
        refine Goes.step (S' := T363.setTop (mkF m 269 #[.val (.int p0), .val (.int p1), .val (.int p2), .val (.int p3), .val (.int p4), .val (.int p5), .val (.int (1 : Int32)), .val (.int (0 : Int32)), .val (.long v8_34), .second, .val (.int (17 : Int32)), .val (.ref b301), .val (.ref b341), .val (.int (5 : Int32)), .unset, .unset, .unset] [(.int y78), (.int (5 : Int32)), (.ref b341)])) (fun _ k => own_baload X363 hx hZ e363 V366 ⟨by decide, by decide⟩ (hb hby at_268) _ k) ?_
        obtain ⟨T367, h367, X367, e367, W367, V_367, st367⟩ := own_bastore X363 hx hZ e363 V_363 ⟨by decide, by decide⟩ (g := (mkF m 269 #[.val (.int p0), .val (.int p1), .val (.int p2), .val (.int p3), .val (.int p4), .val (.int p5), .val (.int (1 : Int32)), .val (.int (0 : Int32)), .val (.long v8_34), .second, .val (.int (17 : Int32)), .val (.ref b301), .val (.ref b341), .val (.int (5 : Int32)), .unset, .unset, .unset] [(.int y78), (.int (5 : Int32)), (.ref b341)])) rfl rfl (hb hby at_269)
        replace V_367 : AI Z h367 b341 k341 .byte (40 : Int32) [y215, y229, y238, y247, y253, (nar .byte y78), (0 : Int32), (0 : Int32), (0 : Int32), (0 : Int32), (0 : Int32), (0 : Int32), (0 : Int32), (0 : Int32), (0 : Int32), (0 : Int32), (0 : Int32), (0 : Int32), (0 : Int32), (0 : Int32), (0 : Int32), (0 : Int32), (0 : Int32), (0 : Int32), (0 : Int32), (0 : Int32), (0 : Int32), (0 : Int32), (0 : Int32), (0 : Int32), (0 : Int32), (0 : Int32), (0 : Int32), (0 : Int32), (0 : Int32), (0 : Int32), (0 : Int32), (0 : Int32), (0 : Int32), (0 : Int32)] := V_367
        have N368 := Fr.snoc X367 N364 g343
        have Z369 : n0 ≤ h367.size := Nat.le_trans Z365 (Nat.le_of_eq W367.size.symm)
        have V370 := V366.other W367 ne342
        refine Goes.step (S' := T367.setTop (mkF m 270 #[.val (.int p0), .val (.int p1), .val (.int p2), .val (.int p3), .val (.int p4), .val (.int p5), .val (.int (1 : Int32)), .val (.int (0 : Int32)), .val (.long v8_34), .second, .val (.int (17 : Int32)), .val (.ref b301), .val (.ref b341), .val (.int (5 : Int32)), .unset, .unset, .unset] [])) st367 ?_
        refine G_aload X367 hx (hb hby at_270) rfl rfl (pc' := 272) rfl ?_
        refine G_iload X367 hx (hb hby at_272) rfl (pc' := 274) rfl ?_
        refine G_iconst X367 hx (hb hby at_274) (z := 1) rfl (pc' := 275) rfl ?_
        refine G_iadd X367 hx (hb hby at_275) (z := 6) rfl (pc' := 276) rfl ?_
        refine G_aload X367 hx (hb hby at_276) rfl rfl (pc' := 278) rfl ?_
        refine G_iconst X367 hx (hb hby at_278) (z := 1) rfl (pc' := 279) rfl ?_
        refine Goes.step (S' := T367.setTop (mkF m 280 #[.val (.int p0), .val (.int p1), .val (.int p2), .val (.int p3), .val (.int p4), .val (.int p5), .val (.int (1 : Int32)), .val (.int (0 : Int32)), .val (.long v8_34), .second, .val (.int (17 : Int32)), .val (.ref b301), .val (.ref b341), .val (.int (5 : Int32)), .unset, .unset, .unset] [(.int y87), (.int (6 : Int32)), (.ref b341)])) (fun _ k => own_baload X367 hx hZ e367 V370 ⟨by decide, by decide⟩ (hb hby at_279) _ k) ?_
        obtain ⟨T371, h371, X371, e371, W371, V_371, st371⟩ := own_bastore X367 hx hZ e367 V_367 ⟨by decide, by decide⟩ (g := (mkF m 280 #[.val (.int p0), .val (.int p1), .val (.int p2), .val (.int p3), .val (.int p4), .val (.int p5), .val (.int (1 : Int32)), .val (.int (0 : Int32)), .val (.long v8_34), .second, .val (.int (17 : Int32)), .val (.ref b301), .val (.ref b341), .val (.int (5 : Int32)), .unset, .unset, .unset] [(.int y87), (.int (6 : Int32)), (.ref b341)])) rfl rfl (hb hby at_280)
        replace V_371 : AI Z h371 b341 k341 .byte (40 : Int32) [y215, y229, y238, y247, y253, (nar .byte y78), (nar .byte y87), (0 : Int32), (0 : Int32), (0 : Int32), (0 : Int32), (0 : Int32), (0 : Int32), (0 : Int32), (0 : Int32), (0 : Int32), (0 : Int32), (0 : Int32), (0 : Int32), (0 : Int32), (0 : Int32), (0 : Int32), (0 : Int32), (0 : Int32), (0 : Int32), (0 : Int32), (0 : Int32), (0 : Int32), (0 : Int32), (0 : Int32), (0 : Int32), (0 : Int32), (0 : Int32), (0 : Int32), (0 : Int32), (0 : Int32), (0 : Int32), (0 : Int32), (0 : Int32), (0 : Int32)] := V_371
        have N372 := Fr.snoc X371 N368 g343
        have Z373 : n0 ≤ h371.size := Nat.le_trans Z369 (Nat.le_of_eq W371.size.symm)
        have V374 := V370.other W371 ne342
        refine Goes.step (S' := T371.setTop (mkF m 281 #[.val (.int p0), .val (.int p1), .val (.int p2), .val (.int p3), .val (.int p4), .val (.int p5), .val (.int (1 : Int32)), .val (.int (0 : Int32)), .val (.long v8_34), .second, .val (.int (17 : Int32)), .val (.ref b301), .val (.ref b341), .val (.int (5 : Int32)), .unset, .unset, .unset] [])) st371 ?_
        refine G_aload X371 hx (hb hby at_281) rfl rfl (pc' := 283) rfl ?_
        refine G_iload X371 hx (hb hby at_283) rfl (pc' := 285) rfl ?_
        refine G_iconst X371 hx (hb hby at_285) (z := 2) rfl (pc' := 286) rfl ?_
        refine G_iadd X371 hx (hb hby at_286) (z := 7) rfl (pc' := 287) rfl ?_
        refine G_aload X371 hx (hb hby at_287) rfl rfl (pc' := 289) rfl ?_
        refine G_iconst X371 hx (hb hby at_289) (z := 2) rfl (pc' := 290) rfl ?_
        refine Goes.step (S' := T371.setTop (mkF m 291 #[.val (.int p0), .val (.int p1), .val (.int p2), .val (.int p3), .val (.int p4), .val (.int p5), .val (.int (1 : Int32)), .val (.int (0 : Int32)), .val (.long v8_34), .second, .val (.int (17 : Int32)), .val (.ref b301), .val (.ref b341), .val (.int (5 : Int32)), .unset, .unset, .unset] [(.int y96), (.int (7 : Int32)), (.ref b341)])) (fun _ k => own_baload X371 hx hZ e371 V374 ⟨by decide, by decide⟩ (hb hby at_290) _ k) ?_
        obtain ⟨T375, h375, X375, e375, W375, V_375, st375⟩ := own_bastore X371 hx hZ e371 V_371 ⟨by decide, by decide⟩ (g := (mkF m 291 #[.val (.int p0), .val (.int p1), .val (.int p2), .val (.int p3), .val (.int p4), .val (.int p5), .val (.int (1 : Int32)), .val (.int (0 : Int32)), .val (.long v8_34), .second, .val (.int (17 : Int32)), .val (.ref b301), .val (.ref b341), .val (.int (5 : Int32)), .unset, .unset, .unset] [(.int y96), (.int (7 : Int32)), (.ref b341)])) rfl rfl (hb hby at_291)
        replace V_375 : AI Z h375 b341 k341 .byte (40 : Int32) [y215, y229, y238, y247, y253, (nar .byte y78), (nar .byte y87), (nar .byte y96), (0 : Int32), (0 : Int32), (0 : Int32), (0 : Int32), (0 : Int32), (0 : Int32), (0 : Int32), (0 : Int32), (0 : Int32), (0 : Int32), (0 : Int32), (0 : Int32), (0 : Int32), (0 : Int32), (0 : Int32), (0 : Int32), (0 : Int32), (0 : Int32), (0 : Int32), (0 : Int32), (0 : Int32), (0 : Int32), (0 : Int32), (0 : Int32), (0 : Int32), (0 : Int32), (0 : Int32), (0 : Int32), (0 : Int32), (0 : Int32), (0 : Int32), (0 : Int32)] := V_375
        have N376 := Fr.snoc X375 N372 g343
        have Z377 : n0 ≤ h375.size := Nat.le_trans Z373 (Nat.le_of_eq W375.size.symm)
        have V378 := V374.other W375 ne342
        refine Goes.step (S' := T375.setTop (mkF m 292 #[.val (.int p0), .val (.int p1), .val (.int p2), .val (.int p3), .val (.int p4), .val (.int p5), .val (.int (1 : Int32)), .val (.int (0 : Int32)), .val (.long v8_34), .second, .val (.int (17 : Int32)), .val (.ref b301), .val (.ref b341), .val (.int (5 : Int32)), .unset, .unset, .unset] [])) st375 ?_
        refine G_aload X375 hx (hb hby at_292) rfl rfl (pc' := 294) rfl ?_
        refine G_iload X375 hx (hb hby at_294) rfl (pc' := 296) rfl ?_
        refine G_iconst X375 hx (hb hby at_296) (z := 3) rfl (pc' := 297) rfl ?_
        refine G_iadd X375 hx (hb hby at_297) (z := 8) rfl (pc' := 298) rfl ?_
        refine G_aload X375 hx (hb hby at_298) rfl rfl (pc' := 300) rfl ?_
        refine G_iconst X375 hx (hb hby at_300) (z := 3) rfl (pc' := 301) rfl ?_
        refine Goes.step (S' := T375.setTop (mkF m 302 #[.val (.int p0), .val (.int p1), .val (.int p2), .val (.int p3), .val (.int p4), .val (.int p5), .val (.int (1 : Int32)), .val (.int (0 : Int32)), .val (.long v8_34), .second, .val (.int (17 : Int32)), .val (.ref b301), .val (.ref b341), .val (.int (5 : Int32)), .unset, .unset, .unset] [(.int y102), (.int (8 : Int32)), (.ref b341)])) (fun _ k => own_baload X375 hx hZ e375 V378 ⟨by decide, by decide⟩ (hb hby at_301) _ k) ?_
        obtain ⟨T379, h379, X379, e379, W379, V_379, st379⟩ := own_bastore X375 hx hZ e375 V_375 ⟨by decide, by decide⟩ (g := (mkF m 302 #[.val (.int p0), .val (.int p1), .val (.int p2), .val (.int p3), .val (.int p4), .val (.int p5), .val (.int (1 : Int32)), .val (.int (0 : Int32)), .val (.long v8_34), .second, .val (.int (17 : Int32)), .val (.ref b301), .val (.ref b341), .val (.int (5 : Int32)), .unset, .unset, .unset] [(.int y102), (.int (8 : Int32)), (.ref b341)])) rfl rfl (hb hby at_302)
        replace V_379 : AI Z h379 b341 k341 .byte (40 : Int32) [y215, y229, y238, y247, y253, (nar .byte y78), (nar .byte y87), (nar .byte y96), (nar .byte y102), (0 : Int32), (0 : Int32), (0 : Int32), (0 : Int32), (0 : Int32), (0 : Int32), (0 : Int32), (0 : Int32), (0 : Int32), (0 : Int32), (0 : Int32), (0 : Int32), (0 : Int32), (0 : Int32), (0 : Int32), (0 : Int32), (0 : Int32), (0 : Int32), (0 : Int32), (0 : Int32), (0 : Int32), (0 : Int32), (0 : Int32), (0 : Int32), (0 : Int32), (0 : Int32), (0 : Int32), (0 : Int32), (0 : Int32), (0 : Int32), (0 : Int32)] := V_379
        have N380 := Fr.snoc X379 N376 g343
        have Z381 : n0 ≤ h379.size := Nat.le_trans Z377 (Nat.le_of_eq W379.size.symm)
        have V382 := V378.other W379 ne342
        refine Goes.step (S' := T379.setTop (mkF m 303 #[.val (.int p0), .val (.int p1), .val (.int p2), .val (.int p3), .val (.int p4), .val (.int p5), .val (.int (1 : Int32)), .val (.int (0 : Int32)), .val (.long v8_34), .second, .val (.int (17 : Int32)), .val (.ref b301), .val (.ref b341), .val (.int (5 : Int32)), .unset, .unset, .unset] [])) st379 ?_
        refine G_aload X379 hx (hb hby at_303) rfl rfl (pc' := 305) rfl ?_
        refine G_iload X379 hx (hb hby at_305) rfl (pc' := 307) rfl ?_
        refine G_iconst X379 hx (hb hby at_307) (z := 4) rfl (pc' := 308) rfl ?_
        refine G_iadd X379 hx (hb hby at_308) (z := 9) rfl (pc' := 309) rfl ?_
        refine G_aload X379 hx (hb hby at_309) rfl rfl (pc' := 311) rfl ?_
        refine G_iconst X379 hx (hb hby at_311) (z := 4) rfl (pc' := 312) rfl ?_
        refine Goes.step (S' := T379.setTop (mkF m 313 #[.val (.int p0), .val (.int p1), .val (.int p2), .val (.int p3), .val (.int p4), .val (.int p5), .val (.int (1 : Int32)), .val (.int (0 : Int32)), .val (.long v8_34), .second, .val (.int (17 : Int32)), .val (.ref b301), .val (.ref b341), .val (.int (5 : Int32)), .unset, .unset, .unset] [(.int y111), (.int (9 : Int32)), (.ref b341)])) (fun _ k => own_baload X379 hx hZ e379 V382 ⟨by decide, by decide⟩ (hb hby at_312) _ k) ?_
        obtain ⟨T383, h383, X383, e383, W383, V_383, st383⟩ := own_bastore X379 hx hZ e379 V_379 ⟨by decide, by decide⟩ (g := (mkF m 313 #[.val (.int p0), .val (.int p1), .val (.int p2), .val (.int p3), .val (.int p4), .val (.int p5), .val (.int (1 : Int32)), .val (.int (0 : Int32)), .val (.long v8_34), .second, .val (.int (17 : Int32)), .val (.ref b301), .val (.ref b341), .val (.int (5 : Int32)), .unset, .unset, .unset] [(.int y111), (.int (9 : Int32)), (.ref b341)])) rfl rfl (hb hby at_313)
        replace V_383 : AI Z h383 b341 k341 .byte (40 : Int32) [y215, y229, y238, y247, y253, (nar .byte y78), (nar .byte y87), (nar .byte y96), (nar .byte y102), (nar .byte y111), (0 : Int32), (0 : Int32), (0 : Int32), (0 : Int32), (0 : Int32), (0 : Int32), (0 : Int32), (0 : Int32), (0 : Int32), (0 : Int32), (0 : Int32), (0 : Int32), (0 : Int32), (0 : Int32), (0 : Int32), (0 : Int32), (0 : Int32), (0 : Int32), (0 : Int32), (0 : Int32), (0 : Int32), (0 : Int32), (0 : Int32), (0 : Int32), (0 : Int32), (0 : Int32), (0 : Int32), (0 : Int32), (0 : Int32), (0 : Int32)] := V_383
        have N384 := Fr.snoc X383 N380 g343
        have Z385 : n0 ≤ h383.size := Nat.le_trans Z381 (Nat.le_of_eq W383.size.symm)
        have V386 := V382.other W383 ne342
        refine Goes.step (S' := T383.setTop (mkF m 314 #[.val (.int p0), .val (.int p1), .val (.int p2), .val (.int p3), .val (.int p4), .val (.int p5), .val (.int (1 : Int32)), .val (.int (0 : Int32)), .val (.long v8_34), .second, .val (.int (17 : Int32)), .val (.ref b301), .val (.ref b341), .val (.int (5 : Int32)), .unset, .unset, .unset] [])) st383 ?_
        refine G_aload X383 hx (hb hby at_314) rfl rfl (pc' := 316) rfl ?_
        refine G_iload X383 hx (hb hby at_316) rfl (pc' := 318) rfl ?_
        refine G_iconst X383 hx (hb hby at_318) (z := 5) rfl (pc' := 319) rfl ?_
        refine G_iadd X383 hx (hb hby at_319) (z := 10) rfl (pc' := 320) rfl ?_
        refine G_aload X383 hx (hb hby at_320) rfl rfl (pc' := 322) rfl ?_
        refine G_iconst X383 hx (hb hby at_322) (z := 5) rfl (pc' := 323) rfl ?_
        refine Goes.step (S' := T383.setTop (mkF m 324 #[.val (.int p0), .val (.int p1), .val (.int p2), .val (.int p3), .val (.int p4), .val (.int p5), .val (.int (1 : Int32)), .val (.int (0 : Int32)), .val (.long v8_34), .second, .val (.int (17 : Int32)), .val (.ref b301), .val (.ref b341), .val (.int (5 : Int32)), .unset, .unset, .unset] [(.int y120), (.int (10 : Int32)), (.ref b341)])) (fun _ k => own_baload X383 hx hZ e383 V386 ⟨by decide, by decide⟩ (hb hby at_323) _ k) ?_
        obtain ⟨T387, h387, X387, e387, W387, V_387, st387⟩ := own_bastore X383 hx hZ e383 V_383 ⟨by decide, by decide⟩ (g := (mkF m 324 #[.val (.int p0), .val (.int p1), .val (.int p2), .val (.int p3), .val (.int p4), .val (.int p5), .val (.int (1 : Int32)), .val (.int (0 : Int32)), .val (.long v8_34), .second, .val (.int (17 : Int32)), .val (.ref b301), .val (.ref b341), .val (.int (5 : Int32)), .unset, .unset, .unset] [(.int y120), (.int (10 : Int32)), (.ref b341)])) rfl rfl (hb hby at_324)
        replace V_387 : AI Z h387 b341 k341 .byte (40 : Int32) [y215, y229, y238, y247, y253, (nar .byte y78), (nar .byte y87), (nar .byte y96), (nar .byte y102), (nar .byte y111), (nar .byte y120), (0 : Int32), (0 : Int32), (0 : Int32), (0 : Int32), (0 : Int32), (0 : Int32), (0 : Int32), (0 : Int32), (0 : Int32), (0 : Int32), (0 : Int32), (0 : Int32), (0 : Int32), (0 : Int32), (0 : Int32), (0 : Int32), (0 : Int32), (0 : Int32), (0 : Int32), (0 : Int32), (0 : Int32), (0 : Int32), (0 : Int32), (0 : Int32), (0 : Int32), (0 : Int32), (0 : Int32), (0 : Int32), (0 : Int32)] := V_387
        have N388 := Fr.snoc X387 N384 g343
        have Z389 : n0 ≤ h387.size := Nat.le_trans Z385 (Nat.le_of_eq W387.size.symm)
        have V390 := V386.other W387 ne342
        refine Goes.step (S' := T387.setTop (mkF m 325 #[.val (.int p0), .val (.int p1), .val (.int p2), .val (.int p3), .val (.int p4), .val (.int p5), .val (.int (1 : Int32)), .val (.int (0 : Int32)), .val (.long v8_34), .second, .val (.int (17 : Int32)), .val (.ref b301), .val (.ref b341), .val (.int (5 : Int32)), .unset, .unset, .unset] [])) st387 ?_
        refine G_aload X387 hx (hb hby at_325) rfl rfl (pc' := 327) rfl ?_
        refine G_iload X387 hx (hb hby at_327) rfl (pc' := 329) rfl ?_
        refine G_bipush X387 hx (hb hby at_329) (z := 6) rfl (pc' := 331) rfl ?_
        refine G_iadd X387 hx (hb hby at_331) (z := 11) rfl (pc' := 332) rfl ?_
        refine G_aload X387 hx (hb hby at_332) rfl rfl (pc' := 334) rfl ?_
        refine G_bipush X387 hx (hb hby at_334) (z := 6) rfl (pc' := 336) rfl ?_
        refine Goes.step (S' := T387.setTop (mkF m 337 #[.val (.int p0), .val (.int p1), .val (.int p2), .val (.int p3), .val (.int p4), .val (.int p5), .val (.int (1 : Int32)), .val (.int (0 : Int32)), .val (.long v8_34), .second, .val (.int (17 : Int32)), .val (.ref b301), .val (.ref b341), .val (.int (5 : Int32)), .unset, .unset, .unset] [(.int y130), (.int (11 : Int32)), (.ref b341)])) (fun _ k => own_baload X387 hx hZ e387 V390 ⟨by decide, by decide⟩ (hb hby at_336) _ k) ?_
        obtain ⟨T391, h391, X391, e391, W391, V_391, st391⟩ := own_bastore X387 hx hZ e387 V_387 ⟨by decide, by decide⟩ (g := (mkF m 337 #[.val (.int p0), .val (.int p1), .val (.int p2), .val (.int p3), .val (.int p4), .val (.int p5), .val (.int (1 : Int32)), .val (.int (0 : Int32)), .val (.long v8_34), .second, .val (.int (17 : Int32)), .val (.ref b301), .val (.ref b341), .val (.int (5 : Int32)), .unset, .unset, .unset] [(.int y130), (.int (11 : Int32)), (.ref b341)])) rfl rfl (hb hby at_337)
        replace V_391 : AI Z h391 b341 k341 .byte (40 : Int32) [y215, y229, y238, y247, y253, (nar .byte y78), (nar .byte y87), (nar .byte y96), (nar .byte y102), (nar .byte y111), (nar .byte y120), (nar .byte y130), (0 : Int32), (0 : Int32), (0 : Int32), (0 : Int32), (0 : Int32), (0 : Int32), (0 : Int32), (0 : Int32), (0 : Int32), (0 : Int32), (0 : Int32), (0 : Int32), (0 : Int32), (0 : Int32), (0 : Int32), (0 : Int32), (0 : Int32), (0 : Int32), (0 : Int32), (0 : Int32), (0 : Int32), (0 : Int32), (0 : Int32), (0 : Int32), (0 : Int32), (0 : Int32), (0 : Int32), (0 : Int32)] := V_391
        have N392 := Fr.snoc X391 N388 g343
        have Z393 : n0 ≤ h391.size := Nat.le_trans Z389 (Nat.le_of_eq W391.size.symm)
        have V394 := V390.other W391 ne342
        refine Goes.step (S' := T391.setTop (mkF m 338 #[.val (.int p0), .val (.int p1), .val (.int p2), .val (.int p3), .val (.int p4), .val (.int p5), .val (.int (1 : Int32)), .val (.int (0 : Int32)), .val (.long v8_34), .second, .val (.int (17 : Int32)), .val (.ref b301), .val (.ref b341), .val (.int (5 : Int32)), .unset, .unset, .unset] [])) st391 ?_
        refine G_aload X391 hx (hb hby at_338) rfl rfl (pc' := 340) rfl ?_
        refine G_iload X391 hx (hb hby at_340) rfl (pc' := 342) rfl ?_
        refine G_bipush X391 hx (hb hby at_342) (z := 7) rfl (pc' := 344) rfl ?_
        refine G_iadd X391 hx (hb hby at_344) (z := 12) rfl (pc' := 345) rfl ?_
        refine G_aload X391 hx (hb hby at_345) rfl rfl (pc' := 347) rfl ?_
        refine G_bipush X391 hx (hb hby at_347) (z := 7) rfl (pc' := 349) rfl ?_
        refine Goes.step (S' := T391.setTop (mkF m 350 #[.val (.int p0), .val (.int p1), .val (.int p2), .val (.int p3), .val (.int p4), .val (.int p5), .val (.int (1 : Int32)), .val (.int (0 : Int32)), .val (.long v8_34), .second, .val (.int (17 : Int32)), .val (.ref b301), .val (.ref b341), .val (.int (5 : Int32)), .unset, .unset, .unset] [(.int y137), (.int (12 : Int32)), (.ref b341)])) (fun _ k => own_baload X391 hx hZ e391 V394 ⟨by decide, by decide⟩ (hb hby at_349) _ k) ?_
        obtain ⟨T395, h395, X395, e395, W395, V_395, st395⟩ := own_bastore X391 hx hZ e391 V_391 ⟨by decide, by decide⟩ (g := (mkF m 350 #[.val (.int p0), .val (.int p1), .val (.int p2), .val (.int p3), .val (.int p4), .val (.int p5), .val (.int (1 : Int32)), .val (.int (0 : Int32)), .val (.long v8_34), .second, .val (.int (17 : Int32)), .val (.ref b301), .val (.ref b341), .val (.int (5 : Int32)), .unset, .unset, .unset] [(.int y137), (.int (12 : Int32)), (.ref b341)])) rfl rfl (hb hby at_350)
        replace V_395 : AI Z h395 b341 k341 .byte (40 : Int32) [y215, y229, y238, y247, y253, (nar .byte y78), (nar .byte y87), (nar .byte y96), (nar .byte y102), (nar .byte y111), (nar .byte y120), (nar .byte y130), (nar .byte y137), (0 : Int32), (0 : Int32), (0 : Int32), (0 : Int32), (0 : Int32), (0 : Int32), (0 : Int32), (0 : Int32), (0 : Int32), (0 : Int32), (0 : Int32), (0 : Int32), (0 : Int32), (0 : Int32), (0 : Int32), (0 : Int32), (0 : Int32), (0 : Int32), (0 : Int32), (0 : Int32), (0 : Int32), (0 : Int32), (0 : Int32), (0 : Int32), (0 : Int32), (0 : Int32), (0 : Int32)] := V_395
        have N396 := Fr.snoc X395 N392 g343
        have Z397 : n0 ≤ h395.size := Nat.le_trans Z393 (Nat.le_of_eq W395.size.symm)
        have V398 := V394.other W395 ne342
        refine Goes.step (S' := T395.setTop (mkF m 351 #[.val (.int p0), .val (.int p1), .val (.int p2), .val (.int p3), .val (.int p4), .val (.int p5), .val (.int (1 : Int32)), .val (.int (0 : Int32)), .val (.long v8_34), .second, .val (.int (17 : Int32)), .val (.ref b301), .val (.ref b341), .val (.int (5 : Int32)), .unset, .unset, .unset] [])) st395 ?_
        refine G_aload X395 hx (hb hby at_351) rfl rfl (pc' := 353) rfl ?_
        refine G_iload X395 hx (hb hby at_353) rfl (pc' := 355) rfl ?_
        refine G_bipush X395 hx (hb hby at_355) (z := 8) rfl (pc' := 357) rfl ?_
        refine G_iadd X395 hx (hb hby at_357) (z := 13) rfl (pc' := 358) rfl ?_
        refine G_aload X395 hx (hb hby at_358) rfl rfl (pc' := 360) rfl ?_
        refine G_bipush X395 hx (hb hby at_360) (z := 8) rfl (pc' := 362) rfl ?_
        refine Goes.step (S' := T395.setTop (mkF m 363 #[.val (.int p0), .val (.int p1), .val (.int p2), .val (.int p3), .val (.int p4), .val (.int p5), .val (.int (1 : Int32)), .val (.int (0 : Int32)), .val (.long v8_34), .second, .val (.int (17 : Int32)), .val (.ref b301), .val (.ref b341), .val (.int (5 : Int32)), .unset, .unset, .unset] [(.int y147), (.int (13 : Int32)), (.ref b341)])) (fun _ k => own_baload X395 hx hZ e395 V398 ⟨by decide, by decide⟩ (hb hby at_362) _ k) ?_
        obtain ⟨T399, h399, X399, e399, W399, V_399, st399⟩ := own_bastore X395 hx hZ e395 V_395 ⟨by decide, by decide⟩ (g := (mkF m 363 #[.val (.int p0), .val (.int p1), .val (.int p2), .val (.int p3), .val (.int p4), .val (.int p5), .val (.int (1 : Int32)), .val (.int (0 : Int32)), .val (.long v8_34), .second, .val (.int (17 : Int32)), .val (.ref b301), .val (.ref b341), .val (.int (5 : Int32)), .unset, .unset, .unset] [(.int y147), (.int (13 : Int32)), (.ref b341)])) rfl rfl (hb hby at_363)
        replace V_399 : AI Z h399 b341 k341 .byte (40 : Int32) [y215, y229, y238, y247, y253, (nar .byte y78), (nar .byte y87), (nar .byte y96), (nar .byte y102), (nar .byte y111), (nar .byte y120), (nar .byte y130), (nar .byte y137), (nar .byte y147), (0 : Int32), (0 : Int32), (0 : Int32), (0 : Int32), (0 : Int32), (0 : Int32), (0 : Int32), (0 : Int32), (0 : Int32), (0 : Int32), (0 : Int32), (0 : Int32), (0 : Int32), (0 : Int32), (0 : Int32), (0 : Int32), (0 : Int32), (0 : Int32), (0 : Int32), (0 : Int32), (0 : Int32), (0 : Int32), (0 : Int32), (0 : Int32), (0 : Int32), (0 : Int32)] := V_399
        have N400 := Fr.snoc X399 N396 g343
        have Z401 : n0 ≤ h399.size := Nat.le_trans Z397 (Nat.le_of_eq W399.size.symm)
        have V402 := V398.other W399 ne342
        refine Goes.step (S' := T399.setTop (mkF m 364 #[.val (.int p0), .val (.int p1), .val (.int p2), .val (.int p3), .val (.int p4), .val (.int p5), .val (.int (1 : Int32)), .val (.int (0 : Int32)), .val (.long v8_34), .second, .val (.int (17 : Int32)), .val (.ref b301), .val (.ref b341), .val (.int (5 : Int32)), .unset, .unset, .unset] [])) st399 ?_
        refine G_aload X399 hx (hb hby at_364) rfl rfl (pc' := 366) rfl ?_
        refine G_iload X399 hx (hb hby at_366) rfl (pc' := 368) rfl ?_
        refine G_bipush X399 hx (hb hby at_368) (z := 9) rfl (pc' := 370) rfl ?_
        refine G_iadd X399 hx (hb hby at_370) (z := 14) rfl (pc' := 371) rfl ?_
        refine G_aload X399 hx (hb hby at_371) rfl rfl (pc' := 373) rfl ?_
        refine G_bipush X399 hx (hb hby at_373) (z := 9) rfl (pc' := 375) rfl ?_
        refine Goes.step (S' := T399.setTop (mkF m 376 #[.val (.int p0), .val (.int p1), .val (.int p2), .val (.int p3), .val (.int p4), .val (.int p5), .val (.int (1 : Int32)), .val (.int (0 : Int32)), .val (.long v8_34), .second, .val (.int (17 : Int32)), .val (.ref b301), .val (.ref b341), .val (.int (5 : Int32)), .unset, .unset, .unset] [(.int y157), (.int (14 : Int32)), (.ref b341)])) (fun _ k => own_baload X399 hx hZ e399 V402 ⟨by decide, by decide⟩ (hb hby at_375) _ k) ?_
        obtain ⟨T403, h403, X403, e403, W403, V_403, st403⟩ := own_bastore X399 hx hZ e399 V_399 ⟨by decide, by decide⟩ (g := (mkF m 376 #[.val (.int p0), .val (.int p1), .val (.int p2), .val (.int p3), .val (.int p4), .val (.int p5), .val (.int (1 : Int32)), .val (.int (0 : Int32)), .val (.long v8_34), .second, .val (.int (17 : Int32)), .val (.ref b301), .val (.ref b341), .val (.int (5 : Int32)), .unset, .unset, .unset] [(.int y157), (.int (14 : Int32)), (.ref b341)])) rfl rfl (hb hby at_376)
        replace V_403 : AI Z h403 b341 k341 .byte (40 : Int32) [y215, y229, y238, y247, y253, (nar .byte y78), (nar .byte y87), (nar .byte y96), (nar .byte y102), (nar .byte y111), (nar .byte y120), (nar .byte y130), (nar .byte y137), (nar .byte y147), (nar .byte y157), (0 : Int32), (0 : Int32), (0 : Int32), (0 : Int32), (0 : Int32), (0 : Int32), (0 : Int32), (0 : Int32), (0 : Int32), (0 : Int32), (0 : Int32), (0 : Int32), (0 : Int32), (0 : Int32), (0 : Int32), (0 : Int32), (0 : Int32), (0 : Int32), (0 : Int32), (0 : Int32), (0 : Int32), (0 : Int32), (0 : Int32), (0 : Int32), (0 : Int32)] := V_403
        have N404 := Fr.snoc X403 N400 g343
        have Z405 : n0 ≤ h403.size := Nat.le_trans Z401 (Nat.le_of_eq W403.size.symm)
        have V406 := V402.other W403 ne342
        refine Goes.step (S' := T403.setTop (mkF m 377 #[.val (.int p0), .val (.int p1), .val (.int p2), .val (.int p3), .val (.int p4), .val (.int p5), .val (.int (1 : Int32)), .val (.int (0 : Int32)), .val (.long v8_34), .second, .val (.int (17 : Int32)), .val (.ref b301), .val (.ref b341), .val (.int (5 : Int32)), .unset, .unset, .unset] [])) st403 ?_
        refine G_aload X403 hx (hb hby at_377) rfl rfl (pc' := 379) rfl ?_
        refine G_iload X403 hx (hb hby at_379) rfl (pc' := 381) rfl ?_
        refine G_bipush X403 hx (hb hby at_381) (z := 10) rfl (pc' := 383) rfl ?_
        refine G_iadd X403 hx (hb hby at_383) (z := 15) rfl (pc' := 384) rfl ?_
        refine G_aload X403 hx (hb hby at_384) rfl rfl (pc' := 386) rfl ?_
        refine G_bipush X403 hx (hb hby at_386) (z := 10) rfl (pc' := 388) rfl ?_
        refine Goes.step (S' := T403.setTop (mkF m 389 #[.val (.int p0), .val (.int p1), .val (.int p2), .val (.int p3), .val (.int p4), .val (.int p5), .val (.int (1 : Int32)), .val (.int (0 : Int32)), .val (.long v8_34), .second, .val (.int (17 : Int32)), .val (.ref b301), .val (.ref b341), .val (.int (5 : Int32)), .unset, .unset, .unset] [(.int y167), (.int (15 : Int32)), (.ref b341)])) (fun _ k => own_baload X403 hx hZ e403 V406 ⟨by decide, by decide⟩ (hb hby at_388) _ k) ?_
        obtain ⟨T407, h407, X407, e407, W407, V_407, st407⟩ := own_bastore X403 hx hZ e403 V_403 ⟨by decide, by decide⟩ (g := (mkF m 389 #[.val (.int p0), .val (.int p1), .val (.int p2), .val (.int p3), .val (.int p4), .val (.int p5), .val (.int (1 : Int32)), .val (.int (0 : Int32)), .val (.long v8_34), .second, .val (.int (17 : Int32)), .val (.ref b301), .val (.ref b341), .val (.int (5 : Int32)), .unset, .unset, .unset] [(.int y167), (.int (15 : Int32)), (.ref b341)])) rfl rfl (hb hby at_389)
        replace V_407 : AI Z h407 b341 k341 .byte (40 : Int32) [y215, y229, y238, y247, y253, (nar .byte y78), (nar .byte y87), (nar .byte y96), (nar .byte y102), (nar .byte y111), (nar .byte y120), (nar .byte y130), (nar .byte y137), (nar .byte y147), (nar .byte y157), (nar .byte y167), (0 : Int32), (0 : Int32), (0 : Int32), (0 : Int32), (0 : Int32), (0 : Int32), (0 : Int32), (0 : Int32), (0 : Int32), (0 : Int32), (0 : Int32), (0 : Int32), (0 : Int32), (0 : Int32), (0 : Int32), (0 : Int32), (0 : Int32), (0 : Int32), (0 : Int32), (0 : Int32), (0 : Int32), (0 : Int32), (0 : Int32), (0 : Int32)] := V_407
        have N408 := Fr.snoc X407 N404 g343
        have Z409 : n0 ≤ h407.size := Nat.le_trans Z405 (Nat.le_of_eq W407.size.symm)
        have V410 := V406.other W407 ne342
        refine Goes.step (S' := T407.setTop (mkF m 390 #[.val (.int p0), .val (.int p1), .val (.int p2), .val (.int p3), .val (.int p4), .val (.int p5), .val (.int (1 : Int32)), .val (.int (0 : Int32)), .val (.long v8_34), .second, .val (.int (17 : Int32)), .val (.ref b301), .val (.ref b341), .val (.int (5 : Int32)), .unset, .unset, .unset] [])) st407 ?_
        refine G_aload X407 hx (hb hby at_390) rfl rfl (pc' := 392) rfl ?_
        refine G_iload X407 hx (hb hby at_392) rfl (pc' := 394) rfl ?_
        refine G_bipush X407 hx (hb hby at_394) (z := 11) rfl (pc' := 396) rfl ?_
        refine G_iadd X407 hx (hb hby at_396) (z := 16) rfl (pc' := 397) rfl ?_
        refine G_aload X407 hx (hb hby at_397) rfl rfl (pc' := 399) rfl ?_
        refine G_bipush X407 hx (hb hby at_399) (z := 11) rfl (pc' := 401) rfl ?_
        refine Goes.step (S' := T407.setTop (mkF m 402 #[.val (.int p0), .val (.int p1), .val (.int p2), .val (.int p3), .val (.int p4), .val (.int p5), .val (.int (1 : Int32)), .val (.int (0 : Int32)), .val (.long v8_34), .second, .val (.int (17 : Int32)), .val (.ref b301), .val (.ref b341), .val (.int (5 : Int32)), .unset, .unset, .unset] [(.int y174), (.int (16 : Int32)), (.ref b341)])) (fun _ k => own_baload X407 hx hZ e407 V410 ⟨by decide, by decide⟩ (hb hby at_401) _ k) ?_
        obtain ⟨T411, h411, X411, e411, W411, V_411, st411⟩ := own_bastore X407 hx hZ e407 V_407 ⟨by decide, by decide⟩ (g := (mkF m 402 #[.val (.int p0), .val (.int p1), .val (.int p2), .val (.int p3), .val (.int p4), .val (.int p5), .val (.int (1 : Int32)), .val (.int (0 : Int32)), .val (.long v8_34), .second, .val (.int (17 : Int32)), .val (.ref b301), .val (.ref b341), .val (.int (5 : Int32)), .unset, .unset, .unset] [(.int y174), (.int (16 : Int32)), (.ref b341)])) rfl rfl (hb hby at_402)
        replace V_411 : AI Z h411 b341 k341 .byte (40 : Int32) [y215, y229, y238, y247, y253, (nar .byte y78), (nar .byte y87), (nar .byte y96), (nar .byte y102), (nar .byte y111), (nar .byte y120), (nar .byte y130), (nar .byte y137), (nar .byte y147), (nar .byte y157), (nar .byte y167), (nar .byte y174), (0 : Int32), (0 : Int32), (0 : Int32), (0 : Int32), (0 : Int32), (0 : Int32), (0 : Int32), (0 : Int32), (0 : Int32), (0 : Int32), (0 : Int32), (0 : Int32), (0 : Int32), (0 : Int32), (0 : Int32), (0 : Int32), (0 : Int32), (0 : Int32), (0 : Int32), (0 : Int32), (0 : Int32), (0 : Int32), (0 : Int32)] := V_411
        have N412 := Fr.snoc X411 N408 g343
        have Z413 : n0 ≤ h411.size := Nat.le_trans Z409 (Nat.le_of_eq W411.size.symm)
        have V414 := V410.other W411 ne342
        refine Goes.step (S' := T411.setTop (mkF m 403 #[.val (.int p0), .val (.int p1), .val (.int p2), .val (.int p3), .val (.int p4), .val (.int p5), .val (.int (1 : Int32)), .val (.int (0 : Int32)), .val (.long v8_34), .second, .val (.int (17 : Int32)), .val (.ref b301), .val (.ref b341), .val (.int (5 : Int32)), .unset, .unset, .unset] [])) st411 ?_
        refine G_aload X411 hx (hb hby at_403) rfl rfl (pc' := 405) rfl ?_
        refine G_iload X411 hx (hb hby at_405) rfl (pc' := 407) rfl ?_
        refine G_iload X411 hx (hb hby at_407) rfl (pc' := 409) rfl ?_
        refine G_i2b X411 hx (hb hby at_409) (pc' := 410) rfl ?_
        obtain ⟨T415, h415, X415, e415, W415, V_415, st415⟩ := own_bastore X411 hx hZ e411 V_411 ⟨by decide, by decide⟩ (g := (mkF m 410 #[.val (.int p0), .val (.int p1), .val (.int p2), .val (.int p3), .val (.int p4), .val (.int p5), .val (.int (1 : Int32)), .val (.int (0 : Int32)), .val (.long v8_34), .second, .val (.int (17 : Int32)), .val (.ref b301), .val (.ref b341), .val (.int (5 : Int32)), .unset, .unset, .unset] [(.int (p5.toInt8.toInt32)), (.int (17 : Int32)), (.ref b341)])) rfl rfl (hb hby at_410)
        obtain ⟨y410, ey410⟩ : ∃ z : Int32, z = (nar .byte (p5.toInt8.toInt32)) := ⟨_, rfl⟩
        replace V_415 : AI Z h415 b341 k341 .byte (40 : Int32) [y215, y229, y238, y247, y253, (nar .byte y78), (nar .byte y87), (nar .byte y96), (nar .byte y102), (nar .byte y111), (nar .byte y120), (nar .byte y130), (nar .byte y137), (nar .byte y147), (nar .byte y157), (nar .byte y167), (nar .byte y174), y410, (0 : Int32), (0 : Int32), (0 : Int32), (0 : Int32), (0 : Int32), (0 : Int32), (0 : Int32), (0 : Int32), (0 : Int32), (0 : Int32), (0 : Int32), (0 : Int32), (0 : Int32), (0 : Int32), (0 : Int32), (0 : Int32), (0 : Int32), (0 : Int32), (0 : Int32), (0 : Int32), (0 : Int32), (0 : Int32)] := by rw [ey410]; exact V_415
        have N416 := Fr.snoc X415 N412 g343
        have Z417 : n0 ≤ h415.size := Nat.le_trans Z413 (Nat.le_of_eq W415.size.symm)
        have V418 := V414.other W415 ne342
        refine Goes.step (S' := T415.setTop (mkF m 411 #[.val (.int p0), .val (.int p1), .val (.int p2), .val (.int p3), .val (.int p4), .val (.int p5), .val (.int (1 : Int32)), .val (.int (0 : Int32)), .val (.long v8_34), .second, .val (.int (17 : Int32)), .val (.ref b301), .val (.ref b341), .val (.int (5 : Int32)), .unset, .unset, .unset] [])) st415 ?_
        refine G_aload X415 hx (hb hby at_411) rfl rfl (pc' := 413) rfl ?_
        refine G_aload X415 hx (hb hby at_413) rfl rfl (pc' := 415) rfl ?_
        refine Goes.step (S' := T415.setTop (mkF m 416 #[.val (.int p0), .val (.int p1), .val (.int p2), .val (.int p3), .val (.int p4), .val (.int p5), .val (.int (1 : Int32)), .val (.int (0 : Int32)), .val (.long v8_34), .second, .val (.int (17 : Int32)), .val (.ref b301), .val (.ref b341), .val (.int (5 : Int32)), .unset, .unset, .unset] [(.int (40 : Int32)), (.ref b341)])) (fun _ k => own_len X415 hx hZ e415 V_415 (hb hby at_415) _ k) ?_
        refine G_iconst X415 hx (hb hby at_416) (z := 1) rfl (pc' := 417) rfl ?_
        refine Goes.step (S' := T415.setTop (mkF m 418 #[.val (.int p0), .val (.int p1), .val (.int p2), .val (.int p3), .val (.int p4), .val (.int p5), .val (.int (1 : Int32)), .val (.int (0 : Int32)), .val (.long v8_34), .second, .val (.int (17 : Int32)), .val (.ref b301), .val (.ref b341), .val (.int (5 : Int32)), .unset, .unset, .unset] [(.int (39 : Int32)), (.ref b341)])) (fun _ k => XS.isub X415.here hx rfl (hb hby at_417) rfl k) ?_
        refine G_iload X415 hx (hb hby at_418) rfl (pc' := 420) rfl ?_
        refine G_bipush X415 hx (hb hby at_420) (z := 8) rfl (pc' := 422) rfl ?_
        refine G_iushr X415 hx (hb hby at_422) (pc' := 423) rfl ?_
        refine G_i2b X415 hx (hb hby at_423) (pc' := 424) rfl ?_
        obtain ⟨T419, h419, X419, e419, W419, V_419, st419⟩ := own_bastore X415 hx hZ e415 V_415 ⟨by decide, by decide⟩ (g := (mkF m 424 #[.val (.int p0), .val (.int p1), .val (.int p2), .val (.int p3), .val (.int p4), .val (.int p5), .val (.int (1 : Int32)), .val (.int (0 : Int32)), .val (.long v8_34), .second, .val (.int (17 : Int32)), .val (.ref b301), .val (.ref b341), .val (.int (5 : Int32)), .unset, .unset, .unset] [(.int (((p5.toUInt32 >>> ((8 : Int32) &&& 31).toUInt32).toInt32).toInt8.toInt32)), (.int (39 : Int32)), (.ref b341)])) rfl rfl (hb hby at_424)
        obtain ⟨y424, ey424⟩ : ∃ z : Int32, z = (nar .byte (((p5.toUInt32 >>> ((8 : Int32) &&& 31).toUInt32).toInt32).toInt8.toInt32)) := ⟨_, rfl⟩
        replace V_419 : AI Z h419 b341 k341 .byte (40 : Int32) [y215, y229, y238, y247, y253, (nar .byte y78), (nar .byte y87), (nar .byte y96), (nar .byte y102), (nar .byte y111), (nar .byte y120), (nar .byte y130), (nar .byte y137), (nar .byte y147), (nar .byte y157), (nar .byte y167), (nar .byte y174), y410, (0 : Int32), (0 : Int32), (0 : Int32), (0 : Int32), (0 : Int32), (0 : Int32), (0 : Int32), (0 : Int32), (0 : Int32), (0 : Int32), (0 : Int32), (0 : Int32), (0 : Int32), (0 : Int32), (0 : Int32), (0 : Int32), (0 : Int32), (0 : Int32), (0 : Int32), (0 : Int32), (0 : Int32), y424] := by rw [ey424]; exact V_419
        have N420 := Fr.snoc X419 N416 g343
        have Z421 : n0 ≤ h419.size := Nat.le_trans Z417 (Nat.le_of_eq W419.size.symm)
        have V422 := V418.other W419 ne342
        refine Goes.step (S' := T419.setTop (mkF m 425 #[.val (.int p0), .val (.int p1), .val (.int p2), .val (.int p3), .val (.int p4), .val (.int p5), .val (.int (1 : Int32)), .val (.int (0 : Int32)), .val (.long v8_34), .second, .val (.int (17 : Int32)), .val (.ref b301), .val (.ref b341), .val (.int (5 : Int32)), .unset, .unset, .unset] [])) st419 ?_
        refine G_aload X419 hx (hb hby at_425) rfl rfl (pc' := 427) rfl ?_
        obtain ⟨_, _, ⟨T423, L423, k423, n423⟩, -, X423, ⟨Lc423, hQ423, l423, y423, z423⟩, st423⟩ := Jvm.LawKit.callS X419 hx (y := (⟨"com/example/isopod/isopod/RecordHeader", "read", "([B)Lcom/example/isopod/isopod/RecordHeader;"⟩ : MethodName)) hown (mvT hZ (hw _ (List.mem_of_getElem? (i := 2) rfl))) (mvT hZ (hw _ (List.mem_of_getElem? (i := 3) rfl))) (mvT hZ (hw _ (List.mem_of_getElem? (i := 4) rfl))) (mvT hZ (hw _ (List.mem_of_getElem? (i := 5) rfl))) (by decide) (backOf (W := 0) (rm1b l Z a0 hw [] b341 k341 ((40 : Int32)) ([y215, y229, y238, y247, y253, (nar .byte y78), (nar .byte y87), (nar .byte y96), (nar .byte y102), (nar .byte y111), (nar .byte y120), (nar .byte y130), (nar .byte y137), (nar .byte y147), (nar .byte y157), (nar .byte y167), (nar .byte y174), y410, (0 : Int32), (0 : Int32), (0 : Int32), (0 : Int32), (0 : Int32), (0 : Int32), (0 : Int32), (0 : Int32), (0 : Int32), (0 : Int32), (0 : Int32), (0 : Int32), (0 : Int32), (0 : Int32), (0 : Int32), (0 : Int32), (0 : Int32), (0 : Int32), (0 : Int32), (0 : Int32), (0 : Int32), y424]) v8_34 h419 n0 Z421 V_419 hk341 (own_pr0_427_hv0_3 p0 p1 p2 p3 p4 p5 hc4_1 hc18_3 v8_34 ev8_34 hc45_4 y78 ey78 y87 ey87 y96 ey96 y102 ey102 y111 ey111 y120 ey120 y130 ey130 y137 ey137 y147 ey147 y157 ey157 y167 ey167 y174 ey174 y215 ey215 y229 ey229 y238 ey238 y247 ey247 y253 ey253 y410 ey410 y424 ey424) (own_pr0_427_hn_3 p0 p1 p2 p3 p4 p5 hc4_1 hc18_3 v8_34 ev8_34 hc45_4) (own_pr0_427_hn2_3 p0 p1 p2 p3 p4 p5 hc4_1 hc18_3 v8_34 ev8_34 hc45_4) (own_pr0_427_hgen p0 p1 p2 p3 p4 p5 hc4_1 hc18_3 v8_34 ev8_34 hc45_4 y78 ey78 y87 ey87 y96 ey96 y102 ey102 y111 ey111 y120 ey120 y130 ey130 y137 ey137 y147 ey147 y157 ey157 y167 ey167 y174 ey174 y215 ey215 y229 ey229 y238 ey238 y247 ey247 y253 ey253 y410 ey410 y424 ey424) (own_pr0_427_hg0 p0 p1 p2 p3 p4 p5 hc4_1 hc18_3 v8_34 ev8_34 hc45_4)) hZ (hw _ (List.mem_of_getElem? (i := 5) rfl)) (hw _ (List.mem_of_getElem? (i := 4) rfl)) (by decide) (by decide)) (g := (mkF m 427 #[.val (.int p0), .val (.int p1), .val (.int p2), .val (.int p3), .val (.int p4), .val (.int p5), .val (.int (1 : Int32)), .val (.int (0 : Int32)), .val (.long v8_34), .second, .val (.int (17 : Int32)), .val (.ref b301), .val (.ref b341), .val (.int (5 : Int32)), .unset, .unset, .unset] [(.ref b341)])) rfl (by rw [hml]; rfl) (argsL := [(.ref b341)]) (rest := []) (lenOf pd5 rfl) rfl (by show 2 * 0 + _ ≤ _; exact Nat.le_of_eq rfl) (hb hby at_427) (fun _ _ => ⟨rfl, e419, (by decide : 2 + 2 ≤ _), (by decide : 52 + 15 ≤ _)⟩)
        dsimp only [Pt.U, Pt.locs, Pt.cells, Pt.slots] at X423 l423 y423 z423 st423 hQ423
        replace X423 := X423.more (Nat.le_of_eq (y423 : k423 = 4)) (Nat.le_of_eq (z423 : n423 = 67))
        obtain ⟨r423_0, r423_1, rk423_0, rfl, N423q, K423q, P424, P425, P426, P427, P428, P429, P430, P431, P432⟩ := hQ423
        have N433 := own_frapp l423 N420 N423q
        have ne434 : b301 ≠ r423_0 := Nat.ne_of_lt (Nat.lt_of_lt_of_le V422.lt P424)
        have ne435 : b341 ≠ r423_0 := Nat.ne_of_lt (Nat.lt_of_lt_of_le V_419.lt P424)
        have g436 : n0 ≤ r423_0 := Nat.le_trans Z421 P424
        have ne437 : b301 ≠ r423_1 := Nat.ne_of_lt (Nat.lt_of_lt_of_le V422.lt P429)
        have ne438 : b341 ≠ r423_1 := Nat.ne_of_lt (Nat.lt_of_lt_of_le V_419.lt P429)
        have g439 : n0 ≤ r423_1 := Nat.le_trans Z421 P429
        have V440 := V422.keep K423q nin0
        have V441 := V_419.keep K423q nin0
        have Z442 : n0 ≤ T423.heap.size := Nat.le_trans Z421 K423q.1
        refine Goes.step (S' := T423.setTop (mkF m 430 #[.val (.int p0), .val (.int p1), .val (.int p2), .val (.int p3), .val (.int p4), .val (.int p5), .val (.int (1 : Int32)), .val (.int (0 : Int32)), .val (.long v8_34), .second, .val (.int (17 : Int32)), .val (.ref b301), .val (.ref b341), .val (.int (5 : Int32)), .unset, .unset, .unset] [(.ref r423_0)])) st423 ?_
        refine Goes.step (S' := T423.setTop (mkF m 432 #[.val (.int p0), .val (.int p1), .val (.int p2), .val (.int p3), .val (.int p4), .val (.int p5), .val (.int (1 : Int32)), .val (.int (0 : Int32)), .val (.long v8_34), .second, .val (.int (17 : Int32)), .val (.ref b301), .val (.ref b341), .val (.int (5 : Int32)), .val (.ref r423_0), .unset, .unset] [])) (fun _ k => XS.astore X423.here hx rfl (hb hby at_430) rfl rfl (l' := #[.val (.int p0), .val (.int p1), .val (.int p2), .val (.int p3), .val (.int p4), .val (.int p5), .val (.int (1 : Int32)), .val (.int (0 : Int32)), .val (.long v8_34), .second, .val (.int (17 : Int32)), .val (.ref b301), .val (.ref b341), .val (.int (5 : Int32)), .val (.ref r423_0), .unset, .unset]) rfl k) ?_
        refine G_aload X423 hx (hb hby at_432) rfl rfl (pc' := 434) rfl ?_
        obtain ⟨cq443, kq443, q443a, q443b, q443c⟩ := isOf hZ rfl P425
        obtain ⟨_, _, ⟨T443, L443, k443, n443⟩, -, X443, ⟨Lc443, hQ443, l443, y443, z443⟩, st443⟩ := X423.virtualBack hx (y := (⟨"com/example/isopod/isopod/RecordHeader", "nonce", "()[B"⟩ : MethodName)) (z := (⟨"com/example/isopod/isopod/RecordHeader", "nonce", "()[B"⟩ : MethodName)) hown (mvT hZ (hw _ (List.mem_of_getElem? (i := 42) rfl))) (mvT hZ (hw _ (List.mem_of_getElem? (i := 43) rfl))) (notFace_of_selects (args := #[]) (mvT hZ (hw _ (List.mem_of_getElem? (i := 45) rfl)))) (mvT hZ (hw _ (List.mem_of_getElem? (i := 45) rfl))) (mvT hZ (hw _ (List.mem_of_getElem? (i := 44) rfl))) (by decide) (backOf (W := 0) (rm9 l Z a0 hw [] r423_0 r423_1 rk423_0 ((12 : Int32)) ([(nar .byte y78), (nar .byte y87), (nar .byte y96), (nar .byte y102), (nar .byte y111), (nar .byte y120), (nar .byte y130), (nar .byte y137), (nar .byte y147), (nar .byte y157), (nar .byte y167), (nar .byte y174)]) T423.heap n0 Z442 P425 P427 P430 P431 (own_pr0_434_hlen_3 p0 p1 p2 p3 p4 p5 hc4_1 hc18_3 v8_34 ev8_34 hc45_4)) hZ (hw _ (List.mem_of_getElem? (i := 46) rfl)) (hw _ (List.mem_of_getElem? (i := 4) rfl)) (by decide) (by decide)) q443a q443c (g := (mkF m 434 #[.val (.int p0), .val (.int p1), .val (.int p2), .val (.int p3), .val (.int p4), .val (.int p5), .val (.int (1 : Int32)), .val (.int (0 : Int32)), .val (.long v8_34), .second, .val (.int (17 : Int32)), .val (.ref b301), .val (.ref b341), .val (.int (5 : Int32)), .val (.ref r423_0), .unset, .unset] [(.ref r423_0)])) rfl (by rw [hml]; rfl) (Steps.refl _) (argsL := []) (rest := []) (lenOf pd6 rfl) rfl (by show 2 * 0 + _ ≤ _; exact Nat.le_of_eq rfl) (hb hby at_434) (fun _ _ => ⟨rfl, rfl, (by decide : 4 + 1 ≤ _), (by decide : 67 + 12 ≤ _)⟩)
        dsimp only [Pt.U, Pt.locs, Pt.cells, Pt.slots] at X443 l443 y443 z443 st443 hQ443
        replace X443 := X443.more (Nat.le_of_eq (y443 : k443 = 5)) (Nat.le_of_eq (z443 : n443 = 79))
        obtain ⟨r443_0, rk443_0, rfl, N443q, K443q, P444, P445, P446⟩ := hQ443
        have N447 := own_frapp l443 N433 N443q
        have ne448 : b301 ≠ r443_0 := Nat.ne_of_lt (Nat.lt_of_lt_of_le V440.lt P444)
        have ne449 : b341 ≠ r443_0 := Nat.ne_of_lt (Nat.lt_of_lt_of_le V441.lt P444)
        have ne450 : r423_1 ≠ r443_0 := Nat.ne_of_lt (Nat.lt_of_lt_of_le P430.lt P444)
        have ne451 : r423_0 ≠ r443_0 := Nat.ne_of_lt (Nat.lt_of_lt_of_le P425.lt P444)
        have g452 : n0 ≤ r443_0 := Nat.le_trans Z442 P444
        have V453 := V440.keep K443q nin0
        have V454 := V441.keep K443q nin0
        have V455 := P430.keep K443q nin0
        have E_456 := P425.keep K443q
        have F457 := P426.keep K443q nin0
        have F458 := P427.keep K443q nin0
        have F459 := P428.keep K443q nin0
        have Z460 : n0 ≤ T443.heap.size := Nat.le_trans Z442 K443q.1
        refine Goes.step (S' := T443.setTop (mkF m 437 #[.val (.int p0), .val (.int p1), .val (.int p2), .val (.int p3), .val (.int p4), .val (.int p5), .val (.int (1 : Int32)), .val (.int (0 : Int32)), .val (.long v8_34), .second, .val (.int (17 : Int32)), .val (.ref b301), .val (.ref b341), .val (.int (5 : Int32)), .val (.ref r423_0), .unset, .unset] [(.ref r443_0)])) (fun _ k => st443.trans k) ?_
        refine Goes.step (S' := T443.setTop (mkF m 439 #[.val (.int p0), .val (.int p1), .val (.int p2), .val (.int p3), .val (.int p4), .val (.int p5), .val (.int (1 : Int32)), .val (.int (0 : Int32)), .val (.long v8_34), .second, .val (.int (17 : Int32)), .val (.ref b301), .val (.ref b341), .val (.int (5 : Int32)), .val (.ref r423_0), .val (.ref r443_0), .unset] [])) (fun _ k => XS.astore X443.here hx rfl (hb hby at_437) rfl rfl (l' := #[.val (.int p0), .val (.int p1), .val (.int p2), .val (.int p3), .val (.int p4), .val (.int p5), .val (.int (1 : Int32)), .val (.int (0 : Int32)), .val (.long v8_34), .second, .val (.int (17 : Int32)), .val (.ref b301), .val (.ref b341), .val (.int (5 : Int32)), .val (.ref r423_0), .val (.ref r443_0), .unset]) rfl k) ?_
        refine G_aload X443 hx (hb hby at_439) rfl rfl (pc' := 441) rfl ?_
        refine Goes.step (S' := T443.setTop (mkF m 442 #[.val (.int p0), .val (.int p1), .val (.int p2), .val (.int p3), .val (.int p4), .val (.int p5), .val (.int (1 : Int32)), .val (.int (0 : Int32)), .val (.long v8_34), .second, .val (.int (17 : Int32)), .val (.ref b301), .val (.ref b341), .val (.int (5 : Int32)), .val (.ref r423_0), .val (.ref r443_0), .unset] [(.int (12 : Int32))])) (fun _ k => own_len X443 hx hZ rfl P445 (hb hby at_441) _ k) ?_
        refine G_bipush X443 hx (hb hby at_442) (z := 12) rfl (pc' := 444) rfl ?_
        refine Goes.step (S' := T443.setTop (mkF m 447 #[.val (.int p0), .val (.int p1), .val (.int p2), .val (.int p3), .val (.int p4), .val (.int p5), .val (.int (1 : Int32)), .val (.int (0 : Int32)), .val (.long v8_34), .second, .val (.int (17 : Int32)), .val (.ref b301), .val (.ref b341), .val (.int (5 : Int32)), .val (.ref r423_0), .val (.ref r443_0), .unset] [])) (fun _ k => XS.icmpNo X443.here hx rfl (hb hby at_444) rfl (teq (rfl : (12 : Int32) = (12 : Int32))).2 k) ?_
        refine G_aload X443 hx (hb hby at_447) rfl rfl (pc' := 449) rfl ?_
        refine G_iconst X443 hx (hb hby at_449) (z := 0) rfl (pc' := 450) rfl ?_
        refine Goes.step (S' := T443.setTop (mkF m 451 #[.val (.int p0), .val (.int p1), .val (.int p2), .val (.int p3), .val (.int p4), .val (.int p5), .val (.int (1 : Int32)), .val (.int (0 : Int32)), .val (.long v8_34), .second, .val (.int (17 : Int32)), .val (.ref b301), .val (.ref b341), .val (.int (5 : Int32)), .val (.ref r423_0), .val (.ref r443_0), .unset] [(.int (nar .byte y78))])) (fun _ k => own_baload X443 hx hZ rfl P445 ⟨by decide, by decide⟩ (hb hby at_450) _ k) ?_
        refine G_aload X443 hx (hb hby at_451) rfl rfl (pc' := 453) rfl ?_
        refine G_iconst X443 hx (hb hby at_453) (z := 0) rfl (pc' := 454) rfl ?_
        refine Goes.step (S' := T443.setTop (mkF m 455 #[.val (.int p0), .val (.int p1), .val (.int p2), .val (.int p3), .val (.int p4), .val (.int p5), .val (.int (1 : Int32)), .val (.int (0 : Int32)), .val (.long v8_34), .second, .val (.int (17 : Int32)), .val (.ref b301), .val (.ref b341), .val (.int (5 : Int32)), .val (.ref r423_0), .val (.ref r443_0), .unset] [(.int y78), (.int (nar .byte y78))])) (fun _ k => own_baload X443 hx hZ rfl V453 ⟨by decide, by decide⟩ (hb hby at_454) _ k) ?_
        refine Goes.step (S' := T443.setTop (mkF m 458 #[.val (.int p0), .val (.int p1), .val (.int p2), .val (.int p3), .val (.int p4), .val (.int p5), .val (.int (1 : Int32)), .val (.int (0 : Int32)), .val (.long v8_34), .second, .val (.int (17 : Int32)), .val (.ref b301), .val (.ref b341), .val (.int (5 : Int32)), .val (.ref r423_0), .val (.ref r443_0), .unset] [])) (fun _ k => XS.icmpNo X443.here hx rfl (hb hby at_455) rfl (teq (own_hc0_455_3 p0 p1 p2 p3 p4 p5 hc4_1 hc18_3 v8_34 ev8_34 hc45_4 y78 ey78)).2 k) ?_
        refine G_aload X443 hx (hb hby at_458) rfl rfl (pc' := 460) rfl ?_
        refine G_iconst X443 hx (hb hby at_460) (z := 1) rfl (pc' := 461) rfl ?_
        refine Goes.step (S' := T443.setTop (mkF m 462 #[.val (.int p0), .val (.int p1), .val (.int p2), .val (.int p3), .val (.int p4), .val (.int p5), .val (.int (1 : Int32)), .val (.int (0 : Int32)), .val (.long v8_34), .second, .val (.int (17 : Int32)), .val (.ref b301), .val (.ref b341), .val (.int (5 : Int32)), .val (.ref r423_0), .val (.ref r443_0), .unset] [(.int (nar .byte y87))])) (fun _ k => own_baload X443 hx hZ rfl P445 ⟨by decide, by decide⟩ (hb hby at_461) _ k) ?_
        refine G_aload X443 hx (hb hby at_462) rfl rfl (pc' := 464) rfl ?_
        refine G_iconst X443 hx (hb hby at_464) (z := 1) rfl (pc' := 465) rfl ?_
        refine Goes.step (S' := T443.setTop (mkF m 466 #[.val (.int p0), .val (.int p1), .val (.int p2), .val (.int p3), .val (.int p4), .val (.int p5), .val (.int (1 : Int32)), .val (.int (0 : Int32)), .val (.long v8_34), .second, .val (.int (17 : Int32)), .val (.ref b301), .val (.ref b341), .val (.int (5 : Int32)), .val (.ref r423_0), .val (.ref r443_0), .unset] [(.int y87), (.int (nar .byte y87))])) (fun _ k => own_baload X443 hx hZ rfl V453 ⟨by decide, by decide⟩ (hb hby at_465) _ k) ?_
        refine Goes.step (S' := T443.setTop (mkF m 469 #[.val (.int p0), .val (.int p1), .val (.int p2), .val (.int p3), .val (.int p4), .val (.int p5), .val (.int (1 : Int32)), .val (.int (0 : Int32)), .val (.long v8_34), .second, .val (.int (17 : Int32)), .val (.ref b301), .val (.ref b341), .val (.int (5 : Int32)), .val (.ref r423_0), .val (.ref r443_0), .unset] [])) (fun _ k => XS.icmpNo X443.here hx rfl (hb hby at_466) rfl (teq (own_hc0_466_3 p0 p1 p2 p3 p4 p5 hc4_1 hc18_3 v8_34 ev8_34 hc45_4 y87 ey87)).2 k) ?_
        refine G_aload X443 hx (hb hby at_469) rfl rfl (pc' := 471) rfl ?_
        refine G_iconst X443 hx (hb hby at_471) (z := 2) rfl (pc' := 472) rfl ?_
        refine Goes.step (S' := T443.setTop (mkF m 473 #[.val (.int p0), .val (.int p1), .val (.int p2), .val (.int p3), .val (.int p4), .val (.int p5), .val (.int (1 : Int32)), .val (.int (0 : Int32)), .val (.long v8_34), .second, .val (.int (17 : Int32)), .val (.ref b301), .val (.ref b341), .val (.int (5 : Int32)), .val (.ref r423_0), .val (.ref r443_0), .unset] [(.int (nar .byte y96))])) (fun _ k => own_baload X443 hx hZ rfl P445 ⟨by decide, by decide⟩ (hb hby at_472) _ k) ?_
        refine G_aload X443 hx (hb hby at_473) rfl rfl (pc' := 475) rfl ?_
        refine G_iconst X443 hx (hb hby at_475) (z := 2) rfl (pc' := 476) rfl ?_
        refine Goes.step (S' := T443.setTop (mkF m 477 #[.val (.int p0), .val (.int p1), .val (.int p2), .val (.int p3), .val (.int p4), .val (.int p5), .val (.int (1 : Int32)), .val (.int (0 : Int32)), .val (.long v8_34), .second, .val (.int (17 : Int32)), .val (.ref b301), .val (.ref b341), .val (.int (5 : Int32)), .val (.ref r423_0), .val (.ref r443_0), .unset] [(.int y96), (.int (nar .byte y96))])) (fun _ k => own_baload X443 hx hZ rfl V453 ⟨by decide, by decide⟩ (hb hby at_476) _ k) ?_
        refine Goes.step (S' := T443.setTop (mkF m 480 #[.val (.int p0), .val (.int p1), .val (.int p2), .val (.int p3), .val (.int p4), .val (.int p5), .val (.int (1 : Int32)), .val (.int (0 : Int32)), .val (.long v8_34), .second, .val (.int (17 : Int32)), .val (.ref b301), .val (.ref b341), .val (.int (5 : Int32)), .val (.ref r423_0), .val (.ref r443_0), .unset] [])) (fun _ k => XS.icmpNo X443.here hx rfl (hb hby at_477) rfl (teq (own_hc0_477_3 p0 p1 p2 p3 p4 p5 hc4_1 hc18_3 v8_34 ev8_34 hc45_4 y96 ey96)).2 k) ?_
        refine G_aload X443 hx (hb hby at_480) rfl rfl (pc' := 482) rfl ?_
        refine G_iconst X443 hx (hb hby at_482) (z := 3) rfl (pc' := 483) rfl ?_
        refine Goes.step (S' := T443.setTop (mkF m 484 #[.val (.int p0), .val (.int p1), .val (.int p2), .val (.int p3), .val (.int p4), .val (.int p5), .val (.int (1 : Int32)), .val (.int (0 : Int32)), .val (.long v8_34), .second, .val (.int (17 : Int32)), .val (.ref b301), .val (.ref b341), .val (.int (5 : Int32)), .val (.ref r423_0), .val (.ref r443_0), .unset] [(.int (nar .byte y102))])) (fun _ k => own_baload X443 hx hZ rfl P445 ⟨by decide, by decide⟩ (hb hby at_483) _ k) ?_
        refine G_aload X443 hx (hb hby at_484) rfl rfl (pc' := 486) rfl ?_
        refine G_iconst X443 hx (hb hby at_486) (z := 3) rfl (pc' := 487) rfl ?_
        refine Goes.step (S' := T443.setTop (mkF m 488 #[.val (.int p0), .val (.int p1), .val (.int p2), .val (.int p3), .val (.int p4), .val (.int p5), .val (.int (1 : Int32)), .val (.int (0 : Int32)), .val (.long v8_34), .second, .val (.int (17 : Int32)), .val (.ref b301), .val (.ref b341), .val (.int (5 : Int32)), .val (.ref r423_0), .val (.ref r443_0), .unset] [(.int y102), (.int (nar .byte y102))])) (fun _ k => own_baload X443 hx hZ rfl V453 ⟨by decide, by decide⟩ (hb hby at_487) _ k) ?_
        refine Goes.step (S' := T443.setTop (mkF m 491 #[.val (.int p0), .val (.int p1), .val (.int p2), .val (.int p3), .val (.int p4), .val (.int p5), .val (.int (1 : Int32)), .val (.int (0 : Int32)), .val (.long v8_34), .second, .val (.int (17 : Int32)), .val (.ref b301), .val (.ref b341), .val (.int (5 : Int32)), .val (.ref r423_0), .val (.ref r443_0), .unset] [])) (fun _ k => XS.icmpNo X443.here hx rfl (hb hby at_488) rfl (teq (own_hc0_488_3 p0 p1 p2 p3 p4 p5 hc4_1 hc18_3 v8_34 ev8_34 hc45_4 y102 ey102)).2 k) ?_
        refine G_aload X443 hx (hb hby at_491) rfl rfl (pc' := 493) rfl ?_
        refine G_iconst X443 hx (hb hby at_493) (z := 4) rfl (pc' := 494) rfl ?_
        refine Goes.step (S' := T443.setTop (mkF m 495 #[.val (.int p0), .val (.int p1), .val (.int p2), .val (.int p3), .val (.int p4), .val (.int p5), .val (.int (1 : Int32)), .val (.int (0 : Int32)), .val (.long v8_34), .second, .val (.int (17 : Int32)), .val (.ref b301), .val (.ref b341), .val (.int (5 : Int32)), .val (.ref r423_0), .val (.ref r443_0), .unset] [(.int (nar .byte y111))])) (fun _ k => own_baload X443 hx hZ rfl P445 ⟨by decide, by decide⟩ (hb hby at_494) _ k) ?_
        refine G_aload X443 hx (hb hby at_495) rfl rfl (pc' := 497) rfl ?_
        refine G_iconst X443 hx (hb hby at_497) (z := 4) rfl (pc' := 498) rfl ?_
        refine Goes.step (S' := T443.setTop (mkF m 499 #[.val (.int p0), .val (.int p1), .val (.int p2), .val (.int p3), .val (.int p4), .val (.int p5), .val (.int (1 : Int32)), .val (.int (0 : Int32)), .val (.long v8_34), .second, .val (.int (17 : Int32)), .val (.ref b301), .val (.ref b341), .val (.int (5 : Int32)), .val (.ref r423_0), .val (.ref r443_0), .unset] [(.int y111), (.int (nar .byte y111))])) (fun _ k => own_baload X443 hx hZ rfl V453 ⟨by decide, by decide⟩ (hb hby at_498) _ k) ?_
        refine Goes.step (S' := T443.setTop (mkF m 502 #[.val (.int p0), .val (.int p1), .val (.int p2), .val (.int p3), .val (.int p4), .val (.int p5), .val (.int (1 : Int32)), .val (.int (0 : Int32)), .val (.long v8_34), .second, .val (.int (17 : Int32)), .val (.ref b301), .val (.ref b341), .val (.int (5 : Int32)), .val (.ref r423_0), .val (.ref r443_0), .unset] [])) (fun _ k => XS.icmpNo X443.here hx rfl (hb hby at_499) rfl (teq (own_hc0_499_3 p0 p1 p2 p3 p4 p5 hc4_1 hc18_3 v8_34 ev8_34 hc45_4 y111 ey111)).2 k) ?_
        refine G_aload X443 hx (hb hby at_502) rfl rfl (pc' := 504) rfl ?_
        refine G_iconst X443 hx (hb hby at_504) (z := 5) rfl (pc' := 505) rfl ?_
        refine Goes.step (S' := T443.setTop (mkF m 506 #[.val (.int p0), .val (.int p1), .val (.int p2), .val (.int p3), .val (.int p4), .val (.int p5), .val (.int (1 : Int32)), .val (.int (0 : Int32)), .val (.long v8_34), .second, .val (.int (17 : Int32)), .val (.ref b301), .val (.ref b341), .val (.int (5 : Int32)), .val (.ref r423_0), .val (.ref r443_0), .unset] [(.int (nar .byte y120))])) (fun _ k => own_baload X443 hx hZ rfl P445 ⟨by decide, by decide⟩ (hb hby at_505) _ k) ?_
        refine G_aload X443 hx (hb hby at_506) rfl rfl (pc' := 508) rfl ?_
        refine G_iconst X443 hx (hb hby at_508) (z := 5) rfl (pc' := 509) rfl ?_
        refine Goes.step (S' := T443.setTop (mkF m 510 #[.val (.int p0), .val (.int p1), .val (.int p2), .val (.int p3), .val (.int p4), .val (.int p5), .val (.int (1 : Int32)), .val (.int (0 : Int32)), .val (.long v8_34), .second, .val (.int (17 : Int32)), .val (.ref b301), .val (.ref b341), .val (.int (5 : Int32)), .val (.ref r423_0), .val (.ref r443_0), .unset] [(.int y120), (.int (nar .byte y120))])) (fun _ k => own_baload X443 hx hZ rfl V453 ⟨by decide, by decide⟩ (hb hby at_509) _ k) ?_
        refine Goes.step (S' := T443.setTop (mkF m 513 #[.val (.int p0), .val (.int p1), .val (.int p2), .val (.int p3), .val (.int p4), .val (.int p5), .val (.int (1 : Int32)), .val (.int (0 : Int32)), .val (.long v8_34), .second, .val (.int (17 : Int32)), .val (.ref b301), .val (.ref b341), .val (.int (5 : Int32)), .val (.ref r423_0), .val (.ref r443_0), .unset] [])) (fun _ k => XS.icmpNo X443.here hx rfl (hb hby at_510) rfl (teq (own_hc0_510_3 p0 p1 p2 p3 p4 p5 hc4_1 hc18_3 v8_34 ev8_34 hc45_4 y120 ey120)).2 k) ?_
        refine G_aload X443 hx (hb hby at_513) rfl rfl (pc' := 515) rfl ?_
        refine G_bipush X443 hx (hb hby at_515) (z := 6) rfl (pc' := 517) rfl ?_
        refine Goes.step (S' := T443.setTop (mkF m 518 #[.val (.int p0), .val (.int p1), .val (.int p2), .val (.int p3), .val (.int p4), .val (.int p5), .val (.int (1 : Int32)), .val (.int (0 : Int32)), .val (.long v8_34), .second, .val (.int (17 : Int32)), .val (.ref b301), .val (.ref b341), .val (.int (5 : Int32)), .val (.ref r423_0), .val (.ref r443_0), .unset] [(.int (nar .byte y130))])) (fun _ k => own_baload X443 hx hZ rfl P445 ⟨by decide, by decide⟩ (hb hby at_517) _ k) ?_
        refine G_aload X443 hx (hb hby at_518) rfl rfl (pc' := 520) rfl ?_
        refine G_bipush X443 hx (hb hby at_520) (z := 6) rfl (pc' := 522) rfl ?_
        refine Goes.step (S' := T443.setTop (mkF m 523 #[.val (.int p0), .val (.int p1), .val (.int p2), .val (.int p3), .val (.int p4), .val (.int p5), .val (.int (1 : Int32)), .val (.int (0 : Int32)), .val (.long v8_34), .second, .val (.int (17 : Int32)), .val (.ref b301), .val (.ref b341), .val (.int (5 : Int32)), .val (.ref r423_0), .val (.ref r443_0), .unset] [(.int y130), (.int (nar .byte y130))])) (fun _ k => own_baload X443 hx hZ rfl V453 ⟨by decide, by decide⟩ (hb hby at_522) _ k) ?_
        refine Goes.step (S' := T443.setTop (mkF m 526 #[.val (.int p0), .val (.int p1), .val (.int p2), .val (.int p3), .val (.int p4), .val (.int p5), .val (.int (1 : Int32)), .val (.int (0 : Int32)), .val (.long v8_34), .second, .val (.int (17 : Int32)), .val (.ref b301), .val (.ref b341), .val (.int (5 : Int32)), .val (.ref r423_0), .val (.ref r443_0), .unset] [])) (fun _ k => XS.icmpNo X443.here hx rfl (hb hby at_523) rfl (teq (own_hc0_523_3 p0 p1 p2 p3 p4 p5 hc4_1 hc18_3 v8_34 ev8_34 hc45_4 y130 ey130)).2 k) ?_
        refine G_aload X443 hx (hb hby at_526) rfl rfl (pc' := 528) rfl ?_
        refine G_bipush X443 hx (hb hby at_528) (z := 7) rfl (pc' := 530) rfl ?_
        refine Goes.step (S' := T443.setTop (mkF m 531 #[.val (.int p0), .val (.int p1), .val (.int p2), .val (.int p3), .val (.int p4), .val (.int p5), .val (.int (1 : Int32)), .val (.int (0 : Int32)), .val (.long v8_34), .second, .val (.int (17 : Int32)), .val (.ref b301), .val (.ref b341), .val (.int (5 : Int32)), .val (.ref r423_0), .val (.ref r443_0), .unset] [(.int (nar .byte y137))])) (fun _ k => own_baload X443 hx hZ rfl P445 ⟨by decide, by decide⟩ (hb hby at_530) _ k) ?_
        refine G_aload X443 hx (hb hby at_531) rfl rfl (pc' := 533) rfl ?_
        refine G_bipush X443 hx (hb hby at_533) (z := 7) rfl (pc' := 535) rfl ?_
        refine Goes.step (S' := T443.setTop (mkF m 536 #[.val (.int p0), .val (.int p1), .val (.int p2), .val (.int p3), .val (.int p4), .val (.int p5), .val (.int (1 : Int32)), .val (.int (0 : Int32)), .val (.long v8_34), .second, .val (.int (17 : Int32)), .val (.ref b301), .val (.ref b341), .val (.int (5 : Int32)), .val (.ref r423_0), .val (.ref r443_0), .unset] [(.int y137), (.int (nar .byte y137))])) (fun _ k => own_baload X443 hx hZ rfl V453 ⟨by decide, by decide⟩ (hb hby at_535) _ k) ?_
        refine Goes.step (S' := T443.setTop (mkF m 539 #[.val (.int p0), .val (.int p1), .val (.int p2), .val (.int p3), .val (.int p4), .val (.int p5), .val (.int (1 : Int32)), .val (.int (0 : Int32)), .val (.long v8_34), .second, .val (.int (17 : Int32)), .val (.ref b301), .val (.ref b341), .val (.int (5 : Int32)), .val (.ref r423_0), .val (.ref r443_0), .unset] [])) (fun _ k => XS.icmpNo X443.here hx rfl (hb hby at_536) rfl (teq (own_hc0_536_3 p0 p1 p2 p3 p4 p5 hc4_1 hc18_3 v8_34 ev8_34 hc45_4 y137 ey137)).2 k) ?_
        refine G_aload X443 hx (hb hby at_539) rfl rfl (pc' := 541) rfl ?_
        refine G_bipush X443 hx (hb hby at_541) (z := 8) rfl (pc' := 543) rfl ?_
        refine Goes.step (S' := T443.setTop (mkF m 544 #[.val (.int p0), .val (.int p1), .val (.int p2), .val (.int p3), .val (.int p4), .val (.int p5), .val (.int (1 : Int32)), .val (.int (0 : Int32)), .val (.long v8_34), .second, .val (.int (17 : Int32)), .val (.ref b301), .val (.ref b341), .val (.int (5 : Int32)), .val (.ref r423_0), .val (.ref r443_0), .unset] [(.int (nar .byte y147))])) (fun _ k => own_baload X443 hx hZ rfl P445 ⟨by decide, by decide⟩ (hb hby at_543) _ k) ?_
        refine G_aload X443 hx (hb hby at_544) rfl rfl (pc' := 546) rfl ?_
        refine G_bipush X443 hx (hb hby at_546) (z := 8) rfl (pc' := 548) rfl ?_
        refine Goes.step (S' := T443.setTop (mkF m 549 #[.val (.int p0), .val (.int p1), .val (.int p2), .val (.int p3), .val (.int p4), .val (.int p5), .val (.int (1 : Int32)), .val (.int (0 : Int32)), .val (.long v8_34), .second, .val (.int (17 : Int32)), .val (.ref b301), .val (.ref b341), .val (.int (5 : Int32)), .val (.ref r423_0), .val (.ref r443_0), .unset] [(.int y147), (.int (nar .byte y147))])) (fun _ k => own_baload X443 hx hZ rfl V453 ⟨by decide, by decide⟩ (hb hby at_548) _ k) ?_
        refine Goes.step (S' := T443.setTop (mkF m 552 #[.val (.int p0), .val (.int p1), .val (.int p2), .val (.int p3), .val (.int p4), .val (.int p5), .val (.int (1 : Int32)), .val (.int (0 : Int32)), .val (.long v8_34), .second, .val (.int (17 : Int32)), .val (.ref b301), .val (.ref b341), .val (.int (5 : Int32)), .val (.ref r423_0), .val (.ref r443_0), .unset] [])) (fun _ k => XS.icmpNo X443.here hx rfl (hb hby at_549) rfl (teq (own_hc0_549_3 p0 p1 p2 p3 p4 p5 hc4_1 hc18_3 v8_34 ev8_34 hc45_4 y147 ey147)).2 k) ?_
        refine G_aload X443 hx (hb hby at_552) rfl rfl (pc' := 554) rfl ?_
        refine G_bipush X443 hx (hb hby at_554) (z := 9) rfl (pc' := 556) rfl ?_
        refine Goes.step (S' := T443.setTop (mkF m 557 #[.val (.int p0), .val (.int p1), .val (.int p2), .val (.int p3), .val (.int p4), .val (.int p5), .val (.int (1 : Int32)), .val (.int (0 : Int32)), .val (.long v8_34), .second, .val (.int (17 : Int32)), .val (.ref b301), .val (.ref b341), .val (.int (5 : Int32)), .val (.ref r423_0), .val (.ref r443_0), .unset] [(.int (nar .byte y157))])) (fun _ k => own_baload X443 hx hZ rfl P445 ⟨by decide, by decide⟩ (hb hby at_556) _ k) ?_
        refine G_aload X443 hx (hb hby at_557) rfl rfl (pc' := 559) rfl ?_
        refine G_bipush X443 hx (hb hby at_559) (z := 9) rfl (pc' := 561) rfl ?_
        refine Goes.step (S' := T443.setTop (mkF m 562 #[.val (.int p0), .val (.int p1), .val (.int p2), .val (.int p3), .val (.int p4), .val (.int p5), .val (.int (1 : Int32)), .val (.int (0 : Int32)), .val (.long v8_34), .second, .val (.int (17 : Int32)), .val (.ref b301), .val (.ref b341), .val (.int (5 : Int32)), .val (.ref r423_0), .val (.ref r443_0), .unset] [(.int y157), (.int (nar .byte y157))])) (fun _ k => own_baload X443 hx hZ rfl V453 ⟨by decide, by decide⟩ (hb hby at_561) _ k) ?_
        refine Goes.step (S' := T443.setTop (mkF m 565 #[.val (.int p0), .val (.int p1), .val (.int p2), .val (.int p3), .val (.int p4), .val (.int p5), .val (.int (1 : Int32)), .val (.int (0 : Int32)), .val (.long v8_34), .second, .val (.int (17 : Int32)), .val (.ref b301), .val (.ref b341), .val (.int (5 : Int32)), .val (.ref r423_0), .val (.ref r443_0), .unset] [])) (fun _ k => XS.icmpNo X443.here hx rfl (hb hby at_562) rfl (teq (own_hc0_562_3 p0 p1 p2 p3 p4 p5 hc4_1 hc18_3 v8_34 ev8_34 hc45_4 y157 ey157)).2 k) ?_
        refine G_aload X443 hx (hb hby at_565) rfl rfl (pc' := 567) rfl ?_
        refine G_bipush X443 hx (hb hby at_567) (z := 10) rfl (pc' := 569) rfl ?_
        refine Goes.step (S' := T443.setTop (mkF m 570 #[.val (.int p0), .val (.int p1), .val (.int p2), .val (.int p3), .val (.int p4), .val (.int p5), .val (.int (1 : Int32)), .val (.int (0 : Int32)), .val (.long v8_34), .second, .val (.int (17 : Int32)), .val (.ref b301), .val (.ref b341), .val (.int (5 : Int32)), .val (.ref r423_0), .val (.ref r443_0), .unset] [(.int (nar .byte y167))])) (fun _ k => own_baload X443 hx hZ rfl P445 ⟨by decide, by decide⟩ (hb hby at_569) _ k) ?_
        refine G_aload X443 hx (hb hby at_570) rfl rfl (pc' := 572) rfl ?_
        refine G_bipush X443 hx (hb hby at_572) (z := 10) rfl (pc' := 574) rfl ?_
        refine Goes.step (S' := T443.setTop (mkF m 575 #[.val (.int p0), .val (.int p1), .val (.int p2), .val (.int p3), .val (.int p4), .val (.int p5), .val (.int (1 : Int32)), .val (.int (0 : Int32)), .val (.long v8_34), .second, .val (.int (17 : Int32)), .val (.ref b301), .val (.ref b341), .val (.int (5 : Int32)), .val (.ref r423_0), .val (.ref r443_0), .unset] [(.int y167), (.int (nar .byte y167))])) (fun _ k => own_baload X443 hx hZ rfl V453 ⟨by decide, by decide⟩ (hb hby at_574) _ k) ?_
        refine Goes.step (S' := T443.setTop (mkF m 578 #[.val (.int p0), .val (.int p1), .val (.int p2), .val (.int p3), .val (.int p4), .val (.int p5), .val (.int (1 : Int32)), .val (.int (0 : Int32)), .val (.long v8_34), .second, .val (.int (17 : Int32)), .val (.ref b301), .val (.ref b341), .val (.int (5 : Int32)), .val (.ref r423_0), .val (.ref r443_0), .unset] [])) (fun _ k => XS.icmpNo X443.here hx rfl (hb hby at_575) rfl (teq (own_hc0_575_3 p0 p1 p2 p3 p4 p5 hc4_1 hc18_3 v8_34 ev8_34 hc45_4 y167 ey167)).2 k) ?_
        refine G_aload X443 hx (hb hby at_578) rfl rfl (pc' := 580) rfl ?_
        refine G_bipush X443 hx (hb hby at_580) (z := 11) rfl (pc' := 582) rfl ?_
        refine Goes.step (S' := T443.setTop (mkF m 583 #[.val (.int p0), .val (.int p1), .val (.int p2), .val (.int p3), .val (.int p4), .val (.int p5), .val (.int (1 : Int32)), .val (.int (0 : Int32)), .val (.long v8_34), .second, .val (.int (17 : Int32)), .val (.ref b301), .val (.ref b341), .val (.int (5 : Int32)), .val (.ref r423_0), .val (.ref r443_0), .unset] [(.int (nar .byte y174))])) (fun _ k => own_baload X443 hx hZ rfl P445 ⟨by decide, by decide⟩ (hb hby at_582) _ k) ?_
        refine G_aload X443 hx (hb hby at_583) rfl rfl (pc' := 585) rfl ?_
        refine G_bipush X443 hx (hb hby at_585) (z := 11) rfl (pc' := 587) rfl ?_
        refine Goes.step (S' := T443.setTop (mkF m 588 #[.val (.int p0), .val (.int p1), .val (.int p2), .val (.int p3), .val (.int p4), .val (.int p5), .val (.int (1 : Int32)), .val (.int (0 : Int32)), .val (.long v8_34), .second, .val (.int (17 : Int32)), .val (.ref b301), .val (.ref b341), .val (.int (5 : Int32)), .val (.ref r423_0), .val (.ref r443_0), .unset] [(.int y174), (.int (nar .byte y174))])) (fun _ k => own_baload X443 hx hZ rfl V453 ⟨by decide, by decide⟩ (hb hby at_587) _ k) ?_
        refine Goes.step (S' := T443.setTop (mkF m 591 #[.val (.int p0), .val (.int p1), .val (.int p2), .val (.int p3), .val (.int p4), .val (.int p5), .val (.int (1 : Int32)), .val (.int (0 : Int32)), .val (.long v8_34), .second, .val (.int (17 : Int32)), .val (.ref b301), .val (.ref b341), .val (.int (5 : Int32)), .val (.ref r423_0), .val (.ref r443_0), .unset] [])) (fun _ k => XS.icmpNo X443.here hx rfl (hb hby at_588) rfl (teq (own_hc0_588_3 p0 p1 p2 p3 p4 p5 hc4_1 hc18_3 v8_34 ev8_34 hc45_4 y174 ey174)).2 k) ?_
        refine G_iconst X443 hx (hb hby at_591) (z := 1) rfl (pc' := 592) rfl ?_
        refine Goes.step (S' := T443.setTop (mkF m 596 #[.val (.int p0), .val (.int p1), .val (.int p2), .val (.int p3), .val (.int p4), .val (.int p5), .val (.int (1 : Int32)), .val (.int (0 : Int32)), .val (.long v8_34), .second, .val (.int (17 : Int32)), .val (.ref b301), .val (.ref b341), .val (.int (5 : Int32)), .val (.ref r423_0), .val (.ref r443_0), .unset] [(.int (1 : Int32))])) (fun _ k => XS.goto X443.here hx rfl (pc0 := 592) (pc' := 596) rfl (hb hby at_592) (by decide) (by decide) k) ?_
        refine Goes.step (S' := T443.setTop (mkF m 598 #[.val (.int p0), .val (.int p1), .val (.int p2), .val (.int p3), .val (.int p4), .val (.int p5), .val (.int (1 : Int32)), .val (.int (0 : Int32)), .val (.long v8_34), .second, .val (.int (17 : Int32)), .val (.ref b301), .val (.ref b341), .val (.int (5 : Int32)), .val (.ref r423_0), .val (.ref r443_0), .val (.int (1 : Int32))] [])) (fun _ k => XS.istore X443.here hx rfl (hb hby at_596) rfl (l' := #[.val (.int p0), .val (.int p1), .val (.int p2), .val (.int p3), .val (.int p4), .val (.int p5), .val (.int (1 : Int32)), .val (.int (0 : Int32)), .val (.long v8_34), .second, .val (.int (17 : Int32)), .val (.ref b301), .val (.ref b341), .val (.int (5 : Int32)), .val (.ref r423_0), .val (.ref r443_0), .val (.int (1 : Int32))]) rfl k) ?_
        refine G_aload X443 hx (hb hby at_598) rfl rfl (pc' := 600) rfl ?_
        obtain ⟨cq461, kq461, q461a, q461b, q461c⟩ := isOf hZ rfl E_456
        obtain ⟨_, _, ⟨T461, L461, k461, n461⟩, -, X461, ⟨Lc461, hQ461, l461, y461, z461⟩, st461⟩ := X443.virtualBack hx (y := (⟨"com/example/isopod/isopod/RecordHeader", "version", "()I"⟩ : MethodName)) (z := (⟨"com/example/isopod/isopod/RecordHeader", "version", "()I"⟩ : MethodName)) hown (mvT hZ (hw _ (List.mem_of_getElem? (i := 56) rfl))) (mvT hZ (hw _ (List.mem_of_getElem? (i := 57) rfl))) (notFace_of_selects (args := #[]) (mvT hZ (hw _ (List.mem_of_getElem? (i := 59) rfl)))) (mvT hZ (hw _ (List.mem_of_getElem? (i := 59) rfl))) (mvT hZ (hw _ (List.mem_of_getElem? (i := 58) rfl))) (by decide) (backOf (W := 0) (rm10 l Z a0 hw [] r423_0 ((2 : Int32)) v8_34 T443.heap n0 Z460 E_456 F459 F457) hZ (hw _ (List.mem_of_getElem? (i := 60) rfl)) (hw _ (List.mem_of_getElem? (i := 4) rfl)) (by decide) (by decide)) q461a q461c (g := (mkF m 600 #[.val (.int p0), .val (.int p1), .val (.int p2), .val (.int p3), .val (.int p4), .val (.int p5), .val (.int (1 : Int32)), .val (.int (0 : Int32)), .val (.long v8_34), .second, .val (.int (17 : Int32)), .val (.ref b301), .val (.ref b341), .val (.int (5 : Int32)), .val (.ref r423_0), .val (.ref r443_0), .val (.int (1 : Int32))] [(.ref r423_0)])) rfl (by rw [hml]; rfl) (Steps.refl _) (argsL := []) (rest := []) (lenOf pd7 rfl) rfl (by show 2 * 0 + _ ≤ _; exact Nat.le_of_eq rfl) (hb hby at_600) (fun _ _ => ⟨rfl, rfl, (by decide : 5 + 0 ≤ _), (by decide : 79 + 0 ≤ _)⟩)
        dsimp only [Pt.U, Pt.locs, Pt.cells, Pt.slots] at X461 l461 y461 z461 st461 hQ461
        replace X461 := X461.more (Nat.le_of_eq (y461 : k461 = 5)) (Nat.le_of_eq (z461 : n461 = 79))
        obtain ⟨rfl, N461q, e461⟩ := hQ461
        have N462 := own_frapp l461 N447 N461q
        refine Goes.step (S' := T461.setTop (mkF m 603 #[.val (.int p0), .val (.int p1), .val (.int p2), .val (.int p3), .val (.int p4), .val (.int p5), .val (.int (1 : Int32)), .val (.int (0 : Int32)), .val (.long v8_34), .second, .val (.int (17 : Int32)), .val (.ref b301), .val (.ref b341), .val (.int (5 : Int32)), .val (.ref r423_0), .val (.ref r443_0), .val (.int (1 : Int32))] [(.int (f10 (2 : Int32) v8_34))])) (fun _ k => st461.trans k) ?_
        refine G_iload X461 hx (hb hby at_603) rfl (pc' := 605) rfl ?_
        refine Goes.step (S' := T461.setTop (mkF m 608 #[.val (.int p0), .val (.int p1), .val (.int p2), .val (.int p3), .val (.int p4), .val (.int p5), .val (.int (1 : Int32)), .val (.int (0 : Int32)), .val (.long v8_34), .second, .val (.int (17 : Int32)), .val (.ref b301), .val (.ref b341), .val (.int (5 : Int32)), .val (.ref r423_0), .val (.ref r443_0), .val (.int (1 : Int32))] [(.int (f10 (2 : Int32) v8_34))])) (fun _ k => XS.ifNo X461.here hx rfl (hb hby at_605) rfl ((if0 _ _).trans (feq (by decide)).1) k) ?_
        refine G_iconst X461 hx (hb hby at_608) (z := 2) rfl (pc' := 609) rfl ?_
        refine Goes.step (S' := T461.setTop (mkF m 613 #[.val (.int p0), .val (.int p1), .val (.int p2), .val (.int p3), .val (.int p4), .val (.int p5), .val (.int (1 : Int32)), .val (.int (0 : Int32)), .val (.long v8_34), .second, .val (.int (17 : Int32)), .val (.ref b301), .val (.ref b341), .val (.int (5 : Int32)), .val (.ref r423_0), .val (.ref r443_0), .val (.int (1 : Int32))] [(.int (2 : Int32)), (.int (f10 (2 : Int32) v8_34))])) (fun _ k => XS.goto X461.here hx rfl (pc0 := 609) (pc' := 613) rfl (hb hby at_609) (by decide) (by decide) k) ?_
        refine Goes.step (S' := T461.setTop (mkF m 616 #[.val (.int p0), .val (.int p1), .val (.int p2), .val (.int p3), .val (.int p4), .val (.int p5), .val (.int (1 : Int32)), .val (.int (0 : Int32)), .val (.long v8_34), .second, .val (.int (17 : Int32)), .val (.ref b301), .val (.ref b341), .val (.int (5 : Int32)), .val (.ref r423_0), .val (.ref r443_0), .val (.int (1 : Int32))] [])) (fun _ k => XS.icmpNo X461.here hx rfl (hb hby at_613) rfl (teq (own_hc0_613_3 p0 p1 p2 p3 p4 p5 hc4_1 hc18_3 v8_34 ev8_34 hc45_4)).2 k) ?_
        refine G_aload X461 hx (hb hby at_616) rfl rfl (pc' := 618) rfl ?_
        obtain ⟨cq463, kq463, q463a, q463b, q463c⟩ := isOf hZ e461 E_456
        obtain ⟨_, _, ⟨T463, L463, k463, n463⟩, -, X463, ⟨Lc463, hQ463, l463, y463, z463⟩, st463⟩ := X461.virtualBack hx (y := (⟨"com/example/isopod/isopod/RecordHeader", "generation", "()J"⟩ : MethodName)) (z := (⟨"com/example/isopod/isopod/RecordHeader", "generation", "()J"⟩ : MethodName)) hown (mvT hZ (hw _ (List.mem_of_getElem? (i := 61) rfl))) (mvT hZ (hw _ (List.mem_of_getElem? (i := 62) rfl))) (notFace_of_selects (args := #[]) (mvT hZ (hw _ (List.mem_of_getElem? (i := 64) rfl)))) (mvT hZ (hw _ (List.mem_of_getElem? (i := 64) rfl))) (mvT hZ (hw _ (List.mem_of_getElem? (i := 63) rfl))) (by decide) (backOf (W := 0) (rm11 l Z a0 hw [] r423_0 ((2 : Int32)) v8_34 T443.heap n0 Z460 E_456 F459 F457) hZ (hw _ (List.mem_of_getElem? (i := 65) rfl)) (hw _ (List.mem_of_getElem? (i := 4) rfl)) (by decide) (by decide)) q463a q463c (g := (mkF m 618 #[.val (.int p0), .val (.int p1), .val (.int p2), .val (.int p3), .val (.int p4), .val (.int p5), .val (.int (1 : Int32)), .val (.int (0 : Int32)), .val (.long v8_34), .second, .val (.int (17 : Int32)), .val (.ref b301), .val (.ref b341), .val (.int (5 : Int32)), .val (.ref r423_0), .val (.ref r443_0), .val (.int (1 : Int32))] [(.ref r423_0)])) rfl (by rw [hml]; rfl) (Steps.refl _) (argsL := []) (rest := []) (lenOf pd8 rfl) rfl (by show 2 * 0 + _ ≤ _; exact Nat.le_of_eq rfl) (hb hby at_618) (fun _ _ => ⟨rfl, e461, (by decide : 5 + 0 ≤ _), (by decide : 79 + 0 ≤ _)⟩)
        dsimp only [Pt.U, Pt.locs, Pt.cells, Pt.slots] at X463 l463 y463 z463 st463 hQ463
        replace X463 := X463.more (Nat.le_of_eq (y463 : k463 = 5)) (Nat.le_of_eq (z463 : n463 = 79))
        obtain ⟨rfl, N463q, e463⟩ := hQ463
        have N464 := own_frapp l463 N462 N463q
        refine Goes.step (S' := T463.setTop (mkF m 621 #[.val (.int p0), .val (.int p1), .val (.int p2), .val (.int p3), .val (.int p4), .val (.int p5), .val (.int (1 : Int32)), .val (.int (0 : Int32)), .val (.long v8_34), .second, .val (.int (17 : Int32)), .val (.ref b301), .val (.ref b341), .val (.int (5 : Int32)), .val (.ref r423_0), .val (.ref r443_0), .val (.int (1 : Int32))] [(.long (f11 (2 : Int32) v8_34))])) (fun _ k => st463.trans k) ?_
        refine G_iload X463 hx (hb hby at_621) rfl (pc' := 623) rfl ?_
        refine Goes.step (S' := T463.setTop (mkF m 626 #[.val (.int p0), .val (.int p1), .val (.int p2), .val (.int p3), .val (.int p4), .val (.int p5), .val (.int (1 : Int32)), .val (.int (0 : Int32)), .val (.long v8_34), .second, .val (.int (17 : Int32)), .val (.ref b301), .val (.ref b341), .val (.int (5 : Int32)), .val (.ref r423_0), .val (.ref r443_0), .val (.int (1 : Int32))] [(.long (f11 (2 : Int32) v8_34))])) (fun _ k => XS.ifNo X463.here hx rfl (hb hby at_623) rfl ((if0 _ _).trans (feq (by decide)).1) k) ?_
        refine G_lload X463 hx (hb hby at_626) rfl (pc' := 628) rfl ?_
        refine Goes.step (S' := T463.setTop (mkF m 632 #[.val (.int p0), .val (.int p1), .val (.int p2), .val (.int p3), .val (.int p4), .val (.int p5), .val (.int (1 : Int32)), .val (.int (0 : Int32)), .val (.long v8_34), .second, .val (.int (17 : Int32)), .val (.ref b301), .val (.ref b341), .val (.int (5 : Int32)), .val (.ref r423_0), .val (.ref r443_0), .val (.int (1 : Int32))] [(.long v8_34), (.long (f11 (2 : Int32) v8_34))])) (fun _ k => XS.goto X463.here hx rfl (pc0 := 628) (pc' := 632) rfl (hb hby at_628) (by decide) (by decide) k) ?_
        refine Goes.step (S' := T463.setTop (mkF m 633 #[.val (.int p0), .val (.int p1), .val (.int p2), .val (.int p3), .val (.int p4), .val (.int p5), .val (.int (1 : Int32)), .val (.int (0 : Int32)), .val (.long v8_34), .second, .val (.int (17 : Int32)), .val (.ref b301), .val (.ref b341), .val (.int (5 : Int32)), .val (.ref r423_0), .val (.ref r443_0), .val (.int (1 : Int32))] [(.int (lcmpW (f11 (2 : Int32) v8_34) v8_34))])) (fun _ k => XS.lcmp X463.here hx rfl (hb hby at_632) rfl k) ?_
        refine Goes.step (S' := T463.setTop (mkF m 636 #[.val (.int p0), .val (.int p1), .val (.int p2), .val (.int p3), .val (.int p4), .val (.int p5), .val (.int (1 : Int32)), .val (.int (0 : Int32)), .val (.long v8_34), .second, .val (.int (17 : Int32)), .val (.ref b301), .val (.ref b341), .val (.int (5 : Int32)), .val (.ref r423_0), .val (.ref r443_0), .val (.int (1 : Int32))] [])) (fun _ k => XS.ifNo X463.here hx rfl (hb hby at_633) rfl ((if0 _ _).trans (teq ((lw_eq (f11 (2 : Int32) v8_34) v8_34).mpr (own_hc0_633_3 p0 p1 p2 p3 p4 p5 hc4_1 hc18_3 v8_34 ev8_34 hc45_4))).2) k) ?_
        refine G_aload X463 hx (hb hby at_636) rfl rfl (pc' := 638) rfl ?_
        obtain ⟨cq465, kq465, q465a, q465b, q465c⟩ := isOf hZ e463 E_456
        obtain ⟨_, _, ⟨T465, L465, k465, n465⟩, -, X465, ⟨Lc465, hQ465, l465, y465, z465⟩, st465⟩ := X463.virtualBack hx (y := (⟨"com/example/isopod/isopod/RecordHeader", "length", "()I"⟩ : MethodName)) (z := (⟨"com/example/isopod/isopod/RecordHeader", "length", "()I"⟩ : MethodName)) hown (mvT hZ (hw _ (List.mem_of_getElem? (i := 66) rfl))) (mvT hZ (hw _ (List.mem_of_getElem? (i := 67) rfl))) (notFace_of_selects (args := #[]) (mvT hZ (hw _ (List.mem_of_getElem? (i := 69) rfl)))) (mvT hZ (hw _ (List.mem_of_getElem? (i := 69) rfl))) (mvT hZ (hw _ (List.mem_of_getElem? (i := 68) rfl))) (by decide) (backOf (W := 0) (rm12 l Z a0 hw [] r423_0 ((2 : Int32)) T443.heap n0 Z460 E_456 F459) hZ (hw _ (List.mem_of_getElem? (i := 70) rfl)) (hw _ (List.mem_of_getElem? (i := 4) rfl)) (by decide) (by decide)) q465a q465c (g := (mkF m 638 #[.val (.int p0), .val (.int p1), .val (.int p2), .val (.int p3), .val (.int p4), .val (.int p5), .val (.int (1 : Int32)), .val (.int (0 : Int32)), .val (.long v8_34), .second, .val (.int (17 : Int32)), .val (.ref b301), .val (.ref b341), .val (.int (5 : Int32)), .val (.ref r423_0), .val (.ref r443_0), .val (.int (1 : Int32))] [(.ref r423_0)])) rfl (by rw [hml]; rfl) (Steps.refl _) (argsL := []) (rest := []) (lenOf pd7 rfl) rfl (by show 2 * 0 + _ ≤ _; exact Nat.le_of_eq rfl) (hb hby at_638) (fun _ _ => ⟨rfl, e463, (by decide : 5 + 0 ≤ _), (by decide : 79 + 0 ≤ _)⟩)
        dsimp only [Pt.U, Pt.locs, Pt.cells, Pt.slots] at X465 l465 y465 z465 st465 hQ465
        replace X465 := X465.more (Nat.le_of_eq (y465 : k465 = 5)) (Nat.le_of_eq (z465 : n465 = 79))
        obtain ⟨rfl, N465q, e465⟩ := hQ465
        have N466 := own_frapp l465 N464 N465q
        refine Goes.step (S' := T465.setTop (mkF m 641 #[.val (.int p0), .val (.int p1), .val (.int p2), .val (.int p3), .val (.int p4), .val (.int p5), .val (.int (1 : Int32)), .val (.int (0 : Int32)), .val (.long v8_34), .second, .val (.int (17 : Int32)), .val (.ref b301), .val (.ref b341), .val (.int (5 : Int32)), .val (.ref r423_0), .val (.ref r443_0), .val (.int (1 : Int32))] [(.int (f12 (2 : Int32)))])) (fun _ k => st465.trans k) ?_
        refine G_iload X465 hx (hb hby at_641) rfl (pc' := 643) rfl ?_
        refine Goes.step (S' := T465.setTop (mkF m 646 #[.val (.int p0), .val (.int p1), .val (.int p2), .val (.int p3), .val (.int p4), .val (.int p5), .val (.int (1 : Int32)), .val (.int (0 : Int32)), .val (.long v8_34), .second, .val (.int (17 : Int32)), .val (.ref b301), .val (.ref b341), .val (.int (5 : Int32)), .val (.ref r423_0), .val (.ref r443_0), .val (.int (1 : Int32))] [])) (fun _ k => XS.icmpNo X465.here hx rfl (hb hby at_643) rfl (teq (own_hc0_643_3 p0 p1 p2 p3 p4 p5 hc4_1 hc18_3 v8_34 ev8_34 hc45_4)).2 k) ?_
        refine G_iload X465 hx (hb hby at_646) rfl (pc' := 648) rfl ?_
        refine Goes.step (S' := T465.setTop (mkF m 651 #[.val (.int p0), .val (.int p1), .val (.int p2), .val (.int p3), .val (.int p4), .val (.int p5), .val (.int (1 : Int32)), .val (.int (0 : Int32)), .val (.long v8_34), .second, .val (.int (17 : Int32)), .val (.ref b301), .val (.ref b341), .val (.int (5 : Int32)), .val (.ref r423_0), .val (.ref r443_0), .val (.int (1 : Int32))] [])) (fun _ k => XS.ifNo X465.here hx rfl (hb hby at_648) rfl ((if0 _ _).trans (feq (by decide)).1) k) ?_
        refine G_iconst X465 hx (hb hby at_651) (z := 1) rfl (pc' := 652) rfl ?_
        refine Goes.step (S' := T465.setTop (mkF m 656 #[.val (.int p0), .val (.int p1), .val (.int p2), .val (.int p3), .val (.int p4), .val (.int p5), .val (.int (1 : Int32)), .val (.int (0 : Int32)), .val (.long v8_34), .second, .val (.int (17 : Int32)), .val (.ref b301), .val (.ref b341), .val (.int (5 : Int32)), .val (.ref r423_0), .val (.ref r443_0), .val (.int (1 : Int32))] [(.int (1 : Int32))])) (fun _ k => XS.goto X465.here hx rfl (pc0 := 652) (pc' := 656) rfl (hb hby at_652) (by decide) (by decide) k) ?_
        refine Goes.retN X465 hx Bd.notSynchronized (t := .boolean) Bd.returns (by simp) (hb hby at_656) (by decide) (by decide) ?_
        exact ⟨rfl, N466⟩
    · refine Goes.step (S' := s₁.setTop (mkF m 21 #[.val (.int p0), .val (.int p1), .val (.int p2), .val (.int p3), .val (.int p4), .val (.int p5), .val (.int (1 : Int32)), .unset, .unset, .unset, .unset, .unset, .unset, .unset, .unset, .unset, .unset] [])) (fun _ k => XS.ifNo X0.here hx rfl (hb hby at_18) rfl ((if0 _ _).trans (feq hc18_3).1) k) ?_
      refine G_iconst X0 hx (hb hby at_21) (z := 1) rfl (pc' := 22) rfl ?_
      refine Goes.step (S' := s₁.setTop (mkF m 26 #[.val (.int p0), .val (.int p1), .val (.int p2), .val (.int p3), .val (.int p4), .val (.int p5), .val (.int (1 : Int32)), .unset, .unset, .unset, .unset, .unset, .unset, .unset, .unset, .unset, .unset] [(.int (1 : Int32))])) (fun _ k => XS.goto X0.here hx rfl (pc0 := 22) (pc' := 26) rfl (hb hby at_22) (by decide) (by decide) k) ?_
      refine Goes.step (S' := s₁.setTop (mkF m 28 #[.val (.int p0), .val (.int p1), .val (.int p2), .val (.int p3), .val (.int p4), .val (.int p5), .val (.int (1 : Int32)), .val (.int (1 : Int32)), .unset, .unset, .unset, .unset, .unset, .unset, .unset, .unset, .unset] [])) (fun _ k => XS.istore X0.here hx rfl (hb hby at_26) rfl (l' := #[.val (.int p0), .val (.int p1), .val (.int p2), .val (.int p3), .val (.int p4), .val (.int p5), .val (.int (1 : Int32)), .val (.int (1 : Int32)), .unset, .unset, .unset, .unset, .unset, .unset, .unset, .unset, .unset]) rfl k) ?_
      refine G_iloadN X0 hx (hb hby at_28) rfl (pc' := 29) rfl ?_
      refine Goes.step (S' := s₁.setTop (mkF m 30 #[.val (.int p0), .val (.int p1), .val (.int p2), .val (.int p3), .val (.int p4), .val (.int p5), .val (.int (1 : Int32)), .val (.int (1 : Int32)), .unset, .unset, .unset, .unset, .unset, .unset, .unset, .unset, .unset] [(.long (p0.toInt64))])) (fun _ k => XS.i2l X0.here hx rfl (hb hby at_29) rfl k) ?_
      refine Goes.step (S' := s₁.setTop (mkF m 33 #[.val (.int p0), .val (.int p1), .val (.int p2), .val (.int p3), .val (.int p4), .val (.int p5), .val (.int (1 : Int32)), .val (.int (1 : Int32)), .unset, .unset, .unset, .unset, .unset, .unset, .unset, .unset, .unset] [(.long (4294967295 : Int64)), (.long (p0.toInt64))])) (fun _ k => X0.ldc2Long hx hown (mvT hZ (hw _ (List.mem_of_getElem? (i := 0) rfl))) (g := (mkF m 30 #[.val (.int p0), .val (.int p1), .val (.int p2), .val (.int p3), .val (.int p4), .val (.int p5), .val (.int (1 : Int32)), .val (.int (1 : Int32)), .unset, .unset, .unset, .unset, .unset, .unset, .unset, .unset, .unset] [(.long (p0.toInt64))])) rfl (hb hby at_30) _ k) ?_
      refine Goes.step (S' := s₁.setTop (mkF m 34 #[.val (.int p0), .val (.int p1), .val (.int p2), .val (.int p3), .val (.int p4), .val (.int p5), .val (.int (1 : Int32)), .val (.int (1 : Int32)), .unset, .unset, .unset, .unset, .unset, .unset, .unset, .unset, .unset] [(.long ((p0.toInt64) &&& (4294967295 : Int64)))])) (fun _ k => XS.land X0.here hx rfl (hb hby at_33) rfl k) ?_
      refine Goes.step (S' := s₁.setTop (mkF m 36 #[.val (.int p0), .val (.int p1), .val (.int p2), .val (.int p3), .val (.int p4), .val (.int p5), .val (.int (1 : Int32)), .val (.int (1 : Int32)), .val (.long ((p0.toInt64) &&& (4294967295 : Int64))), .second, .unset, .unset, .unset, .unset, .unset, .unset, .unset] [])) (fun _ k => XS.lstore X0.here hx rfl (hb hby at_34) rfl (l' := #[.val (.int p0), .val (.int p1), .val (.int p2), .val (.int p3), .val (.int p4), .val (.int p5), .val (.int (1 : Int32)), .val (.int (1 : Int32)), .val (.long ((p0.toInt64) &&& (4294967295 : Int64))), .second, .unset, .unset, .unset, .unset, .unset, .unset, .unset]) rfl k) ?_
      obtain ⟨v8_34, ev8_34⟩ : ∃ z : Int64, z = ((p0.toInt64) &&& (4294967295 : Int64)) := ⟨_, rfl⟩
      rw [← ev8_34]
      refine G_iload X0 hx (hb hby at_36) rfl (pc' := 38) rfl ?_
      refine Goes.step (S' := s₁.setTop (mkF m 41 #[.val (.int p0), .val (.int p1), .val (.int p2), .val (.int p3), .val (.int p4), .val (.int p5), .val (.int (1 : Int32)), .val (.int (1 : Int32)), .val (.long v8_34), .second, .unset, .unset, .unset, .unset, .unset, .unset, .unset] [])) (fun _ k => XS.ifNo X0.here hx rfl (hb hby at_38) rfl ((if0 _ _).trans (feq (by decide)).1) k) ?_
      refine G_lload X0 hx (hb hby at_41) rfl (pc' := 43) rfl ?_
      refine Goes.step (S' := s₁.setTop (mkF m 44 #[.val (.int p0), .val (.int p1), .val (.int p2), .val (.int p3), .val (.int p4), .val (.int p5), .val (.int (1 : Int32)), .val (.int (1 : Int32)), .val (.long v8_34), .second, .unset, .unset, .unset, .unset, .unset, .unset, .unset] [(.long (0 : Int64)), (.long v8_34)])) (fun _ k => XS.lconst X0.here hx rfl (hb hby at_43) k) ?_
      refine Goes.step (S' := s₁.setTop (mkF m 45 #[.val (.int p0), .val (.int p1), .val (.int p2), .val (.int p3), .val (.int p4), .val (.int p5), .val (.int (1 : Int32)), .val (.int (1 : Int32)), .val (.long v8_34), .second, .unset, .unset, .unset, .unset, .unset, .unset, .unset] [(.int (lcmpW v8_34 (0 : Int64)))])) (fun _ k => XS.lcmp X0.here hx rfl (hb hby at_44) rfl k) ?_
      by_cases hc45_5 : v8_34 = (0 : Int64)
      · refine Goes.step (S' := s₁.setTop (mkF m 48 #[.val (.int p0), .val (.int p1), .val (.int p2), .val (.int p3), .val (.int p4), .val (.int p5), .val (.int (1 : Int32)), .val (.int (1 : Int32)), .val (.long v8_34), .second, .unset, .unset, .unset, .unset, .unset, .unset, .unset] [])) (fun _ k => XS.ifNo X0.here hx rfl (hb hby at_45) rfl ((if0 _ _).trans (teq ((lw_eq v8_34 (0 : Int64)).mpr hc45_5)).2) k) ?_
        refine G_iconst X0 hx (hb hby at_48) (z := 1) rfl (pc' := 49) rfl ?_
        refine Goes.retN X0 hx Bd.notSynchronized (t := .boolean) Bd.returns (by simp) (hb hby at_49) (by decide) (by decide) ?_
        exact ⟨rfl, N0⟩
      · refine Goes.step (S' := s₁.setTop (mkF m 50 #[.val (.int p0), .val (.int p1), .val (.int p2), .val (.int p3), .val (.int p4), .val (.int p5), .val (.int (1 : Int32)), .val (.int (1 : Int32)), .val (.long v8_34), .second, .unset, .unset, .unset, .unset, .unset, .unset, .unset] [])) (fun _ k => XS.ifYes X0.here hx rfl (pc0 := 45) (pc' := 50) rfl (hb hby at_45) rfl ((if0 _ _).trans (feq (mt (lw_eq v8_34 (0 : Int64)).mp hc45_5)).2) (by decide) (by decide) k) ?_
        refine G_iload X0 hx (hb hby at_50) rfl (pc' := 52) rfl ?_
        refine Goes.step (S' := s₁.setTop (mkF m 55 #[.val (.int p0), .val (.int p1), .val (.int p2), .val (.int p3), .val (.int p4), .val (.int p5), .val (.int (1 : Int32)), .val (.int (1 : Int32)), .val (.long v8_34), .second, .unset, .unset, .unset, .unset, .unset, .unset, .unset] [])) (fun _ k => XS.ifNo X0.here hx rfl (hb hby at_52) rfl ((if0 _ _).trans (feq (by decide)).1) k) ?_
        refine G_bipush X0 hx (hb hby at_55) (z := 17) rfl (pc' := 57) rfl ?_
        refine Goes.step (S' := s₁.setTop (mkF m 62 #[.val (.int p0), .val (.int p1), .val (.int p2), .val (.int p3), .val (.int p4), .val (.int p5), .val (.int (1 : Int32)), .val (.int (1 : Int32)), .val (.long v8_34), .second, .unset, .unset, .unset, .unset, .unset, .unset, .unset] [(.int (17 : Int32))])) (fun _ k => XS.goto X0.here hx rfl (pc0 := 57) (pc' := 62) rfl (hb hby at_57) (by decide) (by decide) k) ?_
        refine Goes.step (S' := s₁.setTop (mkF m 64 #[.val (.int p0), .val (.int p1), .val (.int p2), .val (.int p3), .val (.int p4), .val (.int p5), .val (.int (1 : Int32)), .val (.int (1 : Int32)), .val (.long v8_34), .second, .val (.int (17 : Int32)), .unset, .unset, .unset, .unset, .unset, .unset] [])) (fun _ k => XS.istore X0.here hx rfl (hb hby at_62) rfl (l' := #[.val (.int p0), .val (.int p1), .val (.int p2), .val (.int p3), .val (.int p4), .val (.int p5), .val (.int (1 : Int32)), .val (.int (1 : Int32)), .val (.long v8_34), .second, .val (.int (17 : Int32)), .unset, .unset, .unset, .unset, .unset, .unset]) rfl k) ?_
        refine G_bipush X0 hx (hb hby at_64) (z := 12) rfl (pc' := 66) rfl ?_
        obtain ⟨T467, h467, k467, X467, e467, E467, A467, hk467, st467⟩ := own_newB X0 hx hZ (hw _ (List.mem_of_getElem? (i := 1) rfl)) e0 (g := (mkF m 66 #[.val (.int p0), .val (.int p1), .val (.int p2), .val (.int p3), .val (.int p4), .val (.int p5), .val (.int (1 : Int32)), .val (.int (1 : Int32)), .val (.long v8_34), .second, .val (.int (17 : Int32)), .unset, .unset, .unset, .unset, .unset, .unset] [(.int (12 : Int32))])) rfl (hb hby at_66) rfl (by decide) (cap := 12) (by decide) (by decide) (by decide) (by decide)
        obtain ⟨b467, g467⟩ : ∃ z, z = h0.size := ⟨_, rfl⟩
        rw [← g467] at A467 st467
        have g468 : n0 ≤ b467 := Nat.le_trans Z0 (Nat.le_of_eq g467.symm)
        have Z469 : n0 ≤ h467.size := Nat.le_trans Z0 E467.1
        have V470 : AI Z h467 b467 k467 .byte (12 : Int32) [(0 : Int32), (0 : Int32), (0 : Int32), (0 : Int32), (0 : Int32), (0 : Int32), (0 : Int32), (0 : Int32), (0 : Int32), (0 : Int32), (0 : Int32), (0 : Int32)] := own_new A467 (by decide) rfl
        refine Goes.step (S' := T467.setTop (mkF m 68 #[.val (.int p0), .val (.int p1), .val (.int p2), .val (.int p3), .val (.int p4), .val (.int p5), .val (.int (1 : Int32)), .val (.int (1 : Int32)), .val (.long v8_34), .second, .val (.int (17 : Int32)), .unset, .unset, .unset, .unset, .unset, .unset] [(.ref b467)])) st467 ?_
        refine Goes.step (S' := T467.setTop (mkF m 70 #[.val (.int p0), .val (.int p1), .val (.int p2), .val (.int p3), .val (.int p4), .val (.int p5), .val (.int (1 : Int32)), .val (.int (1 : Int32)), .val (.long v8_34), .second, .val (.int (17 : Int32)), .val (.ref b467), .unset, .unset, .unset, .unset, .unset] [])) (fun _ k => XS.astore X467.here hx rfl (hb hby at_68) rfl rfl (l' := #[.val (.int p0), .val (.int p1), .val (.int p2), .val (.int p3), .val (.int p4), .val (.int p5), .val (.int (1 : Int32)), .val (.int (1 : Int32)), .val (.long v8_34), .second, .val (.int (17 : Int32)), .val (.ref b467), .unset, .unset, .unset, .unset, .unset]) rfl k) ?_
        refine G_aload X467 hx (hb hby at_70) rfl rfl (pc' := 72) rfl ?_
        refine G_iconst X467 hx (hb hby at_72) (z := 0) rfl (pc' := 73) rfl ?_
        refine G_iloadN X467 hx (hb hby at_73) rfl (pc' := 74) rfl ?_
        refine G_bipush X467 hx (hb hby at_74) (z := 24) rfl (pc' := 76) rfl ?_
        refine G_iushr X467 hx (hb hby at_76) (pc' := 77) rfl ?_
        refine G_i2b X467 hx (hb hby at_77) (pc' := 78) rfl ?_
        obtain ⟨T471, h471, X471, e471, W471, V_471, st471⟩ := own_bastore X467 hx hZ e467 V470 ⟨by decide, by decide⟩ (g := (mkF m 78 #[.val (.int p0), .val (.int p1), .val (.int p2), .val (.int p3), .val (.int p4), .val (.int p5), .val (.int (1 : Int32)), .val (.int (1 : Int32)), .val (.long v8_34), .second, .val (.int (17 : Int32)), .val (.ref b467), .unset, .unset, .unset, .unset, .unset] [(.int (((p1.toUInt32 >>> ((24 : Int32) &&& 31).toUInt32).toInt32).toInt8.toInt32)), (.int (0 : Int32)), (.ref b467)])) rfl rfl (hb hby at_78)
        obtain ⟨y78, ey78⟩ : ∃ z : Int32, z = (nar .byte (((p1.toUInt32 >>> ((24 : Int32) &&& 31).toUInt32).toInt32).toInt8.toInt32)) := ⟨_, rfl⟩
        replace V_471 : AI Z h471 b467 k467 .byte (12 : Int32) [y78, (0 : Int32), (0 : Int32), (0 : Int32), (0 : Int32), (0 : Int32), (0 : Int32), (0 : Int32), (0 : Int32), (0 : Int32), (0 : Int32), (0 : Int32)] := by rw [ey78]; exact V_471
        have N472 := Fr.snoc X471 N0 g468
        have Z473 : n0 ≤ h471.size := Nat.le_trans Z469 (Nat.le_of_eq W471.size.symm)
        refine Goes.step (S' := T471.setTop (mkF m 79 #[.val (.int p0), .val (.int p1), .val (.int p2), .val (.int p3), .val (.int p4), .val (.int p5), .val (.int (1 : Int32)), .val (.int (1 : Int32)), .val (.long v8_34), .second, .val (.int (17 : Int32)), .val (.ref b467), .unset, .unset, .unset, .unset, .unset] [])) st471 ?_
        refine G_aload X471 hx (hb hby at_79) rfl rfl (pc' := 81) rfl ?_
        refine G_iconst X471 hx (hb hby at_81) (z := 1) rfl (pc' := 82) rfl ?_
        refine G_iloadN X471 hx (hb hby at_82) rfl (pc' := 83) rfl ?_
        refine G_bipush X471 hx (hb hby at_83) (z := 16) rfl (pc' := 85) rfl ?_
        refine G_iushr X471 hx (hb hby at_85) (pc' := 86) rfl ?_
        refine G_i2b X471 hx (hb hby at_86) (pc' := 87) rfl ?_
        obtain ⟨T474, h474, X474, e474, W474, V_474, st474⟩ := own_bastore X471 hx hZ e471 V_471 ⟨by decide, by decide⟩ (g := (mkF m 87 #[.val (.int p0), .val (.int p1), .val (.int p2), .val (.int p3), .val (.int p4), .val (.int p5), .val (.int (1 : Int32)), .val (.int (1 : Int32)), .val (.long v8_34), .second, .val (.int (17 : Int32)), .val (.ref b467), .unset, .unset, .unset, .unset, .unset] [(.int (((p1.toUInt32 >>> ((16 : Int32) &&& 31).toUInt32).toInt32).toInt8.toInt32)), (.int (1 : Int32)), (.ref b467)])) rfl rfl (hb hby at_87)
        obtain ⟨y87, ey87⟩ : ∃ z : Int32, z = (nar .byte (((p1.toUInt32 >>> ((16 : Int32) &&& 31).toUInt32).toInt32).toInt8.toInt32)) := ⟨_, rfl⟩
        replace V_474 : AI Z h474 b467 k467 .byte (12 : Int32) [y78, y87, (0 : Int32), (0 : Int32), (0 : Int32), (0 : Int32), (0 : Int32), (0 : Int32), (0 : Int32), (0 : Int32), (0 : Int32), (0 : Int32)] := by rw [ey87]; exact V_474
        have N475 := Fr.snoc X474 N472 g468
        have Z476 : n0 ≤ h474.size := Nat.le_trans Z473 (Nat.le_of_eq W474.size.symm)
        refine Goes.step (S' := T474.setTop (mkF m 88 #[.val (.int p0), .val (.int p1), .val (.int p2), .val (.int p3), .val (.int p4), .val (.int p5), .val (.int (1 : Int32)), .val (.int (1 : Int32)), .val (.long v8_34), .second, .val (.int (17 : Int32)), .val (.ref b467), .unset, .unset, .unset, .unset, .unset] [])) st474 ?_
        refine G_aload X474 hx (hb hby at_88) rfl rfl (pc' := 90) rfl ?_
        refine G_iconst X474 hx (hb hby at_90) (z := 2) rfl (pc' := 91) rfl ?_
        refine G_iloadN X474 hx (hb hby at_91) rfl (pc' := 92) rfl ?_
        refine G_bipush X474 hx (hb hby at_92) (z := 8) rfl (pc' := 94) rfl ?_
        refine G_iushr X474 hx (hb hby at_94) (pc' := 95) rfl ?_
        refine G_i2b X474 hx (hb hby at_95) (pc' := 96) rfl ?_
        obtain ⟨T477, h477, X477, e477, W477, V_477, st477⟩ := own_bastore X474 hx hZ e474 V_474 ⟨by decide, by decide⟩ (g := (mkF m 96 #[.val (.int p0), .val (.int p1), .val (.int p2), .val (.int p3), .val (.int p4), .val (.int p5), .val (.int (1 : Int32)), .val (.int (1 : Int32)), .val (.long v8_34), .second, .val (.int (17 : Int32)), .val (.ref b467), .unset, .unset, .unset, .unset, .unset] [(.int (((p1.toUInt32 >>> ((8 : Int32) &&& 31).toUInt32).toInt32).toInt8.toInt32)), (.int (2 : Int32)), (.ref b467)])) rfl rfl (hb hby at_96)
        obtain ⟨y96, ey96⟩ : ∃ z : Int32, z = (nar .byte (((p1.toUInt32 >>> ((8 : Int32) &&& 31).toUInt32).toInt32).toInt8.toInt32)) := ⟨_, rfl⟩
        replace V_477 : AI Z h477 b467 k467 .byte (12 : Int32) [y78, y87, y96, (0 : Int32), (0 : Int32), (0 : Int32), (0 : Int32), (0 : Int32), (0 : Int32), (0 : Int32), (0 : Int32), (0 : Int32)] := by rw [ey96]; exact V_477
        have N478 := Fr.snoc X477 N475 g468
        have Z479 : n0 ≤ h477.size := Nat.le_trans Z476 (Nat.le_of_eq W477.size.symm)
        refine Goes.step (S' := T477.setTop (mkF m 97 #[.val (.int p0), .val (.int p1), .val (.int p2), .val (.int p3), .val (.int p4), .val (.int p5), .val (.int (1 : Int32)), .val (.int (1 : Int32)), .val (.long v8_34), .second, .val (.int (17 : Int32)), .val (.ref b467), .unset, .unset, .unset, .unset, .unset] [])) st477 ?_
        refine G_aload X477 hx (hb hby at_97) rfl rfl (pc' := 99) rfl ?_
        refine G_iconst X477 hx (hb hby at_99) (z := 3) rfl (pc' := 100) rfl ?_
        refine G_iloadN X477 hx (hb hby at_100) rfl (pc' := 101) rfl ?_
        refine G_i2b X477 hx (hb hby at_101) (pc' := 102) rfl ?_
        obtain ⟨T480, h480, X480, e480, W480, V_480, st480⟩ := own_bastore X477 hx hZ e477 V_477 ⟨by decide, by decide⟩ (g := (mkF m 102 #[.val (.int p0), .val (.int p1), .val (.int p2), .val (.int p3), .val (.int p4), .val (.int p5), .val (.int (1 : Int32)), .val (.int (1 : Int32)), .val (.long v8_34), .second, .val (.int (17 : Int32)), .val (.ref b467), .unset, .unset, .unset, .unset, .unset] [(.int (p1.toInt8.toInt32)), (.int (3 : Int32)), (.ref b467)])) rfl rfl (hb hby at_102)
        obtain ⟨y102, ey102⟩ : ∃ z : Int32, z = (nar .byte (p1.toInt8.toInt32)) := ⟨_, rfl⟩
        replace V_480 : AI Z h480 b467 k467 .byte (12 : Int32) [y78, y87, y96, y102, (0 : Int32), (0 : Int32), (0 : Int32), (0 : Int32), (0 : Int32), (0 : Int32), (0 : Int32), (0 : Int32)] := by rw [ey102]; exact V_480
        have N481 := Fr.snoc X480 N478 g468
        have Z482 : n0 ≤ h480.size := Nat.le_trans Z479 (Nat.le_of_eq W480.size.symm)
        refine Goes.step (S' := T480.setTop (mkF m 103 #[.val (.int p0), .val (.int p1), .val (.int p2), .val (.int p3), .val (.int p4), .val (.int p5), .val (.int (1 : Int32)), .val (.int (1 : Int32)), .val (.long v8_34), .second, .val (.int (17 : Int32)), .val (.ref b467), .unset, .unset, .unset, .unset, .unset] [])) st480 ?_
        refine G_aload X480 hx (hb hby at_103) rfl rfl (pc' := 105) rfl ?_
        refine G_iconst X480 hx (hb hby at_105) (z := 4) rfl (pc' := 106) rfl ?_
        refine G_iloadN X480 hx (hb hby at_106) rfl (pc' := 107) rfl ?_
        refine G_bipush X480 hx (hb hby at_107) (z := 24) rfl (pc' := 109) rfl ?_
        refine G_iushr X480 hx (hb hby at_109) (pc' := 110) rfl ?_
        refine G_i2b X480 hx (hb hby at_110) (pc' := 111) rfl ?_
        obtain ⟨T483, h483, X483, e483, W483, V_483, st483⟩ := own_bastore X480 hx hZ e480 V_480 ⟨by decide, by decide⟩ (g := (mkF m 111 #[.val (.int p0), .val (.int p1), .val (.int p2), .val (.int p3), .val (.int p4), .val (.int p5), .val (.int (1 : Int32)), .val (.int (1 : Int32)), .val (.long v8_34), .second, .val (.int (17 : Int32)), .val (.ref b467), .unset, .unset, .unset, .unset, .unset] [(.int (((p2.toUInt32 >>> ((24 : Int32) &&& 31).toUInt32).toInt32).toInt8.toInt32)), (.int (4 : Int32)), (.ref b467)])) rfl rfl (hb hby at_111)
        obtain ⟨y111, ey111⟩ : ∃ z : Int32, z = (nar .byte (((p2.toUInt32 >>> ((24 : Int32) &&& 31).toUInt32).toInt32).toInt8.toInt32)) := ⟨_, rfl⟩
        replace V_483 : AI Z h483 b467 k467 .byte (12 : Int32) [y78, y87, y96, y102, y111, (0 : Int32), (0 : Int32), (0 : Int32), (0 : Int32), (0 : Int32), (0 : Int32), (0 : Int32)] := by rw [ey111]; exact V_483
        have N484 := Fr.snoc X483 N481 g468
        have Z485 : n0 ≤ h483.size := Nat.le_trans Z482 (Nat.le_of_eq W483.size.symm)
        refine Goes.step (S' := T483.setTop (mkF m 112 #[.val (.int p0), .val (.int p1), .val (.int p2), .val (.int p3), .val (.int p4), .val (.int p5), .val (.int (1 : Int32)), .val (.int (1 : Int32)), .val (.long v8_34), .second, .val (.int (17 : Int32)), .val (.ref b467), .unset, .unset, .unset, .unset, .unset] [])) st483 ?_
        refine G_aload X483 hx (hb hby at_112) rfl rfl (pc' := 114) rfl ?_
        refine G_iconst X483 hx (hb hby at_114) (z := 5) rfl (pc' := 115) rfl ?_
        refine G_iloadN X483 hx (hb hby at_115) rfl (pc' := 116) rfl ?_
        refine G_bipush X483 hx (hb hby at_116) (z := 16) rfl (pc' := 118) rfl ?_
        refine G_iushr X483 hx (hb hby at_118) (pc' := 119) rfl ?_
        refine G_i2b X483 hx (hb hby at_119) (pc' := 120) rfl ?_
        obtain ⟨T486, h486, X486, e486, W486, V_486, st486⟩ := own_bastore X483 hx hZ e483 V_483 ⟨by decide, by decide⟩ (g := (mkF m 120 #[.val (.int p0), .val (.int p1), .val (.int p2), .val (.int p3), .val (.int p4), .val (.int p5), .val (.int (1 : Int32)), .val (.int (1 : Int32)), .val (.long v8_34), .second, .val (.int (17 : Int32)), .val (.ref b467), .unset, .unset, .unset, .unset, .unset] [(.int (((p2.toUInt32 >>> ((16 : Int32) &&& 31).toUInt32).toInt32).toInt8.toInt32)), (.int (5 : Int32)), (.ref b467)])) rfl rfl (hb hby at_120)
        obtain ⟨y120, ey120⟩ : ∃ z : Int32, z = (nar .byte (((p2.toUInt32 >>> ((16 : Int32) &&& 31).toUInt32).toInt32).toInt8.toInt32)) := ⟨_, rfl⟩
        replace V_486 : AI Z h486 b467 k467 .byte (12 : Int32) [y78, y87, y96, y102, y111, y120, (0 : Int32), (0 : Int32), (0 : Int32), (0 : Int32), (0 : Int32), (0 : Int32)] := by rw [ey120]; exact V_486
        have N487 := Fr.snoc X486 N484 g468
        have Z488 : n0 ≤ h486.size := Nat.le_trans Z485 (Nat.le_of_eq W486.size.symm)
        refine Goes.step (S' := T486.setTop (mkF m 121 #[.val (.int p0), .val (.int p1), .val (.int p2), .val (.int p3), .val (.int p4), .val (.int p5), .val (.int (1 : Int32)), .val (.int (1 : Int32)), .val (.long v8_34), .second, .val (.int (17 : Int32)), .val (.ref b467), .unset, .unset, .unset, .unset, .unset] [])) st486 ?_
        refine G_aload X486 hx (hb hby at_121) rfl rfl (pc' := 123) rfl ?_
        refine G_bipush X486 hx (hb hby at_123) (z := 6) rfl (pc' := 125) rfl ?_
        refine G_iloadN X486 hx (hb hby at_125) rfl (pc' := 126) rfl ?_
        refine G_bipush X486 hx (hb hby at_126) (z := 8) rfl (pc' := 128) rfl ?_
        refine G_iushr X486 hx (hb hby at_128) (pc' := 129) rfl ?_
        refine G_i2b X486 hx (hb hby at_129) (pc' := 130) rfl ?_
        obtain ⟨T489, h489, X489, e489, W489, V_489, st489⟩ := own_bastore X486 hx hZ e486 V_486 ⟨by decide, by decide⟩ (g := (mkF m 130 #[.val (.int p0), .val (.int p1), .val (.int p2), .val (.int p3), .val (.int p4), .val (.int p5), .val (.int (1 : Int32)), .val (.int (1 : Int32)), .val (.long v8_34), .second, .val (.int (17 : Int32)), .val (.ref b467), .unset, .unset, .unset, .unset, .unset] [(.int (((p2.toUInt32 >>> ((8 : Int32) &&& 31).toUInt32).toInt32).toInt8.toInt32)), (.int (6 : Int32)), (.ref b467)])) rfl rfl (hb hby at_130)
        obtain ⟨y130, ey130⟩ : ∃ z : Int32, z = (nar .byte (((p2.toUInt32 >>> ((8 : Int32) &&& 31).toUInt32).toInt32).toInt8.toInt32)) := ⟨_, rfl⟩
        replace V_489 : AI Z h489 b467 k467 .byte (12 : Int32) [y78, y87, y96, y102, y111, y120, y130, (0 : Int32), (0 : Int32), (0 : Int32), (0 : Int32), (0 : Int32)] := by rw [ey130]; exact V_489
        have N490 := Fr.snoc X489 N487 g468
        have Z491 : n0 ≤ h489.size := Nat.le_trans Z488 (Nat.le_of_eq W489.size.symm)
        refine Goes.step (S' := T489.setTop (mkF m 131 #[.val (.int p0), .val (.int p1), .val (.int p2), .val (.int p3), .val (.int p4), .val (.int p5), .val (.int (1 : Int32)), .val (.int (1 : Int32)), .val (.long v8_34), .second, .val (.int (17 : Int32)), .val (.ref b467), .unset, .unset, .unset, .unset, .unset] [])) st489 ?_
        refine G_aload X489 hx (hb hby at_131) rfl rfl (pc' := 133) rfl ?_
        refine G_bipush X489 hx (hb hby at_133) (z := 7) rfl (pc' := 135) rfl ?_
        refine G_iloadN X489 hx (hb hby at_135) rfl (pc' := 136) rfl ?_
        refine G_i2b X489 hx (hb hby at_136) (pc' := 137) rfl ?_
        obtain ⟨T492, h492, X492, e492, W492, V_492, st492⟩ := own_bastore X489 hx hZ e489 V_489 ⟨by decide, by decide⟩ (g := (mkF m 137 #[.val (.int p0), .val (.int p1), .val (.int p2), .val (.int p3), .val (.int p4), .val (.int p5), .val (.int (1 : Int32)), .val (.int (1 : Int32)), .val (.long v8_34), .second, .val (.int (17 : Int32)), .val (.ref b467), .unset, .unset, .unset, .unset, .unset] [(.int (p2.toInt8.toInt32)), (.int (7 : Int32)), (.ref b467)])) rfl rfl (hb hby at_137)
        obtain ⟨y137, ey137⟩ : ∃ z : Int32, z = (nar .byte (p2.toInt8.toInt32)) := ⟨_, rfl⟩
        replace V_492 : AI Z h492 b467 k467 .byte (12 : Int32) [y78, y87, y96, y102, y111, y120, y130, y137, (0 : Int32), (0 : Int32), (0 : Int32), (0 : Int32)] := by rw [ey137]; exact V_492
        have N493 := Fr.snoc X492 N490 g468
        have Z494 : n0 ≤ h492.size := Nat.le_trans Z491 (Nat.le_of_eq W492.size.symm)
        refine Goes.step (S' := T492.setTop (mkF m 138 #[.val (.int p0), .val (.int p1), .val (.int p2), .val (.int p3), .val (.int p4), .val (.int p5), .val (.int (1 : Int32)), .val (.int (1 : Int32)), .val (.long v8_34), .second, .val (.int (17 : Int32)), .val (.ref b467), .unset, .unset, .unset, .unset, .unset] [])) st492 ?_
        refine G_aload X492 hx (hb hby at_138) rfl rfl (pc' := 140) rfl ?_
        refine G_bipush X492 hx (hb hby at_140) (z := 8) rfl (pc' := 142) rfl ?_
        refine G_iloadN X492 hx (hb hby at_142) rfl (pc' := 143) rfl ?_
        refine G_bipush X492 hx (hb hby at_143) (z := 24) rfl (pc' := 145) rfl ?_
        refine G_iushr X492 hx (hb hby at_145) (pc' := 146) rfl ?_
        refine G_i2b X492 hx (hb hby at_146) (pc' := 147) rfl ?_
        obtain ⟨T495, h495, X495, e495, W495, V_495, st495⟩ := own_bastore X492 hx hZ e492 V_492 ⟨by decide, by decide⟩ (g := (mkF m 147 #[.val (.int p0), .val (.int p1), .val (.int p2), .val (.int p3), .val (.int p4), .val (.int p5), .val (.int (1 : Int32)), .val (.int (1 : Int32)), .val (.long v8_34), .second, .val (.int (17 : Int32)), .val (.ref b467), .unset, .unset, .unset, .unset, .unset] [(.int (((p3.toUInt32 >>> ((24 : Int32) &&& 31).toUInt32).toInt32).toInt8.toInt32)), (.int (8 : Int32)), (.ref b467)])) rfl rfl (hb hby at_147)
        obtain ⟨y147, ey147⟩ : ∃ z : Int32, z = (nar .byte (((p3.toUInt32 >>> ((24 : Int32) &&& 31).toUInt32).toInt32).toInt8.toInt32)) := ⟨_, rfl⟩
        replace V_495 : AI Z h495 b467 k467 .byte (12 : Int32) [y78, y87, y96, y102, y111, y120, y130, y137, y147, (0 : Int32), (0 : Int32), (0 : Int32)] := by rw [ey147]; exact V_495
        have N496 := Fr.snoc X495 N493 g468
        have Z497 : n0 ≤ h495.size := Nat.le_trans Z494 (Nat.le_of_eq W495.size.symm)
        refine Goes.step (S' := T495.setTop (mkF m 148 #[.val (.int p0), .val (.int p1), .val (.int p2), .val (.int p3), .val (.int p4), .val (.int p5), .val (.int (1 : Int32)), .val (.int (1 : Int32)), .val (.long v8_34), .second, .val (.int (17 : Int32)), .val (.ref b467), .unset, .unset, .unset, .unset, .unset] [])) st495 ?_
        refine G_aload X495 hx (hb hby at_148) rfl rfl (pc' := 150) rfl ?_
        refine G_bipush X495 hx (hb hby at_150) (z := 9) rfl (pc' := 152) rfl ?_
        refine G_iloadN X495 hx (hb hby at_152) rfl (pc' := 153) rfl ?_
        refine G_bipush X495 hx (hb hby at_153) (z := 16) rfl (pc' := 155) rfl ?_
        refine G_iushr X495 hx (hb hby at_155) (pc' := 156) rfl ?_
        refine G_i2b X495 hx (hb hby at_156) (pc' := 157) rfl ?_
        obtain ⟨T498, h498, X498, e498, W498, V_498, st498⟩ := own_bastore X495 hx hZ e495 V_495 ⟨by decide, by decide⟩ (g := (mkF m 157 #[.val (.int p0), .val (.int p1), .val (.int p2), .val (.int p3), .val (.int p4), .val (.int p5), .val (.int (1 : Int32)), .val (.int (1 : Int32)), .val (.long v8_34), .second, .val (.int (17 : Int32)), .val (.ref b467), .unset, .unset, .unset, .unset, .unset] [(.int (((p3.toUInt32 >>> ((16 : Int32) &&& 31).toUInt32).toInt32).toInt8.toInt32)), (.int (9 : Int32)), (.ref b467)])) rfl rfl (hb hby at_157)
        obtain ⟨y157, ey157⟩ : ∃ z : Int32, z = (nar .byte (((p3.toUInt32 >>> ((16 : Int32) &&& 31).toUInt32).toInt32).toInt8.toInt32)) := ⟨_, rfl⟩
        replace V_498 : AI Z h498 b467 k467 .byte (12 : Int32) [y78, y87, y96, y102, y111, y120, y130, y137, y147, y157, (0 : Int32), (0 : Int32)] := by rw [ey157]; exact V_498
        have N499 := Fr.snoc X498 N496 g468
        have Z500 : n0 ≤ h498.size := Nat.le_trans Z497 (Nat.le_of_eq W498.size.symm)
        refine Goes.step (S' := T498.setTop (mkF m 158 #[.val (.int p0), .val (.int p1), .val (.int p2), .val (.int p3), .val (.int p4), .val (.int p5), .val (.int (1 : Int32)), .val (.int (1 : Int32)), .val (.long v8_34), .second, .val (.int (17 : Int32)), .val (.ref b467), .unset, .unset, .unset, .unset, .unset] [])) st498 ?_
        refine G_aload X498 hx (hb hby at_158) rfl rfl (pc' := 160) rfl ?_
        refine G_bipush X498 hx (hb hby at_160) (z := 10) rfl (pc' := 162) rfl ?_
        refine G_iloadN X498 hx (hb hby at_162) rfl (pc' := 163) rfl ?_
        refine G_bipush X498 hx (hb hby at_163) (z := 8) rfl (pc' := 165) rfl ?_
        refine G_iushr X498 hx (hb hby at_165) (pc' := 166) rfl ?_
        refine G_i2b X498 hx (hb hby at_166) (pc' := 167) rfl ?_
        obtain ⟨T501, h501, X501, e501, W501, V_501, st501⟩ := own_bastore X498 hx hZ e498 V_498 ⟨by decide, by decide⟩ (g := (mkF m 167 #[.val (.int p0), .val (.int p1), .val (.int p2), .val (.int p3), .val (.int p4), .val (.int p5), .val (.int (1 : Int32)), .val (.int (1 : Int32)), .val (.long v8_34), .second, .val (.int (17 : Int32)), .val (.ref b467), .unset, .unset, .unset, .unset, .unset] [(.int (((p3.toUInt32 >>> ((8 : Int32) &&& 31).toUInt32).toInt32).toInt8.toInt32)), (.int (10 : Int32)), (.ref b467)])) rfl rfl (hb hby at_167)
        obtain ⟨y167, ey167⟩ : ∃ z : Int32, z = (nar .byte (((p3.toUInt32 >>> ((8 : Int32) &&& 31).toUInt32).toInt32).toInt8.toInt32)) := ⟨_, rfl⟩
        replace V_501 : AI Z h501 b467 k467 .byte (12 : Int32) [y78, y87, y96, y102, y111, y120, y130, y137, y147, y157, y167, (0 : Int32)] := by rw [ey167]; exact V_501
        have N502 := Fr.snoc X501 N499 g468
        have Z503 : n0 ≤ h501.size := Nat.le_trans Z500 (Nat.le_of_eq W501.size.symm)
        refine Goes.step (S' := T501.setTop (mkF m 168 #[.val (.int p0), .val (.int p1), .val (.int p2), .val (.int p3), .val (.int p4), .val (.int p5), .val (.int (1 : Int32)), .val (.int (1 : Int32)), .val (.long v8_34), .second, .val (.int (17 : Int32)), .val (.ref b467), .unset, .unset, .unset, .unset, .unset] [])) st501 ?_
        refine G_aload X501 hx (hb hby at_168) rfl rfl (pc' := 170) rfl ?_
        refine G_bipush X501 hx (hb hby at_170) (z := 11) rfl (pc' := 172) rfl ?_
        refine G_iloadN X501 hx (hb hby at_172) rfl (pc' := 173) rfl ?_
        refine G_i2b X501 hx (hb hby at_173) (pc' := 174) rfl ?_
        obtain ⟨T504, h504, X504, e504, W504, V_504, st504⟩ := own_bastore X501 hx hZ e501 V_501 ⟨by decide, by decide⟩ (g := (mkF m 174 #[.val (.int p0), .val (.int p1), .val (.int p2), .val (.int p3), .val (.int p4), .val (.int p5), .val (.int (1 : Int32)), .val (.int (1 : Int32)), .val (.long v8_34), .second, .val (.int (17 : Int32)), .val (.ref b467), .unset, .unset, .unset, .unset, .unset] [(.int (p3.toInt8.toInt32)), (.int (11 : Int32)), (.ref b467)])) rfl rfl (hb hby at_174)
        obtain ⟨y174, ey174⟩ : ∃ z : Int32, z = (nar .byte (p3.toInt8.toInt32)) := ⟨_, rfl⟩
        replace V_504 : AI Z h504 b467 k467 .byte (12 : Int32) [y78, y87, y96, y102, y111, y120, y130, y137, y147, y157, y167, y174] := by rw [ey174]; exact V_504
        have N505 := Fr.snoc X504 N502 g468
        have Z506 : n0 ≤ h504.size := Nat.le_trans Z503 (Nat.le_of_eq W504.size.symm)
        refine Goes.step (S' := T504.setTop (mkF m 175 #[.val (.int p0), .val (.int p1), .val (.int p2), .val (.int p3), .val (.int p4), .val (.int p5), .val (.int (1 : Int32)), .val (.int (1 : Int32)), .val (.long v8_34), .second, .val (.int (17 : Int32)), .val (.ref b467), .unset, .unset, .unset, .unset, .unset] [])) st504 ?_
        refine G_iload X504 hx (hb hby at_175) rfl (pc' := 177) rfl ?_
        refine Goes.step (S' := T504.setTop (mkF m 180 #[.val (.int p0), .val (.int p1), .val (.int p2), .val (.int p3), .val (.int p4), .val (.int p5), .val (.int (1 : Int32)), .val (.int (1 : Int32)), .val (.long v8_34), .second, .val (.int (17 : Int32)), .val (.ref b467), .unset, .unset, .unset, .unset, .unset] [])) (fun _ k => XS.ifNo X504.here hx rfl (hb hby at_177) rfl ((if0 _ _).trans (feq (by decide)).1) k) ?_
        refine G_iload X504 hx (hb hby at_180) rfl (pc' := 182) rfl ?_
        refine Goes.step (S' := T504.setTop (mkF m 185 #[.val (.int p0), .val (.int p1), .val (.int p2), .val (.int p3), .val (.int p4), .val (.int p5), .val (.int (1 : Int32)), .val (.int (1 : Int32)), .val (.long v8_34), .second, .val (.int (17 : Int32)), .val (.ref b467), .unset, .unset, .unset, .unset, .unset] [])) (fun _ k => XS.ifNo X504.here hx rfl (hb hby at_182) rfl ((if0 _ _).trans (feq (by decide)).1) k) ?_
        refine G_bipush X504 hx (hb hby at_185) (z := 33) rfl (pc' := 187) rfl ?_
        refine Goes.step (S' := T504.setTop (mkF m 197 #[.val (.int p0), .val (.int p1), .val (.int p2), .val (.int p3), .val (.int p4), .val (.int p5), .val (.int (1 : Int32)), .val (.int (1 : Int32)), .val (.long v8_34), .second, .val (.int (17 : Int32)), .val (.ref b467), .unset, .unset, .unset, .unset, .unset] [(.int (33 : Int32))])) (fun _ k => XS.goto X504.here hx rfl (pc0 := 187) (pc' := 197) rfl (hb hby at_187) (by decide) (by decide) k) ?_
        obtain ⟨T507, h507, k507, X507, e507, E507, A507, hk507, st507⟩ := own_newB X504 hx hZ (hw _ (List.mem_of_getElem? (i := 1) rfl)) e504 (g := (mkF m 197 #[.val (.int p0), .val (.int p1), .val (.int p2), .val (.int p3), .val (.int p4), .val (.int p5), .val (.int (1 : Int32)), .val (.int (1 : Int32)), .val (.long v8_34), .second, .val (.int (17 : Int32)), .val (.ref b467), .unset, .unset, .unset, .unset, .unset] [(.int (33 : Int32))])) rfl (hb hby at_197) rfl (by decide) (cap := 33) (by decide) (by decide) (by decide) (by decide)
        obtain ⟨b507, g507⟩ : ∃ z, z = h504.size := ⟨_, rfl⟩
        rw [← g507] at A507 st507
        have ne508 : b467 ≠ b507 := Nat.ne_of_lt (Nat.lt_of_lt_of_le V_504.lt (Nat.le_of_eq g507.symm))
        have g509 : n0 ≤ b507 := Nat.le_trans Z506 (Nat.le_of_eq g507.symm)
        have Z510 : n0 ≤ h507.size := Nat.le_trans Z506 E507.1
        have V511 := V_504.ext E507
        have V512 : AI Z h507 b507 k507 .byte (33 : Int32) [(0 : Int32), (0 : Int32), (0 : Int32), (0 : Int32), (0 : Int32), (0 : Int32), (0 : Int32), (0 : Int32), (0 : Int32), (0 : Int32), (0 : Int32), (0 : Int32), (0 : Int32), (0 : Int32), (0 : Int32), (0 : Int32), (0 : Int32), (0 : Int32), (0 : Int32), (0 : Int32), (0 : Int32), (0 : Int32), (0 : Int32), (0 : Int32), (0 : Int32), (0 : Int32), (0 : Int32), (0 : Int32), (0 : Int32), (0 : Int32), (0 : Int32), (0 : Int32), (0 : Int32)] := own_new A507 (by decide) rfl
        refine Goes.step (S' := T507.setTop (mkF m 199 #[.val (.int p0), .val (.int p1), .val (.int p2), .val (.int p3), .val (.int p4), .val (.int p5), .val (.int (1 : Int32)), .val (.int (1 : Int32)), .val (.long v8_34), .second, .val (.int (17 : Int32)), .val (.ref b467), .unset, .unset, .unset, .unset, .unset] [(.ref b507)])) st507 ?_
        refine Goes.step (S' := T507.setTop (mkF m 201 #[.val (.int p0), .val (.int p1), .val (.int p2), .val (.int p3), .val (.int p4), .val (.int p5), .val (.int (1 : Int32)), .val (.int (1 : Int32)), .val (.long v8_34), .second, .val (.int (17 : Int32)), .val (.ref b467), .val (.ref b507), .unset, .unset, .unset, .unset] [])) (fun _ k => XS.astore X507.here hx rfl (hb hby at_199) rfl rfl (l' := #[.val (.int p0), .val (.int p1), .val (.int p2), .val (.int p3), .val (.int p4), .val (.int p5), .val (.int (1 : Int32)), .val (.int (1 : Int32)), .val (.long v8_34), .second, .val (.int (17 : Int32)), .val (.ref b467), .val (.ref b507), .unset, .unset, .unset, .unset]) rfl k) ?_
        refine G_aload X507 hx (hb hby at_201) rfl rfl (pc' := 203) rfl ?_
        refine G_iconst X507 hx (hb hby at_203) (z := 0) rfl (pc' := 204) rfl ?_
        refine G_iload X507 hx (hb hby at_204) rfl (pc' := 206) rfl ?_
        refine Goes.step (S' := T507.setTop (mkF m 209 #[.val (.int p0), .val (.int p1), .val (.int p2), .val (.int p3), .val (.int p4), .val (.int p5), .val (.int (1 : Int32)), .val (.int (1 : Int32)), .val (.long v8_34), .second, .val (.int (17 : Int32)), .val (.ref b467), .val (.ref b507), .unset, .unset, .unset, .unset] [(.int (0 : Int32)), (.ref b507)])) (fun _ k => XS.ifNo X507.here hx rfl (hb hby at_206) rfl ((if0 _ _).trans (feq (by decide)).1) k) ?_
        refine G_iconst X507 hx (hb hby at_209) (z := 2) rfl (pc' := 210) rfl ?_
        refine Goes.step (S' := T507.setTop (mkF m 214 #[.val (.int p0), .val (.int p1), .val (.int p2), .val (.int p3), .val (.int p4), .val (.int p5), .val (.int (1 : Int32)), .val (.int (1 : Int32)), .val (.long v8_34), .second, .val (.int (17 : Int32)), .val (.ref b467), .val (.ref b507), .unset, .unset, .unset, .unset] [(.int (2 : Int32)), (.int (0 : Int32)), (.ref b507)])) (fun _ k => XS.goto X507.here hx rfl (pc0 := 210) (pc' := 214) rfl (hb hby at_210) (by decide) (by decide) k) ?_
        refine G_i2b X507 hx (hb hby at_214) (pc' := 215) rfl ?_
        obtain ⟨T513, h513, X513, e513, W513, V_513, st513⟩ := own_bastore X507 hx hZ e507 V512 ⟨by decide, by decide⟩ (g := (mkF m 215 #[.val (.int p0), .val (.int p1), .val (.int p2), .val (.int p3), .val (.int p4), .val (.int p5), .val (.int (1 : Int32)), .val (.int (1 : Int32)), .val (.long v8_34), .second, .val (.int (17 : Int32)), .val (.ref b467), .val (.ref b507), .unset, .unset, .unset, .unset] [(.int ((2 : Int32).toInt8.toInt32)), (.int (0 : Int32)), (.ref b507)])) rfl rfl (hb hby at_215)
        obtain ⟨y215, ey215⟩ : ∃ z : Int32, z = (nar .byte ((2 : Int32).toInt8.toInt32)) := ⟨_, rfl⟩
        replace V_513 : AI Z h513 b507 k507 .byte (33 : Int32) [y215, (0 : Int32), (0 : Int32), (0 : Int32), (0 : Int32), (0 : Int32), (0 : Int32), (0 : Int32), (0 : Int32), (0 : Int32), (0 : Int32), (0 : Int32), (0 : Int32), (0 : Int32), (0 : Int32), (0 : Int32), (0 : Int32), (0 : Int32), (0 : Int32), (0 : Int32), (0 : Int32), (0 : Int32), (0 : Int32), (0 : Int32), (0 : Int32), (0 : Int32), (0 : Int32), (0 : Int32), (0 : Int32), (0 : Int32), (0 : Int32), (0 : Int32), (0 : Int32)] := by rw [ey215]; exact V_513
        have N514 := Fr.snoc X513 N505 g509
        have Z515 : n0 ≤ h513.size := Nat.le_trans Z510 (Nat.le_of_eq W513.size.symm)
        have V516 := V511.other W513 ne508
        refine Goes.step (S' := T513.setTop (mkF m 216 #[.val (.int p0), .val (.int p1), .val (.int p2), .val (.int p3), .val (.int p4), .val (.int p5), .val (.int (1 : Int32)), .val (.int (1 : Int32)), .val (.long v8_34), .second, .val (.int (17 : Int32)), .val (.ref b467), .val (.ref b507), .unset, .unset, .unset, .unset] [])) st513 ?_
        refine G_iload X513 hx (hb hby at_216) rfl (pc' := 218) rfl ?_
        refine Goes.step (S' := T513.setTop (mkF m 221 #[.val (.int p0), .val (.int p1), .val (.int p2), .val (.int p3), .val (.int p4), .val (.int p5), .val (.int (1 : Int32)), .val (.int (1 : Int32)), .val (.long v8_34), .second, .val (.int (17 : Int32)), .val (.ref b467), .val (.ref b507), .unset, .unset, .unset, .unset] [])) (fun _ k => XS.ifNo X513.here hx rfl (hb hby at_218) rfl ((if0 _ _).trans (feq (by decide)).1) k) ?_
        refine G_aload X513 hx (hb hby at_221) rfl rfl (pc' := 223) rfl ?_
        refine G_iconst X513 hx (hb hby at_223) (z := 1) rfl (pc' := 224) rfl ?_
        refine G_iloadN X513 hx (hb hby at_224) rfl (pc' := 225) rfl ?_
        refine G_bipush X513 hx (hb hby at_225) (z := 24) rfl (pc' := 227) rfl ?_
        refine G_iushr X513 hx (hb hby at_227) (pc' := 228) rfl ?_
        refine G_i2b X513 hx (hb hby at_228) (pc' := 229) rfl ?_
        obtain ⟨T517, h517, X517, e517, W517, V_517, st517⟩ := own_bastore X513 hx hZ e513 V_513 ⟨by decide, by decide⟩ (g := (mkF m 229 #[.val (.int p0), .val (.int p1), .val (.int p2), .val (.int p3), .val (.int p4), .val (.int p5), .val (.int (1 : Int32)), .val (.int (1 : Int32)), .val (.long v8_34), .second, .val (.int (17 : Int32)), .val (.ref b467), .val (.ref b507), .unset, .unset, .unset, .unset] [(.int (((p0.toUInt32 >>> ((24 : Int32) &&& 31).toUInt32).toInt32).toInt8.toInt32)), (.int (1 : Int32)), (.ref b507)])) rfl rfl (hb hby at_229)
        obtain ⟨y229, ey229⟩ : ∃ z : Int32, z = (nar .byte (((p0.toUInt32 >>> ((24 : Int32) &&& 31).toUInt32).toInt32).toInt8.toInt32)) := ⟨_, rfl⟩
        replace V_517 : AI Z h517 b507 k507 .byte (33 : Int32) [y215, y229, (0 : Int32), (0 : Int32), (0 : Int32), (0 : Int32), (0 : Int32), (0 : Int32), (0 : Int32), (0 : Int32), (0 : Int32), (0 : Int32), (0 : Int32), (0 : Int32), (0 : Int32), (0 : Int32), (0 : Int32), (0 : Int32), (0 : Int32), (0 : Int32), (0 : Int32), (0 : Int32), (0 : Int32), (0 : Int32), (0 : Int32), (0 : Int32), (0 : Int32), (0 : Int32), (0 : Int32), (0 : Int32), (0 : Int32), (0 : Int32), (0 : Int32)] := by rw [ey229]; exact V_517
        have N518 := Fr.snoc X517 N514 g509
        have Z519 : n0 ≤ h517.size := Nat.le_trans Z515 (Nat.le_of_eq W517.size.symm)
        have V520 := V516.other W517 ne508
        refine Goes.step (S' := T517.setTop (mkF m 230 #[.val (.int p0), .val (.int p1), .val (.int p2), .val (.int p3), .val (.int p4), .val (.int p5), .val (.int (1 : Int32)), .val (.int (1 : Int32)), .val (.long v8_34), .second, .val (.int (17 : Int32)), .val (.ref b467), .val (.ref b507), .unset, .unset, .unset, .unset] [])) st517 ?_
        refine G_aload X517 hx (hb hby at_230) rfl rfl (pc' := 232) rfl ?_
        refine G_iconst X517 hx (hb hby at_232) (z := 2) rfl (pc' := 233) rfl ?_
        refine G_iloadN X517 hx (hb hby at_233) rfl (pc' := 234) rfl ?_
        refine G_bipush X517 hx (hb hby at_234) (z := 16) rfl (pc' := 236) rfl ?_
        refine G_iushr X517 hx (hb hby at_236) (pc' := 237) rfl ?_
        refine G_i2b X517 hx (hb hby at_237) (pc' := 238) rfl ?_
        obtain ⟨T521, h521, X521, e521, W521, V_521, st521⟩ := own_bastore X517 hx hZ e517 V_517 ⟨by decide, by decide⟩ (g := (mkF m 238 #[.val (.int p0), .val (.int p1), .val (.int p2), .val (.int p3), .val (.int p4), .val (.int p5), .val (.int (1 : Int32)), .val (.int (1 : Int32)), .val (.long v8_34), .second, .val (.int (17 : Int32)), .val (.ref b467), .val (.ref b507), .unset, .unset, .unset, .unset] [(.int (((p0.toUInt32 >>> ((16 : Int32) &&& 31).toUInt32).toInt32).toInt8.toInt32)), (.int (2 : Int32)), (.ref b507)])) rfl rfl (hb hby at_238)
        obtain ⟨y238, ey238⟩ : ∃ z : Int32, z = (nar .byte (((p0.toUInt32 >>> ((16 : Int32) &&& 31).toUInt32).toInt32).toInt8.toInt32)) := ⟨_, rfl⟩
        replace V_521 : AI Z h521 b507 k507 .byte (33 : Int32) [y215, y229, y238, (0 : Int32), (0 : Int32), (0 : Int32), (0 : Int32), (0 : Int32), (0 : Int32), (0 : Int32), (0 : Int32), (0 : Int32), (0 : Int32), (0 : Int32), (0 : Int32), (0 : Int32), (0 : Int32), (0 : Int32), (0 : Int32), (0 : Int32), (0 : Int32), (0 : Int32), (0 : Int32), (0 : Int32), (0 : Int32), (0 : Int32), (0 : Int32), (0 : Int32), (0 : Int32), (0 : Int32), (0 : Int32), (0 : Int32), (0 : Int32)] := by rw [ey238]; exact V_521
        have N522 := Fr.snoc X521 N518 g509
        have Z523 : n0 ≤ h521.size := Nat.le_trans Z519 (Nat.le_of_eq W521.size.symm)
        have V524 := V520.other W521 ne508
        refine Goes.step (S' := T521.setTop (mkF m 239 #[.val (.int p0), .val (.int p1), .val (.int p2), .val (.int p3), .val (.int p4), .val (.int p5), .val (.int (1 : Int32)), .val (.int (1 : Int32)), .val (.long v8_34), .second, .val (.int (17 : Int32)), .val (.ref b467), .val (.ref b507), .unset, .unset, .unset, .unset] [])) st521 ?_
        refine G_aload X521 hx (hb hby at_239) rfl rfl (pc' := 241) rfl ?_
        refine G_iconst X521 hx (hb hby at_241) (z := 3) rfl (pc' := 242) rfl ?_
        refine G_iloadN X521 hx (hb hby at_242) rfl (pc' := 243) rfl ?_
        refine G_bipush X521 hx (hb hby at_243) (z := 8) rfl (pc' := 245) rfl ?_
        refine G_iushr X521 hx (hb hby at_245) (pc' := 246) rfl ?_
        refine G_i2b X521 hx (hb hby at_246) (pc' := 247) rfl ?_
        obtain ⟨T525, h525, X525, e525, W525, V_525, st525⟩ := own_bastore X521 hx hZ e521 V_521 ⟨by decide, by decide⟩ (g := (mkF m 247 #[.val (.int p0), .val (.int p1), .val (.int p2), .val (.int p3), .val (.int p4), .val (.int p5), .val (.int (1 : Int32)), .val (.int (1 : Int32)), .val (.long v8_34), .second, .val (.int (17 : Int32)), .val (.ref b467), .val (.ref b507), .unset, .unset, .unset, .unset] [(.int (((p0.toUInt32 >>> ((8 : Int32) &&& 31).toUInt32).toInt32).toInt8.toInt32)), (.int (3 : Int32)), (.ref b507)])) rfl rfl (hb hby at_247)
        obtain ⟨y247, ey247⟩ : ∃ z : Int32, z = (nar .byte (((p0.toUInt32 >>> ((8 : Int32) &&& 31).toUInt32).toInt32).toInt8.toInt32)) := ⟨_, rfl⟩
        replace V_525 : AI Z h525 b507 k507 .byte (33 : Int32) [y215, y229, y238, y247, (0 : Int32), (0 : Int32), (0 : Int32), (0 : Int32), (0 : Int32), (0 : Int32), (0 : Int32), (0 : Int32), (0 : Int32), (0 : Int32), (0 : Int32), (0 : Int32), (0 : Int32), (0 : Int32), (0 : Int32), (0 : Int32), (0 : Int32), (0 : Int32), (0 : Int32), (0 : Int32), (0 : Int32), (0 : Int32), (0 : Int32), (0 : Int32), (0 : Int32), (0 : Int32), (0 : Int32), (0 : Int32), (0 : Int32)] := by rw [ey247]; exact V_525
        have N526 := Fr.snoc X525 N522 g509
        have Z527 : n0 ≤ h525.size := Nat.le_trans Z523 (Nat.le_of_eq W525.size.symm)
        have V528 := V524.other W525 ne508
        refine Goes.step (S' := T525.setTop (mkF m 248 #[.val (.int p0), .val (.int p1), .val (.int p2), .val (.int p3), .val (.int p4), .val (.int p5), .val (.int (1 : Int32)), .val (.int (1 : Int32)), .val (.long v8_34), .second, .val (.int (17 : Int32)), .val (.ref b467), .val (.ref b507), .unset, .unset, .unset, .unset] [])) st525 ?_
        refine G_aload X525 hx (hb hby at_248) rfl rfl (pc' := 250) rfl ?_
        refine G_iconst X525 hx (hb hby at_250) (z := 4) rfl (pc' := 251) rfl ?_
        refine G_iloadN X525 hx (hb hby at_251) rfl (pc' := 252) rfl ?_
        refine G_i2b X525 hx (hb hby at_252) (pc' := 253) rfl ?_
        obtain ⟨T529, h529, X529, e529, W529, V_529, st529⟩ := own_bastore X525 hx hZ e525 V_525 ⟨by decide, by decide⟩ (g := (mkF m 253 #[.val (.int p0), .val (.int p1), .val (.int p2), .val (.int p3), .val (.int p4), .val (.int p5), .val (.int (1 : Int32)), .val (.int (1 : Int32)), .val (.long v8_34), .second, .val (.int (17 : Int32)), .val (.ref b467), .val (.ref b507), .unset, .unset, .unset, .unset] [(.int (p0.toInt8.toInt32)), (.int (4 : Int32)), (.ref b507)])) rfl rfl (hb hby at_253)
        obtain ⟨y253, ey253⟩ : ∃ z : Int32, z = (nar .byte (p0.toInt8.toInt32)) := ⟨_, rfl⟩
        replace V_529 : AI Z h529 b507 k507 .byte (33 : Int32) [y215, y229, y238, y247, y253, (0 : Int32), (0 : Int32), (0 : Int32), (0 : Int32), (0 : Int32), (0 : Int32), (0 : Int32), (0 : Int32), (0 : Int32), (0 : Int32), (0 : Int32), (0 : Int32), (0 : Int32), (0 : Int32), (0 : Int32), (0 : Int32), (0 : Int32), (0 : Int32), (0 : Int32), (0 : Int32), (0 : Int32), (0 : Int32), (0 : Int32), (0 : Int32), (0 : Int32), (0 : Int32), (0 : Int32), (0 : Int32)] := by rw [ey253]; exact V_529
        have N530 := Fr.snoc X529 N526 g509
        have Z531 : n0 ≤ h529.size := Nat.le_trans Z527 (Nat.le_of_eq W529.size.symm)
        have V532 := V528.other W529 ne508
        refine Goes.step (S' := T529.setTop (mkF m 254 #[.val (.int p0), .val (.int p1), .val (.int p2), .val (.int p3), .val (.int p4), .val (.int p5), .val (.int (1 : Int32)), .val (.int (1 : Int32)), .val (.long v8_34), .second, .val (.int (17 : Int32)), .val (.ref b467), .val (.ref b507), .unset, .unset, .unset, .unset] [])) st529 ?_
        refine G_iload X529 hx (hb hby at_254) rfl (pc' := 256) rfl ?_
        refine G_bipush X529 hx (hb hby at_256) (z := 12) rfl (pc' := 258) rfl ?_
        refine Goes.step (S' := T529.setTop (mkF m 259 #[.val (.int p0), .val (.int p1), .val (.int p2), .val (.int p3), .val (.int p4), .val (.int p5), .val (.int (1 : Int32)), .val (.int (1 : Int32)), .val (.long v8_34), .second, .val (.int (17 : Int32)), .val (.ref b467), .val (.ref b507), .unset, .unset, .unset, .unset] [(.int (5 : Int32))])) (fun _ k => XS.isub X529.here hx rfl (hb hby at_258) rfl k) ?_
        refine Goes.step (S' := T529.setTop (mkF m 261 #[.val (.int p0), .val (.int p1), .val (.int p2), .val (.int p3), .val (.int p4), .val (.int p5), .val (.int (1 : Int32)), .val (.int (1 : Int32)), .val (.long v8_34), .second, .val (.int (17 : Int32)), .val (.ref b467), .val (.ref b507), .val (.int (5 : Int32)), .unset, .unset, .unset] [])) (fun _ k => XS.istore X529.here hx rfl (hb hby at_259) rfl (l' := #[.val (.int p0), .val (.int p1), .val (.int p2), .val (.int p3), .val (.int p4), .val (.int p5), .val (.int (1 : Int32)), .val (.int (1 : Int32)), .val (.long v8_34), .second, .val (.int (17 : Int32)), .val (.ref b467), .val (.ref b507), .val (.int (5 : Int32)), .unset, .unset, .unset]) rfl k) ?_
        refine G_aload X529 hx (hb hby at_261) rfl rfl (pc' := 263) rfl ?_
        refine G_iload X529 hx (hb hby at_263) rfl (pc' := 265) rfl ?_
        refine G_aload X529 hx (hb hby at_265) rfl rfl (pc' := 267) rfl ?_
        refine G_iconst X529 hx (hb hby at_267) (z := 0) rfl (pc' := 268) rfl ?_
        refine Goes.step (S' := T529.setTop (mkF m 269 #[.val (.int p0), .val (.int p1), .val (.int p2), .val (.int p3), .val (.int p4), .val (.int p5), .val (.int (1 : Int32)), .val (.int (1 : Int32)), .val (.long v8_34), .second, .val (.int (17 : Int32)), .val (.ref b467), .val (.ref b507), .val (.int (5 : Int32)), .unset, .unset, .unset] [(.int y78), (.int (5 : Int32)), (.ref b507)])) (fun _ k => own_baload X529 hx hZ e529 V532 ⟨by decide, by decide⟩ (hb hby at_268) _ k) ?_
        obtain ⟨T533, h533, X533, e533, W533, V_533, st533⟩ := own_bastore X529 hx hZ e529 V_529 ⟨by decide, by decide⟩ (g := (mkF m 269 #[.val (.int p0), .val (.int p1), .val (.int p2), .val (.int p3), .val (.int p4), .val (.int p5), .val (.int (1 : Int32)), .val (.int (1 : Int32)), .val (.long v8_34), .second, .val (.int (17 : Int32)), .val (.ref b467), .val (.ref b507), .val (.int (5 : Int32)), .unset, .unset, .unset] [(.int y78), (.int (5 : Int32)), (.ref b507)])) rfl rfl (hb hby at_269)
        replace V_533 : AI Z h533 b507 k507 .byte (33 : Int32) [y215, y229, y238, y247, y253, (nar .byte y78), (0 : Int32), (0 : Int32), (0 : Int32), (0 : Int32), (0 : Int32), (0 : Int32), (0 : Int32), (0 : Int32), (0 : Int32), (0 : Int32), (0 : Int32), (0 : Int32), (0 : Int32), (0 : Int32), (0 : Int32), (0 : Int32), (0 : Int32), (0 : Int32), (0 : Int32), (0 : Int32), (0 : Int32), (0 : Int32), (0 : Int32), (0 : Int32), (0 : Int32), (0 : Int32), (0 : Int32)] := V_533
        have N534 := Fr.snoc X533 N530 g509
        have Z535 : n0 ≤ h533.size := Nat.le_trans Z531 (Nat.le_of_eq W533.size.symm)
        have V536 := V532.other W533 ne508
        refine Goes.step (S' := T533.setTop (mkF m 270 #[.val (.int p0), .val (.int p1), .val (.int p2), .val (.int p3), .val (.int p4), .val (.int p5), .val (.int (1 : Int32)), .val (.int (1 : Int32)), .val (.long v8_34), .second, .val (.int (17 : Int32)), .val (.ref b467), .val (.ref b507), .val (.int (5 : Int32)), .unset, .unset, .unset] [])) st533 ?_
        refine G_aload X533 hx (hb hby at_270) rfl rfl (pc' := 272) rfl ?_
        refine G_iload X533 hx (hb hby at_272) rfl (pc' := 274) rfl ?_
        refine G_iconst X533 hx (hb hby at_274) (z := 1) rfl (pc' := 275) rfl ?_
        refine G_iadd X533 hx (hb hby at_275) (z := 6) rfl (pc' := 276) rfl ?_
        refine G_aload X533 hx (hb hby at_276) rfl rfl (pc' := 278) rfl ?_
        refine G_iconst X533 hx (hb hby at_278) (z := 1) rfl (pc' := 279) rfl ?_
        refine Goes.step (S' := T533.setTop (mkF m 280 #[.val (.int p0), .val (.int p1), .val (.int p2), .val (.int p3), .val (.int p4), .val (.int p5), .val (.int (1 : Int32)), .val (.int (1 : Int32)), .val (.long v8_34), .second, .val (.int (17 : Int32)), .val (.ref b467), .val (.ref b507), .val (.int (5 : Int32)), .unset, .unset, .unset] [(.int y87), (.int (6 : Int32)), (.ref b507)])) (fun _ k => own_baload X533 hx hZ e533 V536 ⟨by decide, by decide⟩ (hb hby at_279) _ k) ?_
        obtain ⟨T537, h537, X537, e537, W537, V_537, st537⟩ := own_bastore X533 hx hZ e533 V_533 ⟨by decide, by decide⟩ (g := (mkF m 280 #[.val (.int p0), .val (.int p1), .val (.int p2), .val (.int p3), .val (.int p4), .val (.int p5), .val (.int (1 : Int32)), .val (.int (1 : Int32)), .val (.long v8_34), .second, .val (.int (17 : Int32)), .val (.ref b467), .val (.ref b507), .val (.int (5 : Int32)), .unset, .unset, .unset] [(.int y87), (.int (6 : Int32)), (.ref b507)])) rfl rfl (hb hby at_280)
        replace V_537 : AI Z h537 b507 k507 .byte (33 : Int32) [y215, y229, y238, y247, y253, (nar .byte y78), (nar .byte y87), (0 : Int32), (0 : Int32), (0 : Int32), (0 : Int32), (0 : Int32), (0 : Int32), (0 : Int32), (0 : Int32), (0 : Int32), (0 : Int32), (0 : Int32), (0 : Int32), (0 : Int32), (0 : Int32), (0 : Int32), (0 : Int32), (0 : Int32), (0 : Int32), (0 : Int32), (0 : Int32), (0 : Int32), (0 : Int32), (0 : Int32), (0 : Int32), (0 : Int32), (0 : Int32)] := V_537
        have N538 := Fr.snoc X537 N534 g509
        have Z539 : n0 ≤ h537.size := Nat.le_trans Z535 (Nat.le_of_eq W537.size.symm)
        have V540 := V536.other W537 ne508
        refine Goes.step (S' := T537.setTop (mkF m 281 #[.val (.int p0), .val (.int p1), .val (.int p2), .val (.int p3), .val (.int p4), .val (.int p5), .val (.int (1 : Int32)), .val (.int (1 : Int32)), .val (.long v8_34), .second, .val (.int (17 : Int32)), .val (.ref b467), .val (.ref b507), .val (.int (5 : Int32)), .unset, .unset, .unset] [])) st537 ?_
        refine G_aload X537 hx (hb hby at_281) rfl rfl (pc' := 283) rfl ?_
        refine G_iload X537 hx (hb hby at_283) rfl (pc' := 285) rfl ?_
        refine G_iconst X537 hx (hb hby at_285) (z := 2) rfl (pc' := 286) rfl ?_
        refine G_iadd X537 hx (hb hby at_286) (z := 7) rfl (pc' := 287) rfl ?_
        refine G_aload X537 hx (hb hby at_287) rfl rfl (pc' := 289) rfl ?_
        refine G_iconst X537 hx (hb hby at_289) (z := 2) rfl (pc' := 290) rfl ?_
        refine Goes.step (S' := T537.setTop (mkF m 291 #[.val (.int p0), .val (.int p1), .val (.int p2), .val (.int p3), .val (.int p4), .val (.int p5), .val (.int (1 : Int32)), .val (.int (1 : Int32)), .val (.long v8_34), .second, .val (.int (17 : Int32)), .val (.ref b467), .val (.ref b507), .val (.int (5 : Int32)), .unset, .unset, .unset] [(.int y96), (.int (7 : Int32)), (.ref b507)])) (fun _ k => own_baload X537 hx hZ e537 V540 ⟨by decide, by decide⟩ (hb hby at_290) _ k) ?_
        obtain ⟨T541, h541, X541, e541, W541, V_541, st541⟩ := own_bastore X537 hx hZ e537 V_537 ⟨by decide, by decide⟩ (g := (mkF m 291 #[.val (.int p0), .val (.int p1), .val (.int p2), .val (.int p3), .val (.int p4), .val (.int p5), .val (.int (1 : Int32)), .val (.int (1 : Int32)), .val (.long v8_34), .second, .val (.int (17 : Int32)), .val (.ref b467), .val (.ref b507), .val (.int (5 : Int32)), .unset, .unset, .unset] [(.int y96), (.int (7 : Int32)), (.ref b507)])) rfl rfl (hb hby at_291)
        replace V_541 : AI Z h541 b507 k507 .byte (33 : Int32) [y215, y229, y238, y247, y253, (nar .byte y78), (nar .byte y87), (nar .byte y96), (0 : Int32), (0 : Int32), (0 : Int32), (0 : Int32), (0 : Int32), (0 : Int32), (0 : Int32), (0 : Int32), (0 : Int32), (0 : Int32), (0 : Int32), (0 : Int32), (0 : Int32), (0 : Int32), (0 : Int32), (0 : Int32), (0 : Int32), (0 : Int32), (0 : Int32), (0 : Int32), (0 : Int32), (0 : Int32), (0 : Int32), (0 : Int32), (0 : Int32)] := V_541
        have N542 := Fr.snoc X541 N538 g509
        have Z543 : n0 ≤ h541.size := Nat.le_trans Z539 (Nat.le_of_eq W541.size.symm)
        have V544 := V540.other W541 ne508
        refine Goes.step (S' := T541.setTop (mkF m 292 #[.val (.int p0), .val (.int p1), .val (.int p2), .val (.int p3), .val (.int p4), .val (.int p5), .val (.int (1 : Int32)), .val (.int (1 : Int32)), .val (.long v8_34), .second, .val (.int (17 : Int32)), .val (.ref b467), .val (.ref b507), .val (.int (5 : Int32)), .unset, .unset, .unset] [])) st541 ?_
        refine G_aload X541 hx (hb hby at_292) rfl rfl (pc' := 294) rfl ?_
        refine G_iload X541 hx (hb hby at_294) rfl (pc' := 296) rfl ?_
        refine G_iconst X541 hx (hb hby at_296) (z := 3) rfl (pc' := 297) rfl ?_
        refine G_iadd X541 hx (hb hby at_297) (z := 8) rfl (pc' := 298) rfl ?_
        refine G_aload X541 hx (hb hby at_298) rfl rfl (pc' := 300) rfl ?_
        refine G_iconst X541 hx (hb hby at_300) (z := 3) rfl (pc' := 301) rfl ?_
        refine Goes.step (S' := T541.setTop (mkF m 302 #[.val (.int p0), .val (.int p1), .val (.int p2), .val (.int p3), .val (.int p4), .val (.int p5), .val (.int (1 : Int32)), .val (.int (1 : Int32)), .val (.long v8_34), .second, .val (.int (17 : Int32)), .val (.ref b467), .val (.ref b507), .val (.int (5 : Int32)), .unset, .unset, .unset] [(.int y102), (.int (8 : Int32)), (.ref b507)])) (fun _ k => own_baload X541 hx hZ e541 V544 ⟨by decide, by decide⟩ (hb hby at_301) _ k) ?_
        obtain ⟨T545, h545, X545, e545, W545, V_545, st545⟩ := own_bastore X541 hx hZ e541 V_541 ⟨by decide, by decide⟩ (g := (mkF m 302 #[.val (.int p0), .val (.int p1), .val (.int p2), .val (.int p3), .val (.int p4), .val (.int p5), .val (.int (1 : Int32)), .val (.int (1 : Int32)), .val (.long v8_34), .second, .val (.int (17 : Int32)), .val (.ref b467), .val (.ref b507), .val (.int (5 : Int32)), .unset, .unset, .unset] [(.int y102), (.int (8 : Int32)), (.ref b507)])) rfl rfl (hb hby at_302)
        replace V_545 : AI Z h545 b507 k507 .byte (33 : Int32) [y215, y229, y238, y247, y253, (nar .byte y78), (nar .byte y87), (nar .byte y96), (nar .byte y102), (0 : Int32), (0 : Int32), (0 : Int32), (0 : Int32), (0 : Int32), (0 : Int32), (0 : Int32), (0 : Int32), (0 : Int32), (0 : Int32), (0 : Int32), (0 : Int32), (0 : Int32), (0 : Int32), (0 : Int32), (0 : Int32), (0 : Int32), (0 : Int32), (0 : Int32), (0 : Int32), (0 : Int32), (0 : Int32), (0 : Int32), (0 : Int32)] := V_545
        have N546 := Fr.snoc X545 N542 g509
        have Z547 : n0 ≤ h545.size := Nat.le_trans Z543 (Nat.le_of_eq W545.size.symm)
        have V548 := V544.other W545 ne508
        refine Goes.step (S' := T545.setTop (mkF m 303 #[.val (.int p0), .val (.int p1), .val (.int p2), .val (.int p3), .val (.int p4), .val (.int p5), .val (.int (1 : Int32)), .val (.int (1 : Int32)), .val (.long v8_34), .second, .val (.int (17 : Int32)), .val (.ref b467), .val (.ref b507), .val (.int (5 : Int32)), .unset, .unset, .unset] [])) st545 ?_
        refine G_aload X545 hx (hb hby at_303) rfl rfl (pc' := 305) rfl ?_
        refine G_iload X545 hx (hb hby at_305) rfl (pc' := 307) rfl ?_
        refine G_iconst X545 hx (hb hby at_307) (z := 4) rfl (pc' := 308) rfl ?_
        refine G_iadd X545 hx (hb hby at_308) (z := 9) rfl (pc' := 309) rfl ?_
        refine G_aload X545 hx (hb hby at_309) rfl rfl (pc' := 311) rfl ?_
        refine G_iconst X545 hx (hb hby at_311) (z := 4) rfl (pc' := 312) rfl ?_
        refine Goes.step (S' := T545.setTop (mkF m 313 #[.val (.int p0), .val (.int p1), .val (.int p2), .val (.int p3), .val (.int p4), .val (.int p5), .val (.int (1 : Int32)), .val (.int (1 : Int32)), .val (.long v8_34), .second, .val (.int (17 : Int32)), .val (.ref b467), .val (.ref b507), .val (.int (5 : Int32)), .unset, .unset, .unset] [(.int y111), (.int (9 : Int32)), (.ref b507)])) (fun _ k => own_baload X545 hx hZ e545 V548 ⟨by decide, by decide⟩ (hb hby at_312) _ k) ?_
        obtain ⟨T549, h549, X549, e549, W549, V_549, st549⟩ := own_bastore X545 hx hZ e545 V_545 ⟨by decide, by decide⟩ (g := (mkF m 313 #[.val (.int p0), .val (.int p1), .val (.int p2), .val (.int p3), .val (.int p4), .val (.int p5), .val (.int (1 : Int32)), .val (.int (1 : Int32)), .val (.long v8_34), .second, .val (.int (17 : Int32)), .val (.ref b467), .val (.ref b507), .val (.int (5 : Int32)), .unset, .unset, .unset] [(.int y111), (.int (9 : Int32)), (.ref b507)])) rfl rfl (hb hby at_313)
        replace V_549 : AI Z h549 b507 k507 .byte (33 : Int32) [y215, y229, y238, y247, y253, (nar .byte y78), (nar .byte y87), (nar .byte y96), (nar .byte y102), (nar .byte y111), (0 : Int32), (0 : Int32), (0 : Int32), (0 : Int32), (0 : Int32), (0 : Int32), (0 : Int32), (0 : Int32), (0 : Int32), (0 : Int32), (0 : Int32), (0 : Int32), (0 : Int32), (0 : Int32), (0 : Int32), (0 : Int32), (0 : Int32), (0 : Int32), (0 : Int32), (0 : Int32), (0 : Int32), (0 : Int32), (0 : Int32)] := V_549
        have N550 := Fr.snoc X549 N546 g509
        have Z551 : n0 ≤ h549.size := Nat.le_trans Z547 (Nat.le_of_eq W549.size.symm)
        have V552 := V548.other W549 ne508
        refine Goes.step (S' := T549.setTop (mkF m 314 #[.val (.int p0), .val (.int p1), .val (.int p2), .val (.int p3), .val (.int p4), .val (.int p5), .val (.int (1 : Int32)), .val (.int (1 : Int32)), .val (.long v8_34), .second, .val (.int (17 : Int32)), .val (.ref b467), .val (.ref b507), .val (.int (5 : Int32)), .unset, .unset, .unset] [])) st549 ?_
        refine G_aload X549 hx (hb hby at_314) rfl rfl (pc' := 316) rfl ?_
        refine G_iload X549 hx (hb hby at_316) rfl (pc' := 318) rfl ?_
        refine G_iconst X549 hx (hb hby at_318) (z := 5) rfl (pc' := 319) rfl ?_
        refine G_iadd X549 hx (hb hby at_319) (z := 10) rfl (pc' := 320) rfl ?_
        refine G_aload X549 hx (hb hby at_320) rfl rfl (pc' := 322) rfl ?_
        refine G_iconst X549 hx (hb hby at_322) (z := 5) rfl (pc' := 323) rfl ?_
        refine Goes.step (S' := T549.setTop (mkF m 324 #[.val (.int p0), .val (.int p1), .val (.int p2), .val (.int p3), .val (.int p4), .val (.int p5), .val (.int (1 : Int32)), .val (.int (1 : Int32)), .val (.long v8_34), .second, .val (.int (17 : Int32)), .val (.ref b467), .val (.ref b507), .val (.int (5 : Int32)), .unset, .unset, .unset] [(.int y120), (.int (10 : Int32)), (.ref b507)])) (fun _ k => own_baload X549 hx hZ e549 V552 ⟨by decide, by decide⟩ (hb hby at_323) _ k) ?_
        obtain ⟨T553, h553, X553, e553, W553, V_553, st553⟩ := own_bastore X549 hx hZ e549 V_549 ⟨by decide, by decide⟩ (g := (mkF m 324 #[.val (.int p0), .val (.int p1), .val (.int p2), .val (.int p3), .val (.int p4), .val (.int p5), .val (.int (1 : Int32)), .val (.int (1 : Int32)), .val (.long v8_34), .second, .val (.int (17 : Int32)), .val (.ref b467), .val (.ref b507), .val (.int (5 : Int32)), .unset, .unset, .unset] [(.int y120), (.int (10 : Int32)), (.ref b507)])) rfl rfl (hb hby at_324)
        replace V_553 : AI Z h553 b507 k507 .byte (33 : Int32) [y215, y229, y238, y247, y253, (nar .byte y78), (nar .byte y87), (nar .byte y96), (nar .byte y102), (nar .byte y111), (nar .byte y120), (0 : Int32), (0 : Int32), (0 : Int32), (0 : Int32), (0 : Int32), (0 : Int32), (0 : Int32), (0 : Int32), (0 : Int32), (0 : Int32), (0 : Int32), (0 : Int32), (0 : Int32), (0 : Int32), (0 : Int32), (0 : Int32), (0 : Int32), (0 : Int32), (0 : Int32), (0 : Int32), (0 : Int32), (0 : Int32)] := V_553
        have N554 := Fr.snoc X553 N550 g509
        have Z555 : n0 ≤ h553.size := Nat.le_trans Z551 (Nat.le_of_eq W553.size.symm)
        have V556 := V552.other W553 ne508
        refine Goes.step (S' := T553.setTop (mkF m 325 #[.val (.int p0), .val (.int p1), .val (.int p2), .val (.int p3), .val (.int p4), .val (.int p5), .val (.int (1 : Int32)), .val (.int (1 : Int32)), .val (.long v8_34), .second, .val (.int (17 : Int32)), .val (.ref b467), .val (.ref b507), .val (.int (5 : Int32)), .unset, .unset, .unset] [])) st553 ?_
        refine G_aload X553 hx (hb hby at_325) rfl rfl (pc' := 327) rfl ?_
        refine G_iload X553 hx (hb hby at_327) rfl (pc' := 329) rfl ?_
        refine G_bipush X553 hx (hb hby at_329) (z := 6) rfl (pc' := 331) rfl ?_
        refine G_iadd X553 hx (hb hby at_331) (z := 11) rfl (pc' := 332) rfl ?_
        refine G_aload X553 hx (hb hby at_332) rfl rfl (pc' := 334) rfl ?_
        refine G_bipush X553 hx (hb hby at_334) (z := 6) rfl (pc' := 336) rfl ?_
        refine Goes.step (S' := T553.setTop (mkF m 337 #[.val (.int p0), .val (.int p1), .val (.int p2), .val (.int p3), .val (.int p4), .val (.int p5), .val (.int (1 : Int32)), .val (.int (1 : Int32)), .val (.long v8_34), .second, .val (.int (17 : Int32)), .val (.ref b467), .val (.ref b507), .val (.int (5 : Int32)), .unset, .unset, .unset] [(.int y130), (.int (11 : Int32)), (.ref b507)])) (fun _ k => own_baload X553 hx hZ e553 V556 ⟨by decide, by decide⟩ (hb hby at_336) _ k) ?_
        obtain ⟨T557, h557, X557, e557, W557, V_557, st557⟩ := own_bastore X553 hx hZ e553 V_553 ⟨by decide, by decide⟩ (g := (mkF m 337 #[.val (.int p0), .val (.int p1), .val (.int p2), .val (.int p3), .val (.int p4), .val (.int p5), .val (.int (1 : Int32)), .val (.int (1 : Int32)), .val (.long v8_34), .second, .val (.int (17 : Int32)), .val (.ref b467), .val (.ref b507), .val (.int (5 : Int32)), .unset, .unset, .unset] [(.int y130), (.int (11 : Int32)), (.ref b507)])) rfl rfl (hb hby at_337)
        replace V_557 : AI Z h557 b507 k507 .byte (33 : Int32) [y215, y229, y238, y247, y253, (nar .byte y78), (nar .byte y87), (nar .byte y96), (nar .byte y102), (nar .byte y111), (nar .byte y120), (nar .byte y130), (0 : Int32), (0 : Int32), (0 : Int32), (0 : Int32), (0 : Int32), (0 : Int32), (0 : Int32), (0 : Int32), (0 : Int32), (0 : Int32), (0 : Int32), (0 : Int32), (0 : Int32), (0 : Int32), (0 : Int32), (0 : Int32), (0 : Int32), (0 : Int32), (0 : Int32), (0 : Int32), (0 : Int32)] := V_557
        have N558 := Fr.snoc X557 N554 g509
        have Z559 : n0 ≤ h557.size := Nat.le_trans Z555 (Nat.le_of_eq W557.size.symm)
        have V560 := V556.other W557 ne508
        refine Goes.step (S' := T557.setTop (mkF m 338 #[.val (.int p0), .val (.int p1), .val (.int p2), .val (.int p3), .val (.int p4), .val (.int p5), .val (.int (1 : Int32)), .val (.int (1 : Int32)), .val (.long v8_34), .second, .val (.int (17 : Int32)), .val (.ref b467), .val (.ref b507), .val (.int (5 : Int32)), .unset, .unset, .unset] [])) st557 ?_
        refine G_aload X557 hx (hb hby at_338) rfl rfl (pc' := 340) rfl ?_
        refine G_iload X557 hx (hb hby at_340) rfl (pc' := 342) rfl ?_
        refine G_bipush X557 hx (hb hby at_342) (z := 7) rfl (pc' := 344) rfl ?_
        refine G_iadd X557 hx (hb hby at_344) (z := 12) rfl (pc' := 345) rfl ?_
        refine G_aload X557 hx (hb hby at_345) rfl rfl (pc' := 347) rfl ?_
        refine G_bipush X557 hx (hb hby at_347) (z := 7) rfl (pc' := 349) rfl ?_
        refine Goes.step (S' := T557.setTop (mkF m 350 #[.val (.int p0), .val (.int p1), .val (.int p2), .val (.int p3), .val (.int p4), .val (.int p5), .val (.int (1 : Int32)), .val (.int (1 : Int32)), .val (.long v8_34), .second, .val (.int (17 : Int32)), .val (.ref b467), .val (.ref b507), .val (.int (5 : Int32)), .unset, .unset, .unset] [(.int y137), (.int (12 : Int32)), (.ref b507)])) (fun _ k => own_baload X557 hx hZ e557 V560 ⟨by decide, by decide⟩ (hb hby at_349) _ k) ?_
        obtain ⟨T561, h561, X561, e561, W561, V_561, st561⟩ := own_bastore X557 hx hZ e557 V_557 ⟨by decide, by decide⟩ (g := (mkF m 350 #[.val (.int p0), .val (.int p1), .val (.int p2), .val (.int p3), .val (.int p4), .val (.int p5), .val (.int (1 : Int32)), .val (.int (1 : Int32)), .val (.long v8_34), .second, .val (.int (17 : Int32)), .val (.ref b467), .val (.ref b507), .val (.int (5 : Int32)), .unset, .unset, .unset] [(.int y137), (.int (12 : Int32)), (.ref b507)])) rfl rfl (hb hby at_350)
        replace V_561 : AI Z h561 b507 k507 .byte (33 : Int32) [y215, y229, y238, y247, y253, (nar .byte y78), (nar .byte y87), (nar .byte y96), (nar .byte y102), (nar .byte y111), (nar .byte y120), (nar .byte y130), (nar .byte y137), (0 : Int32), (0 : Int32), (0 : Int32), (0 : Int32), (0 : Int32), (0 : Int32), (0 : Int32), (0 : Int32), (0 : Int32), (0 : Int32), (0 : Int32), (0 : Int32), (0 : Int32), (0 : Int32), (0 : Int32), (0 : Int32), (0 : Int32), (0 : Int32), (0 : Int32), (0 : Int32)] := V_561
        have N562 := Fr.snoc X561 N558 g509
        have Z563 : n0 ≤ h561.size := Nat.le_trans Z559 (Nat.le_of_eq W561.size.symm)
        have V564 := V560.other W561 ne508
        refine Goes.step (S' := T561.setTop (mkF m 351 #[.val (.int p0), .val (.int p1), .val (.int p2), .val (.int p3), .val (.int p4), .val (.int p5), .val (.int (1 : Int32)), .val (.int (1 : Int32)), .val (.long v8_34), .second, .val (.int (17 : Int32)), .val (.ref b467), .val (.ref b507), .val (.int (5 : Int32)), .unset, .unset, .unset] [])) st561 ?_
        refine G_aload X561 hx (hb hby at_351) rfl rfl (pc' := 353) rfl ?_
        refine G_iload X561 hx (hb hby at_353) rfl (pc' := 355) rfl ?_
        refine G_bipush X561 hx (hb hby at_355) (z := 8) rfl (pc' := 357) rfl ?_
        refine G_iadd X561 hx (hb hby at_357) (z := 13) rfl (pc' := 358) rfl ?_
        refine G_aload X561 hx (hb hby at_358) rfl rfl (pc' := 360) rfl ?_
        refine G_bipush X561 hx (hb hby at_360) (z := 8) rfl (pc' := 362) rfl ?_
        refine Goes.step (S' := T561.setTop (mkF m 363 #[.val (.int p0), .val (.int p1), .val (.int p2), .val (.int p3), .val (.int p4), .val (.int p5), .val (.int (1 : Int32)), .val (.int (1 : Int32)), .val (.long v8_34), .second, .val (.int (17 : Int32)), .val (.ref b467), .val (.ref b507), .val (.int (5 : Int32)), .unset, .unset, .unset] [(.int y147), (.int (13 : Int32)), (.ref b507)])) (fun _ k => own_baload X561 hx hZ e561 V564 ⟨by decide, by decide⟩ (hb hby at_362) _ k) ?_
        obtain ⟨T565, h565, X565, e565, W565, V_565, st565⟩ := own_bastore X561 hx hZ e561 V_561 ⟨by decide, by decide⟩ (g := (mkF m 363 #[.val (.int p0), .val (.int p1), .val (.int p2), .val (.int p3), .val (.int p4), .val (.int p5), .val (.int (1 : Int32)), .val (.int (1 : Int32)), .val (.long v8_34), .second, .val (.int (17 : Int32)), .val (.ref b467), .val (.ref b507), .val (.int (5 : Int32)), .unset, .unset, .unset] [(.int y147), (.int (13 : Int32)), (.ref b507)])) rfl rfl (hb hby at_363)
        replace V_565 : AI Z h565 b507 k507 .byte (33 : Int32) [y215, y229, y238, y247, y253, (nar .byte y78), (nar .byte y87), (nar .byte y96), (nar .byte y102), (nar .byte y111), (nar .byte y120), (nar .byte y130), (nar .byte y137), (nar .byte y147), (0 : Int32), (0 : Int32), (0 : Int32), (0 : Int32), (0 : Int32), (0 : Int32), (0 : Int32), (0 : Int32), (0 : Int32), (0 : Int32), (0 : Int32), (0 : Int32), (0 : Int32), (0 : Int32), (0 : Int32), (0 : Int32), (0 : Int32), (0 : Int32), (0 : Int32)] := V_565
        have N566 := Fr.snoc X565 N562 g509
        have Z567 : n0 ≤ h565.size := Nat.le_trans Z563 (Nat.le_of_eq W565.size.symm)
        have V568 := V564.other W565 ne508
        refine Goes.step (S' := T565.setTop (mkF m 364 #[.val (.int p0), .val (.int p1), .val (.int p2), .val (.int p3), .val (.int p4), .val (.int p5), .val (.int (1 : Int32)), .val (.int (1 : Int32)), .val (.long v8_34), .second, .val (.int (17 : Int32)), .val (.ref b467), .val (.ref b507), .val (.int (5 : Int32)), .unset, .unset, .unset] [])) st565 ?_
        refine G_aload X565 hx (hb hby at_364) rfl rfl (pc' := 366) rfl ?_
        refine G_iload X565 hx (hb hby at_366) rfl (pc' := 368) rfl ?_
        refine G_bipush X565 hx (hb hby at_368) (z := 9) rfl (pc' := 370) rfl ?_
        refine G_iadd X565 hx (hb hby at_370) (z := 14) rfl (pc' := 371) rfl ?_
        refine G_aload X565 hx (hb hby at_371) rfl rfl (pc' := 373) rfl ?_
        refine G_bipush X565 hx (hb hby at_373) (z := 9) rfl (pc' := 375) rfl ?_
        refine Goes.step (S' := T565.setTop (mkF m 376 #[.val (.int p0), .val (.int p1), .val (.int p2), .val (.int p3), .val (.int p4), .val (.int p5), .val (.int (1 : Int32)), .val (.int (1 : Int32)), .val (.long v8_34), .second, .val (.int (17 : Int32)), .val (.ref b467), .val (.ref b507), .val (.int (5 : Int32)), .unset, .unset, .unset] [(.int y157), (.int (14 : Int32)), (.ref b507)])) (fun _ k => own_baload X565 hx hZ e565 V568 ⟨by decide, by decide⟩ (hb hby at_375) _ k) ?_
        obtain ⟨T569, h569, X569, e569, W569, V_569, st569⟩ := own_bastore X565 hx hZ e565 V_565 ⟨by decide, by decide⟩ (g := (mkF m 376 #[.val (.int p0), .val (.int p1), .val (.int p2), .val (.int p3), .val (.int p4), .val (.int p5), .val (.int (1 : Int32)), .val (.int (1 : Int32)), .val (.long v8_34), .second, .val (.int (17 : Int32)), .val (.ref b467), .val (.ref b507), .val (.int (5 : Int32)), .unset, .unset, .unset] [(.int y157), (.int (14 : Int32)), (.ref b507)])) rfl rfl (hb hby at_376)
        replace V_569 : AI Z h569 b507 k507 .byte (33 : Int32) [y215, y229, y238, y247, y253, (nar .byte y78), (nar .byte y87), (nar .byte y96), (nar .byte y102), (nar .byte y111), (nar .byte y120), (nar .byte y130), (nar .byte y137), (nar .byte y147), (nar .byte y157), (0 : Int32), (0 : Int32), (0 : Int32), (0 : Int32), (0 : Int32), (0 : Int32), (0 : Int32), (0 : Int32), (0 : Int32), (0 : Int32), (0 : Int32), (0 : Int32), (0 : Int32), (0 : Int32), (0 : Int32), (0 : Int32), (0 : Int32), (0 : Int32)] := V_569
        have N570 := Fr.snoc X569 N566 g509
        have Z571 : n0 ≤ h569.size := Nat.le_trans Z567 (Nat.le_of_eq W569.size.symm)
        have V572 := V568.other W569 ne508
        refine Goes.step (S' := T569.setTop (mkF m 377 #[.val (.int p0), .val (.int p1), .val (.int p2), .val (.int p3), .val (.int p4), .val (.int p5), .val (.int (1 : Int32)), .val (.int (1 : Int32)), .val (.long v8_34), .second, .val (.int (17 : Int32)), .val (.ref b467), .val (.ref b507), .val (.int (5 : Int32)), .unset, .unset, .unset] [])) st569 ?_
        refine G_aload X569 hx (hb hby at_377) rfl rfl (pc' := 379) rfl ?_
        refine G_iload X569 hx (hb hby at_379) rfl (pc' := 381) rfl ?_
        refine G_bipush X569 hx (hb hby at_381) (z := 10) rfl (pc' := 383) rfl ?_
        refine G_iadd X569 hx (hb hby at_383) (z := 15) rfl (pc' := 384) rfl ?_
        refine G_aload X569 hx (hb hby at_384) rfl rfl (pc' := 386) rfl ?_
        refine G_bipush X569 hx (hb hby at_386) (z := 10) rfl (pc' := 388) rfl ?_
        refine Goes.step (S' := T569.setTop (mkF m 389 #[.val (.int p0), .val (.int p1), .val (.int p2), .val (.int p3), .val (.int p4), .val (.int p5), .val (.int (1 : Int32)), .val (.int (1 : Int32)), .val (.long v8_34), .second, .val (.int (17 : Int32)), .val (.ref b467), .val (.ref b507), .val (.int (5 : Int32)), .unset, .unset, .unset] [(.int y167), (.int (15 : Int32)), (.ref b507)])) (fun _ k => own_baload X569 hx hZ e569 V572 ⟨by decide, by decide⟩ (hb hby at_388) _ k) ?_
        obtain ⟨T573, h573, X573, e573, W573, V_573, st573⟩ := own_bastore X569 hx hZ e569 V_569 ⟨by decide, by decide⟩ (g := (mkF m 389 #[.val (.int p0), .val (.int p1), .val (.int p2), .val (.int p3), .val (.int p4), .val (.int p5), .val (.int (1 : Int32)), .val (.int (1 : Int32)), .val (.long v8_34), .second, .val (.int (17 : Int32)), .val (.ref b467), .val (.ref b507), .val (.int (5 : Int32)), .unset, .unset, .unset] [(.int y167), (.int (15 : Int32)), (.ref b507)])) rfl rfl (hb hby at_389)
        replace V_573 : AI Z h573 b507 k507 .byte (33 : Int32) [y215, y229, y238, y247, y253, (nar .byte y78), (nar .byte y87), (nar .byte y96), (nar .byte y102), (nar .byte y111), (nar .byte y120), (nar .byte y130), (nar .byte y137), (nar .byte y147), (nar .byte y157), (nar .byte y167), (0 : Int32), (0 : Int32), (0 : Int32), (0 : Int32), (0 : Int32), (0 : Int32), (0 : Int32), (0 : Int32), (0 : Int32), (0 : Int32), (0 : Int32), (0 : Int32), (0 : Int32), (0 : Int32), (0 : Int32), (0 : Int32), (0 : Int32)] := V_573
        have N574 := Fr.snoc X573 N570 g509
        have Z575 : n0 ≤ h573.size := Nat.le_trans Z571 (Nat.le_of_eq W573.size.symm)
        have V576 := V572.other W573 ne508
        refine Goes.step (S' := T573.setTop (mkF m 390 #[.val (.int p0), .val (.int p1), .val (.int p2), .val (.int p3), .val (.int p4), .val (.int p5), .val (.int (1 : Int32)), .val (.int (1 : Int32)), .val (.long v8_34), .second, .val (.int (17 : Int32)), .val (.ref b467), .val (.ref b507), .val (.int (5 : Int32)), .unset, .unset, .unset] [])) st573 ?_
        refine G_aload X573 hx (hb hby at_390) rfl rfl (pc' := 392) rfl ?_
        refine G_iload X573 hx (hb hby at_392) rfl (pc' := 394) rfl ?_
        refine G_bipush X573 hx (hb hby at_394) (z := 11) rfl (pc' := 396) rfl ?_
        refine G_iadd X573 hx (hb hby at_396) (z := 16) rfl (pc' := 397) rfl ?_
        refine G_aload X573 hx (hb hby at_397) rfl rfl (pc' := 399) rfl ?_
        refine G_bipush X573 hx (hb hby at_399) (z := 11) rfl (pc' := 401) rfl ?_
        refine Goes.step (S' := T573.setTop (mkF m 402 #[.val (.int p0), .val (.int p1), .val (.int p2), .val (.int p3), .val (.int p4), .val (.int p5), .val (.int (1 : Int32)), .val (.int (1 : Int32)), .val (.long v8_34), .second, .val (.int (17 : Int32)), .val (.ref b467), .val (.ref b507), .val (.int (5 : Int32)), .unset, .unset, .unset] [(.int y174), (.int (16 : Int32)), (.ref b507)])) (fun _ k => own_baload X573 hx hZ e573 V576 ⟨by decide, by decide⟩ (hb hby at_401) _ k) ?_
        obtain ⟨T577, h577, X577, e577, W577, V_577, st577⟩ := own_bastore X573 hx hZ e573 V_573 ⟨by decide, by decide⟩ (g := (mkF m 402 #[.val (.int p0), .val (.int p1), .val (.int p2), .val (.int p3), .val (.int p4), .val (.int p5), .val (.int (1 : Int32)), .val (.int (1 : Int32)), .val (.long v8_34), .second, .val (.int (17 : Int32)), .val (.ref b467), .val (.ref b507), .val (.int (5 : Int32)), .unset, .unset, .unset] [(.int y174), (.int (16 : Int32)), (.ref b507)])) rfl rfl (hb hby at_402)
        replace V_577 : AI Z h577 b507 k507 .byte (33 : Int32) [y215, y229, y238, y247, y253, (nar .byte y78), (nar .byte y87), (nar .byte y96), (nar .byte y102), (nar .byte y111), (nar .byte y120), (nar .byte y130), (nar .byte y137), (nar .byte y147), (nar .byte y157), (nar .byte y167), (nar .byte y174), (0 : Int32), (0 : Int32), (0 : Int32), (0 : Int32), (0 : Int32), (0 : Int32), (0 : Int32), (0 : Int32), (0 : Int32), (0 : Int32), (0 : Int32), (0 : Int32), (0 : Int32), (0 : Int32), (0 : Int32), (0 : Int32)] := V_577
        have N578 := Fr.snoc X577 N574 g509
        have Z579 : n0 ≤ h577.size := Nat.le_trans Z575 (Nat.le_of_eq W577.size.symm)
        have V580 := V576.other W577 ne508
        refine Goes.step (S' := T577.setTop (mkF m 403 #[.val (.int p0), .val (.int p1), .val (.int p2), .val (.int p3), .val (.int p4), .val (.int p5), .val (.int (1 : Int32)), .val (.int (1 : Int32)), .val (.long v8_34), .second, .val (.int (17 : Int32)), .val (.ref b467), .val (.ref b507), .val (.int (5 : Int32)), .unset, .unset, .unset] [])) st577 ?_
        refine G_aload X577 hx (hb hby at_403) rfl rfl (pc' := 405) rfl ?_
        refine G_iload X577 hx (hb hby at_405) rfl (pc' := 407) rfl ?_
        refine G_iload X577 hx (hb hby at_407) rfl (pc' := 409) rfl ?_
        refine G_i2b X577 hx (hb hby at_409) (pc' := 410) rfl ?_
        obtain ⟨T581, h581, X581, e581, W581, V_581, st581⟩ := own_bastore X577 hx hZ e577 V_577 ⟨by decide, by decide⟩ (g := (mkF m 410 #[.val (.int p0), .val (.int p1), .val (.int p2), .val (.int p3), .val (.int p4), .val (.int p5), .val (.int (1 : Int32)), .val (.int (1 : Int32)), .val (.long v8_34), .second, .val (.int (17 : Int32)), .val (.ref b467), .val (.ref b507), .val (.int (5 : Int32)), .unset, .unset, .unset] [(.int (p5.toInt8.toInt32)), (.int (17 : Int32)), (.ref b507)])) rfl rfl (hb hby at_410)
        obtain ⟨y410, ey410⟩ : ∃ z : Int32, z = (nar .byte (p5.toInt8.toInt32)) := ⟨_, rfl⟩
        replace V_581 : AI Z h581 b507 k507 .byte (33 : Int32) [y215, y229, y238, y247, y253, (nar .byte y78), (nar .byte y87), (nar .byte y96), (nar .byte y102), (nar .byte y111), (nar .byte y120), (nar .byte y130), (nar .byte y137), (nar .byte y147), (nar .byte y157), (nar .byte y167), (nar .byte y174), y410, (0 : Int32), (0 : Int32), (0 : Int32), (0 : Int32), (0 : Int32), (0 : Int32), (0 : Int32), (0 : Int32), (0 : Int32), (0 : Int32), (0 : Int32), (0 : Int32), (0 : Int32), (0 : Int32), (0 : Int32)] := by rw [ey410]; exact V_581
        have N582 := Fr.snoc X581 N578 g509
        have Z583 : n0 ≤ h581.size := Nat.le_trans Z579 (Nat.le_of_eq W581.size.symm)
        have V584 := V580.other W581 ne508
        refine Goes.step (S' := T581.setTop (mkF m 411 #[.val (.int p0), .val (.int p1), .val (.int p2), .val (.int p3), .val (.int p4), .val (.int p5), .val (.int (1 : Int32)), .val (.int (1 : Int32)), .val (.long v8_34), .second, .val (.int (17 : Int32)), .val (.ref b467), .val (.ref b507), .val (.int (5 : Int32)), .unset, .unset, .unset] [])) st581 ?_
        refine G_aload X581 hx (hb hby at_411) rfl rfl (pc' := 413) rfl ?_
        refine G_aload X581 hx (hb hby at_413) rfl rfl (pc' := 415) rfl ?_
        refine Goes.step (S' := T581.setTop (mkF m 416 #[.val (.int p0), .val (.int p1), .val (.int p2), .val (.int p3), .val (.int p4), .val (.int p5), .val (.int (1 : Int32)), .val (.int (1 : Int32)), .val (.long v8_34), .second, .val (.int (17 : Int32)), .val (.ref b467), .val (.ref b507), .val (.int (5 : Int32)), .unset, .unset, .unset] [(.int (33 : Int32)), (.ref b507)])) (fun _ k => own_len X581 hx hZ e581 V_581 (hb hby at_415) _ k) ?_
        refine G_iconst X581 hx (hb hby at_416) (z := 1) rfl (pc' := 417) rfl ?_
        refine Goes.step (S' := T581.setTop (mkF m 418 #[.val (.int p0), .val (.int p1), .val (.int p2), .val (.int p3), .val (.int p4), .val (.int p5), .val (.int (1 : Int32)), .val (.int (1 : Int32)), .val (.long v8_34), .second, .val (.int (17 : Int32)), .val (.ref b467), .val (.ref b507), .val (.int (5 : Int32)), .unset, .unset, .unset] [(.int (32 : Int32)), (.ref b507)])) (fun _ k => XS.isub X581.here hx rfl (hb hby at_417) rfl k) ?_
        refine G_iload X581 hx (hb hby at_418) rfl (pc' := 420) rfl ?_
        refine G_bipush X581 hx (hb hby at_420) (z := 8) rfl (pc' := 422) rfl ?_
        refine G_iushr X581 hx (hb hby at_422) (pc' := 423) rfl ?_
        refine G_i2b X581 hx (hb hby at_423) (pc' := 424) rfl ?_
        obtain ⟨T585, h585, X585, e585, W585, V_585, st585⟩ := own_bastore X581 hx hZ e581 V_581 ⟨by decide, by decide⟩ (g := (mkF m 424 #[.val (.int p0), .val (.int p1), .val (.int p2), .val (.int p3), .val (.int p4), .val (.int p5), .val (.int (1 : Int32)), .val (.int (1 : Int32)), .val (.long v8_34), .second, .val (.int (17 : Int32)), .val (.ref b467), .val (.ref b507), .val (.int (5 : Int32)), .unset, .unset, .unset] [(.int (((p5.toUInt32 >>> ((8 : Int32) &&& 31).toUInt32).toInt32).toInt8.toInt32)), (.int (32 : Int32)), (.ref b507)])) rfl rfl (hb hby at_424)
        obtain ⟨y424, ey424⟩ : ∃ z : Int32, z = (nar .byte (((p5.toUInt32 >>> ((8 : Int32) &&& 31).toUInt32).toInt32).toInt8.toInt32)) := ⟨_, rfl⟩
        replace V_585 : AI Z h585 b507 k507 .byte (33 : Int32) [y215, y229, y238, y247, y253, (nar .byte y78), (nar .byte y87), (nar .byte y96), (nar .byte y102), (nar .byte y111), (nar .byte y120), (nar .byte y130), (nar .byte y137), (nar .byte y147), (nar .byte y157), (nar .byte y167), (nar .byte y174), y410, (0 : Int32), (0 : Int32), (0 : Int32), (0 : Int32), (0 : Int32), (0 : Int32), (0 : Int32), (0 : Int32), (0 : Int32), (0 : Int32), (0 : Int32), (0 : Int32), (0 : Int32), (0 : Int32), y424] := by rw [ey424]; exact V_585
        have N586 := Fr.snoc X585 N582 g509
        have Z587 : n0 ≤ h585.size := Nat.le_trans Z583 (Nat.le_of_eq W585.size.symm)
        have V588 := V584.other W585 ne508
        refine Goes.step (S' := T585.setTop (mkF m 425 #[.val (.int p0), .val (.int p1), .val (.int p2), .val (.int p3), .val (.int p4), .val (.int p5), .val (.int (1 : Int32)), .val (.int (1 : Int32)), .val (.long v8_34), .second, .val (.int (17 : Int32)), .val (.ref b467), .val (.ref b507), .val (.int (5 : Int32)), .unset, .unset, .unset] [])) st585 ?_
        refine G_aload X585 hx (hb hby at_425) rfl rfl (pc' := 427) rfl ?_
        obtain ⟨_, _, ⟨T589, L589, k589, n589⟩, -, X589, ⟨Lc589, hQ589, l589, y589, z589⟩, st589⟩ := Jvm.LawKit.callS X585 hx (y := (⟨"com/example/isopod/isopod/RecordHeader", "read", "([B)Lcom/example/isopod/isopod/RecordHeader;"⟩ : MethodName)) hown (mvT hZ (hw _ (List.mem_of_getElem? (i := 2) rfl))) (mvT hZ (hw _ (List.mem_of_getElem? (i := 3) rfl))) (mvT hZ (hw _ (List.mem_of_getElem? (i := 4) rfl))) (mvT hZ (hw _ (List.mem_of_getElem? (i := 5) rfl))) (by decide) (backOf (W := 0) (rm1b l Z a0 hw [] b507 k507 ((33 : Int32)) ([y215, y229, y238, y247, y253, (nar .byte y78), (nar .byte y87), (nar .byte y96), (nar .byte y102), (nar .byte y111), (nar .byte y120), (nar .byte y130), (nar .byte y137), (nar .byte y147), (nar .byte y157), (nar .byte y167), (nar .byte y174), y410, (0 : Int32), (0 : Int32), (0 : Int32), (0 : Int32), (0 : Int32), (0 : Int32), (0 : Int32), (0 : Int32), (0 : Int32), (0 : Int32), (0 : Int32), (0 : Int32), (0 : Int32), (0 : Int32), y424]) v8_34 h585 n0 Z587 V_585 hk507 (own_pr0_427_hv0_4 p0 p1 p2 p3 p4 p5 hc4_1 hc18_3 v8_34 ev8_34 hc45_5 y78 ey78 y87 ey87 y96 ey96 y102 ey102 y111 ey111 y120 ey120 y130 ey130 y137 ey137 y147 ey147 y157 ey157 y167 ey167 y174 ey174 y215 ey215 y229 ey229 y238 ey238 y247 ey247 y253 ey253 y410 ey410 y424 ey424) (own_pr0_427_hn_4 p0 p1 p2 p3 p4 p5 hc4_1 hc18_3 v8_34 ev8_34 hc45_5) (own_pr0_427_hn2_4 p0 p1 p2 p3 p4 p5 hc4_1 hc18_3 v8_34 ev8_34 hc45_5) (own_pr0_427_hgen_2 p0 p1 p2 p3 p4 p5 hc4_1 hc18_3 v8_34 ev8_34 hc45_5 y78 ey78 y87 ey87 y96 ey96 y102 ey102 y111 ey111 y120 ey120 y130 ey130 y137 ey137 y147 ey147 y157 ey157 y167 ey167 y174 ey174 y215 ey215 y229 ey229 y238 ey238 y247 ey247 y253 ey253 y410 ey410 y424 ey424) (own_pr0_427_hg0_2 p0 p1 p2 p3 p4 p5 hc4_1 hc18_3 v8_34 ev8_34 hc45_5)) hZ (hw _ (List.mem_of_getElem? (i := 5) rfl)) (hw _ (List.mem_of_getElem? (i := 4) rfl)) (by decide) (by decide)) (g := (mkF m 427 #[.val (.int p0), .val (.int p1), .val (.int p2), .val (.int p3), .val (.int p4), .val (.int p5), .val (.int (1 : Int32)), .val (.int (1 : Int32)), .val (.long v8_34), .second, .val (.int (17 : Int32)), .val (.ref b467), .val (.ref b507), .val (.int (5 : Int32)), .unset, .unset, .unset] [(.ref b507)])) rfl (by rw [hml]; rfl) (argsL := [(.ref b507)]) (rest := []) (lenOf pd5 rfl) rfl (by show 2 * 0 + _ ≤ _; exact Nat.le_of_eq rfl) (hb hby at_427) (fun _ _ => ⟨rfl, e585, (by decide : 2 + 2 ≤ _), (by decide : 45 + 15 ≤ _)⟩)
        dsimp only [Pt.U, Pt.locs, Pt.cells, Pt.slots] at X589 l589 y589 z589 st589 hQ589
        replace X589 := X589.more (Nat.le_of_eq (y589 : k589 = 4)) (Nat.le_of_eq (z589 : n589 = 60))
        obtain ⟨r589_0, r589_1, rk589_0, rfl, N589q, K589q, P590, P591, P592, P593, P594, P595, P596, P597, P598⟩ := hQ589
        have N599 := own_frapp l589 N586 N589q
        have ne600 : b467 ≠ r589_0 := Nat.ne_of_lt (Nat.lt_of_lt_of_le V588.lt P590)
        have ne601 : b507 ≠ r589_0 := Nat.ne_of_lt (Nat.lt_of_lt_of_le V_585.lt P590)
        have g602 : n0 ≤ r589_0 := Nat.le_trans Z587 P590
        have ne603 : b467 ≠ r589_1 := Nat.ne_of_lt (Nat.lt_of_lt_of_le V588.lt P595)
        have ne604 : b507 ≠ r589_1 := Nat.ne_of_lt (Nat.lt_of_lt_of_le V_585.lt P595)
        have g605 : n0 ≤ r589_1 := Nat.le_trans Z587 P595
        have V606 := V588.keep K589q nin0
        have V607 := V_585.keep K589q nin0
        have Z608 : n0 ≤ T589.heap.size := Nat.le_trans Z587 K589q.1
        refine Goes.step (S' := T589.setTop (mkF m 430 #[.val (.int p0), .val (.int p1), .val (.int p2), .val (.int p3), .val (.int p4), .val (.int p5), .val (.int (1 : Int32)), .val (.int (1 : Int32)), .val (.long v8_34), .second, .val (.int (17 : Int32)), .val (.ref b467), .val (.ref b507), .val (.int (5 : Int32)), .unset, .unset, .unset] [(.ref r589_0)])) st589 ?_
        refine Goes.step (S' := T589.setTop (mkF m 432 #[.val (.int p0), .val (.int p1), .val (.int p2), .val (.int p3), .val (.int p4), .val (.int p5), .val (.int (1 : Int32)), .val (.int (1 : Int32)), .val (.long v8_34), .second, .val (.int (17 : Int32)), .val (.ref b467), .val (.ref b507), .val (.int (5 : Int32)), .val (.ref r589_0), .unset, .unset] [])) (fun _ k => XS.astore X589.here hx rfl (hb hby at_430) rfl rfl (l' := #[.val (.int p0), .val (.int p1), .val (.int p2), .val (.int p3), .val (.int p4), .val (.int p5), .val (.int (1 : Int32)), .val (.int (1 : Int32)), .val (.long v8_34), .second, .val (.int (17 : Int32)), .val (.ref b467), .val (.ref b507), .val (.int (5 : Int32)), .val (.ref r589_0), .unset, .unset]) rfl k) ?_
        refine G_aload X589 hx (hb hby at_432) rfl rfl (pc' := 434) rfl ?_
        obtain ⟨cq609, kq609, q609a, q609b, q609c⟩ := isOf hZ rfl P591
        obtain ⟨_, _, ⟨T609, L609, k609, n609⟩, -, X609, ⟨Lc609, hQ609, l609, y609, z609⟩, st609⟩ := X589.virtualBack hx (y := (⟨"com/example/isopod/isopod/RecordHeader", "nonce", "()[B"⟩ : MethodName)) (z := (⟨"com/example/isopod/isopod/RecordHeader", "nonce", "()[B"⟩ : MethodName)) hown (mvT hZ (hw _ (List.mem_of_getElem? (i := 42) rfl))) (mvT hZ (hw _ (List.mem_of_getElem? (i := 43) rfl))) (notFace_of_selects (args := #[]) (mvT hZ (hw _ (List.mem_of_getElem? (i := 45) rfl)))) (mvT hZ (hw _ (List.mem_of_getElem? (i := 45) rfl))) (mvT hZ (hw _ (List.mem_of_getElem? (i := 44) rfl))) (by decide) (backOf (W := 0) (rm9 l Z a0 hw [] r589_0 r589_1 rk589_0 ((12 : Int32)) ([(nar .byte y78), (nar .byte y87), (nar .byte y96), (nar .byte y102), (nar .byte y111), (nar .byte y120), (nar .byte y130), (nar .byte y137), (nar .byte y147), (nar .byte y157), (nar .byte y167), (nar .byte y174)]) T589.heap n0 Z608 P591 P593 P596 P597 (own_pr0_434_hlen_4 p0 p1 p2 p3 p4 p5 hc4_1 hc18_3 v8_34 ev8_34 hc45_5)) hZ (hw _ (List.mem_of_getElem? (i := 46) rfl)) (hw _ (List.mem_of_getElem? (i := 4) rfl)) (by decide) (by decide)) q609a q609c (g := (mkF m 434 #[.val (.int p0), .val (.int p1), .val (.int p2), .val (.int p3), .val (.int p4), .val (.int p5), .val (.int (1 : Int32)), .val (.int (1 : Int32)), .val (.long v8_34), .second, .val (.int (17 : Int32)), .val (.ref b467), .val (.ref b507), .val (.int (5 : Int32)), .val (.ref r589_0), .unset, .unset] [(.ref r589_0)])) rfl (by rw [hml]; rfl) (Steps.refl _) (argsL := []) (rest := []) (lenOf pd6 rfl) rfl (by show 2 * 0 + _ ≤ _; exact Nat.le_of_eq rfl) (hb hby at_434) (fun _ _ => ⟨rfl, rfl, (by decide : 4 + 1 ≤ _), (by decide : 60 + 12 ≤ _)⟩)
        dsimp only [Pt.U, Pt.locs, Pt.cells, Pt.slots] at X609 l609 y609 z609 st609 hQ609
        replace X609 := X609.more (Nat.le_of_eq (y609 : k609 = 5)) (Nat.le_of_eq (z609 : n609 = 72))
        obtain ⟨r609_0, rk609_0, rfl, N609q, K609q, P610, P611, P612⟩ := hQ609
        have N613 := own_frapp l609 N599 N609q
        have ne614 : b467 ≠ r609_0 := Nat.ne_of_lt (Nat.lt_of_lt_of_le V606.lt P610)
        have ne615 : b507 ≠ r609_0 := Nat.ne_of_lt (Nat.lt_of_lt_of_le V607.lt P610)
        have ne616 : r589_1 ≠ r609_0 := Nat.ne_of_lt (Nat.lt_of_lt_of_le P596.lt P610)
        have ne617 : r589_0 ≠ r609_0 := Nat.ne_of_lt (Nat.lt_of_lt_of_le P591.lt P610)
        have g618 : n0 ≤ r609_0 := Nat.le_trans Z608 P610
        have V619 := V606.keep K609q nin0
        have V620 := V607.keep K609q nin0
        have V621 := P596.keep K609q nin0
        have E_622 := P591.keep K609q
        have F623 := P592.keep K609q nin0
        have F624 := P593.keep K609q nin0
        have F625 := P594.keep K609q nin0
        have Z626 : n0 ≤ T609.heap.size := Nat.le_trans Z608 K609q.1
        refine Goes.step (S' := T609.setTop (mkF m 437 #[.val (.int p0), .val (.int p1), .val (.int p2), .val (.int p3), .val (.int p4), .val (.int p5), .val (.int (1 : Int32)), .val (.int (1 : Int32)), .val (.long v8_34), .second, .val (.int (17 : Int32)), .val (.ref b467), .val (.ref b507), .val (.int (5 : Int32)), .val (.ref r589_0), .unset, .unset] [(.ref r609_0)])) (fun _ k => st609.trans k) ?_
        refine Goes.step (S' := T609.setTop (mkF m 439 #[.val (.int p0), .val (.int p1), .val (.int p2), .val (.int p3), .val (.int p4), .val (.int p5), .val (.int (1 : Int32)), .val (.int (1 : Int32)), .val (.long v8_34), .second, .val (.int (17 : Int32)), .val (.ref b467), .val (.ref b507), .val (.int (5 : Int32)), .val (.ref r589_0), .val (.ref r609_0), .unset] [])) (fun _ k => XS.astore X609.here hx rfl (hb hby at_437) rfl rfl (l' := #[.val (.int p0), .val (.int p1), .val (.int p2), .val (.int p3), .val (.int p4), .val (.int p5), .val (.int (1 : Int32)), .val (.int (1 : Int32)), .val (.long v8_34), .second, .val (.int (17 : Int32)), .val (.ref b467), .val (.ref b507), .val (.int (5 : Int32)), .val (.ref r589_0), .val (.ref r609_0), .unset]) rfl k) ?_
        refine G_aload X609 hx (hb hby at_439) rfl rfl (pc' := 441) rfl ?_
        refine Goes.step (S' := T609.setTop (mkF m 442 #[.val (.int p0), .val (.int p1), .val (.int p2), .val (.int p3), .val (.int p4), .val (.int p5), .val (.int (1 : Int32)), .val (.int (1 : Int32)), .val (.long v8_34), .second, .val (.int (17 : Int32)), .val (.ref b467), .val (.ref b507), .val (.int (5 : Int32)), .val (.ref r589_0), .val (.ref r609_0), .unset] [(.int (12 : Int32))])) (fun _ k => own_len X609 hx hZ rfl P611 (hb hby at_441) _ k) ?_
        refine G_bipush X609 hx (hb hby at_442) (z := 12) rfl (pc' := 444) rfl ?_
        refine Goes.step (S' := T609.setTop (mkF m 447 #[.val (.int p0), .val (.int p1), .val (.int p2), .val (.int p3), .val (.int p4), .val (.int p5), .val (.int (1 : Int32)), .val (.int (1 : Int32)), .val (.long v8_34), .second, .val (.int (17 : Int32)), .val (.ref b467), .val (.ref b507), .val (.int (5 : Int32)), .val (.ref r589_0), .val (.ref r609_0), .unset] [])) (fun _ k => XS.icmpNo X609.here hx rfl (hb hby at_444) rfl (teq (rfl : (12 : Int32) = (12 : Int32))).2 k) ?_
        refine G_aload X609 hx (hb hby at_447) rfl rfl (pc' := 449) rfl ?_
        refine G_iconst X609 hx (hb hby at_449) (z := 0) rfl (pc' := 450) rfl ?_
        refine Goes.step (S' := T609.setTop (mkF m 451 #[.val (.int p0), .val (.int p1), .val (.int p2), .val (.int p3), .val (.int p4), .val (.int p5), .val (.int (1 : Int32)), .val (.int (1 : Int32)), .val (.long v8_34), .second, .val (.int (17 : Int32)), .val (.ref b467), .val (.ref b507), .val (.int (5 : Int32)), .val (.ref r589_0), .val (.ref r609_0), .unset] [(.int (nar .byte y78))])) (fun _ k => own_baload X609 hx hZ rfl P611 ⟨by decide, by decide⟩ (hb hby at_450) _ k) ?_
        refine G_aload X609 hx (hb hby at_451) rfl rfl (pc' := 453) rfl ?_
        refine G_iconst X609 hx (hb hby at_453) (z := 0) rfl (pc' := 454) rfl ?_
        refine Goes.step (S' := T609.setTop (mkF m 455 #[.val (.int p0), .val (.int p1), .val (.int p2), .val (.int p3), .val (.int p4), .val (.int p5), .val (.int (1 : Int32)), .val (.int (1 : Int32)), .val (.long v8_34), .second, .val (.int (17 : Int32)), .val (.ref b467), .val (.ref b507), .val (.int (5 : Int32)), .val (.ref r589_0), .val (.ref r609_0), .unset] [(.int y78), (.int (nar .byte y78))])) (fun _ k => own_baload X609 hx hZ rfl V619 ⟨by decide, by decide⟩ (hb hby at_454) _ k) ?_
        refine Goes.step (S' := T609.setTop (mkF m 458 #[.val (.int p0), .val (.int p1), .val (.int p2), .val (.int p3), .val (.int p4), .val (.int p5), .val (.int (1 : Int32)), .val (.int (1 : Int32)), .val (.long v8_34), .second, .val (.int (17 : Int32)), .val (.ref b467), .val (.ref b507), .val (.int (5 : Int32)), .val (.ref r589_0), .val (.ref r609_0), .unset] [])) (fun _ k => XS.icmpNo X609.here hx rfl (hb hby at_455) rfl (teq (own_hc0_455_4 p0 p1 p2 p3 p4 p5 hc4_1 hc18_3 v8_34 ev8_34 hc45_5 y78 ey78)).2 k) ?_
        refine G_aload X609 hx (hb hby at_458) rfl rfl (pc' := 460) rfl ?_
        refine G_iconst X609 hx (hb hby at_460) (z := 1) rfl (pc' := 461) rfl ?_
        refine Goes.step (S' := T609.setTop (mkF m 462 #[.val (.int p0), .val (.int p1), .val (.int p2), .val (.int p3), .val (.int p4), .val (.int p5), .val (.int (1 : Int32)), .val (.int (1 : Int32)), .val (.long v8_34), .second, .val (.int (17 : Int32)), .val (.ref b467), .val (.ref b507), .val (.int (5 : Int32)), .val (.ref r589_0), .val (.ref r609_0), .unset] [(.int (nar .byte y87))])) (fun _ k => own_baload X609 hx hZ rfl P611 ⟨by decide, by decide⟩ (hb hby at_461) _ k) ?_
        refine G_aload X609 hx (hb hby at_462) rfl rfl (pc' := 464) rfl ?_
        refine G_iconst X609 hx (hb hby at_464) (z := 1) rfl (pc' := 465) rfl ?_
        refine Goes.step (S' := T609.setTop (mkF m 466 #[.val (.int p0), .val (.int p1), .val (.int p2), .val (.int p3), .val (.int p4), .val (.int p5), .val (.int (1 : Int32)), .val (.int (1 : Int32)), .val (.long v8_34), .second, .val (.int (17 : Int32)), .val (.ref b467), .val (.ref b507), .val (.int (5 : Int32)), .val (.ref r589_0), .val (.ref r609_0), .unset] [(.int y87), (.int (nar .byte y87))])) (fun _ k => own_baload X609 hx hZ rfl V619 ⟨by decide, by decide⟩ (hb hby at_465) _ k) ?_
        refine Goes.step (S' := T609.setTop (mkF m 469 #[.val (.int p0), .val (.int p1), .val (.int p2), .val (.int p3), .val (.int p4), .val (.int p5), .val (.int (1 : Int32)), .val (.int (1 : Int32)), .val (.long v8_34), .second, .val (.int (17 : Int32)), .val (.ref b467), .val (.ref b507), .val (.int (5 : Int32)), .val (.ref r589_0), .val (.ref r609_0), .unset] [])) (fun _ k => XS.icmpNo X609.here hx rfl (hb hby at_466) rfl (teq (own_hc0_466_4 p0 p1 p2 p3 p4 p5 hc4_1 hc18_3 v8_34 ev8_34 hc45_5 y87 ey87)).2 k) ?_
        refine G_aload X609 hx (hb hby at_469) rfl rfl (pc' := 471) rfl ?_
        refine G_iconst X609 hx (hb hby at_471) (z := 2) rfl (pc' := 472) rfl ?_
        refine Goes.step (S' := T609.setTop (mkF m 473 #[.val (.int p0), .val (.int p1), .val (.int p2), .val (.int p3), .val (.int p4), .val (.int p5), .val (.int (1 : Int32)), .val (.int (1 : Int32)), .val (.long v8_34), .second, .val (.int (17 : Int32)), .val (.ref b467), .val (.ref b507), .val (.int (5 : Int32)), .val (.ref r589_0), .val (.ref r609_0), .unset] [(.int (nar .byte y96))])) (fun _ k => own_baload X609 hx hZ rfl P611 ⟨by decide, by decide⟩ (hb hby at_472) _ k) ?_
        refine G_aload X609 hx (hb hby at_473) rfl rfl (pc' := 475) rfl ?_
        refine G_iconst X609 hx (hb hby at_475) (z := 2) rfl (pc' := 476) rfl ?_
        refine Goes.step (S' := T609.setTop (mkF m 477 #[.val (.int p0), .val (.int p1), .val (.int p2), .val (.int p3), .val (.int p4), .val (.int p5), .val (.int (1 : Int32)), .val (.int (1 : Int32)), .val (.long v8_34), .second, .val (.int (17 : Int32)), .val (.ref b467), .val (.ref b507), .val (.int (5 : Int32)), .val (.ref r589_0), .val (.ref r609_0), .unset] [(.int y96), (.int (nar .byte y96))])) (fun _ k => own_baload X609 hx hZ rfl V619 ⟨by decide, by decide⟩ (hb hby at_476) _ k) ?_
        refine Goes.step (S' := T609.setTop (mkF m 480 #[.val (.int p0), .val (.int p1), .val (.int p2), .val (.int p3), .val (.int p4), .val (.int p5), .val (.int (1 : Int32)), .val (.int (1 : Int32)), .val (.long v8_34), .second, .val (.int (17 : Int32)), .val (.ref b467), .val (.ref b507), .val (.int (5 : Int32)), .val (.ref r589_0), .val (.ref r609_0), .unset] [])) (fun _ k => XS.icmpNo X609.here hx rfl (hb hby at_477) rfl (teq (own_hc0_477_4 p0 p1 p2 p3 p4 p5 hc4_1 hc18_3 v8_34 ev8_34 hc45_5 y96 ey96)).2 k) ?_
        refine G_aload X609 hx (hb hby at_480) rfl rfl (pc' := 482) rfl ?_
        refine G_iconst X609 hx (hb hby at_482) (z := 3) rfl (pc' := 483) rfl ?_
        refine Goes.step (S' := T609.setTop (mkF m 484 #[.val (.int p0), .val (.int p1), .val (.int p2), .val (.int p3), .val (.int p4), .val (.int p5), .val (.int (1 : Int32)), .val (.int (1 : Int32)), .val (.long v8_34), .second, .val (.int (17 : Int32)), .val (.ref b467), .val (.ref b507), .val (.int (5 : Int32)), .val (.ref r589_0), .val (.ref r609_0), .unset] [(.int (nar .byte y102))])) (fun _ k => own_baload X609 hx hZ rfl P611 ⟨by decide, by decide⟩ (hb hby at_483) _ k) ?_
        refine G_aload X609 hx (hb hby at_484) rfl rfl (pc' := 486) rfl ?_
        refine G_iconst X609 hx (hb hby at_486) (z := 3) rfl (pc' := 487) rfl ?_
        refine Goes.step (S' := T609.setTop (mkF m 488 #[.val (.int p0), .val (.int p1), .val (.int p2), .val (.int p3), .val (.int p4), .val (.int p5), .val (.int (1 : Int32)), .val (.int (1 : Int32)), .val (.long v8_34), .second, .val (.int (17 : Int32)), .val (.ref b467), .val (.ref b507), .val (.int (5 : Int32)), .val (.ref r589_0), .val (.ref r609_0), .unset] [(.int y102), (.int (nar .byte y102))])) (fun _ k => own_baload X609 hx hZ rfl V619 ⟨by decide, by decide⟩ (hb hby at_487) _ k) ?_
        refine Goes.step (S' := T609.setTop (mkF m 491 #[.val (.int p0), .val (.int p1), .val (.int p2), .val (.int p3), .val (.int p4), .val (.int p5), .val (.int (1 : Int32)), .val (.int (1 : Int32)), .val (.long v8_34), .second, .val (.int (17 : Int32)), .val (.ref b467), .val (.ref b507), .val (.int (5 : Int32)), .val (.ref r589_0), .val (.ref r609_0), .unset] [])) (fun _ k => XS.icmpNo X609.here hx rfl (hb hby at_488) rfl (teq (own_hc0_488_4 p0 p1 p2 p3 p4 p5 hc4_1 hc18_3 v8_34 ev8_34 hc45_5 y102 ey102)).2 k) ?_
        refine G_aload X609 hx (hb hby at_491) rfl rfl (pc' := 493) rfl ?_
        refine G_iconst X609 hx (hb hby at_493) (z := 4) rfl (pc' := 494) rfl ?_
        refine Goes.step (S' := T609.setTop (mkF m 495 #[.val (.int p0), .val (.int p1), .val (.int p2), .val (.int p3), .val (.int p4), .val (.int p5), .val (.int (1 : Int32)), .val (.int (1 : Int32)), .val (.long v8_34), .second, .val (.int (17 : Int32)), .val (.ref b467), .val (.ref b507), .val (.int (5 : Int32)), .val (.ref r589_0), .val (.ref r609_0), .unset] [(.int (nar .byte y111))])) (fun _ k => own_baload X609 hx hZ rfl P611 ⟨by decide, by decide⟩ (hb hby at_494) _ k) ?_
        refine G_aload X609 hx (hb hby at_495) rfl rfl (pc' := 497) rfl ?_
        refine G_iconst X609 hx (hb hby at_497) (z := 4) rfl (pc' := 498) rfl ?_
        refine Goes.step (S' := T609.setTop (mkF m 499 #[.val (.int p0), .val (.int p1), .val (.int p2), .val (.int p3), .val (.int p4), .val (.int p5), .val (.int (1 : Int32)), .val (.int (1 : Int32)), .val (.long v8_34), .second, .val (.int (17 : Int32)), .val (.ref b467), .val (.ref b507), .val (.int (5 : Int32)), .val (.ref r589_0), .val (.ref r609_0), .unset] [(.int y111), (.int (nar .byte y111))])) (fun _ k => own_baload X609 hx hZ rfl V619 ⟨by decide, by decide⟩ (hb hby at_498) _ k) ?_
        refine Goes.step (S' := T609.setTop (mkF m 502 #[.val (.int p0), .val (.int p1), .val (.int p2), .val (.int p3), .val (.int p4), .val (.int p5), .val (.int (1 : Int32)), .val (.int (1 : Int32)), .val (.long v8_34), .second, .val (.int (17 : Int32)), .val (.ref b467), .val (.ref b507), .val (.int (5 : Int32)), .val (.ref r589_0), .val (.ref r609_0), .unset] [])) (fun _ k => XS.icmpNo X609.here hx rfl (hb hby at_499) rfl (teq (own_hc0_499_4 p0 p1 p2 p3 p4 p5 hc4_1 hc18_3 v8_34 ev8_34 hc45_5 y111 ey111)).2 k) ?_
        refine G_aload X609 hx (hb hby at_502) rfl rfl (pc' := 504) rfl ?_
        refine G_iconst X609 hx (hb hby at_504) (z := 5) rfl (pc' := 505) rfl ?_
        refine Goes.step (S' := T609.setTop (mkF m 506 #[.val (.int p0), .val (.int p1), .val (.int p2), .val (.int p3), .val (.int p4), .val (.int p5), .val (.int (1 : Int32)), .val (.int (1 : Int32)), .val (.long v8_34), .second, .val (.int (17 : Int32)), .val (.ref b467), .val (.ref b507), .val (.int (5 : Int32)), .val (.ref r589_0), .val (.ref r609_0), .unset] [(.int (nar .byte y120))])) (fun _ k => own_baload X609 hx hZ rfl P611 ⟨by decide, by decide⟩ (hb hby at_505) _ k) ?_
        refine G_aload X609 hx (hb hby at_506) rfl rfl (pc' := 508) rfl ?_
        refine G_iconst X609 hx (hb hby at_508) (z := 5) rfl (pc' := 509) rfl ?_
        refine Goes.step (S' := T609.setTop (mkF m 510 #[.val (.int p0), .val (.int p1), .val (.int p2), .val (.int p3), .val (.int p4), .val (.int p5), .val (.int (1 : Int32)), .val (.int (1 : Int32)), .val (.long v8_34), .second, .val (.int (17 : Int32)), .val (.ref b467), .val (.ref b507), .val (.int (5 : Int32)), .val (.ref r589_0), .val (.ref r609_0), .unset] [(.int y120), (.int (nar .byte y120))])) (fun _ k => own_baload X609 hx hZ rfl V619 ⟨by decide, by decide⟩ (hb hby at_509) _ k) ?_
        refine Goes.step (S' := T609.setTop (mkF m 513 #[.val (.int p0), .val (.int p1), .val (.int p2), .val (.int p3), .val (.int p4), .val (.int p5), .val (.int (1 : Int32)), .val (.int (1 : Int32)), .val (.long v8_34), .second, .val (.int (17 : Int32)), .val (.ref b467), .val (.ref b507), .val (.int (5 : Int32)), .val (.ref r589_0), .val (.ref r609_0), .unset] [])) (fun _ k => XS.icmpNo X609.here hx rfl (hb hby at_510) rfl (teq (own_hc0_510_4 p0 p1 p2 p3 p4 p5 hc4_1 hc18_3 v8_34 ev8_34 hc45_5 y120 ey120)).2 k) ?_
        refine G_aload X609 hx (hb hby at_513) rfl rfl (pc' := 515) rfl ?_
        refine G_bipush X609 hx (hb hby at_515) (z := 6) rfl (pc' := 517) rfl ?_
        refine Goes.step (S' := T609.setTop (mkF m 518 #[.val (.int p0), .val (.int p1), .val (.int p2), .val (.int p3), .val (.int p4), .val (.int p5), .val (.int (1 : Int32)), .val (.int (1 : Int32)), .val (.long v8_34), .second, .val (.int (17 : Int32)), .val (.ref b467), .val (.ref b507), .val (.int (5 : Int32)), .val (.ref r589_0), .val (.ref r609_0), .unset] [(.int (nar .byte y130))])) (fun _ k => own_baload X609 hx hZ rfl P611 ⟨by decide, by decide⟩ (hb hby at_517) _ k) ?_
        refine G_aload X609 hx (hb hby at_518) rfl rfl (pc' := 520) rfl ?_
        refine G_bipush X609 hx (hb hby at_520) (z := 6) rfl (pc' := 522) rfl ?_
        refine Goes.step (S' := T609.setTop (mkF m 523 #[.val (.int p0), .val (.int p1), .val (.int p2), .val (.int p3), .val (.int p4), .val (.int p5), .val (.int (1 : Int32)), .val (.int (1 : Int32)), .val (.long v8_34), .second, .val (.int (17 : Int32)), .val (.ref b467), .val (.ref b507), .val (.int (5 : Int32)), .val (.ref r589_0), .val (.ref r609_0), .unset] [(.int y130), (.int (nar .byte y130))])) (fun _ k => own_baload X609 hx hZ rfl V619 ⟨by decide, by decide⟩ (hb hby at_522) _ k) ?_
        refine Goes.step (S' := T609.setTop (mkF m 526 #[.val (.int p0), .val (.int p1), .val (.int p2), .val (.int p3), .val (.int p4), .val (.int p5), .val (.int (1 : Int32)), .val (.int (1 : Int32)), .val (.long v8_34), .second, .val (.int (17 : Int32)), .val (.ref b467), .val (.ref b507), .val (.int (5 : Int32)), .val (.ref r589_0), .val (.ref r609_0), .unset] [])) (fun _ k => XS.icmpNo X609.here hx rfl (hb hby at_523) rfl (teq (own_hc0_523_4 p0 p1 p2 p3 p4 p5 hc4_1 hc18_3 v8_34 ev8_34 hc45_5 y130 ey130)).2 k) ?_
        refine G_aload X609 hx (hb hby at_526) rfl rfl (pc' := 528) rfl ?_
        refine G_bipush X609 hx (hb hby at_528) (z := 7) rfl (pc' := 530) rfl ?_
        refine Goes.step (S' := T609.setTop (mkF m 531 #[.val (.int p0), .val (.int p1), .val (.int p2), .val (.int p3), .val (.int p4), .val (.int p5), .val (.int (1 : Int32)), .val (.int (1 : Int32)), .val (.long v8_34), .second, .val (.int (17 : Int32)), .val (.ref b467), .val (.ref b507), .val (.int (5 : Int32)), .val (.ref r589_0), .val (.ref r609_0), .unset] [(.int (nar .byte y137))])) (fun _ k => own_baload X609 hx hZ rfl P611 ⟨by decide, by decide⟩ (hb hby at_530) _ k) ?_
        refine G_aload X609 hx (hb hby at_531) rfl rfl (pc' := 533) rfl ?_
        refine G_bipush X609 hx (hb hby at_533) (z := 7) rfl (pc' := 535) rfl ?_
        refine Goes.step (S' := T609.setTop (mkF m 536 #[.val (.int p0), .val (.int p1), .val (.int p2), .val (.int p3), .val (.int p4), .val (.int p5), .val (.int (1 : Int32)), .val (.int (1 : Int32)), .val (.long v8_34), .second, .val (.int (17 : Int32)), .val (.ref b467), .val (.ref b507), .val (.int (5 : Int32)), .val (.ref r589_0), .val (.ref r609_0), .unset] [(.int y137), (.int (nar .byte y137))])) (fun _ k => own_baload X609 hx hZ rfl V619 ⟨by decide, by decide⟩ (hb hby at_535) _ k) ?_
        refine Goes.step (S' := T609.setTop (mkF m 539 #[.val (.int p0), .val (.int p1), .val (.int p2), .val (.int p3), .val (.int p4), .val (.int p5), .val (.int (1 : Int32)), .val (.int (1 : Int32)), .val (.long v8_34), .second, .val (.int (17 : Int32)), .val (.ref b467), .val (.ref b507), .val (.int (5 : Int32)), .val (.ref r589_0), .val (.ref r609_0), .unset] [])) (fun _ k => XS.icmpNo X609.here hx rfl (hb hby at_536) rfl (teq (own_hc0_536_4 p0 p1 p2 p3 p4 p5 hc4_1 hc18_3 v8_34 ev8_34 hc45_5 y137 ey137)).2 k) ?_
        refine G_aload X609 hx (hb hby at_539) rfl rfl (pc' := 541) rfl ?_
        refine G_bipush X609 hx (hb hby at_541) (z := 8) rfl (pc' := 543) rfl ?_
        refine Goes.step (S' := T609.setTop (mkF m 544 #[.val (.int p0), .val (.int p1), .val (.int p2), .val (.int p3), .val (.int p4), .val (.int p5), .val (.int (1 : Int32)), .val (.int (1 : Int32)), .val (.long v8_34), .second, .val (.int (17 : Int32)), .val (.ref b467), .val (.ref b507), .val (.int (5 : Int32)), .val (.ref r589_0), .val (.ref r609_0), .unset] [(.int (nar .byte y147))])) (fun _ k => own_baload X609 hx hZ rfl P611 ⟨by decide, by decide⟩ (hb hby at_543) _ k) ?_
        refine G_aload X609 hx (hb hby at_544) rfl rfl (pc' := 546) rfl ?_
        refine G_bipush X609 hx (hb hby at_546) (z := 8) rfl (pc' := 548) rfl ?_
        refine Goes.step (S' := T609.setTop (mkF m 549 #[.val (.int p0), .val (.int p1), .val (.int p2), .val (.int p3), .val (.int p4), .val (.int p5), .val (.int (1 : Int32)), .val (.int (1 : Int32)), .val (.long v8_34), .second, .val (.int (17 : Int32)), .val (.ref b467), .val (.ref b507), .val (.int (5 : Int32)), .val (.ref r589_0), .val (.ref r609_0), .unset] [(.int y147), (.int (nar .byte y147))])) (fun _ k => own_baload X609 hx hZ rfl V619 ⟨by decide, by decide⟩ (hb hby at_548) _ k) ?_
        refine Goes.step (S' := T609.setTop (mkF m 552 #[.val (.int p0), .val (.int p1), .val (.int p2), .val (.int p3), .val (.int p4), .val (.int p5), .val (.int (1 : Int32)), .val (.int (1 : Int32)), .val (.long v8_34), .second, .val (.int (17 : Int32)), .val (.ref b467), .val (.ref b507), .val (.int (5 : Int32)), .val (.ref r589_0), .val (.ref r609_0), .unset] [])) (fun _ k => XS.icmpNo X609.here hx rfl (hb hby at_549) rfl (teq (own_hc0_549_4 p0 p1 p2 p3 p4 p5 hc4_1 hc18_3 v8_34 ev8_34 hc45_5 y147 ey147)).2 k) ?_
        refine G_aload X609 hx (hb hby at_552) rfl rfl (pc' := 554) rfl ?_
        refine G_bipush X609 hx (hb hby at_554) (z := 9) rfl (pc' := 556) rfl ?_
        refine Goes.step (S' := T609.setTop (mkF m 557 #[.val (.int p0), .val (.int p1), .val (.int p2), .val (.int p3), .val (.int p4), .val (.int p5), .val (.int (1 : Int32)), .val (.int (1 : Int32)), .val (.long v8_34), .second, .val (.int (17 : Int32)), .val (.ref b467), .val (.ref b507), .val (.int (5 : Int32)), .val (.ref r589_0), .val (.ref r609_0), .unset] [(.int (nar .byte y157))])) (fun _ k => own_baload X609 hx hZ rfl P611 ⟨by decide, by decide⟩ (hb hby at_556) _ k) ?_
        refine G_aload X609 hx (hb hby at_557) rfl rfl (pc' := 559) rfl ?_
        refine G_bipush X609 hx (hb hby at_559) (z := 9) rfl (pc' := 561) rfl ?_
        refine Goes.step (S' := T609.setTop (mkF m 562 #[.val (.int p0), .val (.int p1), .val (.int p2), .val (.int p3), .val (.int p4), .val (.int p5), .val (.int (1 : Int32)), .val (.int (1 : Int32)), .val (.long v8_34), .second, .val (.int (17 : Int32)), .val (.ref b467), .val (.ref b507), .val (.int (5 : Int32)), .val (.ref r589_0), .val (.ref r609_0), .unset] [(.int y157), (.int (nar .byte y157))])) (fun _ k => own_baload X609 hx hZ rfl V619 ⟨by decide, by decide⟩ (hb hby at_561) _ k) ?_
        refine Goes.step (S' := T609.setTop (mkF m 565 #[.val (.int p0), .val (.int p1), .val (.int p2), .val (.int p3), .val (.int p4), .val (.int p5), .val (.int (1 : Int32)), .val (.int (1 : Int32)), .val (.long v8_34), .second, .val (.int (17 : Int32)), .val (.ref b467), .val (.ref b507), .val (.int (5 : Int32)), .val (.ref r589_0), .val (.ref r609_0), .unset] [])) (fun _ k => XS.icmpNo X609.here hx rfl (hb hby at_562) rfl (teq (own_hc0_562_4 p0 p1 p2 p3 p4 p5 hc4_1 hc18_3 v8_34 ev8_34 hc45_5 y157 ey157)).2 k) ?_
        refine G_aload X609 hx (hb hby at_565) rfl rfl (pc' := 567) rfl ?_
        refine G_bipush X609 hx (hb hby at_567) (z := 10) rfl (pc' := 569) rfl ?_
        refine Goes.step (S' := T609.setTop (mkF m 570 #[.val (.int p0), .val (.int p1), .val (.int p2), .val (.int p3), .val (.int p4), .val (.int p5), .val (.int (1 : Int32)), .val (.int (1 : Int32)), .val (.long v8_34), .second, .val (.int (17 : Int32)), .val (.ref b467), .val (.ref b507), .val (.int (5 : Int32)), .val (.ref r589_0), .val (.ref r609_0), .unset] [(.int (nar .byte y167))])) (fun _ k => own_baload X609 hx hZ rfl P611 ⟨by decide, by decide⟩ (hb hby at_569) _ k) ?_
        refine G_aload X609 hx (hb hby at_570) rfl rfl (pc' := 572) rfl ?_
        refine G_bipush X609 hx (hb hby at_572) (z := 10) rfl (pc' := 574) rfl ?_
        refine Goes.step (S' := T609.setTop (mkF m 575 #[.val (.int p0), .val (.int p1), .val (.int p2), .val (.int p3), .val (.int p4), .val (.int p5), .val (.int (1 : Int32)), .val (.int (1 : Int32)), .val (.long v8_34), .second, .val (.int (17 : Int32)), .val (.ref b467), .val (.ref b507), .val (.int (5 : Int32)), .val (.ref r589_0), .val (.ref r609_0), .unset] [(.int y167), (.int (nar .byte y167))])) (fun _ k => own_baload X609 hx hZ rfl V619 ⟨by decide, by decide⟩ (hb hby at_574) _ k) ?_
        refine Goes.step (S' := T609.setTop (mkF m 578 #[.val (.int p0), .val (.int p1), .val (.int p2), .val (.int p3), .val (.int p4), .val (.int p5), .val (.int (1 : Int32)), .val (.int (1 : Int32)), .val (.long v8_34), .second, .val (.int (17 : Int32)), .val (.ref b467), .val (.ref b507), .val (.int (5 : Int32)), .val (.ref r589_0), .val (.ref r609_0), .unset] [])) (fun _ k => XS.icmpNo X609.here hx rfl (hb hby at_575) rfl (teq (own_hc0_575_4 p0 p1 p2 p3 p4 p5 hc4_1 hc18_3 v8_34 ev8_34 hc45_5 y167 ey167)).2 k) ?_
        refine G_aload X609 hx (hb hby at_578) rfl rfl (pc' := 580) rfl ?_
        refine G_bipush X609 hx (hb hby at_580) (z := 11) rfl (pc' := 582) rfl ?_
        refine Goes.step (S' := T609.setTop (mkF m 583 #[.val (.int p0), .val (.int p1), .val (.int p2), .val (.int p3), .val (.int p4), .val (.int p5), .val (.int (1 : Int32)), .val (.int (1 : Int32)), .val (.long v8_34), .second, .val (.int (17 : Int32)), .val (.ref b467), .val (.ref b507), .val (.int (5 : Int32)), .val (.ref r589_0), .val (.ref r609_0), .unset] [(.int (nar .byte y174))])) (fun _ k => own_baload X609 hx hZ rfl P611 ⟨by decide, by decide⟩ (hb hby at_582) _ k) ?_
        refine G_aload X609 hx (hb hby at_583) rfl rfl (pc' := 585) rfl ?_
        refine G_bipush X609 hx (hb hby at_585) (z := 11) rfl (pc' := 587) rfl ?_
        refine Goes.step (S' := T609.setTop (mkF m 588 #[.val (.int p0), .val (.int p1), .val (.int p2), .val (.int p3), .val (.int p4), .val (.int p5), .val (.int (1 : Int32)), .val (.int (1 : Int32)), .val (.long v8_34), .second, .val (.int (17 : Int32)), .val (.ref b467), .val (.ref b507), .val (.int (5 : Int32)), .val (.ref r589_0), .val (.ref r609_0), .unset] [(.int y174), (.int (nar .byte y174))])) (fun _ k => own_baload X609 hx hZ rfl V619 ⟨by decide, by decide⟩ (hb hby at_587) _ k) ?_
        refine Goes.step (S' := T609.setTop (mkF m 591 #[.val (.int p0), .val (.int p1), .val (.int p2), .val (.int p3), .val (.int p4), .val (.int p5), .val (.int (1 : Int32)), .val (.int (1 : Int32)), .val (.long v8_34), .second, .val (.int (17 : Int32)), .val (.ref b467), .val (.ref b507), .val (.int (5 : Int32)), .val (.ref r589_0), .val (.ref r609_0), .unset] [])) (fun _ k => XS.icmpNo X609.here hx rfl (hb hby at_588) rfl (teq (own_hc0_588_4 p0 p1 p2 p3 p4 p5 hc4_1 hc18_3 v8_34 ev8_34 hc45_5 y174 ey174)).2 k) ?_
        refine G_iconst X609 hx (hb hby at_591) (z := 1) rfl (pc' := 592) rfl ?_
        refine Goes.step (S' := T609.setTop (mkF m 596 #[.val (.int p0), .val (.int p1), .val (.int p2), .val (.int p3), .val (.int p4), .val (.int p5), .val (.int (1 : Int32)), .val (.int (1 : Int32)), .val (.long v8_34), .second, .val (.int (17 : Int32)), .val (.ref b467), .val (.ref b507), .val (.int (5 : Int32)), .val (.ref r589_0), .val (.ref r609_0), .unset] [(.int (1 : Int32))])) (fun _ k => XS.goto X609.here hx rfl (pc0 := 592) (pc' := 596) rfl (hb hby at_592) (by decide) (by decide) k) ?_
        refine Goes.step (S' := T609.setTop (mkF m 598 #[.val (.int p0), .val (.int p1), .val (.int p2), .val (.int p3), .val (.int p4), .val (.int p5), .val (.int (1 : Int32)), .val (.int (1 : Int32)), .val (.long v8_34), .second, .val (.int (17 : Int32)), .val (.ref b467), .val (.ref b507), .val (.int (5 : Int32)), .val (.ref r589_0), .val (.ref r609_0), .val (.int (1 : Int32))] [])) (fun _ k => XS.istore X609.here hx rfl (hb hby at_596) rfl (l' := #[.val (.int p0), .val (.int p1), .val (.int p2), .val (.int p3), .val (.int p4), .val (.int p5), .val (.int (1 : Int32)), .val (.int (1 : Int32)), .val (.long v8_34), .second, .val (.int (17 : Int32)), .val (.ref b467), .val (.ref b507), .val (.int (5 : Int32)), .val (.ref r589_0), .val (.ref r609_0), .val (.int (1 : Int32))]) rfl k) ?_
        refine G_aload X609 hx (hb hby at_598) rfl rfl (pc' := 600) rfl ?_
        obtain ⟨cq627, kq627, q627a, q627b, q627c⟩ := isOf hZ rfl E_622
        obtain ⟨_, _, ⟨T627, L627, k627, n627⟩, -, X627, ⟨Lc627, hQ627, l627, y627, z627⟩, st627⟩ := X609.virtualBack hx (y := (⟨"com/example/isopod/isopod/RecordHeader", "version", "()I"⟩ : MethodName)) (z := (⟨"com/example/isopod/isopod/RecordHeader", "version", "()I"⟩ : MethodName)) hown (mvT hZ (hw _ (List.mem_of_getElem? (i := 56) rfl))) (mvT hZ (hw _ (List.mem_of_getElem? (i := 57) rfl))) (notFace_of_selects (args := #[]) (mvT hZ (hw _ (List.mem_of_getElem? (i := 59) rfl)))) (mvT hZ (hw _ (List.mem_of_getElem? (i := 59) rfl))) (mvT hZ (hw _ (List.mem_of_getElem? (i := 58) rfl))) (by decide) (backOf (W := 0) (rm10 l Z a0 hw [] r589_0 ((2 : Int32)) v8_34 T609.heap n0 Z626 E_622 F625 F623) hZ (hw _ (List.mem_of_getElem? (i := 60) rfl)) (hw _ (List.mem_of_getElem? (i := 4) rfl)) (by decide) (by decide)) q627a q627c (g := (mkF m 600 #[.val (.int p0), .val (.int p1), .val (.int p2), .val (.int p3), .val (.int p4), .val (.int p5), .val (.int (1 : Int32)), .val (.int (1 : Int32)), .val (.long v8_34), .second, .val (.int (17 : Int32)), .val (.ref b467), .val (.ref b507), .val (.int (5 : Int32)), .val (.ref r589_0), .val (.ref r609_0), .val (.int (1 : Int32))] [(.ref r589_0)])) rfl (by rw [hml]; rfl) (Steps.refl _) (argsL := []) (rest := []) (lenOf pd7 rfl) rfl (by show 2 * 0 + _ ≤ _; exact Nat.le_of_eq rfl) (hb hby at_600) (fun _ _ => ⟨rfl, rfl, (by decide : 5 + 0 ≤ _), (by decide : 72 + 0 ≤ _)⟩)
        dsimp only [Pt.U, Pt.locs, Pt.cells, Pt.slots] at X627 l627 y627 z627 st627 hQ627
        replace X627 := X627.more (Nat.le_of_eq (y627 : k627 = 5)) (Nat.le_of_eq (z627 : n627 = 72))
        obtain ⟨rfl, N627q, e627⟩ := hQ627
        have N628 := own_frapp l627 N613 N627q
        refine Goes.step (S' := T627.setTop (mkF m 603 #[.val (.int p0), .val (.int p1), .val (.int p2), .val (.int p3), .val (.int p4), .val (.int p5), .val (.int (1 : Int32)), .val (.int (1 : Int32)), .val (.long v8_34), .second, .val (.int (17 : Int32)), .val (.ref b467), .val (.ref b507), .val (.int (5 : Int32)), .val (.ref r589_0), .val (.ref r609_0), .val (.int (1 : Int32))] [(.int (f10 (2 : Int32) v8_34))])) (fun _ k => st627.trans k) ?_
        refine G_iload X627 hx (hb hby at_603) rfl (pc' := 605) rfl ?_
        refine Goes.step (S' := T627.setTop (mkF m 608 #[.val (.int p0), .val (.int p1), .val (.int p2), .val (.int p3), .val (.int p4), .val (.int p5), .val (.int (1 : Int32)), .val (.int (1 : Int32)), .val (.long v8_34), .second, .val (.int (17 : Int32)), .val (.ref b467), .val (.ref b507), .val (.int (5 : Int32)), .val (.ref r589_0), .val (.ref r609_0), .val (.int (1 : Int32))] [(.int (f10 (2 : Int32) v8_34))])) (fun _ k => XS.ifNo X627.here hx rfl (hb hby at_605) rfl ((if0 _ _).trans (feq (by decide)).1) k) ?_
        refine G_iconst X627 hx (hb hby at_608) (z := 2) rfl (pc' := 609) rfl ?_
        refine Goes.step (S' := T627.setTop (mkF m 613 #[.val (.int p0), .val (.int p1), .val (.int p2), .val (.int p3), .val (.int p4), .val (.int p5), .val (.int (1 : Int32)), .val (.int (1 : Int32)), .val (.long v8_34), .second, .val (.int (17 : Int32)), .val (.ref b467), .val (.ref b507), .val (.int (5 : Int32)), .val (.ref r589_0), .val (.ref r609_0), .val (.int (1 : Int32))] [(.int (2 : Int32)), (.int (f10 (2 : Int32) v8_34))])) (fun _ k => XS.goto X627.here hx rfl (pc0 := 609) (pc' := 613) rfl (hb hby at_609) (by decide) (by decide) k) ?_
        refine Goes.step (S' := T627.setTop (mkF m 616 #[.val (.int p0), .val (.int p1), .val (.int p2), .val (.int p3), .val (.int p4), .val (.int p5), .val (.int (1 : Int32)), .val (.int (1 : Int32)), .val (.long v8_34), .second, .val (.int (17 : Int32)), .val (.ref b467), .val (.ref b507), .val (.int (5 : Int32)), .val (.ref r589_0), .val (.ref r609_0), .val (.int (1 : Int32))] [])) (fun _ k => XS.icmpNo X627.here hx rfl (hb hby at_613) rfl (teq (own_hc0_613_4 p0 p1 p2 p3 p4 p5 hc4_1 hc18_3 v8_34 ev8_34 hc45_5)).2 k) ?_
        refine G_aload X627 hx (hb hby at_616) rfl rfl (pc' := 618) rfl ?_
        obtain ⟨cq629, kq629, q629a, q629b, q629c⟩ := isOf hZ e627 E_622
        obtain ⟨_, _, ⟨T629, L629, k629, n629⟩, -, X629, ⟨Lc629, hQ629, l629, y629, z629⟩, st629⟩ := X627.virtualBack hx (y := (⟨"com/example/isopod/isopod/RecordHeader", "generation", "()J"⟩ : MethodName)) (z := (⟨"com/example/isopod/isopod/RecordHeader", "generation", "()J"⟩ : MethodName)) hown (mvT hZ (hw _ (List.mem_of_getElem? (i := 61) rfl))) (mvT hZ (hw _ (List.mem_of_getElem? (i := 62) rfl))) (notFace_of_selects (args := #[]) (mvT hZ (hw _ (List.mem_of_getElem? (i := 64) rfl)))) (mvT hZ (hw _ (List.mem_of_getElem? (i := 64) rfl))) (mvT hZ (hw _ (List.mem_of_getElem? (i := 63) rfl))) (by decide) (backOf (W := 0) (rm11 l Z a0 hw [] r589_0 ((2 : Int32)) v8_34 T609.heap n0 Z626 E_622 F625 F623) hZ (hw _ (List.mem_of_getElem? (i := 65) rfl)) (hw _ (List.mem_of_getElem? (i := 4) rfl)) (by decide) (by decide)) q629a q629c (g := (mkF m 618 #[.val (.int p0), .val (.int p1), .val (.int p2), .val (.int p3), .val (.int p4), .val (.int p5), .val (.int (1 : Int32)), .val (.int (1 : Int32)), .val (.long v8_34), .second, .val (.int (17 : Int32)), .val (.ref b467), .val (.ref b507), .val (.int (5 : Int32)), .val (.ref r589_0), .val (.ref r609_0), .val (.int (1 : Int32))] [(.ref r589_0)])) rfl (by rw [hml]; rfl) (Steps.refl _) (argsL := []) (rest := []) (lenOf pd8 rfl) rfl (by show 2 * 0 + _ ≤ _; exact Nat.le_of_eq rfl) (hb hby at_618) (fun _ _ => ⟨rfl, e627, (by decide : 5 + 0 ≤ _), (by decide : 72 + 0 ≤ _)⟩)
        dsimp only [Pt.U, Pt.locs, Pt.cells, Pt.slots] at X629 l629 y629 z629 st629 hQ629
        replace X629 := X629.more (Nat.le_of_eq (y629 : k629 = 5)) (Nat.le_of_eq (z629 : n629 = 72))
        obtain ⟨rfl, N629q, e629⟩ := hQ629
        have N630 := own_frapp l629 N628 N629q
        refine Goes.step (S' := T629.setTop (mkF m 621 #[.val (.int p0), .val (.int p1), .val (.int p2), .val (.int p3), .val (.int p4), .val (.int p5), .val (.int (1 : Int32)), .val (.int (1 : Int32)), .val (.long v8_34), .second, .val (.int (17 : Int32)), .val (.ref b467), .val (.ref b507), .val (.int (5 : Int32)), .val (.ref r589_0), .val (.ref r609_0), .val (.int (1 : Int32))] [(.long (f11 (2 : Int32) v8_34))])) (fun _ k => st629.trans k) ?_
        refine G_iload X629 hx (hb hby at_621) rfl (pc' := 623) rfl ?_
        refine Goes.step (S' := T629.setTop (mkF m 626 #[.val (.int p0), .val (.int p1), .val (.int p2), .val (.int p3), .val (.int p4), .val (.int p5), .val (.int (1 : Int32)), .val (.int (1 : Int32)), .val (.long v8_34), .second, .val (.int (17 : Int32)), .val (.ref b467), .val (.ref b507), .val (.int (5 : Int32)), .val (.ref r589_0), .val (.ref r609_0), .val (.int (1 : Int32))] [(.long (f11 (2 : Int32) v8_34))])) (fun _ k => XS.ifNo X629.here hx rfl (hb hby at_623) rfl ((if0 _ _).trans (feq (by decide)).1) k) ?_
        refine G_lload X629 hx (hb hby at_626) rfl (pc' := 628) rfl ?_
        refine Goes.step (S' := T629.setTop (mkF m 632 #[.val (.int p0), .val (.int p1), .val (.int p2), .val (.int p3), .val (.int p4), .val (.int p5), .val (.int (1 : Int32)), .val (.int (1 : Int32)), .val (.long v8_34), .second, .val (.int (17 : Int32)), .val (.ref b467), .val (.ref b507), .val (.int (5 : Int32)), .val (.ref r589_0), .val (.ref r609_0), .val (.int (1 : Int32))] [(.long v8_34), (.long (f11 (2 : Int32) v8_34))])) (fun _ k => XS.goto X629.here hx rfl (pc0 := 628) (pc' := 632) rfl (hb hby at_628) (by decide) (by decide) k) ?_
        refine Goes.step (S' := T629.setTop (mkF m 633 #[.val (.int p0), .val (.int p1), .val (.int p2), .val (.int p3), .val (.int p4), .val (.int p5), .val (.int (1 : Int32)), .val (.int (1 : Int32)), .val (.long v8_34), .second, .val (.int (17 : Int32)), .val (.ref b467), .val (.ref b507), .val (.int (5 : Int32)), .val (.ref r589_0), .val (.ref r609_0), .val (.int (1 : Int32))] [(.int (lcmpW (f11 (2 : Int32) v8_34) v8_34))])) (fun _ k => XS.lcmp X629.here hx rfl (hb hby at_632) rfl k) ?_
        refine Goes.step (S' := T629.setTop (mkF m 636 #[.val (.int p0), .val (.int p1), .val (.int p2), .val (.int p3), .val (.int p4), .val (.int p5), .val (.int (1 : Int32)), .val (.int (1 : Int32)), .val (.long v8_34), .second, .val (.int (17 : Int32)), .val (.ref b467), .val (.ref b507), .val (.int (5 : Int32)), .val (.ref r589_0), .val (.ref r609_0), .val (.int (1 : Int32))] [])) (fun _ k => XS.ifNo X629.here hx rfl (hb hby at_633) rfl ((if0 _ _).trans (teq ((lw_eq (f11 (2 : Int32) v8_34) v8_34).mpr (own_hc0_633_4 p0 p1 p2 p3 p4 p5 hc4_1 hc18_3 v8_34 ev8_34 hc45_5))).2) k) ?_
        refine G_aload X629 hx (hb hby at_636) rfl rfl (pc' := 638) rfl ?_
        obtain ⟨cq631, kq631, q631a, q631b, q631c⟩ := isOf hZ e629 E_622
        obtain ⟨_, _, ⟨T631, L631, k631, n631⟩, -, X631, ⟨Lc631, hQ631, l631, y631, z631⟩, st631⟩ := X629.virtualBack hx (y := (⟨"com/example/isopod/isopod/RecordHeader", "length", "()I"⟩ : MethodName)) (z := (⟨"com/example/isopod/isopod/RecordHeader", "length", "()I"⟩ : MethodName)) hown (mvT hZ (hw _ (List.mem_of_getElem? (i := 66) rfl))) (mvT hZ (hw _ (List.mem_of_getElem? (i := 67) rfl))) (notFace_of_selects (args := #[]) (mvT hZ (hw _ (List.mem_of_getElem? (i := 69) rfl)))) (mvT hZ (hw _ (List.mem_of_getElem? (i := 69) rfl))) (mvT hZ (hw _ (List.mem_of_getElem? (i := 68) rfl))) (by decide) (backOf (W := 0) (rm12 l Z a0 hw [] r589_0 ((2 : Int32)) T609.heap n0 Z626 E_622 F625) hZ (hw _ (List.mem_of_getElem? (i := 70) rfl)) (hw _ (List.mem_of_getElem? (i := 4) rfl)) (by decide) (by decide)) q631a q631c (g := (mkF m 638 #[.val (.int p0), .val (.int p1), .val (.int p2), .val (.int p3), .val (.int p4), .val (.int p5), .val (.int (1 : Int32)), .val (.int (1 : Int32)), .val (.long v8_34), .second, .val (.int (17 : Int32)), .val (.ref b467), .val (.ref b507), .val (.int (5 : Int32)), .val (.ref r589_0), .val (.ref r609_0), .val (.int (1 : Int32))] [(.ref r589_0)])) rfl (by rw [hml]; rfl) (Steps.refl _) (argsL := []) (rest := []) (lenOf pd7 rfl) rfl (by show 2 * 0 + _ ≤ _; exact Nat.le_of_eq rfl) (hb hby at_638) (fun _ _ => ⟨rfl, e629, (by decide : 5 + 0 ≤ _), (by decide : 72 + 0 ≤ _)⟩)
        dsimp only [Pt.U, Pt.locs, Pt.cells, Pt.slots] at X631 l631 y631 z631 st631 hQ631
        replace X631 := X631.more (Nat.le_of_eq (y631 : k631 = 5)) (Nat.le_of_eq (z631 : n631 = 72))
        obtain ⟨rfl, N631q, e631⟩ := hQ631
        have N632 := own_frapp l631 N630 N631q
        refine Goes.step (S' := T631.setTop (mkF m 641 #[.val (.int p0), .val (.int p1), .val (.int p2), .val (.int p3), .val (.int p4), .val (.int p5), .val (.int (1 : Int32)), .val (.int (1 : Int32)), .val (.long v8_34), .second, .val (.int (17 : Int32)), .val (.ref b467), .val (.ref b507), .val (.int (5 : Int32)), .val (.ref r589_0), .val (.ref r609_0), .val (.int (1 : Int32))] [(.int (f12 (2 : Int32)))])) (fun _ k => st631.trans k) ?_
        refine G_iload X631 hx (hb hby at_641) rfl (pc' := 643) rfl ?_
        refine Goes.step (S' := T631.setTop (mkF m 646 #[.val (.int p0), .val (.int p1), .val (.int p2), .val (.int p3), .val (.int p4), .val (.int p5), .val (.int (1 : Int32)), .val (.int (1 : Int32)), .val (.long v8_34), .second, .val (.int (17 : Int32)), .val (.ref b467), .val (.ref b507), .val (.int (5 : Int32)), .val (.ref r589_0), .val (.ref r609_0), .val (.int (1 : Int32))] [])) (fun _ k => XS.icmpNo X631.here hx rfl (hb hby at_643) rfl (teq (own_hc0_643_4 p0 p1 p2 p3 p4 p5 hc4_1 hc18_3 v8_34 ev8_34 hc45_5)).2 k) ?_
        refine G_iload X631 hx (hb hby at_646) rfl (pc' := 648) rfl ?_
        refine Goes.step (S' := T631.setTop (mkF m 651 #[.val (.int p0), .val (.int p1), .val (.int p2), .val (.int p3), .val (.int p4), .val (.int p5), .val (.int (1 : Int32)), .val (.int (1 : Int32)), .val (.long v8_34), .second, .val (.int (17 : Int32)), .val (.ref b467), .val (.ref b507), .val (.int (5 : Int32)), .val (.ref r589_0), .val (.ref r609_0), .val (.int (1 : Int32))] [])) (fun _ k => XS.ifNo X631.here hx rfl (hb hby at_648) rfl ((if0 _ _).trans (feq (by decide)).1) k) ?_
        refine G_iconst X631 hx (hb hby at_651) (z := 1) rfl (pc' := 652) rfl ?_
        refine Goes.step (S' := T631.setTop (mkF m 656 #[.val (.int p0), .val (.int p1), .val (.int p2), .val (.int p3), .val (.int p4), .val (.int p5), .val (.int (1 : Int32)), .val (.int (1 : Int32)), .val (.long v8_34), .second, .val (.int (17 : Int32)), .val (.ref b467), .val (.ref b507), .val (.int (5 : Int32)), .val (.ref r589_0), .val (.ref r609_0), .val (.int (1 : Int32))] [(.int (1 : Int32))])) (fun _ k => XS.goto X631.here hx rfl (pc0 := 652) (pc' := 656) rfl (hb hby at_652) (by decide) (by decide) k) ?_
        refine Goes.retN X631 hx Bd.notSynchronized (t := .boolean) Bd.returns (by simp) (hb hby at_656) (by decide) (by decide) ?_
        exact ⟨rfl, N632⟩
set_option maxRecDepth 65536 in
set_option maxHeartbeats 40000000 in
theorem comes_1 {Post : Tables → Env → Array Value → State → Outcome → State → Prop} (hpost : ∀ tb e args s v u, (limb_1_1.after args s (.returned v) u = true ∧ limb_1_2.after args s (.returned v) u = true ∧ True) → FrameEnd s (.returned v) u (Jvm.fieldLocs frame_1_writes args s ++ Jvm.arrayLocs frame_1_arrays args s ++ Jvm.staticLocs frame_1_statics s) 24 256 → Post tb e args s (.returned v) u) :
    ArmFor flags0 classFile x code maxLocals ret World_1 tables_1 room_1 Calls_1 rest_1 Pre_1 Post := by
  intro l hfl _ _ p e ha hc hk s m args below hf hA hF happ hP
  obtain ⟨hcalls, hrest, hpre⟩ := hP
  obtain ⟨-, -, -, hnamed, -, -, -, hat⟩ := (Spec.applies_iff hf).mp happ
  obtain ⟨hg, hn⟩ := and_e (Cond.before_iff.mp (show (Jvm.Cond.and given_1 narrow_1).before args s = true from hpre))
  obtain ⟨gg1, gg2⟩ := and_e hg
  obtain ⟨gg3, gg4⟩ := and_e gg2
  obtain ⟨gg5, gg6⟩ := and_e gg4
  obtain ⟨gg7, gg8⟩ := and_e gg6
  obtain ⟨gg9, gg10⟩ := and_e gg8
  obtain ⟨gg11, gg12⟩ := and_e gg10
  obtain ⟨w0, w1, w2, w3, w4, w5, rfl⟩ : ∃ w0 w1 w2 w3 w4 w5 : Value, args = #[w0, w1, w2, w3, w4, w5] := by
    have hs : args.size = 6 := by simpa [Cond.value, given_1] using gg1
    obtain ⟨L⟩ := args
    match L, hs with
    | [w0, w1, w2, w3, w4, w5], _ => exact ⟨w0, w1, w2, w3, w4, w5, rfl⟩
  have hw := fun d (hd : d ∈ tables_1) => atoms_spec (ws := Jvm.Cond.code x code maxLocals ret :: tables_1) hat d (List.mem_cons_of_mem _ hd)
  obtain ⟨i0, ei0⟩ := is_v gg3
  obtain rfl : w0 = (.int i0) := Option.some.inj ei0
  obtain ⟨i1, ei1⟩ := is_v gg5
  obtain rfl : w1 = (.int i1) := Option.some.inj ei1
  obtain ⟨i2, ei2⟩ := is_v gg7
  obtain rfl : w2 = (.int i2) := Option.some.inj ei2
  obtain ⟨i3, ei3⟩ := is_v gg9
  obtain rfl : w3 = (.int i3) := Option.some.inj ei3
  obtain ⟨i4, ei4⟩ := is_v gg11
  obtain rfl : w4 = (.int i4) := Option.some.inj ei4
  obtain ⟨i5, ei5⟩ := is_v gg12
  obtain rfl : w5 = (.int i5) := Option.some.inj ei5
  obtain ⟨n, o, h1, h2, h3, _, L, rfl, ⟨rfl, N⟩, hq⟩ := rm0 l s _ hw tables_1 i0 i1 i2 i3 i4 i5 s.heap s.heap.size (Nat.le_refl _) p e ha hc hk s m _ below hf ((Spec.applies_iff_loose hf).mp happ).1 ⟨rfl, State.Warmed39.refl s, rfl⟩ trivial
  refine ⟨n, _, h1, h2, h3, hpost _ _ _ _ _ _ ⟨Cond.after_iff.mpr rfl, Cond.after_iff.mpr (eq_i res_at (Term.int_eval (1)) rfl), trivial⟩ ⟨hq.1, hq.2.1, (hq.2.2.sift fun y hy => Or.inr (N y hy)).mono (by decide) (by decide)⟩⟩
theorem main_1_1 : Claimed_1_1 := comes_1 fun _ _ _ _ _ _ h hF => ⟨h.1, hF⟩
theorem main_1_2 : Claimed_1_2 := comes_1 fun _ _ _ _ _ _ h hF => ⟨h.2.1, hF⟩
end Jvm.Pilot.@@N@@
namespace Jvm.Pilot.@@N@@
open Jvm Jvm.ClassFile Sem Op Lib Jvm.Free Jvm.Stand Jvm.Pilot.@@N@@.Jvm.D
/-! MADE BY PROGRAM (witnessworld.py) out of the Statement's table words and the real class files: 12 classes; the members and pool entries that the words name. The judged class is class 1, her method 1. -/
namespace start1
open Jvm.ClassFile
def u (s : String) : CpInfo := .utf8 (stringToUtf16 s)
/-- a pool by its gaps: so many unusable entries, then the entry; so many at the end -/
def gap : Nat → List CpInfo → List CpInfo
  | 0, r => r
  | n + 1, r => .unusable :: gap n r
def poolList (es : List (Nat × CpInfo)) (last : Nat) : List CpInfo := es.foldr (fun e r => gap e.1 (e.2 :: r)) (gap last [])
def pool (es : List (Nat × CpInfo)) (last : Nat) : Array CpInfo := ⟨poolList es last⟩
def fileOf (pool : Array CpInfo) (this : Nat) (attrs : Array Attribute := #[]) (ms : Array MethodInfo := #[]) (fl : Nat := 33) (sup : Nat := 0) (ifs : Array Nat := #[]) (fds : Array FieldInfo := #[]) : ClassFile where
  minorVersion := 0
  majorVersion := 65
  constantPool := pool
  accessFlags := fl
  thisClass := this
  superClass := sup
  interfaces := ifs
  fields := fds
  methods := ms
  attributes := attrs
def plain (name : String) (sup : Option ClassId) : Class where
  name := name
  kind := .ordinary
  loader := none
  accessFlags := 33
  super := sup
  interfaces := #[]
  cf := none
  fields := #[]
  methods := #[]
  instanceTypes := #[]
  staticTypes := #[]
  resolved := #[]
  callSites := []
  init := .initialized
  statics := none
  mirror := none

def pool0 : Array CpInfo := pool [(5, u "<init>"), (0, u "()V"), (1, .class_ 10), (1, u "java/lang/Object"), (85, u "clone"), (0, u "()Ljava/lang/Object;")] 26

def k0c0 : Code := { maxStack := 0, maxLocals := 1, code := object_method_1_code, exceptionTable := #[], attributes := #[] }
def k0m0 : Method := { name := "<init>", desc := "()V", sig := { parameters := [], returnType := none }, accessFlags := 1, code := some k0c0 }
def k0m1 : Method := { name := "clone", desc := "()Ljava/lang/Object;", sig := { parameters := [], returnType := some (.object "java/lang/Object") }, accessFlags := 260, code := none }
/-- java/lang/Object -/
def k0 : Class := { plain "java/lang/Object" none with
  accessFlags := 33
  interfaces := #[]
  cf := some (fileOf pool0 8 #[] #[{ accessFlags := 1, nameIndex := 5, descriptorIndex := 6, attributes := #[] }, { accessFlags := 260, nameIndex := 96, descriptorIndex := 97, attributes := #[] }] 33 0 #[] #[])
  fields := #[]
  methods := #[k0m0, k0m1]
  instanceTypes := #[]
  staticTypes := #[]
  resolved := Array.replicate 124 none
  statics := none }

def pool1 : Array CpInfo := pool [(2, .class_ 4), (1, u "java/lang/Object"), (0, u "<init>"), (0, u "()V"), (0, .long 4294967295), (1, .methodref 10 11), (0, .class_ 12), (0, .nameAndType 13 14), (0, u "com/example/isopod/isopod/RecordHeader"), (0, u "read"), (0, u "([B)Lcom/example/isopod/isopod/RecordHeader;"), (0, .methodref 10 16), (0, .nameAndType 17 18), (0, u "nonce"), (0, u "()[B"), (0, .methodref 10 20), (0, .nameAndType 21 22), (0, u "version"), (0, u "()I"), (0, .methodref 10 24), (0, .nameAndType 25 26), (0, u "generation"), (0, u "()J"), (0, .methodref 10 28), (0, .nameAndType 29 22), (0, u "length"), (0, .class_ 31), (0, u "com/example/isopod/isopod/RecordHeaderReadPinLaw"), (2, u "law"), (0, u "(IIIIII)Z")] 8

def k1m0 : Method := { name := "<init>", desc := "()V", sig := { parameters := [], returnType := none }, accessFlags := 1, code := none }
def k1c1 : Code := { maxStack := 4, maxLocals := 17, code := code, exceptionTable := #[], attributes := #[] }
def k1m1 : Method := { name := "law", desc := "(IIIIII)Z", sig := { parameters := [.int, .int, .int, .int, .int, .int], returnType := some .boolean }, accessFlags := 9, code := some k1c1 }
/-- com/example/isopod/isopod/RecordHeaderReadPinLaw -/
def k1 : Class := { plain "com/example/isopod/isopod/RecordHeaderReadPinLaw" (some 0) with
  accessFlags := 49
  interfaces := #[]
  cf := some (fileOf pool1 30 #[] #[{ accessFlags := 1, nameIndex := 5, descriptorIndex := 6, attributes := #[] }, { accessFlags := 9, nameIndex := 34, descriptorIndex := 35, attributes := #[] }] 49 2 #[] #[])
  fields := #[]
  methods := #[k1m0, k1m1]
  instanceTypes := #[]
  staticTypes := #[]
  resolved := Array.replicate 44 none
  statics := none }

def pool2 : Array CpInfo := pool [(3, .class_ 4), (0, u "com/example/isopod/isopod/RecordHeader"), (0, .methodref 6 7), (0, .class_ 8), (0, .nameAndType 9 10), (0, u "java/lang/Object"), (0, u "<init>"), (0, u "()V"), (0, .fieldref 3 12), (0, .nameAndType 13 14), (0, u "version"), (0, u "I"), (0, .fieldref 3 16), (0, .nameAndType 17 18), (0, u "generation"), (0, u "J"), (0, .fieldref 3 20), (0, .nameAndType 21 22), (0, u "nonce"), (0, u "[B"), (14, .methodref 38 39), (0, .class_ 22), (0, .nameAndType 40 41), (0, u "clone"), (0, u "()Ljava/lang/Object;"), (0, .methodref 3 43), (0, .nameAndType 9 44), (0, u "(IJ[B)V"), (7, .methodref 3 53), (0, .nameAndType 54 55), (0, u "headerLength"), (0, u "(I)I"), (3, .integer 67108864), (3, .methodref 64 65), (0, .class_ 66), (0, .nameAndType 67 68), (0, u "java/util/Arrays"), (0, u "copyOfRange"), (0, u "([BII)[B"), (2, u "length"), (0, u "()I"), (6, u "NONCE_LENGTH"), (2, u "TAG_LENGTH"), (1, u "MAX_PLAINTEXT_LENGTH"), (0, u "MAX_GENERATION"), (0, u "VERSION_1"), (1, u "VERSION_2"), (1, u "GENERATION_LENGTH"), (1, u "MAX_RECORD_LENGTH"), (6, u "read"), (0, u "([B)Lcom/example/isopod/isopod/RecordHeader;"), (1, u "()J"), (0, u "()[B")] 25

def k2c0 : Code := { maxStack := 3, maxLocals := 5, code := prog_12_method_1_code, exceptionTable := #[], attributes := #[] }
def k2m0 : Method := { name := "<init>", desc := "(IJ[B)V", sig := { parameters := [.int, .long, (.array .byte)], returnType := none }, accessFlags := 2, code := some k2c0 }
def k2c1 : Code := { maxStack := 6, maxLocals := 6, code := prog_12_method_3_code, exceptionTable := #[], attributes := #[] }
def k2m1 : Method := { name := "read", desc := "([B)Lcom/example/isopod/isopod/RecordHeader;", sig := { parameters := [(.array .byte)], returnType := some (.object "com/example/isopod/isopod/RecordHeader") }, accessFlags := 9, code := some k2c1 }
def k2c2 : Code := { maxStack := 1, maxLocals := 1, code := prog_12_method_4_code, exceptionTable := #[], attributes := #[] }
def k2m2 : Method := { name := "version", desc := "()I", sig := { parameters := [], returnType := some .int }, accessFlags := 1, code := some k2c2 }
def k2c3 : Code := { maxStack := 2, maxLocals := 1, code := prog_12_method_5_code, exceptionTable := #[], attributes := #[] }
def k2m3 : Method := { name := "generation", desc := "()J", sig := { parameters := [], returnType := some .long }, accessFlags := 1, code := some k2c3 }
def k2c4 : Code := { maxStack := 1, maxLocals := 1, code := prog_12_method_6_code, exceptionTable := #[], attributes := #[] }
def k2m4 : Method := { name := "nonce", desc := "()[B", sig := { parameters := [], returnType := some (.array .byte) }, accessFlags := 1, code := some k2c4 }
def k2c5 : Code := { maxStack := 1, maxLocals := 1, code := prog_12_method_7_code, exceptionTable := #[], attributes := #[] }
def k2m5 : Method := { name := "length", desc := "()I", sig := { parameters := [], returnType := some .int }, accessFlags := 1, code := some k2c5 }
def k2c6 : Code := { maxStack := 2, maxLocals := 2, code := prog_12_method_10_code, exceptionTable := #[], attributes := #[] }
def k2m6 : Method := { name := "headerLength", desc := "(I)I", sig := { parameters := [.int], returnType := some .int }, accessFlags := 10, code := some k2c6 }
/-- com/example/isopod/isopod/RecordHeader -/
def k2 : Class := { plain "com/example/isopod/isopod/RecordHeader" (some 0) with
  accessFlags := 49
  interfaces := #[]
  cf := some (fileOf pool2 3 #[] #[{ accessFlags := 2, nameIndex := 9, descriptorIndex := 44, attributes := #[] }, { accessFlags := 9, nameIndex := 99, descriptorIndex := 100, attributes := #[] }, { accessFlags := 1, nameIndex := 13, descriptorIndex := 72, attributes := #[] }, { accessFlags := 1, nameIndex := 17, descriptorIndex := 102, attributes := #[] }, { accessFlags := 1, nameIndex := 21, descriptorIndex := 103, attributes := #[] }, { accessFlags := 1, nameIndex := 71, descriptorIndex := 72, attributes := #[] }, { accessFlags := 10, nameIndex := 54, descriptorIndex := 55, attributes := #[] }] 49 6 #[] #[{ accessFlags := 25, nameIndex := 79, descriptorIndex := 14, attributes := #[] }, { accessFlags := 25, nameIndex := 82, descriptorIndex := 14, attributes := #[] }, { accessFlags := 25, nameIndex := 84, descriptorIndex := 14, attributes := #[] }, { accessFlags := 25, nameIndex := 85, descriptorIndex := 18, attributes := #[] }, { accessFlags := 26, nameIndex := 86, descriptorIndex := 14, attributes := #[] }, { accessFlags := 26, nameIndex := 88, descriptorIndex := 14, attributes := #[] }, { accessFlags := 26, nameIndex := 90, descriptorIndex := 14, attributes := #[] }, { accessFlags := 25, nameIndex := 92, descriptorIndex := 14, attributes := #[] }, { accessFlags := 18, nameIndex := 13, descriptorIndex := 14, attributes := #[] }, { accessFlags := 18, nameIndex := 17, descriptorIndex := 18, attributes := #[] }, { accessFlags := 18, nameIndex := 21, descriptorIndex := 22, attributes := #[] }])
  fields := #[{ name := "NONCE_LENGTH", type := .int, accessFlags := 25, slot := 0, constantValue := 0 }, { name := "TAG_LENGTH", type := .int, accessFlags := 25, slot := 1, constantValue := 0 }, { name := "MAX_PLAINTEXT_LENGTH", type := .int, accessFlags := 25, slot := 2, constantValue := 0 }, { name := "MAX_GENERATION", type := .long, accessFlags := 25, slot := 3, constantValue := 0 }, { name := "VERSION_1", type := .int, accessFlags := 26, slot := 4, constantValue := 0 }, { name := "VERSION_2", type := .int, accessFlags := 26, slot := 5, constantValue := 0 }, { name := "GENERATION_LENGTH", type := .int, accessFlags := 26, slot := 6, constantValue := 0 }, { name := "MAX_RECORD_LENGTH", type := .int, accessFlags := 25, slot := 7, constantValue := 0 }, { name := "version", type := .int, accessFlags := 18, slot := 0, constantValue := 0 }, { name := "generation", type := .long, accessFlags := 18, slot := 1, constantValue := 0 }, { name := "nonce", type := (.array .byte), accessFlags := 18, slot := 2, constantValue := 0 }]
  methods := #[k2m0, k2m1, k2m2, k2m3, k2m4, k2m5, k2m6]
  instanceTypes := #[.int, .long, (.array .byte)]
  staticTypes := #[.int, .int, .int, .long, .int, .int, .int, .int]
  resolved := Array.replicate 129 none
  statics := none }

def pool3 : Array CpInfo := pool [(2, .class_ 4), (1, u "java/lang/Object"), (0, u "<init>"), (0, u "()V"), (7, .class_ 16), (1, u "java/util/Arrays"), (57, .class_ 76), (1, u "java/util/Arrays$NaturalOrder"), (36, .class_ 115), (1, u "java/util/Arrays$LegacyMergeSort"), (1, u "Z"), (21, u "copyOfRange"), (10, .methodref 151 152), (0, .class_ 153), (0, .nameAndType 154 155), (0, u "java/lang/System"), (0, u "arraycopy"), (0, u "(Ljava/lang/Object;ILjava/lang/Object;II)V"), (148, .methodref 305 306), (0, .class_ 307), (0, .nameAndType 308 309), (0, u "java/lang/Math"), (0, u "min"), (0, u "(II)I"), (29, .methodref 14 340), (0, .nameAndType 341 342), (0, u "copyOfRangeByte"), (0, u "([BII)[B"), (0, .methodref 14 344), (0, .nameAndType 345 346), (0, u "checkLength"), (0, u "(II)V"), (28, .class_ 376), (0, u "java/util/Arrays$ArrayList"), (68, u "$assertionsDisabled"), (269, u "MIN_ARRAY_SORT_GRAN"), (0, u "I"), (2, u "INSERTIONSORT_THRESHOLD"), (255, .class_ 976), (0, u "java/util/Arrays$ArrayItr")] 52

def k3m0 : Method := { name := "<init>", desc := "()V", sig := { parameters := [], returnType := none }, accessFlags := 2, code := none }
def k3c1 : Code := { maxStack := 4, maxLocals := 2, code := jdk_65_method_131_code, exceptionTable := #[], attributes := #[] }
def k3m1 : Method := { name := "checkLength", desc := "(II)V", sig := { parameters := [.int, .int], returnType := none }, accessFlags := 10, code := some k3c1 }
def k3c2 : Code := { maxStack := 3, maxLocals := 3, code := jdk_65_method_132_code, exceptionTable := #[], attributes := #[] }
def k3m2 : Method := { name := "copyOfRange", desc := "([BII)[B", sig := { parameters := [(.array .byte), .int, .int], returnType := some (.array .byte) }, accessFlags := 9, code := some k3c2 }
def k3c3 : Code := { maxStack := 6, maxLocals := 5, code := jdk_65_method_133_code, exceptionTable := #[], attributes := #[] }
def k3m3 : Method := { name := "copyOfRangeByte", desc := "([BII)[B", sig := { parameters := [(.array .byte), .int, .int], returnType := some (.array .byte) }, accessFlags := 10, code := some k3c3 }
/-- java/util/Arrays -/
def k3 : Class := { plain "java/util/Arrays" (some 0) with
  accessFlags := 49
  interfaces := #[]
  cf := some (fileOf pool3 14 #[.nestMembers #[975, 375, 113, 74]] #[{ accessFlags := 2, nameIndex := 5, descriptorIndex := 6, attributes := #[] }, { accessFlags := 10, nameIndex := 345, descriptorIndex := 346, attributes := #[] }, { accessFlags := 9, nameIndex := 139, descriptorIndex := 342, attributes := #[] }, { accessFlags := 10, nameIndex := 341, descriptorIndex := 342, attributes := #[] }] 49 2 #[] #[{ accessFlags := 26, nameIndex := 715, descriptorIndex := 716, attributes := #[] }, { accessFlags := 26, nameIndex := 719, descriptorIndex := 716, attributes := #[] }, { accessFlags := 4120, nameIndex := 445, descriptorIndex := 117, attributes := #[] }])
  fields := #[{ name := "MIN_ARRAY_SORT_GRAN", type := .int, accessFlags := 26, slot := 0, constantValue := 0 }, { name := "INSERTIONSORT_THRESHOLD", type := .int, accessFlags := 26, slot := 1, constantValue := 0 }, { name := "$assertionsDisabled", type := .boolean, accessFlags := 4120, slot := 2, constantValue := 0 }]
  methods := #[k3m0, k3m1, k3m2, k3m3]
  instanceTypes := #[]
  staticTypes := #[.int, .int, .boolean]
  resolved := Array.replicate 1029 none
  statics := none }

def pool4 : Array CpInfo := pool [(1, .class_ 2), (0, u "java/lang/Math"), (1, .class_ 6), (1, u "java/lang/Object"), (0, u "<init>"), (0, u "()V"), (89, .class_ 100), (1, u "java/lang/Math$RandomNumberGeneratorHolder"), (71, u "negativeZeroFloatBits"), (0, u "J"), (2, u "negativeZeroDoubleBits"), (24, u "min"), (43, u "$assertionsDisabled"), (0, u "Z"), (88, u "(II)I"), (2, u "twoToTheDoubleScaleDown"), (0, u "D"), (4, u "twoToTheDoubleScaleUp"), (9, u "E"), (3, u "PI"), (2, u "TAU"), (2, u "DEGREES_TO_RADIANS"), (0, u "RADIANS_TO_DEGREES")] 94

def k4m0 : Method := { name := "<init>", desc := "()V", sig := { parameters := [], returnType := none }, accessFlags := 2, code := none }
def k4c1 : Code := { maxStack := 2, maxLocals := 2, code := jdk_29_method_69_code, exceptionTable := #[], attributes := #[] }
def k4m1 : Method := { name := "min", desc := "(II)I", sig := { parameters := [.int, .int], returnType := some .int }, accessFlags := 9, code := some k4c1 }
/-- java/lang/Math -/
def k4 : Class := { plain "java/lang/Math" (some 0) with
  accessFlags := 49
  interfaces := #[]
  cf := some (fileOf pool4 1 #[.nestMembers #[98]] #[{ accessFlags := 2, nameIndex := 7, descriptorIndex := 8, attributes := #[] }, { accessFlags := 9, nameIndex := 201, descriptorIndex := 335, attributes := #[] }] 49 4 #[] #[{ accessFlags := 25, nameIndex := 354, descriptorIndex := 339, attributes := #[] }, { accessFlags := 25, nameIndex := 358, descriptorIndex := 339, attributes := #[] }, { accessFlags := 25, nameIndex := 361, descriptorIndex := 339, attributes := #[] }, { accessFlags := 26, nameIndex := 364, descriptorIndex := 339, attributes := #[] }, { accessFlags := 26, nameIndex := 365, descriptorIndex := 339, attributes := #[] }, { accessFlags := 26, nameIndex := 172, descriptorIndex := 173, attributes := #[] }, { accessFlags := 26, nameIndex := 176, descriptorIndex := 173, attributes := #[] }, { accessFlags := 8, nameIndex := 344, descriptorIndex := 339, attributes := #[] }, { accessFlags := 8, nameIndex := 338, descriptorIndex := 339, attributes := #[] }, { accessFlags := 4120, nameIndex := 245, descriptorIndex := 246, attributes := #[] }])
  fields := #[{ name := "E", type := .double, accessFlags := 25, slot := 0, constantValue := 0 }, { name := "PI", type := .double, accessFlags := 25, slot := 1, constantValue := 0 }, { name := "TAU", type := .double, accessFlags := 25, slot := 2, constantValue := 0 }, { name := "DEGREES_TO_RADIANS", type := .double, accessFlags := 26, slot := 3, constantValue := 0 }, { name := "RADIANS_TO_DEGREES", type := .double, accessFlags := 26, slot := 4, constantValue := 0 }, { name := "negativeZeroFloatBits", type := .long, accessFlags := 26, slot := 5, constantValue := 0 }, { name := "negativeZeroDoubleBits", type := .long, accessFlags := 26, slot := 6, constantValue := 0 }, { name := "twoToTheDoubleScaleUp", type := .double, accessFlags := 8, slot := 7, constantValue := 0 }, { name := "twoToTheDoubleScaleDown", type := .double, accessFlags := 8, slot := 8, constantValue := 0 }, { name := "$assertionsDisabled", type := .boolean, accessFlags := 4120, slot := 9, constantValue := 0 }]
  methods := #[k4m0, k4m1]
  instanceTypes := #[]
  staticTypes := #[.double, .double, .double, .double, .double, .long, .long, .double, .double, .boolean]
  resolved := Array.replicate 460 none
  statics := none }

def pool5 : Array CpInfo := pool [(2, .class_ 4), (1, u "java/lang/Object"), (0, u "<init>"), (0, u "()V"), (1, .class_ 10), (1, u "java/lang/System"), (0, u "allowSecurityManager"), (0, u "I"), (16, u "cons"), (0, u "Ljava/io/Console;"), (77, .class_ 110), (1, u "java/lang/System$CallersHolder"), (43, u "initialErrStream"), (0, u "Ljava/io/PrintStream;"), (19, u "security"), (0, u "Ljava/lang/SecurityManager;"), (31, .class_ 209), (0, u "java/lang/System$1"), (7, u "props"), (0, u "Ljava/util/Properties;"), (2, u "lineSeparator"), (0, u "Ljava/lang/String;"), (96, .class_ 321), (1, u "java/lang/System$LoggerFinder"), (5, .class_ 328), (0, u "java/lang/System$Logger"), (67, u "err"), (2, u "out"), (91, u "notSupportedJnuEncoding"), (15, u "in"), (17, u "initialIn"), (0, u "Ljava/io/InputStream;"), (35, u "bootLayer"), (0, u "Ljava/lang/ModuleLayer;"), (99, .class_ 664), (0, u "java/lang/System$2"), (9, u "NEVER"), (2, u "MAYBE"), (49, u "arraycopy"), (0, u "(Ljava/lang/Object;ILjava/lang/Object;II)V"), (72, .class_ 802), (0, u "java/lang/System$Logger$Level")] 31

def k5m0 : Method := { name := "<init>", desc := "()V", sig := { parameters := [], returnType := none }, accessFlags := 2, code := none }
def k5m1 : Method := { name := "arraycopy", desc := "(Ljava/lang/Object;ILjava/lang/Object;II)V", sig := { parameters := [(.object "java/lang/Object"), .int, (.object "java/lang/Object"), .int, .int], returnType := none }, accessFlags := 265, code := none }
/-- java/lang/System -/
def k5 : Class := { plain "java/lang/System" (some 0) with
  accessFlags := 49
  interfaces := #[]
  cf := some (fileOf pool5 8 #[.nestMembers #[319, 327, 801, 108, 663, 208]] #[{ accessFlags := 2, nameIndex := 5, descriptorIndex := 6, attributes := #[] }, { accessFlags := 265, nameIndex := 727, descriptorIndex := 728, attributes := #[] }] 49 2 #[] #[{ accessFlags := 25, nameIndex := 507, descriptorIndex := 526, attributes := #[] }, { accessFlags := 25, nameIndex := 399, descriptorIndex := 155, attributes := #[] }, { accessFlags := 25, nameIndex := 396, descriptorIndex := 155, attributes := #[] }, { accessFlags := 10, nameIndex := 525, descriptorIndex := 526, attributes := #[] }, { accessFlags := 26, nameIndex := 674, descriptorIndex := 12, attributes := #[] }, { accessFlags := 26, nameIndex := 677, descriptorIndex := 12, attributes := #[] }, { accessFlags := 10, nameIndex := 11, descriptorIndex := 12, attributes := #[] }, { accessFlags := 74, nameIndex := 175, descriptorIndex := 176, attributes := #[] }, { accessFlags := 10, nameIndex := 491, descriptorIndex := 222, attributes := #[] }, { accessFlags := 74, nameIndex := 29, descriptorIndex := 30, attributes := #[] }, { accessFlags := 74, nameIndex := 154, descriptorIndex := 155, attributes := #[] }, { accessFlags := 10, nameIndex := 217, descriptorIndex := 218, attributes := #[] }, { accessFlags := 10, nameIndex := 221, descriptorIndex := 222, attributes := #[] }, { accessFlags := 8, nameIndex := 562, descriptorIndex := 563, attributes := #[] }])
  fields := #[{ name := "in", type := (.object "java/io/InputStream"), accessFlags := 25, slot := 0, constantValue := 0 }, { name := "out", type := (.object "java/io/PrintStream"), accessFlags := 25, slot := 1, constantValue := 0 }, { name := "err", type := (.object "java/io/PrintStream"), accessFlags := 25, slot := 2, constantValue := 0 }, { name := "initialIn", type := (.object "java/io/InputStream"), accessFlags := 10, slot := 3, constantValue := 0 }, { name := "NEVER", type := .int, accessFlags := 26, slot := 4, constantValue := 0 }, { name := "MAYBE", type := .int, accessFlags := 26, slot := 5, constantValue := 0 }, { name := "allowSecurityManager", type := .int, accessFlags := 10, slot := 6, constantValue := 0 }, { name := "security", type := (.object "java/lang/SecurityManager"), accessFlags := 74, slot := 7, constantValue := 0 }, { name := "notSupportedJnuEncoding", type := (.object "java/lang/String"), accessFlags := 10, slot := 8, constantValue := 0 }, { name := "cons", type := (.object "java/io/Console"), accessFlags := 74, slot := 9, constantValue := 0 }, { name := "initialErrStream", type := (.object "java/io/PrintStream"), accessFlags := 74, slot := 10, constantValue := 0 }, { name := "props", type := (.object "java/util/Properties"), accessFlags := 10, slot := 11, constantValue := 0 }, { name := "lineSeparator", type := (.object "java/lang/String"), accessFlags := 10, slot := 12, constantValue := 0 }, { name := "bootLayer", type := (.object "java/lang/ModuleLayer"), accessFlags := 8, slot := 13, constantValue := 0 }]
  methods := #[k5m0, k5m1]
  instanceTypes := #[]
  staticTypes := #[(.object "java/io/InputStream"), (.object "java/io/PrintStream"), (.object "java/io/PrintStream"), (.object "java/io/InputStream"), .int, .int, .int, (.object "java/lang/SecurityManager"), (.object "java/lang/String"), (.object "java/io/Console"), (.object "java/io/PrintStream"), (.object "java/util/Properties"), (.object "java/lang/String"), (.object "java/lang/ModuleLayer")]
  resolved := Array.replicate 834 none
  statics := none }

def pool6 : Array CpInfo := pool [(1, .class_ 2), (0, u "java/lang/Cloneable"), (0, .class_ 4), (0, u "java/lang/Object")] 2

/-- java/lang/Cloneable -/
def k6 : Class := { plain "java/lang/Cloneable" (some 0) with
  accessFlags := 1537
  interfaces := #[]
  cf := some (fileOf pool6 1 #[] #[] 1537 3 #[] #[])
  fields := #[]
  methods := #[]
  instanceTypes := #[]
  staticTypes := #[]
  resolved := Array.replicate 7 none
  statics := none }

def pool7 : Array CpInfo := pool [(1, u "java/io/Serializable"), (0, .class_ 1), (0, u "java/lang/Object"), (0, .class_ 3)] 3

/-- java/io/Serializable -/
def k7 : Class := { plain "java/io/Serializable" (some 0) with
  accessFlags := 1537
  interfaces := #[]
  cf := some (fileOf pool7 2 #[] #[] 1537 4 #[] #[])
  fields := #[]
  methods := #[]
  instanceTypes := #[]
  staticTypes := #[]
  resolved := Array.replicate 8 none
  statics := none }

/-- the primitive byte -/
def k8 : Class := { plain "byte" none with kind := .primitive 'B', accessFlags := 0x411 }
/-- [B -/
def k9 : Class := { plain "[B" (some 0) with kind := .array 8 .byte, interfaces := #[6, 7], accessFlags := 1041 }

/-- the primitive int -/
def k10 : Class := { plain "int" none with kind := .primitive 'I', accessFlags := 0x411 }
/-- [I -/
def k11 : Class := { plain "[I" (some 0) with kind := .array 10 .int, interfaces := #[6, 7], accessFlags := 1041 }

def heap : Heap := #[]
def classes : Array Class := #[k0, k1, k2, k3, k4, k5, k6, k7, k8, k9, k10, k11]
def interned : List (Array UInt16 × Addr) := []
def slotsUsed : Nat := 0
def theMethod : MethodId := ⟨1, 1⟩
def args0 : Array Value := #[.int 5, .int 5, .int 5, .int 5, .int 5, .int 5]
def aboutOver (below : List Frame) : State where
  vm := { classes := classes, interned := interned.toArray }
  heap := heap
  slotsUsed := slotsUsed
  threads := #[{ frames := .invoking theMethod args0 :: below }]
def below0 : List Frame := [.native { method := ⟨0, 0⟩, args := #[] }]
def about1 : State := aboutOver below0
def p0 : Program := .bare "" "" ""
def e0 : Env := launch0.env 0 0 0
theorem w_frames : about1.frames = Frame.invoking theMethod args0 :: below0 := rfl
set_option maxRecDepth 65536 in
theorem w_args : argsFit about1.vm theMethod args0 = true := by decide +kernel
set_option maxRecDepth 65536 in
theorem w_heap : heapFits about1 = true := by decide +kernel
set_option maxRecDepth 65536 in
theorem w_runnable : about1.curStatus? = some .runnable := by decide +kernel
set_option maxRecDepth 65536 in
theorem w_alone : about1.alone = true := by decide +kernel
set_option maxRecDepth 65536 in
theorem w_named : about1.methodNamed? x = some theMethod := by decide +kernel
set_option maxRecDepth 65536 in
theorem w_hears : about1.hears theMethod below0 = true := by decide +kernel
set_option maxRecDepth 65536 in
theorem w_ripe : about1.ripe theMethod args0 below0 = true := by decide +kernel
theorem w_running : about1.status = .running := rfl
set_option maxRecDepth 65536 in
theorem w_room : about1.hasRoom e0.platform room_1 = true :=
  launch0.hasRoom_least _ room_1 (by decide +kernel) (by decide +kernel) (by decide +kernel) (by decide +kernel) (by decide +kernel) (by decide +kernel)
theorem allAtoms_all (ts : List Jvm.Cond) (a : Array Jvm.Value) (st : Jvm.State) : (allAtoms ts).before a st = ts.all (fun c => c.before a st) := by
  induction ts with
  | nil => rfl
  | cons c t ih =>
    show (Jvm.Cond.and c (allAtoms t)).before a st = _
    rw [Jvm.Cond.before_and, ih, List.all_cons]
def words1 : List Jvm.Cond := Jvm.Cond.code x code maxLocals ret :: tables_1
/-- a 'code' word, met by the world's own term for the bytes: nothing is compared byte by byte -/
theorem code_word {y : MethodName} {bytes : ByteArray} {mx : Nat} {rt : Option FieldType} {a : Array Value} {s : State} {m : MethodId} {meth : Method} {c : Code} (h1 : s.methodNamed? y = some m) (h2 : s.vm.method? m = some meth) (h3 : meth.code = some c) (h4 : c.code = bytes)
    (h5 : (c.maxLocals == mx && c.exceptionTable.isEmpty && decide (c.maxStack ≤ mostOperands) && decide (meth.sig.returnType = rt) && !meth.locks && decide (parseMethodDescriptor y.desc = some meth.sig)) = true) : (Jvm.Cond.code y bytes mx rt).before a s = true := by
  simp only [Bool.and_eq_true, beq_iff_eq, Bool.not_eq_true', decide_eq_true_eq] at h5
  obtain ⟨⟨⟨⟨⟨g1, g2⟩, g3⟩, g4⟩, g5⟩, g6⟩ := h5
  simp [Cond.before, Cond.holds, Cond.value, h1, h2, h3, h4, g1, g2, g3, g4, g5, g6]
def isCode : Jvm.Cond → Bool
  | .code _ _ _ _ => true
  | _ => false
theorem all_split {L : List Jvm.Cond} {P : Jvm.Cond → Bool} (h1 : L.all (fun c => isCode c || P c) = true) (h2 : ∀ c ∈ L.filter isCode, P c = true) : L.all P = true := by
  refine List.all_eq_true.mpr fun c hc => ?_
  have h := List.all_eq_true.mp h1 c hc
  rcases Bool.eq_false_or_eq_true (isCode c) with hi | hi
  · exact h2 c (List.mem_filter.mpr ⟨hc, hi⟩)
  · simpa [hi] using h
set_option maxRecDepth 65536 in
theorem w_c0 : (Jvm.Cond.code x code maxLocals ret).before args0 about1 = true := code_word (m := ⟨1, 1⟩) (meth := k1m1) (c := k1c1) (by decide +kernel) rfl rfl rfl (by decide +kernel)
set_option maxRecDepth 65536 in
theorem w_c1 : (Jvm.Cond.code ({ cls := "com/example/isopod/isopod/RecordHeader", name := "read", desc := "([B)Lcom/example/isopod/isopod/RecordHeader;" } : Jvm.MethodName) prog_12_method_3_code (6 : Nat) (Option.some (Jvm.ClassFile.FieldType.object "com/example/isopod/isopod/RecordHeader"))).before args0 about1 = true := code_word (m := ⟨2, 1⟩) (meth := k2m1) (c := k2c1) (by decide +kernel) rfl rfl rfl (by decide +kernel)
set_option maxRecDepth 65536 in
theorem w_c2 : (Jvm.Cond.code ({ cls := "com/example/isopod/isopod/RecordHeader", name := "headerLength", desc := "(I)I" } : Jvm.MethodName) prog_12_method_10_code (2 : Nat) (Option.some Jvm.ClassFile.FieldType.int)).before args0 about1 = true := code_word (m := ⟨2, 6⟩) (meth := k2m6) (c := k2c6) (by decide +kernel) rfl rfl rfl (by decide +kernel)
set_option maxRecDepth 65536 in
theorem w_c3 : (Jvm.Cond.code ({ cls := "java/util/Arrays", name := "copyOfRange", desc := "([BII)[B" } : Jvm.MethodName) jdk_65_method_132_code (3 : Nat) (Option.some (Jvm.ClassFile.FieldType.array Jvm.ClassFile.FieldType.byte))).before args0 about1 = true := code_word (m := ⟨3, 2⟩) (meth := k3m2) (c := k3c2) (by decide +kernel) rfl rfl rfl (by decide +kernel)
set_option maxRecDepth 65536 in
theorem w_c4 : (Jvm.Cond.code ({ cls := "java/util/Arrays", name := "copyOfRangeByte", desc := "([BII)[B" } : Jvm.MethodName) jdk_65_method_133_code (5 : Nat) (Option.some (Jvm.ClassFile.FieldType.array Jvm.ClassFile.FieldType.byte))).before args0 about1 = true := code_word (m := ⟨3, 3⟩) (meth := k3m3) (c := k3c3) (by decide +kernel) rfl rfl rfl (by decide +kernel)
set_option maxRecDepth 65536 in
theorem w_c5 : (Jvm.Cond.code ({ cls := "java/util/Arrays", name := "checkLength", desc := "(II)V" } : Jvm.MethodName) jdk_65_method_131_code (2 : Nat) (Option.none : Option Jvm.ClassFile.FieldType)).before args0 about1 = true := code_word (m := ⟨3, 1⟩) (meth := k3m1) (c := k3c1) (by decide +kernel) rfl rfl rfl (by decide +kernel)
set_option maxRecDepth 65536 in
theorem w_c6 : (Jvm.Cond.code ({ cls := "java/lang/Math", name := "min", desc := "(II)I" } : Jvm.MethodName) jdk_29_method_69_code (2 : Nat) (Option.some Jvm.ClassFile.FieldType.int)).before args0 about1 = true := code_word (m := ⟨4, 1⟩) (meth := k4m1) (c := k4c1) (by decide +kernel) rfl rfl rfl (by decide +kernel)
set_option maxRecDepth 65536 in
theorem w_c7 : (Jvm.Cond.code ({ cls := "com/example/isopod/isopod/RecordHeader", name := "<init>", desc := "(IJ[B)V" } : Jvm.MethodName) prog_12_method_1_code (5 : Nat) (Option.none : Option Jvm.ClassFile.FieldType)).before args0 about1 = true := code_word (m := ⟨2, 0⟩) (meth := k2m0) (c := k2c0) (by decide +kernel) rfl rfl rfl (by decide +kernel)
set_option maxRecDepth 65536 in
theorem w_c8 : (Jvm.Cond.code ({ cls := "java/lang/Object", name := "<init>", desc := "()V" } : Jvm.MethodName) object_method_1_code (1 : Nat) (Option.none : Option Jvm.ClassFile.FieldType)).before args0 about1 = true := code_word (m := ⟨0, 0⟩) (meth := k0m0) (c := k0c0) (by decide +kernel) rfl rfl rfl (by decide +kernel)
set_option maxRecDepth 65536 in
theorem w_c9 : (Jvm.Cond.code ({ cls := "com/example/isopod/isopod/RecordHeader", name := "nonce", desc := "()[B" } : Jvm.MethodName) prog_12_method_6_code (1 : Nat) (Option.some (Jvm.ClassFile.FieldType.array Jvm.ClassFile.FieldType.byte))).before args0 about1 = true := code_word (m := ⟨2, 4⟩) (meth := k2m4) (c := k2c4) (by decide +kernel) rfl rfl rfl (by decide +kernel)
set_option maxRecDepth 65536 in
theorem w_c10 : (Jvm.Cond.code ({ cls := "com/example/isopod/isopod/RecordHeader", name := "version", desc := "()I" } : Jvm.MethodName) prog_12_method_4_code (1 : Nat) (Option.some Jvm.ClassFile.FieldType.int)).before args0 about1 = true := code_word (m := ⟨2, 2⟩) (meth := k2m2) (c := k2c2) (by decide +kernel) rfl rfl rfl (by decide +kernel)
set_option maxRecDepth 65536 in
theorem w_c11 : (Jvm.Cond.code ({ cls := "com/example/isopod/isopod/RecordHeader", name := "generation", desc := "()J" } : Jvm.MethodName) prog_12_method_5_code (1 : Nat) (Option.some Jvm.ClassFile.FieldType.long)).before args0 about1 = true := code_word (m := ⟨2, 3⟩) (meth := k2m3) (c := k2c3) (by decide +kernel) rfl rfl rfl (by decide +kernel)
set_option maxRecDepth 65536 in
theorem w_c12 : (Jvm.Cond.code ({ cls := "com/example/isopod/isopod/RecordHeader", name := "length", desc := "()I" } : Jvm.MethodName) prog_12_method_7_code (1 : Nat) (Option.some Jvm.ClassFile.FieldType.int)).before args0 about1 = true := code_word (m := ⟨2, 5⟩) (meth := k2m5) (c := k2c5) (by decide +kernel) rfl rfl rfl (by decide +kernel)
def codes1 : List Jvm.Cond := [Jvm.Cond.code x code maxLocals ret, Jvm.Cond.code ({ cls := "com/example/isopod/isopod/RecordHeader", name := "read", desc := "([B)Lcom/example/isopod/isopod/RecordHeader;" } : Jvm.MethodName) prog_12_method_3_code (6 : Nat) (Option.some (Jvm.ClassFile.FieldType.object "com/example/isopod/isopod/RecordHeader")), Jvm.Cond.code ({ cls := "com/example/isopod/isopod/RecordHeader", name := "headerLength", desc := "(I)I" } : Jvm.MethodName) prog_12_method_10_code (2 : Nat) (Option.some Jvm.ClassFile.FieldType.int), Jvm.Cond.code ({ cls := "java/util/Arrays", name := "copyOfRange", desc := "([BII)[B" } : Jvm.MethodName) jdk_65_method_132_code (3 : Nat) (Option.some (Jvm.ClassFile.FieldType.array Jvm.ClassFile.FieldType.byte)), Jvm.Cond.code ({ cls := "java/util/Arrays", name := "copyOfRangeByte", desc := "([BII)[B" } : Jvm.MethodName) jdk_65_method_133_code (5 : Nat) (Option.some (Jvm.ClassFile.FieldType.array Jvm.ClassFile.FieldType.byte)), Jvm.Cond.code ({ cls := "java/util/Arrays", name := "checkLength", desc := "(II)V" } : Jvm.MethodName) jdk_65_method_131_code (2 : Nat) (Option.none : Option Jvm.ClassFile.FieldType), Jvm.Cond.code ({ cls := "java/lang/Math", name := "min", desc := "(II)I" } : Jvm.MethodName) jdk_29_method_69_code (2 : Nat) (Option.some Jvm.ClassFile.FieldType.int), Jvm.Cond.code ({ cls := "com/example/isopod/isopod/RecordHeader", name := "<init>", desc := "(IJ[B)V" } : Jvm.MethodName) prog_12_method_1_code (5 : Nat) (Option.none : Option Jvm.ClassFile.FieldType), Jvm.Cond.code ({ cls := "java/lang/Object", name := "<init>", desc := "()V" } : Jvm.MethodName) object_method_1_code (1 : Nat) (Option.none : Option Jvm.ClassFile.FieldType), Jvm.Cond.code ({ cls := "com/example/isopod/isopod/RecordHeader", name := "nonce", desc := "()[B" } : Jvm.MethodName) prog_12_method_6_code (1 : Nat) (Option.some (Jvm.ClassFile.FieldType.array Jvm.ClassFile.FieldType.byte)), Jvm.Cond.code ({ cls := "com/example/isopod/isopod/RecordHeader", name := "version", desc := "()I" } : Jvm.MethodName) prog_12_method_4_code (1 : Nat) (Option.some Jvm.ClassFile.FieldType.int), Jvm.Cond.code ({ cls := "com/example/isopod/isopod/RecordHeader", name := "generation", desc := "()J" } : Jvm.MethodName) prog_12_method_5_code (1 : Nat) (Option.some Jvm.ClassFile.FieldType.long), Jvm.Cond.code ({ cls := "com/example/isopod/isopod/RecordHeader", name := "length", desc := "()I" } : Jvm.MethodName) prog_12_method_7_code (1 : Nat) (Option.some Jvm.ClassFile.FieldType.int)]
set_option maxRecDepth 65536 in
theorem codes_eq : words1.filter isCode = codes1 := rfl
theorem w_codes : ∀ c ∈ words1.filter isCode, c.before args0 about1 = true := by
  rw [codes_eq]
  intro c hc
  simp only [codes1, List.mem_cons, List.not_mem_nil, or_false] at hc
  rcases hc with rfl | rfl | rfl | rfl | rfl | rfl | rfl | rfl | rfl | rfl | rfl | rfl | rfl
  · exact w_c0
  · exact w_c1
  · exact w_c2
  · exact w_c3
  · exact w_c4
  · exact w_c5
  · exact w_c6
  · exact w_c7
  · exact w_c8
  · exact w_c9
  · exact w_c10
  · exact w_c11
  · exact w_c12
set_option maxRecDepth 65536 in
theorem w_t1 : (words1.take 24).all (fun c => isCode c || c.before args0 about1) = true := by decide +kernel
set_option maxRecDepth 65536 in
theorem w_t2 : ((words1.drop 24).take 24).all (fun c => isCode c || c.before args0 about1) = true := by decide +kernel
set_option maxRecDepth 65536 in
theorem w_t3 : ((words1.drop 24).drop 24).all (fun c => isCode c || c.before args0 about1) = true := by decide +kernel
theorem w_tables : (allAtoms (Jvm.Cond.code x code maxLocals ret :: tables_1)).before args0 about1 = true := by
  rw [allAtoms_all]
  show words1.all (fun c => c.before args0 about1) = true
  refine all_split ?_ w_codes
  rw [← List.take_append_drop 24 words1, List.all_append, w_t1, ← List.take_append_drop 24 (words1.drop 24), List.all_append, w_t2, w_t3]
  rfl
set_option maxRecDepth 65536 in
theorem w_case : (Jvm.Cond.and given_1 narrow_1).before args0 about1 = true := by decide +kernel
theorem w_applies : (headSpec (Jvm.Cond.code x code maxLocals ret :: tables_1) room_1).applies x e0.platform about1 = true :=
  (Spec.applies_iff w_frames).mpr ⟨w_running, w_runnable, w_alone, w_named, w_hears, w_ripe, w_room, w_tables⟩
theorem atStart : AtStart classFile x code maxLocals ret World_1 tables_1 room_1 Calls_1 rest_1 Pre_1 launch0 p0 e0 about1 theMethod args0 below0 :=
  ⟨lists_1, trivial, launch0.admits_env _ _ _, launch0.least_env, fairChoices_fair.cas, fairChoices_fair.clock, w_frames, w_args, w_heap, w_applies, trivial, trivial, w_case⟩
end start1
theorem witness_1 : WitnessClaimed_1 := ⟨start1.p0, start1.e0, start1.about1, start1.theMethod, start1.args0, start1.below0, start1.atStart⟩
end Jvm.Pilot.@@N@@
