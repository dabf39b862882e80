import JvmDerived
import JvmDerived.Pilot.@@N@@Statement
import JvmDerived.Pilot.@@N@@Code
set_option linter.unusedVariables false
set_option linter.unusedSimpArgs false
@@BLOCK:TracedD.lean.txt@@
namespace Jvm.RoadKit
open Sem ClassFile Op Lib Jvm.Stand Jvm.Free Jvm.LawKit
section New
variable {p : Program} {l : Launch} {e : Env} {R : Room} {s : State} {m : MethodId} {args : Array Value} {below : List Frame} {meth : Method} {c : Code} {T : State} {locs : List Loc} {cells slots : Nat}
theorem retI (X : Stand p l e R s m args below meth c T locs cells slots) (hx : p.tables.exec = Jvm.exec) {pc : Nat} {Ls : Array Slot} {z : Int32} {rest : List Value} (hret : meth.sig.returnType = some .int) (hd : decode c.code pc = .ok (.ireturn, 1)) {fs : List Frame}
    (hl : ∀ (f : JFrame) (acts : List Action), f.method = m → f.locked = none → f.entered = [] → (doReturn e (T.setTop f) acts (some (.int z))).1 = T.setFrames fs) : Steps p.tables e below (T.setTop (mkF m pc Ls (.int z :: rest))) (T.setFrames fs) := by
  have hm' : T.vm.method? m = some meth := X.method'
  have hn : narrow .int (.int z) = .int z := rfl
  show Steps p.tables e below (T.setTop { method := m, pc := pc, locals := Ls, stack := _ :: rest, locked := none }) _
  jvm_step X.here [X.here.top, hx, hd, hm', hret, hn]
  first | (intro acts; rw [hl _ acts rfl rfl rfl]) | rw [hl _ _ rfl rfl rfl]
  exact Steps.refl _
end New
end Jvm.RoadKit
namespace Jvm.Pilot.@@N@@
open Jvm Jvm.ClassFile Sem Op Lib Jvm.Free Jvm.Stand Jvm.LawKit Jvm.RoadKit Bundle Jvm.Pilot.@@N@@.Jvm.D
section OwnWalk
variable {p : Program} {l : Launch} {e : Env} {R : Room} {s : State} {m : MethodId} {args : Array Value} {below : List Frame} {meth : Method} {c : Code} {T : State} {locs : List Loc} {cells slots : Nat} {Z : State} {a0 : Array Value} {h h0 : Heap}
variable {tb : Tables} {Post : Outcome → State → Prop} {Q : Option Value → Heap → List Loc → Prop} {k j : Nat}
/-- the run from here comes to its end, and there Post holds -/
def own_Ends (tb : Tables) (e : Env) (below : List Frame) (Post : Outcome → State → Prop) (A : State) : Prop := ∃ U o, Steps tb e below A U ∧ U.status = .running ∧ Ended U below o ∧ Post o U
theorem own_via {A : State} (B : State) (h : ∀ t, Steps tb e below B t → Steps tb e below A t) (k : own_Ends tb e below Post B) : own_Ends tb e below Post A := by
  obtain ⟨U, o, h1, h2⟩ := k; exact ⟨U, o, h _ h1, h2⟩
def own_Post (s : State) (Q : Option Value → Heap → List Loc → Prop) (k j : Nat) : Outcome → State → Prop := fun o U => ∃ v L, o = .returned v ∧ Q v U.heap L ∧ FrameEnd s o U L k j
/-- a method's contract: called with as at the heap h0 it returns, and Q holds of what it returned, of the heap and of the places written -/
def own_CT (l : Launch) (Z : State) (y : MethodName) (bytes : ByteArray) (maxL : Nat) (ret : Option FieldType) (rm : Room) (as : Array Value) (h0 : Heap) (Q : Option Value → Heap → List Loc → Prop) : Prop :=
  ∀ ws : List Jvm.Cond, MetFree l y (head1 (Jvm.Cond.code y bytes maxL ret :: ws) rm) (fun a U => a = as ∧ Z.Warmed39 U.vm ∧ U.heap = h0) (fun _ _ _ _ _ => True) (fun _ U o U' => ∃ v L, o = .returned v ∧ Q v U'.heap L ∧ FrameEnd U o U' L rm.cells rm.slots)
theorem own_of {y : MethodName} {bytes : ByteArray} {maxL : Nat} {ret : Option FieldType} {rm : Room} {as : Array Value} {Ls : Array Slot} (hx : plainFor y = true) (hef : ∀ m, entryFrame m as maxL = mkF m 0 Ls [])
    (body : ∀ p e s m below meth c T, Stand p l e rm s m as below meth c T [] 0 0 → p.tables.exec = Jvm.exec → c.code = bytes → c.maxLocals = maxL → s.vm.findClass y.cls = some m.cls → meth.name = y.name → meth.sig.returnType = ret → Z.Warmed39 s.vm → T.heap = h0 → meth.locks = false →
      own_Ends p.tables e below (own_Post s Q rm.cells rm.slots) (T.setTop (mkF m 0 Ls []))) : own_CT l Z y bytes maxL ret rm as h0 Q := by
  intro ws
  refine MetFree.of_bodySF hx hisR ?_
  intro p e s m args below meth c s₁ Bd hml0 hP hK
  obtain ⟨rfl, hZ, hh⟩ := hP
  have e0 : s₁.heap = h0 := by rw [← hh, Bd.state]; rfl
  obtain ⟨U, o, h1, h2, h3, h4⟩ := body p e s m below meth c s₁ (Stand.of_body Bd) Bd.exec Bd.bytes hml0 (findClass_of_methodNamed Bd.named) (name_of_methodNamed Bd.named Bd.method).1 Bd.returns hZ e0 Bd.notSynchronized
  exact ⟨U, o, castTop (hef m) h1, h2, h3, h4⟩
/-- the same for a body beneath which a stack trace is filled in: the tables' methods and the frames beneath are known -/
def own_CTK (l : Launch) (Z : State) (y : MethodName) (bytes : ByteArray) (maxL : Nat) (ret : Option FieldType) (rm : Room) (as : Array Value) (h0 : Heap) (Q : Option Value → Heap → List Loc → Prop) : Prop :=
  ∀ ws : List Jvm.Cond, MetFree l y (head1 (Jvm.Cond.code y bytes maxL ret :: ws) rm) (fun a U => a = as ∧ Z.Warmed39 U.vm ∧ U.heap = h0) (fun _ _ bl s _ => s.vm.MethodsKnown ∧ s.vm.FramesKnown bl) (fun _ U o U' => ∃ v L, o = .returned v ∧ Q v U'.heap L ∧ FrameEnd U o U' L rm.cells rm.slots)
theorem own_ofK {y : MethodName} {bytes : ByteArray} {maxL : Nat} {ret : Option FieldType} {rm : Room} {as : Array Value} {Ls : Array Slot} (hx : plainFor y = true) (hef : ∀ m, entryFrame m as maxL = mkF m 0 Ls [])
    (body : ∀ p e s m below meth c T, Stand p l e rm s m as below meth c T [] 0 0 → p.tables.exec = Jvm.exec → c.code = bytes → c.maxLocals = maxL → s.vm.findClass y.cls = some m.cls → meth.name = y.name → meth.sig.returnType = ret → Z.Warmed39 s.vm → T.heap = h0 → meth.locks = false → s.heap = h0 → s.vm.MethodsKnown → s.vm.FramesKnown below →
      own_Ends p.tables e below (own_Post s Q rm.cells rm.slots) (T.setTop (mkF m 0 Ls []))) : own_CTK l Z y bytes maxL ret rm as h0 Q := by
  intro ws
  refine MetFree.of_bodySF hx hisR ?_
  intro p e s m args below meth c s₁ Bd hml0 hP hK
  obtain ⟨rfl, hZ, hh⟩ := hP
  have e0 : s₁.heap = h0 := by rw [← hh, Bd.state]; rfl
  obtain ⟨U, o, h1, h2, h3, h4⟩ := body p e s m below meth c s₁ (Stand.of_body Bd) Bd.exec Bd.bytes hml0 (findClass_of_methodNamed Bd.named) (name_of_methodNamed Bd.named Bd.method).1 Bd.returns hZ e0 Bd.notSynchronized hh hK.1 hK.2
  exact ⟨U, o, castTop (hef m) h1, h2, h3, h4⟩
theorem own_retI (X : Stand p l e R s m args below meth c T locs cells slots) (hx : p.tables.exec = Jvm.exec) (hlk : meth.locks = false) {pc : Nat} {Ls : Array Slot} {z : Int32} {rest : List Value} (hret : meth.sig.returnType = some .int) (hd : decode c.code pc = .ok (.ireturn, 1))
    (eT : T.heap = h) (q : Q (some (.int z)) h locs) (hc : cells ≤ k) (hs : slots ≤ j) : own_Ends p.tables e below (own_Post s Q k j) (T.setTop (mkF m pc Ls (.int z :: rest))) := by
  obtain ⟨fs, hr, hrun, hended, hW, hsame⟩ := X.leave (v := some (.int z)) (fun h => by rw [hret] at h; cases h)
  subst eT
  exact ⟨_, _, retI X hx hret hd hr, hrun, hended, _, _, rfl, q, ⟨_, rfl⟩, hW, hsame.mono hc hs⟩
theorem own_retN (X : Stand p l e R s m args below meth c T locs cells slots) (hx : p.tables.exec = Jvm.exec) (hlk : meth.locks = false) {pc : Nat} {Ls : Array Slot} {z : Int32} {t : FieldType} {rest : List Value} (hret : meth.sig.returnType = some t) (ht : t = .boolean ∨ t = .byte ∨ t = .char ∨ t = .short) (hd : decode c.code pc = .ok (.ireturn, 1))
    (eT : T.heap = h) (q : Q (some (.int (nar t z))) h locs) (hc : cells ≤ k) (hs : slots ≤ j) : own_Ends p.tables e below (own_Post s Q k j) (T.setTop (mkF m pc Ls (.int z :: rest))) := by
  obtain ⟨fs, hr, hrun, hended, hW, hsame⟩ := X.leave (v := some (.int (nar t z))) (fun h => by rw [hret] at h; cases h)
  subst eT
  exact ⟨_, _, retN X hx hret ht hd hr, hrun, hended, _, _, rfl, q, ⟨_, rfl⟩, hW, hsame.mono hc hs⟩
theorem own_retA (X : Stand p l e R s m args below meth c T locs cells slots) (hx : p.tables.exec = Jvm.exec) (hlk : meth.locks = false) {pc : Nat} {Ls : Array Slot} {w : Value} {t : FieldType} {rest : List Value} (hret : meth.sig.returnType = some t) (ht : t.isReference = true) (hw : w.isRef = true) (hd : decode c.code pc = .ok (.areturn, 1))
    (eT : T.heap = h) (q : Q (some w) h locs) (hc : cells ≤ k) (hs : slots ≤ j) : own_Ends p.tables e below (own_Post s Q k j) (T.setTop (mkF m pc Ls (w :: rest))) := by
  obtain ⟨fs, hr, hrun, hended, hW, hsame⟩ := X.leave (v := some w) (fun h => by rw [hret] at h; cases h)
  subst eT
  have hn : narrow t w = w := by cases t <;> first | (cases ht; done) | (rcases ref_cases hw with rfl | ⟨_, rfl⟩ <;> rfl)
  exact ⟨_, _, retOut X hx hret hn (Or.inr (Or.inr (Or.inr (Or.inr ⟨rfl, ht, hw⟩)))) hd hr, hrun, hended, _, _, rfl, q, ⟨_, rfl⟩, hW, hsame.mono hc hs⟩
theorem own_retJ (X : Stand p l e R s m args below meth c T locs cells slots) (hx : p.tables.exec = Jvm.exec) (hlk : meth.locks = false) {pc : Nat} {Ls : Array Slot} {z : Int64} {rest : List Value} (hret : meth.sig.returnType = some .long) (hd : decode c.code pc = .ok (.lreturn, 1))
    (eT : T.heap = h) (q : Q (some (.long z)) h locs) (hc : cells ≤ k) (hs : slots ≤ j) : own_Ends p.tables e below (own_Post s Q k j) (T.setTop (mkF m pc Ls (.long z :: rest))) := by
  obtain ⟨fs, hr, hrun, hended, hW, hsame⟩ := X.leave (v := some (.long z)) (fun h => by rw [hret] at h; cases h)
  subst eT
  exact ⟨_, _, retOut X hx hret rfl (Or.inr (Or.inl ⟨rfl, rfl, _, rfl⟩)) hd hr, hrun, hended, _, _, rfl, q, ⟨_, rfl⟩, hW, hsame.mono hc hs⟩
theorem own_ret0 (X : Stand p l e R s m args below meth c T locs cells slots) (hx : p.tables.exec = Jvm.exec) (hlk : meth.locks = false) {pc : Nat} {Ls : Array Slot} (hret : meth.sig.returnType = none) (hd : decode c.code pc = .ok (.return_, 1))
    (eT : T.heap = h) (q : Q none h locs) (hc : cells ≤ k) (hs : slots ≤ j) : own_Ends p.tables e below (own_Post s Q k j) (T.setTop (mkF m pc Ls [])) := by
  obtain ⟨fs, hr, hrun, hended, hW, hsame⟩ := X.leave (v := none) (fun _ => rfl)
  subst eT
  exact ⟨_, _, X.returnOut hx hret hd hr, hrun, hended, _, _, rfl, q, ⟨_, rfl⟩, hW, hsame.mono hc hs⟩
theorem own_cat1 {v : Value} (h : v.isRef = true) : v.category = 1 := XT.cat1 h
theorem own_narR {v : Value} {t : FieldType} (ht : t.isReference = true) (h : v.isRef = true) : narrow t v = v := by cases t <;> first | (cases ht; done) | (rcases ref_cases h with rfl | ⟨_, rfl⟩ <;> rfl)
theorem own_fitR {v : Value} {t : FieldType} (ht : t.isReference = true) (h : v.isRef = true) : fits t v = true := by cases t <;> first | (cases ht; done) | (rcases ref_cases h with rfl | ⟨_, rfl⟩ <;> rfl)
theorem own_and255 (x : Int32) : ¬ nar .char ((x &&& (255 : Int32)).toUInt32.toUInt16.toUInt32.toInt32) < 0 ∧ ¬ (255 : Int32) < nar .char ((x &&& (255 : Int32)).toUInt32.toUInt16.toUInt32.toInt32) := by
  have t : ∀ k : Fin 256, ¬ nar .char ((Int32.ofNat k.val).toUInt32.toUInt16.toUInt32.toInt32) < 0 ∧ ¬ (255 : Int32) < nar .char ((Int32.ofNat k.val).toUInt32.toUInt16.toUInt32.toInt32) := by decide +kernel
  have h : (x &&& 255).toBitVec.toNat < 256 := by
    simp only [Int32.toBitVec_and, BitVec.toNat_and]
    exact Nat.lt_succ_of_le Nat.and_le_right
  have e : (x &&& 255) = Int32.ofNat (x &&& 255).toBitVec.toNat := by
    apply Int32.toBitVec_inj.mp
    show _ = BitVec.ofNat 32 _
    rw [BitVec.ofNat_toNat]; simp
  rw [e]
  exact t ⟨_, h⟩
/-- what pays a call: the shape of the library's backOf -/
abbrev own_BK (l : Launch) (R : Room) (p : Program) (e : Env) (below : List Frame) (s : State) (args : Array Value) (y : MethodName) (len W : Nat) (as : Array Value) (h : Heap) (k j : Nat) (Q : Option Value → Heap → List Loc → Prop) : Prop :=
  Back l R p e below s args y len W (fun A a => a = as ∧ A.U.heap = h ∧ A.cells + k ≤ R.cells ∧ A.slots + j ≤ R.slots) (fun A _ v B => ∃ L, Q v B.U.heap L ∧ B.locs = A.locs ++ L ∧ B.cells = A.cells + k ∧ B.slots = A.slots + j)
theorem own_bk {y : MethodName} {bytes : ByteArray} {maxL : Nat} {ret : Option FieldType} {rm : Room} {len W : Nat} {as : Array Value} (C : own_CT l Z y bytes maxL ret rm as h Q) (hZ : Z.Warmed39 s.vm) (wc : (Jvm.Cond.code y bytes maxL ret).before a0 Z = true) (wz : (Jvm.Cond.initialized y.cls).before a0 Z = true)
    (hf : rm.frames + 1 ≤ R.frames) (hl : W + (maxL + 11) + rm.locals ≤ R.locals) : own_BK l R p e below s args y len W as h rm.cells rm.slots Q := backOf (C []) hZ wc wz hf hl
theorem own_bkK {y : MethodName} {bytes : ByteArray} {maxL : Nat} {ret : Option FieldType} {rm : Room} {len W : Nat} {as : Array Value} (C : own_CTK l Z y bytes maxL ret rm as h Q) (hZ : Z.Warmed39 s.vm) (wc : (Jvm.Cond.code y bytes maxL ret).before a0 Z = true) (wz : (Jvm.Cond.initialized y.cls).before a0 Z = true)
    (hf : rm.frames + 1 ≤ R.frames) (hl : W + (maxL + 11) + rm.locals ≤ R.locals) (hTK : s.vm.MethodsKnown) (hBelow : s.vm.FramesKnown below) : own_BK l R p e below s args y len W as h rm.cells rm.slots Q := backOfKL (C []) hZ wc wz hf hl hTK hBelow
theorem own_cS (X : Stand p l e R s m args below meth c T locs cells slots) (hx : p.tables.exec = Jvm.exec) (hZ : Z.Warmed39 s.vm) {own : String} {index : Nat} {y : MethodName} {bytes : ByteArray} {maxL : Nat} {ret : Option FieldType} (hown : s.vm.findClass own = some m.cls)
    (w1 : (Jvm.Cond.methodLink own index y).before a0 Z = true) (w2 : (Jvm.Cond.static y).before a0 Z = true) (w3 : (Jvm.Cond.initialized y.cls).before a0 Z = true) (w4 : (Jvm.Cond.code y bytes maxL ret).before a0 Z = true) (hy : y.cls ≠ "java/lang/invoke/MethodHandle" ∧ y.cls ≠ "java/lang/invoke/VarHandle")
    {W : Nat} {as : Array Value} (K : own_BK l R p e below s args y 3 W as h k j Q) (eT : T.heap = h) {pc : Nat} {Ls : Array Slot} (hsize : Ls.size = c.maxLocals) {argsL rest st : List Value} (has : argsL.toArray = as) (hlen : ∀ sig, parseMethodDescriptor y.desc = some sig → argsL.length = sig.parameters.length) (hs : st = argsL.reverse ++ rest) (hW : (rest.map fun v => v.category).sum ≤ W)
    (hd : decode c.code pc = .ok (.invokestatic index, 3)) (hk : cells + k ≤ R.cells) (hj : slots + j ≤ R.slots) :
    ∃ (v : Option Value) (T' : State) (h' : Heap) (L : List Loc), Stand p l e R s m args below meth c T' (locs ++ L) (cells + k) (slots + j) ∧ T'.heap = h' ∧ Q v h' L ∧ ∀ t, Steps p.tables e below (T'.setTop (mkF m (pc + 3) Ls (v.toList ++ rest))) t → Steps p.tables e below (T.setTop (mkF m pc Ls st)) t := by
  subst hs
  obtain ⟨v, vm₁, ⟨T', L', k', n'⟩, -, X', ⟨L, hQ, hl, hy', hz⟩, stp⟩ := Jvm.LawKit.callS X hx hown (mvT hZ w1) (mvT hZ w2) (mvT hZ w3) (mvT hZ w4) hy K (g := mkF m pc Ls (argsL.reverse ++ rest)) rfl hsize (argsL := argsL) (rest := rest) hlen rfl (by show 2 * 0 + _ ≤ _; rw [Nat.mul_zero, Nat.zero_add]; exact hW) hd (fun _ _ => ⟨has, eT, hk, hj⟩)
  dsimp only [Pt.U, Pt.locs, Pt.cells, Pt.slots] at X' hQ hl hy' hz stp
  subst hl hy' hz
  exact ⟨v, T', _, L, X', rfl, hQ, stp⟩
theorem own_cI (X : Stand p l e R s m args below meth c T locs cells slots) (hx : p.tables.exec = Jvm.exec) (hZ : Z.Warmed39 s.vm) {own : String} {index : Nat} {y : MethodName} {bytes : ByteArray} {maxL : Nat} (hown : s.vm.findClass own = some m.cls)
    (w1 : (Jvm.Cond.methodLink own index y).before a0 Z = true) (w2 : (Jvm.Cond.instanceMethod y).before a0 Z = true) (w4 : (Jvm.Cond.code y bytes maxL none).before a0 Z = true) (hy1 : y.name = "<init>") (hy : y.cls ≠ "java/lang/invoke/MethodHandle" ∧ y.cls ≠ "java/lang/invoke/VarHandle")
    {W : Nat} {as : Array Value} (K : own_BK l R p e below s args y 3 W as h k j Q) (eT : T.heap = h) {pc : Nat} {Ls : Array Slot} (hsize : Ls.size = c.maxLocals) {a : Addr} {argsL rest st : List Value} (has : (Value.ref a :: argsL).toArray = as) (hlen : ∀ sig, parseMethodDescriptor y.desc = some sig → argsL.length = sig.parameters.length) (hs : st = argsL.reverse ++ .ref a :: rest) (hW : (rest.map fun v => v.category).sum ≤ W)
    (hd : decode c.code pc = .ok (.invokespecial index, 3)) (hk : cells + k ≤ R.cells) (hj : slots + j ≤ R.slots) :
    ∃ (v : Option Value) (T' : State) (h' : Heap) (L : List Loc), Stand p l e R s m args below meth c T' (locs ++ L) (cells + k) (slots + j) ∧ T'.heap = h' ∧ Q v h' L ∧ ∀ t, Steps p.tables e below (T'.setTop (mkF m (pc + 3) Ls (v.toList ++ rest))) t → Steps p.tables e below (T.setTop (mkF m pc Ls st)) t := by
  subst hs
  obtain ⟨v, vm₁, ⟨T', L', k', n'⟩, -, X', ⟨L, hQ, hl, hy', hz⟩, stp⟩ := X.specialBack hx hy1 hown (mvT hZ w1) (mvT hZ w2) (mvT hZ w4) hy K (g := mkF m pc Ls (argsL.reverse ++ .ref a :: rest)) rfl hsize (Steps.refl _) (a := a) (argsL := argsL) (rest := rest) hlen rfl (by show 2 * 0 + _ ≤ _; rw [Nat.mul_zero, Nat.zero_add]; exact hW) hd (fun _ _ => ⟨has, eT, hk, hj⟩)
  dsimp only [Pt.U, Pt.locs, Pt.cells, Pt.slots] at X' hQ hl hy' hz stp
  subst hl hy' hz
  exact ⟨v, T', _, L, X', rfl, hQ, fun t => stp.trans⟩
theorem own_cV (X : Stand p l e R s m args below meth c T locs cells slots) (hx : p.tables.exec = Jvm.exec) (hZ : Z.Warmed39 s.vm) {own C : String} {index : Nat} {y z : MethodName} (hown : s.vm.findClass own = some m.cls)
    (w1 : (Jvm.Cond.methodLink own index y).before a0 Z = true) (w2 : (Jvm.Cond.declares y).before a0 Z = true) (nf : NotFace s y) (w3 : (Jvm.Cond.selects C y z).before a0 Z = true) (w4 : (Jvm.Cond.instanceMethod z).before a0 Z = true) (hy : y.cls ≠ "java/lang/invoke/MethodHandle" ∧ y.cls ≠ "java/lang/invoke/VarHandle")
    {W : Nat} {as : Array Value} (K : own_BK l R p e below s args z 3 W as h k j Q) (eT : T.heap = h) {a : Addr} (E : Exa Z h a C) {pc : Nat} {Ls : Array Slot} (hsize : Ls.size = c.maxLocals) {argsL rest st : List Value} (has : (Value.ref a :: argsL).toArray = as) (hlen : ∀ sig, parseMethodDescriptor y.desc = some sig → argsL.length = sig.parameters.length) (hs : st = argsL.reverse ++ .ref a :: rest) (hW : (rest.map fun v => v.category).sum ≤ W)
    (hd : decode c.code pc = .ok (.invokevirtual index, 3)) (hk : cells + k ≤ R.cells) (hj : slots + j ≤ R.slots) :
    ∃ (v : Option Value) (T' : State) (h' : Heap) (L : List Loc), Stand p l e R s m args below meth c T' (locs ++ L) (cells + k) (slots + j) ∧ T'.heap = h' ∧ Q v h' L ∧ ∀ t, Steps p.tables e below (T'.setTop (mkF m (pc + 3) Ls (v.toList ++ rest))) t → Steps p.tables e below (T.setTop (mkF m pc Ls st)) t := by
  subst hs
  obtain ⟨cq, kq, qa, qb, qc⟩ := isOf hZ eT E
  obtain ⟨v, vm₁, ⟨T', L', k', n'⟩, -, X', ⟨L, hQ, hl, hy', hz⟩, stp⟩ := X.virtualBack hx (y := y) (z := z) hown (mvT hZ w1) (mvT hZ w2) nf (mvT hZ w3) (mvT hZ w4) hy K qa qc (g := mkF m pc Ls (argsL.reverse ++ .ref a :: rest)) rfl hsize (Steps.refl _) (argsL := argsL) (rest := rest) hlen rfl (by show 2 * 0 + _ ≤ _; rw [Nat.mul_zero, Nat.zero_add]; exact hW) hd (fun _ _ => ⟨has, eT, hk, hj⟩)
  dsimp only [Pt.U, Pt.locs, Pt.cells, Pt.slots] at X' hQ hl hy' hz stp
  subst hl hy' hz
  exact ⟨v, T', _, L, X', rfl, hQ, fun t => stp.trans⟩
theorem own_cF (X : Stand p l e R s m args below meth c T locs cells slots) (hx : p.tables.exec = Jvm.exec) (hZ : Z.Warmed39 s.vm) {own C : String} {index count : Nat} {xi y : MethodName} (hown : s.vm.findClass own = some m.cls)
    (w1 : (Jvm.Cond.methodLink own index xi).before a0 Z = true) (w2 : (Jvm.Cond.declares xi).before a0 Z = true) (w3 : (Jvm.Cond.interfaceMethod xi.cls xi.cls xi.name xi.desc).before a0 Z = true) (w4 : (Jvm.Cond.selects C xi y).before a0 Z = true) (w5 : (Jvm.Cond.instanceMethod y).before a0 Z = true) (w6 : (Jvm.Cond.publicMethod y).before a0 Z = true) (w7 : (Jvm.Cond.unhidden C xi.name xi.desc).before a0 Z = true) (w8 : (Jvm.Cond.castable C xi.cls).before a0 Z = true) (hy : xi.cls ≠ "java/lang/invoke/MethodHandle" ∧ xi.cls ≠ "java/lang/invoke/VarHandle")
    {W : Nat} {as : Array Value} (K : own_BK l R p e below s args y 5 W as h k j Q) (eT : T.heap = h) {a : Addr} (E : Exa Z h a C) {pc : Nat} {Ls : Array Slot} (hsize : Ls.size = c.maxLocals) {argsL rest st : List Value} (has : (Value.ref a :: argsL).toArray = as) (hlen : ∀ sig, parseMethodDescriptor xi.desc = some sig → argsL.length = sig.parameters.length) (hs : st = argsL.reverse ++ .ref a :: rest) (hW : (rest.map fun v => v.category).sum ≤ W)
    (hd : decode c.code pc = .ok (.invokeinterface index count, 5)) (hk : cells + k ≤ R.cells) (hj : slots + j ≤ R.slots) :
    ∃ (v : Option Value) (T' : State) (h' : Heap) (L : List Loc), Stand p l e R s m args below meth c T' (locs ++ L) (cells + k) (slots + j) ∧ T'.heap = h' ∧ Q v h' L ∧ ∀ t, Steps p.tables e below (T'.setTop (mkF m (pc + 5) Ls (v.toList ++ rest))) t → Steps p.tables e below (T.setTop (mkF m pc Ls st)) t := by
  subst hs
  obtain ⟨cq, kq, qa, qb, qc⟩ := isOf hZ eT E
  obtain ⟨v, vm₁, ⟨T', L', k', n'⟩, -, X', ⟨L, hQ, hl, hy', hz⟩, stp⟩ := X.interfaceBack hx (xi := xi) (y := y) hown (mvT hZ w1) (mvT hZ w2) (mvT hZ w3 (by simp [Cond.onTables, Cond.keepsFace, Cond.keeps, Cond.steady, Cond.faceAtom, hy.1, hy.2])) (mvT hZ w4) (mvT hZ w5) (mvT hZ w6) (mvT hZ w7) (mvT hZ w8) hy K qa qb qc (g := mkF m pc Ls (argsL.reverse ++ .ref a :: rest)) rfl hsize (Steps.refl _) (argsL := argsL) (rest := rest) hlen rfl (by show 2 * 0 + _ ≤ _; rw [Nat.mul_zero, Nat.zero_add]; exact hW) hd (fun _ _ => ⟨has, eT, hk, hj⟩)
  dsimp only [Pt.U, Pt.locs, Pt.cells, Pt.slots] at X' hQ hl hy' hz stp
  subst hl hy' hz
  exact ⟨v, T', _, L, X', rfl, hQ, fun t => stp.trans⟩
end OwnWalk
end Jvm.Pilot.@@N@@
namespace Jvm.Pilot.@@N@@
open Jvm Jvm.ClassFile Sem Op Lib Jvm.Free Jvm.Stand Jvm.LawKit Jvm.RoadKit Bundle Jvm.Pilot.@@N@@.Jvm.D
abbrev own_OE : String := "com/example/zonegrant/zonegrant/service/OAuthException"
/-- the sheet's words on Throwable: the library's list without the one that this sheet lacks -/
abbrev own_TW : List Jvm.Cond := (Jvm.Free.Exc.excAtoms own_OE).filter fun d => decide (d ≠ .lays tN tN "suppressedExceptions" listD)
theorem own_tw {Z : State} {a0 : Array Value} (hw : ∀ d ∈ tables_1, d.before a0 Z = true) : ∀ d ∈ own_TW, d.before a0 Z = true := fun d hd => hw d ((by decide +kernel : ∀ d ∈ own_TW, d ∈ tables_1) d hd)
theorem own_twAt {Z s : State} {a0 args : Array Value} (hT : ThS Z s.heap) (hZ : Z.Warmed39 s.vm) (hw : ∀ d ∈ tables_1, d.before a0 Z = true) : ∀ d ∈ own_TW, d.before args s = true :=
  fun d hd => mvX hT hZ (List.all_eq_true.mp exc_ok d (List.mem_filter.mp hd).1) (own_tw hw d hd)
theorem own_pars {d : String} {sg : MethodDescriptor} {ps : List FieldType} (h : parseMethodDescriptor d = some sg) (e : (parseMethodDescriptor d).map (·.parameters) = some ps) : sg.parameters = ps := by
  rw [h] at e; exact Option.some.inj e
/-- Throwable's tables, put together out of the words; what is asked of suppressedExceptions comes by the subclass's own word -/
theorem own_thr {args : Array Value} {s : State} {pl : Platform} (howns : pl.frameOwnsMonitors = true) (hfin : pl.finalization = false) (hpl : pl.magicAccessors = ({} : Platform).magicAccessors) (W : ∀ d ∈ own_TW, d.before args s = true) :
    ∃ T : ThrowableC, T.Links pl s ∧ s.vm.findClass tN = some T.cT ∧ s.methodNamed? tFill = some T.fill ∧ s.methodNamed? tFill0 = some T.fill0 ∧ s.fieldFound? tN "stackTrace" steD = some (T.cT, T.kT, T.i17, T.fStack) ∧
      s.fieldFound? tN "UNASSIGNED_STACK" steD = some (T.cT, T.kT, T.i13, T.fUnassigned) ∧ T.fStack.type = .array (.object "java/lang/StackTraceElement") := by
  have at_ : ∀ d, d ∈ own_TW → d.holds args s none s [] = true := W
  -- the class
  obtain ⟨⟨cT, jN⟩, mN, nN, gN, isN, noC, noL, sgN⟩ := Cond.native_spec (at_ (.native tFill0) (by decide +kernel))
  have fc : s.vm.findClass tN = some cT := findClass_of_methodNamed nN
  obtain ⟨kT, ck, cn⟩ := Vm.findClass_spec fc
  obtain ⟨_, kT', _, _, ck', _, _, _, _, nif⟩ := Cond.superclass_spec fc (at_ (.superclass tN "java/lang/Object") (by decide +kernel))
  obtain rfl : kT = kT' := Option.some.inj (ck.symm.trans ck')
  -- its methods
  obtain ⟨jF, mF, nF, gF, aF, sF, bF, -, -⟩ := Cond.ownMethod (x := tFill) fc ck (at_ (.instanceMethod tFill) (by decide +kernel))
  obtain ⟨mF', cF, gF', kF, yF, lF, rF, loF, -, sgF⟩ := Cond.codeSync_spec nF (at_ (.codeSync tFill Jvm.LibCode.Throwable.Fill.code 1 (some (.object tN))) (by decide +kernel))
  obtain rfl : mF = mF' := Option.some.inj (gF.symm.trans gF')
  obtain ⟨jN', mN', nN', gN', aN, sN, bN, nmN, dsN⟩ := Cond.ownMethod (x := tFill0) fc ck (at_ (.instanceMethod tFill0) (by decide +kernel))
  cases Option.some.inj (nN.symm.trans nN')
  obtain rfl : mN = mN' := Option.some.inj (gN.symm.trans gN')
  obtain ⟨iO, mO, nO, gO, sO, bO⟩ := Cond.instanceMethod_spec (at_ (.instanceMethod oInit) (by decide +kernel))
  obtain ⟨mO', cO, gO', kO, yO, -, -, loO, -, sgO⟩ := Cond.code_spec nO (at_ (.code oInit object_method_1_code 1 none) (by decide +kernel))
  obtain rfl : mO = mO' := Option.some.inj (gO.symm.trans gO')
  obtain ⟨kOb, ckO, cnO⟩ := Vm.findClass_spec (findClass_of_methodNamed nO)
  obtain ⟨nmO, dsO⟩ := name_of_methodNamed nO gO
  -- its links
  obtain ⟨z1, y1, cf, l1, r1, f1, p1⟩ := Cond.linkedMethod fc ck nO (at_ (.methodLink tN 1 oInit) (by decide +kernel)) pl hpl
  obtain ⟨z2, y2, cf2, l2, r2, f2, p2⟩ := Cond.linkedMethod fc ck nF (at_ (.methodLink tN 27 tFill) (by decide +kernel)) pl hpl
  obtain ⟨z3, y3, cf3, l3, r3, f3, p3⟩ := Cond.linkedMethod fc ck nN (at_ (.methodLink tN 202 tFill0) (by decide +kernel)) pl hpl
  obtain rfl : cf = cf2 := Option.some.inj (f1.symm.trans f2)
  obtain rfl : cf = cf3 := Option.some.inj (f1.symm.trans f3)
  -- its fields, each by the word on the subclass
  obtain ⟨zC, iC, fC, lC, rC, aC, sC, nfC, -, -, -⟩ := Cond.ownField (C' := own_OE) (t := .object tN) fc ck (by decide +kernel) (at_ (.fieldLink tN 7 tN "cause" "Ljava/lang/Throwable;") (by decide +kernel)) (at_ (.lays own_OE tN "cause" "Ljava/lang/Throwable;") (by decide +kernel)) pl hpl
  obtain ⟨zS, iS, fS, lS, rS, aS, sS, nfS, nmS, tyS, ffS⟩ := Cond.ownField (C' := own_OE) (t := .array (.object "java/lang/StackTraceElement")) fc ck (by decide +kernel) (at_ (.fieldLink tN 17 tN "stackTrace" steD) (by decide +kernel)) (at_ (.lays own_OE tN "stackTrace" steD) (by decide +kernel)) pl hpl
  obtain ⟨zP, iP, fP, lP, rP, aP, sP, nfP, nmP, -, ffP⟩ := Cond.ownField (C' := own_OE) (t := .object "java/util/List") fc ck (by decide +kernel) (at_ (.fieldLink tN 24 tN "suppressedExceptions" listD) (by decide +kernel)) (at_ (.lays own_OE tN "suppressedExceptions" listD) (by decide +kernel)) pl hpl
  obtain ⟨zU, iU, fU, sa, sc, lU, rU, aU, sU, -, -, st, -, -, -, -, ffU⟩ := Cond.ownStatic (t := .array (.object "java/lang/StackTraceElement")) fc ck (by decide +kernel) (at_ (.fieldLink tN 13 tN "UNASSIGNED_STACK" steD) (by decide +kernel)) (at_ (.laysStatic tN "UNASSIGNED_STACK" steD) (by decide +kernel)) pl hpl
  obtain ⟨zE, iE, fE, _, _, lE, rE, aE, sE, -, -, -, -, -, -, -, -⟩ := Cond.ownStatic (t := .object "java/util/List") fc ck (by decide +kernel) (at_ (.fieldLink tN 20 tN "SUPPRESSED_SENTINEL" listD) (by decide +kernel)) (at_ (.laysStatic tN "SUPPRESSED_SENTINEL" listD) (by decide +kernel)) pl hpl
  obtain ⟨cX, kX, _, _, _, fM, fcX, ckX, _, sM, nfM, _⟩ := Cond.lays_spec (at_ (.lays own_OE tN "detailMessage" "Ljava/lang/String;") (by decide +kernel))
  obtain ⟨-, dS, eS1, eS2⟩ := Cond.laysAt fcX ckX ffS (at_ (.lays own_OE tN "stackTrace" steD) (by decide +kernel))
  obtain ⟨-, dP, eP1, eP2⟩ := Cond.laysAt fcX ckX ffP (at_ (.lays own_OE tN "suppressedExceptions" listD) (by decide +kernel))
  have apart := Cond.laysApart eS1 eP1 eS2 eP2 (by rw [nmS, nmP]; decide)
  refine ⟨{ cT := cT, kT := kT, cO := cT, aS := sa, fillIdx := jF, fill0Idx := jN, initSIdx := jF, obj := iO, kObj := kOb, methFill := mF, methFill0 := mN, methInitS := mF, methObj := mO, codeFill := cF, codeInitS := cF, codeObj := cO, fBack := fC, fDepth := fC, fStack := fS, fCause := fC, fSupp := fP, fMsg := fM, fUnassigned := fU, fSentinel := fE, cfT := cf, ci1 := z1, n1 := y1, ci27 := z2, n27 := y2, ci202 := z3, n202 := y3, ci7 := zC, i7 := iC, ci13 := zU, i13 := iU, ci17 := zS, i17 := iS, ci20 := zE, i20 := iE, ci24 := zP, i24 := iP }, ?_, fc, nF, nN, ffS, ffU, tyS⟩
  constructor
  case owns => exact howns
  case noFinalization => exact hfin
  case initialized => exact Cond.initialized_spec fc ck (at_ (.initialized tN) (by decide +kernel))
  case boot => exact Vm.findClass_boot fc ck
  case fillParams => exact own_pars sgF (by decide +kernel)
  case fill0Params => exact own_pars sgN (by decide +kernel)
  case objParams => rw [own_pars (ps := []) sgO (by decide +kernel)]; rfl
  case objFound => rw [dsO]; exact lookupSpecial_of_named nO gO sO
  case objBytes => exact yO
  all_goals assumption
variable {p : Program} {l : Launch} {e : Env} {R : Room} {s : State} {m : MethodId} {args : Array Value} {below : List Frame} {meth : Method} {c : Code} {T : State} {locs : List Loc} {cells slots : Nat} {Z : State} {a0 : Array Value} {h : Heap}
theorem own_slot (hZ : Z.Warmed39 s.vm) {C n d : String} {c i : Nat} {k : Class} {f : Field} (hf : s.fieldFound? C n d = some (c, k, i, f)) : Jvm.RoadKit.slotOf Z C n d = f.slot := by
  obtain ⟨_, _, _, q⟩ := Jvm.Free.BdW.found_ride (U := s) (U' := Z) hZ.alike.symm ⟨_, _, _, hf⟩
  simp [Jvm.RoadKit.slotOf, q]
/-- fillInStackTrace() on a fresh exception, inside Throwable's constructor: only that object changes, in three of its slots -/
theorem own_fill (X : Stand p l e R s m args below meth c T locs cells slots) (hx : p.tables.exec = Jvm.exec) (hl : l.stackTraces = true) (hZ : Z.Warmed39 s.vm) (hown : s.vm.findClass tN = some m.cls) (hw : ∀ d ∈ tables_1, d.before a0 Z = true) {nI : Nat} (wi : (Jvm.Cond.instantiable own_OE nI).before a0 Z = true)
    (hT0 : ThS Z s.heap) (hTK : s.vm.MethodsKnown) (hBelow : s.vm.FramesKnown below) (eT : T.heap = h) (hsz : h.size = s.heap.size) {a : Addr} (hlocs : ∀ y ∈ locs, y.base = a) (K0 : Keep s.heap h [a]) (E : Exa Z h a own_OE) (N : Unt h a) (B : Fld Z h a tN "backtrace" Jvm.Free.Exc.obD .null)
    {u : Value} (hu : u.isRef = true) (S : Fld Z h a tN "stackTrace" steD u) (U : Sta Z h tN "UNASSIGNED_STACK" steD u) {pc W : Nat} {Ls : Array Slot} {rest : List Value} (hsize : Ls.size = c.maxLocals) (hW : (rest.map fun v => v.category).sum ≤ W) (hd : decode c.code pc = .ok (.invokevirtual 27, 3))
    (hf : 3 ≤ R.frames) (hlo : W + 42 ≤ R.locals) (hc : cells + 1 ≤ R.cells) (hsl : slots + 2752 ≤ R.slots) :
    ∃ (T' : State) (h' : Heap) (L : List Loc), Stand p l e R s m args below meth c T' (locs ++ L) (cells + 1) (slots + 2752) ∧ T'.heap = h' ∧ (∀ y ∈ L, y.base = a) ∧ Keep h h' [a] ∧ Exa Z h' a own_OE ∧
      (∀ O n d v, Fld Z h a O n d v → Jvm.RoadKit.slotOf Z O n d ≠ Jvm.RoadKit.slotOf Z tN "backtrace" Jvm.Free.Exc.obD → Jvm.RoadKit.slotOf Z O n d ≠ Jvm.RoadKit.slotOf Z tN "depth" "I" → Jvm.RoadKit.slotOf Z O n d ≠ Jvm.RoadKit.slotOf Z tN "stackTrace" steD → Fld Z h' a O n d v) ∧
      ∀ t, Steps p.tables e below (T'.setTop (mkF m (pc + 3) Ls (.ref a :: rest))) t → Steps p.tables e below (T.setTop (mkF m pc Ls (.ref a :: rest))) t := by
  have Wd := own_twAt (args := args) hT0 hZ hw
  have at_ : ∀ d, d ∈ own_TW → d.holds args s none s [] = true := Wd
  have hpm : e.platform.magicAccessors = ({} : Platform).magicAccessors := by rw [X.admits.platform]
  obtain ⟨Th, L, t1, t2, t3, t4, t5, t6⟩ := own_thr (pl := e.platform) (by rw [X.admits.platform]) (by rw [X.admits.platform]) hpm Wd
  obtain ⟨cell, kZ, c1, c2, c3, c4, c5⟩ := id E
  obtain ⟨cell', n1, n2, n3⟩ := N
  cases Option.some.inj (c1.symm.trans n1)
  have fX : s.vm.findClass own_OE = some cell.cls := (hZ.alike.findClass _ _).trans c2
  obtain ⟨cX, kX, g1, g2, g3, -, -, g6⟩ := Cond.instantiable_spec (show (Jvm.Cond.instantiable own_OE nI).holds args s none s [] = true from mvT hZ wi)
  cases Option.some.inj (g1.symm.trans fX)
  obtain ⟨cZ, kZ', w1, w2, w3, -, -, w6⟩ := Cond.instantiable_spec (show (Jvm.Cond.instantiable own_OE nI).holds a0 Z none Z [] = true from wi)
  cases Option.some.inj (w1.symm.trans c2)
  cases Option.some.inj (w2.symm.trans c3)
  have csz : cell.slots.size = kX.instanceTypes.size := by rw [c5 w3, w6, g6]
  have tk : ∀ {f : Field} {v : Value}, kX.instanceTypes[f.slot]? = some f.type → fits f.type v = true → Jvm.Takes s cell f v := fun {f v} h1 h2 => by
    obtain ⟨q1, q2⟩ := Takes.of_laid (v := v) g2 g3 h1 h2
    exact ⟨by rw [csz]; exact (Array.getElem?_eq_some_iff.mp h1).1, by rw [n2]; exact q2⟩
  -- backtrace and depth
  obtain ⟨zB, iB, fB, lB, rB, aB, sB, -, nB, tB, ffB⟩ := Cond.ownField (C' := own_OE) (t := .object "java/lang/Object") t1 L.cls (by decide +kernel) (at_ (.fieldLink tN 198 tN "backtrace" Jvm.Free.Exc.obD) (by decide +kernel)) (at_ (.lays own_OE tN "backtrace" Jvm.Free.Exc.obD) (by decide +kernel)) e.platform hpm
  obtain ⟨_, _, cD, kD, iD, fD, _, _, ffD, sD, _⟩ := Cond.lays_spec (at_ (.lays own_OE tN "depth" "I") (by decide +kernel))
  cases Option.some.inj ((Cond.lays_declared (at_ (.lays own_OE tN "depth" "I") (by decide +kernel)) ffD).symm.trans t1)
  obtain ⟨ckD, aD⟩ := State.fieldFound?_spec ffD
  cases Option.some.inj (ckD.symm.trans L.cls)
  obtain ⟨nD, tD⟩ := State.fieldFound?_type ffD (t := .int) (by decide +kernel)
  have hfb := Cond.soleField_find t1 L.cls (at_ (.soleField tN "backtrace") (by decide +kernel)) aB nB sB
  have hfd := Cond.soleField_find t1 L.cls (at_ (.soleField tN "depth") (by decide +kernel)) aD nD sD
  obtain ⟨comp, cO, kO, -, -, ckO, kdO, fcO⟩ := Cond.arrayOver_spec (at_ (.arrayOver (.object "java/lang/Object")) (by decide +kernel))
  obtain ⟨iyS, -⟩ := Cond.laysAt fX g2 t4 (at_ (.lays own_OE tN "stackTrace" steD) (by decide +kernel))
  obtain ⟨iyB, -⟩ := Cond.laysAt fX g2 ffB (at_ (.lays own_OE tN "backtrace" Jvm.Free.Exc.obD) (by decide +kernel))
  obtain ⟨iyD, -⟩ := Cond.laysAt fX g2 ffD (at_ (.lays own_OE tN "depth" "I") (by decide +kernel))
  -- what the cells hold
  have slS := own_slot hZ t4
  have slB := own_slot hZ ffB
  have slD := own_slot hZ ffD
  have vS : cell.slots[Th.fStack.slot]? = some u := by
    obtain ⟨cl2, _, _, _, f2, q1, q2, -, -, -, -, q7⟩ := S
    cases Option.some.inj (q1.symm.trans c1)
    rw [← slS]; simpa [Jvm.RoadKit.slotOf, q2] using q7
  have vB : cell.slots[fB.slot]? = some .null := by
    obtain ⟨cl2, _, _, _, f2, q1, q2, -, -, -, -, q7⟩ := B
    cases Option.some.inj (q1.symm.trans c1)
    rw [← slB]; simpa [Jvm.RoadKit.slotOf, q2] using q7
  obtain ⟨cf1, i1, k1, f1, st1, cellS, u1, u2, u3, u4, u5, u6, u7⟩ := U
  obtain ⟨k1', u8, u9⟩ := State.fieldFound?_setVm (s := Z) hZ.alike u1
  have u8' : s.fieldFound? tN "UNASSIGNED_STACK" steD = some (cf1, k1', i1, f1) := u8
  have e9 := Option.some.inj (u8'.symm.trans t5)
  simp only [Prod.mk.injEq] at e9
  obtain ⟨-, e92, -, e94⟩ := e9
  have stA : Th.aS = st1 := by
    have q : k1'.statics = some st1 := by rw [u9]; exact u4
    rw [e92, L.statics] at q; exact Option.some.inj q
  have hsel0 : selectMethod e.platform s.vm cell.cls Th.fill0 = .method Th.fill0 := by
    obtain ⟨c9, r9, m9, q1, q2, q3, q4, -⟩ := Cond.selects_spec (at_ (.selects own_OE tFill0 tFill0) (by decide +kernel))
    cases Option.some.inj (q1.symm.trans fX)
    cases Option.some.inj (q2.symm.trans (State.methodFound?_of_named t3 (by decide)))
    cases Option.some.inj (q3.symm.trans t3)
    rw [Launch.admits_selectMethod X.admits]; exact q4
  have hne : Th.aS ≠ a := fun z => by
    rw [stA] at z; subst z
    cases Option.some.inj (u5.symm.trans c1)
    rw [c4] at u6; cases u6
  have sel := at_ (.selects own_OE tFill tFill) (by decide +kernel)
  obtain ⟨v6, vm6, ⟨T6, L6, k6, j6⟩, -, X6, ⟨hv, C, n, hn, hC, b1, b2, b3, b4, hL, hk, hj⟩, stp⟩ := X.virtualBack hx (own := tN) (C := own_OE) (index := 27) (y := tFill) (z := tFill) hown (at_ (.methodLink tN 27 tFill) (by decide +kernel)) (at_ (.declares tFill) (by decide +kernel)) (notFace_of_selects sel) sel (at_ (.instanceMethod tFill) (by decide +kernel)) (by decide)
    (Jvm.Free.Exc.fillPaysAny (l := l) (W := W) hx (by rw [X.admits.platform]; exact hl) Th L t2 (u0 := ⟨u, hu⟩) (self := a) (cell := cell) (cellS := cellS) (fun _ => by rw [n2]; simp) (by rw [n2]; simp) (by rw [n3]) (by rw [n3]) vS hsel0 hne (by intro z; rw [z] at u6; cases u6) (by rw [← e94]; exact u7) (tk iyS (by rw [t6]; exact fits_refV_array _ ⟨u, hu⟩))
      ⟨{ ci198 := zB, i198 := iB, fBack := fB }, ⟨lB, rB, aB, sB⟩, vB⟩ hTK hBelow t1 fcO ckO kdO hfb hfd (fun x => tk iyB (by rw [tB]; rfl)) (fun x => tk iyD (by rw [tD]; rfl)) hf hlo)
    (b := a) (cB := cell.cls) fX ⟨cell, by rw [eT]; exact c1, rfl, c4⟩ (g := mkF m pc Ls (.ref a :: rest)) rfl hsize (Steps.refl _) (argsL := []) (rest := rest)
    (fun sig q => by rw [show parseMethodDescriptor tFill.desc = some ⟨[], some (.object tN)⟩ from by decide +kernel] at q; rw [← Option.some.inj q]; rfl) rfl (by show 2 * 0 + _ ≤ _; rw [Nat.mul_zero, Nat.zero_add]; exact hW) hd
    (fun _ _ => ⟨rfl, hc, hsl, by rw [← c1, ← eT]; rfl, by rw [stA, ← u5, ← eT]; rfl⟩)
  dsimp only [Pt.U, Pt.locs, Pt.cells, Pt.slots] at X6 hC hL hk hj stp
  subst hv hL hk hj
  obtain ⟨-, z2, -, -, -, z6⟩ := X6.same
  have oth : ∀ (y : Addr) (cy : Cell), h[y]? = some cy → y ≠ a → T6.heap[y]? = some cy := fun y cy hy ne => by
    have lty : y < s.heap.size := by rw [← hsz]; exact (Array.getElem?_eq_some_iff.mp hy).1
    have q0 : h[y]? = some s.heap[y] := K0.2.1 y _ (Array.getElem?_eq_getElem lty) (by simpa using ne)
    cases Option.some.inj (hy.symm.trans q0)
    obtain ⟨c', y1, y2, y3, y4⟩ := z6 y _ (Array.getElem?_eq_getElem lty)
    have : c'.slots = (s.heap[y]).slots := Array.ext_getElem? fun i => y4 i fun hm => by
      rcases List.mem_append.mp hm with hm | hm
      · exact ne (hlocs _ hm)
      · simp at hm; rcases hm with hm | hm | hm <;> exact ne hm.1
    rw [y2, this] at y1; exact y1
  refine ⟨T6, _, _, X6.more (Nat.le_refl _) (Nat.add_le_add_left hn _), rfl, ?_, ⟨?_, ?_, ?_⟩, ?_, ?_, fun t => stp.trans⟩
  · intro y hy; simp only [List.mem_cons, List.not_mem_nil, or_false] at hy; rcases hy with rfl | rfl | rfl <;> rfl
  · rw [hsz]; exact z2
  · intro y cy hy ny; exact oth y cy hy (by simpa using ny)
  · intro y cy hy
    by_cases q : y = a
    · subst q; cases Option.some.inj (hy.symm.trans c1); exact ⟨C, hC, b1, b2, b3⟩
    · exact ⟨cy, oth y cy hy q, rfl, rfl, rfl⟩
  · exact ⟨C, _, hC, by rw [b1]; exact c2, by rw [b1]; exact c3, by rw [b2]; exact c4, fun q => by rw [b3]; exact c5 q⟩
  · intro O n d v F q1 q2 q3
    obtain ⟨cl2, cf2, kf2, i2, f2, y1, y2, y3, y4, y5, y6, y7⟩ := F
    cases Option.some.inj (y1.symm.trans c1)
    have sl : Jvm.RoadKit.slotOf Z O n d = f2.slot := by simp [Jvm.RoadKit.slotOf, y2]
    rw [sl] at q1 q2 q3; rw [slB] at q1; rw [slD] at q2; rw [slS] at q3
    exact ⟨C, cf2, kf2, i2, f2, hC, y2, y3, by rw [b2]; exact y4, by rw [b2]; exact y5, by rw [b1]; exact y6, by rw [b4 _ q1 q2 q3]; exact y7⟩
end Jvm.Pilot.@@N@@
/- laws to paste: Road.backV (cut by pick.py; bodies as the Statement names them) -/
namespace Jvm.Pilot.@@N@@
namespace StrChars
open Jvm Sem ClassFile Op Lib Jvm.Stand Jvm.Free.XT Jvm.Free.ALB Jvm.Free.JM Jvm.Free
open Jvm.Lib.Cold (StaticIs)
/-- a char array whose places are chars -/
def Ch (a : Addr) (A : Cell) (U : State) : Prop := Arr .char a A U ∧ Typed .char A
theorem Ch.mv {a : Addr} {A : Cell} {U U' : State} (h : Ch a A U) (hal : U.vm.Alike U'.vm) (hh : U'.heap = U.heap) : Ch a A U' := ⟨h.1.mv hal hh, h.2⟩
theorem Ch.keep {a : Addr} {A : Cell} {U U' : State} (h : Ch a A U) (hal : U.vm.Alike U'.vm) (hk : U'.heap[a]? = some A) : Ch a A U' := ⟨h.1.keep hal hk, h.2⟩
/-- what place i of a char[]'s cell holds -/
def cv (A : Cell) (i : Nat) : Int32 := match A.slots[i]? with | some (.int x) => x | _ => 0
theorem Ch.get {a : Addr} {A : Cell} {U : State} (h : Ch a A U) {i : Nat} (hi : i < A.slots.size) : A.slots[i]? = some (.int (cv A i)) := by
  have e := Array.getElem?_eq_getElem hi
  have f := h.2 i _ e
  unfold cv; rw [e]
  generalize A.slots[i] = v at f
  cases v <;> simp [fits] at f ⊢
/-- the byte that i2b leaves of a char -/
def lo8 (x : Int32) : Int32 := x.toInt8.toInt32
theorem fits_lo8 (y : Int32) : fits .byte (.int (lo8 y)) = true := by
  have h1 := y.toInt8.le_toInt
  have h2 := y.toInt8.toInt_lt
  simp only [lo8, fits, Bool.and_eq_true, decide_eq_true_eq, Int32.le_iff_toInt_le, Int8.toInt_toInt32, show (-128 : Int32).toInt = -128 from by decide, show (127 : Int32).toInt = 127 from by decide]
  omega
/-- A' is A but that each place j of lo .. hi - 1 holds f j -/
def Laid (A A' : Cell) (lo hi : Nat) (f : Nat → Value) : Prop := A'.cls = A.cls ∧ A'.vm = A.vm ∧ A'.slots.size = A.slots.size ∧ ∀ i, A'.slots[i]? = if lo ≤ i ∧ i < hi then some (f i) else A.slots[i]?
theorem Laid.zero (A : Cell) (lo : Nat) (f : Nat → Value) : Laid A A lo (lo + 0) f := ⟨rfl, rfl, rfl, fun i => by rw [if_neg (by omega)]⟩
theorem Laid.step {A Ak : Cell} {lo k : Nat} {f : Nat → Value} {v : Value} (h : Laid A Ak lo k f) (hlo : lo ≤ k) (hk : k < Ak.slots.size) (hv : v = f k) : Laid A (Ak.setSlot k v) lo (k + 1) f := by
  refine ⟨h.1, h.2.1, by simpa [Cell.setSlot] using h.2.2.1, fun i => ?_⟩
  by_cases e : k = i
  · subst e; rw [Cell.slots_setSlot_self v hk, if_pos (by omega), hv]
  · rw [Cell.slots_setSlot_ne v e, h.2.2.2 i]
    by_cases q : lo ≤ i ∧ i < k
    · rw [if_pos q, if_pos (by omega)]
    · rw [if_neg q, if_neg (by omega)]
def U16 : String := "java/lang/StringUTF16"
namespace Cmp5
def yN : MethodName := ⟨"java/lang/StringUTF16", "compress", "([CI[BII)I"⟩
abbrev yB : ByteArray := jdk_52_method_21_code
theorem d0 : decode yB 0 = .ok (.iconst 0, 1) := by decide +kernel
theorem d1 : decode yB 1 = .ok (.istore 5, 2) := by decide +kernel
theorem d3 : decode yB 3 = .ok (.iload 5, 2) := by decide +kernel
theorem d5 : decode yB 5 = .ok (.iload 4, 2) := by decide +kernel
theorem d7 : decode yB 7 = .ok (.if_icmp (.ge) 37, 3) := by decide +kernel
theorem d10 : decode yB 10 = .ok (.aload_n 0, 1) := by decide +kernel
theorem d11 : decode yB 11 = .ok (.iload_n 1, 1) := by decide +kernel
theorem d12 : decode yB 12 = .ok (.caload, 1) := by decide +kernel
theorem d13 : decode yB 13 = .ok (.istore 6, 2) := by decide +kernel
theorem d15 : decode yB 15 = .ok (.iload 6, 2) := by decide +kernel
theorem d17 : decode yB 17 = .ok (.sipush 255, 3) := by decide +kernel
theorem d20 : decode yB 20 = .ok (.if_icmp (.le) 6, 3) := by decide +kernel
theorem d26 : decode yB 26 = .ok (.aload_n 2, 1) := by decide +kernel
theorem d27 : decode yB 27 = .ok (.iload_n 3, 1) := by decide +kernel
theorem d28 : decode yB 28 = .ok (.iload 6, 2) := by decide +kernel
theorem d30 : decode yB 30 = .ok (.i2b, 1) := by decide +kernel
theorem d31 : decode yB 31 = .ok (.bastore, 1) := by decide +kernel
theorem d32 : decode yB 32 = .ok (.iinc 1 1, 3) := by decide +kernel
theorem d35 : decode yB 35 = .ok (.iinc 3 1, 3) := by decide +kernel
theorem d38 : decode yB 38 = .ok (.iinc 5 1, 3) := by decide +kernel
theorem d41 : decode yB 41 = .ok (.goto (-38), 3) := by decide +kernel
theorem d44 : decode yB 44 = .ok (.iload 4, 2) := by decide +kernel
theorem d46 : decode yB 46 = .ok (.ireturn, 1) := by decide +kernel
def site : List Cond := []
def tab : Cond := tabOf yN yB 7 (some .int) site
def P (b : Addr) (A : Cell) (d : Addr) (B : Cell) (o q len : Nat) (args : Array Value) (s : State) : Prop := args = #[.ref b, .int (Int32.ofNat o), .ref d, .int (Int32.ofNat q), .int (Int32.ofNat len)] ∧ Ch b A s ∧ Arr .byte d B s ∧ b ≠ d ∧ o + len ≤ A.slots.size ∧ q + len ≤ B.slots.size ∧ ∀ i, i < len → ¬ 255 < cv A (o + i)
def E (b : Addr) (A : Cell) (d : Addr) (B : Cell) (o q len : Nat) (r : Option Value) (s u : State) : Prop := r = some (.int (Int32.ofNat len)) ∧ ∃ B', Put d B' s u ∧ Laid B B' q (q + len) (fun j => Value.int (lo8 (cv A (o + (j - q)))))
/-- no char of the range above 255: len; the places written hold each char's low byte -/
theorem law (l : Launch) (b : Addr) (A : Cell) (d : Addr) (B : Cell) (o q len : Nat) : Law l yN 5 5 0 0 yB 7 (some .int) site (P b A d B o q len) (E b A d B o q len) (copyLocs d q len) 0 0 := by
  refine Law.of_walk (plainFor_of_name (by decide +kernel)) (by decide +kernel) (by decide +kernel) (by decide) (fun _ _ h => by rw [h.1]; rfl) (fun _ U U' hal hh h => ⟨h.1, h.2.1.mv hal hh, h.2.2.1.mv hal hh, h.2.2.2⟩) (fun r U U' V V' h1 hal h2 h => ⟨h.1, h.2.elim fun B' q => ⟨B', q.1.mv h1 h2, q.2⟩⟩) ?_
  intro p e s m args below meth c s₁ X0 hexec hbytes hml hret hlk hnm hown hh0 W hP
  obtain ⟨rfl, hA, hB, hne, l1, l2, hp⟩ := hP
  have c1 : Steps p.tables e below (s₁.setTop (entryFrame m #[.ref b, .int (Int32.ofNat o), .ref d, .int (Int32.ofNat q), .int (Int32.ofNat len)] 7)) (s₁.setTop (mkF m 0 #[.val (.ref b), .val (.int (Int32.ofNat o)), .val (.ref d), .val (.int (Int32.ofNat q)), .val (.int (Int32.ofNat len)), .unset, .unset] [])) := entry rfl
  have hA0 := hA.1.mv X0.warmed.alike hh0
  have hB0 := hB.mv X0.warmed.alike hh0
  have a31 := hA.1.2.2.2
  have c2 : Steps p.tables e below (s₁.setTop (entryFrame m #[.ref b, .int (Int32.ofNat o), .ref d, .int (Int32.ofNat q), .int (Int32.ofNat len)] 7)) (s₁.setTop (mkF m 3 #[.val (.ref b), .val (.int (Int32.ofNat o)), .val (.ref d), .val (.int (Int32.ofNat q)), .val (.int (Int32.ofNat len)), .val (.int 0), .unset] [])) := c1.trans (by
    refine iconstV X0.here hexec rfl 0 (hb hbytes d0) (by decide) ?_
    refine XS.istore X0.here hexec rfl (hb hbytes d1) rfl rfl ?_
    exact Steps.refl _)
  have loop : ∀ (r i : Nat), i + r = len → ∀ (z : Slot), (z = .unset ∨ ∃ w, z = .val w ∧ w.category = 1) → ∀ (Tl : State) (Bk : Cell), Stand p l e { frames := 0, locals := 0, cells := 0, slots := 0 } s m #[.ref b, .int (Int32.ofNat o), .ref d, .int (Int32.ofNat q), .int (Int32.ofNat len)] below meth c Tl ([] ++ copyLocs d q i) 0 0 → Put d Bk s₁ Tl → Laid B Bk q (q + i) (fun j => Value.int (lo8 (cv A (o + (j - q))))) →
      Steps p.tables e below (s₁.setTop (entryFrame m #[.ref b, .int (Int32.ofNat o), .ref d, .int (Int32.ofNat q), .int (Int32.ofNat len)] 7)) (Tl.setTop (mkF m 3 #[.val (.ref b), .val (.int (Int32.ofNat (o + i))), .val (.ref d), .val (.int (Int32.ofNat (q + i))), .val (.int (Int32.ofNat len)), .val (.int (Int32.ofNat i)), z] [])) → ∃ (T' : State) (B' : Cell) (z' : Slot), Stand p l e { frames := 0, locals := 0, cells := 0, slots := 0 } s m #[.ref b, .int (Int32.ofNat o), .ref d, .int (Int32.ofNat q), .int (Int32.ofNat len)] below meth c T' ([] ++ copyLocs d q len) 0 0 ∧ Put d B' s₁ T' ∧ Laid B B' q (q + len) (fun j => Value.int (lo8 (cv A (o + (j - q))))) ∧
      Steps p.tables e below (s₁.setTop (entryFrame m #[.ref b, .int (Int32.ofNat o), .ref d, .int (Int32.ofNat q), .int (Int32.ofNat len)] 7)) (T'.setTop (mkF m 3 #[.val (.ref b), .val (.int (Int32.ofNat (o + len))), .val (.ref d), .val (.int (Int32.ofNat (q + len))), .val (.int (Int32.ofNat len)), .val (.int (Int32.ofNat len)), z'] [])) := by
    intro r
    induction r with
    | zero =>
      intro i hi z hz Tl Bk Xl pl fl cl
      have hil : i = len := by omega
      rw [hil] at Xl fl cl
      exact ⟨Tl, Bk, z, Xl, pl, fl, cl⟩
    | succ r ih =>
      intro i hi z hz Tl Bk Xl pl fl cl
      have all := X0.warmed.alike.symm.trans Xl.warmed.alike
      have hAl := hA0.keep all (pl.other hne hA0.1)
      have hBk := hB0.like all pl.1 fl.1 fl.2.1 fl.2.2.1
      have hlt : q + i < Bk.slots.size := by rw [fl.2.2.1]; omega
      have c3 : Steps p.tables e below (s₁.setTop (entryFrame m #[.ref b, .int (Int32.ofNat o), .ref d, .int (Int32.ofNat q), .int (Int32.ofNat len)] 7)) (Tl.setTop (mkF m 12 #[.val (.ref b), .val (.int (Int32.ofNat (o + i))), .val (.ref d), .val (.int (Int32.ofNat (q + i))), .val (.int (Int32.ofNat len)), .val (.int (Int32.ofNat i)), z] [.int (Int32.ofNat (o + i)), .ref b])) := cl.trans (by
        refine XS.iload Xl.here hexec rfl (hb hbytes d3) rfl ?_
        refine XS.iload Xl.here hexec rfl (hb hbytes d5) rfl ?_
        refine XS.icmpNo Xl.here hexec rfl (hb hbytes d7) rfl (ii_ge_f (lt32 (by omega) (by omega))) ?_
        refine XS.aloadN Xl.here hexec rfl (hb hbytes d10) rfl rfl ?_
        refine XS.iloadN Xl.here hexec rfl (hb hbytes d11) rfl ?_
        exact Steps.refl _)
      have c4 : Steps p.tables e below (s₁.setTop (entryFrame m #[.ref b, .int (Int32.ofNat o), .ref d, .int (Int32.ofNat q), .int (Int32.ofNat len)] 7)) (Tl.setTop (mkF m 13 #[.val (.ref b), .val (.int (Int32.ofNat (o + i))), .val (.ref d), .val (.int (Int32.ofNat (q + i))), .val (.int (Int32.ofNat len)), .val (.int (Int32.ofNat i)), z] [.int (cv A (o + i))])) := c3.trans (by
        refine Xl.aget hexec hAl rfl (hA.get (i := o + i) (by omega)) rfl rfl (hb hbytes d12) ?_
        exact Steps.refl _)
      have c5 : Steps p.tables e below (s₁.setTop (entryFrame m #[.ref b, .int (Int32.ofNat o), .ref d, .int (Int32.ofNat q), .int (Int32.ofNat len)] 7)) (Tl.setTop (mkF m 15 #[.val (.ref b), .val (.int (Int32.ofNat (o + i))), .val (.ref d), .val (.int (Int32.ofNat (q + i))), .val (.int (Int32.ofNat len)), .val (.int (Int32.ofNat i)), .val (.int (cv A (o + i)))] [])) := c4.trans (by
        refine XS.istoreS Xl.here hexec rfl (hb hbytes d13) rfl rfl hz ?_
        exact Steps.refl _)
      have c6 : Steps p.tables e below (s₁.setTop (entryFrame m #[.ref b, .int (Int32.ofNat o), .ref d, .int (Int32.ofNat q), .int (Int32.ofNat len)] 7)) (Tl.setTop (mkF m 31 #[.val (.ref b), .val (.int (Int32.ofNat (o + i))), .val (.ref d), .val (.int (Int32.ofNat (q + i))), .val (.int (Int32.ofNat len)), .val (.int (Int32.ofNat i)), .val (.int (cv A (o + i)))] [.int (lo8 (cv A (o + i))), .int (Int32.ofNat (q + i)), .ref d])) := c5.trans (by
        refine XS.iload Xl.here hexec rfl (hb hbytes d15) rfl ?_
        refine sipushV Xl.here hexec rfl 255 (hb hbytes d17) (by decide) ?_
        refine XS.icmpYes Xl.here hexec rfl (pc0 := 20) rfl (hb hbytes d20) rfl (ii_le_t (hp i (by omega))) (by decide) rfl ?_
        refine XS.aloadN Xl.here hexec rfl (hb hbytes d26) rfl rfl ?_
        refine XS.iloadN Xl.here hexec rfl (hb hbytes d27) rfl ?_
        refine XS.iload Xl.here hexec rfl (hb hbytes d28) rfl ?_
        refine i2b Xl.here hexec rfl (hb hbytes d30) rfl ?_
        exact Steps.refl _)
      obtain ⟨T7, X7, p7, st7⟩ := Xl.aput hexec hBk rfl hlt rfl (fits_lo8 (cv A (o + i))) (g := (mkF m 31 #[.val (.ref b), .val (.int (Int32.ofNat (o + i))), .val (.ref d), .val (.int (Int32.ofNat (q + i))), .val (.int (Int32.ofNat len)), .val (.int (Int32.ofNat i)), .val (.int (cv A (o + i)))] [.int (lo8 (cv A (o + i))), .int (Int32.ofNat (q + i)), .ref d])) rfl (rest := []) rfl (hb hbytes d31)
      have c8 : Steps p.tables e below (s₁.setTop (entryFrame m #[.ref b, .int (Int32.ofNat o), .ref d, .int (Int32.ofNat q), .int (Int32.ofNat len)] 7)) (T7.setTop (mkF m 32 #[.val (.ref b), .val (.int (Int32.ofNat (o + i))), .val (.ref d), .val (.int (Int32.ofNat (q + i))), .val (.int (Int32.ofNat len)), .val (.int (Int32.ofNat i)), .val (.int (cv A (o + i)))] [])) := c6.trans (st7 _ (Steps.refl _))
      have c9 : Steps p.tables e below (s₁.setTop (entryFrame m #[.ref b, .int (Int32.ofNat o), .ref d, .int (Int32.ofNat q), .int (Int32.ofNat len)] 7)) (T7.setTop (mkF m 3 #[.val (.ref b), .val (.int (Int32.ofNat (o + i) + 1)), .val (.ref d), .val (.int (Int32.ofNat (q + i) + 1)), .val (.int (Int32.ofNat len)), .val (.int (Int32.ofNat i + 1)), .val (.int (cv A (o + i)))] [])) := c8.trans (by
        refine iincV X7.here hexec rfl 1 (hb hbytes d32) (by decide) rfl rfl ?_
        refine iincV X7.here hexec rfl 1 (hb hbytes d35) (by decide) rfl rfl ?_
        refine iincV X7.here hexec rfl 1 (hb hbytes d38) (by decide) rfl rfl ?_
        refine XS.goto X7.here hexec rfl (pc0 := 41) rfl (hb hbytes d41) (by decide) rfl ?_
        exact Steps.refl _)
      have c10 : Steps p.tables e below (s₁.setTop (entryFrame m #[.ref b, .int (Int32.ofNat o), .ref d, .int (Int32.ofNat q), .int (Int32.ofNat len)] 7)) (T7.setTop (mkF m 3 #[.val (.ref b), .val (.int (Int32.ofNat (o + (i + 1)))), .val (.ref d), .val (.int (Int32.ofNat (q + (i + 1)))), .val (.int (Int32.ofNat len)), .val (.int (Int32.ofNat (i + 1))), .val (.int (cv A (o + i)))] [])) := by
        have := c9
        rw [succ32, succ32, succ32] at this
        exact this
      exact ih (i + 1) (by omega) _ (Or.inr ⟨_, rfl, rfl⟩) T7 _ (by rw [copyLocs_step, ← List.append_assoc]; exact X7) (pl.trans p7) (fl.step (by omega) hlt (by simp)) c10
  obtain ⟨T9, B9, z9, X9, p9, f9, g9⟩ := loop len 0 (by omega) .unset (Or.inl rfl) s₁ B (by simpa [copyLocs] using X0) ⟨hB0.1, fun _ _ => rfl, rfl⟩ (Laid.zero _ _ _) c2
  have c11 : Steps p.tables e below (s₁.setTop (entryFrame m #[.ref b, .int (Int32.ofNat o), .ref d, .int (Int32.ofNat q), .int (Int32.ofNat len)] 7)) (T9.setTop (mkF m 46 #[.val (.ref b), .val (.int (Int32.ofNat (o + len))), .val (.ref d), .val (.int (Int32.ofNat (q + len))), .val (.int (Int32.ofNat len)), .val (.int (Int32.ofNat len)), z9] [.int (Int32.ofNat len)])) := g9.trans (by
    refine XS.iload X9.here hexec rfl (hb hbytes d3) rfl ?_
    refine XS.iload X9.here hexec rfl (hb hbytes d5) rfl ?_
    refine XS.icmpYes X9.here hexec rfl (pc0 := 7) rfl (hb hbytes d7) rfl (ii_ge_t (nlt32 (by omega) (Nat.le_refl _))) (by decide) rfl ?_
    refine XS.iload X9.here hexec rfl (hb hbytes d44) rfl ?_
    exact Steps.refl _)
  exact ⟨T9, some (.int (Int32.ofNat len)), _, _, _, X9, by simp, rfl, rfl, (fun h => by cases h), ⟨rfl, B9, p9.from hh0, f9⟩, fun fs hl => c11.trans (X9.ireturnOut hexec hret rfl (Or.inl rfl) (hb hbytes d46) hl)⟩
end Cmp5
namespace Cmp3
def yN : MethodName := ⟨"java/lang/StringUTF16", "compress", "([CII)[B"⟩
abbrev yB : ByteArray := jdk_52_method_16_code
theorem d0 : decode yB 0 = .ok (.iload_n 2, 1) := by decide +kernel
theorem d1 : decode yB 1 = .ok (.newarray .byte, 2) := by decide +kernel
theorem d3 : decode yB 3 = .ok (.astore_n 3, 1) := by decide +kernel
theorem d4 : decode yB 4 = .ok (.aload_n 0, 1) := by decide +kernel
theorem d5 : decode yB 5 = .ok (.iload_n 1, 1) := by decide +kernel
theorem d6 : decode yB 6 = .ok (.aload_n 3, 1) := by decide +kernel
theorem d7 : decode yB 7 = .ok (.iconst 0, 1) := by decide +kernel
theorem d8 : decode yB 8 = .ok (.iload_n 2, 1) := by decide +kernel
theorem d9 : decode yB 9 = .ok (.invokestatic 115, 3) := by decide +kernel
theorem d12 : decode yB 12 = .ok (.istore 4, 2) := by decide +kernel
theorem d14 : decode yB 14 = .ok (.iload 4, 2) := by decide +kernel
theorem d16 : decode yB 16 = .ok (.iload_n 2, 1) := by decide +kernel
theorem d17 : decode yB 17 = .ok (.if_icmp (.eq) 40, 3) := by decide +kernel
theorem d57 : decode yB 57 = .ok (.aload_n 3, 1) := by decide +kernel
theorem d58 : decode yB 58 = .ok (.areturn, 1) := by decide +kernel
def site : List Cond := [.arrayClass .byte, Cmp5.tab] ++ staticW U16 115 Cmp5.yN
def tab : Cond := tabOf yN yB 6 (some (.array .byte)) site
def P (b : Addr) (A : Cell) (o len : Nat) (args : Array Value) (s : State) : Prop := args = #[.ref b, .int (Int32.ofNat o), .int (Int32.ofNat len)] ∧ Ch b A s ∧ o + len ≤ A.slots.size ∧ len ≤ 536870912 ∧ ∀ i, i < len → ¬ 255 < cv A (o + i)
def E (b : Addr) (A : Cell) (o len : Nat) (r : Option Value) (s u : State) : Prop := NewArr .byte "[B" len (fun j => .int (lo8 (cv A (o + j)))) r s u ∧ u.heap.size = s.heap.size + 1
/-- no char of the range above 255: a new byte[] of their low bytes -/
theorem law (l : Launch) (b : Addr) (A : Cell) (o len : Nat) : Law l yN 3 3 1 18 yB 6 (some (.array .byte)) site (P b A o len) (E b A o len) [] 1 len := by
  refine Law.of_walk (plainFor_of_name (by decide +kernel)) (by decide +kernel) (by decide +kernel) (by decide) (fun _ _ h => by rw [h.1]; rfl) (fun _ U U' hal hh h => ⟨h.1, h.2.1.mv hal hh, h.2.2⟩) (fun r U U' V V' h1 hal h2 h => ⟨NewArr.mv r U U' V V' h1 hal h2 h.1, by rw [h1, h2]; exact h.2⟩) ?_
  intro p e s m args below meth c s₁ X0 hexec hbytes hml hret hlk hnm hown hh0 W hP
  obtain ⟨rfl, hA, l1, l2, hp⟩ := hP
  have a31 := hA.1.2.2.2
  have c1 : Steps p.tables e below (s₁.setTop (entryFrame m #[.ref b, .int (Int32.ofNat o), .int (Int32.ofNat len)] 6)) (s₁.setTop (mkF m 0 #[.val (.ref b), .val (.int (Int32.ofNat o)), .val (.int (Int32.ofNat len)), .unset, .unset, .unset] [])) := entry rfl
  have c2 : Steps p.tables e below (s₁.setTop (entryFrame m #[.ref b, .int (Int32.ofNat o), .int (Int32.ofNat len)] 6)) (s₁.setTop (mkF m 1 #[.val (.ref b), .val (.int (Int32.ofNat o)), .val (.int (Int32.ofNat len)), .unset, .unset, .unset] [.int (Int32.ofNat len)])) := c1.trans (by
    refine XS.iloadN X0.here hexec rfl (hb hbytes d0) rfl ?_
    exact Steps.refl _)
  obtain ⟨T3, B3, X3, ba3, bs3, bv3, bh3, bf3, st3⟩ := X0.anew hexec (atype := .byte) (wk W (.arrayClass .byte)) rfl (by show len * 1 ≤ _; omega) (by omega) (g := (mkF m 1 #[.val (.ref b), .val (.int (Int32.ofNat o)), .val (.int (Int32.ofNat len)), .unset, .unset, .unset] [.int (Int32.ofNat len)])) rfl (hb hbytes d1) (rest := []) rfl (Nat.le_refl _) (by show 0 + len ≤ len; omega)
  rw [hh0] at ba3 st3
  have kp3 : XT.Kept s T3 := (XT.Kept.of_eq hh0).push bh3
  have hA3 := hA.keep X3.warmed.alike (kp3 _ _ hA.1.1)
  have hne : b ≠ s.heap.size := hA.1.ne
  have c4 : Steps p.tables e below (s₁.setTop (entryFrame m #[.ref b, .int (Int32.ofNat o), .int (Int32.ofNat len)] 6)) (T3.setTop (mkF m 3 #[.val (.ref b), .val (.int (Int32.ofNat o)), .val (.int (Int32.ofNat len)), .unset, .unset, .unset] [.ref s.heap.size])) := c2.trans (st3 _ (Steps.refl _))
  have c5 : Steps p.tables e below (s₁.setTop (entryFrame m #[.ref b, .int (Int32.ofNat o), .int (Int32.ofNat len)] 6)) (T3.setTop (mkF m 9 #[.val (.ref b), .val (.int (Int32.ofNat o)), .val (.int (Int32.ofNat len)), .val (.ref s.heap.size), .unset, .unset] [.int (Int32.ofNat len), .int 0, .ref s.heap.size, .int (Int32.ofNat o), .ref b])) := c4.trans (by
    refine XS.astoreN X3.here hexec rfl (hb hbytes d3) rfl rfl rfl ?_
    refine XS.aloadN X3.here hexec rfl (hb hbytes d4) rfl rfl ?_
    refine XS.iloadN X3.here hexec rfl (hb hbytes d5) rfl ?_
    refine XS.aloadN X3.here hexec rfl (hb hbytes d6) rfl rfl ?_
    refine iconstV X3.here hexec rfl 0 (hb hbytes d7) (by decide) ?_
    refine XS.iloadN X3.here hexec rfl (hb hbytes d8) rfl ?_
    exact Steps.refl _)
  obtain ⟨v6, T6, X6, E6, g6⟩ := X3.callS hexec (Cmp5.law l b A s.heap.size B3 o 0 len) hown (wks W (staticW U16 115 Cmp5.yN)) (wk W Cmp5.tab) (W := 0) (Nat.le_of_ble_eq_true rfl) (Nat.le_of_ble_eq_true rfl) (Nat.le_refl _) (by show 0 + len + 0 ≤ len; omega) (g := (mkF m 9 #[.val (.ref b), .val (.int (Int32.ofNat o)), .val (.int (Int32.ofNat len)), .val (.ref s.heap.size), .unset, .unset] [.int (Int32.ofNat len), .int (Int32.ofNat 0), .ref s.heap.size, .int (Int32.ofNat o), .ref b])) rfl (by rw [hml]; rfl) c5 (argsL := [.ref b, .int (Int32.ofNat o), .ref s.heap.size, .int (Int32.ofNat 0), .int (Int32.ofNat len)]) (rest := []) rfl rfl (by show 2 * 0 + 0 ≤ _; decide) (hb hbytes d9) (⟨rfl, hA3, ba3, hne, l1, by rw [bs3]; simp, hp⟩)
  obtain ⟨rfl, B6, p6, f6⟩ := E6
  have c7 : Steps p.tables e below (s₁.setTop (entryFrame m #[.ref b, .int (Int32.ofNat o), .int (Int32.ofNat len)] 6)) (T6.setTop (mkF m 12 #[.val (.ref b), .val (.int (Int32.ofNat o)), .val (.int (Int32.ofNat len)), .val (.ref s.heap.size), .unset, .unset] [.int (Int32.ofNat len)])) := g6
  have c8 : Steps p.tables e below (s₁.setTop (entryFrame m #[.ref b, .int (Int32.ofNat o), .int (Int32.ofNat len)] 6)) (T6.setTop (mkF m 58 #[.val (.ref b), .val (.int (Int32.ofNat o)), .val (.int (Int32.ofNat len)), .val (.ref s.heap.size), .val (.int (Int32.ofNat len)), .unset] [.ref s.heap.size])) := c7.trans (by
    refine XS.istore X6.here hexec rfl (hb hbytes d12) rfl rfl ?_
    refine XS.iload X6.here hexec rfl (hb hbytes d14) rfl ?_
    refine XS.iloadN X6.here hexec rfl (hb hbytes d16) rfl ?_
    refine XS.icmpYes X6.here hexec rfl (pc0 := 17) rfl (hb hbytes d17) rfl (ii_eq_t rfl) (by decide) rfl ?_
    refine XS.aloadN X6.here hexec rfl (hb hbytes d57) rfl rfl ?_
    exact Steps.refl _)
  have X8 := X6.wide (L' := []) (cells' := 1) (slots' := len) (fun x hx hlt => by
    simp only [List.nil_append, copyLocs, List.mem_map, List.mem_range] at hx
    obtain ⟨i, -, rfl⟩ := hx
    exact absurd hlt (Nat.lt_irrefl _)) (Nat.le_refl _) (by omega)
  exact ⟨T6, some (.ref s.heap.size), _, _, _, X8, rfl, rfl, rfl, (fun h => by cases h), ⟨⟨rfl, B6, ba3.like (X3.warmed.alike.symm.trans X6.warmed.alike) p6.1 f6.1 f6.2.1 f6.2.2.1, f6.2.1.trans bv3, by rw [X6.warmed.alike.findClass, f6.1]; exact bf3, by rw [f6.2.2.1, bs3]; simp, fun j hj => by rw [f6.2.2.2 j, if_pos (by omega)]; rfl, kp3.put p6 (Nat.le_refl _)⟩, by rw [p6.2.2, bh3, hh0]; simp⟩, fun fs hl => c8.trans (X8.areturnOut hexec rfl hret rfl (hb hbytes d58) hl)⟩
end Cmp3
namespace CodL
def yN : MethodName := ⟨"java/lang/StringUTF16", "coderFromArrayLen", "([BI)B"⟩
abbrev yB : ByteArray := jdk_52_method_15_code
theorem d0 : decode yB 0 = .ok (.iload_n 1, 1) := by decide +kernel
theorem d1 : decode yB 1 = .ok (.aload_n 0, 1) := by decide +kernel
theorem d2 : decode yB 2 = .ok (.arraylength, 1) := by decide +kernel
theorem d3 : decode yB 3 = .ok (.isub, 1) := by decide +kernel
theorem d4 : decode yB 4 = .ok (.bipush 31, 2) := by decide +kernel
theorem d6 : decode yB 6 = .ok (.iushr, 1) := by decide +kernel
theorem d7 : decode yB 7 = .ok (.i2b, 1) := by decide +kernel
theorem d8 : decode yB 8 = .ok (.ireturn, 1) := by decide +kernel
def site : List Cond := []
def tab : Cond := tabOf yN yB 2 (some .byte) site
def P (d : Addr) (B : Cell) (args : Array Value) (s : State) : Prop := args = #[.ref d, .int (Int32.ofNat B.slots.size)] ∧ Arr .byte d B s
def E (r : Option Value) (s u : State) : Prop := XT.PureE (some (.int 0)) r s u
/-- an array as long as the number of chars: LATIN1 -/
theorem law (l : Launch) (d : Addr) (B : Cell) : Law l yN 2 2 0 0 yB 2 (some .byte) site (P d B) E [] 0 0 := by
  refine Law.of_walk (plainFor_of_name (by decide +kernel)) (by decide +kernel) (by decide +kernel) (by decide) (fun _ _ h => by rw [h.1]; rfl) (fun _ U U' hal hh h => ⟨h.1, h.2.mv hal hh⟩) (fun r U U' V V' h1 hal h2 h => XT.PureE.mv r U U' V V' h1 hal h2 h) ?_
  intro p e s m args below meth c s₁ X0 hexec hbytes hml hret hlk hnm hown hh0 W hP
  obtain ⟨rfl, hB⟩ := hP
  have hB0 := hB.mv X0.warmed.alike hh0
  have c1 : Steps p.tables e below (s₁.setTop (entryFrame m #[.ref d, .int (Int32.ofNat B.slots.size)] 2)) (s₁.setTop (mkF m 0 #[.val (.ref d), .val (.int (Int32.ofNat B.slots.size))] [])) := entry rfl
  have c2 : Steps p.tables e below (s₁.setTop (entryFrame m #[.ref d, .int (Int32.ofNat B.slots.size)] 2)) (s₁.setTop (mkF m 2 #[.val (.ref d), .val (.int (Int32.ofNat B.slots.size))] [.ref d, .int (Int32.ofNat B.slots.size)])) := c1.trans (by
    refine XS.iloadN X0.here hexec rfl (hb hbytes d0) rfl ?_
    refine XS.aloadN X0.here hexec rfl (hb hbytes d1) rfl rfl ?_
    exact Steps.refl _)
  have c3 : Steps p.tables e below (s₁.setTop (entryFrame m #[.ref d, .int (Int32.ofNat B.slots.size)] 2)) (s₁.setTop (mkF m 8 #[.val (.ref d), .val (.int (Int32.ofNat B.slots.size))] [.int (lo8 (ushr (Int32.ofNat B.slots.size - Int32.ofNat B.slots.size) 31))])) := c2.trans (by
    refine X0.alen hexec hB0 rfl rfl (hb hbytes d2) ?_
    refine XS.isub X0.here hexec rfl (hb hbytes d3) rfl ?_
    refine bipushV X0.here hexec rfl 31 (hb hbytes d4) (by decide) ?_
    refine iushr X0.here hexec rfl (hb hbytes d6) rfl ?_
    refine i2b X0.here hexec rfl (hb hbytes d7) rfl ?_
    exact Steps.refl _)
  have e0 : lo8 (ushr (Int32.ofNat B.slots.size - Int32.ofNat B.slots.size) 31) = 0 := by rw [Int32.sub_self]; decide
  rw [e0] at c3
  exact ⟨s₁, some (.int 0), _, _, _, X0, rfl, rfl, rfl, (fun h => by cases h), ⟨rfl, hh0⟩, fun fs hl => c3.trans (X0.ireturnOut hexec hret rfl (Or.inr (Or.inr (Or.inl rfl))) (hb hbytes d8) hl)⟩
end CodL
/-- the String at a is Latin-1 over a new byte[] (the heap's one new cell): the low bytes of the len chars of A from o on; every cell but a is kept -/
def Got (a : Addr) (D : Cell) (fV fC : Field) (A : Cell) (o len : Nat) (r : Option Value) (s u : State) : Prop := r = none ∧ ∃ D' V : Cell, Blank "java/lang/String" a D' u ∧ Same D D' [fV.slot, fC.slot] ∧ D'.slots[fV.slot]? = some (.ref s.heap.size) ∧ D'.slots[fC.slot]? = some (.int 0) ∧ Arr .byte s.heap.size V u ∧ V.vm = .none ∧ u.vm.findClass "[B" = some V.cls ∧ V.slots.size = len ∧ (∀ j, j < len → V.slots[j]? = some (.int (lo8 (cv A (o + j))))) ∧ (∀ (y : Addr) (c : Cell), y ≠ a → s.heap[y]? = some c → u.heap[y]? = some c) ∧ u.heap.size = s.heap.size + 1
theorem Got.mv {a : Addr} {D A : Cell} {fV fC : Field} {o len : Nat} : ∀ r (U U' V V' : State), U'.heap = U.heap → V.vm.Alike V'.vm → V'.heap = V.heap → Got a D fV fC A o len r U V → Got a D fV fC A o len r U' V' :=
  fun r U U' V V' h1 hal h2 ⟨e0, D', X, a1, a2, a3, a4, a5, a6, a7, a8, a9, a10, a11⟩ => ⟨e0, D', X, a1.mv hal h2, a2, by rw [h1]; exact a3, a4, by rw [h1]; exact a5.mv hal h2, a6, by rw [hal.findClass]; exact a7, a8, a9, by rw [h1, h2]; exact a10, by rw [h1, h2]; exact a11⟩
namespace New4
def yN : MethodName := ⟨"java/lang/String", "<init>", "([CIILjava/lang/Void;)V"⟩
abbrev yB : ByteArray := jdk_42_method_149_code
theorem d0 : decode yB 0 = .ok (.aload_n 0, 1) := by decide +kernel
theorem d1 : decode yB 1 = .ok (.invokespecial 1, 3) := by decide +kernel
theorem d4 : decode yB 4 = .ok (.iload_n 3, 1) := by decide +kernel
theorem d5 : decode yB 5 = .ok (.ifCond (.ne) 22, 3) := by decide +kernel
theorem d27 : decode yB 27 = .ok (.getstatic 38, 3) := by decide +kernel
theorem d30 : decode yB 30 = .ok (.ifCond (.eq) 28, 3) := by decide +kernel
theorem d33 : decode yB 33 = .ok (.aload_n 1, 1) := by decide +kernel
theorem d34 : decode yB 34 = .ok (.iload_n 2, 1) := by decide +kernel
theorem d35 : decode yB 35 = .ok (.iload_n 3, 1) := by decide +kernel
theorem d36 : decode yB 36 = .ok (.invokestatic 177, 3) := by decide +kernel
theorem d39 : decode yB 39 = .ok (.astore 5, 2) := by decide +kernel
theorem d41 : decode yB 41 = .ok (.aload_n 0, 1) := by decide +kernel
theorem d42 : decode yB 42 = .ok (.aload 5, 2) := by decide +kernel
theorem d44 : decode yB 44 = .ok (.iload_n 3, 1) := by decide +kernel
theorem d45 : decode yB 45 = .ok (.invokestatic 47, 3) := by decide +kernel
theorem d48 : decode yB 48 = .ok (.putfield 15, 3) := by decide +kernel
theorem d51 : decode yB 51 = .ok (.aload_n 0, 1) := by decide +kernel
theorem d52 : decode yB 52 = .ok (.aload 5, 2) := by decide +kernel
theorem d54 : decode yB 54 = .ok (.putfield 9, 3) := by decide +kernel
theorem d57 : decode yB 57 = .ok (.return_, 1) := by decide +kernel
def site : List Cond := [.fieldLink "java/lang/String" 38 "java/lang/String" "COMPACT_STRINGS" "Z", Cmp3.tab, CodL.tab, .laysFinal "java/lang/String" "java/lang/String" "value" "[B", .fieldLink "java/lang/String" 9 "java/lang/String" "value" "[B", .laysFinal "java/lang/String" "java/lang/String" "coder" "B", .fieldLink "java/lang/String" 15 "java/lang/String" "coder" "B"] ++ objW "java/lang/String" 1 ++ staticW "java/lang/String" 177 Cmp3.yN ++ staticW "java/lang/String" 47 CodL.yN
def tab : Cond := tabOf yN yB 6 none site
def P (a : Addr) (D : Cell) (fV fC : Field) (b : Addr) (A : Cell) (z : Int32) (o len : Nat) (args : Array Value) (s : State) : Prop := args = #[.ref a, .ref b, .int (Int32.ofNat o), .int (Int32.ofNat len), .null] ∧ Blank "java/lang/String" a D s ∧ Found "java/lang/String" "value" "[B" fV s ∧ Found "java/lang/String" "coder" "B" fC s ∧ Ch b A s ∧ StaticIs s "java/lang/String" "COMPACT_STRINGS" "Z" (.int z) ∧ ¬ z = 0 ∧ 0 < len ∧ o + len ≤ A.slots.size ∧ len ≤ 536870912 ∧ ∀ i, i < len → ¬ 255 < cv A (o + i)
def E (a : Addr) (D : Cell) (fV fC : Field) (A : Cell) (o len : Nat) (r : Option Value) (s u : State) : Prop := Got a D fV fC A o len r s u
/-- len > 0, no char of the range above 255: a Latin-1 String of their low bytes -/
theorem law (l : Launch) (a : Addr) (D : Cell) (fV fC : Field) (b : Addr) (A : Cell) (z : Int32) (o len : Nat) : Law l yN 5 4 2 35 yB 6 none site (P a D fV fC b A z o len) (E a D fV fC A o len) [⟨a, fC.slot⟩, ⟨a, fV.slot⟩] 1 len := by
  refine Law.of_walk (plainFor_of_name (by decide +kernel)) (by decide +kernel) (by decide +kernel) (by decide) (fun _ _ h => by rw [h.1]; rfl) (fun _ U U' hal hh h => ⟨h.1, h.2.1.mv hal hh, h.2.2.1.al hal, h.2.2.2.1.al hal, h.2.2.2.2.1.mv hal hh, h.2.2.2.2.2.1.there hal hh, h.2.2.2.2.2.2⟩) (fun r U U' V V' h1 hal h2 h => Got.mv r U U' V V' h1 hal h2 h) ?_
  intro p e s m args below meth c s₁ X0 hexec hbytes hml hret hlk hnm hown hh0 W hP
  obtain ⟨rfl, hB, f1, f2, hA, s1, hz, l0, l1, l2, hp⟩ := hP
  have a31 := hA.1.2.2.2
  have c1 : Steps p.tables e below (s₁.setTop (entryFrame m #[.ref a, .ref b, .int (Int32.ofNat o), .int (Int32.ofNat len), .null] 6)) (s₁.setTop (mkF m 0 #[.val (.ref a), .val (.ref b), .val (.int (Int32.ofNat o)), .val (.int (Int32.ofNat len)), .val .null, .unset] [])) := entry rfl
  have c2 : Steps p.tables e below (s₁.setTop (entryFrame m #[.ref a, .ref b, .int (Int32.ofNat o), .int (Int32.ofNat len), .null] 6)) (s₁.setTop (mkF m 1 #[.val (.ref a), .val (.ref b), .val (.int (Int32.ofNat o)), .val (.int (Int32.ofNat len)), .val .null, .unset] [.ref a])) := c1.trans (by
    refine XS.aloadN X0.here hexec rfl (hb hbytes d0) rfl rfl ?_
    exact Steps.refl _)
  obtain ⟨T3, X3, q3, st3⟩ := X0.oinit hexec hown (wks W (objW "java/lang/String" 1)) (g := (mkF m 1 #[.val (.ref a), .val (.ref b), .val (.int (Int32.ofNat o)), .val (.int (Int32.ofNat len)), .val .null, .unset] [.ref a])) rfl (by rw [hml]; rfl) (rest := []) rfl (hb hbytes d1) (W := 0) (by show 2 * 0 + 0 ≤ _; decide) (Nat.le_of_ble_eq_true rfl) (Nat.le_of_ble_eq_true rfl)
  have hh3 := q3.trans hh0
  have c4 : Steps p.tables e below (s₁.setTop (entryFrame m #[.ref a, .ref b, .int (Int32.ofNat o), .int (Int32.ofNat len), .null] 6)) (T3.setTop (mkF m 27 #[.val (.ref a), .val (.ref b), .val (.int (Int32.ofNat o)), .val (.int (Int32.ofNat len)), .val .null, .unset] [])) := (c2.trans (st3 _ (Steps.refl _))).trans (by
    refine XS.iloadN X3.here hexec rfl (hb hbytes d4) rfl ?_
    refine XS.ifYes X3.here hexec rfl (pc0 := 5) rfl (hb hbytes d5) rfl (i0_ne_t (nz32 (by omega) l0)) (by decide) rfl ?_
    exact Steps.refl _)
  obtain ⟨T5, X5, q5, st5⟩ := X3.sget hexec hown (wk W (.fieldLink "java/lang/String" 38 "java/lang/String" "COMPACT_STRINGS" "Z")) s1 (fun _ _ h => by rw [hh3]; exact h) (g := (mkF m 27 #[.val (.ref a), .val (.ref b), .val (.int (Int32.ofNat o)), .val (.int (Int32.ofNat len)), .val .null, .unset] [])) rfl (hb hbytes d27)
  have hh5 := q5.trans hh3
  have c6 : Steps p.tables e below (s₁.setTop (entryFrame m #[.ref a, .ref b, .int (Int32.ofNat o), .int (Int32.ofNat len), .null] 6)) (T5.setTop (mkF m 30 #[.val (.ref a), .val (.ref b), .val (.int (Int32.ofNat o)), .val (.int (Int32.ofNat len)), .val .null, .unset] [.int z])) := c4.trans (st5 _ (Steps.refl _))
  have c7 : Steps p.tables e below (s₁.setTop (entryFrame m #[.ref a, .ref b, .int (Int32.ofNat o), .int (Int32.ofNat len), .null] 6)) (T5.setTop (mkF m 36 #[.val (.ref a), .val (.ref b), .val (.int (Int32.ofNat o)), .val (.int (Int32.ofNat len)), .val .null, .unset] [.int (Int32.ofNat len), .int (Int32.ofNat o), .ref b])) := c6.trans (by
    refine XS.ifNo X5.here hexec rfl (hb hbytes d30) rfl (i0_eq_f hz) ?_
    refine XS.aloadN X5.here hexec rfl (hb hbytes d33) rfl rfl ?_
    refine XS.iloadN X5.here hexec rfl (hb hbytes d34) rfl ?_
    refine XS.iloadN X5.here hexec rfl (hb hbytes d35) rfl ?_
    exact Steps.refl _)
  obtain ⟨v8, T8, X8, E8, g8⟩ := X5.callS hexec (Cmp3.law l b A o len) hown (wks W (staticW "java/lang/String" 177 Cmp3.yN)) (wk W Cmp3.tab) (W := 0) (Nat.le_of_ble_eq_true rfl) (Nat.le_of_ble_eq_true rfl) (Nat.le_refl _) (by show 0 + len ≤ len; omega) (g := (mkF m 36 #[.val (.ref a), .val (.ref b), .val (.int (Int32.ofNat o)), .val (.int (Int32.ofNat len)), .val .null, .unset] [.int (Int32.ofNat len), .int (Int32.ofNat o), .ref b])) rfl (by rw [hml]; rfl) c7 (argsL := [.ref b, .int (Int32.ofNat o), .int (Int32.ofNat len)]) (rest := []) rfl rfl (by show 2 * 0 + 0 ≤ _; decide) (hb hbytes d36) (⟨rfl, hA.mv X5.warmed.alike hh5, l1, l2, hp⟩)
  obtain ⟨e8, z8⟩ := E8
  obtain ⟨rfl, N, n1, n2, n3, n4, n5, n6⟩ := NewArr.mv _ T5 s _ _ hh5.symm (Vm.Alike.refl _) rfl e8
  rw [hh5] at z8
  have hB1 := hB.keep X8.warmed.alike (n6 _ _ hB.1)
  have hne : s.heap.size ≠ a := (Nat.ne_of_lt (Array.getElem?_eq_some_iff.mp hB.1).1).symm
  have c9 : Steps p.tables e below (s₁.setTop (entryFrame m #[.ref a, .ref b, .int (Int32.ofNat o), .int (Int32.ofNat len), .null] 6)) (T8.setTop (mkF m 39 #[.val (.ref a), .val (.ref b), .val (.int (Int32.ofNat o)), .val (.int (Int32.ofNat len)), .val .null, .unset] [.ref s.heap.size])) := g8
  have c10 : Steps p.tables e below (s₁.setTop (entryFrame m #[.ref a, .ref b, .int (Int32.ofNat o), .int (Int32.ofNat len), .null] 6)) (T8.setTop (mkF m 45 #[.val (.ref a), .val (.ref b), .val (.int (Int32.ofNat o)), .val (.int (Int32.ofNat len)), .val .null, .val (.ref s.heap.size)] [.int (Int32.ofNat N.slots.size), .ref s.heap.size, .ref a])) := by
    have hc : Steps p.tables e below (s₁.setTop (entryFrame m #[.ref a, .ref b, .int (Int32.ofNat o), .int (Int32.ofNat len), .null] 6)) (T8.setTop (mkF m 45 #[.val (.ref a), .val (.ref b), .val (.int (Int32.ofNat o)), .val (.int (Int32.ofNat len)), .val .null, .val (.ref s.heap.size)] [.int (Int32.ofNat len), .ref s.heap.size, .ref a])) := c9.trans (by
      refine XS.astore X8.here hexec rfl (hb hbytes d39) rfl rfl rfl ?_
      refine XS.aloadN X8.here hexec rfl (hb hbytes d41) rfl rfl ?_
      refine XS.aload X8.here hexec rfl (hb hbytes d42) rfl rfl ?_
      refine XS.iloadN X8.here hexec rfl (hb hbytes d44) rfl ?_
      exact Steps.refl _)
    rw [n4]; exact hc
  obtain ⟨v11, T11, X11, E11, g11⟩ := X8.callS hexec (CodL.law l s.heap.size N) hown (wks W (staticW "java/lang/String" 47 CodL.yN)) (wk W CodL.tab) (W := 1) (Nat.le_of_ble_eq_true rfl) (Nat.le_of_ble_eq_true rfl) (Nat.le_refl _) (by show 0 + len + 0 ≤ len; omega) (g := (mkF m 45 #[.val (.ref a), .val (.ref b), .val (.int (Int32.ofNat o)), .val (.int (Int32.ofNat len)), .val .null, .val (.ref s.heap.size)] [.int (Int32.ofNat N.slots.size), .ref s.heap.size, .ref a])) rfl (by rw [hml]; rfl) c10 (argsL := [.ref s.heap.size, .int (Int32.ofNat N.slots.size)]) (rest := [.ref a]) rfl rfl (by show 2 * 0 + (1 + 0) ≤ _; decide) (hb hbytes d45) (⟨rfl, n1⟩)
  obtain ⟨rfl, q11⟩ := E11
  have hB11 := hB1.mv (X8.warmed.alike.symm.trans X11.warmed.alike) q11
  have c12 : Steps p.tables e below (s₁.setTop (entryFrame m #[.ref a, .ref b, .int (Int32.ofNat o), .int (Int32.ofNat len), .null] 6)) (T11.setTop (mkF m 48 #[.val (.ref a), .val (.ref b), .val (.int (Int32.ofNat o)), .val (.int (Int32.ofNat len)), .val .null, .val (.ref s.heap.size)] [.int 0, .ref a])) := g11
  obtain ⟨T13, X13, p13, bl13, sl13, st13⟩ := X11.finit hexec hown (wk W (.fieldLink "java/lang/String" 15 "java/lang/String" "coder" "B")) (Or.inr ⟨_, (wk W (.laysFinal "java/lang/String" "java/lang/String" "coder" "B"))⟩) (Or.inl ⟨rfl, hnm⟩) f2 (Or.inl rfl) hB11 (t := .byte) (by decide +kernel) rfl (g := (mkF m 48 #[.val (.ref a), .val (.ref b), .val (.int (Int32.ofNat o)), .val (.int (Int32.ofNat len)), .val .null, .val (.ref s.heap.size)] [.int 0, .ref a])) rfl (rest := []) rfl (hb hbytes d48)
  have c14 : Steps p.tables e below (s₁.setTop (entryFrame m #[.ref a, .ref b, .int (Int32.ofNat o), .int (Int32.ofNat len), .null] 6)) (T13.setTop (mkF m 54 #[.val (.ref a), .val (.ref b), .val (.int (Int32.ofNat o)), .val (.int (Int32.ofNat len)), .val .null, .val (.ref s.heap.size)] [.ref s.heap.size, .ref a])) := (c12.trans (st13 _ (Steps.refl _))).trans (by
    refine XS.aloadN X13.here hexec rfl (hb hbytes d51) rfl rfl ?_
    refine XS.aload X13.here hexec rfl (hb hbytes d52) rfl rfl ?_
    exact Steps.refl _)
  obtain ⟨T15, X15, p15, bl15, sl15, st15⟩ := X13.finit hexec hown (wk W (.fieldLink "java/lang/String" 9 "java/lang/String" "value" "[B")) (Or.inr ⟨_, (wk W (.laysFinal "java/lang/String" "java/lang/String" "value" "[B"))⟩) (Or.inl ⟨rfl, hnm⟩) f1 (Or.inl rfl) bl13 (t := (.array .byte)) (by decide +kernel) rfl (g := (mkF m 54 #[.val (.ref a), .val (.ref b), .val (.int (Int32.ofNat o)), .val (.int (Int32.ofNat len)), .val .null, .val (.ref s.heap.size)] [.ref s.heap.size, .ref a])) rfl (rest := []) rfl (hb hbytes d54)
  have c16 : Steps p.tables e below (s₁.setTop (entryFrame m #[.ref a, .ref b, .int (Int32.ofNat o), .int (Int32.ofNat len), .null] 6)) (T15.setTop (mkF m 57 #[.val (.ref a), .val (.ref b), .val (.int (Int32.ofNat o)), .val (.int (Int32.ofNat len)), .val .null, .val (.ref s.heap.size)] [])) := c14.trans (st15 _ (Steps.refl _))
  have ap := apart (Or.inr ⟨_, (wk W (.laysFinal "java/lang/String" "java/lang/String" "value" "[B"))⟩) (Or.inr ⟨_, (wk W (.laysFinal "java/lang/String" "java/lang/String" "coder" "B"))⟩) f1 f2 (t₁ := .array .byte) (t₂ := .byte) (by decide +kernel) (by decide +kernel) (by decide)
  have al := X8.warmed.alike.symm.trans X15.warmed.alike
  have n7 : T11.heap[s.heap.size]? = some N := by rw [q11]; exact n1.1
  exact ⟨T15, none, _, _, _, X15, by simp, rfl, by omega, (fun _ => rfl), ⟨rfl, _, N, bl15, ((Same.refl D _).set _ (by simp)).set _ (by simp), sl15, (Cell.slots_setSlot_ne _ ap).trans sl13, n1.keep al (p15.other hne (p13.other hne n7)), n2, by rw [al.findClass]; exact n3, n4, n5, fun y c h1 h2 => p15.other h1 (p13.other h1 (by rw [q11]; exact n6 y c h2)), by rw [p15.2.2, p13.2.2, q11]; exact z8⟩, fun fs hl => c16.trans (X15.returnOut hexec hret (hb hbytes d57) hl)⟩
end New4
namespace New1
def yN : MethodName := ⟨"java/lang/String", "<init>", "([C)V"⟩
abbrev yB : ByteArray := jdk_42_method_3_code
theorem d0 : decode yB 0 = .ok (.aload_n 0, 1) := by decide +kernel
theorem d1 : decode yB 1 = .ok (.aload_n 1, 1) := by decide +kernel
theorem d2 : decode yB 2 = .ok (.iconst 0, 1) := by decide +kernel
theorem d3 : decode yB 3 = .ok (.aload_n 1, 1) := by decide +kernel
theorem d4 : decode yB 4 = .ok (.arraylength, 1) := by decide +kernel
theorem d5 : decode yB 5 = .ok (.aconst_null, 1) := by decide +kernel
theorem d6 : decode yB 6 = .ok (.invokespecial 27, 3) := by decide +kernel
theorem d9 : decode yB 9 = .ok (.return_, 1) := by decide +kernel
def site : List Cond := [New4.tab] ++ initW "java/lang/String" 27 New4.yN
def tab : Cond := tabOf yN yB 2 none site
def P (a : Addr) (D : Cell) (fV fC : Field) (b : Addr) (A : Cell) (z : Int32) (args : Array Value) (s : State) : Prop := args = #[.ref a, .ref b] ∧ Blank "java/lang/String" a D s ∧ Found "java/lang/String" "value" "[B" fV s ∧ Found "java/lang/String" "coder" "B" fC s ∧ Ch b A s ∧ StaticIs s "java/lang/String" "COMPACT_STRINGS" "Z" (.int z) ∧ ¬ z = 0 ∧ 0 < A.slots.size ∧ A.slots.size ≤ 536870912 ∧ ∀ i, i < A.slots.size → ¬ 255 < cv A i
def E (a : Addr) (D : Cell) (fV fC : Field) (A : Cell) (r : Option Value) (s u : State) : Prop := Got a D fV fC A 0 A.slots.size r s u
/-- new String(chars), not empty, no char above 255: a Latin-1 String of their low bytes -/
theorem law (l : Launch) (a : Addr) (D : Cell) (fV fC : Field) (b : Addr) (A : Cell) (z : Int32) : Law l yN 2 1 3 52 yB 2 none site (P a D fV fC b A z) (E a D fV fC A) [⟨a, fC.slot⟩, ⟨a, fV.slot⟩] 1 A.slots.size := by
  refine Law.of_walk (plainFor_of_name (by decide +kernel)) (by decide +kernel) (by decide +kernel) (by decide) (fun _ _ h => by rw [h.1]; rfl) (fun _ U U' hal hh h => ⟨h.1, h.2.1.mv hal hh, h.2.2.1.al hal, h.2.2.2.1.al hal, h.2.2.2.2.1.mv hal hh, h.2.2.2.2.2.1.there hal hh, h.2.2.2.2.2.2⟩) (fun r U U' V V' h1 hal h2 h => Got.mv r U U' V V' h1 hal h2 h) ?_
  intro p e s m args below meth c s₁ X0 hexec hbytes hml hret hlk hnm hown hh0 W hP
  obtain ⟨rfl, hB, f1, f2, hA, s1, hz, l0, l2, hp⟩ := hP
  have c1 : Steps p.tables e below (s₁.setTop (entryFrame m #[.ref a, .ref b] 2)) (s₁.setTop (mkF m 0 #[.val (.ref a), .val (.ref b)] [])) := entry rfl
  have c2 : Steps p.tables e below (s₁.setTop (entryFrame m #[.ref a, .ref b] 2)) (s₁.setTop (mkF m 6 #[.val (.ref a), .val (.ref b)] [.null, .int (Int32.ofNat A.slots.size), .int 0, .ref b, .ref a])) := c1.trans (by
    refine XS.aloadN X0.here hexec rfl (hb hbytes d0) rfl rfl ?_
    refine XS.aloadN X0.here hexec rfl (hb hbytes d1) rfl rfl ?_
    refine iconstV X0.here hexec rfl 0 (hb hbytes d2) (by decide) ?_
    refine XS.aloadN X0.here hexec rfl (hb hbytes d3) rfl rfl ?_
    refine X0.alen hexec (hA.1.mv X0.warmed.alike hh0) rfl rfl (hb hbytes d4) ?_
    refine XS.aconstNull X0.here hexec rfl (hb hbytes d5) ?_
    exact Steps.refl _)
  obtain ⟨v3, T3, X3, E3, g3⟩ := X0.callN hexec (New4.law l a D fV fC b A z 0 A.slots.size) rfl hown (wks W (initW "java/lang/String" 27 New4.yN)) (W New4.tab (by simp only [site, List.mem_cons, List.mem_append, true_or, or_true])) (W := 0) (Nat.le_of_ble_eq_true rfl) (Nat.le_of_ble_eq_true rfl) (Nat.le_refl _) (by show 0 + A.slots.size ≤ A.slots.size; omega) (g := (mkF m 6 #[.val (.ref a), .val (.ref b)] [.null, .int (Int32.ofNat A.slots.size), .int (Int32.ofNat 0), .ref b, .ref a])) rfl (by rw [hml]; rfl) c2 (argsL := [.ref b, .int (Int32.ofNat 0), .int (Int32.ofNat A.slots.size), .null]) (rest := []) rfl rfl (by show 2 * 0 + 0 ≤ _; decide) (hb hbytes d6) (⟨rfl, hB.mv X0.warmed.alike hh0, f1.al X0.warmed.alike, f2.al X0.warmed.alike, hA.mv X0.warmed.alike hh0, s1.there X0.warmed.alike hh0, hz, l0, by omega, l2, fun i hi => by rw [Nat.zero_add]; exact hp i hi⟩)
  have e0 := Got.mv _ s₁ s _ _ hh0.symm (Vm.Alike.refl _) rfl E3
  obtain rfl := e0.1
  have c4 : Steps p.tables e below (s₁.setTop (entryFrame m #[.ref a, .ref b] 2)) (T3.setTop (mkF m 9 #[.val (.ref a), .val (.ref b)] [])) := g3
  exact ⟨T3, none, _, _, _, X3, by simp, rfl, by omega, (fun _ => rfl), e0, fun fs hl => c4.trans (X3.returnOut hexec hret (hb hbytes d9) hl)⟩
theorem pays {l : Launch} {R : Room} {p : Program} {e : Env} {below : List Frame} {s : State} {sargs : Array Value} {len W : Nat} (a : Addr) (D : Cell) (fV fC : Field) (b : Addr) (A : Cell) (z : Int32) (htab : tab.before sargs s = true) (hfr : 4 ≤ R.frames) (hlo : W + 65 ≤ R.locals) :
    Back l R p e below s sargs yN len W (fun A₁ a₁ => A₁.cells + 1 ≤ R.cells ∧ A₁.slots + A.slots.size ≤ R.slots ∧ P a D fV fC b A z a₁ A₁.U) (fun A₁ _ v₁ B₁ => E a D fV fC A v₁ A₁.U B₁.U ∧ B₁.locs = A₁.locs ++ [⟨a, fC.slot⟩, ⟨a, fV.slot⟩] ∧ B₁.cells = A₁.cells + 1 ∧ B₁.slots = A₁.slots + A.slots.size) :=
  (law l a D fV fC b A z).pays htab hfr (by omega)
end New1
end StrChars
namespace StrChars.Road
open Jvm Sem ClassFile Op Lib Jvm.Stand Jvm.Free Jvm.Free.XT
open Jvm.Lib.Cold (StaticIs)
abbrev ST : String := "java/lang/String"
/-- every table word that New1's law asks, flat -/
abbrev words : List Jvm.Cond := [.code New1.yN New1.yB 2 none, .initialized ST, .methodLink ST 27 New4.yN, .instanceMethod New4.yN,
  .code New4.yN New4.yB 6 none, .fieldLink ST 38 ST "COMPACT_STRINGS" "Z", .laysFinal ST ST "value" "[B", .fieldLink ST 9 ST "value" "[B", .laysFinal ST ST "coder" "B", .fieldLink ST 15 ST "coder" "B",
  .methodLink ST 1 Lib.objectInit, .instanceMethod Lib.objectInit, .code Lib.objectInit ⟨#[0xb1]⟩ 1 none, .methodLink ST 177 Cmp3.yN, .static Cmp3.yN, .methodLink ST 47 CodL.yN, .static CodL.yN,
  .code Cmp3.yN Cmp3.yB 6 (some (.array .byte)), .initialized U16, .arrayClass .byte, .methodLink U16 115 Cmp5.yN, .static Cmp5.yN, .code Cmp5.yN Cmp5.yB 7 (some .int), .code CodL.yN CodL.yB 2 (some .byte)]
theorem tab_of {a : Array Value} {s : State} (h : ∀ w ∈ words, w.before a s = true) : New1.tab.before a s = true := by
  have h5 : Cmp5.tab.before a s = true := unparts (wk h (.code Cmp5.yN Cmp5.yB 7 (some .int))) (wks h (.initialized Cmp5.yN.cls :: Cmp5.site))
  have hc : CodL.tab.before a s = true := unparts (wk h (.code CodL.yN CodL.yB 2 (some .byte))) (wks h (.initialized CodL.yN.cls :: CodL.site))
  have q5 : ∀ w ∈ Cmp5.tab :: words, w.before a s = true := fun w hw => (List.mem_cons.mp hw).elim (fun e => e ▸ h5) (h w)
  have h3 : Cmp3.tab.before a s = true := unparts (wk q5 (.code Cmp3.yN Cmp3.yB 6 (some (.array .byte)))) (wks q5 (.initialized Cmp3.yN.cls :: Cmp3.site))
  have q3 : ∀ w ∈ Cmp3.tab :: CodL.tab :: words, w.before a s = true := fun w hw => (List.mem_cons.mp hw).elim (fun e => e ▸ h3) fun hw => (List.mem_cons.mp hw).elim (fun e => e ▸ hc) (h w)
  have h4 : New4.tab.before a s = true := unparts (wk q3 (.code New4.yN New4.yB 6 none)) (wks q3 (.initialized New4.yN.cls :: New4.site))
  have q4 : ∀ w ∈ New4.tab :: words, w.before a s = true := fun w hw => (List.mem_cons.mp hw).elim (fun e => e ▸ h4) (h w)
  exact unparts (wk q4 (.code New1.yN New1.yB 2 none)) (wks q4 (.initialized New1.yN.cls :: New1.site))
/-- the words ride from the start Z to the walk's own state -/
theorem moved {Z s : State} {a0 args : Array Value} (hZ : Z.Warmed39 s.vm) (hw : ∀ d ∈ words, d.before a0 Z = true) : ∀ d ∈ words, d.before args s = true := fun d hd => by
  have q := hw d hd
  have t : ∀ d ∈ words, d = .arrayClass .byte ∨ (d.onTables && d.keepsFace) = true := by decide +kernel
  rcases t d hd with rfl | t
  · exact RoadKit.mvA hZ q
  · exact RoadKit.mv hZ q t
/-- WHAT COMES BACK, over the tables of the start Z: h the heap at the call, h' behind it -/
def Q (Z : State) (x : Addr) (A : Cell) (h : Heap) (v : Option Value) (h' : Heap) (L : List Loc) : Prop := v = none ∧ (∀ y ∈ L, y.base = x) ∧ RoadKit.Keep h h' [x] ∧ h'.size = h.size + 1 ∧ RoadKit.Exa Z h' x ST ∧ RoadKit.Fld Z h' x ST "value" "[B" (.ref h.size) ∧ RoadKit.Fld Z h' x ST "coder" "B" (.int 0) ∧
  (∃ V : Cell, RoadKit.Arr Z h' h.size V .byte ∧ V.vm = .none ∧ Z.vm.findClass "[B" = some V.cls ∧ V.slots.size = A.slots.size ∧ ∀ j, j < A.slots.size → V.slots[j]? = some (.int (lo8 (cv A j)))) ∧
  ∀ (O n d : String) (w : Value), RoadKit.Fld Z h x O n d w → RoadKit.slotOf Z O n d ≠ RoadKit.slotOf Z ST "value" "[B" → RoadKit.slotOf Z O n d ≠ RoadKit.slotOf Z ST "coder" "B" → RoadKit.Fld Z h' x O n d w
/-- **new String(chars) AT A CALL, IN THE ROAD'S FORM**: for specialBack behind newO: x the fresh String, b the char[] with the cell A -/
theorem back {p : Program} {l : Launch} {e : Env} {R : Room} {s : State} {args : Array Value} {below : List Frame} {len W : Nat} {Z : State} {a0 : Array Value} {h : Heap} (hZ : Z.Warmed39 s.vm) (hw : ∀ d ∈ words, d.before a0 Z = true) {kI : Nat} (wi : (Jvm.Cond.instantiable ST kI).before a0 Z = true)
    {x b : Addr} {A : Cell} {z : Int32} {v0 c0 : Value} (E : RoadKit.Exa Z h x ST) (V : RoadKit.Fld Z h x ST "value" "[B" v0) (C : RoadKit.Fld Z h x ST "coder" "B" c0) (K : RoadKit.Arr Z h b A .char) (hty : Typed .char A) (S : RoadKit.Sta Z h ST "COMPACT_STRINGS" "Z" (.int z)) (hz : ¬ z = 0)
    (l0 : 0 < A.slots.size) (l2 : A.slots.size ≤ 536870912) (hp : ∀ i, i < A.slots.size → ¬ 255 < cv A i) (hfr : 4 ≤ R.frames) (hlo : W + 65 ≤ R.locals) :
    Back l R p e below s args New1.yN len W (fun P a => a = #[.ref x, .ref b] ∧ P.U.heap = h ∧ P.cells + 1 ≤ R.cells ∧ P.slots + A.slots.size ≤ R.slots)
      (fun P _ v B => ∃ L, Q Z x A h v B.U.heap L ∧ B.locs = P.locs ++ L ∧ B.cells = P.cells + 1 ∧ B.slots = P.slots + A.slots.size) := by
  intro m meth c P g ig mk a X hg hsize hdg hW hn hp'
  obtain ⟨rfl, rfl, r1, r2⟩ := hp'
  have al : Z.vm.Alike P.U.vm := hZ.alike.trans X.warmed.alike
  obtain ⟨D, cfV, kV, iV, fV, hD, gV, stV, knV, obV, asV, slV⟩ := id V
  obtain ⟨D', cfC, kC, iC, fC, hD', gC, stC, -, -, asC, slC⟩ := id C
  cases hD.symm.trans hD'
  obtain ⟨D2, kD, e1, e2, e3, e4, e5⟩ := id E
  cases hD.symm.trans e1
  obtain ⟨c2, k2, i1, i2, i3, -⟩ := Cond.instantiable_spec wi
  cases e2.symm.trans i1
  cases e3.symm.trans i2
  obtain ⟨kU, u1, u2⟩ := al.2.2 _ _ e3
  have hB : Blank ST x D P.U := ⟨hD, ⟨knV, fun q hq => by rw [hq] at obV; cases obV⟩, by rw [al.findClass]; exact e2, kU, u1, by rw [u2]; exact i3, by rw [u2]; exact e5 i3⟩
  have F1 : Found ST "value" "[B" fV P.U := ⟨SBG.found_only al ⟨cfV, kV, iV, gV⟩, stV⟩
  have F2 : Found ST "coder" "B" fC P.U := ⟨SBG.found_only al ⟨cfC, kC, iC, gC⟩, stC⟩
  have hA : Ch b A P.U := ⟨⟨K.1, State.isArrayOf_alike al K.2.1, K.2.2, by omega⟩, hty⟩
  have hS : StaticIs P.U ST "COMPACT_STRINGS" "Z" (.int z) := by
    obtain ⟨cfS, iS, kS, fS, st, cS, t1, t2, t3, t4, t5, t6, t7⟩ := S
    exact StaticIs.there (s := { Z with heap := P.U.heap }) ⟨cfS, iS, kS, fS, st, cS, t1, t2, t3, t4, t5, (fun q => by rw [q] at t6; cases t6), t7⟩ al rfl
  obtain ⟨v, B, X', ⟨⟨hv, E', V', q1, q2, q3, q4, q5, q6, q7, q8, q9, q10, q11⟩, hl, hc, hs⟩, st⟩ := New1.pays x D fV fC b A z (tab_of (moved hZ hw)) hfr hlo m meth c P g ig mk _ X hg hsize hdg hW hn ⟨r1, r2, rfl, hB, F1, F2, hA, hS, hz, l0, l2, hp⟩
  have al' : Z.vm.Alike B.U.vm := hZ.alike.trans X'.warmed.alike
  have hsz : E'.slots.size = D.slots.size := by
    obtain ⟨-, -, -, kB, w1, w2, w3⟩ := q1
    obtain ⟨kB', y1, y2⟩ := al'.2.2 _ _ e3
    rw [q2.2.1] at w1
    cases w1.symm.trans y1
    rw [w3, e5 i3, y2]
  refine ⟨v, B, X', ⟨_, ⟨hv, ?_, ⟨by omega, fun y cy hy hn' => q10 y cy (by simpa using hn') hy, fun y cy hy => ?_⟩, q11, ⟨E', _, q1.1, by rw [q2.2.1]; exact e2, by rw [q2.2.1]; exact e3, by rw [q2.1]; exact obV, fun _ => by rw [hsz]; exact e5 i3⟩,
    ⟨E', cfV, kV, iV, fV, q1.1, gV, stV, by rw [q2.1]; exact knV, by rw [q2.1]; exact obV, by rw [q2.2.1]; exact asV, q3⟩, ⟨E', cfC, kC, iC, fC, q1.1, gC, stC, by rw [q2.1]; exact knV, by rw [q2.1]; exact obV, by rw [q2.2.1]; exact asC, q4⟩,
    ⟨V', ⟨q5.1, State.isArrayOf_alike al'.symm q5.2.1, q5.2.2.1⟩, q6, by rw [← al'.findClass]; exact q7, q8, fun j hj => by have := q9 j hj; rwa [Nat.zero_add] at this⟩, fun O n d w F n1 n2 => ?_⟩, hl, hc, hs⟩, st⟩
  · intro y hy
    simp only [List.mem_cons, List.not_mem_nil, or_false] at hy
    rcases hy with rfl | rfl <;> rfl
  · by_cases q : y = x
    · subst q
      cases hD.symm.trans hy
      exact ⟨E', q1.1, q2.2.1, q2.1, hsz⟩
    · exact ⟨cy, q10 y cy q hy, rfl, rfl, rfl⟩
  · obtain ⟨D3, cf, k, i, f, g1, g2, g3, g4, g5, g6, g7⟩ := F
    cases hD.symm.trans g1
    simp only [RoadKit.slotOf, g2, gV, gC, Option.map_some, Option.getD_some] at n1 n2
    exact ⟨E', cf, k, i, f, q1.1, g2, g3, by rw [q2.1]; exact g4, by rw [q2.1]; exact g5, by rw [q2.2.1]; exact g6, by rw [q2.2.2 f.slot (by simp [n1, n2])]; exact g7⟩
end StrChars.Road
namespace StrChars.Road
open Jvm Sem ClassFile Op Lib Jvm.Stand Jvm.Free Jvm.Free.XT
/-- WHAT COMES BACK, the byte[] as a list of values -/
def QA (Z : State) (x : Addr) (zn : Int32) (cs : List Int32) (h : Heap) (v : Option Value) (h' : Heap) (L : List Loc) : Prop := v = none ∧ (∀ y ∈ L, y.base = x) ∧ RoadKit.Keep h h' [x] ∧ h'.size = h.size + 1 ∧ RoadKit.Exa Z h' x ST ∧ RoadKit.Fld Z h' x ST "value" "[B" (.ref h.size) ∧ RoadKit.Fld Z h' x ST "coder" "B" (.int 0) ∧
  (∃ kb, Z.vm.findClass "[B" = some kb ∧ RoadKit.Arv Z h' h.size kb .byte zn (cs.map fun c => .int (lo8 c)) (.int 0)) ∧
  ∀ (O n d : String) (w : Value), RoadKit.Fld Z h x O n d w → RoadKit.slotOf Z O n d ≠ RoadKit.slotOf Z ST "value" "[B" → RoadKit.slotOf Z O n d ≠ RoadKit.slotOf Z ST "coder" "B" → RoadKit.Fld Z h' x O n d w
/-- **new String(chars) AT A CALL, THE ARRAYS AS LISTS**: the char[] at b holds cs, not empty, no char above 255 -/
theorem backArv {p : Program} {l : Launch} {e : Env} {R : Room} {s : State} {args : Array Value} {below : List Frame} {len W : Nat} {Z : State} {a0 : Array Value} {h : Heap} (hZ : Z.Warmed39 s.vm) (hw : ∀ d ∈ words, d.before a0 Z = true) {kI : Nat} (wi : (Jvm.Cond.instantiable ST kI).before a0 Z = true)
    {x b : Addr} {k : ClassId} {zn z : Int32} {cs : List Int32} {dv v0 c0 : Value} (E : RoadKit.Exa Z h x ST) (V : RoadKit.Fld Z h x ST "value" "[B" v0) (C : RoadKit.Fld Z h x ST "coder" "B" c0) (K : RoadKit.Arv Z h b k .char zn (cs.map Value.int) dv) (S : RoadKit.Sta Z h ST "COMPACT_STRINGS" "Z" (.int z)) (hz : ¬ z = 0)
    (hlen : zn.toNatClampNeg = cs.length) (h0 : 0 < cs.length) (hbig : cs.length ≤ 536870912) (hall : ∀ c ∈ cs, ¬ 255 < c) (hfr : 4 ≤ R.frames) (hlo : W + 65 ≤ R.locals) :
    Back l R p e below s args New1.yN len W (fun P a => a = #[.ref x, .ref b] ∧ P.U.heap = h ∧ P.cells + 1 ≤ R.cells ∧ P.slots + cs.length ≤ R.slots)
      (fun P _ v B => ∃ L, QA Z x zn cs h v B.U.heap L ∧ B.locs = P.locs ++ L ∧ B.cells = P.cells + 1 ∧ B.slots = P.slots + cs.length) := by
  obtain ⟨A, K1, K2, K3, K4, K5, K6⟩ := K
  have e : A.slots.size = cs.length := K3.trans hlen
  have hat : ∀ (i : Nat) (hi : i < cs.length), A.slots[i]? = some (.int cs[i]) := fun i hi => by rw [K5 i (by omega)]; simp [List.getD_eq_getElem?_getD, hi]
  have hcv : ∀ (i : Nat) (hi : i < cs.length), cv A i = cs[i] := fun i hi => by unfold cv; rw [hat i hi]
  have hty : Typed .char A := fun i v hv => by
    have hi : i < A.slots.size := (Array.getElem?_eq_some_iff.mp hv).1
    have q := K5 i hi
    rw [hv] at q
    rw [Option.some.inj q]
    exact K6 i hi
  refine Back.mono (back hZ hw wi E V C K1 hty S hz (by omega) (by omega) (fun i hi => by rw [hcv i (by omega)]; exact hall _ (List.getElem_mem _)) hfr hlo) (fun P a hp => ⟨hp.1, hp.2.1, hp.2.2.1, by rw [e]; exact hp.2.2.2⟩) (fun P a v B hp hq => ?_)
  obtain ⟨L, ⟨q1, q2, q3, q4, q5, q6, q7, ⟨V', v1, v2, v3, v4, v5⟩, q9⟩, hl, hc, hs⟩ := hq
  refine ⟨L, ⟨q1, q2, q3, q4, q5, q6, q7, ⟨V'.cls, v3, V', v1, rfl, by rw [v4, e, hlen], K4, fun i hi => ?_, fun i hi => ?_⟩, q9⟩, hl, hc, by rw [hs, e]⟩
  · have hi' : i < cs.length := by omega
    rw [v5 i (by omega), hcv i hi']; simp [List.getD_eq_getElem?_getD, hi']
  · have hi' : i < cs.length := by omega
    simp only [List.getD_eq_getElem?_getD, List.getElem?_map, List.getElem?_eq_getElem hi', Option.map_some, Option.getD_some]
    exact fits_lo8 _
end StrChars.Road
namespace StrChars.Road
open Jvm Sem ClassFile Op Lib Jvm.Stand Jvm.Free Jvm.Free.XT
/-- WHAT COMES BACK, in the writer's own shape -/
def QV (Z : State) (x : Addr) (N : Int32) (bs : List Int32) (h : Heap) (n0 : Nat) (v : Option Value) (h' : Heap) (L : List Loc) : Prop := v = none ∧ RoadKit.Fr n0 L ∧ RoadKit.Keep h h' [x] ∧ RoadKit.Exa Z h' x ST ∧ RoadKit.Fld Z h' x ST "coder" "B" (.int 0) ∧
  ∃ (t : Addr) (kb : ClassId), n0 ≤ t ∧ h.size ≤ t ∧ ¬ t = x ∧ RoadKit.Fld Z h' x ST "value" "[B" (.ref t) ∧ RoadKit.Arv Z h' t kb .byte N (bs.map Value.int) (.int 0)
/-- **new String(chars) AT A CALL, FOR THE WRITER**: a char[] of n known ints, each 0 to 255 -/
theorem backV {p : Program} {l : Launch} {e : Env} {R : Room} {s : State} {args : Array Value} {below : List Frame} {len W : Nat} {Z : State} {a0 : Array Value} {h : Heap} (hZ : Z.Warmed39 s.vm) (hw : ∀ d ∈ words, d.before a0 Z = true) {kI : Nat} (wi : (Jvm.Cond.instantiable ST kI).before a0 Z = true)
    {x b : Addr} {kC : ClassId} {cs bs : List Int32} {d v0 c0 : Value} {z N : Int32} {n n0 : Nat} (hx0 : n0 ≤ x) (hh0 : n0 ≤ h.size) (E : RoadKit.Exa Z h x ST) (V : RoadKit.Fld Z h x ST "value" "[B" v0) (C : RoadKit.Fld Z h x ST "coder" "B" c0) (K : RoadKit.Arv Z h b kC .char N (cs.map Value.int) d) (S : RoadKit.Sta Z h ST "COMPACT_STRINGS" "Z" (.int z)) (hz : ¬ z = 0)
    (hn : cs.length = n) (hN : N = Int32.ofNat n) (l0 : 0 < n) (l2 : n ≤ 4000) (hp : ∀ c ∈ cs, ¬ c < 0 ∧ ¬ (255 : Int32) < c) (hb : bs = cs.map (fun c => c.toInt8.toInt32)) (hfr : 4 ≤ R.frames) (hlo : W + 65 ≤ R.locals) :
    Back l R p e below s args (⟨"java/lang/String", "<init>", "([C)V"⟩ : MethodName) len W (fun P a => a = #[.ref x, .ref b] ∧ P.U.heap = h ∧ P.cells + 1 ≤ R.cells ∧ P.slots + n ≤ R.slots)
      (fun P _ v B => ∃ L, QV Z x N bs h n0 v B.U.heap L ∧ B.locs = P.locs ++ L ∧ B.cells = P.cells + 1 ∧ B.slots = P.slots + n) := by
  subst hn hN hb
  refine Back.mono (backArv hZ hw wi E V C K S hz (n32 (by omega)) l0 (by omega) (fun c hc => (hp c hc).2) hfr hlo) (fun P a hp => hp) (fun P a v B hp hq => ?_)
  obtain ⟨L, ⟨q1, q2, q3, q4, q5, q6, q7, ⟨kb, v1, v2⟩, q9⟩, hl, hc, hs⟩ := hq
  exact ⟨L, ⟨q1, fun y hy => by rw [q2 y hy]; exact hx0, q3, q5, q7, h.size, kb, hh0, Nat.le_refl _, Nat.ne_of_gt E.lt, q6, by rw [List.map_map]; exact v2⟩, hl, hc, hs⟩
end StrChars.Road
end Jvm.Pilot.@@N@@
namespace Jvm.Pilot.@@N@@
open Jvm Jvm.ClassFile Sem Op Lib Jvm.Free Jvm.Stand Jvm.LawKit Jvm.RoadKit Bundle Jvm.Pilot.@@N@@.Jvm.D
theorem own_pn49559764 : plainFor (⟨"com/example/zonegrant/zonegrant/service/OAuthExceptionRetryAfterPinLaw", "pick", "(I)Lcom/example/zonegrant/zonegrant/service/OAuthError;"⟩ : MethodName) = true := by first | exact Jvm.Free.JP.mathPlain rfl (by decide +kernel) | exact plainFor_of_name (by first | (simp [plainName, overriddenIn]; done) | decide +kernel) | decide +kernel
theorem own_d1_0 : decode method_2_code 0 = .ok (.iload_n 0, 1) := by decide +kernel
theorem own_d1_1 : decode method_2_code 1 = .ok (.ldc 7, 2) := by decide +kernel
theorem own_d1_3 : decode method_2_code 3 = .ok (.iand, 1) := by decide +kernel
theorem own_d1_4 : decode method_2_code 4 = .ok (.bipush 13, 2) := by decide +kernel
theorem own_d1_6 : decode method_2_code 6 = .ok (.irem, 1) := by decide +kernel
theorem own_d1_7 : decode method_2_code 7 = .ok (.istore_n 1, 1) := by decide +kernel
theorem own_d1_8 : decode method_2_code 8 = .ok (.iload_n 1, 1) := by decide +kernel
theorem own_d1_9 : decode method_2_code 9 = .ok (.ifCond .ne 7, 3) := by decide +kernel
theorem own_d1_12 : decode method_2_code 12 = .ok (.getstatic 8, 3) := by decide +kernel
theorem own_d1_15 : decode method_2_code 15 = .ok (.areturn, 1) := by decide +kernel
theorem own_d1_16 : decode method_2_code 16 = .ok (.iload_n 1, 1) := by decide +kernel
theorem own_d1_17 : decode method_2_code 17 = .ok (.iconst 1, 1) := by decide +kernel
theorem own_d1_18 : decode method_2_code 18 = .ok (.if_icmp .ne 7, 3) := by decide +kernel
theorem own_d1_21 : decode method_2_code 21 = .ok (.getstatic 14, 3) := by decide +kernel
theorem own_d1_24 : decode method_2_code 24 = .ok (.areturn, 1) := by decide +kernel
theorem own_d1_25 : decode method_2_code 25 = .ok (.iload_n 1, 1) := by decide +kernel
theorem own_d1_26 : decode method_2_code 26 = .ok (.iconst 2, 1) := by decide +kernel
theorem own_d1_27 : decode method_2_code 27 = .ok (.if_icmp .ne 7, 3) := by decide +kernel
theorem own_d1_30 : decode method_2_code 30 = .ok (.getstatic 17, 3) := by decide +kernel
theorem own_d1_33 : decode method_2_code 33 = .ok (.areturn, 1) := by decide +kernel
theorem own_d1_34 : decode method_2_code 34 = .ok (.iload_n 1, 1) := by decide +kernel
theorem own_d1_35 : decode method_2_code 35 = .ok (.iconst 3, 1) := by decide +kernel
theorem own_d1_36 : decode method_2_code 36 = .ok (.if_icmp .ne 7, 3) := by decide +kernel
theorem own_d1_39 : decode method_2_code 39 = .ok (.getstatic 20, 3) := by decide +kernel
theorem own_d1_42 : decode method_2_code 42 = .ok (.areturn, 1) := by decide +kernel
theorem own_d1_43 : decode method_2_code 43 = .ok (.iload_n 1, 1) := by decide +kernel
theorem own_d1_44 : decode method_2_code 44 = .ok (.iconst 4, 1) := by decide +kernel
theorem own_d1_45 : decode method_2_code 45 = .ok (.if_icmp .ne 7, 3) := by decide +kernel
theorem own_d1_48 : decode method_2_code 48 = .ok (.getstatic 23, 3) := by decide +kernel
theorem own_d1_51 : decode method_2_code 51 = .ok (.areturn, 1) := by decide +kernel
theorem own_d1_52 : decode method_2_code 52 = .ok (.iload_n 1, 1) := by decide +kernel
theorem own_d1_53 : decode method_2_code 53 = .ok (.iconst 5, 1) := by decide +kernel
theorem own_d1_54 : decode method_2_code 54 = .ok (.if_icmp .ne 7, 3) := by decide +kernel
theorem own_d1_57 : decode method_2_code 57 = .ok (.getstatic 26, 3) := by decide +kernel
theorem own_d1_60 : decode method_2_code 60 = .ok (.areturn, 1) := by decide +kernel
theorem own_d1_61 : decode method_2_code 61 = .ok (.iload_n 1, 1) := by decide +kernel
theorem own_d1_62 : decode method_2_code 62 = .ok (.bipush 6, 2) := by decide +kernel
theorem own_d1_64 : decode method_2_code 64 = .ok (.if_icmp .ne 7, 3) := by decide +kernel
theorem own_d1_67 : decode method_2_code 67 = .ok (.getstatic 29, 3) := by decide +kernel
theorem own_d1_70 : decode method_2_code 70 = .ok (.areturn, 1) := by decide +kernel
theorem own_d1_71 : decode method_2_code 71 = .ok (.iload_n 1, 1) := by decide +kernel
theorem own_d1_72 : decode method_2_code 72 = .ok (.bipush 7, 2) := by decide +kernel
theorem own_d1_74 : decode method_2_code 74 = .ok (.if_icmp .ne 7, 3) := by decide +kernel
theorem own_d1_77 : decode method_2_code 77 = .ok (.getstatic 32, 3) := by decide +kernel
theorem own_d1_80 : decode method_2_code 80 = .ok (.areturn, 1) := by decide +kernel
theorem own_d1_81 : decode method_2_code 81 = .ok (.iload_n 1, 1) := by decide +kernel
theorem own_d1_82 : decode method_2_code 82 = .ok (.bipush 8, 2) := by decide +kernel
theorem own_d1_84 : decode method_2_code 84 = .ok (.if_icmp .ne 7, 3) := by decide +kernel
theorem own_d1_87 : decode method_2_code 87 = .ok (.getstatic 35, 3) := by decide +kernel
theorem own_d1_90 : decode method_2_code 90 = .ok (.areturn, 1) := by decide +kernel
theorem own_d1_91 : decode method_2_code 91 = .ok (.iload_n 1, 1) := by decide +kernel
theorem own_d1_92 : decode method_2_code 92 = .ok (.bipush 9, 2) := by decide +kernel
theorem own_d1_94 : decode method_2_code 94 = .ok (.if_icmp .ne 7, 3) := by decide +kernel
theorem own_d1_97 : decode method_2_code 97 = .ok (.getstatic 38, 3) := by decide +kernel
theorem own_d1_100 : decode method_2_code 100 = .ok (.areturn, 1) := by decide +kernel
theorem own_d1_101 : decode method_2_code 101 = .ok (.iload_n 1, 1) := by decide +kernel
theorem own_d1_102 : decode method_2_code 102 = .ok (.bipush 10, 2) := by decide +kernel
theorem own_d1_104 : decode method_2_code 104 = .ok (.if_icmp .ne 7, 3) := by decide +kernel
theorem own_d1_107 : decode method_2_code 107 = .ok (.getstatic 41, 3) := by decide +kernel
theorem own_d1_110 : decode method_2_code 110 = .ok (.areturn, 1) := by decide +kernel
theorem own_d1_111 : decode method_2_code 111 = .ok (.iload_n 1, 1) := by decide +kernel
theorem own_d1_112 : decode method_2_code 112 = .ok (.bipush 11, 2) := by decide +kernel
theorem own_d1_114 : decode method_2_code 114 = .ok (.if_icmp .ne 7, 3) := by decide +kernel
theorem own_d1_117 : decode method_2_code 117 = .ok (.getstatic 44, 3) := by decide +kernel
theorem own_d1_120 : decode method_2_code 120 = .ok (.areturn, 1) := by decide +kernel
theorem own_d1_121 : decode method_2_code 121 = .ok (.getstatic 47, 3) := by decide +kernel
theorem own_d1_124 : decode method_2_code 124 = .ok (.areturn, 1) := by decide +kernel
theorem own_ef_rm_pick (m : MethodId) (x0 : Int32) : entryFrame m #[(.int x0)] 2 = mkF m 0 #[.val (.int x0), .unset] [] := by first | (simp [entryFrame, mkF, argsToLocals, Value.category]; done) | rfl
def Q_rm_pick (Z : State) (p0 : Int32) (x0 : Nat) (x1 : Nat) (x2 : Nat) (x3 : Nat) (x4 : Nat) (x5 : Nat) (x6 : Nat) (x7 : Nat) (x8 : Nat) (x9 : Nat) (x10 : Nat) (x11 : Nat) (x12 : Nat) (h0 : Heap) (n0 : Nat) (v : Option Value) (h : Heap) (L : List Loc) : Prop := ∃ (r : Nat), v = some (.ref r) ∧ Fr n0 L ∧ h = h0
set_option maxRecDepth 65536 in
set_option maxHeartbeats 40000000 in
theorem rm_pick (l : Launch) (Z : State) (a0 : Array Value) (hw : ∀ d ∈ tables_1, d.before a0 Z = true) (p0 : Int32) (x0 : Nat) (x1 : Nat) (x2 : Nat) (x3 : Nat) (x4 : Nat) (x5 : Nat) (x6 : Nat) (x7 : Nat) (x8 : Nat) (x9 : Nat) (x10 : Nat) (x11 : Nat) (x12 : Nat) (h0 : Heap) (n0 : Nat) (Z0 : n0 ≤ h0.size) (pf0 : Sta Z Z.heap "com/example/zonegrant/zonegrant/service/OAuthError" "INVALID_REQUEST" "Lcom/example/zonegrant/zonegrant/service/OAuthError;" (.ref x0)) (pf1 : Sta Z Z.heap "com/example/zonegrant/zonegrant/service/OAuthError" "INVALID_CLIENT" "Lcom/example/zonegrant/zonegrant/service/OAuthError;" (.ref x1)) (pf2 : Sta Z Z.heap "com/example/zonegrant/zonegrant/service/OAuthError" "INVALID_GRANT" "Lcom/example/zonegrant/zonegrant/service/OAuthError;" (.ref x2)) (pf3 : Sta Z Z.heap "com/example/zonegrant/zonegrant/service/OAuthError" "UNAUTHORIZED_CLIENT" "Lcom/example/zonegrant/zonegrant/service/OAuthError;" (.ref x3)) (pf4 : Sta Z Z.heap "com/example/zonegrant/zonegrant/service/OAuthError" "UNSUPPORTED_GRANT_TYPE" "Lcom/example/zonegrant/zonegrant/service/OAuthError;" (.ref x4)) (pf5 : Sta Z Z.heap "com/example/zonegrant/zonegrant/service/OAuthError" "INVALID_SCOPE" "Lcom/example/zonegrant/zonegrant/service/OAuthError;" (.ref x5)) (pf6 : Sta Z Z.heap "com/example/zonegrant/zonegrant/service/OAuthError" "UNSUPPORTED_RESPONSE_TYPE" "Lcom/example/zonegrant/zonegrant/service/OAuthError;" (.ref x6)) (pf7 : Sta Z Z.heap "com/example/zonegrant/zonegrant/service/OAuthError" "INVALID_TOKEN" "Lcom/example/zonegrant/zonegrant/service/OAuthError;" (.ref x7)) (pf8 : Sta Z Z.heap "com/example/zonegrant/zonegrant/service/OAuthError" "ACCESS_DENIED" "Lcom/example/zonegrant/zonegrant/service/OAuthError;" (.ref x8)) (pf9 : Sta Z Z.heap "com/example/zonegrant/zonegrant/service/OAuthError" "INVALID_CLIENT_METADATA" "Lcom/example/zonegrant/zonegrant/service/OAuthError;" (.ref x9)) (pf10 : Sta Z Z.heap "com/example/zonegrant/zonegrant/service/OAuthError" "INSUFFICIENT_SCOPE" "Lcom/example/zonegrant/zonegrant/service/OAuthError;" (.ref x10)) (pf11 : Sta Z Z.heap "com/example/zonegrant/zonegrant/service/OAuthError" "NOT_FOUND" "Lcom/example/zonegrant/zonegrant/service/OAuthError;" (.ref x11)) (pf12 : Sta Z Z.heap "com/example/zonegrant/zonegrant/service/OAuthError" "CONFLICT" "Lcom/example/zonegrant/zonegrant/service/OAuthError;" (.ref x12)) (pf13 : Old Z n0 h0) :
    own_CT l Z (⟨"com/example/zonegrant/zonegrant/service/OAuthExceptionRetryAfterPinLaw", "pick", "(I)Lcom/example/zonegrant/zonegrant/service/OAuthError;"⟩ : MethodName) method_2_code 2 (some (.object "com/example/zonegrant/zonegrant/service/OAuthError")) ({ frames := 0, cells := 0, slots := 0, locals := 0 } : Room) #[(.int p0)] h0 (Q_rm_pick Z p0 x0 x1 x2 x3 x4 x5 x6 x7 x8 x9 x10 x11 x12 h0 n0) := by
  refine own_of own_pn49559764 (Ls := #[.val (.int p0), .unset]) (fun m => own_ef_rm_pick m p0) ?_
  intro p e s m below meth c T0 X0 hx hby hml hown hnm hret hZ e0 hlk
  have hown : s.vm.findClass "com/example/zonegrant/zonegrant/service/OAuthExceptionRetryAfterPinLaw" = some m.cls := hown
  have N0 := Fr.nil n0
  refine own_via (T0.setTop (mkF m 1 #[.val (.int p0), .unset] [(.int p0)])) (fun t k => XS.iloadN X0.here hx rfl (hb hby own_d1_0) rfl k) ?_
  refine own_via (T0.setTop (mkF m 3 #[.val (.int p0), .unset] [(.int (2147483647 : Int32)), (.int p0)])) (fun t k => X0.ldcInt hx hown (mvT hZ (hw _ (List.mem_of_getElem? (i := 4) rfl))) (g := (mkF m 1 #[.val (.int p0), .unset] [(.int p0)])) rfl (hb hby own_d1_1) t k) ?_
  refine own_via (T0.setTop (mkF m 4 #[.val (.int p0), .unset] [(.int (p0 &&& (2147483647 : Int32)))])) (fun t k => XS.iand X0.here hx rfl (hb hby own_d1_3) rfl k) ?_
  refine own_via (T0.setTop (mkF m 6 #[.val (.int p0), .unset] [(.int (13 : Int32)), (.int (p0 &&& (2147483647 : Int32)))])) (fun t k => XS.bipush X0.here hx rfl (hb hby own_d1_4) k) ?_
  refine own_via (T0.setTop (mkF m 7 #[.val (.int p0), .unset] [(.int ((p0 &&& (2147483647 : Int32)) % (13 : Int32)))])) (fun t k => iremM X0 hx rfl (hb hby own_d1_6) rfl (by decide) k) ?_
  refine own_via (T0.setTop (mkF m 8 #[.val (.int p0), .val (.int ((p0 &&& (2147483647 : Int32)) % (13 : Int32)))] [])) (fun t k => XS.istoreN X0.here hx rfl (hb hby own_d1_7) rfl (l' := #[.val (.int p0), .val (.int ((p0 &&& (2147483647 : Int32)) % (13 : Int32)))]) rfl k) ?_
  refine own_via (T0.setTop (mkF m 9 #[.val (.int p0), .val (.int ((p0 &&& (2147483647 : Int32)) % (13 : Int32)))] [(.int ((p0 &&& (2147483647 : Int32)) % (13 : Int32)))])) (fun t k => XS.iloadN X0.here hx rfl (hb hby own_d1_8) rfl k) ?_
  by_cases hk0 : ((p0 &&& (2147483647 : Int32)) % (13 : Int32)) = 0
  · refine own_via (T0.setTop (mkF m 12 #[.val (.int p0), .val (.int ((p0 &&& (2147483647 : Int32)) % (13 : Int32)))] [])) (fun t k => XS.ifNo X0.here hx rfl (hb hby own_d1_9) rfl (XT.i0_ne_f hk0) k) ?_
    obtain ⟨T1, X1, e1, st1⟩ := getS X0 hx hZ (host := "") hown (hw _ (List.mem_of_getElem? (i := 5) rfl)) Via.refl e0 (pf0.ext pf13.2) (g := (mkF m 12 #[.val (.int p0), .val (.int ((p0 &&& (2147483647 : Int32)) % (13 : Int32)))] [])) rfl (hb hby own_d1_12)
    refine own_via (T1.setTop (mkF m 15 #[.val (.int p0), .val (.int ((p0 &&& (2147483647 : Int32)) % (13 : Int32)))] [(.ref x0)])) (st1) ?_
    exact own_retA X1 hx hlk hret rfl rfl (hb hby own_d1_15) e1 (⟨x0, rfl, N0, rfl⟩) (by decide) (by decide)
  · refine own_via (T0.setTop (mkF m 16 #[.val (.int p0), .val (.int ((p0 &&& (2147483647 : Int32)) % (13 : Int32)))] [])) (fun t k => XS.ifYes X0.here hx rfl (pc0 := 9) (pc' := 16) rfl (hb hby own_d1_9) rfl (XT.i0_ne_t hk0) (by decide) (by decide) k) ?_
    refine own_via (T0.setTop (mkF m 17 #[.val (.int p0), .val (.int ((p0 &&& (2147483647 : Int32)) % (13 : Int32)))] [(.int ((p0 &&& (2147483647 : Int32)) % (13 : Int32)))])) (fun t k => XS.iloadN X0.here hx rfl (hb hby own_d1_16) rfl k) ?_
    refine own_via (T0.setTop (mkF m 18 #[.val (.int p0), .val (.int ((p0 &&& (2147483647 : Int32)) % (13 : Int32)))] [(.int (1 : Int32)), (.int ((p0 &&& (2147483647 : Int32)) % (13 : Int32)))])) (fun t k => XS.iconst X0.here hx rfl (hb hby own_d1_17) k) ?_
    by_cases hk1 : ((p0 &&& (2147483647 : Int32)) % (13 : Int32)) = (1 : Int32)
    · refine own_via (T0.setTop (mkF m 21 #[.val (.int p0), .val (.int ((p0 &&& (2147483647 : Int32)) % (13 : Int32)))] [])) (fun t k => XS.icmpNo X0.here hx rfl (hb hby own_d1_18) rfl (XT.ii_ne_f hk1) k) ?_
      obtain ⟨T2, X2, e2, st2⟩ := getS X0 hx hZ (host := "") hown (hw _ (List.mem_of_getElem? (i := 142) rfl)) Via.refl e0 (pf1.ext pf13.2) (g := (mkF m 21 #[.val (.int p0), .val (.int ((p0 &&& (2147483647 : Int32)) % (13 : Int32)))] [])) rfl (hb hby own_d1_21)
      refine own_via (T2.setTop (mkF m 24 #[.val (.int p0), .val (.int ((p0 &&& (2147483647 : Int32)) % (13 : Int32)))] [(.ref x1)])) (st2) ?_
      exact own_retA X2 hx hlk hret rfl rfl (hb hby own_d1_24) e2 (⟨x1, rfl, N0, rfl⟩) (by decide) (by decide)
    · refine own_via (T0.setTop (mkF m 25 #[.val (.int p0), .val (.int ((p0 &&& (2147483647 : Int32)) % (13 : Int32)))] [])) (fun t k => XS.icmpYes X0.here hx rfl (pc0 := 18) (pc' := 25) rfl (hb hby own_d1_18) rfl (XT.ii_ne_t hk1) (by decide) (by decide) k) ?_
      refine own_via (T0.setTop (mkF m 26 #[.val (.int p0), .val (.int ((p0 &&& (2147483647 : Int32)) % (13 : Int32)))] [(.int ((p0 &&& (2147483647 : Int32)) % (13 : Int32)))])) (fun t k => XS.iloadN X0.here hx rfl (hb hby own_d1_25) rfl k) ?_
      refine own_via (T0.setTop (mkF m 27 #[.val (.int p0), .val (.int ((p0 &&& (2147483647 : Int32)) % (13 : Int32)))] [(.int (2 : Int32)), (.int ((p0 &&& (2147483647 : Int32)) % (13 : Int32)))])) (fun t k => XS.iconst X0.here hx rfl (hb hby own_d1_26) k) ?_
      by_cases hk2 : ((p0 &&& (2147483647 : Int32)) % (13 : Int32)) = (2 : Int32)
      · refine own_via (T0.setTop (mkF m 30 #[.val (.int p0), .val (.int ((p0 &&& (2147483647 : Int32)) % (13 : Int32)))] [])) (fun t k => XS.icmpNo X0.here hx rfl (hb hby own_d1_27) rfl (XT.ii_ne_f hk2) k) ?_
        obtain ⟨T3, X3, e3, st3⟩ := getS X0 hx hZ (host := "") hown (hw _ (List.mem_of_getElem? (i := 144) rfl)) Via.refl e0 (pf2.ext pf13.2) (g := (mkF m 30 #[.val (.int p0), .val (.int ((p0 &&& (2147483647 : Int32)) % (13 : Int32)))] [])) rfl (hb hby own_d1_30)
        refine own_via (T3.setTop (mkF m 33 #[.val (.int p0), .val (.int ((p0 &&& (2147483647 : Int32)) % (13 : Int32)))] [(.ref x2)])) (st3) ?_
        exact own_retA X3 hx hlk hret rfl rfl (hb hby own_d1_33) e3 (⟨x2, rfl, N0, rfl⟩) (by decide) (by decide)
      · refine own_via (T0.setTop (mkF m 34 #[.val (.int p0), .val (.int ((p0 &&& (2147483647 : Int32)) % (13 : Int32)))] [])) (fun t k => XS.icmpYes X0.here hx rfl (pc0 := 27) (pc' := 34) rfl (hb hby own_d1_27) rfl (XT.ii_ne_t hk2) (by decide) (by decide) k) ?_
        refine own_via (T0.setTop (mkF m 35 #[.val (.int p0), .val (.int ((p0 &&& (2147483647 : Int32)) % (13 : Int32)))] [(.int ((p0 &&& (2147483647 : Int32)) % (13 : Int32)))])) (fun t k => XS.iloadN X0.here hx rfl (hb hby own_d1_34) rfl k) ?_
        refine own_via (T0.setTop (mkF m 36 #[.val (.int p0), .val (.int ((p0 &&& (2147483647 : Int32)) % (13 : Int32)))] [(.int (3 : Int32)), (.int ((p0 &&& (2147483647 : Int32)) % (13 : Int32)))])) (fun t k => XS.iconst X0.here hx rfl (hb hby own_d1_35) k) ?_
        by_cases hk3 : ((p0 &&& (2147483647 : Int32)) % (13 : Int32)) = (3 : Int32)
        · refine own_via (T0.setTop (mkF m 39 #[.val (.int p0), .val (.int ((p0 &&& (2147483647 : Int32)) % (13 : Int32)))] [])) (fun t k => XS.icmpNo X0.here hx rfl (hb hby own_d1_36) rfl (XT.ii_ne_f hk3) k) ?_
          obtain ⟨T4, X4, e4, st4⟩ := getS X0 hx hZ (host := "") hown (hw _ (List.mem_of_getElem? (i := 118) rfl)) Via.refl e0 (pf3.ext pf13.2) (g := (mkF m 39 #[.val (.int p0), .val (.int ((p0 &&& (2147483647 : Int32)) % (13 : Int32)))] [])) rfl (hb hby own_d1_39)
          refine own_via (T4.setTop (mkF m 42 #[.val (.int p0), .val (.int ((p0 &&& (2147483647 : Int32)) % (13 : Int32)))] [(.ref x3)])) (st4) ?_
          exact own_retA X4 hx hlk hret rfl rfl (hb hby own_d1_42) e4 (⟨x3, rfl, N0, rfl⟩) (by decide) (by decide)
        · refine own_via (T0.setTop (mkF m 43 #[.val (.int p0), .val (.int ((p0 &&& (2147483647 : Int32)) % (13 : Int32)))] [])) (fun t k => XS.icmpYes X0.here hx rfl (pc0 := 36) (pc' := 43) rfl (hb hby own_d1_36) rfl (XT.ii_ne_t hk3) (by decide) (by decide) k) ?_
          refine own_via (T0.setTop (mkF m 44 #[.val (.int p0), .val (.int ((p0 &&& (2147483647 : Int32)) % (13 : Int32)))] [(.int ((p0 &&& (2147483647 : Int32)) % (13 : Int32)))])) (fun t k => XS.iloadN X0.here hx rfl (hb hby own_d1_43) rfl k) ?_
          refine own_via (T0.setTop (mkF m 45 #[.val (.int p0), .val (.int ((p0 &&& (2147483647 : Int32)) % (13 : Int32)))] [(.int (4 : Int32)), (.int ((p0 &&& (2147483647 : Int32)) % (13 : Int32)))])) (fun t k => XS.iconst X0.here hx rfl (hb hby own_d1_44) k) ?_
          by_cases hk4 : ((p0 &&& (2147483647 : Int32)) % (13 : Int32)) = (4 : Int32)
          · refine own_via (T0.setTop (mkF m 48 #[.val (.int p0), .val (.int ((p0 &&& (2147483647 : Int32)) % (13 : Int32)))] [])) (fun t k => XS.icmpNo X0.here hx rfl (hb hby own_d1_45) rfl (XT.ii_ne_f hk4) k) ?_
            obtain ⟨T5, X5, e5, st5⟩ := getS X0 hx hZ (host := "") hown (hw _ (List.mem_of_getElem? (i := 146) rfl)) Via.refl e0 (pf4.ext pf13.2) (g := (mkF m 48 #[.val (.int p0), .val (.int ((p0 &&& (2147483647 : Int32)) % (13 : Int32)))] [])) rfl (hb hby own_d1_48)
            refine own_via (T5.setTop (mkF m 51 #[.val (.int p0), .val (.int ((p0 &&& (2147483647 : Int32)) % (13 : Int32)))] [(.ref x4)])) (st5) ?_
            exact own_retA X5 hx hlk hret rfl rfl (hb hby own_d1_51) e5 (⟨x4, rfl, N0, rfl⟩) (by decide) (by decide)
          · refine own_via (T0.setTop (mkF m 52 #[.val (.int p0), .val (.int ((p0 &&& (2147483647 : Int32)) % (13 : Int32)))] [])) (fun t k => XS.icmpYes X0.here hx rfl (pc0 := 45) (pc' := 52) rfl (hb hby own_d1_45) rfl (XT.ii_ne_t hk4) (by decide) (by decide) k) ?_
            refine own_via (T0.setTop (mkF m 53 #[.val (.int p0), .val (.int ((p0 &&& (2147483647 : Int32)) % (13 : Int32)))] [(.int ((p0 &&& (2147483647 : Int32)) % (13 : Int32)))])) (fun t k => XS.iloadN X0.here hx rfl (hb hby own_d1_52) rfl k) ?_
            refine own_via (T0.setTop (mkF m 54 #[.val (.int p0), .val (.int ((p0 &&& (2147483647 : Int32)) % (13 : Int32)))] [(.int (5 : Int32)), (.int ((p0 &&& (2147483647 : Int32)) % (13 : Int32)))])) (fun t k => XS.iconst X0.here hx rfl (hb hby own_d1_53) k) ?_
            by_cases hk5 : ((p0 &&& (2147483647 : Int32)) % (13 : Int32)) = (5 : Int32)
            · refine own_via (T0.setTop (mkF m 57 #[.val (.int p0), .val (.int ((p0 &&& (2147483647 : Int32)) % (13 : Int32)))] [])) (fun t k => XS.icmpNo X0.here hx rfl (hb hby own_d1_54) rfl (XT.ii_ne_f hk5) k) ?_
              obtain ⟨T6, X6, e6, st6⟩ := getS X0 hx hZ (host := "") hown (hw _ (List.mem_of_getElem? (i := 158) rfl)) Via.refl e0 (pf5.ext pf13.2) (g := (mkF m 57 #[.val (.int p0), .val (.int ((p0 &&& (2147483647 : Int32)) % (13 : Int32)))] [])) rfl (hb hby own_d1_57)
              refine own_via (T6.setTop (mkF m 60 #[.val (.int p0), .val (.int ((p0 &&& (2147483647 : Int32)) % (13 : Int32)))] [(.ref x5)])) (st6) ?_
              exact own_retA X6 hx hlk hret rfl rfl (hb hby own_d1_60) e6 (⟨x5, rfl, N0, rfl⟩) (by decide) (by decide)
            · refine own_via (T0.setTop (mkF m 61 #[.val (.int p0), .val (.int ((p0 &&& (2147483647 : Int32)) % (13 : Int32)))] [])) (fun t k => XS.icmpYes X0.here hx rfl (pc0 := 54) (pc' := 61) rfl (hb hby own_d1_54) rfl (XT.ii_ne_t hk5) (by decide) (by decide) k) ?_
              refine own_via (T0.setTop (mkF m 62 #[.val (.int p0), .val (.int ((p0 &&& (2147483647 : Int32)) % (13 : Int32)))] [(.int ((p0 &&& (2147483647 : Int32)) % (13 : Int32)))])) (fun t k => XS.iloadN X0.here hx rfl (hb hby own_d1_61) rfl k) ?_
              refine own_via (T0.setTop (mkF m 64 #[.val (.int p0), .val (.int ((p0 &&& (2147483647 : Int32)) % (13 : Int32)))] [(.int (6 : Int32)), (.int ((p0 &&& (2147483647 : Int32)) % (13 : Int32)))])) (fun t k => XS.bipush X0.here hx rfl (hb hby own_d1_62) k) ?_
              by_cases hk6 : ((p0 &&& (2147483647 : Int32)) % (13 : Int32)) = (6 : Int32)
              · refine own_via (T0.setTop (mkF m 67 #[.val (.int p0), .val (.int ((p0 &&& (2147483647 : Int32)) % (13 : Int32)))] [])) (fun t k => XS.icmpNo X0.here hx rfl (hb hby own_d1_64) rfl (XT.ii_ne_f hk6) k) ?_
                obtain ⟨T7, X7, e7, st7⟩ := getS X0 hx hZ (host := "") hown (hw _ (List.mem_of_getElem? (i := 150) rfl)) Via.refl e0 (pf6.ext pf13.2) (g := (mkF m 67 #[.val (.int p0), .val (.int ((p0 &&& (2147483647 : Int32)) % (13 : Int32)))] [])) rfl (hb hby own_d1_67)
                refine own_via (T7.setTop (mkF m 70 #[.val (.int p0), .val (.int ((p0 &&& (2147483647 : Int32)) % (13 : Int32)))] [(.ref x6)])) (st7) ?_
                exact own_retA X7 hx hlk hret rfl rfl (hb hby own_d1_70) e7 (⟨x6, rfl, N0, rfl⟩) (by decide) (by decide)
              · refine own_via (T0.setTop (mkF m 71 #[.val (.int p0), .val (.int ((p0 &&& (2147483647 : Int32)) % (13 : Int32)))] [])) (fun t k => XS.icmpYes X0.here hx rfl (pc0 := 64) (pc' := 71) rfl (hb hby own_d1_64) rfl (XT.ii_ne_t hk6) (by decide) (by decide) k) ?_
                refine own_via (T0.setTop (mkF m 72 #[.val (.int p0), .val (.int ((p0 &&& (2147483647 : Int32)) % (13 : Int32)))] [(.int ((p0 &&& (2147483647 : Int32)) % (13 : Int32)))])) (fun t k => XS.iloadN X0.here hx rfl (hb hby own_d1_71) rfl k) ?_
                refine own_via (T0.setTop (mkF m 74 #[.val (.int p0), .val (.int ((p0 &&& (2147483647 : Int32)) % (13 : Int32)))] [(.int (7 : Int32)), (.int ((p0 &&& (2147483647 : Int32)) % (13 : Int32)))])) (fun t k => XS.bipush X0.here hx rfl (hb hby own_d1_72) k) ?_
                by_cases hk7 : ((p0 &&& (2147483647 : Int32)) % (13 : Int32)) = (7 : Int32)
                · refine own_via (T0.setTop (mkF m 77 #[.val (.int p0), .val (.int ((p0 &&& (2147483647 : Int32)) % (13 : Int32)))] [])) (fun t k => XS.icmpNo X0.here hx rfl (hb hby own_d1_74) rfl (XT.ii_ne_f hk7) k) ?_
                  obtain ⟨T8, X8, e8, st8⟩ := getS X0 hx hZ (host := "") hown (hw _ (List.mem_of_getElem? (i := 160) rfl)) Via.refl e0 (pf7.ext pf13.2) (g := (mkF m 77 #[.val (.int p0), .val (.int ((p0 &&& (2147483647 : Int32)) % (13 : Int32)))] [])) rfl (hb hby own_d1_77)
                  refine own_via (T8.setTop (mkF m 80 #[.val (.int p0), .val (.int ((p0 &&& (2147483647 : Int32)) % (13 : Int32)))] [(.ref x7)])) (st8) ?_
                  exact own_retA X8 hx hlk hret rfl rfl (hb hby own_d1_80) e8 (⟨x7, rfl, N0, rfl⟩) (by decide) (by decide)
                · refine own_via (T0.setTop (mkF m 81 #[.val (.int p0), .val (.int ((p0 &&& (2147483647 : Int32)) % (13 : Int32)))] [])) (fun t k => XS.icmpYes X0.here hx rfl (pc0 := 74) (pc' := 81) rfl (hb hby own_d1_74) rfl (XT.ii_ne_t hk7) (by decide) (by decide) k) ?_
                  refine own_via (T0.setTop (mkF m 82 #[.val (.int p0), .val (.int ((p0 &&& (2147483647 : Int32)) % (13 : Int32)))] [(.int ((p0 &&& (2147483647 : Int32)) % (13 : Int32)))])) (fun t k => XS.iloadN X0.here hx rfl (hb hby own_d1_81) rfl k) ?_
                  refine own_via (T0.setTop (mkF m 84 #[.val (.int p0), .val (.int ((p0 &&& (2147483647 : Int32)) % (13 : Int32)))] [(.int (8 : Int32)), (.int ((p0 &&& (2147483647 : Int32)) % (13 : Int32)))])) (fun t k => XS.bipush X0.here hx rfl (hb hby own_d1_82) k) ?_
                  by_cases hk8 : ((p0 &&& (2147483647 : Int32)) % (13 : Int32)) = (8 : Int32)
                  · refine own_via (T0.setTop (mkF m 87 #[.val (.int p0), .val (.int ((p0 &&& (2147483647 : Int32)) % (13 : Int32)))] [])) (fun t k => XS.icmpNo X0.here hx rfl (hb hby own_d1_84) rfl (XT.ii_ne_f hk8) k) ?_
                    obtain ⟨T9, X9, e9, st9⟩ := getS X0 hx hZ (host := "") hown (hw _ (List.mem_of_getElem? (i := 152) rfl)) Via.refl e0 (pf8.ext pf13.2) (g := (mkF m 87 #[.val (.int p0), .val (.int ((p0 &&& (2147483647 : Int32)) % (13 : Int32)))] [])) rfl (hb hby own_d1_87)
                    refine own_via (T9.setTop (mkF m 90 #[.val (.int p0), .val (.int ((p0 &&& (2147483647 : Int32)) % (13 : Int32)))] [(.ref x8)])) (st9) ?_
                    exact own_retA X9 hx hlk hret rfl rfl (hb hby own_d1_90) e9 (⟨x8, rfl, N0, rfl⟩) (by decide) (by decide)
                  · refine own_via (T0.setTop (mkF m 91 #[.val (.int p0), .val (.int ((p0 &&& (2147483647 : Int32)) % (13 : Int32)))] [])) (fun t k => XS.icmpYes X0.here hx rfl (pc0 := 84) (pc' := 91) rfl (hb hby own_d1_84) rfl (XT.ii_ne_t hk8) (by decide) (by decide) k) ?_
                    refine own_via (T0.setTop (mkF m 92 #[.val (.int p0), .val (.int ((p0 &&& (2147483647 : Int32)) % (13 : Int32)))] [(.int ((p0 &&& (2147483647 : Int32)) % (13 : Int32)))])) (fun t k => XS.iloadN X0.here hx rfl (hb hby own_d1_91) rfl k) ?_
                    refine own_via (T0.setTop (mkF m 94 #[.val (.int p0), .val (.int ((p0 &&& (2147483647 : Int32)) % (13 : Int32)))] [(.int (9 : Int32)), (.int ((p0 &&& (2147483647 : Int32)) % (13 : Int32)))])) (fun t k => XS.bipush X0.here hx rfl (hb hby own_d1_92) k) ?_
                    by_cases hk9 : ((p0 &&& (2147483647 : Int32)) % (13 : Int32)) = (9 : Int32)
                    · refine own_via (T0.setTop (mkF m 97 #[.val (.int p0), .val (.int ((p0 &&& (2147483647 : Int32)) % (13 : Int32)))] [])) (fun t k => XS.icmpNo X0.here hx rfl (hb hby own_d1_94) rfl (XT.ii_ne_f hk9) k) ?_
                      obtain ⟨T10, X10, e10, st10⟩ := getS X0 hx hZ (host := "") hown (hw _ (List.mem_of_getElem? (i := 140) rfl)) Via.refl e0 (pf9.ext pf13.2) (g := (mkF m 97 #[.val (.int p0), .val (.int ((p0 &&& (2147483647 : Int32)) % (13 : Int32)))] [])) rfl (hb hby own_d1_97)
                      refine own_via (T10.setTop (mkF m 100 #[.val (.int p0), .val (.int ((p0 &&& (2147483647 : Int32)) % (13 : Int32)))] [(.ref x9)])) (st10) ?_
                      exact own_retA X10 hx hlk hret rfl rfl (hb hby own_d1_100) e10 (⟨x9, rfl, N0, rfl⟩) (by decide) (by decide)
                    · refine own_via (T0.setTop (mkF m 101 #[.val (.int p0), .val (.int ((p0 &&& (2147483647 : Int32)) % (13 : Int32)))] [])) (fun t k => XS.icmpYes X0.here hx rfl (pc0 := 94) (pc' := 101) rfl (hb hby own_d1_94) rfl (XT.ii_ne_t hk9) (by decide) (by decide) k) ?_
                      refine own_via (T0.setTop (mkF m 102 #[.val (.int p0), .val (.int ((p0 &&& (2147483647 : Int32)) % (13 : Int32)))] [(.int ((p0 &&& (2147483647 : Int32)) % (13 : Int32)))])) (fun t k => XS.iloadN X0.here hx rfl (hb hby own_d1_101) rfl k) ?_
                      refine own_via (T0.setTop (mkF m 104 #[.val (.int p0), .val (.int ((p0 &&& (2147483647 : Int32)) % (13 : Int32)))] [(.int (10 : Int32)), (.int ((p0 &&& (2147483647 : Int32)) % (13 : Int32)))])) (fun t k => XS.bipush X0.here hx rfl (hb hby own_d1_102) k) ?_
                      by_cases hk10 : ((p0 &&& (2147483647 : Int32)) % (13 : Int32)) = (10 : Int32)
                      · refine own_via (T0.setTop (mkF m 107 #[.val (.int p0), .val (.int ((p0 &&& (2147483647 : Int32)) % (13 : Int32)))] [])) (fun t k => XS.icmpNo X0.here hx rfl (hb hby own_d1_104) rfl (XT.ii_ne_f hk10) k) ?_
                        obtain ⟨T11, X11, e11, st11⟩ := getS X0 hx hZ (host := "") hown (hw _ (List.mem_of_getElem? (i := 156) rfl)) Via.refl e0 (pf10.ext pf13.2) (g := (mkF m 107 #[.val (.int p0), .val (.int ((p0 &&& (2147483647 : Int32)) % (13 : Int32)))] [])) rfl (hb hby own_d1_107)
                        refine own_via (T11.setTop (mkF m 110 #[.val (.int p0), .val (.int ((p0 &&& (2147483647 : Int32)) % (13 : Int32)))] [(.ref x10)])) (st11) ?_
                        exact own_retA X11 hx hlk hret rfl rfl (hb hby own_d1_110) e11 (⟨x10, rfl, N0, rfl⟩) (by decide) (by decide)
                      · refine own_via (T0.setTop (mkF m 111 #[.val (.int p0), .val (.int ((p0 &&& (2147483647 : Int32)) % (13 : Int32)))] [])) (fun t k => XS.icmpYes X0.here hx rfl (pc0 := 104) (pc' := 111) rfl (hb hby own_d1_104) rfl (XT.ii_ne_t hk10) (by decide) (by decide) k) ?_
                        refine own_via (T0.setTop (mkF m 112 #[.val (.int p0), .val (.int ((p0 &&& (2147483647 : Int32)) % (13 : Int32)))] [(.int ((p0 &&& (2147483647 : Int32)) % (13 : Int32)))])) (fun t k => XS.iloadN X0.here hx rfl (hb hby own_d1_111) rfl k) ?_
                        refine own_via (T0.setTop (mkF m 114 #[.val (.int p0), .val (.int ((p0 &&& (2147483647 : Int32)) % (13 : Int32)))] [(.int (11 : Int32)), (.int ((p0 &&& (2147483647 : Int32)) % (13 : Int32)))])) (fun t k => XS.bipush X0.here hx rfl (hb hby own_d1_112) k) ?_
                        by_cases hk11 : ((p0 &&& (2147483647 : Int32)) % (13 : Int32)) = (11 : Int32)
                        · refine own_via (T0.setTop (mkF m 117 #[.val (.int p0), .val (.int ((p0 &&& (2147483647 : Int32)) % (13 : Int32)))] [])) (fun t k => XS.icmpNo X0.here hx rfl (hb hby own_d1_114) rfl (XT.ii_ne_f hk11) k) ?_
                          obtain ⟨T12, X12, e12, st12⟩ := getS X0 hx hZ (host := "") hown (hw _ (List.mem_of_getElem? (i := 154) rfl)) Via.refl e0 (pf11.ext pf13.2) (g := (mkF m 117 #[.val (.int p0), .val (.int ((p0 &&& (2147483647 : Int32)) % (13 : Int32)))] [])) rfl (hb hby own_d1_117)
                          refine own_via (T12.setTop (mkF m 120 #[.val (.int p0), .val (.int ((p0 &&& (2147483647 : Int32)) % (13 : Int32)))] [(.ref x11)])) (st12) ?_
                          exact own_retA X12 hx hlk hret rfl rfl (hb hby own_d1_120) e12 (⟨x11, rfl, N0, rfl⟩) (by decide) (by decide)
                        · refine own_via (T0.setTop (mkF m 121 #[.val (.int p0), .val (.int ((p0 &&& (2147483647 : Int32)) % (13 : Int32)))] [])) (fun t k => XS.icmpYes X0.here hx rfl (pc0 := 114) (pc' := 121) rfl (hb hby own_d1_114) rfl (XT.ii_ne_t hk11) (by decide) (by decide) k) ?_
                          obtain ⟨T13, X13, e13, st13⟩ := getS X0 hx hZ (host := "") hown (hw _ (List.mem_of_getElem? (i := 148) rfl)) Via.refl e0 (pf12.ext pf13.2) (g := (mkF m 121 #[.val (.int p0), .val (.int ((p0 &&& (2147483647 : Int32)) % (13 : Int32)))] [])) rfl (hb hby own_d1_121)
                          refine own_via (T13.setTop (mkF m 124 #[.val (.int p0), .val (.int ((p0 &&& (2147483647 : Int32)) % (13 : Int32)))] [(.ref x12)])) (st13) ?_
                          exact own_retA X13 hx hlk hret rfl rfl (hb hby own_d1_124) e13 (⟨x12, rfl, N0, rfl⟩) (by decide) (by decide)
theorem own_lc0 {z : Int64} (h : z = 0) : lcmpW z (0 : Int64) = 0 := by subst h; rfl
theorem own_lcn {z : Int64} (h : ¬ z = 0) : ¬ lcmpW z (0 : Int64) = 0 := by
  unfold lcmpW; intro q; split at q
  · exact absurd q (by decide)
  · exact absurd q (by decide)
theorem own_lcs (z : Int64) : lcmpW z z = 0 := by
  unfold lcmpW; rw [if_neg (Int64.lt_irrefl), if_pos rfl]
theorem own_lclt {x y : Int64} (h : x < y) : lcmpW x y < 0 := by
  unfold lcmpW; rw [if_neg (fun q => Int64.lt_irrefl (Int64.lt_trans h q)), if_neg (fun q => by subst q; exact Int64.lt_irrefl h)]; decide
theorem own_lcge {x y : Int64} (h : ¬ x < y) : ¬ lcmpW x y < 0 := by
  unfold lcmpW; split
  · decide
  · split
    · decide
    · rename_i h1 h2; exact absurd (Int64.lt_of_le_of_ne (Int64.not_lt.mp h1) h2) h
theorem own_max_ne (q : Int64) : ¬ (if (1 : Int64) < q then q else 1) = 0 := by
  split
  · rename_i h; intro z; subst z; exact absurd h (by decide)
  · decide
theorem own_pn49451942 : plainFor (⟨"java/lang/Math", "max", "(JJ)J"⟩ : MethodName) = true := by first | exact Jvm.Free.JP.mathPlain rfl (by decide +kernel) | exact plainFor_of_name (by first | (simp [plainName, overriddenIn]; done) | decide +kernel) | decide +kernel
theorem own_d8_0 : decode jdk_29_method_66_code 0 = .ok (.lload_n 0, 1) := by decide +kernel
theorem own_d8_1 : decode jdk_29_method_66_code 1 = .ok (.lload_n 2, 1) := by decide +kernel
theorem own_d8_2 : decode jdk_29_method_66_code 2 = .ok (.lcmp, 1) := by decide +kernel
theorem own_d8_3 : decode jdk_29_method_66_code 3 = .ok (.ifCond .lt 7, 3) := by decide +kernel
theorem own_d8_10 : decode jdk_29_method_66_code 10 = .ok (.lload_n 2, 1) := by decide +kernel
theorem own_d8_11 : decode jdk_29_method_66_code 11 = .ok (.lreturn, 1) := by decide +kernel
theorem own_d8_6 : decode jdk_29_method_66_code 6 = .ok (.lload_n 0, 1) := by decide +kernel
theorem own_d8_7 : decode jdk_29_method_66_code 7 = .ok (.goto 4, 3) := by decide +kernel
theorem own_ef_rm_max (m : MethodId) (x0 : Int64) (x1 : Int64) : entryFrame m #[(.long x0), (.long x1)] 4 = mkF m 0 #[.val (.long x0), .second, .val (.long x1), .second] [] := by first | (simp [entryFrame, mkF, argsToLocals, Value.category]; done) | rfl
def Q_rm_max (Z : State) (pa : Int64) (qa : Int64) (h0 : Heap) (n0 : Nat) (v : Option Value) (h : Heap) (L : List Loc) : Prop := v = some (.long (if pa < qa then qa else pa)) ∧ Fr n0 L ∧ h = h0
set_option maxRecDepth 65536 in
set_option maxHeartbeats 40000000 in
theorem rm_max (l : Launch) (Z : State) (a0 : Array Value) (hw : ∀ d ∈ tables_1, d.before a0 Z = true) (pa : Int64) (qa : Int64) (h0 : Heap) (n0 : Nat) (Z0 : n0 ≤ h0.size)  :
    own_CT l Z (⟨"java/lang/Math", "max", "(JJ)J"⟩ : MethodName) jdk_29_method_66_code 4 (some .long) ({ frames := 0, cells := 0, slots := 0, locals := 0 } : Room) #[(.long pa), (.long qa)] h0 (Q_rm_max Z pa qa h0 n0) := by
  refine own_of own_pn49451942 (Ls := #[.val (.long pa), .second, .val (.long qa), .second]) (fun m => own_ef_rm_max m pa qa) ?_
  intro p e s m below meth c T0 X0 hx hby hml hown hnm hret hZ e0 hlk
  have hown : s.vm.findClass "java/lang/Math" = some m.cls := hown
  have N0 := Fr.nil n0
  refine own_via (T0.setTop (mkF m 1 #[.val (.long pa), .second, .val (.long qa), .second] [(.long pa)])) (fun t k => XS.lloadN X0.here hx rfl (hb hby own_d8_0) rfl k) ?_
  refine own_via (T0.setTop (mkF m 2 #[.val (.long pa), .second, .val (.long qa), .second] [(.long qa), (.long pa)])) (fun t k => XS.lloadN X0.here hx rfl (hb hby own_d8_1) rfl k) ?_
  refine own_via (T0.setTop (mkF m 3 #[.val (.long pa), .second, .val (.long qa), .second] [(.int (lcmpW pa qa))])) (fun t k => XS.lcmp X0.here hx rfl (hb hby own_d8_2) rfl k) ?_
  by_cases hc : pa < qa
  · refine own_via (T0.setTop (mkF m 10 #[.val (.long pa), .second, .val (.long qa), .second] [])) (fun t k => XS.ifYes X0.here hx rfl (pc0 := 3) (pc' := 10) rfl (hb hby own_d8_3) rfl (XT.i0_lt_t (own_lclt hc)) (by decide) (by decide) k) ?_
    refine own_via (T0.setTop (mkF m 11 #[.val (.long pa), .second, .val (.long qa), .second] [(.long qa)])) (fun t k => XS.lloadN X0.here hx rfl (hb hby own_d8_10) rfl k) ?_
    exact own_retJ X0 hx hlk hret (hb hby own_d8_11) e0 (⟨by rw [if_pos hc], N0, rfl⟩) (by decide) (by decide)
  · refine own_via (T0.setTop (mkF m 6 #[.val (.long pa), .second, .val (.long qa), .second] [])) (fun t k => XS.ifNo X0.here hx rfl (hb hby own_d8_3) rfl (XT.i0_lt_f (own_lcge hc)) k) ?_
    refine own_via (T0.setTop (mkF m 7 #[.val (.long pa), .second, .val (.long qa), .second] [(.long pa)])) (fun t k => XS.lloadN X0.here hx rfl (hb hby own_d8_6) rfl k) ?_
    refine own_via (T0.setTop (mkF m 11 #[.val (.long pa), .second, .val (.long qa), .second] [(.long pa)])) (fun t k => XS.goto X0.here hx rfl (pc0 := 7) (pc' := 11) rfl (hb hby own_d8_7) (by decide) (by decide) k) ?_
    exact own_retJ X0 hx hlk hret (hb hby own_d8_11) e0 (⟨by rw [if_neg hc], N0, rfl⟩) (by decide) (by decide)
theorem own_pn90636005 : plainFor (⟨"java/lang/Throwable", "<init>", "(Ljava/lang/String;)V"⟩ : MethodName) = true := by first | exact Jvm.Free.JP.mathPlain rfl (by decide +kernel) | exact plainFor_of_name (by first | (simp [plainName, overriddenIn]; done) | decide +kernel) | decide +kernel
theorem own_d11_0 : decode jdk_78_method_2_code 0 = .ok (.aload_n 0, 1) := by decide +kernel
theorem own_d11_1 : decode jdk_78_method_2_code 1 = .ok (.invokespecial 1, 3) := by decide +kernel
theorem own_d11_4 : decode jdk_78_method_2_code 4 = .ok (.aload_n 0, 1) := by decide +kernel
theorem own_d11_5 : decode jdk_78_method_2_code 5 = .ok (.aload_n 0, 1) := by decide +kernel
theorem own_d11_6 : decode jdk_78_method_2_code 6 = .ok (.putfield 7, 3) := by decide +kernel
theorem own_d11_9 : decode jdk_78_method_2_code 9 = .ok (.aload_n 0, 1) := by decide +kernel
theorem own_d11_10 : decode jdk_78_method_2_code 10 = .ok (.getstatic 13, 3) := by decide +kernel
theorem own_d11_13 : decode jdk_78_method_2_code 13 = .ok (.putfield 17, 3) := by decide +kernel
theorem own_d11_16 : decode jdk_78_method_2_code 16 = .ok (.aload_n 0, 1) := by decide +kernel
theorem own_d11_17 : decode jdk_78_method_2_code 17 = .ok (.getstatic 20, 3) := by decide +kernel
theorem own_d11_20 : decode jdk_78_method_2_code 20 = .ok (.putfield 24, 3) := by decide +kernel
theorem own_d11_23 : decode jdk_78_method_2_code 23 = .ok (.aload_n 0, 1) := by decide +kernel
theorem own_d11_24 : decode jdk_78_method_2_code 24 = .ok (.invokevirtual 27, 3) := by decide +kernel
theorem own_d11_27 : decode jdk_78_method_2_code 27 = .ok (.pop, 1) := by decide +kernel
theorem own_d11_28 : decode jdk_78_method_2_code 28 = .ok (.aload_n 0, 1) := by decide +kernel
theorem own_d11_29 : decode jdk_78_method_2_code 29 = .ok (.aload_n 1, 1) := by decide +kernel
theorem own_d11_30 : decode jdk_78_method_2_code 30 = .ok (.putfield 31, 3) := by decide +kernel
theorem own_d11_33 : decode jdk_78_method_2_code 33 = .ok (.return_, 1) := by decide +kernel
theorem own_ef_rm_thr (m : MethodId) (x0 : Addr) (x1 : Addr) : entryFrame m #[(.ref x0), (.ref x1)] 2 = mkF m 0 #[.val (.ref x0), .val (.ref x1)] [] := by first | (simp [entryFrame, mkF, argsToLocals, Value.category]; done) | rfl
def Q_rm_thr (Z : State) (a1 : Nat) (a3 : Nat) (u0 : Value) (u1 : Value) (w0 : Value) (w1 : Value) (w2 : Value) (w3 : Value) (us : Value) (ss : Value) (h0 : Heap) (n0 : Nat) (v : Option Value) (h : Heap) (L : List Loc) : Prop := v = none ∧ Fr n0 L ∧ Keep h0 h [a1] ∧ Exa Z h a1 "com/example/zonegrant/zonegrant/service/OAuthException" ∧ Fld Z h a1 "com/example/zonegrant/zonegrant/service/OAuthException" "error" "Lcom/example/zonegrant/zonegrant/service/OAuthError;" u0 ∧ Fld Z h a1 "com/example/zonegrant/zonegrant/service/OAuthException" "retryAfter" "J" u1
set_option maxRecDepth 65536 in
set_option maxHeartbeats 40000000 in
theorem rm_thr (l : Launch) (Z : State) (a0 : Array Value) (hw : ∀ d ∈ tables_1, d.before a0 Z = true) (a1 : Nat) (a3 : Nat) (u0 : Value) (u1 : Value) (w0 : Value) (w1 : Value) (w2 : Value) (w3 : Value) (us : Value) (ss : Value) (h0 : Heap) (n0 : Nat) (Z0 : n0 ≤ h0.size) (pf0 : Exa Z h0 a1 "com/example/zonegrant/zonegrant/service/OAuthException") (pf1 : Unt h0 a1) (pf2 : Fld Z h0 a1 "java/lang/Throwable" "backtrace" "Ljava/lang/Object;" .null) (pf3 : Fld Z h0 a1 "java/lang/Throwable" "detailMessage" "Ljava/lang/String;" w0) (pf4 : Fld Z h0 a1 "java/lang/Throwable" "cause" "Ljava/lang/Throwable;" w1) (pf5 : Fld Z h0 a1 "java/lang/Throwable" "stackTrace" "[Ljava/lang/StackTraceElement;" w2) (pf6 : Fld Z h0 a1 "java/lang/Throwable" "suppressedExceptions" "Ljava/util/List;" w3) (pf7 : Fld Z h0 a1 "com/example/zonegrant/zonegrant/service/OAuthException" "error" "Lcom/example/zonegrant/zonegrant/service/OAuthError;" u0) (pf8 : Fld Z h0 a1 "com/example/zonegrant/zonegrant/service/OAuthException" "retryAfter" "J" u1) (pf9 : Sta Z Z.heap "java/lang/Throwable" "UNASSIGNED_STACK" "[Ljava/lang/StackTraceElement;" us) (pf10 : Sta Z Z.heap "java/lang/Throwable" "SUPPRESSED_SENTINEL" "Ljava/util/List;" ss) (pf11 : Old Z n0 h0) (g1 : n0 ≤ a1) (hl : l.stackTraces = true) (hus : us.isRef = true) (hss : ss.isRef = true) :
    own_CTK l Z (⟨"java/lang/Throwable", "<init>", "(Ljava/lang/String;)V"⟩ : MethodName) jdk_78_method_2_code 2 none ({ frames := 3, cells := 1, slots := 2752, locals := 42 } : Room) #[(.ref a1), (.ref a3)] h0 (Q_rm_thr Z a1 a3 u0 u1 w0 w1 w2 w3 us ss h0 n0) := by
  refine own_ofK own_pn90636005 (Ls := #[.val (.ref a1), .val (.ref a3)]) (fun m => own_ef_rm_thr m a1 a3) ?_
  intro p e s m below meth c T0 X0 hx hby hml hown hnm hret hZ e0 hlk hh0 hTK hBelow
  have hown : s.vm.findClass "java/lang/Throwable" = some m.cls := hown
  have N0 := Fr.nil n0
  have lt_a1 : @LT.lt Nat _ a1 h0.size := pf0.lt
  refine own_via (T0.setTop (mkF m 1 #[.val (.ref a1), .val (.ref a3)] [(.ref a1)])) (fun t k => XS.aloadN X0.here hx rfl (hb hby own_d11_0) rfl rfl k) ?_
  obtain ⟨T1, X1, e1, st1⟩ := initO X0 hx hZ hown (hw _ (List.mem_of_getElem? (i := 60) rfl)) (hw _ (List.mem_of_getElem? (i := 20) rfl)) (hw _ (List.mem_of_getElem? (i := 21) rfl)) e0 (g := (mkF m 1 #[.val (.ref a1), .val (.ref a3)] [(.ref a1)])) rfl (by rw [hml]; rfl) rfl (hb hby own_d11_1) (by decide) (W := 0) (by show 2 * 0 + _ ≤ _; exact Nat.le_of_eq rfl) (by decide)
  refine own_via (T1.setTop (mkF m 4 #[.val (.ref a1), .val (.ref a3)] [])) (st1) ?_
  refine own_via (T1.setTop (mkF m 5 #[.val (.ref a1), .val (.ref a3)] [(.ref a1)])) (fun t k => XS.aloadN X1.here hx rfl (hb hby own_d11_4) rfl rfl k) ?_
  refine own_via (T1.setTop (mkF m 6 #[.val (.ref a1), .val (.ref a3)] [(.ref a1), (.ref a1)])) (fun t k => XS.aloadN X1.here hx rfl (hb hby own_d11_5) rfl rfl k) ?_
  obtain ⟨T2, h2, X2, e2, W2, st2⟩ := putF X1 hx hZ hown (host := "") (Or.inl (hw _ (List.mem_of_getElem? (i := 61) rfl))) Via.refl e1 pf4 pf0 (Or.inl (hw _ (List.mem_of_getElem? (i := 62) rfl))) (hw _ (List.mem_of_getElem? (i := 44) rfl)) (ty := (.object "java/lang/Throwable")) (by decide) rfl rfl (g := (mkF m 6 #[.val (.ref a1), .val (.ref a3)] [(.ref a1), (.ref a1)])) rfl rfl (hb hby own_d11_6)
  have N2 := Fr.snoc X2 N0 (show @LE.le Nat _ _ _ by omega)
  have sz_h2 : h2.size = h0.size := Wr.size W2
  have K_h2 : Keep h0 h2 [a1] := (Keep.refl h0 [a1]).wr W2 (Or.inl (List.mem_of_getElem? (i := 0) rfl))
  have f3 : Fld Z h2 a1 "java/lang/Throwable" "cause" "Ljava/lang/Throwable;" (.ref a1) := (pf4.same W2)
  refine own_via (T2.setTop (mkF m 9 #[.val (.ref a1), .val (.ref a3)] [])) (st2) ?_
  refine own_via (T2.setTop (mkF m 10 #[.val (.ref a1), .val (.ref a3)] [(.ref a1)])) (fun t k => XS.aloadN X2.here hx rfl (hb hby own_d11_9) rfl rfl k) ?_
  have f4 : Old Z n0 h2 := (pf11.wr W2 (show @LE.le Nat _ _ _ by omega))
  obtain ⟨T5, X5, e5, st5⟩ := getS X2 hx hZ (host := "") hown (hw _ (List.mem_of_getElem? (i := 63) rfl)) Via.refl e2 (pf9.ext f4.2) (g := (mkF m 10 #[.val (.ref a1), .val (.ref a3)] [(.ref a1)])) rfl (hb hby own_d11_10)
  refine own_via (T5.setTop (mkF m 13 #[.val (.ref a1), .val (.ref a3)] [us, (.ref a1)])) (st5) ?_
  have f6 : Fld Z h2 a1 "java/lang/Throwable" "stackTrace" "[Ljava/lang/StackTraceElement;" w2 := (pf5.other W2 (Or.inr (slot_ne (Or.inl (hw _ (List.mem_of_getElem? (i := 65) rfl))) (Or.inl (hw _ (List.mem_of_getElem? (i := 62) rfl))) (by decide) (t := (.array (.object "java/lang/StackTraceElement"))) (t' := (.object "java/lang/Throwable")) (by decide) (by decide))))
  have f7 : Exa Z h2 a1 "com/example/zonegrant/zonegrant/service/OAuthException" := (pf0.wr W2)
  obtain ⟨T8, h8, X8, e8, W8, st8⟩ := putF X5 hx hZ hown (host := "") (Or.inl (hw _ (List.mem_of_getElem? (i := 64) rfl))) Via.refl e5 f6 f7 (Or.inl (hw _ (List.mem_of_getElem? (i := 65) rfl))) (hw _ (List.mem_of_getElem? (i := 44) rfl)) (ty := (.array (.object "java/lang/StackTraceElement"))) (by decide) (own_narR rfl hus) (own_fitR rfl hus) (g := (mkF m 13 #[.val (.ref a1), .val (.ref a3)] [us, (.ref a1)])) rfl rfl (hb hby own_d11_13)
  have N8 := Fr.snoc X8 N2 (show @LE.le Nat _ _ _ by omega)
  have sz_h8 : h8.size = h2.size := Wr.size W8
  have K_h8 : Keep h0 h8 [a1] := K_h2.wr W8 (Or.inl (List.mem_of_getElem? (i := 0) rfl))
  have f9 : Fld Z h8 a1 "java/lang/Throwable" "stackTrace" "[Ljava/lang/StackTraceElement;" us := (f6.same W8)
  refine own_via (T8.setTop (mkF m 16 #[.val (.ref a1), .val (.ref a3)] [])) (st8) ?_
  refine own_via (T8.setTop (mkF m 17 #[.val (.ref a1), .val (.ref a3)] [(.ref a1)])) (fun t k => XS.aloadN X8.here hx rfl (hb hby own_d11_16) rfl rfl k) ?_
  have f10 : Old Z n0 h8 := (f4.wr W8 (show @LE.le Nat _ _ _ by omega))
  obtain ⟨T11, X11, e11, st11⟩ := getS X8 hx hZ (host := "") hown (hw _ (List.mem_of_getElem? (i := 66) rfl)) Via.refl e8 (pf10.ext f10.2) (g := (mkF m 17 #[.val (.ref a1), .val (.ref a3)] [(.ref a1)])) rfl (hb hby own_d11_17)
  refine own_via (T11.setTop (mkF m 20 #[.val (.ref a1), .val (.ref a3)] [ss, (.ref a1)])) (st11) ?_
  have f12 : Fld Z h8 a1 "java/lang/Throwable" "suppressedExceptions" "Ljava/util/List;" w3 := ((pf6.other W2 (Or.inr (slot_ne (Or.inl (hw _ (List.mem_of_getElem? (i := 68) rfl))) (Or.inl (hw _ (List.mem_of_getElem? (i := 62) rfl))) (by decide) (t := (.object "java/util/List")) (t' := (.object "java/lang/Throwable")) (by decide) (by decide)))).other W8 (Or.inr (slot_ne (Or.inl (hw _ (List.mem_of_getElem? (i := 68) rfl))) (Or.inl (hw _ (List.mem_of_getElem? (i := 65) rfl))) (by decide) (t := (.object "java/util/List")) (t' := (.array (.object "java/lang/StackTraceElement"))) (by decide) (by decide))))
  have f13 : Exa Z h8 a1 "com/example/zonegrant/zonegrant/service/OAuthException" := (f7.wr W8)
  obtain ⟨T14, h14, X14, e14, W14, st14⟩ := putF X11 hx hZ hown (host := "") (Or.inl (hw _ (List.mem_of_getElem? (i := 67) rfl))) Via.refl e11 f12 f13 (Or.inl (hw _ (List.mem_of_getElem? (i := 68) rfl))) (hw _ (List.mem_of_getElem? (i := 44) rfl)) (ty := (.object "java/util/List")) (by decide) (own_narR rfl hss) (own_fitR rfl hss) (g := (mkF m 20 #[.val (.ref a1), .val (.ref a3)] [ss, (.ref a1)])) rfl rfl (hb hby own_d11_20)
  have N14 := Fr.snoc X14 N8 (show @LE.le Nat _ _ _ by omega)
  have sz_h14 : h14.size = h8.size := Wr.size W14
  have K_h14 : Keep h0 h14 [a1] := K_h8.wr W14 (Or.inl (List.mem_of_getElem? (i := 0) rfl))
  have f15 : Fld Z h14 a1 "java/lang/Throwable" "suppressedExceptions" "Ljava/util/List;" ss := (f12.same W14)
  refine own_via (T14.setTop (mkF m 23 #[.val (.ref a1), .val (.ref a3)] [])) (st14) ?_
  refine own_via (T14.setTop (mkF m 24 #[.val (.ref a1), .val (.ref a3)] [(.ref a1)])) (fun t k => XS.aloadN X14.here hx rfl (hb hby own_d11_23) rfl rfl k) ?_
  have f16 : Old Z n0 h14 := (f10.wr W14 (show @LE.le Nat _ _ _ by omega))
  have f17 : Exa Z h14 a1 "com/example/zonegrant/zonegrant/service/OAuthException" := (f13.wr W14)
  have f18 : Unt h14 a1 := (((pf1.wr W2).wr W8).wr W14)
  have f19 : Fld Z h14 a1 "java/lang/Throwable" "backtrace" "Ljava/lang/Object;" .null := (((pf2.other W2 (Or.inr (slot_ne (Or.inl (hw _ (List.mem_of_getElem? (i := 93) rfl))) (Or.inl (hw _ (List.mem_of_getElem? (i := 62) rfl))) (by decide) (t := (.object "java/lang/Object")) (t' := (.object "java/lang/Throwable")) (by decide) (by decide)))).other W8 (Or.inr (slot_ne (Or.inl (hw _ (List.mem_of_getElem? (i := 93) rfl))) (Or.inl (hw _ (List.mem_of_getElem? (i := 65) rfl))) (by decide) (t := (.object "java/lang/Object")) (t' := (.array (.object "java/lang/StackTraceElement"))) (by decide) (by decide)))).other W14 (Or.inr (slot_ne (Or.inl (hw _ (List.mem_of_getElem? (i := 93) rfl))) (Or.inl (hw _ (List.mem_of_getElem? (i := 68) rfl))) (by decide) (t := (.object "java/lang/Object")) (t' := (.object "java/util/List")) (by decide) (by decide))))
  have f20 : Fld Z h14 a1 "java/lang/Throwable" "stackTrace" "[Ljava/lang/StackTraceElement;" us := (f9.other W14 (Or.inr (slot_ne (Or.inl (hw _ (List.mem_of_getElem? (i := 65) rfl))) (Or.inl (hw _ (List.mem_of_getElem? (i := 68) rfl))) (by decide) (t := (.array (.object "java/lang/StackTraceElement"))) (t' := (.object "java/util/List")) (by decide) (by decide))))
  have f21 : Fld Z h14 a1 "java/lang/Throwable" "detailMessage" "Ljava/lang/String;" w0 := (((pf3.other W2 (Or.inr (slot_ne (Or.inl (hw _ (List.mem_of_getElem? (i := 92) rfl))) (Or.inl (hw _ (List.mem_of_getElem? (i := 62) rfl))) (by decide) (t := (.object "java/lang/String")) (t' := (.object "java/lang/Throwable")) (by decide) (by decide)))).other W8 (Or.inr (slot_ne (Or.inl (hw _ (List.mem_of_getElem? (i := 92) rfl))) (Or.inl (hw _ (List.mem_of_getElem? (i := 65) rfl))) (by decide) (t := (.object "java/lang/String")) (t' := (.array (.object "java/lang/StackTraceElement"))) (by decide) (by decide)))).other W14 (Or.inr (slot_ne (Or.inl (hw _ (List.mem_of_getElem? (i := 92) rfl))) (Or.inl (hw _ (List.mem_of_getElem? (i := 68) rfl))) (by decide) (t := (.object "java/lang/String")) (t' := (.object "java/util/List")) (by decide) (by decide))))
  have f22 : Fld Z h14 a1 "java/lang/Throwable" "cause" "Ljava/lang/Throwable;" (.ref a1) := ((f3.other W8 (Or.inr (slot_ne (Or.inl (hw _ (List.mem_of_getElem? (i := 62) rfl))) (Or.inl (hw _ (List.mem_of_getElem? (i := 65) rfl))) (by decide) (t := (.object "java/lang/Throwable")) (t' := (.array (.object "java/lang/StackTraceElement"))) (by decide) (by decide)))).other W14 (Or.inr (slot_ne (Or.inl (hw _ (List.mem_of_getElem? (i := 62) rfl))) (Or.inl (hw _ (List.mem_of_getElem? (i := 68) rfl))) (by decide) (t := (.object "java/lang/Throwable")) (t' := (.object "java/util/List")) (by decide) (by decide))))
  have f23 : Fld Z h14 a1 "com/example/zonegrant/zonegrant/service/OAuthException" "error" "Lcom/example/zonegrant/zonegrant/service/OAuthError;" u0 := (((pf7.other W2 (Or.inr (slot_ne (Or.inr (hw _ (List.mem_of_getElem? (i := 98) rfl))) (Or.inl (hw _ (List.mem_of_getElem? (i := 62) rfl))) (by decide) (t := (.object "com/example/zonegrant/zonegrant/service/OAuthError")) (t' := (.object "java/lang/Throwable")) (by decide) (by decide)))).other W8 (Or.inr (slot_ne (Or.inr (hw _ (List.mem_of_getElem? (i := 98) rfl))) (Or.inl (hw _ (List.mem_of_getElem? (i := 65) rfl))) (by decide) (t := (.object "com/example/zonegrant/zonegrant/service/OAuthError")) (t' := (.array (.object "java/lang/StackTraceElement"))) (by decide) (by decide)))).other W14 (Or.inr (slot_ne (Or.inr (hw _ (List.mem_of_getElem? (i := 98) rfl))) (Or.inl (hw _ (List.mem_of_getElem? (i := 68) rfl))) (by decide) (t := (.object "com/example/zonegrant/zonegrant/service/OAuthError")) (t' := (.object "java/util/List")) (by decide) (by decide))))
  have f24 : Fld Z h14 a1 "com/example/zonegrant/zonegrant/service/OAuthException" "retryAfter" "J" u1 := (((pf8.other W2 (Or.inr (slot_ne (Or.inr (hw _ (List.mem_of_getElem? (i := 100) rfl))) (Or.inl (hw _ (List.mem_of_getElem? (i := 62) rfl))) (by decide) (t := .long) (t' := (.object "java/lang/Throwable")) (by decide) (by decide)))).other W8 (Or.inr (slot_ne (Or.inr (hw _ (List.mem_of_getElem? (i := 100) rfl))) (Or.inl (hw _ (List.mem_of_getElem? (i := 65) rfl))) (by decide) (t := .long) (t' := (.array (.object "java/lang/StackTraceElement"))) (by decide) (by decide)))).other W14 (Or.inr (slot_ne (Or.inr (hw _ (List.mem_of_getElem? (i := 100) rfl))) (Or.inl (hw _ (List.mem_of_getElem? (i := 68) rfl))) (by decide) (t := .long) (t' := (.object "java/util/List")) (by decide) (by decide))))
  have hsz25 : h14.size = s.heap.size := by rw [hh0]; omega
  obtain ⟨T25, h25, L25, X25, e25, B25, Kq25, fE25, M25, st25⟩ := own_fill X14 hx hl hZ hown hw (hw _ (List.mem_of_getElem? (i := 44) rfl)) (by rw [hh0]; exact ThS.ext pf11.2 ThS.start) hTK hBelow e14 hsz25 (a := a1) (by intro y hy; simp at hy; rcases hy with rfl | rfl | rfl <;> rfl) (by rw [hh0]; exact K_h14) f17 f18 f19 hus f20 (pf9.ext f16.2) (pc := 24) (W := 0) (Ls := #[.val (.ref a1), .val (.ref a3)]) (rest := []) (by rw [hml]; rfl) (Nat.le_of_eq rfl) (hb hby own_d11_24) (by decide) (by decide) (by decide) (by decide)
  have N25 := Fr.app N14 (fun y hy => by rw [B25 y hy]; omega)
  have f26 : Fld Z h25 a1 "java/lang/Throwable" "detailMessage" "Ljava/lang/String;" w0 := M25 _ _ _ _ f21 (slot_ne (Or.inl (hw _ (List.mem_of_getElem? (i := 92) rfl))) (Or.inl (hw _ (List.mem_of_getElem? (i := 93) rfl))) (by decide) (t := (.object "java/lang/String")) (t' := (.object "java/lang/Object")) (by decide) (by decide)) (slot_ne (Or.inl (hw _ (List.mem_of_getElem? (i := 92) rfl))) (Or.inl (hw _ (List.mem_of_getElem? (i := 94) rfl))) (by decide) (t := (.object "java/lang/String")) (t' := .int) (by decide) (by decide)) (slot_ne (Or.inl (hw _ (List.mem_of_getElem? (i := 92) rfl))) (Or.inl (hw _ (List.mem_of_getElem? (i := 65) rfl))) (by decide) (t := (.object "java/lang/String")) (t' := (.array (.object "java/lang/StackTraceElement"))) (by decide) (by decide))
  have f27 : Fld Z h25 a1 "java/lang/Throwable" "cause" "Ljava/lang/Throwable;" (.ref a1) := M25 _ _ _ _ f22 (slot_ne (Or.inl (hw _ (List.mem_of_getElem? (i := 62) rfl))) (Or.inl (hw _ (List.mem_of_getElem? (i := 93) rfl))) (by decide) (t := (.object "java/lang/Throwable")) (t' := (.object "java/lang/Object")) (by decide) (by decide)) (slot_ne (Or.inl (hw _ (List.mem_of_getElem? (i := 62) rfl))) (Or.inl (hw _ (List.mem_of_getElem? (i := 94) rfl))) (by decide) (t := (.object "java/lang/Throwable")) (t' := .int) (by decide) (by decide)) (slot_ne (Or.inl (hw _ (List.mem_of_getElem? (i := 62) rfl))) (Or.inl (hw _ (List.mem_of_getElem? (i := 65) rfl))) (by decide) (t := (.object "java/lang/Throwable")) (t' := (.array (.object "java/lang/StackTraceElement"))) (by decide) (by decide))
  have f28 : Fld Z h25 a1 "java/lang/Throwable" "suppressedExceptions" "Ljava/util/List;" ss := M25 _ _ _ _ f15 (slot_ne (Or.inl (hw _ (List.mem_of_getElem? (i := 68) rfl))) (Or.inl (hw _ (List.mem_of_getElem? (i := 93) rfl))) (by decide) (t := (.object "java/util/List")) (t' := (.object "java/lang/Object")) (by decide) (by decide)) (slot_ne (Or.inl (hw _ (List.mem_of_getElem? (i := 68) rfl))) (Or.inl (hw _ (List.mem_of_getElem? (i := 94) rfl))) (by decide) (t := (.object "java/util/List")) (t' := .int) (by decide) (by decide)) (slot_ne (Or.inl (hw _ (List.mem_of_getElem? (i := 68) rfl))) (Or.inl (hw _ (List.mem_of_getElem? (i := 65) rfl))) (by decide) (t := (.object "java/util/List")) (t' := (.array (.object "java/lang/StackTraceElement"))) (by decide) (by decide))
  have f29 : Fld Z h25 a1 "com/example/zonegrant/zonegrant/service/OAuthException" "error" "Lcom/example/zonegrant/zonegrant/service/OAuthError;" u0 := M25 _ _ _ _ f23 (slot_ne (Or.inr (hw _ (List.mem_of_getElem? (i := 98) rfl))) (Or.inl (hw _ (List.mem_of_getElem? (i := 93) rfl))) (by decide) (t := (.object "com/example/zonegrant/zonegrant/service/OAuthError")) (t' := (.object "java/lang/Object")) (by decide) (by decide)) (slot_ne (Or.inr (hw _ (List.mem_of_getElem? (i := 98) rfl))) (Or.inl (hw _ (List.mem_of_getElem? (i := 94) rfl))) (by decide) (t := (.object "com/example/zonegrant/zonegrant/service/OAuthError")) (t' := .int) (by decide) (by decide)) (slot_ne (Or.inr (hw _ (List.mem_of_getElem? (i := 98) rfl))) (Or.inl (hw _ (List.mem_of_getElem? (i := 65) rfl))) (by decide) (t := (.object "com/example/zonegrant/zonegrant/service/OAuthError")) (t' := (.array (.object "java/lang/StackTraceElement"))) (by decide) (by decide))
  have f30 : Fld Z h25 a1 "com/example/zonegrant/zonegrant/service/OAuthException" "retryAfter" "J" u1 := M25 _ _ _ _ f24 (slot_ne (Or.inr (hw _ (List.mem_of_getElem? (i := 100) rfl))) (Or.inl (hw _ (List.mem_of_getElem? (i := 93) rfl))) (by decide) (t := .long) (t' := (.object "java/lang/Object")) (by decide) (by decide)) (slot_ne (Or.inr (hw _ (List.mem_of_getElem? (i := 100) rfl))) (Or.inl (hw _ (List.mem_of_getElem? (i := 94) rfl))) (by decide) (t := .long) (t' := .int) (by decide) (by decide)) (slot_ne (Or.inr (hw _ (List.mem_of_getElem? (i := 100) rfl))) (Or.inl (hw _ (List.mem_of_getElem? (i := 65) rfl))) (by decide) (t := .long) (t' := (.array (.object "java/lang/StackTraceElement"))) (by decide) (by decide))
  have sz_h25 : h14.size ≤ h25.size := Kq25.1
  have K_h25 : Keep h0 h25 [a1] := K_h14.trans Kq25 (allS (Or.inl (List.mem_of_getElem? (i := 0) rfl)) all0)
  refine own_via (T25.setTop (mkF m 27 #[.val (.ref a1), .val (.ref a3)] [(.ref a1)])) (st25) ?_
  refine own_via (T25.setTop (mkF m 28 #[.val (.ref a1), .val (.ref a3)] [])) (fun t k => XS.pop X25.here hx rfl (hb hby own_d11_27) rfl rfl k) ?_
  refine own_via (T25.setTop (mkF m 29 #[.val (.ref a1), .val (.ref a3)] [(.ref a1)])) (fun t k => XS.aloadN X25.here hx rfl (hb hby own_d11_28) rfl rfl k) ?_
  refine own_via (T25.setTop (mkF m 30 #[.val (.ref a1), .val (.ref a3)] [(.ref a3), (.ref a1)])) (fun t k => XS.aloadN X25.here hx rfl (hb hby own_d11_29) rfl rfl k) ?_
  obtain ⟨T31, h31, X31, e31, W31, st31⟩ := putF X25 hx hZ hown (host := "") (Or.inl (hw _ (List.mem_of_getElem? (i := 96) rfl))) Via.refl e25 f26 fE25 (Or.inl (hw _ (List.mem_of_getElem? (i := 92) rfl))) (hw _ (List.mem_of_getElem? (i := 44) rfl)) (ty := (.object "java/lang/String")) (by decide) rfl rfl (g := (mkF m 30 #[.val (.ref a1), .val (.ref a3)] [(.ref a3), (.ref a1)])) rfl rfl (hb hby own_d11_30)
  have N31 := Fr.snoc X31 N25 (show @LE.le Nat _ _ _ by omega)
  have sz_h31 : h31.size = h25.size := Wr.size W31
  have K_h31 : Keep h0 h31 [a1] := K_h25.wr W31 (Or.inl (List.mem_of_getElem? (i := 0) rfl))
  have f32 : Fld Z h31 a1 "java/lang/Throwable" "detailMessage" "Ljava/lang/String;" (.ref a3) := (f26.same W31)
  refine own_via (T31.setTop (mkF m 33 #[.val (.ref a1), .val (.ref a3)] [])) (st31) ?_
  have f33 : Exa Z h31 a1 "com/example/zonegrant/zonegrant/service/OAuthException" := (fE25.wr W31)
  have f34 : Fld Z h31 a1 "com/example/zonegrant/zonegrant/service/OAuthException" "error" "Lcom/example/zonegrant/zonegrant/service/OAuthError;" u0 := (f29.other W31 (Or.inr (slot_ne (Or.inr (hw _ (List.mem_of_getElem? (i := 98) rfl))) (Or.inl (hw _ (List.mem_of_getElem? (i := 92) rfl))) (by decide) (t := (.object "com/example/zonegrant/zonegrant/service/OAuthError")) (t' := (.object "java/lang/String")) (by decide) (by decide))))
  have f35 : Fld Z h31 a1 "com/example/zonegrant/zonegrant/service/OAuthException" "retryAfter" "J" u1 := (f30.other W31 (Or.inr (slot_ne (Or.inr (hw _ (List.mem_of_getElem? (i := 100) rfl))) (Or.inl (hw _ (List.mem_of_getElem? (i := 92) rfl))) (by decide) (t := .long) (t' := (.object "java/lang/String")) (by decide) (by decide))))
  exact own_ret0 X31 hx hlk hret (hb hby own_d11_33) e31 (⟨rfl, N31, K_h31, f33, f34, f35⟩) (by decide) (by decide)
theorem own_pn30231171 : plainFor (⟨"java/lang/Exception", "<init>", "(Ljava/lang/String;)V"⟩ : MethodName) = true := by first | exact Jvm.Free.JP.mathPlain rfl (by decide +kernel) | exact plainFor_of_name (by first | (simp [plainName, overriddenIn]; done) | decide +kernel) | decide +kernel
theorem own_d10_0 : decode jdk_59_method_2_code 0 = .ok (.aload_n 0, 1) := by decide +kernel
theorem own_d10_1 : decode jdk_59_method_2_code 1 = .ok (.aload_n 1, 1) := by decide +kernel
theorem own_d10_2 : decode jdk_59_method_2_code 2 = .ok (.invokespecial 7, 3) := by decide +kernel
theorem own_pd78740836 : parseMethodDescriptor "(Ljava/lang/String;)V" = some ⟨[(.object "java/lang/String")], none⟩ := by decide +kernel
theorem own_d10_5 : decode jdk_59_method_2_code 5 = .ok (.return_, 1) := by decide +kernel
theorem own_ef_rm_exc (m : MethodId) (x0 : Addr) (x1 : Addr) : entryFrame m #[(.ref x0), (.ref x1)] 2 = mkF m 0 #[.val (.ref x0), .val (.ref x1)] [] := by first | (simp [entryFrame, mkF, argsToLocals, Value.category]; done) | rfl
def Q_rm_exc (Z : State) (a1 : Nat) (a3 : Nat) (u0 : Value) (u1 : Value) (w0 : Value) (w1 : Value) (w2 : Value) (w3 : Value) (us : Value) (ss : Value) (h0 : Heap) (n0 : Nat) (v : Option Value) (h : Heap) (L : List Loc) : Prop := v = none ∧ Fr n0 L ∧ Keep h0 h [a1] ∧ Exa Z h a1 "com/example/zonegrant/zonegrant/service/OAuthException" ∧ Fld Z h a1 "com/example/zonegrant/zonegrant/service/OAuthException" "error" "Lcom/example/zonegrant/zonegrant/service/OAuthError;" u0 ∧ Fld Z h a1 "com/example/zonegrant/zonegrant/service/OAuthException" "retryAfter" "J" u1
set_option maxRecDepth 65536 in
set_option maxHeartbeats 40000000 in
theorem rm_exc (l : Launch) (Z : State) (a0 : Array Value) (hw : ∀ d ∈ tables_1, d.before a0 Z = true) (a1 : Nat) (a3 : Nat) (u0 : Value) (u1 : Value) (w0 : Value) (w1 : Value) (w2 : Value) (w3 : Value) (us : Value) (ss : Value) (h0 : Heap) (n0 : Nat) (Z0 : n0 ≤ h0.size) (pf0 : Exa Z h0 a1 "com/example/zonegrant/zonegrant/service/OAuthException") (pf1 : Unt h0 a1) (pf2 : Fld Z h0 a1 "java/lang/Throwable" "backtrace" "Ljava/lang/Object;" .null) (pf3 : Fld Z h0 a1 "java/lang/Throwable" "detailMessage" "Ljava/lang/String;" w0) (pf4 : Fld Z h0 a1 "java/lang/Throwable" "cause" "Ljava/lang/Throwable;" w1) (pf5 : Fld Z h0 a1 "java/lang/Throwable" "stackTrace" "[Ljava/lang/StackTraceElement;" w2) (pf6 : Fld Z h0 a1 "java/lang/Throwable" "suppressedExceptions" "Ljava/util/List;" w3) (pf7 : Fld Z h0 a1 "com/example/zonegrant/zonegrant/service/OAuthException" "error" "Lcom/example/zonegrant/zonegrant/service/OAuthError;" u0) (pf8 : Fld Z h0 a1 "com/example/zonegrant/zonegrant/service/OAuthException" "retryAfter" "J" u1) (pf9 : Sta Z Z.heap "java/lang/Throwable" "UNASSIGNED_STACK" "[Ljava/lang/StackTraceElement;" us) (pf10 : Sta Z Z.heap "java/lang/Throwable" "SUPPRESSED_SENTINEL" "Ljava/util/List;" ss) (pf11 : Old Z n0 h0) (g1 : n0 ≤ a1) (hl : l.stackTraces = true) (hus : us.isRef = true) (hss : ss.isRef = true) :
    own_CTK l Z (⟨"java/lang/Exception", "<init>", "(Ljava/lang/String;)V"⟩ : MethodName) jdk_59_method_2_code 2 none ({ frames := 4, cells := 1, slots := 2752, locals := 55 } : Room) #[(.ref a1), (.ref a3)] h0 (Q_rm_exc Z a1 a3 u0 u1 w0 w1 w2 w3 us ss h0 n0) := by
  refine own_ofK own_pn30231171 (Ls := #[.val (.ref a1), .val (.ref a3)]) (fun m => own_ef_rm_exc m a1 a3) ?_
  intro p e s m below meth c T0 X0 hx hby hml hown hnm hret hZ e0 hlk hh0 hTK hBelow
  have hown : s.vm.findClass "java/lang/Exception" = some m.cls := hown
  have N0 := Fr.nil n0
  have lt_a1 : @LT.lt Nat _ a1 h0.size := pf0.lt
  refine own_via (T0.setTop (mkF m 1 #[.val (.ref a1), .val (.ref a3)] [(.ref a1)])) (fun t k => XS.aloadN X0.here hx rfl (hb hby own_d10_0) rfl rfl k) ?_
  refine own_via (T0.setTop (mkF m 2 #[.val (.ref a1), .val (.ref a3)] [(.ref a3), (.ref a1)])) (fun t k => XS.aloadN X0.here hx rfl (hb hby own_d10_1) rfl rfl k) ?_
  obtain ⟨v1, T1, h1, L1, X1, e1, q1, st1⟩ := own_cI X0 hx hZ hown (hw _ (List.mem_of_getElem? (i := 54) rfl)) (hw _ (List.mem_of_getElem? (i := 55) rfl)) (hw _ (List.mem_of_getElem? (i := 59) rfl)) rfl (by decide) (W := 0) (own_bkK (rm_thr l Z a0 hw a1 a3 u0 u1 w0 w1 w2 w3 us ss h0 n0 (by omega) pf0 pf1 pf2 pf3 pf4 pf5 pf6 pf7 pf8 pf9 pf10 pf11 (show @LE.le Nat _ _ _ by omega) hl hus hss) hZ (hw _ (List.mem_of_getElem? (i := 59) rfl)) (hw _ (List.mem_of_getElem? (i := 58) rfl)) (by decide) (by decide) hTK hBelow) e0 (a := a1) (Ls := #[.val (.ref a1), .val (.ref a3)]) (by rw [hml]; rfl) (argsL := [(.ref a3)]) (rest := []) rfl (lenOf own_pd78740836 rfl) rfl (Nat.le_of_eq rfl) (hb hby own_d10_2) (by decide) (by decide)
  obtain ⟨rfl, Nq1, Kq1, f2, f3, f4⟩ := q1
  have N1 := Fr.app N0 Nq1
  have sz_h1 : h0.size ≤ h1.size := Kq1.1
  have K_h1 : Keep h0 h1 [a1] := (Keep.refl h0 [a1]).trans Kq1 (allS (Or.inl (List.mem_of_getElem? (i := 0) rfl)) all0)
  refine own_via (T1.setTop (mkF m 5 #[.val (.ref a1), .val (.ref a3)] [])) (st1) ?_
  exact own_ret0 X1 hx hlk hret (hb hby own_d10_5) e1 (⟨rfl, N1, K_h1, f2, f3, f4⟩) (by decide) (by decide)
theorem own_pn45149446 : plainFor (⟨"com/example/zonegrant/zonegrant/service/OAuthException", "<init>", "(Lcom/example/zonegrant/zonegrant/service/OAuthError;Ljava/lang/String;)V"⟩ : MethodName) = true := by first | exact Jvm.Free.JP.mathPlain rfl (by decide +kernel) | exact plainFor_of_name (by first | (simp [plainName, overriddenIn]; done) | decide +kernel) | decide +kernel
theorem own_d9_0 : decode prog_16_method_1_code 0 = .ok (.aload_n 0, 1) := by decide +kernel
theorem own_d9_1 : decode prog_16_method_1_code 1 = .ok (.aload_n 2, 1) := by decide +kernel
theorem own_d9_2 : decode prog_16_method_1_code 2 = .ok (.invokespecial 1, 3) := by decide +kernel
theorem own_d9_5 : decode prog_16_method_1_code 5 = .ok (.aload_n 0, 1) := by decide +kernel
theorem own_d9_6 : decode prog_16_method_1_code 6 = .ok (.aload_n 1, 1) := by decide +kernel
theorem own_d9_7 : decode prog_16_method_1_code 7 = .ok (.putfield 7, 3) := by decide +kernel
theorem own_d9_10 : decode prog_16_method_1_code 10 = .ok (.aload_n 0, 1) := by decide +kernel
theorem own_d9_11 : decode prog_16_method_1_code 11 = .ok (.lconst 0, 1) := by decide +kernel
theorem own_d9_12 : decode prog_16_method_1_code 12 = .ok (.putfield 13, 3) := by decide +kernel
theorem own_d9_15 : decode prog_16_method_1_code 15 = .ok (.return_, 1) := by decide +kernel
theorem own_ef_rm_ex2 (m : MethodId) (x0 : Addr) (x1 : Addr) (x2 : Addr) : entryFrame m #[(.ref x0), (.ref x1), (.ref x2)] 3 = mkF m 0 #[.val (.ref x0), .val (.ref x1), .val (.ref x2)] [] := by first | (simp [entryFrame, mkF, argsToLocals, Value.category]; done) | rfl
def Q_rm_ex2 (Z : State) (a1 : Nat) (a2 : Nat) (a3 : Nat) (u0 : Value) (u1 : Value) (w0 : Value) (w1 : Value) (w2 : Value) (w3 : Value) (us : Value) (ss : Value) (h0 : Heap) (n0 : Nat) (v : Option Value) (h : Heap) (L : List Loc) : Prop := v = none ∧ Fr n0 L ∧ Keep h0 h [a1] ∧ Exa Z h a1 "com/example/zonegrant/zonegrant/service/OAuthException" ∧ Fld Z h a1 "com/example/zonegrant/zonegrant/service/OAuthException" "retryAfter" "J" (.long (0 : Int64))
set_option maxRecDepth 65536 in
set_option maxHeartbeats 40000000 in
theorem rm_ex2 (l : Launch) (Z : State) (a0 : Array Value) (hw : ∀ d ∈ tables_1, d.before a0 Z = true) (a1 : Nat) (a2 : Nat) (a3 : Nat) (u0 : Value) (u1 : Value) (w0 : Value) (w1 : Value) (w2 : Value) (w3 : Value) (us : Value) (ss : Value) (h0 : Heap) (n0 : Nat) (Z0 : n0 ≤ h0.size) (pf0 : Exa Z h0 a1 "com/example/zonegrant/zonegrant/service/OAuthException") (pf1 : Unt h0 a1) (pf2 : Fld Z h0 a1 "java/lang/Throwable" "backtrace" "Ljava/lang/Object;" .null) (pf3 : Fld Z h0 a1 "java/lang/Throwable" "detailMessage" "Ljava/lang/String;" w0) (pf4 : Fld Z h0 a1 "java/lang/Throwable" "cause" "Ljava/lang/Throwable;" w1) (pf5 : Fld Z h0 a1 "java/lang/Throwable" "stackTrace" "[Ljava/lang/StackTraceElement;" w2) (pf6 : Fld Z h0 a1 "java/lang/Throwable" "suppressedExceptions" "Ljava/util/List;" w3) (pf7 : Fld Z h0 a1 "com/example/zonegrant/zonegrant/service/OAuthException" "error" "Lcom/example/zonegrant/zonegrant/service/OAuthError;" u0) (pf8 : Fld Z h0 a1 "com/example/zonegrant/zonegrant/service/OAuthException" "retryAfter" "J" u1) (pf9 : Sta Z Z.heap "java/lang/Throwable" "UNASSIGNED_STACK" "[Ljava/lang/StackTraceElement;" us) (pf10 : Sta Z Z.heap "java/lang/Throwable" "SUPPRESSED_SENTINEL" "Ljava/util/List;" ss) (pf11 : Old Z n0 h0) (g1 : n0 ≤ a1) (hl : l.stackTraces = true) (hus : us.isRef = true) (hss : ss.isRef = true) :
    own_CTK l Z (⟨"com/example/zonegrant/zonegrant/service/OAuthException", "<init>", "(Lcom/example/zonegrant/zonegrant/service/OAuthError;Ljava/lang/String;)V"⟩ : MethodName) prog_16_method_1_code 3 none ({ frames := 5, cells := 1, slots := 2752, locals := 68 } : Room) #[(.ref a1), (.ref a2), (.ref a3)] h0 (Q_rm_ex2 Z a1 a2 a3 u0 u1 w0 w1 w2 w3 us ss h0 n0) := by
  refine own_ofK own_pn45149446 (Ls := #[.val (.ref a1), .val (.ref a2), .val (.ref a3)]) (fun m => own_ef_rm_ex2 m a1 a2 a3) ?_
  intro p e s m below meth c T0 X0 hx hby hml hown hnm hret hZ e0 hlk hh0 hTK hBelow
  have hown : s.vm.findClass "com/example/zonegrant/zonegrant/service/OAuthException" = some m.cls := hown
  have N0 := Fr.nil n0
  have lt_a1 : @LT.lt Nat _ a1 h0.size := pf0.lt
  refine own_via (T0.setTop (mkF m 1 #[.val (.ref a1), .val (.ref a2), .val (.ref a3)] [(.ref a1)])) (fun t k => XS.aloadN X0.here hx rfl (hb hby own_d9_0) rfl rfl k) ?_
  refine own_via (T0.setTop (mkF m 2 #[.val (.ref a1), .val (.ref a2), .val (.ref a3)] [(.ref a3), (.ref a1)])) (fun t k => XS.aloadN X0.here hx rfl (hb hby own_d9_1) rfl rfl k) ?_
  obtain ⟨v1, T1, h1, L1, X1, e1, q1, st1⟩ := own_cI X0 hx hZ hown (hw _ (List.mem_of_getElem? (i := 49) rfl)) (hw _ (List.mem_of_getElem? (i := 50) rfl)) (hw _ (List.mem_of_getElem? (i := 53) rfl)) rfl (by decide) (W := 0) (own_bkK (rm_exc l Z a0 hw a1 a3 u0 u1 w0 w1 w2 w3 us ss h0 n0 (by omega) pf0 pf1 pf2 pf3 pf4 pf5 pf6 pf7 pf8 pf9 pf10 pf11 (show @LE.le Nat _ _ _ by omega) hl hus hss) hZ (hw _ (List.mem_of_getElem? (i := 53) rfl)) (hw _ (List.mem_of_getElem? (i := 52) rfl)) (by decide) (by decide) hTK hBelow) e0 (a := a1) (Ls := #[.val (.ref a1), .val (.ref a2), .val (.ref a3)]) (by rw [hml]; rfl) (argsL := [(.ref a3)]) (rest := []) rfl (lenOf own_pd78740836 rfl) rfl (Nat.le_of_eq rfl) (hb hby own_d9_2) (by decide) (by decide)
  obtain ⟨rfl, Nq1, Kq1, f2, f3, f4⟩ := q1
  have N1 := Fr.app N0 Nq1
  have sz_h1 : h0.size ≤ h1.size := Kq1.1
  have K_h1 : Keep h0 h1 [a1] := (Keep.refl h0 [a1]).trans Kq1 (allS (Or.inl (List.mem_of_getElem? (i := 0) rfl)) all0)
  refine own_via (T1.setTop (mkF m 5 #[.val (.ref a1), .val (.ref a2), .val (.ref a3)] [])) (st1) ?_
  refine own_via (T1.setTop (mkF m 6 #[.val (.ref a1), .val (.ref a2), .val (.ref a3)] [(.ref a1)])) (fun t k => XS.aloadN X1.here hx rfl (hb hby own_d9_5) rfl rfl k) ?_
  refine own_via (T1.setTop (mkF m 7 #[.val (.ref a1), .val (.ref a2), .val (.ref a3)] [(.ref a2), (.ref a1)])) (fun t k => XS.aloadN X1.here hx rfl (hb hby own_d9_6) rfl rfl k) ?_
  obtain ⟨T5, h5, X5, e5, W5, st5⟩ := putF X1 hx hZ hown (host := "") (Or.inl (hw _ (List.mem_of_getElem? (i := 97) rfl))) Via.refl e1 f3 f2 (Or.inr ⟨(hw _ (List.mem_of_getElem? (i := 98) rfl)), rfl, hnm⟩) (hw _ (List.mem_of_getElem? (i := 44) rfl)) (ty := (.object "com/example/zonegrant/zonegrant/service/OAuthError")) (by decide) rfl rfl (g := (mkF m 7 #[.val (.ref a1), .val (.ref a2), .val (.ref a3)] [(.ref a2), (.ref a1)])) rfl rfl (hb hby own_d9_7)
  have N5 := Fr.snoc X5 N1 (show @LE.le Nat _ _ _ by omega)
  have sz_h5 : h5.size = h1.size := Wr.size W5
  have K_h5 : Keep h0 h5 [a1] := K_h1.wr W5 (Or.inl (List.mem_of_getElem? (i := 0) rfl))
  have f6 : Fld Z h5 a1 "com/example/zonegrant/zonegrant/service/OAuthException" "error" "Lcom/example/zonegrant/zonegrant/service/OAuthError;" (.ref a2) := (f3.same W5)
  refine own_via (T5.setTop (mkF m 10 #[.val (.ref a1), .val (.ref a2), .val (.ref a3)] [])) (st5) ?_
  refine own_via (T5.setTop (mkF m 11 #[.val (.ref a1), .val (.ref a2), .val (.ref a3)] [(.ref a1)])) (fun t k => XS.aloadN X5.here hx rfl (hb hby own_d9_10) rfl rfl k) ?_
  refine own_via (T5.setTop (mkF m 12 #[.val (.ref a1), .val (.ref a2), .val (.ref a3)] [(.long (0 : Int64)), (.ref a1)])) (fun t k => XS.lconst X5.here hx rfl (hb hby own_d9_11) k) ?_
  have f7 : Fld Z h5 a1 "com/example/zonegrant/zonegrant/service/OAuthException" "retryAfter" "J" u1 := (f4.other W5 (Or.inr (slot_ne (Or.inr (hw _ (List.mem_of_getElem? (i := 100) rfl))) (Or.inr (hw _ (List.mem_of_getElem? (i := 98) rfl))) (by decide) (t := .long) (t' := (.object "com/example/zonegrant/zonegrant/service/OAuthError")) (by decide) (by decide))))
  have f8 : Exa Z h5 a1 "com/example/zonegrant/zonegrant/service/OAuthException" := (f2.wr W5)
  obtain ⟨T9, h9, X9, e9, W9, st9⟩ := putF X5 hx hZ hown (host := "") (Or.inl (hw _ (List.mem_of_getElem? (i := 99) rfl))) Via.refl e5 f7 f8 (Or.inr ⟨(hw _ (List.mem_of_getElem? (i := 100) rfl)), rfl, hnm⟩) (hw _ (List.mem_of_getElem? (i := 44) rfl)) (ty := .long) (by decide) rfl rfl (g := (mkF m 12 #[.val (.ref a1), .val (.ref a2), .val (.ref a3)] [(.long (0 : Int64)), (.ref a1)])) rfl rfl (hb hby own_d9_12)
  have N9 := Fr.snoc X9 N5 (show @LE.le Nat _ _ _ by omega)
  have sz_h9 : h9.size = h5.size := Wr.size W9
  have K_h9 : Keep h0 h9 [a1] := K_h5.wr W9 (Or.inl (List.mem_of_getElem? (i := 0) rfl))
  have f10 : Fld Z h9 a1 "com/example/zonegrant/zonegrant/service/OAuthException" "retryAfter" "J" (.long (0 : Int64)) := (f7.same W9)
  refine own_via (T9.setTop (mkF m 15 #[.val (.ref a1), .val (.ref a2), .val (.ref a3)] [])) (st9) ?_
  have f11 : Exa Z h9 a1 "com/example/zonegrant/zonegrant/service/OAuthException" := (f8.wr W9)
  exact own_ret0 X9 hx hlk hret (hb hby own_d9_15) e9 (⟨rfl, N9, K_h9, f11, f10⟩) (by decide) (by decide)
theorem own_pn85419558 : plainFor (⟨"com/example/zonegrant/zonegrant/service/OAuthException", "<init>", "(Lcom/example/zonegrant/zonegrant/service/OAuthError;Ljava/lang/String;J)V"⟩ : MethodName) = true := by first | exact Jvm.Free.JP.mathPlain rfl (by decide +kernel) | exact plainFor_of_name (by first | (simp [plainName, overriddenIn]; done) | decide +kernel) | decide +kernel
theorem own_d16_0 : decode prog_16_method_2_code 0 = .ok (.aload_n 0, 1) := by decide +kernel
theorem own_d16_1 : decode prog_16_method_2_code 1 = .ok (.aload_n 2, 1) := by decide +kernel
theorem own_d16_2 : decode prog_16_method_2_code 2 = .ok (.invokespecial 1, 3) := by decide +kernel
theorem own_d16_5 : decode prog_16_method_2_code 5 = .ok (.aload_n 0, 1) := by decide +kernel
theorem own_d16_6 : decode prog_16_method_2_code 6 = .ok (.aload_n 1, 1) := by decide +kernel
theorem own_d16_7 : decode prog_16_method_2_code 7 = .ok (.putfield 7, 3) := by decide +kernel
theorem own_d16_10 : decode prog_16_method_2_code 10 = .ok (.aload_n 0, 1) := by decide +kernel
theorem own_d16_11 : decode prog_16_method_2_code 11 = .ok (.lload_n 3, 1) := by decide +kernel
theorem own_d16_12 : decode prog_16_method_2_code 12 = .ok (.putfield 13, 3) := by decide +kernel
theorem own_d16_15 : decode prog_16_method_2_code 15 = .ok (.return_, 1) := by decide +kernel
theorem own_ef_rm_ex3 (m : MethodId) (x0 : Addr) (x1 : Addr) (x2 : Addr) (x3 : Int64) : entryFrame m #[(.ref x0), (.ref x1), (.ref x2), (.long x3)] 5 = mkF m 0 #[.val (.ref x0), .val (.ref x1), .val (.ref x2), .val (.long x3), .second] [] := by first | (simp [entryFrame, mkF, argsToLocals, Value.category]; done) | rfl
def Q_rm_ex3 (Z : State) (a1 : Nat) (a2 : Nat) (a3 : Nat) (pa : Int64) (u0 : Value) (u1 : Value) (w0 : Value) (w1 : Value) (w2 : Value) (w3 : Value) (us : Value) (ss : Value) (h0 : Heap) (n0 : Nat) (v : Option Value) (h : Heap) (L : List Loc) : Prop := v = none ∧ Fr n0 L ∧ Keep h0 h [a1] ∧ Exa Z h a1 "com/example/zonegrant/zonegrant/service/OAuthException" ∧ Fld Z h a1 "com/example/zonegrant/zonegrant/service/OAuthException" "retryAfter" "J" (.long pa)
set_option maxRecDepth 65536 in
set_option maxHeartbeats 40000000 in
theorem rm_ex3 (l : Launch) (Z : State) (a0 : Array Value) (hw : ∀ d ∈ tables_1, d.before a0 Z = true) (a1 : Nat) (a2 : Nat) (a3 : Nat) (pa : Int64) (u0 : Value) (u1 : Value) (w0 : Value) (w1 : Value) (w2 : Value) (w3 : Value) (us : Value) (ss : Value) (h0 : Heap) (n0 : Nat) (Z0 : n0 ≤ h0.size) (pf0 : Exa Z h0 a1 "com/example/zonegrant/zonegrant/service/OAuthException") (pf1 : Unt h0 a1) (pf2 : Fld Z h0 a1 "java/lang/Throwable" "backtrace" "Ljava/lang/Object;" .null) (pf3 : Fld Z h0 a1 "java/lang/Throwable" "detailMessage" "Ljava/lang/String;" w0) (pf4 : Fld Z h0 a1 "java/lang/Throwable" "cause" "Ljava/lang/Throwable;" w1) (pf5 : Fld Z h0 a1 "java/lang/Throwable" "stackTrace" "[Ljava/lang/StackTraceElement;" w2) (pf6 : Fld Z h0 a1 "java/lang/Throwable" "suppressedExceptions" "Ljava/util/List;" w3) (pf7 : Fld Z h0 a1 "com/example/zonegrant/zonegrant/service/OAuthException" "error" "Lcom/example/zonegrant/zonegrant/service/OAuthError;" u0) (pf8 : Fld Z h0 a1 "com/example/zonegrant/zonegrant/service/OAuthException" "retryAfter" "J" u1) (pf9 : Sta Z Z.heap "java/lang/Throwable" "UNASSIGNED_STACK" "[Ljava/lang/StackTraceElement;" us) (pf10 : Sta Z Z.heap "java/lang/Throwable" "SUPPRESSED_SENTINEL" "Ljava/util/List;" ss) (pf11 : Old Z n0 h0) (g1 : n0 ≤ a1) (hl : l.stackTraces = true) (hus : us.isRef = true) (hss : ss.isRef = true) :
    own_CTK l Z (⟨"com/example/zonegrant/zonegrant/service/OAuthException", "<init>", "(Lcom/example/zonegrant/zonegrant/service/OAuthError;Ljava/lang/String;J)V"⟩ : MethodName) prog_16_method_2_code 5 none ({ frames := 5, cells := 1, slots := 2752, locals := 68 } : Room) #[(.ref a1), (.ref a2), (.ref a3), (.long pa)] h0 (Q_rm_ex3 Z a1 a2 a3 pa u0 u1 w0 w1 w2 w3 us ss h0 n0) := by
  refine own_ofK own_pn85419558 (Ls := #[.val (.ref a1), .val (.ref a2), .val (.ref a3), .val (.long pa), .second]) (fun m => own_ef_rm_ex3 m a1 a2 a3 pa) ?_
  intro p e s m below meth c T0 X0 hx hby hml hown hnm hret hZ e0 hlk hh0 hTK hBelow
  have hown : s.vm.findClass "com/example/zonegrant/zonegrant/service/OAuthException" = some m.cls := hown
  have N0 := Fr.nil n0
  have lt_a1 : @LT.lt Nat _ a1 h0.size := pf0.lt
  refine own_via (T0.setTop (mkF m 1 #[.val (.ref a1), .val (.ref a2), .val (.ref a3), .val (.long pa), .second] [(.ref a1)])) (fun t k => XS.aloadN X0.here hx rfl (hb hby own_d16_0) rfl rfl k) ?_
  refine own_via (T0.setTop (mkF m 2 #[.val (.ref a1), .val (.ref a2), .val (.ref a3), .val (.long pa), .second] [(.ref a3), (.ref a1)])) (fun t k => XS.aloadN X0.here hx rfl (hb hby own_d16_1) rfl rfl k) ?_
  obtain ⟨v1, T1, h1, L1, X1, e1, q1, st1⟩ := own_cI X0 hx hZ hown (hw _ (List.mem_of_getElem? (i := 49) rfl)) (hw _ (List.mem_of_getElem? (i := 50) rfl)) (hw _ (List.mem_of_getElem? (i := 53) rfl)) rfl (by decide) (W := 0) (own_bkK (rm_exc l Z a0 hw a1 a3 u0 u1 w0 w1 w2 w3 us ss h0 n0 (by omega) pf0 pf1 pf2 pf3 pf4 pf5 pf6 pf7 pf8 pf9 pf10 pf11 (show @LE.le Nat _ _ _ by omega) hl hus hss) hZ (hw _ (List.mem_of_getElem? (i := 53) rfl)) (hw _ (List.mem_of_getElem? (i := 52) rfl)) (by decide) (by decide) hTK hBelow) e0 (a := a1) (Ls := #[.val (.ref a1), .val (.ref a2), .val (.ref a3), .val (.long pa), .second]) (by rw [hml]; rfl) (argsL := [(.ref a3)]) (rest := []) rfl (lenOf own_pd78740836 rfl) rfl (Nat.le_of_eq rfl) (hb hby own_d16_2) (by decide) (by decide)
  obtain ⟨rfl, Nq1, Kq1, f2, f3, f4⟩ := q1
  have N1 := Fr.app N0 Nq1
  have sz_h1 : h0.size ≤ h1.size := Kq1.1
  have K_h1 : Keep h0 h1 [a1] := (Keep.refl h0 [a1]).trans Kq1 (allS (Or.inl (List.mem_of_getElem? (i := 0) rfl)) all0)
  refine own_via (T1.setTop (mkF m 5 #[.val (.ref a1), .val (.ref a2), .val (.ref a3), .val (.long pa), .second] [])) (st1) ?_
  refine own_via (T1.setTop (mkF m 6 #[.val (.ref a1), .val (.ref a2), .val (.ref a3), .val (.long pa), .second] [(.ref a1)])) (fun t k => XS.aloadN X1.here hx rfl (hb hby own_d16_5) rfl rfl k) ?_
  refine own_via (T1.setTop (mkF m 7 #[.val (.ref a1), .val (.ref a2), .val (.ref a3), .val (.long pa), .second] [(.ref a2), (.ref a1)])) (fun t k => XS.aloadN X1.here hx rfl (hb hby own_d16_6) rfl rfl k) ?_
  obtain ⟨T5, h5, X5, e5, W5, st5⟩ := putF X1 hx hZ hown (host := "") (Or.inl (hw _ (List.mem_of_getElem? (i := 97) rfl))) Via.refl e1 f3 f2 (Or.inr ⟨(hw _ (List.mem_of_getElem? (i := 98) rfl)), rfl, hnm⟩) (hw _ (List.mem_of_getElem? (i := 44) rfl)) (ty := (.object "com/example/zonegrant/zonegrant/service/OAuthError")) (by decide) rfl rfl (g := (mkF m 7 #[.val (.ref a1), .val (.ref a2), .val (.ref a3), .val (.long pa), .second] [(.ref a2), (.ref a1)])) rfl rfl (hb hby own_d16_7)
  have N5 := Fr.snoc X5 N1 (show @LE.le Nat _ _ _ by omega)
  have sz_h5 : h5.size = h1.size := Wr.size W5
  have K_h5 : Keep h0 h5 [a1] := K_h1.wr W5 (Or.inl (List.mem_of_getElem? (i := 0) rfl))
  have f6 : Fld Z h5 a1 "com/example/zonegrant/zonegrant/service/OAuthException" "error" "Lcom/example/zonegrant/zonegrant/service/OAuthError;" (.ref a2) := (f3.same W5)
  refine own_via (T5.setTop (mkF m 10 #[.val (.ref a1), .val (.ref a2), .val (.ref a3), .val (.long pa), .second] [])) (st5) ?_
  refine own_via (T5.setTop (mkF m 11 #[.val (.ref a1), .val (.ref a2), .val (.ref a3), .val (.long pa), .second] [(.ref a1)])) (fun t k => XS.aloadN X5.here hx rfl (hb hby own_d16_10) rfl rfl k) ?_
  refine own_via (T5.setTop (mkF m 12 #[.val (.ref a1), .val (.ref a2), .val (.ref a3), .val (.long pa), .second] [(.long pa), (.ref a1)])) (fun t k => XS.lloadN X5.here hx rfl (hb hby own_d16_11) rfl k) ?_
  have f7 : Fld Z h5 a1 "com/example/zonegrant/zonegrant/service/OAuthException" "retryAfter" "J" u1 := (f4.other W5 (Or.inr (slot_ne (Or.inr (hw _ (List.mem_of_getElem? (i := 100) rfl))) (Or.inr (hw _ (List.mem_of_getElem? (i := 98) rfl))) (by decide) (t := .long) (t' := (.object "com/example/zonegrant/zonegrant/service/OAuthError")) (by decide) (by decide))))
  have f8 : Exa Z h5 a1 "com/example/zonegrant/zonegrant/service/OAuthException" := (f2.wr W5)
  obtain ⟨T9, h9, X9, e9, W9, st9⟩ := putF X5 hx hZ hown (host := "") (Or.inl (hw _ (List.mem_of_getElem? (i := 99) rfl))) Via.refl e5 f7 f8 (Or.inr ⟨(hw _ (List.mem_of_getElem? (i := 100) rfl)), rfl, hnm⟩) (hw _ (List.mem_of_getElem? (i := 44) rfl)) (ty := .long) (by decide) rfl rfl (g := (mkF m 12 #[.val (.ref a1), .val (.ref a2), .val (.ref a3), .val (.long pa), .second] [(.long pa), (.ref a1)])) rfl rfl (hb hby own_d16_12)
  have N9 := Fr.snoc X9 N5 (show @LE.le Nat _ _ _ by omega)
  have sz_h9 : h9.size = h5.size := Wr.size W9
  have K_h9 : Keep h0 h9 [a1] := K_h5.wr W9 (Or.inl (List.mem_of_getElem? (i := 0) rfl))
  have f10 : Fld Z h9 a1 "com/example/zonegrant/zonegrant/service/OAuthException" "retryAfter" "J" (.long pa) := (f7.same W9)
  refine own_via (T9.setTop (mkF m 15 #[.val (.ref a1), .val (.ref a2), .val (.ref a3), .val (.long pa), .second] [])) (st9) ?_
  have f11 : Exa Z h9 a1 "com/example/zonegrant/zonegrant/service/OAuthException" := (f8.wr W9)
  exact own_ret0 X9 hx hlk hret (hb hby own_d16_15) e9 (⟨rfl, N9, K_h9, f11, f10⟩) (by decide) (by decide)
theorem own_pn38839767 : plainFor (⟨"java/util/OptionalLong", "empty", "()Ljava/util/OptionalLong;"⟩ : MethodName) = true := by first | exact Jvm.Free.JP.mathPlain rfl (by decide +kernel) | exact plainFor_of_name (by first | (simp [plainName, overriddenIn]; done) | decide +kernel) | decide +kernel
theorem own_d14_0 : decode jdk_2650_method_2_code 0 = .ok (.getstatic 17, 3) := by decide +kernel
theorem own_d14_3 : decode jdk_2650_method_2_code 3 = .ok (.areturn, 1) := by decide +kernel
theorem own_ef_rm_olEmpty (m : MethodId)  : entryFrame m #[] 0 = mkF m 0 #[] [] := by first | (simp [entryFrame, mkF, argsToLocals, Value.category]; done) | rfl
def Q_rm_olEmpty (Z : State) (em : Nat) (h0 : Heap) (n0 : Nat) (v : Option Value) (h : Heap) (L : List Loc) : Prop := v = some (.ref em) ∧ Fr n0 L ∧ h = h0
set_option maxRecDepth 65536 in
set_option maxHeartbeats 40000000 in
theorem rm_olEmpty (l : Launch) (Z : State) (a0 : Array Value) (hw : ∀ d ∈ tables_1, d.before a0 Z = true) (em : Nat) (h0 : Heap) (n0 : Nat) (Z0 : n0 ≤ h0.size) (pf0 : Sta Z Z.heap "java/util/OptionalLong" "EMPTY" "Ljava/util/OptionalLong;" (.ref em)) (pf1 : Old Z n0 h0) :
    own_CT l Z (⟨"java/util/OptionalLong", "empty", "()Ljava/util/OptionalLong;"⟩ : MethodName) jdk_2650_method_2_code 0 (some (.object "java/util/OptionalLong")) ({ frames := 0, cells := 0, slots := 0, locals := 0 } : Room) #[] h0 (Q_rm_olEmpty Z em h0 n0) := by
  refine own_of own_pn38839767 (Ls := #[]) (fun m => own_ef_rm_olEmpty m ) ?_
  intro p e s m below meth c T0 X0 hx hby hml hown hnm hret hZ e0 hlk
  have hown : s.vm.findClass "java/util/OptionalLong" = some m.cls := hown
  have N0 := Fr.nil n0
  obtain ⟨T1, X1, e1, st1⟩ := getS X0 hx hZ (host := "") hown (hw _ (List.mem_of_getElem? (i := 110) rfl)) Via.refl e0 (pf0.ext pf1.2) (g := (mkF m 0 #[] [])) rfl (hb hby own_d14_0)
  refine own_via (T1.setTop (mkF m 3 #[] [(.ref em)])) (st1) ?_
  exact own_retA X1 hx hlk hret rfl rfl (hb hby own_d14_3) e1 (⟨rfl, N0, rfl⟩) (by decide) (by decide)
theorem own_pn7777409 : plainFor (⟨"java/util/OptionalLong", "<init>", "(J)V"⟩ : MethodName) = true := by first | exact Jvm.Free.JP.mathPlain rfl (by decide +kernel) | exact plainFor_of_name (by first | (simp [plainName, overriddenIn]; done) | decide +kernel) | decide +kernel
theorem own_d18_0 : decode jdk_2650_method_3_code 0 = .ok (.aload_n 0, 1) := by decide +kernel
theorem own_d18_1 : decode jdk_2650_method_3_code 1 = .ok (.invokespecial 1, 3) := by decide +kernel
theorem own_d18_4 : decode jdk_2650_method_3_code 4 = .ok (.aload_n 0, 1) := by decide +kernel
theorem own_d18_5 : decode jdk_2650_method_3_code 5 = .ok (.iconst 1, 1) := by decide +kernel
theorem own_d18_6 : decode jdk_2650_method_3_code 6 = .ok (.putfield 7, 3) := by decide +kernel
theorem own_d18_9 : decode jdk_2650_method_3_code 9 = .ok (.aload_n 0, 1) := by decide +kernel
theorem own_d18_10 : decode jdk_2650_method_3_code 10 = .ok (.lload_n 1, 1) := by decide +kernel
theorem own_d18_11 : decode jdk_2650_method_3_code 11 = .ok (.putfield 13, 3) := by decide +kernel
theorem own_d18_14 : decode jdk_2650_method_3_code 14 = .ok (.return_, 1) := by decide +kernel
theorem own_ef_rm_olInit (m : MethodId) (x0 : Addr) (x1 : Int64) : entryFrame m #[(.ref x0), (.long x1)] 3 = mkF m 0 #[.val (.ref x0), .val (.long x1), .second] [] := by first | (simp [entryFrame, mkF, argsToLocals, Value.category]; done) | rfl
def Q_rm_olInit (Z : State) (a1 : Nat) (pa : Int64) (u0 : Value) (u1 : Value) (h0 : Heap) (n0 : Nat) (v : Option Value) (h : Heap) (L : List Loc) : Prop := v = none ∧ Fr n0 L ∧ Keep h0 h [a1] ∧ Exa Z h a1 "java/util/OptionalLong" ∧ Fld Z h a1 "java/util/OptionalLong" "isPresent" "Z" (.int (1 : Int32)) ∧ Fld Z h a1 "java/util/OptionalLong" "value" "J" (.long pa)
set_option maxRecDepth 65536 in
set_option maxHeartbeats 40000000 in
theorem rm_olInit (l : Launch) (Z : State) (a0 : Array Value) (hw : ∀ d ∈ tables_1, d.before a0 Z = true) (a1 : Nat) (pa : Int64) (u0 : Value) (u1 : Value) (h0 : Heap) (n0 : Nat) (Z0 : n0 ≤ h0.size) (pf0 : Exa Z h0 a1 "java/util/OptionalLong") (pf1 : Fld Z h0 a1 "java/util/OptionalLong" "isPresent" "Z" u0) (pf2 : Fld Z h0 a1 "java/util/OptionalLong" "value" "J" u1) (g1 : n0 ≤ a1) :
    own_CT l Z (⟨"java/util/OptionalLong", "<init>", "(J)V"⟩ : MethodName) jdk_2650_method_3_code 3 none ({ frames := 1, cells := 0, slots := 0, locals := 12 } : Room) #[(.ref a1), (.long pa)] h0 (Q_rm_olInit Z a1 pa u0 u1 h0 n0) := by
  refine own_of own_pn7777409 (Ls := #[.val (.ref a1), .val (.long pa), .second]) (fun m => own_ef_rm_olInit m a1 pa) ?_
  intro p e s m below meth c T0 X0 hx hby hml hown hnm hret hZ e0 hlk
  have hown : s.vm.findClass "java/util/OptionalLong" = some m.cls := hown
  have N0 := Fr.nil n0
  have lt_a1 : @LT.lt Nat _ a1 h0.size := pf0.lt
  refine own_via (T0.setTop (mkF m 1 #[.val (.ref a1), .val (.long pa), .second] [(.ref a1)])) (fun t k => XS.aloadN X0.here hx rfl (hb hby own_d18_0) rfl rfl k) ?_
  obtain ⟨T1, X1, e1, st1⟩ := initO X0 hx hZ hown (hw _ (List.mem_of_getElem? (i := 132) rfl)) (hw _ (List.mem_of_getElem? (i := 20) rfl)) (hw _ (List.mem_of_getElem? (i := 21) rfl)) e0 (g := (mkF m 1 #[.val (.ref a1), .val (.long pa), .second] [(.ref a1)])) rfl (by rw [hml]; rfl) rfl (hb hby own_d18_1) (by decide) (W := 0) (by show 2 * 0 + _ ≤ _; exact Nat.le_of_eq rfl) (by decide)
  refine own_via (T1.setTop (mkF m 4 #[.val (.ref a1), .val (.long pa), .second] [])) (st1) ?_
  refine own_via (T1.setTop (mkF m 5 #[.val (.ref a1), .val (.long pa), .second] [(.ref a1)])) (fun t k => XS.aloadN X1.here hx rfl (hb hby own_d18_4) rfl rfl k) ?_
  refine own_via (T1.setTop (mkF m 6 #[.val (.ref a1), .val (.long pa), .second] [(.int (1 : Int32)), (.ref a1)])) (fun t k => XS.iconst X1.here hx rfl (hb hby own_d18_5) k) ?_
  obtain ⟨T2, h2, X2, e2, W2, st2⟩ := putF X1 hx hZ hown (host := "") (Or.inl (hw _ (List.mem_of_getElem? (i := 116) rfl))) Via.refl e1 pf1 pf0 (Or.inr ⟨(hw _ (List.mem_of_getElem? (i := 117) rfl)), rfl, hnm⟩) (hw _ (List.mem_of_getElem? (i := 127) rfl)) (ty := .boolean) (by decide) rfl rfl (g := (mkF m 6 #[.val (.ref a1), .val (.long pa), .second] [(.int (1 : Int32)), (.ref a1)])) rfl rfl (hb hby own_d18_6)
  have N2 := Fr.snoc X2 N0 (show @LE.le Nat _ _ _ by omega)
  have sz_h2 : h2.size = h0.size := Wr.size W2
  have K_h2 : Keep h0 h2 [a1] := (Keep.refl h0 [a1]).wr W2 (Or.inl (List.mem_of_getElem? (i := 0) rfl))
  have f3 : Fld Z h2 a1 "java/util/OptionalLong" "isPresent" "Z" (.int (1 : Int32)) := (pf1.same W2)
  refine own_via (T2.setTop (mkF m 9 #[.val (.ref a1), .val (.long pa), .second] [])) (st2) ?_
  refine own_via (T2.setTop (mkF m 10 #[.val (.ref a1), .val (.long pa), .second] [(.ref a1)])) (fun t k => XS.aloadN X2.here hx rfl (hb hby own_d18_9) rfl rfl k) ?_
  refine own_via (T2.setTop (mkF m 11 #[.val (.ref a1), .val (.long pa), .second] [(.long pa), (.ref a1)])) (fun t k => XS.lloadN X2.here hx rfl (hb hby own_d18_10) rfl k) ?_
  have f4 : Fld Z h2 a1 "java/util/OptionalLong" "value" "J" u1 := (pf2.other W2 (Or.inr (slot_ne (Or.inr (hw _ (List.mem_of_getElem? (i := 134) rfl))) (Or.inr (hw _ (List.mem_of_getElem? (i := 117) rfl))) (by decide) (t := .long) (t' := .boolean) (by decide) (by decide))))
  have f5 : Exa Z h2 a1 "java/util/OptionalLong" := (pf0.wr W2)
  obtain ⟨T6, h6, X6, e6, W6, st6⟩ := putF X2 hx hZ hown (host := "") (Or.inl (hw _ (List.mem_of_getElem? (i := 133) rfl))) Via.refl e2 f4 f5 (Or.inr ⟨(hw _ (List.mem_of_getElem? (i := 134) rfl)), rfl, hnm⟩) (hw _ (List.mem_of_getElem? (i := 127) rfl)) (ty := .long) (by decide) rfl rfl (g := (mkF m 11 #[.val (.ref a1), .val (.long pa), .second] [(.long pa), (.ref a1)])) rfl rfl (hb hby own_d18_11)
  have N6 := Fr.snoc X6 N2 (show @LE.le Nat _ _ _ by omega)
  have sz_h6 : h6.size = h2.size := Wr.size W6
  have K_h6 : Keep h0 h6 [a1] := K_h2.wr W6 (Or.inl (List.mem_of_getElem? (i := 0) rfl))
  have f7 : Fld Z h6 a1 "java/util/OptionalLong" "value" "J" (.long pa) := (f4.same W6)
  refine own_via (T6.setTop (mkF m 14 #[.val (.ref a1), .val (.long pa), .second] [])) (st6) ?_
  have f8 : Exa Z h6 a1 "java/util/OptionalLong" := (f5.wr W6)
  have f9 : Fld Z h6 a1 "java/util/OptionalLong" "isPresent" "Z" (.int (1 : Int32)) := (f3.other W6 (Or.inr (slot_ne (Or.inr (hw _ (List.mem_of_getElem? (i := 117) rfl))) (Or.inr (hw _ (List.mem_of_getElem? (i := 134) rfl))) (by decide) (t := .boolean) (t' := .long) (by decide) (by decide))))
  exact own_ret0 X6 hx hlk hret (hb hby own_d18_14) e6 (⟨rfl, N6, K_h6, f8, f9, f7⟩) (by decide) (by decide)
theorem own_pn79494792 : plainFor (⟨"java/util/OptionalLong", "of", "(J)Ljava/util/OptionalLong;"⟩ : MethodName) = true := by first | exact Jvm.Free.JP.mathPlain rfl (by decide +kernel) | exact plainFor_of_name (by first | (simp [plainName, overriddenIn]; done) | decide +kernel) | decide +kernel
theorem own_d17_0 : decode jdk_2650_method_4_code 0 = .ok (.new 8, 3) := by decide +kernel
theorem own_d17_3 : decode jdk_2650_method_4_code 3 = .ok (.dup, 1) := by decide +kernel
theorem own_d17_4 : decode jdk_2650_method_4_code 4 = .ok (.lload_n 0, 1) := by decide +kernel
theorem own_d17_5 : decode jdk_2650_method_4_code 5 = .ok (.invokespecial 21, 3) := by decide +kernel
theorem own_pd72699042 : parseMethodDescriptor "(J)V" = some ⟨[.long], none⟩ := by decide +kernel
theorem own_d17_8 : decode jdk_2650_method_4_code 8 = .ok (.areturn, 1) := by decide +kernel
theorem own_ef_rm_olOf (m : MethodId) (x0 : Int64) : entryFrame m #[(.long x0)] 2 = mkF m 0 #[.val (.long x0), .second] [] := by first | (simp [entryFrame, mkF, argsToLocals, Value.category]; done) | rfl
def Q_rm_olOf (Z : State) (pa : Int64) (h0 : Heap) (n0 : Nat) (v : Option Value) (h : Heap) (L : List Loc) : Prop := ∃ (b : Nat), v = some (.ref b) ∧ Fr n0 L ∧ Keep h0 h [] ∧ Exa Z h b "java/util/OptionalLong" ∧ Fld Z h b "java/util/OptionalLong" "isPresent" "Z" (.int (1 : Int32)) ∧ Fld Z h b "java/util/OptionalLong" "value" "J" (.long pa)
set_option maxRecDepth 65536 in
set_option maxHeartbeats 40000000 in
theorem rm_olOf (l : Launch) (Z : State) (a0 : Array Value) (hw : ∀ d ∈ tables_1, d.before a0 Z = true) (pa : Int64) (h0 : Heap) (n0 : Nat) (Z0 : n0 ≤ h0.size)  :
    own_CT l Z (⟨"java/util/OptionalLong", "of", "(J)Ljava/util/OptionalLong;"⟩ : MethodName) jdk_2650_method_4_code 2 (some (.object "java/util/OptionalLong")) ({ frames := 2, cells := 1, slots := 2, locals := 27 } : Room) #[(.long pa)] h0 (Q_rm_olOf Z pa h0 n0) := by
  refine own_of own_pn79494792 (Ls := #[.val (.long pa), .second]) (fun m => own_ef_rm_olOf m pa) ?_
  intro p e s m below meth c T0 X0 hx hby hml hown hnm hret hZ e0 hlk
  have hown : s.vm.findClass "java/util/OptionalLong" = some m.cls := hown
  have N0 := Fr.nil n0
  obtain ⟨T1, h1, X1, e1, E1, A1, D1, U1, st1⟩ := newO X0 hx hZ hown (hw _ (List.mem_of_getElem? (i := 126) rfl)) (hw _ (List.mem_of_getElem? (i := 127) rfl)) (hw _ (List.mem_of_getElem? (i := 108) rfl)) e0 (g := (mkF m 0 #[.val (.long pa), .second] [])) rfl (hb hby own_d17_0) (by decide) (by decide)
  obtain ⟨o1, g1⟩ : ∃ z, z = h0.size := ⟨_, rfl⟩
  rw [← g1] at A1 D1 U1 st1
  have sz_h1 : h0.size ≤ h1.size := E1.1
  have K_h1 : Keep h0 h1 [] := (Keep.refl h0 []).ext E1
  have lt_o1 : @LT.lt Nat _ o1 h1.size := A1.lt
  refine own_via (T1.setTop (mkF m 3 #[.val (.long pa), .second] [(.ref o1)])) (st1) ?_
  refine own_via (T1.setTop (mkF m 4 #[.val (.long pa), .second] [(.ref o1), (.ref o1)])) (fun t k => XS.dup X1.here hx rfl (hb hby own_d17_3) rfl rfl k) ?_
  refine own_via (T1.setTop (mkF m 5 #[.val (.long pa), .second] [(.long pa), (.ref o1), (.ref o1)])) (fun t k => XS.lloadN X1.here hx rfl (hb hby own_d17_4) rfl k) ?_
  have f2 : Fld Z h1 o1 "java/util/OptionalLong" "isPresent" "Z" (.int (0 : Int32)) := (D1 (Or.inr (hw _ (List.mem_of_getElem? (i := 117) rfl))) (ty := .boolean) (by decide))
  have f3 : Fld Z h1 o1 "java/util/OptionalLong" "value" "J" (.long (0 : Int64)) := (D1 (Or.inr (hw _ (List.mem_of_getElem? (i := 134) rfl))) (ty := .long) (by decide))
  obtain ⟨v4, T4, h4, L4, X4, e4, q4, st4⟩ := own_cI X1 hx hZ hown (hw _ (List.mem_of_getElem? (i := 128) rfl)) (hw _ (List.mem_of_getElem? (i := 129) rfl)) (hw _ (List.mem_of_getElem? (i := 131) rfl)) rfl (by decide) (W := 1) (own_bk (rm_olInit l Z a0 hw o1 pa (.int (0 : Int32)) (.long (0 : Int64)) h1 n0 (by omega) A1 f2 f3 (show @LE.le Nat _ _ _ by omega)) hZ (hw _ (List.mem_of_getElem? (i := 131) rfl)) (hw _ (List.mem_of_getElem? (i := 108) rfl)) (by decide) (by decide)) e1 (a := o1) (Ls := #[.val (.long pa), .second]) (by rw [hml]; rfl) (argsL := [(.long pa)]) (rest := [(.ref o1)]) rfl (lenOf own_pd72699042 rfl) rfl (Nat.le_of_eq rfl) (hb hby own_d17_5) (by decide) (by decide)
  obtain ⟨rfl, Nq4, Kq4, f5, f6, f7⟩ := q4
  have N4 := Fr.app N0 Nq4
  have sz_h4 : h1.size ≤ h4.size := Kq4.1
  have K_h4 : Keep h0 h4 [] := K_h1.trans Kq4 (allS (Or.inr (show @LE.le Nat _ _ _ by omega)) all0)
  refine own_via (T4.setTop (mkF m 8 #[.val (.long pa), .second] [(.ref o1)])) (st4) ?_
  exact own_retA X4 hx hlk hret rfl rfl (hb hby own_d17_8) e4 (⟨o1, rfl, N4, K_h4, f5, f6, f7⟩) (by decide) (by decide)
theorem own_pn62324886 : plainFor (⟨"java/util/OptionalLong", "isPresent", "()Z"⟩ : MethodName) = true := by first | exact Jvm.Free.JP.mathPlain rfl (by decide +kernel) | exact plainFor_of_name (by first | (simp [plainName, overriddenIn]; done) | decide +kernel) | decide +kernel
theorem own_d15_0 : decode jdk_2650_method_6_code 0 = .ok (.aload_n 0, 1) := by decide +kernel
theorem own_d15_1 : decode jdk_2650_method_6_code 1 = .ok (.getfield 7, 3) := by decide +kernel
theorem own_d15_4 : decode jdk_2650_method_6_code 4 = .ok (.ireturn, 1) := by decide +kernel
theorem own_ef_rm_olIs (m : MethodId) (x0 : Addr) : entryFrame m #[(.ref x0)] 1 = mkF m 0 #[.val (.ref x0)] [] := by first | (simp [entryFrame, mkF, argsToLocals, Value.category]; done) | rfl
def Q_rm_olIs (Z : State) (a1 : Nat) (pa : Int32) (h0 : Heap) (n0 : Nat) (v : Option Value) (h : Heap) (L : List Loc) : Prop := v = some (.int (nar .boolean pa)) ∧ Fr n0 L ∧ h = h0
set_option maxRecDepth 65536 in
set_option maxHeartbeats 40000000 in
theorem rm_olIs (l : Launch) (Z : State) (a0 : Array Value) (hw : ∀ d ∈ tables_1, d.before a0 Z = true) (a1 : Nat) (pa : Int32) (h0 : Heap) (n0 : Nat) (Z0 : n0 ≤ h0.size) (pf0 : Fld Z h0 a1 "java/util/OptionalLong" "isPresent" "Z" (.int pa)) :
    own_CT l Z (⟨"java/util/OptionalLong", "isPresent", "()Z"⟩ : MethodName) jdk_2650_method_6_code 1 (some .boolean) ({ frames := 0, cells := 0, slots := 0, locals := 0 } : Room) #[(.ref a1)] h0 (Q_rm_olIs Z a1 pa h0 n0) := by
  refine own_of own_pn62324886 (Ls := #[.val (.ref a1)]) (fun m => own_ef_rm_olIs m a1) ?_
  intro p e s m below meth c T0 X0 hx hby hml hown hnm hret hZ e0 hlk
  have hown : s.vm.findClass "java/util/OptionalLong" = some m.cls := hown
  have N0 := Fr.nil n0
  have lt_a1 : @LT.lt Nat _ a1 h0.size := pf0.lt
  refine own_via (T0.setTop (mkF m 1 #[.val (.ref a1)] [(.ref a1)])) (fun t k => XS.aloadN X0.here hx rfl (hb hby own_d15_0) rfl rfl k) ?_
  obtain ⟨T1, X1, e1, st1⟩ := getF X0 hx hZ hown (host := "") (Or.inl (hw _ (List.mem_of_getElem? (i := 116) rfl))) Via.refl e0 pf0 (g := (mkF m 1 #[.val (.ref a1)] [(.ref a1)])) rfl rfl (hb hby own_d15_1)
  refine own_via (T1.setTop (mkF m 4 #[.val (.ref a1)] [(.int pa)])) (st1) ?_
  exact own_retN X1 hx hlk (t := .boolean) hret (by simp) (hb hby own_d15_4) e1 (⟨rfl, N0, rfl⟩) (by decide) (by decide)
theorem own_pn57022484 : plainFor (⟨"java/util/OptionalLong", "getAsLong", "()J"⟩ : MethodName) = true := by first | exact Jvm.Free.JP.mathPlain rfl (by decide +kernel) | exact plainFor_of_name (by first | (simp [plainName, overriddenIn]; done) | decide +kernel) | decide +kernel
theorem own_d19_0 : decode jdk_2650_method_5_code 0 = .ok (.aload_n 0, 1) := by decide +kernel
theorem own_d19_1 : decode jdk_2650_method_5_code 1 = .ok (.getfield 7, 3) := by decide +kernel
theorem own_d19_4 : decode jdk_2650_method_5_code 4 = .ok (.ifCond .ne 13, 3) := by decide +kernel
theorem own_d19_17 : decode jdk_2650_method_5_code 17 = .ok (.aload_n 0, 1) := by decide +kernel
theorem own_d19_18 : decode jdk_2650_method_5_code 18 = .ok (.getfield 13, 3) := by decide +kernel
theorem own_d19_21 : decode jdk_2650_method_5_code 21 = .ok (.lreturn, 1) := by decide +kernel
theorem own_ef_rm_olGet (m : MethodId) (x0 : Addr) : entryFrame m #[(.ref x0)] 1 = mkF m 0 #[.val (.ref x0)] [] := by first | (simp [entryFrame, mkF, argsToLocals, Value.category]; done) | rfl
def Q_rm_olGet (Z : State) (a1 : Nat) (pa : Int32) (z : Int64) (h0 : Heap) (n0 : Nat) (v : Option Value) (h : Heap) (L : List Loc) : Prop := v = some (.long z) ∧ Fr n0 L ∧ h = h0
set_option maxRecDepth 65536 in
set_option maxHeartbeats 40000000 in
theorem rm_olGet (l : Launch) (Z : State) (a0 : Array Value) (hw : ∀ d ∈ tables_1, d.before a0 Z = true) (a1 : Nat) (pa : Int32) (z : Int64) (h0 : Heap) (n0 : Nat) (Z0 : n0 ≤ h0.size) (pf0 : Fld Z h0 a1 "java/util/OptionalLong" "isPresent" "Z" (.int pa)) (pf1 : Fld Z h0 a1 "java/util/OptionalLong" "value" "J" (.long z)) (hp : ¬ pa = 0) :
    own_CT l Z (⟨"java/util/OptionalLong", "getAsLong", "()J"⟩ : MethodName) jdk_2650_method_5_code 1 (some .long) ({ frames := 0, cells := 0, slots := 0, locals := 0 } : Room) #[(.ref a1)] h0 (Q_rm_olGet Z a1 pa z h0 n0) := by
  refine own_of own_pn57022484 (Ls := #[.val (.ref a1)]) (fun m => own_ef_rm_olGet m a1) ?_
  intro p e s m below meth c T0 X0 hx hby hml hown hnm hret hZ e0 hlk
  have hown : s.vm.findClass "java/util/OptionalLong" = some m.cls := hown
  have N0 := Fr.nil n0
  have lt_a1 : @LT.lt Nat _ a1 h0.size := pf0.lt
  refine own_via (T0.setTop (mkF m 1 #[.val (.ref a1)] [(.ref a1)])) (fun t k => XS.aloadN X0.here hx rfl (hb hby own_d19_0) rfl rfl k) ?_
  obtain ⟨T1, X1, e1, st1⟩ := getF X0 hx hZ hown (host := "") (Or.inl (hw _ (List.mem_of_getElem? (i := 116) rfl))) Via.refl e0 pf0 (g := (mkF m 1 #[.val (.ref a1)] [(.ref a1)])) rfl rfl (hb hby own_d19_1)
  refine own_via (T1.setTop (mkF m 4 #[.val (.ref a1)] [(.int pa)])) (st1) ?_
  refine own_via (T1.setTop (mkF m 17 #[.val (.ref a1)] [])) (fun t k => XS.ifYes X1.here hx rfl (pc0 := 4) (pc' := 17) rfl (hb hby own_d19_4) rfl (XT.i0_ne_t hp) (by decide) (by decide) k) ?_
  refine own_via (T1.setTop (mkF m 18 #[.val (.ref a1)] [(.ref a1)])) (fun t k => XS.aloadN X1.here hx rfl (hb hby own_d19_17) rfl rfl k) ?_
  obtain ⟨T2, X2, e2, st2⟩ := getF X1 hx hZ hown (host := "") (Or.inl (hw _ (List.mem_of_getElem? (i := 133) rfl))) Via.refl e1 pf1 (g := (mkF m 18 #[.val (.ref a1)] [(.ref a1)])) rfl rfl (hb hby own_d19_18)
  refine own_via (T2.setTop (mkF m 21 #[.val (.ref a1)] [(.long z)])) (st2) ?_
  exact own_retJ X2 hx hlk hret (hb hby own_d19_21) e2 (⟨rfl, N0, rfl⟩) (by decide) (by decide)
theorem own_pn59946328 : plainFor (⟨"com/example/zonegrant/zonegrant/service/OAuthException", "retryAfter", "()Ljava/util/OptionalLong;"⟩ : MethodName) = true := by first | exact Jvm.Free.JP.mathPlain rfl (by decide +kernel) | exact plainFor_of_name (by first | (simp [plainName, overriddenIn]; done) | decide +kernel) | decide +kernel
theorem own_d13_0 : decode prog_16_method_4_code 0 = .ok (.aload_n 0, 1) := by decide +kernel
theorem own_d13_1 : decode prog_16_method_4_code 1 = .ok (.getfield 13, 3) := by decide +kernel
theorem own_d13_4 : decode prog_16_method_4_code 4 = .ok (.lconst 0, 1) := by decide +kernel
theorem own_d13_5 : decode prog_16_method_4_code 5 = .ok (.lcmp, 1) := by decide +kernel
theorem own_d13_6 : decode prog_16_method_4_code 6 = .ok (.ifCond .ne 9, 3) := by decide +kernel
theorem own_d13_9 : decode prog_16_method_4_code 9 = .ok (.invokestatic 17, 3) := by decide +kernel
theorem own_pd41918257 : parseMethodDescriptor "()Ljava/util/OptionalLong;" = some ⟨[], some (.object "java/util/OptionalLong")⟩ := by decide +kernel
theorem own_d13_12 : decode prog_16_method_4_code 12 = .ok (.goto 10, 3) := by decide +kernel
theorem own_d13_22 : decode prog_16_method_4_code 22 = .ok (.areturn, 1) := by decide +kernel
theorem own_ef_rm_ra0 (m : MethodId) (x0 : Addr) : entryFrame m #[(.ref x0)] 1 = mkF m 0 #[.val (.ref x0)] [] := by first | (simp [entryFrame, mkF, argsToLocals, Value.category]; done) | rfl
def Q_rm_ra0 (Z : State) (a1 : Nat) (z : Int64) (em : Nat) (h0 : Heap) (n0 : Nat) (v : Option Value) (h : Heap) (L : List Loc) : Prop := v = some (.ref em) ∧ Fr n0 L ∧ h = h0
set_option maxRecDepth 65536 in
set_option maxHeartbeats 40000000 in
theorem rm_ra0 (l : Launch) (Z : State) (a0 : Array Value) (hw : ∀ d ∈ tables_1, d.before a0 Z = true) (a1 : Nat) (z : Int64) (em : Nat) (h0 : Heap) (n0 : Nat) (Z0 : n0 ≤ h0.size) (pf0 : Fld Z h0 a1 "com/example/zonegrant/zonegrant/service/OAuthException" "retryAfter" "J" (.long z)) (pf1 : Sta Z Z.heap "java/util/OptionalLong" "EMPTY" "Ljava/util/OptionalLong;" (.ref em)) (pf2 : Old Z n0 h0) (hz : z = 0) :
    own_CT l Z (⟨"com/example/zonegrant/zonegrant/service/OAuthException", "retryAfter", "()Ljava/util/OptionalLong;"⟩ : MethodName) prog_16_method_4_code 1 (some (.object "java/util/OptionalLong")) ({ frames := 1, cells := 0, slots := 0, locals := 11 } : Room) #[(.ref a1)] h0 (Q_rm_ra0 Z a1 z em h0 n0) := by
  refine own_of own_pn59946328 (Ls := #[.val (.ref a1)]) (fun m => own_ef_rm_ra0 m a1) ?_
  intro p e s m below meth c T0 X0 hx hby hml hown hnm hret hZ e0 hlk
  have hown : s.vm.findClass "com/example/zonegrant/zonegrant/service/OAuthException" = some m.cls := hown
  have N0 := Fr.nil n0
  have lt_a1 : @LT.lt Nat _ a1 h0.size := pf0.lt
  refine own_via (T0.setTop (mkF m 1 #[.val (.ref a1)] [(.ref a1)])) (fun t k => XS.aloadN X0.here hx rfl (hb hby own_d13_0) rfl rfl k) ?_
  obtain ⟨T1, X1, e1, st1⟩ := getF X0 hx hZ hown (host := "") (Or.inl (hw _ (List.mem_of_getElem? (i := 99) rfl))) Via.refl e0 pf0 (g := (mkF m 1 #[.val (.ref a1)] [(.ref a1)])) rfl rfl (hb hby own_d13_1)
  refine own_via (T1.setTop (mkF m 4 #[.val (.ref a1)] [(.long z)])) (st1) ?_
  refine own_via (T1.setTop (mkF m 5 #[.val (.ref a1)] [(.long (0 : Int64)), (.long z)])) (fun t k => XS.lconst X1.here hx rfl (hb hby own_d13_4) k) ?_
  refine own_via (T1.setTop (mkF m 6 #[.val (.ref a1)] [(.int (lcmpW z (0 : Int64)))])) (fun t k => XS.lcmp X1.here hx rfl (hb hby own_d13_5) rfl k) ?_
  refine own_via (T1.setTop (mkF m 9 #[.val (.ref a1)] [])) (fun t k => XS.ifNo X1.here hx rfl (hb hby own_d13_6) rfl (XT.i0_ne_f (own_lc0 hz)) k) ?_
  obtain ⟨v2, T2, h2, L2, X2, e2, q2, st2⟩ := own_cS X1 hx hZ hown (hw _ (List.mem_of_getElem? (i := 106) rfl)) (hw _ (List.mem_of_getElem? (i := 107) rfl)) (hw _ (List.mem_of_getElem? (i := 108) rfl)) (hw _ (List.mem_of_getElem? (i := 109) rfl)) (by decide) (W := 0) (own_bk (rm_olEmpty l Z a0 hw em h0 n0 (by omega) pf1 pf2) hZ (hw _ (List.mem_of_getElem? (i := 109) rfl)) (hw _ (List.mem_of_getElem? (i := 108) rfl)) (by decide) (by decide)) e1 (Ls := #[.val (.ref a1)]) (by rw [hml]; rfl) (argsL := []) (rest := []) rfl (lenOf own_pd41918257 rfl) rfl (Nat.le_of_eq rfl) (hb hby own_d13_9) (by decide) (by decide)
  obtain ⟨rfl, Nq2, eq2⟩ := q2
  have N2 := Fr.app N0 Nq2
  replace e2 := e2.trans eq2
  refine own_via (T2.setTop (mkF m 12 #[.val (.ref a1)] [(.ref em)])) (st2) ?_
  refine own_via (T2.setTop (mkF m 22 #[.val (.ref a1)] [(.ref em)])) (fun t k => XS.goto X2.here hx rfl (pc0 := 12) (pc' := 22) rfl (hb hby own_d13_12) (by decide) (by decide) k) ?_
  exact own_retA X2 hx hlk hret rfl rfl (hb hby own_d13_22) e2 (⟨rfl, N2, rfl⟩) (by decide) (by decide)
theorem own_d13_15 : decode prog_16_method_4_code 15 = .ok (.aload_n 0, 1) := by decide +kernel
theorem own_d13_16 : decode prog_16_method_4_code 16 = .ok (.getfield 13, 3) := by decide +kernel
theorem own_d13_19 : decode prog_16_method_4_code 19 = .ok (.invokestatic 23, 3) := by decide +kernel
theorem own_pd99915187 : parseMethodDescriptor "(J)Ljava/util/OptionalLong;" = some ⟨[.long], some (.object "java/util/OptionalLong")⟩ := by decide +kernel
theorem own_ef_rm_ra1 (m : MethodId) (x0 : Addr) : entryFrame m #[(.ref x0)] 1 = mkF m 0 #[.val (.ref x0)] [] := by first | (simp [entryFrame, mkF, argsToLocals, Value.category]; done) | rfl
def Q_rm_ra1 (Z : State) (a1 : Nat) (pa : Int64) (h0 : Heap) (n0 : Nat) (v : Option Value) (h : Heap) (L : List Loc) : Prop := ∃ (b : Nat), v = some (.ref b) ∧ Fr n0 L ∧ Keep h0 h [] ∧ Exa Z h b "java/util/OptionalLong" ∧ Fld Z h b "java/util/OptionalLong" "isPresent" "Z" (.int (1 : Int32)) ∧ Fld Z h b "java/util/OptionalLong" "value" "J" (.long pa)
set_option maxRecDepth 65536 in
set_option maxHeartbeats 40000000 in
theorem rm_ra1 (l : Launch) (Z : State) (a0 : Array Value) (hw : ∀ d ∈ tables_1, d.before a0 Z = true) (a1 : Nat) (pa : Int64) (h0 : Heap) (n0 : Nat) (Z0 : n0 ≤ h0.size) (pf0 : Fld Z h0 a1 "com/example/zonegrant/zonegrant/service/OAuthException" "retryAfter" "J" (.long pa)) (hz : ¬ pa = 0) :
    own_CT l Z (⟨"com/example/zonegrant/zonegrant/service/OAuthException", "retryAfter", "()Ljava/util/OptionalLong;"⟩ : MethodName) prog_16_method_4_code 1 (some (.object "java/util/OptionalLong")) ({ frames := 3, cells := 1, slots := 2, locals := 40 } : Room) #[(.ref a1)] h0 (Q_rm_ra1 Z a1 pa h0 n0) := by
  refine own_of own_pn59946328 (Ls := #[.val (.ref a1)]) (fun m => own_ef_rm_ra1 m a1) ?_
  intro p e s m below meth c T0 X0 hx hby hml hown hnm hret hZ e0 hlk
  have hown : s.vm.findClass "com/example/zonegrant/zonegrant/service/OAuthException" = some m.cls := hown
  have N0 := Fr.nil n0
  have lt_a1 : @LT.lt Nat _ a1 h0.size := pf0.lt
  refine own_via (T0.setTop (mkF m 1 #[.val (.ref a1)] [(.ref a1)])) (fun t k => XS.aloadN X0.here hx rfl (hb hby own_d13_0) rfl rfl k) ?_
  obtain ⟨T1, X1, e1, st1⟩ := getF X0 hx hZ hown (host := "") (Or.inl (hw _ (List.mem_of_getElem? (i := 99) rfl))) Via.refl e0 pf0 (g := (mkF m 1 #[.val (.ref a1)] [(.ref a1)])) rfl rfl (hb hby own_d13_1)
  refine own_via (T1.setTop (mkF m 4 #[.val (.ref a1)] [(.long pa)])) (st1) ?_
  refine own_via (T1.setTop (mkF m 5 #[.val (.ref a1)] [(.long (0 : Int64)), (.long pa)])) (fun t k => XS.lconst X1.here hx rfl (hb hby own_d13_4) k) ?_
  refine own_via (T1.setTop (mkF m 6 #[.val (.ref a1)] [(.int (lcmpW pa (0 : Int64)))])) (fun t k => XS.lcmp X1.here hx rfl (hb hby own_d13_5) rfl k) ?_
  refine own_via (T1.setTop (mkF m 15 #[.val (.ref a1)] [])) (fun t k => XS.ifYes X1.here hx rfl (pc0 := 6) (pc' := 15) rfl (hb hby own_d13_6) rfl (XT.i0_ne_t (own_lcn hz)) (by decide) (by decide) k) ?_
  refine own_via (T1.setTop (mkF m 16 #[.val (.ref a1)] [(.ref a1)])) (fun t k => XS.aloadN X1.here hx rfl (hb hby own_d13_15) rfl rfl k) ?_
  obtain ⟨T2, X2, e2, st2⟩ := getF X1 hx hZ hown (host := "") (Or.inl (hw _ (List.mem_of_getElem? (i := 99) rfl))) Via.refl e1 pf0 (g := (mkF m 16 #[.val (.ref a1)] [(.ref a1)])) rfl rfl (hb hby own_d13_16)
  refine own_via (T2.setTop (mkF m 19 #[.val (.ref a1)] [(.long pa)])) (st2) ?_
  obtain ⟨v3, T3, h3, L3, X3, e3, q3, st3⟩ := own_cS X2 hx hZ hown (hw _ (List.mem_of_getElem? (i := 123) rfl)) (hw _ (List.mem_of_getElem? (i := 124) rfl)) (hw _ (List.mem_of_getElem? (i := 108) rfl)) (hw _ (List.mem_of_getElem? (i := 125) rfl)) (by decide) (W := 0) (own_bk (rm_olOf l Z a0 hw pa h0 n0 (by omega)) hZ (hw _ (List.mem_of_getElem? (i := 125) rfl)) (hw _ (List.mem_of_getElem? (i := 108) rfl)) (by decide) (by decide)) e2 (Ls := #[.val (.ref a1)]) (by rw [hml]; rfl) (argsL := [(.long pa)]) (rest := []) rfl (lenOf own_pd99915187 rfl) rfl (Nat.le_of_eq rfl) (hb hby own_d13_19) (by decide) (by decide)
  obtain ⟨b_3, rfl, Nq3, Kq3, f4, f5, f6⟩ := q3
  have N3 := Fr.app N0 Nq3
  have sz_h3 : h0.size ≤ h3.size := Kq3.1
  have K_h3 : Keep h0 h3 [] := (Keep.refl h0 []).trans Kq3 all0
  have lt_b_3 : @LT.lt Nat _ b_3 h3.size := f4.lt
  refine own_via (T3.setTop (mkF m 22 #[.val (.ref a1)] [(.ref b_3)])) (st3) ?_
  exact own_retA X3 hx hlk hret rfl rfl (hb hby own_d13_22) e3 (⟨b_3, rfl, N3, K_h3, f4, f5, f6⟩) (by decide) (by decide)
theorem own_hws {Z : State} {a0 : Array Value} (hw : ∀ d ∈ tables_1, d.before a0 Z = true) : ∀ d ∈ StrChars.Road.words, d.before a0 Z = true := fun d hd => hw d ((by decide +kernel : ∀ d ∈ StrChars.Road.words, d ∈ tables_1) d hd)
theorem own_pn46043500 : plainFor (⟨"com/example/zonegrant/zonegrant/service/OAuthExceptionRetryAfterPinLaw", "law", "(IIJI)Z"⟩ : MethodName) = true := by first | exact Jvm.Free.JP.mathPlain rfl (by decide +kernel) | exact plainFor_of_name (by first | (simp [plainName, overriddenIn]; done) | decide +kernel) | decide +kernel
theorem own_pd87272264 : parseMethodDescriptor "(I)Lcom/example/zonegrant/zonegrant/service/OAuthError;" = some ⟨[.int], some (.object "com/example/zonegrant/zonegrant/service/OAuthError")⟩ := by decide +kernel
theorem own_pd95987610 : parseMethodDescriptor "([C)V" = some ⟨[(.array .char)], none⟩ := by decide +kernel
theorem own_pd7024709 : parseMethodDescriptor "(JJ)J" = some ⟨[.long, .long], some .long⟩ := by decide +kernel
theorem own_pd45552181 : parseMethodDescriptor "(Lcom/example/zonegrant/zonegrant/service/OAuthError;Ljava/lang/String;)V" = some ⟨[(.object "com/example/zonegrant/zonegrant/service/OAuthError"), (.object "java/lang/String")], none⟩ := by decide +kernel
theorem own_pd48405890 : parseMethodDescriptor "()Z" = some ⟨[], some .boolean⟩ := by decide +kernel
theorem own_pd83249637 : parseMethodDescriptor "(Lcom/example/zonegrant/zonegrant/service/OAuthError;Ljava/lang/String;J)V" = some ⟨[(.object "com/example/zonegrant/zonegrant/service/OAuthError"), (.object "java/lang/String"), .long], none⟩ := by decide +kernel
theorem own_pd16732936 : parseMethodDescriptor "()J" = some ⟨[], some .long⟩ := by decide +kernel
theorem own_ef_rm_law (m : MethodId) (x0 : Int32) (x1 : Int32) (x2 : Int64) (x3 : Int32) : entryFrame m #[(.int x0), (.int x1), (.long x2), (.int x3)] maxLocals = mkF m 0 #[.val (.int x0), .val (.int x1), .val (.long x2), .second, .val (.int x3), .unset, .unset, .unset, .unset, .unset, .unset, .unset, .unset] [] := by first | (simp [entryFrame, mkF, argsToLocals, Value.category, maxLocals]; done) | rfl
def Q_rm_law (Z : State) (p0 : Int32) (p1 : Int32) (p2 : Int64) (p3 : Int32) (G1 : Int32) (em : Nat) (x0 : Nat) (x1 : Nat) (x2 : Nat) (x3 : Nat) (x4 : Nat) (x5 : Nat) (x6 : Nat) (x7 : Nat) (x8 : Nat) (x9 : Nat) (x10 : Nat) (x11 : Nat) (x12 : Nat) (us : Value) (ss : Value) (h0 : Heap) (n0 : Nat) (v : Option Value) (h : Heap) (L : List Loc) : Prop := v = some (.int 1) ∧ Fr n0 L
set_option maxRecDepth 65536 in
set_option maxHeartbeats 40000000 in
theorem rm_law (l : Launch) (Z : State) (a0 : Array Value) (hw : ∀ d ∈ tables_1, d.before a0 Z = true) (p0 : Int32) (p1 : Int32) (p2 : Int64) (p3 : Int32) (G1 : Int32) (em : Nat) (x0 : Nat) (x1 : Nat) (x2 : Nat) (x3 : Nat) (x4 : Nat) (x5 : Nat) (x6 : Nat) (x7 : Nat) (x8 : Nat) (x9 : Nat) (x10 : Nat) (x11 : Nat) (x12 : Nat) (us : Value) (ss : Value) (h0 : Heap) (n0 : Nat) (Z0 : n0 ≤ h0.size) (pf0 : Sta Z Z.heap "java/lang/String" "COMPACT_STRINGS" "Z" (.int G1)) (pf1 : Sta Z Z.heap "java/util/OptionalLong" "EMPTY" "Ljava/util/OptionalLong;" (.ref em)) (pf2 : Exa Z h0 em "java/util/OptionalLong") (pf3 : Fld Z h0 em "java/util/OptionalLong" "isPresent" "Z" (.int (0 : Int32))) (pf4 : Sta Z Z.heap "com/example/zonegrant/zonegrant/service/OAuthError" "INVALID_REQUEST" "Lcom/example/zonegrant/zonegrant/service/OAuthError;" (.ref x0)) (pf5 : Sta Z Z.heap "com/example/zonegrant/zonegrant/service/OAuthError" "INVALID_CLIENT" "Lcom/example/zonegrant/zonegrant/service/OAuthError;" (.ref x1)) (pf6 : Sta Z Z.heap "com/example/zonegrant/zonegrant/service/OAuthError" "INVALID_GRANT" "Lcom/example/zonegrant/zonegrant/service/OAuthError;" (.ref x2)) (pf7 : Sta Z Z.heap "com/example/zonegrant/zonegrant/service/OAuthError" "UNAUTHORIZED_CLIENT" "Lcom/example/zonegrant/zonegrant/service/OAuthError;" (.ref x3)) (pf8 : Sta Z Z.heap "com/example/zonegrant/zonegrant/service/OAuthError" "UNSUPPORTED_GRANT_TYPE" "Lcom/example/zonegrant/zonegrant/service/OAuthError;" (.ref x4)) (pf9 : Sta Z Z.heap "com/example/zonegrant/zonegrant/service/OAuthError" "INVALID_SCOPE" "Lcom/example/zonegrant/zonegrant/service/OAuthError;" (.ref x5)) (pf10 : Sta Z Z.heap "com/example/zonegrant/zonegrant/service/OAuthError" "UNSUPPORTED_RESPONSE_TYPE" "Lcom/example/zonegrant/zonegrant/service/OAuthError;" (.ref x6)) (pf11 : Sta Z Z.heap "com/example/zonegrant/zonegrant/service/OAuthError" "INVALID_TOKEN" "Lcom/example/zonegrant/zonegrant/service/OAuthError;" (.ref x7)) (pf12 : Sta Z Z.heap "com/example/zonegrant/zonegrant/service/OAuthError" "ACCESS_DENIED" "Lcom/example/zonegrant/zonegrant/service/OAuthError;" (.ref x8)) (pf13 : Sta Z Z.heap "com/example/zonegrant/zonegrant/service/OAuthError" "INVALID_CLIENT_METADATA" "Lcom/example/zonegrant/zonegrant/service/OAuthError;" (.ref x9)) (pf14 : Sta Z Z.heap "com/example/zonegrant/zonegrant/service/OAuthError" "INSUFFICIENT_SCOPE" "Lcom/example/zonegrant/zonegrant/service/OAuthError;" (.ref x10)) (pf15 : Sta Z Z.heap "com/example/zonegrant/zonegrant/service/OAuthError" "NOT_FOUND" "Lcom/example/zonegrant/zonegrant/service/OAuthError;" (.ref x11)) (pf16 : Sta Z Z.heap "com/example/zonegrant/zonegrant/service/OAuthError" "CONFLICT" "Lcom/example/zonegrant/zonegrant/service/OAuthError;" (.ref x12)) (pf17 : Sta Z Z.heap "java/lang/Throwable" "UNASSIGNED_STACK" "[Ljava/lang/StackTraceElement;" us) (pf18 : Sta Z Z.heap "java/lang/Throwable" "SUPPRESSED_SENTINEL" "Ljava/util/List;" ss) (pf19 : Old Z n0 h0) (hG1 : ¬ G1 = 0) (hl : l.stackTraces = true) (hus : us.isRef = true) (hss : ss.isRef = true) (hem : @LT.lt Nat _ em n0) :
    own_CTK l Z x code maxLocals ret room_1 #[(.int p0), (.int p1), (.long p2), (.int p3)] h0 (Q_rm_law Z p0 p1 p2 p3 G1 em x0 x1 x2 x3 x4 x5 x6 x7 x8 x9 x10 x11 x12 us ss h0 n0) := by
  refine own_ofK own_pn46043500 (Ls := #[.val (.int p0), .val (.int p1), .val (.long p2), .second, .val (.int p3), .unset, .unset, .unset, .unset, .unset, .unset, .unset, .unset]) (fun m => own_ef_rm_law m p0 p1 p2 p3) ?_
  intro p e s m below meth c T0 X0 hx hby hml hown hnm hret hZ e0 hlk hh0 hTK hBelow
  have hown : s.vm.findClass "com/example/zonegrant/zonegrant/service/OAuthExceptionRetryAfterPinLaw" = some m.cls := hown
  have N0 := Fr.nil n0
  have lt_em : @LT.lt Nat _ em h0.size := pf2.lt
  refine own_via (T0.setTop (mkF m 1 #[.val (.int p0), .val (.int p1), .val (.long p2), .second, .val (.int p3), .unset, .unset, .unset, .unset, .unset, .unset, .unset, .unset] [(.int p0)])) (fun t k => XS.iloadN X0.here hx rfl (hb hby at_0) rfl k) ?_
  obtain ⟨v1, T1, h1, L1, X1, e1, q1, st1⟩ := own_cS X0 hx hZ hown (hw _ (List.mem_of_getElem? (i := 0) rfl)) (hw _ (List.mem_of_getElem? (i := 1) rfl)) (hw _ (List.mem_of_getElem? (i := 2) rfl)) (hw _ (List.mem_of_getElem? (i := 3) rfl)) (by decide) (W := 0) (own_bk (rm_pick l Z a0 hw p0 x0 x1 x2 x3 x4 x5 x6 x7 x8 x9 x10 x11 x12 h0 n0 (by omega) pf4 pf5 pf6 pf7 pf8 pf9 pf10 pf11 pf12 pf13 pf14 pf15 pf16 pf19) hZ (hw _ (List.mem_of_getElem? (i := 3) rfl)) (hw _ (List.mem_of_getElem? (i := 2) rfl)) (by decide) (by decide)) e0 (Ls := #[.val (.int p0), .val (.int p1), .val (.long p2), .second, .val (.int p3), .unset, .unset, .unset, .unset, .unset, .unset, .unset, .unset]) (by rw [hml]; rfl) (argsL := [(.int p0)]) (rest := []) rfl (lenOf own_pd87272264 rfl) rfl (Nat.le_of_eq rfl) (hb hby at_1) (by decide) (by decide)
  obtain ⟨r_1, rfl, Nq1, eq1⟩ := q1
  have N1 := Fr.app N0 Nq1
  replace e1 := e1.trans eq1
  refine own_via (T1.setTop (mkF m 4 #[.val (.int p0), .val (.int p1), .val (.long p2), .second, .val (.int p3), .unset, .unset, .unset, .unset, .unset, .unset, .unset, .unset] [(.ref r_1)])) (st1) ?_
  refine own_via (T1.setTop (mkF m 6 #[.val (.int p0), .val (.int p1), .val (.long p2), .second, .val (.int p3), .val (.ref r_1), .unset, .unset, .unset, .unset, .unset, .unset, .unset] [])) (fun t k => XS.astore X1.here hx rfl (hb hby at_4) rfl rfl (l' := #[.val (.int p0), .val (.int p1), .val (.long p2), .second, .val (.int p3), .val (.ref r_1), .unset, .unset, .unset, .unset, .unset, .unset, .unset]) rfl k) ?_
  refine own_via (T1.setTop (mkF m 7 #[.val (.int p0), .val (.int p1), .val (.long p2), .second, .val (.int p3), .val (.ref r_1), .unset, .unset, .unset, .unset, .unset, .unset, .unset] [(.int (1 : Int32))])) (fun t k => XS.iconst X1.here hx rfl (hb hby at_6) k) ?_
  obtain ⟨T2, h2, k2, X2, e2, E2, A2, st2⟩ := newP X1 hx hZ (hw _ (List.mem_of_getElem? (i := 8) rfl)) e1 (g := (mkF m 7 #[.val (.int p0), .val (.int p1), .val (.long p2), .second, .val (.int p3), .val (.ref r_1), .unset, .unset, .unset, .unset, .unset, .unset, .unset] [(.int (1 : Int32))])) rfl (hb hby at_7) rfl (by decide) (cap := 1) (by decide) (by decide) (by decide) (by decide)
  obtain ⟨o2, g2⟩ : ∃ z, z = h0.size := ⟨_, rfl⟩
  rw [← g2] at A2 st2
  have sz_h2 : h0.size ≤ h2.size := E2.1
  have V2 : Arv Z h2 o2 k2 .char (1 : Int32) [] (.int (0 : Int32)) := Arv.new A2 (by decide)
  have lt_o2 : @LT.lt Nat _ o2 h2.size := V2.lt
  refine own_via (T2.setTop (mkF m 9 #[.val (.int p0), .val (.int p1), .val (.long p2), .second, .val (.int p3), .val (.ref r_1), .unset, .unset, .unset, .unset, .unset, .unset, .unset] [(.ref o2)])) (st2) ?_
  refine own_via (T2.setTop (mkF m 11 #[.val (.int p0), .val (.int p1), .val (.long p2), .second, .val (.int p3), .val (.ref r_1), .val (.ref o2), .unset, .unset, .unset, .unset, .unset, .unset] [])) (fun t k => XS.astore X2.here hx rfl (hb hby at_9) rfl rfl (l' := #[.val (.int p0), .val (.int p1), .val (.long p2), .second, .val (.int p3), .val (.ref r_1), .val (.ref o2), .unset, .unset, .unset, .unset, .unset, .unset]) rfl k) ?_
  refine own_via (T2.setTop (mkF m 13 #[.val (.int p0), .val (.int p1), .val (.long p2), .second, .val (.int p3), .val (.ref r_1), .val (.ref o2), .unset, .unset, .unset, .unset, .unset, .unset] [(.ref o2)])) (fun t k => XS.aload X2.here hx rfl (hb hby at_11) rfl rfl k) ?_
  refine own_via (T2.setTop (mkF m 14 #[.val (.int p0), .val (.int p1), .val (.long p2), .second, .val (.int p3), .val (.ref r_1), .val (.ref o2), .unset, .unset, .unset, .unset, .unset, .unset] [(.int (0 : Int32)), (.ref o2)])) (fun t k => XS.iconst X2.here hx rfl (hb hby at_13) k) ?_
  refine own_via (T2.setTop (mkF m 15 #[.val (.int p0), .val (.int p1), .val (.long p2), .second, .val (.int p3), .val (.ref r_1), .val (.ref o2), .unset, .unset, .unset, .unset, .unset, .unset] [(.int p1), (.int (0 : Int32)), (.ref o2)])) (fun t k => XS.iloadN X2.here hx rfl (hb hby at_14) rfl k) ?_
  refine own_via (T2.setTop (mkF m 18 #[.val (.int p0), .val (.int p1), .val (.long p2), .second, .val (.int p3), .val (.ref r_1), .val (.ref o2), .unset, .unset, .unset, .unset, .unset, .unset] [(.int (255 : Int32)), (.int p1), (.int (0 : Int32)), (.ref o2)])) (fun t k => XS.sipush X2.here hx rfl (hb hby at_15) k) ?_
  refine own_via (T2.setTop (mkF m 19 #[.val (.int p0), .val (.int p1), .val (.long p2), .second, .val (.int p3), .val (.ref r_1), .val (.ref o2), .unset, .unset, .unset, .unset, .unset, .unset] [(.int (p1 &&& (255 : Int32))), (.int (0 : Int32)), (.ref o2)])) (fun t k => XS.iand X2.here hx rfl (hb hby at_18) rfl k) ?_
  refine own_via (T2.setTop (mkF m 20 #[.val (.int p0), .val (.int p1), .val (.long p2), .second, .val (.int p3), .val (.ref r_1), .val (.ref o2), .unset, .unset, .unset, .unset, .unset, .unset] [(.int (((p1 &&& (255 : Int32))).toUInt32.toUInt16.toUInt32.toInt32)), (.int (0 : Int32)), (.ref o2)])) (fun t k => XS.i2c X2.here hx rfl (hb hby at_19) rfl k) ?_
  generalize h_y1 : (((p1 &&& (255 : Int32))).toUInt32.toUInt16.toUInt32.toInt32) = y1
  have V3 : Arv Z h2 o2 k2 .char (1 : Int32) [(.int (0 : Int32))] (.int (0 : Int32)) := V2.pad (pad_rep [] (.int (0 : Int32)) 1)
  obtain ⟨c4, A4, q4, S4, M4, H4, U4⟩ := id V3
  obtain ⟨T5, h5, X5, e5, W5, st5⟩ := stC X2 hx hZ e2 A4 (j := (0 : Int32)) (inb_of S4 ⟨(by decide), (by decide)⟩) (g := (mkF m 20 #[.val (.int p0), .val (.int p1), .val (.long p2), .second, .val (.int p3), .val (.ref r_1), .val (.ref o2), .unset, .unset, .unset, .unset, .unset, .unset] [(.int y1), (.int (0 : Int32)), (.ref o2)])) rfl rfl (hb hby at_20)
  have N5 := Fr.snoc X5 N1 (show @LE.le Nat _ _ _ by omega)
  have sz_h5 : h5.size = h2.size := Wr.size W5
  have f6 : Arv Z h5 o2 k2 .char (1 : Int32) [(.int (nar .char y1))] (.int (0 : Int32)) := Arv.set A4 q4 S4 M4 H4 U4 (fits_nar_char _) W5 0 rfl (Nat.le_of_ble_eq_true rfl)
  refine own_via (T5.setTop (mkF m 21 #[.val (.int p0), .val (.int p1), .val (.long p2), .second, .val (.int p3), .val (.ref r_1), .val (.ref o2), .unset, .unset, .unset, .unset, .unset, .unset] [])) (st5) ?_
  obtain ⟨T7, h7, X7, e7, E7, A7, D7, U7, st7⟩ := newO X5 hx hZ hown (hw _ (List.mem_of_getElem? (i := 9) rfl)) (hw _ (List.mem_of_getElem? (i := 10) rfl)) (hw _ (List.mem_of_getElem? (i := 11) rfl)) e5 (g := (mkF m 21 #[.val (.int p0), .val (.int p1), .val (.long p2), .second, .val (.int p3), .val (.ref r_1), .val (.ref o2), .unset, .unset, .unset, .unset, .unset, .unset] [])) rfl (hb hby at_21) (by decide) (by decide)
  obtain ⟨o7, g7⟩ : ∃ z, z = h5.size := ⟨_, rfl⟩
  rw [← g7] at A7 D7 U7 st7
  have sz_h7 : h5.size ≤ h7.size := E7.1
  have lt_o7 : @LT.lt Nat _ o7 h7.size := A7.lt
  refine own_via (T7.setTop (mkF m 24 #[.val (.int p0), .val (.int p1), .val (.long p2), .second, .val (.int p3), .val (.ref r_1), .val (.ref o2), .unset, .unset, .unset, .unset, .unset, .unset] [(.ref o7)])) (st7) ?_
  refine own_via (T7.setTop (mkF m 25 #[.val (.int p0), .val (.int p1), .val (.long p2), .second, .val (.int p3), .val (.ref r_1), .val (.ref o2), .unset, .unset, .unset, .unset, .unset, .unset] [(.ref o7), (.ref o7)])) (fun t k => XS.dup X7.here hx rfl (hb hby at_24) rfl rfl k) ?_
  refine own_via (T7.setTop (mkF m 27 #[.val (.int p0), .val (.int p1), .val (.long p2), .second, .val (.int p3), .val (.ref r_1), .val (.ref o2), .unset, .unset, .unset, .unset, .unset, .unset] [(.ref o2), (.ref o7), (.ref o7)])) (fun t k => XS.aload X7.here hx rfl (hb hby at_25) rfl rfl k) ?_
  have hp8 : ∀ c ∈ ([(nar .char y1)] : List Int32), ¬ c < 0 ∧ ¬ (255 : Int32) < c := by
    intro c hc
    simp only [List.mem_cons, List.not_mem_nil, or_false] at hc
    rcases hc with rfl
    · rw [← h_y1]; exact own_and255 _
  have f9 : Fld Z h7 o7 "java/lang/String" "value" "[B" .null := (D7 (Or.inr (hw _ (List.mem_of_getElem? (i := 37) rfl))) (ty := (.array .byte)) (by decide))
  have f10 : Fld Z h7 o7 "java/lang/String" "coder" "B" (.int (0 : Int32)) := (D7 (Or.inr (hw _ (List.mem_of_getElem? (i := 35) rfl))) (ty := .byte) (by decide))
  have f11 : Arv Z h7 o2 k2 .char (1 : Int32) [(.int (nar .char y1))] (.int (0 : Int32)) := (f6.ext E7)
  have f12 : Old Z n0 h7 := (((pf19.ext E2).wr W5 (show @LE.le Nat _ _ _ by omega)).ext E7)
  obtain ⟨v13, T13, h13, L13, X13, e13, q13, st13⟩ := own_cI X7 hx hZ hown (hw _ (List.mem_of_getElem? (i := 12) rfl)) (hw _ (List.mem_of_getElem? (i := 13) rfl)) (hw _ (List.mem_of_getElem? (i := 14) rfl)) rfl (by decide) (W := 1) (StrChars.Road.backV hZ (own_hws hw) (kI := 4) (hw _ (List.mem_of_getElem? (i := 10) rfl)) (cs := ([(nar .char y1)] : List Int32)) (bs := (([(nar .char y1)] : List Int32)).map (fun c => c.toInt8.toInt32)) (n := 1) (n0 := n0) (by omega) (by omega) A7 f9 f10 f11 (pf0.ext f12.2) hG1 rfl rfl (by decide) (by decide) hp8 rfl (by decide) (by decide)) e7 (a := o7) (Ls := #[.val (.int p0), .val (.int p1), .val (.long p2), .second, .val (.int p3), .val (.ref r_1), .val (.ref o2), .unset, .unset, .unset, .unset, .unset, .unset]) (by rw [hml]; rfl) (argsL := [(.ref o2)]) (rest := [(.ref o7)]) rfl (lenOf own_pd95987610 rfl) rfl (Nat.le_of_eq rfl) (hb hby at_27) (by decide) (by decide)
  obtain ⟨rfl, Nq13, Kq13, fE13, fC13, t13, kb13, u13, w13, n13, fV13, fA13⟩ := q13
  have N13 := Fr.app N5 Nq13
  have sz_h13 : h7.size ≤ h13.size := Kq13.1
  have lt_t13 : @LT.lt Nat _ t13 h13.size := fA13.lt
  refine own_via (T13.setTop (mkF m 30 #[.val (.int p0), .val (.int p1), .val (.long p2), .second, .val (.int p3), .val (.ref r_1), .val (.ref o2), .unset, .unset, .unset, .unset, .unset, .unset] [(.ref o7)])) (st13) ?_
  refine own_via (T13.setTop (mkF m 32 #[.val (.int p0), .val (.int p1), .val (.long p2), .second, .val (.int p3), .val (.ref r_1), .val (.ref o2), .val (.ref o7), .unset, .unset, .unset, .unset, .unset] [])) (fun t k => XS.astore X13.here hx rfl (hb hby at_30) rfl rfl (l' := #[.val (.int p0), .val (.int p1), .val (.long p2), .second, .val (.int p3), .val (.ref r_1), .val (.ref o2), .val (.ref o7), .unset, .unset, .unset, .unset, .unset]) rfl k) ?_
  refine own_via (T13.setTop (mkF m 34 #[.val (.int p0), .val (.int p1), .val (.long p2), .second, .val (.int p3), .val (.ref r_1), .val (.ref o2), .val (.ref o7), .unset, .unset, .unset, .unset, .unset] [(.int p3)])) (fun t k => XS.iload X13.here hx rfl (hb hby at_32) rfl k) ?_
  refine own_via (T13.setTop (mkF m 35 #[.val (.int p0), .val (.int p1), .val (.long p2), .second, .val (.int p3), .val (.ref r_1), .val (.ref o2), .val (.ref o7), .unset, .unset, .unset, .unset, .unset] [(.int (1 : Int32)), (.int p3)])) (fun t k => XS.iconst X13.here hx rfl (hb hby at_34) k) ?_
  refine own_via (T13.setTop (mkF m 36 #[.val (.int p0), .val (.int p1), .val (.long p2), .second, .val (.int p3), .val (.ref r_1), .val (.ref o2), .val (.ref o7), .unset, .unset, .unset, .unset, .unset] [(.int (p3 &&& (1 : Int32)))])) (fun t k => XS.iand X13.here hx rfl (hb hby at_35) rfl k) ?_
  by_cases hf : (p3 &&& (1 : Int32)) = 0
  · refine own_via (T13.setTop (mkF m 43 #[.val (.int p0), .val (.int p1), .val (.long p2), .second, .val (.int p3), .val (.ref r_1), .val (.ref o2), .val (.ref o7), .unset, .unset, .unset, .unset, .unset] [])) (fun t k => XS.ifYes X13.here hx rfl (pc0 := 36) (pc' := 43) rfl (hb hby at_36) rfl (XT.i0_eq_t hf) (by decide) (by decide) k) ?_
    refine own_via (T13.setTop (mkF m 44 #[.val (.int p0), .val (.int p1), .val (.long p2), .second, .val (.int p3), .val (.ref r_1), .val (.ref o2), .val (.ref o7), .unset, .unset, .unset, .unset, .unset] [(.int (0 : Int32))])) (fun t k => XS.iconst X13.here hx rfl (hb hby at_43) k) ?_
    refine own_via (T13.setTop (mkF m 46 #[.val (.int p0), .val (.int p1), .val (.long p2), .second, .val (.int p3), .val (.ref r_1), .val (.ref o2), .val (.ref o7), .val (.int (0 : Int32)), .unset, .unset, .unset, .unset] [])) (fun t k => XS.istore X13.here hx rfl (hb hby at_44) rfl (l' := #[.val (.int p0), .val (.int p1), .val (.long p2), .second, .val (.int p3), .val (.ref r_1), .val (.ref o2), .val (.ref o7), .val (.int (0 : Int32)), .unset, .unset, .unset, .unset]) rfl k) ?_
    refine own_via (T13.setTop (mkF m 47 #[.val (.int p0), .val (.int p1), .val (.long p2), .second, .val (.int p3), .val (.ref r_1), .val (.ref o2), .val (.ref o7), .val (.int (0 : Int32)), .unset, .unset, .unset, .unset] [(.long (1 : Int64))])) (fun t k => XS.lconst X13.here hx rfl (hb hby at_46) k) ?_
    refine own_via (T13.setTop (mkF m 48 #[.val (.int p0), .val (.int p1), .val (.long p2), .second, .val (.int p3), .val (.ref r_1), .val (.ref o2), .val (.ref o7), .val (.int (0 : Int32)), .unset, .unset, .unset, .unset] [(.long p2), (.long (1 : Int64))])) (fun t k => XS.lloadN X13.here hx rfl (hb hby at_47) rfl k) ?_
    refine own_via (T13.setTop (mkF m 51 #[.val (.int p0), .val (.int p1), .val (.long p2), .second, .val (.int p3), .val (.ref r_1), .val (.ref o2), .val (.ref o7), .val (.int (0 : Int32)), .unset, .unset, .unset, .unset] [(.long (9223372036854775807 : Int64)), (.long p2), (.long (1 : Int64))])) (fun t k => X13.ldc2Long hx hown (mvT hZ (hw _ (List.mem_of_getElem? (i := 38) rfl))) (g := (mkF m 48 #[.val (.int p0), .val (.int p1), .val (.long p2), .second, .val (.int p3), .val (.ref r_1), .val (.ref o2), .val (.ref o7), .val (.int (0 : Int32)), .unset, .unset, .unset, .unset] [(.long p2), (.long (1 : Int64))])) rfl (hb hby at_48) t k) ?_
    refine own_via (T13.setTop (mkF m 52 #[.val (.int p0), .val (.int p1), .val (.long p2), .second, .val (.int p3), .val (.ref r_1), .val (.ref o2), .val (.ref o7), .val (.int (0 : Int32)), .unset, .unset, .unset, .unset] [(.long (p2 &&& (9223372036854775807 : Int64))), (.long (1 : Int64))])) (fun t k => XS.land X13.here hx rfl (hb hby at_51) rfl k) ?_
    obtain ⟨v14, T14, h14, L14, X14, e14, q14, st14⟩ := own_cS X13 hx hZ hown (hw _ (List.mem_of_getElem? (i := 39) rfl)) (hw _ (List.mem_of_getElem? (i := 40) rfl)) (hw _ (List.mem_of_getElem? (i := 41) rfl)) (hw _ (List.mem_of_getElem? (i := 42) rfl)) (by decide) (W := 0) (own_bk (rm_max l Z a0 hw (1 : Int64) (p2 &&& (9223372036854775807 : Int64)) h13 n0 (by omega)) hZ (hw _ (List.mem_of_getElem? (i := 42) rfl)) (hw _ (List.mem_of_getElem? (i := 41) rfl)) (by decide) (by decide)) e13 (Ls := #[.val (.int p0), .val (.int p1), .val (.long p2), .second, .val (.int p3), .val (.ref r_1), .val (.ref o2), .val (.ref o7), .val (.int (0 : Int32)), .unset, .unset, .unset, .unset]) (by rw [hml]; rfl) (argsL := [(.long (1 : Int64)), (.long (p2 &&& (9223372036854775807 : Int64)))]) (rest := []) rfl (lenOf own_pd7024709 rfl) rfl (Nat.le_of_eq rfl) (hb hby at_52) (by decide) (by decide)
    obtain ⟨rfl, Nq14, eq14⟩ := q14
    have N14 := Fr.app N13 Nq14
    replace e14 := e14.trans eq14
    refine own_via (T14.setTop (mkF m 55 #[.val (.int p0), .val (.int p1), .val (.long p2), .second, .val (.int p3), .val (.ref r_1), .val (.ref o2), .val (.ref o7), .val (.int (0 : Int32)), .unset, .unset, .unset, .unset] [(.long (if (1 : Int64) < (p2 &&& (9223372036854775807 : Int64)) then (p2 &&& (9223372036854775807 : Int64)) else (1 : Int64)))])) (st14) ?_
    generalize h_nn : (if (1 : Int64) < (p2 &&& (9223372036854775807 : Int64)) then (p2 &&& (9223372036854775807 : Int64)) else (1 : Int64)) = nn
    have hnn : ¬ nn = 0 := by rw [← h_nn]; exact own_max_ne _
    refine own_via (T14.setTop (mkF m 57 #[.val (.int p0), .val (.int p1), .val (.long p2), .second, .val (.int p3), .val (.ref r_1), .val (.ref o2), .val (.ref o7), .val (.int (0 : Int32)), .val (.long nn), .second, .unset, .unset] [])) (fun t k => XS.lstore X14.here hx rfl (hb hby at_55) rfl (l' := #[.val (.int p0), .val (.int p1), .val (.long p2), .second, .val (.int p3), .val (.ref r_1), .val (.ref o2), .val (.ref o7), .val (.int (0 : Int32)), .val (.long nn), .second, .unset, .unset]) rfl k) ?_
    refine own_via (T14.setTop (mkF m 59 #[.val (.int p0), .val (.int p1), .val (.long p2), .second, .val (.int p3), .val (.ref r_1), .val (.ref o2), .val (.ref o7), .val (.int (0 : Int32)), .val (.long nn), .second, .unset, .unset] [(.int (0 : Int32))])) (fun t k => XS.iload X14.here hx rfl (hb hby at_57) rfl k) ?_
    refine own_via (T14.setTop (mkF m 80 #[.val (.int p0), .val (.int p1), .val (.long p2), .second, .val (.int p3), .val (.ref r_1), .val (.ref o2), .val (.ref o7), .val (.int (0 : Int32)), .val (.long nn), .second, .unset, .unset] [])) (fun t k => XS.ifYes X14.here hx rfl (pc0 := 59) (pc' := 80) rfl (hb hby at_59) rfl (by decide) (by decide) (by decide) k) ?_
    obtain ⟨T15, h15, X15, e15, E15, A15, D15, U15, st15⟩ := newO X14 hx hZ hown (hw _ (List.mem_of_getElem? (i := 43) rfl)) (hw _ (List.mem_of_getElem? (i := 44) rfl)) (hw _ (List.mem_of_getElem? (i := 45) rfl)) e14 (g := (mkF m 80 #[.val (.int p0), .val (.int p1), .val (.long p2), .second, .val (.int p3), .val (.ref r_1), .val (.ref o2), .val (.ref o7), .val (.int (0 : Int32)), .val (.long nn), .second, .unset, .unset] [])) rfl (hb hby at_80) (by decide) (by decide)
    obtain ⟨o15, g15⟩ : ∃ z, z = h13.size := ⟨_, rfl⟩
    rw [← g15] at A15 D15 U15 st15
    have sz_h15 : h13.size ≤ h15.size := E15.1
    have lt_o15 : @LT.lt Nat _ o15 h15.size := A15.lt
    refine own_via (T15.setTop (mkF m 83 #[.val (.int p0), .val (.int p1), .val (.long p2), .second, .val (.int p3), .val (.ref r_1), .val (.ref o2), .val (.ref o7), .val (.int (0 : Int32)), .val (.long nn), .second, .unset, .unset] [(.ref o15)])) (st15) ?_
    refine own_via (T15.setTop (mkF m 84 #[.val (.int p0), .val (.int p1), .val (.long p2), .second, .val (.int p3), .val (.ref r_1), .val (.ref o2), .val (.ref o7), .val (.int (0 : Int32)), .val (.long nn), .second, .unset, .unset] [(.ref o15), (.ref o15)])) (fun t k => XS.dup X15.here hx rfl (hb hby at_83) rfl rfl k) ?_
    refine own_via (T15.setTop (mkF m 86 #[.val (.int p0), .val (.int p1), .val (.long p2), .second, .val (.int p3), .val (.ref r_1), .val (.ref o2), .val (.ref o7), .val (.int (0 : Int32)), .val (.long nn), .second, .unset, .unset] [(.ref r_1), (.ref o15), (.ref o15)])) (fun t k => XS.aload X15.here hx rfl (hb hby at_84) rfl rfl k) ?_
    refine own_via (T15.setTop (mkF m 88 #[.val (.int p0), .val (.int p1), .val (.long p2), .second, .val (.int p3), .val (.ref r_1), .val (.ref o2), .val (.ref o7), .val (.int (0 : Int32)), .val (.long nn), .second, .unset, .unset] [(.ref o7), (.ref r_1), (.ref o15), (.ref o15)])) (fun t k => XS.aload X15.here hx rfl (hb hby at_86) rfl rfl k) ?_
    have f16 : Fld Z h15 o15 "java/lang/Throwable" "backtrace" "Ljava/lang/Object;" .null := (D15 (Or.inl (hw _ (List.mem_of_getElem? (i := 93) rfl))) (ty := (.object "java/lang/Object")) (by decide))
    have f17 : Fld Z h15 o15 "java/lang/Throwable" "detailMessage" "Ljava/lang/String;" .null := (D15 (Or.inl (hw _ (List.mem_of_getElem? (i := 92) rfl))) (ty := (.object "java/lang/String")) (by decide))
    have f18 : Fld Z h15 o15 "java/lang/Throwable" "cause" "Ljava/lang/Throwable;" .null := (D15 (Or.inl (hw _ (List.mem_of_getElem? (i := 62) rfl))) (ty := (.object "java/lang/Throwable")) (by decide))
    have f19 : Fld Z h15 o15 "java/lang/Throwable" "stackTrace" "[Ljava/lang/StackTraceElement;" .null := (D15 (Or.inl (hw _ (List.mem_of_getElem? (i := 65) rfl))) (ty := (.array (.object "java/lang/StackTraceElement"))) (by decide))
    have f20 : Fld Z h15 o15 "java/lang/Throwable" "suppressedExceptions" "Ljava/util/List;" .null := (D15 (Or.inl (hw _ (List.mem_of_getElem? (i := 68) rfl))) (ty := (.object "java/util/List")) (by decide))
    have f21 : Fld Z h15 o15 "com/example/zonegrant/zonegrant/service/OAuthException" "error" "Lcom/example/zonegrant/zonegrant/service/OAuthError;" .null := (D15 (Or.inr (hw _ (List.mem_of_getElem? (i := 98) rfl))) (ty := (.object "com/example/zonegrant/zonegrant/service/OAuthError")) (by decide))
    have f22 : Fld Z h15 o15 "com/example/zonegrant/zonegrant/service/OAuthException" "retryAfter" "J" (.long (0 : Int64)) := (D15 (Or.inr (hw _ (List.mem_of_getElem? (i := 100) rfl))) (ty := .long) (by decide))
    have f23 : Old Z n0 h15 := ((f12.keep Kq13 (allS (show @LE.le Nat _ _ _ by omega) all0)).ext E15)
    obtain ⟨v24, T24, h24, L24, X24, e24, q24, st24⟩ := own_cI X15 hx hZ hown (hw _ (List.mem_of_getElem? (i := 46) rfl)) (hw _ (List.mem_of_getElem? (i := 47) rfl)) (hw _ (List.mem_of_getElem? (i := 48) rfl)) rfl (by decide) (W := 1) (own_bkK (rm_ex2 l Z a0 hw o15 r_1 o7 .null (.long (0 : Int64)) .null .null .null .null us ss h15 n0 (by omega) A15 U15 f16 f17 f18 f19 f20 f21 f22 pf17 pf18 f23 (show @LE.le Nat _ _ _ by omega) hl hus hss) hZ (hw _ (List.mem_of_getElem? (i := 48) rfl)) (hw _ (List.mem_of_getElem? (i := 45) rfl)) (by decide) (by decide) hTK hBelow) e15 (a := o15) (Ls := #[.val (.int p0), .val (.int p1), .val (.long p2), .second, .val (.int p3), .val (.ref r_1), .val (.ref o2), .val (.ref o7), .val (.int (0 : Int32)), .val (.long nn), .second, .unset, .unset]) (by rw [hml]; rfl) (argsL := [(.ref r_1), (.ref o7)]) (rest := [(.ref o15)]) rfl (lenOf own_pd45552181 rfl) rfl (Nat.le_of_eq rfl) (hb hby at_88) (by decide) (by decide)
    obtain ⟨rfl, Nq24, Kq24, f25, f26⟩ := q24
    have N24 := Fr.app N14 Nq24
    have sz_h24 : h15.size ≤ h24.size := Kq24.1
    refine own_via (T24.setTop (mkF m 91 #[.val (.int p0), .val (.int p1), .val (.long p2), .second, .val (.int p3), .val (.ref r_1), .val (.ref o2), .val (.ref o7), .val (.int (0 : Int32)), .val (.long nn), .second, .unset, .unset] [(.ref o15)])) (st24) ?_
    refine own_via (T24.setTop (mkF m 93 #[.val (.int p0), .val (.int p1), .val (.long p2), .second, .val (.int p3), .val (.ref r_1), .val (.ref o2), .val (.ref o7), .val (.int (0 : Int32)), .val (.long nn), .second, .val (.ref o15), .unset] [])) (fun t k => XS.astore X24.here hx rfl (hb hby at_91) rfl rfl (l' := #[.val (.int p0), .val (.int p1), .val (.long p2), .second, .val (.int p3), .val (.ref r_1), .val (.ref o2), .val (.ref o7), .val (.int (0 : Int32)), .val (.long nn), .second, .val (.ref o15), .unset]) rfl k) ?_
    refine own_via (T24.setTop (mkF m 95 #[.val (.int p0), .val (.int p1), .val (.long p2), .second, .val (.int p3), .val (.ref r_1), .val (.ref o2), .val (.ref o7), .val (.int (0 : Int32)), .val (.long nn), .second, .val (.ref o15), .unset] [(.ref o15)])) (fun t k => XS.aload X24.here hx rfl (hb hby at_93) rfl rfl k) ?_
    have f27 : Old Z n0 h24 := (f23.keep Kq24 (allS (show @LE.le Nat _ _ _ by omega) all0))
    obtain ⟨v28, T28, h28, L28, X28, e28, q28, st28⟩ := own_cV X24 hx hZ (y := (⟨"com/example/zonegrant/zonegrant/service/OAuthException", "retryAfter", "()Ljava/util/OptionalLong;"⟩ : MethodName)) (z := (⟨"com/example/zonegrant/zonegrant/service/OAuthException", "retryAfter", "()Ljava/util/OptionalLong;"⟩ : MethodName)) hown (hw _ (List.mem_of_getElem? (i := 101) rfl)) (hw _ (List.mem_of_getElem? (i := 102) rfl)) (notFace_of_selects (args := #[]) (mvT hZ (hw _ (List.mem_of_getElem? (i := 104) rfl)))) (hw _ (List.mem_of_getElem? (i := 104) rfl)) (hw _ (List.mem_of_getElem? (i := 103) rfl)) (by decide) (W := 0) (own_bk (rm_ra0 l Z a0 hw o15 (0 : Int64) em h24 n0 (by omega) f26 pf1 f27 rfl) hZ (hw _ (List.mem_of_getElem? (i := 105) rfl)) (hw _ (List.mem_of_getElem? (i := 45) rfl)) (by decide) (by decide)) e24 f25 (Ls := #[.val (.int p0), .val (.int p1), .val (.long p2), .second, .val (.int p3), .val (.ref r_1), .val (.ref o2), .val (.ref o7), .val (.int (0 : Int32)), .val (.long nn), .second, .val (.ref o15), .unset]) (by rw [hml]; rfl) (argsL := []) (rest := []) rfl (lenOf own_pd41918257 rfl) rfl (Nat.le_of_eq rfl) (hb hby at_95) (by decide) (by decide)
    obtain ⟨rfl, Nq28, eq28⟩ := q28
    have N28 := Fr.app N24 Nq28
    replace e28 := e28.trans eq28
    refine own_via (T28.setTop (mkF m 98 #[.val (.int p0), .val (.int p1), .val (.long p2), .second, .val (.int p3), .val (.ref r_1), .val (.ref o2), .val (.ref o7), .val (.int (0 : Int32)), .val (.long nn), .second, .val (.ref o15), .unset] [(.ref em)])) (st28) ?_
    refine own_via (T28.setTop (mkF m 100 #[.val (.int p0), .val (.int p1), .val (.long p2), .second, .val (.int p3), .val (.ref r_1), .val (.ref o2), .val (.ref o7), .val (.int (0 : Int32)), .val (.long nn), .second, .val (.ref o15), .val (.ref em)] [])) (fun t k => XS.astore X28.here hx rfl (hb hby at_98) rfl rfl (l' := #[.val (.int p0), .val (.int p1), .val (.long p2), .second, .val (.int p3), .val (.ref r_1), .val (.ref o2), .val (.ref o7), .val (.int (0 : Int32)), .val (.long nn), .second, .val (.ref o15), .val (.ref em)]) rfl k) ?_
    refine own_via (T28.setTop (mkF m 102 #[.val (.int p0), .val (.int p1), .val (.long p2), .second, .val (.int p3), .val (.ref r_1), .val (.ref o2), .val (.ref o7), .val (.int (0 : Int32)), .val (.long nn), .second, .val (.ref o15), .val (.ref em)] [(.int (0 : Int32))])) (fun t k => XS.iload X28.here hx rfl (hb hby at_100) rfl k) ?_
    refine own_via (T28.setTop (mkF m 105 #[.val (.int p0), .val (.int p1), .val (.long p2), .second, .val (.int p3), .val (.ref r_1), .val (.ref o2), .val (.ref o7), .val (.int (0 : Int32)), .val (.long nn), .second, .val (.ref o15), .val (.ref em)] [])) (fun t k => XS.ifNo X28.here hx rfl (hb hby at_102) rfl (by decide) k) ?_
    refine own_via (T28.setTop (mkF m 107 #[.val (.int p0), .val (.int p1), .val (.long p2), .second, .val (.int p3), .val (.ref r_1), .val (.ref o2), .val (.ref o7), .val (.int (0 : Int32)), .val (.long nn), .second, .val (.ref o15), .val (.ref em)] [(.ref em)])) (fun t k => XS.aload X28.here hx rfl (hb hby at_105) rfl rfl k) ?_
    have f29 : Fld Z h24 em "java/util/OptionalLong" "isPresent" "Z" (.int (0 : Int32)) := ((((((pf3.ext E2).other W5 (Or.inl (show @Ne Nat _ _ by omega))).ext E7).keep Kq13 (ninS (show @Ne Nat _ _ by omega) nin0)).ext E15).keep Kq24 (ninS (show @Ne Nat _ _ by omega) nin0))
    have f31 : Exa Z h24 em "java/util/OptionalLong" := ((((((pf2.ext E2).wr W5).ext E7).keep Kq13).ext E15).keep Kq24)
    obtain ⟨v30, T30, h30, L30, X30, e30, q30, st30⟩ := own_cV X28 hx hZ (y := (⟨"java/util/OptionalLong", "isPresent", "()Z"⟩ : MethodName)) (z := (⟨"java/util/OptionalLong", "isPresent", "()Z"⟩ : MethodName)) hown (hw _ (List.mem_of_getElem? (i := 111) rfl)) (hw _ (List.mem_of_getElem? (i := 112) rfl)) (notFace_of_selects (args := #[]) (mvT hZ (hw _ (List.mem_of_getElem? (i := 114) rfl)))) (hw _ (List.mem_of_getElem? (i := 114) rfl)) (hw _ (List.mem_of_getElem? (i := 113) rfl)) (by decide) (W := 0) (own_bk (rm_olIs l Z a0 hw em (0 : Int32) h24 n0 (by omega) f29) hZ (hw _ (List.mem_of_getElem? (i := 115) rfl)) (hw _ (List.mem_of_getElem? (i := 108) rfl)) (by decide) (by decide)) e28 f31 (Ls := #[.val (.int p0), .val (.int p1), .val (.long p2), .second, .val (.int p3), .val (.ref r_1), .val (.ref o2), .val (.ref o7), .val (.int (0 : Int32)), .val (.long nn), .second, .val (.ref o15), .val (.ref em)]) (by rw [hml]; rfl) (argsL := []) (rest := []) rfl (lenOf own_pd48405890 rfl) rfl (Nat.le_of_eq rfl) (hb hby at_107) (by decide) (by decide)
    obtain ⟨rfl, Nq30, eq30⟩ := q30
    have N30 := Fr.app N28 Nq30
    replace e30 := e30.trans eq30
    refine own_via (T30.setTop (mkF m 110 #[.val (.int p0), .val (.int p1), .val (.long p2), .second, .val (.int p3), .val (.ref r_1), .val (.ref o2), .val (.ref o7), .val (.int (0 : Int32)), .val (.long nn), .second, .val (.ref o15), .val (.ref em)] [(.int (nar .boolean (0 : Int32)))])) (st30) ?_
    refine own_via (T30.setTop (mkF m 113 #[.val (.int p0), .val (.int p1), .val (.long p2), .second, .val (.int p3), .val (.ref r_1), .val (.ref o2), .val (.ref o7), .val (.int (0 : Int32)), .val (.long nn), .second, .val (.ref o15), .val (.ref em)] [])) (fun t k => XS.ifNo X30.here hx rfl (hb hby at_110) rfl (XT.i0_ne_f rfl) k) ?_
    refine own_via (T30.setTop (mkF m 114 #[.val (.int p0), .val (.int p1), .val (.long p2), .second, .val (.int p3), .val (.ref r_1), .val (.ref o2), .val (.ref o7), .val (.int (0 : Int32)), .val (.long nn), .second, .val (.ref o15), .val (.ref em)] [(.int (1 : Int32))])) (fun t k => XS.iconst X30.here hx rfl (hb hby at_113) k) ?_
    refine own_via (T30.setTop (mkF m 118 #[.val (.int p0), .val (.int p1), .val (.long p2), .second, .val (.int p3), .val (.ref r_1), .val (.ref o2), .val (.ref o7), .val (.int (0 : Int32)), .val (.long nn), .second, .val (.ref o15), .val (.ref em)] [(.int (1 : Int32))])) (fun t k => XS.goto X30.here hx rfl (pc0 := 114) (pc' := 118) rfl (hb hby at_114) (by decide) (by decide) k) ?_
    exact own_retN X30 hx hlk (t := .boolean) hret (by simp) (hb hby at_118) e30 (⟨rfl, N30⟩) (by decide) (by decide)
  · refine own_via (T13.setTop (mkF m 39 #[.val (.int p0), .val (.int p1), .val (.long p2), .second, .val (.int p3), .val (.ref r_1), .val (.ref o2), .val (.ref o7), .unset, .unset, .unset, .unset, .unset] [])) (fun t k => XS.ifNo X13.here hx rfl (hb hby at_36) rfl (XT.i0_eq_f hf) k) ?_
    refine own_via (T13.setTop (mkF m 40 #[.val (.int p0), .val (.int p1), .val (.long p2), .second, .val (.int p3), .val (.ref r_1), .val (.ref o2), .val (.ref o7), .unset, .unset, .unset, .unset, .unset] [(.int (1 : Int32))])) (fun t k => XS.iconst X13.here hx rfl (hb hby at_39) k) ?_
    refine own_via (T13.setTop (mkF m 44 #[.val (.int p0), .val (.int p1), .val (.long p2), .second, .val (.int p3), .val (.ref r_1), .val (.ref o2), .val (.ref o7), .unset, .unset, .unset, .unset, .unset] [(.int (1 : Int32))])) (fun t k => XS.goto X13.here hx rfl (pc0 := 40) (pc' := 44) rfl (hb hby at_40) (by decide) (by decide) k) ?_
    refine own_via (T13.setTop (mkF m 46 #[.val (.int p0), .val (.int p1), .val (.long p2), .second, .val (.int p3), .val (.ref r_1), .val (.ref o2), .val (.ref o7), .val (.int (1 : Int32)), .unset, .unset, .unset, .unset] [])) (fun t k => XS.istore X13.here hx rfl (hb hby at_44) rfl (l' := #[.val (.int p0), .val (.int p1), .val (.long p2), .second, .val (.int p3), .val (.ref r_1), .val (.ref o2), .val (.ref o7), .val (.int (1 : Int32)), .unset, .unset, .unset, .unset]) rfl k) ?_
    refine own_via (T13.setTop (mkF m 47 #[.val (.int p0), .val (.int p1), .val (.long p2), .second, .val (.int p3), .val (.ref r_1), .val (.ref o2), .val (.ref o7), .val (.int (1 : Int32)), .unset, .unset, .unset, .unset] [(.long (1 : Int64))])) (fun t k => XS.lconst X13.here hx rfl (hb hby at_46) k) ?_
    refine own_via (T13.setTop (mkF m 48 #[.val (.int p0), .val (.int p1), .val (.long p2), .second, .val (.int p3), .val (.ref r_1), .val (.ref o2), .val (.ref o7), .val (.int (1 : Int32)), .unset, .unset, .unset, .unset] [(.long p2), (.long (1 : Int64))])) (fun t k => XS.lloadN X13.here hx rfl (hb hby at_47) rfl k) ?_
    refine own_via (T13.setTop (mkF m 51 #[.val (.int p0), .val (.int p1), .val (.long p2), .second, .val (.int p3), .val (.ref r_1), .val (.ref o2), .val (.ref o7), .val (.int (1 : Int32)), .unset, .unset, .unset, .unset] [(.long (9223372036854775807 : Int64)), (.long p2), (.long (1 : Int64))])) (fun t k => X13.ldc2Long hx hown (mvT hZ (hw _ (List.mem_of_getElem? (i := 38) rfl))) (g := (mkF m 48 #[.val (.int p0), .val (.int p1), .val (.long p2), .second, .val (.int p3), .val (.ref r_1), .val (.ref o2), .val (.ref o7), .val (.int (1 : Int32)), .unset, .unset, .unset, .unset] [(.long p2), (.long (1 : Int64))])) rfl (hb hby at_48) t k) ?_
    refine own_via (T13.setTop (mkF m 52 #[.val (.int p0), .val (.int p1), .val (.long p2), .second, .val (.int p3), .val (.ref r_1), .val (.ref o2), .val (.ref o7), .val (.int (1 : Int32)), .unset, .unset, .unset, .unset] [(.long (p2 &&& (9223372036854775807 : Int64))), (.long (1 : Int64))])) (fun t k => XS.land X13.here hx rfl (hb hby at_51) rfl k) ?_
    obtain ⟨v32, T32, h32, L32, X32, e32, q32, st32⟩ := own_cS X13 hx hZ hown (hw _ (List.mem_of_getElem? (i := 39) rfl)) (hw _ (List.mem_of_getElem? (i := 40) rfl)) (hw _ (List.mem_of_getElem? (i := 41) rfl)) (hw _ (List.mem_of_getElem? (i := 42) rfl)) (by decide) (W := 0) (own_bk (rm_max l Z a0 hw (1 : Int64) (p2 &&& (9223372036854775807 : Int64)) h13 n0 (by omega)) hZ (hw _ (List.mem_of_getElem? (i := 42) rfl)) (hw _ (List.mem_of_getElem? (i := 41) rfl)) (by decide) (by decide)) e13 (Ls := #[.val (.int p0), .val (.int p1), .val (.long p2), .second, .val (.int p3), .val (.ref r_1), .val (.ref o2), .val (.ref o7), .val (.int (1 : Int32)), .unset, .unset, .unset, .unset]) (by rw [hml]; rfl) (argsL := [(.long (1 : Int64)), (.long (p2 &&& (9223372036854775807 : Int64)))]) (rest := []) rfl (lenOf own_pd7024709 rfl) rfl (Nat.le_of_eq rfl) (hb hby at_52) (by decide) (by decide)
    obtain ⟨rfl, Nq32, eq32⟩ := q32
    have N32 := Fr.app N13 Nq32
    replace e32 := e32.trans eq32
    refine own_via (T32.setTop (mkF m 55 #[.val (.int p0), .val (.int p1), .val (.long p2), .second, .val (.int p3), .val (.ref r_1), .val (.ref o2), .val (.ref o7), .val (.int (1 : Int32)), .unset, .unset, .unset, .unset] [(.long (if (1 : Int64) < (p2 &&& (9223372036854775807 : Int64)) then (p2 &&& (9223372036854775807 : Int64)) else (1 : Int64)))])) (st32) ?_
    generalize h_nn : (if (1 : Int64) < (p2 &&& (9223372036854775807 : Int64)) then (p2 &&& (9223372036854775807 : Int64)) else (1 : Int64)) = nn
    have hnn : ¬ nn = 0 := by rw [← h_nn]; exact own_max_ne _
    refine own_via (T32.setTop (mkF m 57 #[.val (.int p0), .val (.int p1), .val (.long p2), .second, .val (.int p3), .val (.ref r_1), .val (.ref o2), .val (.ref o7), .val (.int (1 : Int32)), .val (.long nn), .second, .unset, .unset] [])) (fun t k => XS.lstore X32.here hx rfl (hb hby at_55) rfl (l' := #[.val (.int p0), .val (.int p1), .val (.long p2), .second, .val (.int p3), .val (.ref r_1), .val (.ref o2), .val (.ref o7), .val (.int (1 : Int32)), .val (.long nn), .second, .unset, .unset]) rfl k) ?_
    refine own_via (T32.setTop (mkF m 59 #[.val (.int p0), .val (.int p1), .val (.long p2), .second, .val (.int p3), .val (.ref r_1), .val (.ref o2), .val (.ref o7), .val (.int (1 : Int32)), .val (.long nn), .second, .unset, .unset] [(.int (1 : Int32))])) (fun t k => XS.iload X32.here hx rfl (hb hby at_57) rfl k) ?_
    refine own_via (T32.setTop (mkF m 62 #[.val (.int p0), .val (.int p1), .val (.long p2), .second, .val (.int p3), .val (.ref r_1), .val (.ref o2), .val (.ref o7), .val (.int (1 : Int32)), .val (.long nn), .second, .unset, .unset] [])) (fun t k => XS.ifNo X32.here hx rfl (hb hby at_59) rfl (by decide) k) ?_
    obtain ⟨T33, h33, X33, e33, E33, A33, D33, U33, st33⟩ := newO X32 hx hZ hown (hw _ (List.mem_of_getElem? (i := 43) rfl)) (hw _ (List.mem_of_getElem? (i := 44) rfl)) (hw _ (List.mem_of_getElem? (i := 45) rfl)) e32 (g := (mkF m 62 #[.val (.int p0), .val (.int p1), .val (.long p2), .second, .val (.int p3), .val (.ref r_1), .val (.ref o2), .val (.ref o7), .val (.int (1 : Int32)), .val (.long nn), .second, .unset, .unset] [])) rfl (hb hby at_62) (by decide) (by decide)
    obtain ⟨o33, g33⟩ : ∃ z, z = h13.size := ⟨_, rfl⟩
    rw [← g33] at A33 D33 U33 st33
    have sz_h33 : h13.size ≤ h33.size := E33.1
    have lt_o33 : @LT.lt Nat _ o33 h33.size := A33.lt
    refine own_via (T33.setTop (mkF m 65 #[.val (.int p0), .val (.int p1), .val (.long p2), .second, .val (.int p3), .val (.ref r_1), .val (.ref o2), .val (.ref o7), .val (.int (1 : Int32)), .val (.long nn), .second, .unset, .unset] [(.ref o33)])) (st33) ?_
    refine own_via (T33.setTop (mkF m 66 #[.val (.int p0), .val (.int p1), .val (.long p2), .second, .val (.int p3), .val (.ref r_1), .val (.ref o2), .val (.ref o7), .val (.int (1 : Int32)), .val (.long nn), .second, .unset, .unset] [(.ref o33), (.ref o33)])) (fun t k => XS.dup X33.here hx rfl (hb hby at_65) rfl rfl k) ?_
    refine own_via (T33.setTop (mkF m 68 #[.val (.int p0), .val (.int p1), .val (.long p2), .second, .val (.int p3), .val (.ref r_1), .val (.ref o2), .val (.ref o7), .val (.int (1 : Int32)), .val (.long nn), .second, .unset, .unset] [(.ref r_1), (.ref o33), (.ref o33)])) (fun t k => XS.aload X33.here hx rfl (hb hby at_66) rfl rfl k) ?_
    refine own_via (T33.setTop (mkF m 70 #[.val (.int p0), .val (.int p1), .val (.long p2), .second, .val (.int p3), .val (.ref r_1), .val (.ref o2), .val (.ref o7), .val (.int (1 : Int32)), .val (.long nn), .second, .unset, .unset] [(.ref o7), (.ref r_1), (.ref o33), (.ref o33)])) (fun t k => XS.aload X33.here hx rfl (hb hby at_68) rfl rfl k) ?_
    refine own_via (T33.setTop (mkF m 72 #[.val (.int p0), .val (.int p1), .val (.long p2), .second, .val (.int p3), .val (.ref r_1), .val (.ref o2), .val (.ref o7), .val (.int (1 : Int32)), .val (.long nn), .second, .unset, .unset] [(.long nn), (.ref o7), (.ref r_1), (.ref o33), (.ref o33)])) (fun t k => XS.lload X33.here hx rfl (hb hby at_70) rfl k) ?_
    have f34 : Fld Z h33 o33 "java/lang/Throwable" "backtrace" "Ljava/lang/Object;" .null := (D33 (Or.inl (hw _ (List.mem_of_getElem? (i := 93) rfl))) (ty := (.object "java/lang/Object")) (by decide))
    have f35 : Fld Z h33 o33 "java/lang/Throwable" "detailMessage" "Ljava/lang/String;" .null := (D33 (Or.inl (hw _ (List.mem_of_getElem? (i := 92) rfl))) (ty := (.object "java/lang/String")) (by decide))
    have f36 : Fld Z h33 o33 "java/lang/Throwable" "cause" "Ljava/lang/Throwable;" .null := (D33 (Or.inl (hw _ (List.mem_of_getElem? (i := 62) rfl))) (ty := (.object "java/lang/Throwable")) (by decide))
    have f37 : Fld Z h33 o33 "java/lang/Throwable" "stackTrace" "[Ljava/lang/StackTraceElement;" .null := (D33 (Or.inl (hw _ (List.mem_of_getElem? (i := 65) rfl))) (ty := (.array (.object "java/lang/StackTraceElement"))) (by decide))
    have f38 : Fld Z h33 o33 "java/lang/Throwable" "suppressedExceptions" "Ljava/util/List;" .null := (D33 (Or.inl (hw _ (List.mem_of_getElem? (i := 68) rfl))) (ty := (.object "java/util/List")) (by decide))
    have f39 : Fld Z h33 o33 "com/example/zonegrant/zonegrant/service/OAuthException" "error" "Lcom/example/zonegrant/zonegrant/service/OAuthError;" .null := (D33 (Or.inr (hw _ (List.mem_of_getElem? (i := 98) rfl))) (ty := (.object "com/example/zonegrant/zonegrant/service/OAuthError")) (by decide))
    have f40 : Fld Z h33 o33 "com/example/zonegrant/zonegrant/service/OAuthException" "retryAfter" "J" (.long (0 : Int64)) := (D33 (Or.inr (hw _ (List.mem_of_getElem? (i := 100) rfl))) (ty := .long) (by decide))
    have f41 : Old Z n0 h33 := ((f12.keep Kq13 (allS (show @LE.le Nat _ _ _ by omega) all0)).ext E33)
    obtain ⟨v42, T42, h42, L42, X42, e42, q42, st42⟩ := own_cI X33 hx hZ hown (hw _ (List.mem_of_getElem? (i := 120) rfl)) (hw _ (List.mem_of_getElem? (i := 121) rfl)) (hw _ (List.mem_of_getElem? (i := 122) rfl)) rfl (by decide) (W := 1) (own_bkK (rm_ex3 l Z a0 hw o33 r_1 o7 nn .null (.long (0 : Int64)) .null .null .null .null us ss h33 n0 (by omega) A33 U33 f34 f35 f36 f37 f38 f39 f40 pf17 pf18 f41 (show @LE.le Nat _ _ _ by omega) hl hus hss) hZ (hw _ (List.mem_of_getElem? (i := 122) rfl)) (hw _ (List.mem_of_getElem? (i := 45) rfl)) (by decide) (by decide) hTK hBelow) e33 (a := o33) (Ls := #[.val (.int p0), .val (.int p1), .val (.long p2), .second, .val (.int p3), .val (.ref r_1), .val (.ref o2), .val (.ref o7), .val (.int (1 : Int32)), .val (.long nn), .second, .unset, .unset]) (by rw [hml]; rfl) (argsL := [(.ref r_1), (.ref o7), (.long nn)]) (rest := [(.ref o33)]) rfl (lenOf own_pd83249637 rfl) rfl (Nat.le_of_eq rfl) (hb hby at_72) (by decide) (by decide)
    obtain ⟨rfl, Nq42, Kq42, f43, f44⟩ := q42
    have N42 := Fr.app N32 Nq42
    have sz_h42 : h33.size ≤ h42.size := Kq42.1
    refine own_via (T42.setTop (mkF m 75 #[.val (.int p0), .val (.int p1), .val (.long p2), .second, .val (.int p3), .val (.ref r_1), .val (.ref o2), .val (.ref o7), .val (.int (1 : Int32)), .val (.long nn), .second, .unset, .unset] [(.ref o33)])) (st42) ?_
    refine own_via (T42.setTop (mkF m 77 #[.val (.int p0), .val (.int p1), .val (.long p2), .second, .val (.int p3), .val (.ref r_1), .val (.ref o2), .val (.ref o7), .val (.int (1 : Int32)), .val (.long nn), .second, .val (.ref o33), .unset] [])) (fun t k => XS.astore X42.here hx rfl (hb hby at_75) rfl rfl (l' := #[.val (.int p0), .val (.int p1), .val (.long p2), .second, .val (.int p3), .val (.ref r_1), .val (.ref o2), .val (.ref o7), .val (.int (1 : Int32)), .val (.long nn), .second, .val (.ref o33), .unset]) rfl k) ?_
    refine own_via (T42.setTop (mkF m 93 #[.val (.int p0), .val (.int p1), .val (.long p2), .second, .val (.int p3), .val (.ref r_1), .val (.ref o2), .val (.ref o7), .val (.int (1 : Int32)), .val (.long nn), .second, .val (.ref o33), .unset] [])) (fun t k => XS.goto X42.here hx rfl (pc0 := 77) (pc' := 93) rfl (hb hby at_77) (by decide) (by decide) k) ?_
    refine own_via (T42.setTop (mkF m 95 #[.val (.int p0), .val (.int p1), .val (.long p2), .second, .val (.int p3), .val (.ref r_1), .val (.ref o2), .val (.ref o7), .val (.int (1 : Int32)), .val (.long nn), .second, .val (.ref o33), .unset] [(.ref o33)])) (fun t k => XS.aload X42.here hx rfl (hb hby at_93) rfl rfl k) ?_
    obtain ⟨v45, T45, h45, L45, X45, e45, q45, st45⟩ := own_cV X42 hx hZ (y := (⟨"com/example/zonegrant/zonegrant/service/OAuthException", "retryAfter", "()Ljava/util/OptionalLong;"⟩ : MethodName)) (z := (⟨"com/example/zonegrant/zonegrant/service/OAuthException", "retryAfter", "()Ljava/util/OptionalLong;"⟩ : MethodName)) hown (hw _ (List.mem_of_getElem? (i := 101) rfl)) (hw _ (List.mem_of_getElem? (i := 102) rfl)) (notFace_of_selects (args := #[]) (mvT hZ (hw _ (List.mem_of_getElem? (i := 104) rfl)))) (hw _ (List.mem_of_getElem? (i := 104) rfl)) (hw _ (List.mem_of_getElem? (i := 103) rfl)) (by decide) (W := 0) (own_bk (rm_ra1 l Z a0 hw o33 nn h42 n0 (by omega) f44 hnn) hZ (hw _ (List.mem_of_getElem? (i := 105) rfl)) (hw _ (List.mem_of_getElem? (i := 45) rfl)) (by decide) (by decide)) e42 f43 (Ls := #[.val (.int p0), .val (.int p1), .val (.long p2), .second, .val (.int p3), .val (.ref r_1), .val (.ref o2), .val (.ref o7), .val (.int (1 : Int32)), .val (.long nn), .second, .val (.ref o33), .unset]) (by rw [hml]; rfl) (argsL := []) (rest := []) rfl (lenOf own_pd41918257 rfl) rfl (Nat.le_of_eq rfl) (hb hby at_95) (by decide) (by decide)
    obtain ⟨b_45, rfl, Nq45, Kq45, f46, f47, f48⟩ := q45
    have N45 := Fr.app N42 Nq45
    have sz_h45 : h42.size ≤ h45.size := Kq45.1
    have lt_b_45 : @LT.lt Nat _ b_45 h45.size := f46.lt
    refine own_via (T45.setTop (mkF m 98 #[.val (.int p0), .val (.int p1), .val (.long p2), .second, .val (.int p3), .val (.ref r_1), .val (.ref o2), .val (.ref o7), .val (.int (1 : Int32)), .val (.long nn), .second, .val (.ref o33), .unset] [(.ref b_45)])) (st45) ?_
    refine own_via (T45.setTop (mkF m 100 #[.val (.int p0), .val (.int p1), .val (.long p2), .second, .val (.int p3), .val (.ref r_1), .val (.ref o2), .val (.ref o7), .val (.int (1 : Int32)), .val (.long nn), .second, .val (.ref o33), .val (.ref b_45)] [])) (fun t k => XS.astore X45.here hx rfl (hb hby at_98) rfl rfl (l' := #[.val (.int p0), .val (.int p1), .val (.long p2), .second, .val (.int p3), .val (.ref r_1), .val (.ref o2), .val (.ref o7), .val (.int (1 : Int32)), .val (.long nn), .second, .val (.ref o33), .val (.ref b_45)]) rfl k) ?_
    refine own_via (T45.setTop (mkF m 102 #[.val (.int p0), .val (.int p1), .val (.long p2), .second, .val (.int p3), .val (.ref r_1), .val (.ref o2), .val (.ref o7), .val (.int (1 : Int32)), .val (.long nn), .second, .val (.ref o33), .val (.ref b_45)] [(.int (1 : Int32))])) (fun t k => XS.iload X45.here hx rfl (hb hby at_100) rfl k) ?_
    refine own_via (T45.setTop (mkF m 119 #[.val (.int p0), .val (.int p1), .val (.long p2), .second, .val (.int p3), .val (.ref r_1), .val (.ref o2), .val (.ref o7), .val (.int (1 : Int32)), .val (.long nn), .second, .val (.ref o33), .val (.ref b_45)] [])) (fun t k => XS.ifYes X45.here hx rfl (pc0 := 102) (pc' := 119) rfl (hb hby at_102) rfl (by decide) (by decide) (by decide) k) ?_
    refine own_via (T45.setTop (mkF m 121 #[.val (.int p0), .val (.int p1), .val (.long p2), .second, .val (.int p3), .val (.ref r_1), .val (.ref o2), .val (.ref o7), .val (.int (1 : Int32)), .val (.long nn), .second, .val (.ref o33), .val (.ref b_45)] [(.ref b_45)])) (fun t k => XS.aload X45.here hx rfl (hb hby at_119) rfl rfl k) ?_
    obtain ⟨v49, T49, h49, L49, X49, e49, q49, st49⟩ := own_cV X45 hx hZ (y := (⟨"java/util/OptionalLong", "isPresent", "()Z"⟩ : MethodName)) (z := (⟨"java/util/OptionalLong", "isPresent", "()Z"⟩ : MethodName)) hown (hw _ (List.mem_of_getElem? (i := 111) rfl)) (hw _ (List.mem_of_getElem? (i := 112) rfl)) (notFace_of_selects (args := #[]) (mvT hZ (hw _ (List.mem_of_getElem? (i := 114) rfl)))) (hw _ (List.mem_of_getElem? (i := 114) rfl)) (hw _ (List.mem_of_getElem? (i := 113) rfl)) (by decide) (W := 0) (own_bk (rm_olIs l Z a0 hw b_45 (1 : Int32) h45 n0 (by omega) f47) hZ (hw _ (List.mem_of_getElem? (i := 115) rfl)) (hw _ (List.mem_of_getElem? (i := 108) rfl)) (by decide) (by decide)) e45 f46 (Ls := #[.val (.int p0), .val (.int p1), .val (.long p2), .second, .val (.int p3), .val (.ref r_1), .val (.ref o2), .val (.ref o7), .val (.int (1 : Int32)), .val (.long nn), .second, .val (.ref o33), .val (.ref b_45)]) (by rw [hml]; rfl) (argsL := []) (rest := []) rfl (lenOf own_pd48405890 rfl) rfl (Nat.le_of_eq rfl) (hb hby at_121) (by decide) (by decide)
    obtain ⟨rfl, Nq49, eq49⟩ := q49
    have N49 := Fr.app N45 Nq49
    replace e49 := e49.trans eq49
    refine own_via (T49.setTop (mkF m 124 #[.val (.int p0), .val (.int p1), .val (.long p2), .second, .val (.int p3), .val (.ref r_1), .val (.ref o2), .val (.ref o7), .val (.int (1 : Int32)), .val (.long nn), .second, .val (.ref o33), .val (.ref b_45)] [(.int (nar .boolean (1 : Int32)))])) (st49) ?_
    refine own_via (T49.setTop (mkF m 127 #[.val (.int p0), .val (.int p1), .val (.long p2), .second, .val (.int p3), .val (.ref r_1), .val (.ref o2), .val (.ref o7), .val (.int (1 : Int32)), .val (.long nn), .second, .val (.ref o33), .val (.ref b_45)] [])) (fun t k => XS.ifNo X49.here hx rfl (hb hby at_124) rfl (XT.i0_eq_f (by decide)) k) ?_
    refine own_via (T49.setTop (mkF m 129 #[.val (.int p0), .val (.int p1), .val (.long p2), .second, .val (.int p3), .val (.ref r_1), .val (.ref o2), .val (.ref o7), .val (.int (1 : Int32)), .val (.long nn), .second, .val (.ref o33), .val (.ref b_45)] [(.ref b_45)])) (fun t k => XS.aload X49.here hx rfl (hb hby at_127) rfl rfl k) ?_
    obtain ⟨v50, T50, h50, L50, X50, e50, q50, st50⟩ := own_cV X49 hx hZ (y := (⟨"java/util/OptionalLong", "getAsLong", "()J"⟩ : MethodName)) (z := (⟨"java/util/OptionalLong", "getAsLong", "()J"⟩ : MethodName)) hown (hw _ (List.mem_of_getElem? (i := 135) rfl)) (hw _ (List.mem_of_getElem? (i := 136) rfl)) (notFace_of_selects (args := #[]) (mvT hZ (hw _ (List.mem_of_getElem? (i := 138) rfl)))) (hw _ (List.mem_of_getElem? (i := 138) rfl)) (hw _ (List.mem_of_getElem? (i := 137) rfl)) (by decide) (W := 0) (own_bk (rm_olGet l Z a0 hw b_45 (1 : Int32) nn h45 n0 (by omega) f47 f48 (by decide)) hZ (hw _ (List.mem_of_getElem? (i := 139) rfl)) (hw _ (List.mem_of_getElem? (i := 108) rfl)) (by decide) (by decide)) e49 f46 (Ls := #[.val (.int p0), .val (.int p1), .val (.long p2), .second, .val (.int p3), .val (.ref r_1), .val (.ref o2), .val (.ref o7), .val (.int (1 : Int32)), .val (.long nn), .second, .val (.ref o33), .val (.ref b_45)]) (by rw [hml]; rfl) (argsL := []) (rest := []) rfl (lenOf own_pd16732936 rfl) rfl (Nat.le_of_eq rfl) (hb hby at_129) (by decide) (by decide)
    obtain ⟨rfl, Nq50, eq50⟩ := q50
    have N50 := Fr.app N49 Nq50
    replace e50 := e50.trans eq50
    refine own_via (T50.setTop (mkF m 132 #[.val (.int p0), .val (.int p1), .val (.long p2), .second, .val (.int p3), .val (.ref r_1), .val (.ref o2), .val (.ref o7), .val (.int (1 : Int32)), .val (.long nn), .second, .val (.ref o33), .val (.ref b_45)] [(.long nn)])) (st50) ?_
    refine own_via (T50.setTop (mkF m 134 #[.val (.int p0), .val (.int p1), .val (.long p2), .second, .val (.int p3), .val (.ref r_1), .val (.ref o2), .val (.ref o7), .val (.int (1 : Int32)), .val (.long nn), .second, .val (.ref o33), .val (.ref b_45)] [(.long nn), (.long nn)])) (fun t k => XS.lload X50.here hx rfl (hb hby at_132) rfl k) ?_
    refine own_via (T50.setTop (mkF m 135 #[.val (.int p0), .val (.int p1), .val (.long p2), .second, .val (.int p3), .val (.ref r_1), .val (.ref o2), .val (.ref o7), .val (.int (1 : Int32)), .val (.long nn), .second, .val (.ref o33), .val (.ref b_45)] [(.int (lcmpW nn nn))])) (fun t k => XS.lcmp X50.here hx rfl (hb hby at_134) rfl k) ?_
    refine own_via (T50.setTop (mkF m 138 #[.val (.int p0), .val (.int p1), .val (.long p2), .second, .val (.int p3), .val (.ref r_1), .val (.ref o2), .val (.ref o7), .val (.int (1 : Int32)), .val (.long nn), .second, .val (.ref o33), .val (.ref b_45)] [])) (fun t k => XS.ifNo X50.here hx rfl (hb hby at_135) rfl (XT.i0_ne_f (own_lcs _)) k) ?_
    refine own_via (T50.setTop (mkF m 139 #[.val (.int p0), .val (.int p1), .val (.long p2), .second, .val (.int p3), .val (.ref r_1), .val (.ref o2), .val (.ref o7), .val (.int (1 : Int32)), .val (.long nn), .second, .val (.ref o33), .val (.ref b_45)] [(.int (1 : Int32))])) (fun t k => XS.iconst X50.here hx rfl (hb hby at_138) k) ?_
    refine own_via (T50.setTop (mkF m 143 #[.val (.int p0), .val (.int p1), .val (.long p2), .second, .val (.int p3), .val (.ref r_1), .val (.ref o2), .val (.ref o7), .val (.int (1 : Int32)), .val (.long nn), .second, .val (.ref o33), .val (.ref b_45)] [(.int (1 : Int32))])) (fun t k => XS.goto X50.here hx rfl (pc0 := 139) (pc' := 143) rfl (hb hby at_139) (by decide) (by decide) k) ?_
    exact own_retN X50 hx hlk (t := .boolean) hret (by simp) (hb hby at_143) e50 (⟨rfl, N50⟩) (by decide) (by decide)
theorem own_fld0 {args : Array Value} {s : State} {t : Term} {a : Addr} {C n d : String} {z : Int32} (ev : t.eval args s none [] s = some (.ref a)) (h : (Cond.eq (Term.field t C n d) (Term.int z)).value args s none s [] = some true) : s.fieldOf? a C n d = some (.int z) := by
  have e1 : (Term.field t C n d).eval args s none [] s = s.fieldOf? a C n d := by simp [Term.eval, ev]
  have e2 : (Term.int z).eval args s none [] s = some (.int z) := rfl
  simp only [Cond.value, e1, e2] at h
  cases hf : s.fieldOf? a C n d with
  | none => simp [hf] at h
  | some w => cases w <;> simp [hf] at h ⊢ <;> first | exact h | skip
set_option maxRecDepth 65536 in
set_option maxHeartbeats 40000000 in
theorem comes_1 {Post : Tables → Env → Array Value → State → Outcome → State → Prop} (hpost : ∀ tb e args s v u, (limb_1_1.after args s (.returned v) u = true ∧ limb_1_2.after args s (.returned v) u = true ∧ True) → FrameEnd s (.returned v) u (Jvm.fieldLocs frame_1_writes args s ++ Jvm.arrayLocs frame_1_arrays args s ++ Jvm.staticLocs frame_1_statics s) 24 5632 → Post tb e args s (.returned v) u) :
    ArmFor flags0 classFile x code maxLocals ret World_1 tables_1 room_1 Calls_1 rest_1 Pre_1 Post := by
  intro l hfl _ _ p e ha hc hk s m args below hf hA hF happ hP
  obtain ⟨hcalls, hrest, hpre⟩ := hP
  obtain ⟨-, -, -, hnamed, -, -, -, hat⟩ := (Spec.applies_iff hf).mp happ
  obtain ⟨hg, hn⟩ := and_e (Cond.before_iff.mp (show (Jvm.Cond.and given_1 narrow_1).before args s = true from hpre))
  obtain ⟨hcount, ga0⟩ := and_e hg
  obtain ⟨gv0, ga1⟩ := and_e ga0
  obtain ⟨gv1, ga2⟩ := and_e ga1
  obtain ⟨gv2, ga3⟩ := and_e ga2
  obtain ⟨w0, w1, w2, w3, rfl⟩ : ∃ w0 w1 w2 w3 : Value, args = #[w0, w1, w2, w3] := by
    have hs : args.size = 4 := by simpa [Cond.value, given_1] using hcount
    obtain ⟨L⟩ := args
    match L, hs with
    | [w0, w1, w2, w3], _ => exact ⟨w0, w1, w2, w3, rfl⟩
  have hw := fun d (hd : d ∈ tables_1) => atoms_spec (ws := Jvm.Cond.code x code maxLocals ret :: tables_1) hat d (List.mem_cons_of_mem _ hd)
  obtain ⟨hsets, hown0⟩ := atoms_of _ (rest_1_c_eq ▸ (show rest_1_c.before _ s = true from hrest))
  have hfit : Fit s := fun {y c} hc i hi => by
    obtain ⟨ha, rfl⟩ := Array.getElem?_eq_some_iff.mp hc
    have q := List.all_eq_true.mp ((Array.all_eq_true_iff_forall_mem.mp hF) _ (Array.getElem_mem ha)) i (List.mem_range.mpr hi)
    simpa [Array.getElem?_eq_getElem hi] using q
  obtain ⟨i0, ev0⟩ := is_v gv0
  obtain rfl : w0 = (.int i0) := Option.some.inj ev0
  obtain ⟨i1, ev1⟩ := is_v gv1
  obtain rfl : w1 = (.int i1) := Option.some.inj ev1
  obtain ⟨i2, ev2⟩ := isL_v gv2
  obtain rfl : w2 = (.long i2) := Option.some.inj ev2
  obtain ⟨i3, ev3⟩ := is_v ga3
  obtain rfl : w3 = (.int i3) := Option.some.inj ev3
  obtain ⟨i11, e10⟩ := is_v (Cond.before_iff.mp (hsets _ (List.mem_of_getElem? (i := 1) rfl)))
  have S12 : Sta s s.heap "java/lang/String" "COMPACT_STRINGS" "Z" (.int i11) := Sta.start e10 (Or.inl (hsets _ (List.mem_of_getElem? (i := 0) rfl)))
  have c17 : ¬ (i11 = (0 : Int32)) := gotF (Cond.eq_ints e10 (Term.int_eval (0))) (not_v (Cond.before_iff.mp (hsets _ (List.mem_of_getElem? (i := 2) rfl))))
  obtain ⟨em, ee⟩ := exa_v (Cond.before_iff.mp (hsets _ (List.mem_of_getElem? (i := 31) rfl)))
  have SE : Sta s s.heap "java/util/OptionalLong" "EMPTY" "Ljava/util/OptionalLong;" (.ref em) := Sta.start ee (Or.inl (hsets _ (List.mem_of_getElem? (i := 30) rfl)))
  have XE : Exa s s.heap em "java/util/OptionalLong" := Exa.start ee (Cond.before_iff.mp (hsets _ (List.mem_of_getElem? (i := 31) rfl)))
  have FE : Fld s s.heap em "java/util/OptionalLong" "isPresent" "Z" (.int (0 : Int32)) := Fld.start (own_fld0 ee (Cond.before_iff.mp (hsets _ (List.mem_of_getElem? (i := 32) rfl))))
  obtain ⟨nv_INVALID_REQUEST, nr0⟩ := and_e hn
  obtain ⟨nv_UNAUTHORIZED_CLIENT, nr1⟩ := and_e nr0
  obtain ⟨nv_INVALID_CLIENT_METADATA, nr2⟩ := and_e nr1
  obtain ⟨nv_INVALID_CLIENT, nr3⟩ := and_e nr2
  obtain ⟨nv_INVALID_GRANT, nr4⟩ := and_e nr3
  obtain ⟨nv_UNSUPPORTED_GRANT_TYPE, nr5⟩ := and_e nr4
  obtain ⟨nv_CONFLICT, nr6⟩ := and_e nr5
  obtain ⟨nv_UNSUPPORTED_RESPONSE_TYPE, nr7⟩ := and_e nr6
  obtain ⟨nv_ACCESS_DENIED, nr8⟩ := and_e nr7
  obtain ⟨nv_NOT_FOUND, nr9⟩ := and_e nr8
  obtain ⟨nv_INSUFFICIENT_SCOPE, nr10⟩ := and_e nr9
  obtain ⟨nv_INVALID_SCOPE, nr11⟩ := and_e nr10
  have nv_INVALID_TOKEN := nr11
  obtain ⟨x_INVALID_REQUEST, ex_INVALID_REQUEST⟩ := exa_v nv_INVALID_REQUEST
  have S_INVALID_REQUEST : Sta s s.heap "com/example/zonegrant/zonegrant/service/OAuthError" "INVALID_REQUEST" "Lcom/example/zonegrant/zonegrant/service/OAuthError;" (.ref x_INVALID_REQUEST) := Sta.start ex_INVALID_REQUEST (Or.inr ⟨hw _ (List.mem_of_getElem? (i := 6) rfl), hw _ (List.mem_of_getElem? (i := 7) rfl)⟩)
  obtain ⟨x_INVALID_CLIENT, ex_INVALID_CLIENT⟩ := exa_v nv_INVALID_CLIENT
  have S_INVALID_CLIENT : Sta s s.heap "com/example/zonegrant/zonegrant/service/OAuthError" "INVALID_CLIENT" "Lcom/example/zonegrant/zonegrant/service/OAuthError;" (.ref x_INVALID_CLIENT) := Sta.start ex_INVALID_CLIENT (Or.inr ⟨hw _ (List.mem_of_getElem? (i := 6) rfl), hw _ (List.mem_of_getElem? (i := 143) rfl)⟩)
  obtain ⟨x_INVALID_GRANT, ex_INVALID_GRANT⟩ := exa_v nv_INVALID_GRANT
  have S_INVALID_GRANT : Sta s s.heap "com/example/zonegrant/zonegrant/service/OAuthError" "INVALID_GRANT" "Lcom/example/zonegrant/zonegrant/service/OAuthError;" (.ref x_INVALID_GRANT) := Sta.start ex_INVALID_GRANT (Or.inr ⟨hw _ (List.mem_of_getElem? (i := 6) rfl), hw _ (List.mem_of_getElem? (i := 145) rfl)⟩)
  obtain ⟨x_UNAUTHORIZED_CLIENT, ex_UNAUTHORIZED_CLIENT⟩ := exa_v nv_UNAUTHORIZED_CLIENT
  have S_UNAUTHORIZED_CLIENT : Sta s s.heap "com/example/zonegrant/zonegrant/service/OAuthError" "UNAUTHORIZED_CLIENT" "Lcom/example/zonegrant/zonegrant/service/OAuthError;" (.ref x_UNAUTHORIZED_CLIENT) := Sta.start ex_UNAUTHORIZED_CLIENT (Or.inr ⟨hw _ (List.mem_of_getElem? (i := 6) rfl), hw _ (List.mem_of_getElem? (i := 119) rfl)⟩)
  obtain ⟨x_UNSUPPORTED_GRANT_TYPE, ex_UNSUPPORTED_GRANT_TYPE⟩ := exa_v nv_UNSUPPORTED_GRANT_TYPE
  have S_UNSUPPORTED_GRANT_TYPE : Sta s s.heap "com/example/zonegrant/zonegrant/service/OAuthError" "UNSUPPORTED_GRANT_TYPE" "Lcom/example/zonegrant/zonegrant/service/OAuthError;" (.ref x_UNSUPPORTED_GRANT_TYPE) := Sta.start ex_UNSUPPORTED_GRANT_TYPE (Or.inr ⟨hw _ (List.mem_of_getElem? (i := 6) rfl), hw _ (List.mem_of_getElem? (i := 147) rfl)⟩)
  obtain ⟨x_INVALID_SCOPE, ex_INVALID_SCOPE⟩ := exa_v nv_INVALID_SCOPE
  have S_INVALID_SCOPE : Sta s s.heap "com/example/zonegrant/zonegrant/service/OAuthError" "INVALID_SCOPE" "Lcom/example/zonegrant/zonegrant/service/OAuthError;" (.ref x_INVALID_SCOPE) := Sta.start ex_INVALID_SCOPE (Or.inr ⟨hw _ (List.mem_of_getElem? (i := 6) rfl), hw _ (List.mem_of_getElem? (i := 159) rfl)⟩)
  obtain ⟨x_UNSUPPORTED_RESPONSE_TYPE, ex_UNSUPPORTED_RESPONSE_TYPE⟩ := exa_v nv_UNSUPPORTED_RESPONSE_TYPE
  have S_UNSUPPORTED_RESPONSE_TYPE : Sta s s.heap "com/example/zonegrant/zonegrant/service/OAuthError" "UNSUPPORTED_RESPONSE_TYPE" "Lcom/example/zonegrant/zonegrant/service/OAuthError;" (.ref x_UNSUPPORTED_RESPONSE_TYPE) := Sta.start ex_UNSUPPORTED_RESPONSE_TYPE (Or.inr ⟨hw _ (List.mem_of_getElem? (i := 6) rfl), hw _ (List.mem_of_getElem? (i := 151) rfl)⟩)
  obtain ⟨x_INVALID_TOKEN, ex_INVALID_TOKEN⟩ := exa_v nv_INVALID_TOKEN
  have S_INVALID_TOKEN : Sta s s.heap "com/example/zonegrant/zonegrant/service/OAuthError" "INVALID_TOKEN" "Lcom/example/zonegrant/zonegrant/service/OAuthError;" (.ref x_INVALID_TOKEN) := Sta.start ex_INVALID_TOKEN (Or.inr ⟨hw _ (List.mem_of_getElem? (i := 6) rfl), hw _ (List.mem_of_getElem? (i := 161) rfl)⟩)
  obtain ⟨x_ACCESS_DENIED, ex_ACCESS_DENIED⟩ := exa_v nv_ACCESS_DENIED
  have S_ACCESS_DENIED : Sta s s.heap "com/example/zonegrant/zonegrant/service/OAuthError" "ACCESS_DENIED" "Lcom/example/zonegrant/zonegrant/service/OAuthError;" (.ref x_ACCESS_DENIED) := Sta.start ex_ACCESS_DENIED (Or.inr ⟨hw _ (List.mem_of_getElem? (i := 6) rfl), hw _ (List.mem_of_getElem? (i := 153) rfl)⟩)
  obtain ⟨x_INVALID_CLIENT_METADATA, ex_INVALID_CLIENT_METADATA⟩ := exa_v nv_INVALID_CLIENT_METADATA
  have S_INVALID_CLIENT_METADATA : Sta s s.heap "com/example/zonegrant/zonegrant/service/OAuthError" "INVALID_CLIENT_METADATA" "Lcom/example/zonegrant/zonegrant/service/OAuthError;" (.ref x_INVALID_CLIENT_METADATA) := Sta.start ex_INVALID_CLIENT_METADATA (Or.inr ⟨hw _ (List.mem_of_getElem? (i := 6) rfl), hw _ (List.mem_of_getElem? (i := 141) rfl)⟩)
  obtain ⟨x_INSUFFICIENT_SCOPE, ex_INSUFFICIENT_SCOPE⟩ := exa_v nv_INSUFFICIENT_SCOPE
  have S_INSUFFICIENT_SCOPE : Sta s s.heap "com/example/zonegrant/zonegrant/service/OAuthError" "INSUFFICIENT_SCOPE" "Lcom/example/zonegrant/zonegrant/service/OAuthError;" (.ref x_INSUFFICIENT_SCOPE) := Sta.start ex_INSUFFICIENT_SCOPE (Or.inr ⟨hw _ (List.mem_of_getElem? (i := 6) rfl), hw _ (List.mem_of_getElem? (i := 157) rfl)⟩)
  obtain ⟨x_NOT_FOUND, ex_NOT_FOUND⟩ := exa_v nv_NOT_FOUND
  have S_NOT_FOUND : Sta s s.heap "com/example/zonegrant/zonegrant/service/OAuthError" "NOT_FOUND" "Lcom/example/zonegrant/zonegrant/service/OAuthError;" (.ref x_NOT_FOUND) := Sta.start ex_NOT_FOUND (Or.inr ⟨hw _ (List.mem_of_getElem? (i := 6) rfl), hw _ (List.mem_of_getElem? (i := 155) rfl)⟩)
  obtain ⟨x_CONFLICT, ex_CONFLICT⟩ := exa_v nv_CONFLICT
  have S_CONFLICT : Sta s s.heap "com/example/zonegrant/zonegrant/service/OAuthError" "CONFLICT" "Lcom/example/zonegrant/zonegrant/service/OAuthError;" (.ref x_CONFLICT) := Sta.start ex_CONFLICT (Or.inr ⟨hw _ (List.mem_of_getElem? (i := 6) rfl), hw _ (List.mem_of_getElem? (i := 149) rfl)⟩)
  obtain ⟨us, eus, rus⟩ := isR_v (Cond.before_iff.mp (hsets _ (List.mem_of_getElem? (i := 16) rfl)))
  have S_us : Sta s s.heap "java/lang/Throwable" "UNASSIGNED_STACK" "[Ljava/lang/StackTraceElement;" us := Sta.start eus (Or.inl (hsets _ (List.mem_of_getElem? (i := 15) rfl)))
  obtain ⟨ss, ess, rss⟩ := isR_v (Cond.before_iff.mp (hsets _ (List.mem_of_getElem? (i := 21) rfl)))
  have S_ss : Sta s s.heap "java/lang/Throwable" "SUPPRESSED_SENTINEL" "Ljava/util/List;" ss := Sta.start ess (Or.inl (hsets _ (List.mem_of_getElem? (i := 20) rfl)))
  have hl : l.stackTraces = true := by unfold Launch.stackTraces; rw [hfl]; decide
  obtain ⟨n, o, h1, h2, h3, _, L, rfl, ⟨rfl, N⟩, hq⟩ := rm_law l s _ hw i0 i1 i2 i3 i11 em x_INVALID_REQUEST x_INVALID_CLIENT x_INVALID_GRANT x_UNAUTHORIZED_CLIENT x_UNSUPPORTED_GRANT_TYPE x_INVALID_SCOPE x_UNSUPPORTED_RESPONSE_TYPE x_INVALID_TOKEN x_ACCESS_DENIED x_INVALID_CLIENT_METADATA x_INSUFFICIENT_SCOPE x_NOT_FOUND x_CONFLICT us ss s.heap s.heap.size (Nat.le_refl _) S12 SE XE FE S_INVALID_REQUEST S_INVALID_CLIENT S_INVALID_GRANT S_UNAUTHORIZED_CLIENT S_UNSUPPORTED_GRANT_TYPE S_INVALID_SCOPE S_UNSUPPORTED_RESPONSE_TYPE S_INVALID_TOKEN S_ACCESS_DENIED S_INVALID_CLIENT_METADATA S_INSUFFICIENT_SCOPE S_NOT_FOUND S_CONFLICT S_us S_ss (Old.start s) c17 hl rus rss XE.lt tables_1 p e ha hc hk s m _ below hf ((Spec.applies_iff_loose hf).mp happ).1 ⟨rfl, State.Warmed39.refl s, rfl⟩ ⟨MethodsKnown_of_tablesKnown hcalls.2.1, FramesKnown_of_framesKnown hcalls.1 hf⟩
  refine ⟨n, _, h1, h2, h3, hpost _ _ _ _ _ _ ⟨Cond.after_iff.mpr rfl, Cond.after_iff.mpr (eq_i res_at (Term.int_eval (1)) rfl), trivial⟩ ⟨hq.1, hq.2.1, (hq.2.2.sift fun y hy => Or.inr (N y hy)).mono (by decide) (by decide)⟩⟩
theorem main_1_1 : Claimed_1_1 := comes_1 fun _ _ _ _ _ _ h hF => ⟨h.1, hF⟩
theorem main_1_2 : Claimed_1_2 := comes_1 fun _ _ _ _ _ _ h hF => ⟨h.2.1, hF⟩
end Jvm.Pilot.@@N@@
namespace Jvm.Pilot.@@N@@
open Jvm Jvm.ClassFile Sem Op Lib Jvm.Free Jvm.Stand Jvm.Pilot.@@N@@.Jvm.D
/-! MADE BY PROGRAM (witnessworld.py) out of the Statement's table words and the real class files: 39 classes; the members and pool entries that the words name. The judged class is class 1, her method 2. -/
namespace start1
open Jvm.ClassFile
def u (s : String) : CpInfo := .utf8 (stringToUtf16 s)
/-- a pool by its gaps: so many unusable entries, then the entry; so many at the end -/
def gap : Nat → List CpInfo → List CpInfo
  | 0, r => r
  | n + 1, r => .unusable :: gap n r
def poolList (es : List (Nat × CpInfo)) (last : Nat) : List CpInfo := es.foldr (fun e r => gap e.1 (e.2 :: r)) (gap last [])
def pool (es : List (Nat × CpInfo)) (last : Nat) : Array CpInfo := ⟨poolList es last⟩
def fileOf (pool : Array CpInfo) (this : Nat) (attrs : Array Attribute := #[]) (ms : Array MethodInfo := #[]) (fl : Nat := 33) (sup : Nat := 0) (ifs : Array Nat := #[]) (fds : Array FieldInfo := #[]) : ClassFile where
  minorVersion := 0
  majorVersion := 65
  constantPool := pool
  accessFlags := fl
  thisClass := this
  superClass := sup
  interfaces := ifs
  fields := fds
  methods := ms
  attributes := attrs
def plain (name : String) (sup : Option ClassId) : Class where
  name := name
  kind := .ordinary
  loader := none
  accessFlags := 33
  super := sup
  interfaces := #[]
  cf := none
  fields := #[]
  methods := #[]
  instanceTypes := #[]
  staticTypes := #[]
  resolved := #[]
  callSites := []
  init := .initialized
  statics := none
  mirror := none

def pool0 : Array CpInfo := pool [(5, u "<init>"), (0, u "()V"), (1, .class_ 10), (1, u "java/lang/Object")] 113

def k0c0 : Code := { maxStack := 0, maxLocals := 1, code := object_method_1_code, exceptionTable := #[], attributes := #[] }
def k0m0 : Method := { name := "<init>", desc := "()V", sig := { parameters := [], returnType := none }, accessFlags := 1, code := some k0c0 }
/-- java/lang/Object -/
def k0 : Class := { plain "java/lang/Object" none with
  accessFlags := 33
  interfaces := #[]
  cf := some (fileOf pool0 8 #[] #[{ accessFlags := 1, nameIndex := 5, descriptorIndex := 6, attributes := #[] }] 33 0 #[] #[])
  fields := #[]
  methods := #[k0m0]
  instanceTypes := #[]
  staticTypes := #[]
  resolved := Array.replicate 124 none
  statics := none }

def pool1 : Array CpInfo := pool [(2, .class_ 4), (1, u "java/lang/Object"), (0, u "<init>"), (0, u "()V"), (0, .integer 2147483647), (0, .fieldref 9 10), (0, .class_ 11), (0, .nameAndType 12 13), (0, u "com/example/zonegrant/zonegrant/service/OAuthError"), (0, u "INVALID_REQUEST"), (0, u "Lcom/example/zonegrant/zonegrant/service/OAuthError;"), (0, .fieldref 9 15), (0, .nameAndType 16 13), (0, u "INVALID_CLIENT"), (0, .fieldref 9 18), (0, .nameAndType 19 13), (0, u "INVALID_GRANT"), (0, .fieldref 9 21), (0, .nameAndType 22 13), (0, u "UNAUTHORIZED_CLIENT"), (0, .fieldref 9 24), (0, .nameAndType 25 13), (0, u "UNSUPPORTED_GRANT_TYPE"), (0, .fieldref 9 27), (0, .nameAndType 28 13), (0, u "INVALID_SCOPE"), (0, .fieldref 9 30), (0, .nameAndType 31 13), (0, u "UNSUPPORTED_RESPONSE_TYPE"), (0, .fieldref 9 33), (0, .nameAndType 34 13), (0, u "INVALID_TOKEN"), (0, .fieldref 9 36), (0, .nameAndType 37 13), (0, u "ACCESS_DENIED"), (0, .fieldref 9 39), (0, .nameAndType 40 13), (0, u "INVALID_CLIENT_METADATA"), (0, .fieldref 9 42), (0, .nameAndType 43 13), (0, u "INSUFFICIENT_SCOPE"), (0, .fieldref 9 45), (0, .nameAndType 46 13), (0, u "NOT_FOUND"), (0, .fieldref 9 48), (0, .nameAndType 49 13), (0, u "CONFLICT"), (0, .methodref 51 52), (0, .class_ 53), (0, .nameAndType 54 55), (0, u "com/example/zonegrant/zonegrant/service/OAuthExceptionRetryAfterPinLaw"), (0, u "pick"), (0, u "(I)Lcom/example/zonegrant/zonegrant/service/OAuthError;"), (0, .class_ 57), (0, u "java/lang/String"), (0, .methodref 56 59), (0, .nameAndType 5 60), (0, u "([C)V"), (2, .long 9223372036854775807), (1, .methodref 66 67), (0, .class_ 68), (0, .nameAndType 69 70), (0, u "java/lang/Math"), (0, u "max"), (0, u "(JJ)J"), (0, .class_ 72), (0, u "com/example/zonegrant/zonegrant/service/OAuthException"), (0, .methodref 71 74), (0, .nameAndType 5 75), (0, u "(Lcom/example/zonegrant/zonegrant/service/OAuthError;Ljava/lang/String;J)V"), (0, .methodref 71 77), (0, .nameAndType 5 78), (0, u "(Lcom/example/zonegrant/zonegrant/service/OAuthError;Ljava/lang/String;)V"), (0, .methodref 71 80), (0, .nameAndType 81 82), (0, u "retryAfter"), (0, u "()Ljava/util/OptionalLong;"), (0, .methodref 84 85), (0, .class_ 86), (0, .nameAndType 87 88), (0, u "java/util/OptionalLong"), (0, u "isPresent"), (0, u "()Z"), (0, .methodref 84 90), (0, .nameAndType 91 92), (0, u "getAsLong"), (0, u "()J"), (3, u "law"), (0, u "(IIJI)Z")] 4

def k1m0 : Method := { name := "<init>", desc := "()V", sig := { parameters := [], returnType := none }, accessFlags := 1, code := none }
def k1c1 : Code := { maxStack := 2, maxLocals := 2, code := method_2_code, exceptionTable := #[], attributes := #[] }
def k1m1 : Method := { name := "pick", desc := "(I)Lcom/example/zonegrant/zonegrant/service/OAuthError;", sig := { parameters := [.int], returnType := some (.object "com/example/zonegrant/zonegrant/service/OAuthError") }, accessFlags := 10, code := some k1c1 }
def k1c2 : Code := { maxStack := 6, maxLocals := 13, code := code, exceptionTable := #[], attributes := #[] }
def k1m2 : Method := { name := "law", desc := "(IIJI)Z", sig := { parameters := [.int, .int, .long, .int], returnType := some .boolean }, accessFlags := 9, code := some k1c2 }
/-- com/example/zonegrant/zonegrant/service/OAuthExceptionRetryAfterPinLaw -/
def k1 : Class := { plain "com/example/zonegrant/zonegrant/service/OAuthExceptionRetryAfterPinLaw" (some 0) with
  accessFlags := 49
  interfaces := #[]
  cf := some (fileOf pool1 51 #[] #[{ accessFlags := 1, nameIndex := 5, descriptorIndex := 6, attributes := #[] }, { accessFlags := 10, nameIndex := 54, descriptorIndex := 55, attributes := #[] }, { accessFlags := 9, nameIndex := 96, descriptorIndex := 97, attributes := #[] }] 49 2 #[] #[])
  fields := #[]
  methods := #[k1m0, k1m1, k1m2]
  instanceTypes := #[]
  staticTypes := #[]
  resolved := Array.replicate 102 none
  statics := none }

def pool2 : Array CpInfo := pool [(1, .class_ 2), (0, u "java/lang/constant/Constable"), (0, .class_ 4), (0, u "java/lang/Object")] 6

/-- java/lang/constant/Constable -/
def k2 : Class := { plain "java/lang/constant/Constable" (some 0) with
  accessFlags := 1537
  interfaces := #[]
  cf := some (fileOf pool2 1 #[] #[] 1537 3 #[] #[])
  fields := #[]
  methods := #[]
  instanceTypes := #[]
  staticTypes := #[]
  resolved := Array.replicate 11 none
  statics := none }

def pool3 : Array CpInfo := pool [(1, .class_ 2), (0, u "java/lang/Comparable"), (0, .class_ 4), (0, u "java/lang/Object")] 7

/-- java/lang/Comparable -/
def k3 : Class := { plain "java/lang/Comparable" (some 0) with
  accessFlags := 1537
  interfaces := #[]
  cf := some (fileOf pool3 1 #[] #[] 1537 3 #[] #[])
  fields := #[]
  methods := #[]
  instanceTypes := #[]
  staticTypes := #[]
  resolved := Array.replicate 12 none
  statics := none }

def pool4 : Array CpInfo := pool [(1, .class_ 2), (0, u "java/io/Serializable"), (0, .class_ 4), (0, u "java/lang/Object")] 2

/-- java/io/Serializable -/
def k4 : Class := { plain "java/io/Serializable" (some 0) with
  accessFlags := 1537
  interfaces := #[]
  cf := some (fileOf pool4 1 #[] #[] 1537 3 #[] #[])
  fields := #[]
  methods := #[]
  instanceTypes := #[]
  staticTypes := #[]
  resolved := Array.replicate 7 none
  statics := none }

def pool5 : Array CpInfo := pool [(2, .class_ 4), (1, u "java/lang/Enum"), (0, u "name"), (0, u "Ljava/lang/String;"), (2, u "ordinal"), (0, u "I"), (1, .class_ 14), (1, u "java/lang/Object"), (4, u "hash"), (86, .class_ 108), (1, u "java/lang/Enum$EnumDesc"), (2, .class_ 112), (0, u "java/lang/constant/Constable"), (0, .class_ 114), (0, u "java/lang/Comparable"), (0, .class_ 116), (0, u "java/io/Serializable")] 87

/-- java/lang/Enum -/
def k5 : Class := { plain "java/lang/Enum" (some 0) with
  accessFlags := 1057
  interfaces := #[2, 3, 4]
  cf := some (fileOf pool5 2 #[.nestMembers #[106]] #[] 1057 12 #[111, 113, 115] #[{ accessFlags := 18, nameIndex := 5, descriptorIndex := 6, attributes := #[] }, { accessFlags := 18, nameIndex := 9, descriptorIndex := 10, attributes := #[] }, { accessFlags := 2, nameIndex := 19, descriptorIndex := 10, attributes := #[] }])
  fields := #[{ name := "name", type := (.object "java/lang/String"), accessFlags := 18, slot := 0, constantValue := 0 }, { name := "ordinal", type := .int, accessFlags := 18, slot := 1, constantValue := 0 }, { name := "hash", type := .int, accessFlags := 2, slot := 2, constantValue := 0 }]
  methods := #[]
  instanceTypes := #[(.object "java/lang/String"), .int, .int]
  staticTypes := #[]
  resolved := Array.replicate 204 none
  statics := none }

def pool6 : Array CpInfo := pool [(1, .class_ 2), (0, u "com/example/zonegrant/zonegrant/service/OAuthError"), (2, u "INVALID_REQUEST"), (0, u "Lcom/example/zonegrant/zonegrant/service/OAuthError;"), (2, u "INVALID_CLIENT"), (2, u "INVALID_GRANT"), (2, u "UNAUTHORIZED_CLIENT"), (2, u "UNSUPPORTED_GRANT_TYPE"), (2, u "INVALID_SCOPE"), (2, u "UNSUPPORTED_RESPONSE_TYPE"), (2, u "INVALID_TOKEN"), (2, u "ACCESS_DENIED"), (2, u "INVALID_CLIENT_METADATA"), (2, u "INSUFFICIENT_SCOPE"), (2, u "NOT_FOUND"), (2, u "CONFLICT"), (2, u "$VALUES"), (0, u "[Lcom/example/zonegrant/zonegrant/service/OAuthError;"), (6, .class_ 55), (1, u "java/lang/Enum"), (8, u "status"), (0, u "I")] 50

/-- com/example/zonegrant/zonegrant/service/OAuthError -/
def k6 : Class := { plain "com/example/zonegrant/zonegrant/service/OAuthError" (some 5) with
  accessFlags := 16433
  interfaces := #[]
  cf := some (fileOf pool6 1 #[] #[] 16433 53 #[] #[{ accessFlags := 16409, nameIndex := 5, descriptorIndex := 6, attributes := #[] }, { accessFlags := 16409, nameIndex := 9, descriptorIndex := 6, attributes := #[] }, { accessFlags := 16409, nameIndex := 12, descriptorIndex := 6, attributes := #[] }, { accessFlags := 16409, nameIndex := 15, descriptorIndex := 6, attributes := #[] }, { accessFlags := 16409, nameIndex := 18, descriptorIndex := 6, attributes := #[] }, { accessFlags := 16409, nameIndex := 21, descriptorIndex := 6, attributes := #[] }, { accessFlags := 16409, nameIndex := 24, descriptorIndex := 6, attributes := #[] }, { accessFlags := 16409, nameIndex := 27, descriptorIndex := 6, attributes := #[] }, { accessFlags := 16409, nameIndex := 30, descriptorIndex := 6, attributes := #[] }, { accessFlags := 16409, nameIndex := 33, descriptorIndex := 6, attributes := #[] }, { accessFlags := 16409, nameIndex := 36, descriptorIndex := 6, attributes := #[] }, { accessFlags := 16409, nameIndex := 39, descriptorIndex := 6, attributes := #[] }, { accessFlags := 16409, nameIndex := 42, descriptorIndex := 6, attributes := #[] }, { accessFlags := 18, nameIndex := 64, descriptorIndex := 65, attributes := #[] }, { accessFlags := 4122, nameIndex := 45, descriptorIndex := 46, attributes := #[] }])
  fields := #[{ name := "INVALID_REQUEST", type := (.object "com/example/zonegrant/zonegrant/service/OAuthError"), accessFlags := 16409, slot := 0, constantValue := 0 }, { name := "INVALID_CLIENT", type := (.object "com/example/zonegrant/zonegrant/service/OAuthError"), accessFlags := 16409, slot := 1, constantValue := 0 }, { name := "INVALID_GRANT", type := (.object "com/example/zonegrant/zonegrant/service/OAuthError"), accessFlags := 16409, slot := 2, constantValue := 0 }, { name := "UNAUTHORIZED_CLIENT", type := (.object "com/example/zonegrant/zonegrant/service/OAuthError"), accessFlags := 16409, slot := 3, constantValue := 0 }, { name := "UNSUPPORTED_GRANT_TYPE", type := (.object "com/example/zonegrant/zonegrant/service/OAuthError"), accessFlags := 16409, slot := 4, constantValue := 0 }, { name := "INVALID_SCOPE", type := (.object "com/example/zonegrant/zonegrant/service/OAuthError"), accessFlags := 16409, slot := 5, constantValue := 0 }, { name := "UNSUPPORTED_RESPONSE_TYPE", type := (.object "com/example/zonegrant/zonegrant/service/OAuthError"), accessFlags := 16409, slot := 6, constantValue := 0 }, { name := "INVALID_TOKEN", type := (.object "com/example/zonegrant/zonegrant/service/OAuthError"), accessFlags := 16409, slot := 7, constantValue := 0 }, { name := "ACCESS_DENIED", type := (.object "com/example/zonegrant/zonegrant/service/OAuthError"), accessFlags := 16409, slot := 8, constantValue := 0 }, { name := "INVALID_CLIENT_METADATA", type := (.object "com/example/zonegrant/zonegrant/service/OAuthError"), accessFlags := 16409, slot := 9, constantValue := 0 }, { name := "INSUFFICIENT_SCOPE", type := (.object "com/example/zonegrant/zonegrant/service/OAuthError"), accessFlags := 16409, slot := 10, constantValue := 0 }, { name := "NOT_FOUND", type := (.object "com/example/zonegrant/zonegrant/service/OAuthError"), accessFlags := 16409, slot := 11, constantValue := 0 }, { name := "CONFLICT", type := (.object "com/example/zonegrant/zonegrant/service/OAuthError"), accessFlags := 16409, slot := 12, constantValue := 0 }, { name := "status", type := .int, accessFlags := 18, slot := 3, constantValue := 0 }, { name := "$VALUES", type := (.array (.object "com/example/zonegrant/zonegrant/service/OAuthError")), accessFlags := 4122, slot := 13, constantValue := 0 }]
  methods := #[]
  instanceTypes := #[(.object "java/lang/String"), .int, .int, .int]
  staticTypes := #[(.object "com/example/zonegrant/zonegrant/service/OAuthError"), (.object "com/example/zonegrant/zonegrant/service/OAuthError"), (.object "com/example/zonegrant/zonegrant/service/OAuthError"), (.object "com/example/zonegrant/zonegrant/service/OAuthError"), (.object "com/example/zonegrant/zonegrant/service/OAuthError"), (.object "com/example/zonegrant/zonegrant/service/OAuthError"), (.object "com/example/zonegrant/zonegrant/service/OAuthError"), (.object "com/example/zonegrant/zonegrant/service/OAuthError"), (.object "com/example/zonegrant/zonegrant/service/OAuthError"), (.object "com/example/zonegrant/zonegrant/service/OAuthError"), (.object "com/example/zonegrant/zonegrant/service/OAuthError"), (.object "com/example/zonegrant/zonegrant/service/OAuthError"), (.object "com/example/zonegrant/zonegrant/service/OAuthError"), (.array (.object "com/example/zonegrant/zonegrant/service/OAuthError"))]
  resolved := Array.replicate 116 none
  statics := some 0 }

def pool7 : Array CpInfo := pool [(2, .class_ 4), (1, u "java/lang/CharSequence"), (42, .class_ 48), (0, u "java/lang/CharSequence$1CodePointIterator"), (10, .class_ 60), (0, u "java/lang/CharSequence$1CharIterator"), (5, .class_ 67), (0, u "java/lang/Object")] 63

/-- java/lang/CharSequence -/
def k7 : Class := { plain "java/lang/CharSequence" (some 0) with
  accessFlags := 1537
  interfaces := #[]
  cf := some (fileOf pool7 2 #[.nestMembers #[47, 59]] #[] 1537 66 #[] #[])
  fields := #[]
  methods := #[]
  instanceTypes := #[]
  staticTypes := #[]
  resolved := Array.replicate 131 none
  statics := none }

def pool8 : Array CpInfo := pool [(1, .class_ 2), (0, u "java/lang/constant/ConstantDesc"), (0, .class_ 4), (0, u "java/lang/Object")] 32

/-- java/lang/constant/ConstantDesc -/
def k8 : Class := { plain "java/lang/constant/ConstantDesc" (some 0) with
  accessFlags := 1537
  interfaces := #[]
  cf := some (fileOf pool8 1 #[] #[] 1537 3 #[] #[])
  fields := #[]
  methods := #[]
  instanceTypes := #[]
  staticTypes := #[]
  resolved := Array.replicate 37 none
  statics := none }

def pool9 : Array CpInfo := pool [(1, .methodref 2 3), (0, .class_ 4), (0, .nameAndType 5 6), (0, u "java/lang/Object"), (0, u "<init>"), (0, u "()V"), (2, .fieldref 10 11), (0, .class_ 12), (0, .nameAndType 13 14), (0, u "java/lang/String"), (0, u "value"), (0, u "[B"), (0, .fieldref 10 16), (0, .nameAndType 17 18), (0, u "coder"), (0, u "B"), (2, u "hash"), (0, u "I"), (2, u "hashIsZero"), (0, u "Z"), (0, .methodref 10 28), (0, .nameAndType 5 29), (0, u "([CIILjava/lang/Void;)V"), (8, .fieldref 10 39), (0, .nameAndType 40 26), (0, u "COMPACT_STRINGS"), (1, .class_ 44), (1, u "java/lang/StringUTF16"), (0, u "compress"), (1, .methodref 42 48), (0, .nameAndType 49 50), (0, u "coderFromArrayLen"), (0, u "([BI)B"), (126, .methodref 42 178), (0, .nameAndType 45 179), (0, u "([CII)[B"), (395, .class_ 576), (0, u "java/lang/CharSequence"), (22, u "CASE_INSENSITIVE_ORDER"), (0, u "Ljava/util/Comparator;"), (409, u "([C)V"), (90, u "serialPersistentFields"), (0, u "[Ljava/io/ObjectStreamField;"), (0, .class_ 1104), (0, u "java/lang/String$CaseInsensitiveComparator"), (1, .class_ 1107), (0, u "java/io/Serializable"), (0, .class_ 1109), (0, u "java/lang/Comparable"), (0, .class_ 1111), (0, u "java/lang/constant/Constable"), (0, .class_ 1113), (0, u "java/lang/constant/ConstantDesc"), (2, u "serialVersionUID"), (0, u "J"), (3, u "REPL"), (0, u "C"), (2, u "LATIN1"), (1, u "UTF16")] 323

def k9m0 : Method := { name := "<init>", desc := "()V", sig := { parameters := [], returnType := none }, accessFlags := 1, code := none }
def k9c1 : Code := { maxStack := 5, maxLocals := 2, code := jdk_42_method_3_code, exceptionTable := #[], attributes := #[] }
def k9m1 : Method := { name := "<init>", desc := "([C)V", sig := { parameters := [(.array .char)], returnType := none }, accessFlags := 1, code := some k9c1 }
def k9c2 : Code := { maxStack := 4, maxLocals := 6, code := jdk_42_method_149_code, exceptionTable := #[], attributes := #[] }
def k9m2 : Method := { name := "<init>", desc := "([CIILjava/lang/Void;)V", sig := { parameters := [(.array .char), .int, .int, (.object "java/lang/Void")], returnType := none }, accessFlags := 2, code := some k9c2 }
/-- java/lang/String -/
def k9 : Class := { plain "java/lang/String" (some 0) with
  accessFlags := 49
  interfaces := #[4, 3, 7, 2, 8]
  cf := some (fileOf pool9 10 #[.nestMembers #[1103]] #[{ accessFlags := 1, nameIndex := 5, descriptorIndex := 6, attributes := #[] }, { accessFlags := 1, nameIndex := 5, descriptorIndex := 1010, attributes := #[] }, { accessFlags := 2, nameIndex := 5, descriptorIndex := 29, attributes := #[] }] 49 2 #[1106, 1108, 575, 1110, 1112] #[{ accessFlags := 18, nameIndex := 13, descriptorIndex := 14, attributes := #[] }, { accessFlags := 18, nameIndex := 17, descriptorIndex := 18, attributes := #[] }, { accessFlags := 2, nameIndex := 21, descriptorIndex := 22, attributes := #[] }, { accessFlags := 2, nameIndex := 25, descriptorIndex := 26, attributes := #[] }, { accessFlags := 26, nameIndex := 1116, descriptorIndex := 1117, attributes := #[] }, { accessFlags := 24, nameIndex := 40, descriptorIndex := 26, attributes := #[] }, { accessFlags := 26, nameIndex := 1101, descriptorIndex := 1102, attributes := #[] }, { accessFlags := 26, nameIndex := 1121, descriptorIndex := 1122, attributes := #[] }, { accessFlags := 25, nameIndex := 599, descriptorIndex := 600, attributes := #[] }, { accessFlags := 24, nameIndex := 1125, descriptorIndex := 18, attributes := #[] }, { accessFlags := 24, nameIndex := 1127, descriptorIndex := 18, attributes := #[] }])
  fields := #[{ name := "value", type := (.array .byte), accessFlags := 18, slot := 0, constantValue := 0 }, { name := "coder", type := .byte, accessFlags := 18, slot := 1, constantValue := 0 }, { name := "hash", type := .int, accessFlags := 2, slot := 2, constantValue := 0 }, { name := "hashIsZero", type := .boolean, accessFlags := 2, slot := 3, constantValue := 0 }, { name := "serialVersionUID", type := .long, accessFlags := 26, slot := 0, constantValue := 0 }, { name := "COMPACT_STRINGS", type := .boolean, accessFlags := 24, slot := 1, constantValue := 0 }, { name := "serialPersistentFields", type := (.array (.object "java/io/ObjectStreamField")), accessFlags := 26, slot := 2, constantValue := 0 }, { name := "REPL", type := .char, accessFlags := 26, slot := 3, constantValue := 0 }, { name := "CASE_INSENSITIVE_ORDER", type := (.object "java/util/Comparator"), accessFlags := 25, slot := 4, constantValue := 0 }, { name := "LATIN1", type := .byte, accessFlags := 24, slot := 5, constantValue := 0 }, { name := "UTF16", type := .byte, accessFlags := 24, slot := 6, constantValue := 0 }]
  methods := #[k9m0, k9m1, k9m2]
  instanceTypes := #[(.array .byte), .byte, .int, .boolean]
  staticTypes := #[.long, .boolean, (.array (.object "java/io/ObjectStreamField")), .char, (.object "java/util/Comparator"), .byte, .byte]
  resolved := Array.replicate 1451 none
  statics := some 1 }

def pool10 : Array CpInfo := pool [(6, .class_ 8), (1, u "java/lang/Object"), (0, u "<init>"), (0, u "()V"), (1, .class_ 14), (1, u "java/lang/StringUTF16"), (31, u "$assertionsDisabled"), (0, u "Z"), (13, u "HI_BYTE_SHIFT"), (0, u "I"), (2, u "LO_BYTE_SHIFT"), (49, .methodref 12 116), (0, .nameAndType 117 118), (0, u "compress"), (0, u "([CI[BII)I"), (3, u "([CII)[B"), (138, u "coderFromArrayLen"), (0, u "([BI)B"), (106, .class_ 371), (1, u "java/lang/StringUTF16$LinesSpliterator"), (58, u "MAX_LENGTH"), (196, .class_ 628), (0, u "java/lang/StringUTF16$CodePointsSpliterator"), (0, .class_ 630), (0, u "java/lang/StringUTF16$CharsSpliterator")] 4

def k10m0 : Method := { name := "<init>", desc := "()V", sig := { parameters := [], returnType := none }, accessFlags := 0, code := none }
def k10c1 : Code := { maxStack := 2, maxLocals := 2, code := jdk_52_method_15_code, exceptionTable := #[], attributes := #[] }
def k10m1 : Method := { name := "coderFromArrayLen", desc := "([BI)B", sig := { parameters := [(.array .byte), .int], returnType := some .byte }, accessFlags := 8, code := some k10c1 }
def k10c2 : Code := { maxStack := 5, maxLocals := 6, code := jdk_52_method_16_code, exceptionTable := #[], attributes := #[] }
def k10m2 : Method := { name := "compress", desc := "([CII)[B", sig := { parameters := [(.array .char), .int, .int], returnType := some (.array .byte) }, accessFlags := 9, code := some k10c2 }
def k10c3 : Code := { maxStack := 3, maxLocals := 7, code := jdk_52_method_21_code, exceptionTable := #[], attributes := #[] }
def k10m3 : Method := { name := "compress", desc := "([CI[BII)I", sig := { parameters := [(.array .char), .int, (.array .byte), .int, .int], returnType := some .int }, accessFlags := 9, code := some k10c3 }
/-- java/lang/StringUTF16 -/
def k10 : Class := { plain "java/lang/StringUTF16" (some 0) with
  accessFlags := 48
  interfaces := #[]
  cf := some (fileOf pool10 12 #[.nestMembers #[627, 629, 369]] #[{ accessFlags := 0, nameIndex := 9, descriptorIndex := 10, attributes := #[] }, { accessFlags := 8, nameIndex := 261, descriptorIndex := 262, attributes := #[] }, { accessFlags := 9, nameIndex := 117, descriptorIndex := 122, attributes := #[] }, { accessFlags := 9, nameIndex := 117, descriptorIndex := 118, attributes := #[] }] 48 6 #[] #[{ accessFlags := 26, nameIndex := 61, descriptorIndex := 62, attributes := #[] }, { accessFlags := 26, nameIndex := 65, descriptorIndex := 62, attributes := #[] }, { accessFlags := 24, nameIndex := 430, descriptorIndex := 62, attributes := #[] }, { accessFlags := 4120, nameIndex := 46, descriptorIndex := 47, attributes := #[] }])
  fields := #[{ name := "HI_BYTE_SHIFT", type := .int, accessFlags := 26, slot := 0, constantValue := 0 }, { name := "LO_BYTE_SHIFT", type := .int, accessFlags := 26, slot := 1, constantValue := 0 }, { name := "MAX_LENGTH", type := .int, accessFlags := 24, slot := 2, constantValue := 0 }, { name := "$assertionsDisabled", type := .boolean, accessFlags := 4120, slot := 3, constantValue := 0 }]
  methods := #[k10m0, k10m1, k10m2, k10m3]
  instanceTypes := #[]
  staticTypes := #[.int, .int, .int, .boolean]
  resolved := Array.replicate 635 none
  statics := none }

def pool11 : Array CpInfo := pool [(1, .class_ 2), (0, u "java/lang/Math"), (1, .class_ 6), (1, u "java/lang/Object"), (0, u "<init>"), (0, u "()V"), (89, .class_ 100), (1, u "java/lang/Math$RandomNumberGeneratorHolder"), (20, u "(JJ)J"), (50, u "negativeZeroFloatBits"), (0, u "J"), (2, u "negativeZeroDoubleBits"), (21, u "max"), (46, u "$assertionsDisabled"), (0, u "Z"), (91, u "twoToTheDoubleScaleDown"), (0, u "D"), (4, u "twoToTheDoubleScaleUp"), (9, u "E"), (3, u "PI"), (2, u "TAU"), (2, u "DEGREES_TO_RADIANS"), (0, u "RADIANS_TO_DEGREES")] 94

def k11m0 : Method := { name := "<init>", desc := "()V", sig := { parameters := [], returnType := none }, accessFlags := 2, code := none }
def k11c1 : Code := { maxStack := 4, maxLocals := 4, code := jdk_29_method_66_code, exceptionTable := #[], attributes := #[] }
def k11m1 : Method := { name := "max", desc := "(JJ)J", sig := { parameters := [.long, .long], returnType := some .long }, accessFlags := 9, code := some k11c1 }
/-- java/lang/Math -/
def k11 : Class := { plain "java/lang/Math" (some 0) with
  accessFlags := 49
  interfaces := #[]
  cf := some (fileOf pool11 1 #[.nestMembers #[98]] #[{ accessFlags := 2, nameIndex := 7, descriptorIndex := 8, attributes := #[] }, { accessFlags := 9, nameIndex := 198, descriptorIndex := 121, attributes := #[] }] 49 4 #[] #[{ accessFlags := 25, nameIndex := 354, descriptorIndex := 339, attributes := #[] }, { accessFlags := 25, nameIndex := 358, descriptorIndex := 339, attributes := #[] }, { accessFlags := 25, nameIndex := 361, descriptorIndex := 339, attributes := #[] }, { accessFlags := 26, nameIndex := 364, descriptorIndex := 339, attributes := #[] }, { accessFlags := 26, nameIndex := 365, descriptorIndex := 339, attributes := #[] }, { accessFlags := 26, nameIndex := 172, descriptorIndex := 173, attributes := #[] }, { accessFlags := 26, nameIndex := 176, descriptorIndex := 173, attributes := #[] }, { accessFlags := 8, nameIndex := 344, descriptorIndex := 339, attributes := #[] }, { accessFlags := 8, nameIndex := 338, descriptorIndex := 339, attributes := #[] }, { accessFlags := 4120, nameIndex := 245, descriptorIndex := 246, attributes := #[] }])
  fields := #[{ name := "E", type := .double, accessFlags := 25, slot := 0, constantValue := 0 }, { name := "PI", type := .double, accessFlags := 25, slot := 1, constantValue := 0 }, { name := "TAU", type := .double, accessFlags := 25, slot := 2, constantValue := 0 }, { name := "DEGREES_TO_RADIANS", type := .double, accessFlags := 26, slot := 3, constantValue := 0 }, { name := "RADIANS_TO_DEGREES", type := .double, accessFlags := 26, slot := 4, constantValue := 0 }, { name := "negativeZeroFloatBits", type := .long, accessFlags := 26, slot := 5, constantValue := 0 }, { name := "negativeZeroDoubleBits", type := .long, accessFlags := 26, slot := 6, constantValue := 0 }, { name := "twoToTheDoubleScaleUp", type := .double, accessFlags := 8, slot := 7, constantValue := 0 }, { name := "twoToTheDoubleScaleDown", type := .double, accessFlags := 8, slot := 8, constantValue := 0 }, { name := "$assertionsDisabled", type := .boolean, accessFlags := 4120, slot := 9, constantValue := 0 }]
  methods := #[k11m0, k11m1]
  instanceTypes := #[]
  staticTypes := #[.double, .double, .double, .double, .double, .long, .long, .double, .double, .boolean]
  resolved := Array.replicate 460 none
  statics := none }

def pool12 : Array CpInfo := pool [(1, .methodref 2 3), (0, .class_ 4), (0, .nameAndType 5 6), (0, u "java/lang/Object"), (0, u "<init>"), (0, u "()V"), (0, .fieldref 8 9), (0, .class_ 10), (0, .nameAndType 11 12), (0, u "java/lang/Throwable"), (0, u "cause"), (0, u "Ljava/lang/Throwable;"), (0, .fieldref 8 14), (0, .nameAndType 15 16), (0, u "UNASSIGNED_STACK"), (0, u "[Ljava/lang/StackTraceElement;"), (0, .fieldref 8 18), (0, .nameAndType 19 16), (0, u "stackTrace"), (0, .fieldref 8 21), (0, .nameAndType 22 23), (0, u "SUPPRESSED_SENTINEL"), (0, u "Ljava/util/List;"), (0, .fieldref 8 25), (0, .nameAndType 26 23), (0, u "suppressedExceptions"), (0, .methodref 8 28), (0, .nameAndType 29 30), (0, u "fillInStackTrace"), (0, u "()Ljava/lang/Throwable;"), (0, .fieldref 8 32), (0, .nameAndType 33 34), (0, u "detailMessage"), (0, u "Ljava/lang/String;"), (58, .class_ 94), (0, u "java/lang/Throwable$WrappedPrintStream"), (6, .class_ 103), (1, u "java/lang/Throwable$PrintStreamOrWriter"), (61, u "$assertionsDisabled"), (0, u "Z"), (26, .class_ 194), (0, u "java/lang/Throwable$WrappedPrintWriter"), (3, .fieldref 8 199), (0, .nameAndType 200 201), (0, u "backtrace"), (0, u "Ljava/lang/Object;"), (0, .methodref 8 203), (0, .nameAndType 29 204), (0, u "(I)Ljava/lang/Throwable;"), (6, u "depth"), (0, u "I"), (10, u "(Ljava/lang/String;)V"), (45, .class_ 271), (1, u "java/lang/Throwable$SentinelHolder"), (32, u "EMPTY_THROWABLE_ARRAY"), (0, u "[Ljava/lang/Throwable;"), (12, .class_ 319), (0, u "java/io/Serializable"), (0, u "serialVersionUID"), (0, u "J"), (5, u "NULL_CAUSE_MESSAGE"), (0, u "SELF_SUPPRESSION_MESSAGE"), (0, u "CAUSE_CAPTION"), (0, u "SUPPRESSED_CAPTION")] 73

def k12c0 : Code := { maxStack := 2, maxLocals := 1, code := jdk_78_method_1_code, exceptionTable := #[], attributes := #[] }
def k12m0 : Method := { name := "<init>", desc := "()V", sig := { parameters := [], returnType := none }, accessFlags := 1, code := some k12c0 }
def k12c1 : Code := { maxStack := 2, maxLocals := 2, code := jdk_78_method_2_code, exceptionTable := #[], attributes := #[] }
def k12m1 : Method := { name := "<init>", desc := "(Ljava/lang/String;)V", sig := { parameters := [(.object "java/lang/String")], returnType := none }, accessFlags := 1, code := some k12c1 }
def k12c2 : Code := { maxStack := 2, maxLocals := 1, code := ⟨#[0x2a, 0xb4, 0x00, 0x11, 0xc7, 0x00, 0x0a, 0x2a, 0xb4, 0x00, 0xc6, 0xc6, 0x00, 0x10, 0x2a, 0x03, 0xb6, 0x00, 0xca, 0x57, 0x2a, 0xb2, 0x00, 0x0d, 0xb5, 0x00, 0x11, 0x2a, 0xb0]⟩, exceptionTable := #[], attributes := #[] }
def k12m2 : Method := { name := "fillInStackTrace", desc := "()Ljava/lang/Throwable;", sig := { parameters := [], returnType := some (.object "java/lang/Throwable") }, accessFlags := 33, code := some k12c2 }
def k12m3 : Method := { name := "fillInStackTrace", desc := "(I)Ljava/lang/Throwable;", sig := { parameters := [.int], returnType := some (.object "java/lang/Throwable") }, accessFlags := 258, code := none }
/-- java/lang/Throwable -/
def k12 : Class := { plain "java/lang/Throwable" (some 0) with
  accessFlags := 33
  interfaces := #[4]
  cf := some (fileOf pool12 8 #[.nestMembers #[193, 93, 101, 269]] #[{ accessFlags := 1, nameIndex := 5, descriptorIndex := 6, attributes := #[] }, { accessFlags := 1, nameIndex := 5, descriptorIndex := 223, attributes := #[] }, { accessFlags := 33, nameIndex := 29, descriptorIndex := 30, attributes := #[] }, { accessFlags := 258, nameIndex := 29, descriptorIndex := 204, attributes := #[] }] 33 2 #[318] #[{ accessFlags := 26, nameIndex := 320, descriptorIndex := 321, attributes := #[] }, { accessFlags := 130, nameIndex := 200, descriptorIndex := 201, attributes := #[] }, { accessFlags := 2, nameIndex := 33, descriptorIndex := 34, attributes := #[] }, { accessFlags := 26, nameIndex := 15, descriptorIndex := 16, attributes := #[] }, { accessFlags := 2, nameIndex := 11, descriptorIndex := 12, attributes := #[] }, { accessFlags := 2, nameIndex := 19, descriptorIndex := 16, attributes := #[] }, { accessFlags := 130, nameIndex := 211, descriptorIndex := 212, attributes := #[] }, { accessFlags := 26, nameIndex := 22, descriptorIndex := 23, attributes := #[] }, { accessFlags := 2, nameIndex := 26, descriptorIndex := 23, attributes := #[] }, { accessFlags := 26, nameIndex := 327, descriptorIndex := 34, attributes := #[] }, { accessFlags := 26, nameIndex := 328, descriptorIndex := 34, attributes := #[] }, { accessFlags := 26, nameIndex := 329, descriptorIndex := 34, attributes := #[] }, { accessFlags := 26, nameIndex := 330, descriptorIndex := 34, attributes := #[] }, { accessFlags := 26, nameIndex := 304, descriptorIndex := 305, attributes := #[] }, { accessFlags := 4120, nameIndex := 165, descriptorIndex := 166, attributes := #[] }])
  fields := #[{ name := "serialVersionUID", type := .long, accessFlags := 26, slot := 0, constantValue := 0 }, { name := "backtrace", type := (.object "java/lang/Object"), accessFlags := 130, slot := 0, constantValue := 0 }, { name := "detailMessage", type := (.object "java/lang/String"), accessFlags := 2, slot := 1, constantValue := 0 }, { name := "UNASSIGNED_STACK", type := (.array (.object "java/lang/StackTraceElement")), accessFlags := 26, slot := 1, constantValue := 0 }, { name := "cause", type := (.object "java/lang/Throwable"), accessFlags := 2, slot := 2, constantValue := 0 }, { name := "stackTrace", type := (.array (.object "java/lang/StackTraceElement")), accessFlags := 2, slot := 3, constantValue := 0 }, { name := "depth", type := .int, accessFlags := 130, slot := 4, constantValue := 0 }, { name := "SUPPRESSED_SENTINEL", type := (.object "java/util/List"), accessFlags := 26, slot := 2, constantValue := 0 }, { name := "suppressedExceptions", type := (.object "java/util/List"), accessFlags := 2, slot := 5, constantValue := 0 }, { name := "NULL_CAUSE_MESSAGE", type := (.object "java/lang/String"), accessFlags := 26, slot := 3, constantValue := 0 }, { name := "SELF_SUPPRESSION_MESSAGE", type := (.object "java/lang/String"), accessFlags := 26, slot := 4, constantValue := 0 }, { name := "CAUSE_CAPTION", type := (.object "java/lang/String"), accessFlags := 26, slot := 5, constantValue := 0 }, { name := "SUPPRESSED_CAPTION", type := (.object "java/lang/String"), accessFlags := 26, slot := 6, constantValue := 0 }, { name := "EMPTY_THROWABLE_ARRAY", type := (.array (.object "java/lang/Throwable")), accessFlags := 26, slot := 7, constantValue := 0 }, { name := "$assertionsDisabled", type := .boolean, accessFlags := 4120, slot := 8, constantValue := 0 }]
  methods := #[k12m0, k12m1, k12m2, k12m3]
  instanceTypes := #[(.object "java/lang/Object"), (.object "java/lang/String"), (.object "java/lang/Throwable"), (.array (.object "java/lang/StackTraceElement")), .int, (.object "java/util/List")]
  staticTypes := #[.long, (.array (.object "java/lang/StackTraceElement")), (.object "java/util/List"), (.object "java/lang/String"), (.object "java/lang/String"), (.object "java/lang/String"), (.object "java/lang/String"), (.array (.object "java/lang/Throwable")), .boolean]
  resolved := Array.replicate 404 none
  statics := some 2 }

def pool13 : Array CpInfo := pool [(2, .class_ 4), (1, u "java/lang/Throwable"), (0, u "<init>"), (0, u "()V"), (0, .methodref 2 8), (0, .nameAndType 5 9), (0, u "(Ljava/lang/String;)V"), (9, .class_ 20), (0, u "java/lang/Exception"), (0, u "serialVersionUID"), (0, u "J")] 17

def k13m0 : Method := { name := "<init>", desc := "()V", sig := { parameters := [], returnType := none }, accessFlags := 1, code := none }
def k13c1 : Code := { maxStack := 2, maxLocals := 2, code := jdk_59_method_2_code, exceptionTable := #[], attributes := #[] }
def k13m1 : Method := { name := "<init>", desc := "(Ljava/lang/String;)V", sig := { parameters := [(.object "java/lang/String")], returnType := none }, accessFlags := 1, code := some k13c1 }
/-- java/lang/Exception -/
def k13 : Class := { plain "java/lang/Exception" (some 12) with
  accessFlags := 33
  interfaces := #[]
  cf := some (fileOf pool13 19 #[] #[{ accessFlags := 1, nameIndex := 5, descriptorIndex := 6, attributes := #[] }, { accessFlags := 1, nameIndex := 5, descriptorIndex := 9, attributes := #[] }] 33 2 #[] #[{ accessFlags := 24, nameIndex := 21, descriptorIndex := 22, attributes := #[] }])
  fields := #[{ name := "serialVersionUID", type := .long, accessFlags := 24, slot := 0, constantValue := 0 }]
  methods := #[k13m0, k13m1]
  instanceTypes := #[(.object "java/lang/Object"), (.object "java/lang/String"), (.object "java/lang/Throwable"), (.array (.object "java/lang/StackTraceElement")), .int, (.object "java/util/List")]
  staticTypes := #[.long]
  resolved := Array.replicate 40 none
  statics := none }

def pool14 : Array CpInfo := pool [(1, .methodref 2 3), (0, .class_ 4), (0, .nameAndType 5 6), (0, u "java/lang/Exception"), (0, u "<init>"), (0, u "(Ljava/lang/String;)V"), (0, .fieldref 8 9), (0, .class_ 10), (0, .nameAndType 11 12), (0, u "com/example/zonegrant/zonegrant/service/OAuthException"), (0, u "error"), (0, u "Lcom/example/zonegrant/zonegrant/service/OAuthError;"), (0, .fieldref 8 14), (0, .nameAndType 15 16), (0, u "retryAfter"), (0, u "J"), (0, .methodref 18 19), (0, .class_ 20), (0, .nameAndType 21 22), (0, u "java/util/OptionalLong"), (0, u "empty"), (0, u "()Ljava/util/OptionalLong;"), (0, .methodref 18 24), (0, .nameAndType 25 26), (0, u "of"), (0, u "(J)Ljava/util/OptionalLong;"), (0, u "serialVersionUID"), (3, u "(Lcom/example/zonegrant/zonegrant/service/OAuthError;Ljava/lang/String;)V"), (2, u "(Lcom/example/zonegrant/zonegrant/service/OAuthError;Ljava/lang/String;J)V")] 4

def k14c0 : Code := { maxStack := 3, maxLocals := 3, code := prog_16_method_1_code, exceptionTable := #[], attributes := #[] }
def k14m0 : Method := { name := "<init>", desc := "(Lcom/example/zonegrant/zonegrant/service/OAuthError;Ljava/lang/String;)V", sig := { parameters := [(.object "com/example/zonegrant/zonegrant/service/OAuthError"), (.object "java/lang/String")], returnType := none }, accessFlags := 1, code := some k14c0 }
def k14c1 : Code := { maxStack := 3, maxLocals := 5, code := prog_16_method_2_code, exceptionTable := #[], attributes := #[] }
def k14m1 : Method := { name := "<init>", desc := "(Lcom/example/zonegrant/zonegrant/service/OAuthError;Ljava/lang/String;J)V", sig := { parameters := [(.object "com/example/zonegrant/zonegrant/service/OAuthError"), (.object "java/lang/String"), .long], returnType := none }, accessFlags := 1, code := some k14c1 }
def k14c2 : Code := { maxStack := 4, maxLocals := 1, code := prog_16_method_4_code, exceptionTable := #[], attributes := #[] }
def k14m2 : Method := { name := "retryAfter", desc := "()Ljava/util/OptionalLong;", sig := { parameters := [], returnType := some (.object "java/util/OptionalLong") }, accessFlags := 1, code := some k14c2 }
/-- com/example/zonegrant/zonegrant/service/OAuthException -/
def k14 : Class := { plain "com/example/zonegrant/zonegrant/service/OAuthException" (some 13) with
  accessFlags := 49
  interfaces := #[]
  cf := some (fileOf pool14 8 #[] #[{ accessFlags := 1, nameIndex := 5, descriptorIndex := 31, attributes := #[] }, { accessFlags := 1, nameIndex := 5, descriptorIndex := 34, attributes := #[] }, { accessFlags := 1, nameIndex := 15, descriptorIndex := 22, attributes := #[] }] 49 2 #[] #[{ accessFlags := 26, nameIndex := 27, descriptorIndex := 16, attributes := #[] }, { accessFlags := 18, nameIndex := 11, descriptorIndex := 12, attributes := #[] }, { accessFlags := 18, nameIndex := 15, descriptorIndex := 16, attributes := #[] }])
  fields := #[{ name := "serialVersionUID", type := .long, accessFlags := 26, slot := 0, constantValue := 0 }, { name := "error", type := (.object "com/example/zonegrant/zonegrant/service/OAuthError"), accessFlags := 18, slot := 6, constantValue := 0 }, { name := "retryAfter", type := .long, accessFlags := 18, slot := 7, constantValue := 0 }]
  methods := #[k14m0, k14m1, k14m2]
  instanceTypes := #[(.object "java/lang/Object"), (.object "java/lang/String"), (.object "java/lang/Throwable"), (.array (.object "java/lang/StackTraceElement")), .int, (.object "java/util/List"), (.object "com/example/zonegrant/zonegrant/service/OAuthError"), .long]
  staticTypes := #[.long]
  resolved := Array.replicate 39 none
  statics := none }

def pool15 : Array CpInfo := pool [(1, .methodref 2 3), (0, .class_ 4), (0, .nameAndType 5 6), (0, u "java/lang/Object"), (0, u "<init>"), (0, u "()V"), (0, .fieldref 8 9), (0, .class_ 10), (0, .nameAndType 11 12), (0, u "java/util/OptionalLong"), (0, u "isPresent"), (0, u "Z"), (0, .fieldref 8 14), (0, .nameAndType 15 16), (0, u "value"), (0, u "J"), (0, .fieldref 8 18), (0, .nameAndType 19 20), (0, u "EMPTY"), (0, u "Ljava/util/OptionalLong;"), (0, .methodref 8 22), (0, .nameAndType 5 23), (0, u "(J)V"), (21, u "of"), (3, u "empty"), (5, u "getAsLong"), (0, u "()J"), (39, u "()Ljava/util/OptionalLong;"), (0, u "(J)Ljava/util/OptionalLong;"), (1, u "()Z")] 38

def k15m0 : Method := { name := "<init>", desc := "()V", sig := { parameters := [], returnType := none }, accessFlags := 2, code := none }
def k15c1 : Code := { maxStack := 1, maxLocals := 0, code := jdk_2650_method_2_code, exceptionTable := #[], attributes := #[] }
def k15m1 : Method := { name := "empty", desc := "()Ljava/util/OptionalLong;", sig := { parameters := [], returnType := some (.object "java/util/OptionalLong") }, accessFlags := 9, code := some k15c1 }
def k15c2 : Code := { maxStack := 3, maxLocals := 3, code := jdk_2650_method_3_code, exceptionTable := #[], attributes := #[] }
def k15m2 : Method := { name := "<init>", desc := "(J)V", sig := { parameters := [.long], returnType := none }, accessFlags := 2, code := some k15c2 }
def k15c3 : Code := { maxStack := 4, maxLocals := 2, code := jdk_2650_method_4_code, exceptionTable := #[], attributes := #[] }
def k15m3 : Method := { name := "of", desc := "(J)Ljava/util/OptionalLong;", sig := { parameters := [.long], returnType := some (.object "java/util/OptionalLong") }, accessFlags := 9, code := some k15c3 }
def k15c4 : Code := { maxStack := 3, maxLocals := 1, code := jdk_2650_method_5_code, exceptionTable := #[], attributes := #[] }
def k15m4 : Method := { name := "getAsLong", desc := "()J", sig := { parameters := [], returnType := some .long }, accessFlags := 1, code := some k15c4 }
def k15c5 : Code := { maxStack := 1, maxLocals := 1, code := jdk_2650_method_6_code, exceptionTable := #[], attributes := #[] }
def k15m5 : Method := { name := "isPresent", desc := "()Z", sig := { parameters := [], returnType := some .boolean }, accessFlags := 1, code := some k15c5 }
/-- java/util/OptionalLong -/
def k15 : Class := { plain "java/util/OptionalLong" (some 0) with
  accessFlags := 49
  interfaces := #[]
  cf := some (fileOf pool15 8 #[] #[{ accessFlags := 2, nameIndex := 5, descriptorIndex := 6, attributes := #[] }, { accessFlags := 9, nameIndex := 49, descriptorIndex := 96, attributes := #[] }, { accessFlags := 2, nameIndex := 5, descriptorIndex := 23, attributes := #[] }, { accessFlags := 9, nameIndex := 45, descriptorIndex := 97, attributes := #[] }, { accessFlags := 1, nameIndex := 55, descriptorIndex := 56, attributes := #[] }, { accessFlags := 1, nameIndex := 11, descriptorIndex := 99, attributes := #[] }] 49 2 #[] #[{ accessFlags := 26, nameIndex := 19, descriptorIndex := 20, attributes := #[] }, { accessFlags := 18, nameIndex := 11, descriptorIndex := 12, attributes := #[] }, { accessFlags := 18, nameIndex := 15, descriptorIndex := 16, attributes := #[] }])
  fields := #[{ name := "EMPTY", type := (.object "java/util/OptionalLong"), accessFlags := 26, slot := 0, constantValue := 0 }, { name := "isPresent", type := .boolean, accessFlags := 18, slot := 0, constantValue := 0 }, { name := "value", type := .long, accessFlags := 18, slot := 1, constantValue := 0 }]
  methods := #[k15m0, k15m1, k15m2, k15m3, k15m4, k15m5]
  instanceTypes := #[.boolean, .long]
  staticTypes := #[(.object "java/util/OptionalLong")]
  resolved := Array.replicate 138 none
  statics := some 3 }

def pool16 : Array CpInfo := pool [(4, .class_ 6), (1, u "java/lang/Object"), (0, u "<init>"), (0, u "()V"), (5, .class_ 16), (1, u "java/lang/StringLatin1"), (104, u "$assertionsDisabled"), (0, u "Z"), (98, .class_ 223), (1, u "java/lang/StringLatin1$LinesSpliterator"), (166, .class_ 391), (0, u "java/lang/StringLatin1$CharsSpliterator")] 3

def k16m0 : Method := { name := "<init>", desc := "()V", sig := { parameters := [], returnType := none }, accessFlags := 0, code := none }
/-- java/lang/StringLatin1 -/
def k16 : Class := { plain "java/lang/StringLatin1" (some 0) with
  accessFlags := 48
  interfaces := #[]
  cf := some (fileOf pool16 14 #[.nestMembers #[390, 221]] #[{ accessFlags := 0, nameIndex := 7, descriptorIndex := 8, attributes := #[] }] 48 4 #[] #[{ accessFlags := 4120, nameIndex := 121, descriptorIndex := 122, attributes := #[] }])
  fields := #[{ name := "$assertionsDisabled", type := .boolean, accessFlags := 4120, slot := 0, constantValue := 0 }]
  methods := #[k16m0]
  instanceTypes := #[]
  staticTypes := #[.boolean]
  resolved := Array.replicate 395 none
  statics := none }

def pool17 : Array CpInfo := pool [(2, .class_ 4), (1, u "java/lang/Object"), (0, u "<init>"), (0, u "()V"), (17, .class_ 26), (1, u "jdk/internal/util/Preconditions"), (28, .class_ 56), (0, u "jdk/internal/util/Preconditions$4"), (57, .class_ 115), (0, u "jdk/internal/util/Preconditions$1"), (7, u "SIOOBE_FORMATTER"), (0, u "Ljava/util/function/BiFunction;"), (0, .class_ 126), (0, u "jdk/internal/util/Preconditions$2"), (3, u "AIOOBE_FORMATTER"), (0, .class_ 132), (0, u "jdk/internal/util/Preconditions$3"), (3, u "IOOBE_FORMATTER")] 57

def k17m0 : Method := { name := "<init>", desc := "()V", sig := { parameters := [], returnType := none }, accessFlags := 1, code := none }
/-- jdk/internal/util/Preconditions -/
def k17 : Class := { plain "jdk/internal/util/Preconditions" (some 0) with
  accessFlags := 33
  interfaces := #[]
  cf := some (fileOf pool17 24 #[.nestMembers #[55, 131, 125, 114]] #[{ accessFlags := 1, nameIndex := 5, descriptorIndex := 6, attributes := #[] }] 33 2 #[] #[{ accessFlags := 25, nameIndex := 123, descriptorIndex := 124, attributes := #[] }, { accessFlags := 25, nameIndex := 130, descriptorIndex := 124, attributes := #[] }, { accessFlags := 25, nameIndex := 136, descriptorIndex := 124, attributes := #[] }])
  fields := #[{ name := "SIOOBE_FORMATTER", type := (.object "java/util/function/BiFunction"), accessFlags := 25, slot := 0, constantValue := 0 }, { name := "AIOOBE_FORMATTER", type := (.object "java/util/function/BiFunction"), accessFlags := 25, slot := 1, constantValue := 0 }, { name := "IOOBE_FORMATTER", type := (.object "java/util/function/BiFunction"), accessFlags := 25, slot := 2, constantValue := 0 }]
  methods := #[k17m0]
  instanceTypes := #[]
  staticTypes := #[(.object "java/util/function/BiFunction"), (.object "java/util/function/BiFunction"), (.object "java/util/function/BiFunction")]
  resolved := Array.replicate 194 none
  statics := some 4 }

def pool18 : Array CpInfo := pool [(9, u "<init>"), (6, .class_ 18), (1, u "java/lang/Object"), (0, u "()V"), (1, .class_ 23), (1, u "jdk/internal/util/ArraysSupport"), (0, u "LOG2_ARRAY_LONG_INDEX_SCALE"), (0, u "I"), (2, u "U"), (0, u "Ljdk/internal/misc/Unsafe;"), (8, u "BIG_ENDIAN"), (0, u "Z"), (8, u "LOG2_BYTE_BIT_SIZE"), (4, u "LOG2_ARRAY_INT_INDEX_SCALE"), (54, u "JLA"), (0, u "Ljdk/internal/access/JavaLangAccess;"), (11, u "LOG2_ARRAY_BOOLEAN_INDEX_SCALE"), (9, u "LOG2_ARRAY_BYTE_INDEX_SCALE"), (5, u "LOG2_ARRAY_CHAR_INDEX_SCALE"), (5, u "LOG2_ARRAY_SHORT_INDEX_SCALE"), (18, u "LOG2_ARRAY_FLOAT_INDEX_SCALE"), (24, u "LOG2_ARRAY_DOUBLE_INDEX_SCALE"), (89, u "T_BOOLEAN"), (2, u "T_CHAR"), (1, u "T_FLOAT"), (1, u "T_DOUBLE"), (1, u "T_BYTE"), (1, u "T_SHORT"), (1, u "T_INT"), (1, u "T_LONG"), (1, u "SOFT_MAX_ARRAY_LENGTH")] 83

def k18m0 : Method := { name := "<init>", desc := "()V", sig := { parameters := [], returnType := none }, accessFlags := 2, code := none }
/-- jdk/internal/util/ArraysSupport -/
def k18 : Class := { plain "jdk/internal/util/ArraysSupport" (some 0) with
  accessFlags := 33
  interfaces := #[]
  cf := some (fileOf pool18 21 #[] #[{ accessFlags := 2, nameIndex := 9, descriptorIndex := 19, attributes := #[] }] 33 16 #[] #[{ accessFlags := 24, nameIndex := 28, descriptorIndex := 29, attributes := #[] }, { accessFlags := 26, nameIndex := 38, descriptorIndex := 39, attributes := #[] }, { accessFlags := 25, nameIndex := 121, descriptorIndex := 25, attributes := #[] }, { accessFlags := 25, nameIndex := 131, descriptorIndex := 25, attributes := #[] }, { accessFlags := 25, nameIndex := 137, descriptorIndex := 25, attributes := #[] }, { accessFlags := 25, nameIndex := 143, descriptorIndex := 25, attributes := #[] }, { accessFlags := 25, nameIndex := 53, descriptorIndex := 25, attributes := #[] }, { accessFlags := 25, nameIndex := 24, descriptorIndex := 25, attributes := #[] }, { accessFlags := 25, nameIndex := 162, descriptorIndex := 25, attributes := #[] }, { accessFlags := 25, nameIndex := 187, descriptorIndex := 25, attributes := #[] }, { accessFlags := 26, nameIndex := 48, descriptorIndex := 25, attributes := #[] }, { accessFlags := 25, nameIndex := 277, descriptorIndex := 25, attributes := #[] }, { accessFlags := 25, nameIndex := 280, descriptorIndex := 25, attributes := #[] }, { accessFlags := 25, nameIndex := 282, descriptorIndex := 25, attributes := #[] }, { accessFlags := 25, nameIndex := 284, descriptorIndex := 25, attributes := #[] }, { accessFlags := 25, nameIndex := 286, descriptorIndex := 25, attributes := #[] }, { accessFlags := 25, nameIndex := 288, descriptorIndex := 25, attributes := #[] }, { accessFlags := 25, nameIndex := 290, descriptorIndex := 25, attributes := #[] }, { accessFlags := 25, nameIndex := 292, descriptorIndex := 25, attributes := #[] }, { accessFlags := 26, nameIndex := 108, descriptorIndex := 109, attributes := #[] }, { accessFlags := 25, nameIndex := 294, descriptorIndex := 25, attributes := #[] }])
  fields := #[{ name := "U", type := (.object "jdk/internal/misc/Unsafe"), accessFlags := 24, slot := 0, constantValue := 0 }, { name := "BIG_ENDIAN", type := .boolean, accessFlags := 26, slot := 1, constantValue := 0 }, { name := "LOG2_ARRAY_BOOLEAN_INDEX_SCALE", type := .int, accessFlags := 25, slot := 2, constantValue := 0 }, { name := "LOG2_ARRAY_BYTE_INDEX_SCALE", type := .int, accessFlags := 25, slot := 3, constantValue := 0 }, { name := "LOG2_ARRAY_CHAR_INDEX_SCALE", type := .int, accessFlags := 25, slot := 4, constantValue := 0 }, { name := "LOG2_ARRAY_SHORT_INDEX_SCALE", type := .int, accessFlags := 25, slot := 5, constantValue := 0 }, { name := "LOG2_ARRAY_INT_INDEX_SCALE", type := .int, accessFlags := 25, slot := 6, constantValue := 0 }, { name := "LOG2_ARRAY_LONG_INDEX_SCALE", type := .int, accessFlags := 25, slot := 7, constantValue := 0 }, { name := "LOG2_ARRAY_FLOAT_INDEX_SCALE", type := .int, accessFlags := 25, slot := 8, constantValue := 0 }, { name := "LOG2_ARRAY_DOUBLE_INDEX_SCALE", type := .int, accessFlags := 25, slot := 9, constantValue := 0 }, { name := "LOG2_BYTE_BIT_SIZE", type := .int, accessFlags := 26, slot := 10, constantValue := 0 }, { name := "T_BOOLEAN", type := .int, accessFlags := 25, slot := 11, constantValue := 0 }, { name := "T_CHAR", type := .int, accessFlags := 25, slot := 12, constantValue := 0 }, { name := "T_FLOAT", type := .int, accessFlags := 25, slot := 13, constantValue := 0 }, { name := "T_DOUBLE", type := .int, accessFlags := 25, slot := 14, constantValue := 0 }, { name := "T_BYTE", type := .int, accessFlags := 25, slot := 15, constantValue := 0 }, { name := "T_SHORT", type := .int, accessFlags := 25, slot := 16, constantValue := 0 }, { name := "T_INT", type := .int, accessFlags := 25, slot := 17, constantValue := 0 }, { name := "T_LONG", type := .int, accessFlags := 25, slot := 18, constantValue := 0 }, { name := "JLA", type := (.object "jdk/internal/access/JavaLangAccess"), accessFlags := 26, slot := 19, constantValue := 0 }, { name := "SOFT_MAX_ARRAY_LENGTH", type := .int, accessFlags := 25, slot := 20, constantValue := 0 }]
  methods := #[k18m0]
  instanceTypes := #[]
  staticTypes := #[(.object "jdk/internal/misc/Unsafe"), .boolean, .int, .int, .int, .int, .int, .int, .int, .int, .int, .int, .int, .int, .int, .int, .int, .int, .int, (.object "jdk/internal/access/JavaLangAccess"), .int]
  resolved := Array.replicate 378 none
  statics := none }

def pool19 : Array CpInfo := pool [(2, .class_ 4), (1, u "java/lang/Object"), (0, u "<init>"), (0, u "()V"), (12, .class_ 20), (0, u "java/util/Collections"), (63, u "r"), (0, u "Ljava/util/Random;"), (80, .class_ 167), (0, u "java/util/Collections$UnmodifiableCollection"), (6, .class_ 175), (0, u "java/util/Collections$UnmodifiableSequencedCollection"), (6, .class_ 183), (0, u "java/util/Collections$UnmodifiableSet"), (6, .class_ 191), (0, u "java/util/Collections$UnmodifiableSequencedSet"), (6, .class_ 199), (0, u "java/util/Collections$UnmodifiableSortedSet"), (6, .class_ 207), (0, u "java/util/Collections$UnmodifiableNavigableSet"), (4, .class_ 213), (0, u "java/util/Collections$UnmodifiableList"), (1, .class_ 216), (0, u "java/util/Collections$UnmodifiableRandomAccessList"), (6, .class_ 224), (0, u "java/util/Collections$UnmodifiableMap"), (6, .class_ 232), (0, u "java/util/Collections$UnmodifiableSequencedMap"), (4, .class_ 238), (0, u "java/util/Collections$UnmodifiableSortedMap"), (6, .class_ 246), (0, u "java/util/Collections$UnmodifiableNavigableMap"), (3, .class_ 251), (0, u "java/util/Collections$SynchronizedCollection"), (4, .class_ 257), (0, u "java/util/Collections$SynchronizedSet"), (4, .class_ 263), (0, u "java/util/Collections$SynchronizedSortedSet"), (1, .class_ 266), (0, u "java/util/Collections$SynchronizedNavigableSet"), (1, .class_ 269), (0, u "java/util/Collections$SynchronizedRandomAccessList"), (1, .class_ 272), (0, u "java/util/Collections$SynchronizedList"), (5, .class_ 279), (0, u "java/util/Collections$SynchronizedMap"), (1, .class_ 282), (0, u "java/util/Collections$SynchronizedSortedMap"), (1, .class_ 285), (0, u "java/util/Collections$SynchronizedNavigableMap"), (1, .class_ 288), (0, u "java/util/Collections$CheckedCollection"), (11, .class_ 301), (0, u "java/util/Collections$CheckedQueue"), (3, .class_ 306), (0, u "java/util/Collections$CheckedSet"), (3, .class_ 311), (0, u "java/util/Collections$CheckedSortedSet"), (3, .class_ 316), (0, u "java/util/Collections$CheckedNavigableSet"), (3, .class_ 321), (0, u "java/util/Collections$CheckedRandomAccessList"), (3, .class_ 326), (0, u "java/util/Collections$CheckedList"), (1, .class_ 329), (0, u "java/util/Collections$CheckedMap"), (3, .class_ 334), (0, u "java/util/Collections$CheckedSortedMap"), (3, .class_ 339), (0, u "java/util/Collections$CheckedNavigableMap"), (4, .class_ 346), (1, u "java/util/Collections$EmptyIterator"), (3, .class_ 352), (1, u "java/util/Collections$EmptyListIterator"), (2, .class_ 357), (1, u "java/util/Collections$EmptyEnumeration"), (4, u "EMPTY_SET"), (0, u "Ljava/util/Set;"), (6, u "EMPTY_LIST"), (0, u "Ljava/util/List;"), (2, u "EMPTY_MAP"), (0, u "Ljava/util/Map;"), (4, .class_ 381), (0, u "java/util/Collections$SingletonSet"), (2, .class_ 385), (0, u "java/util/Collections$1"), (1, .class_ 388), (0, u "java/util/Collections$2"), (1, .class_ 391), (0, u "java/util/Collections$SingletonList"), (1, .class_ 394), (0, u "java/util/Collections$SingletonMap"), (22, .class_ 418), (0, u "java/util/Collections$CopiesList"), (4, .class_ 425), (1, u "java/util/Collections$ReverseComparator"), (8, .class_ 435), (0, u "java/util/Collections$ReverseComparator2"), (6, .class_ 443), (0, u "java/util/Collections$3"), (25, .class_ 470), (0, u "java/util/Collections$SetFromMap"), (2, .class_ 474), (0, u "java/util/Collections$SequencedSetFromMap"), (3, .class_ 479), (0, u "java/util/Collections$AsLIFOQueue"), (11, .class_ 492), (0, u "java/util/Collections$EmptySet"), (1, .class_ 495), (0, u "java/util/Collections$EmptyList"), (1, .class_ 498), (0, u "java/util/Collections$EmptyMap"), (1, u "BINARYSEARCH_THRESHOLD"), (0, u "I"), (2, u "REVERSE_THRESHOLD"), (1, u "SHUFFLE_THRESHOLD"), (1, u "FILL_THRESHOLD"), (1, u "ROTATE_THRESHOLD"), (1, u "COPY_THRESHOLD"), (1, u "REPLACEALL_THRESHOLD"), (1, u "INDEXOFSUBLIST_THRESHOLD"), (333, .class_ 851), (0, u "java/util/Collections$CheckedMap$CheckedEntrySet"), (0, .class_ 853), (0, u "java/util/Collections$CheckedMap$CheckedEntrySet$CheckedEntry"), (0, .class_ 855), (0, u "java/util/Collections$CheckedMap$CheckedEntrySet$1"), (0, .class_ 857), (0, u "java/util/Collections$CheckedList$1"), (0, .class_ 859), (0, u "java/util/Collections$CheckedCollection$1"), (0, .class_ 861), (0, u "java/util/Collections$UnmodifiableNavigableMap$EmptyNavigableMap"), (0, .class_ 863), (0, u "java/util/Collections$UnmodifiableMap$UnmodifiableEntrySet"), (0, .class_ 865), (0, u "java/util/Collections$UnmodifiableMap$UnmodifiableEntrySet$UnmodifiableEntry"), (0, .class_ 867), (0, u "java/util/Collections$UnmodifiableMap$UnmodifiableEntrySet$UnmodifiableEntrySetSpliterator"), (0, .class_ 869), (0, u "java/util/Collections$UnmodifiableMap$UnmodifiableEntrySet$1"), (0, .class_ 871), (0, u "java/util/Collections$UnmodifiableList$1"), (0, .class_ 873), (0, u "java/util/Collections$UnmodifiableNavigableSet$EmptyNavigableSet"), (0, .class_ 875), (0, u "java/util/Collections$UnmodifiableCollection$1")] 57

def k19m0 : Method := { name := "<init>", desc := "()V", sig := { parameters := [], returnType := none }, accessFlags := 2, code := none }
/-- java/util/Collections -/
def k19 : Class := { plain "java/util/Collections" (some 0) with
  accessFlags := 33
  interfaces := #[]
  cf := some (fileOf pool19 19 #[.nestMembers #[478, 473, 469, 434, 423, 417, 393, 390, 380, 497, 494, 491, 355, 350, 344, 338, 333, 328, 850, 852, 854, 320, 325, 856, 315, 310, 305, 300, 287, 858, 284, 281, 278, 268, 271, 265, 262, 256, 250, 245, 860, 237, 231, 223, 862, 864, 866, 868, 215, 212, 870, 206, 872, 198, 190, 182, 174, 166, 874, 442, 387, 384]] #[{ accessFlags := 2, nameIndex := 5, descriptorIndex := 6, attributes := #[] }] 33 2 #[] #[{ accessFlags := 26, nameIndex := 500, descriptorIndex := 501, attributes := #[] }, { accessFlags := 26, nameIndex := 504, descriptorIndex := 501, attributes := #[] }, { accessFlags := 26, nameIndex := 506, descriptorIndex := 501, attributes := #[] }, { accessFlags := 26, nameIndex := 508, descriptorIndex := 501, attributes := #[] }, { accessFlags := 26, nameIndex := 510, descriptorIndex := 501, attributes := #[] }, { accessFlags := 26, nameIndex := 512, descriptorIndex := 501, attributes := #[] }, { accessFlags := 26, nameIndex := 514, descriptorIndex := 501, attributes := #[] }, { accessFlags := 26, nameIndex := 516, descriptorIndex := 501, attributes := #[] }, { accessFlags := 10, nameIndex := 84, descriptorIndex := 85, attributes := #[] }, { accessFlags := 25, nameIndex := 362, descriptorIndex := 363, attributes := #[] }, { accessFlags := 25, nameIndex := 370, descriptorIndex := 371, attributes := #[] }, { accessFlags := 25, nameIndex := 374, descriptorIndex := 375, attributes := #[] }])
  fields := #[{ name := "BINARYSEARCH_THRESHOLD", type := .int, accessFlags := 26, slot := 0, constantValue := 0 }, { name := "REVERSE_THRESHOLD", type := .int, accessFlags := 26, slot := 1, constantValue := 0 }, { name := "SHUFFLE_THRESHOLD", type := .int, accessFlags := 26, slot := 2, constantValue := 0 }, { name := "FILL_THRESHOLD", type := .int, accessFlags := 26, slot := 3, constantValue := 0 }, { name := "ROTATE_THRESHOLD", type := .int, accessFlags := 26, slot := 4, constantValue := 0 }, { name := "COPY_THRESHOLD", type := .int, accessFlags := 26, slot := 5, constantValue := 0 }, { name := "REPLACEALL_THRESHOLD", type := .int, accessFlags := 26, slot := 6, constantValue := 0 }, { name := "INDEXOFSUBLIST_THRESHOLD", type := .int, accessFlags := 26, slot := 7, constantValue := 0 }, { name := "r", type := (.object "java/util/Random"), accessFlags := 10, slot := 8, constantValue := 0 }, { name := "EMPTY_SET", type := (.object "java/util/Set"), accessFlags := 25, slot := 9, constantValue := 0 }, { name := "EMPTY_LIST", type := (.object "java/util/List"), accessFlags := 25, slot := 10, constantValue := 0 }, { name := "EMPTY_MAP", type := (.object "java/util/Map"), accessFlags := 25, slot := 11, constantValue := 0 }]
  methods := #[k19m0]
  instanceTypes := #[]
  staticTypes := #[.int, .int, .int, .int, .int, .int, .int, .int, (.object "java/util/Random"), (.object "java/util/Set"), (.object "java/util/List"), (.object "java/util/Map")]
  resolved := Array.replicate 933 none
  statics := some 5 }

def pool20 : Array CpInfo := pool [(8, .class_ 10), (1, u "java/lang/Iterable"), (24, .class_ 36), (0, u "java/lang/Object")] 25

/-- java/lang/Iterable -/
def k20 : Class := { plain "java/lang/Iterable" (some 0) with
  accessFlags := 1537
  interfaces := #[]
  cf := some (fileOf pool20 8 #[] #[] 1537 35 #[] #[])
  fields := #[]
  methods := #[]
  instanceTypes := #[]
  staticTypes := #[]
  resolved := Array.replicate 62 none
  statics := none }

def pool21 : Array CpInfo := pool [(10, .class_ 12), (1, u "java/util/Collection"), (47, .class_ 61), (0, u "java/lang/Object"), (0, .class_ 63), (0, u "java/lang/Iterable")] 51

/-- java/util/Collection -/
def k21 : Class := { plain "java/util/Collection" (some 0) with
  accessFlags := 1537
  interfaces := #[20]
  cf := some (fileOf pool21 10 #[] #[] 1537 60 #[62] #[])
  fields := #[]
  methods := #[]
  instanceTypes := #[]
  staticTypes := #[]
  resolved := Array.replicate 115 none
  statics := none }

def pool22 : Array CpInfo := pool [(2, .class_ 4), (1, u "java/lang/Object"), (0, u "<init>"), (0, u "()V"), (1, .class_ 10), (1, u "java/util/AbstractCollection"), (66, .class_ 78), (0, u "java/util/Collection")] 81

def k22m0 : Method := { name := "<init>", desc := "()V", sig := { parameters := [], returnType := none }, accessFlags := 4, code := none }
/-- java/util/AbstractCollection -/
def k22 : Class := { plain "java/util/AbstractCollection" (some 0) with
  accessFlags := 1057
  interfaces := #[21]
  cf := some (fileOf pool22 8 #[] #[{ accessFlags := 4, nameIndex := 5, descriptorIndex := 6, attributes := #[] }] 1057 2 #[77] #[])
  fields := #[]
  methods := #[k22m0]
  instanceTypes := #[]
  staticTypes := #[]
  resolved := Array.replicate 160 none
  statics := none }

def pool23 : Array CpInfo := pool [(8, .class_ 10), (1, u "java/util/SequencedCollection"), (15, .class_ 27), (0, u "java/lang/Object"), (0, .class_ 29), (0, u "java/util/Collection")] 27

/-- java/util/SequencedCollection -/
def k23 : Class := { plain "java/util/SequencedCollection" (some 0) with
  accessFlags := 1537
  interfaces := #[21]
  cf := some (fileOf pool23 8 #[] #[] 1537 26 #[28] #[])
  fields := #[]
  methods := #[]
  instanceTypes := #[]
  staticTypes := #[]
  resolved := Array.replicate 57 none
  statics := none }

def pool24 : Array CpInfo := pool [(8, .class_ 10), (1, u "java/util/List"), (92, .class_ 104), (0, u "java/lang/Object"), (15, .class_ 121), (0, u "java/util/SequencedCollection")] 129

/-- java/util/List -/
def k24 : Class := { plain "java/util/List" (some 0) with
  accessFlags := 1537
  interfaces := #[23]
  cf := some (fileOf pool24 8 #[] #[] 1537 103 #[120] #[])
  fields := #[]
  methods := #[]
  instanceTypes := #[]
  staticTypes := #[]
  resolved := Array.replicate 251 none
  statics := none }

def pool25 : Array CpInfo := pool [(2, .class_ 4), (1, u "java/util/AbstractCollection"), (0, u "<init>"), (0, u "()V"), (1, .class_ 10), (1, u "java/util/AbstractList"), (0, u "modCount"), (0, u "I"), (64, .class_ 78), (0, u "java/util/AbstractList$Itr"), (3, .class_ 83), (0, u "java/util/AbstractList$ListItr"), (9, .class_ 94), (0, u "java/util/AbstractList$RandomAccessSubList"), (3, .class_ 99), (0, u "java/util/AbstractList$SubList"), (33, .class_ 134), (0, u "java/util/List"), (73, .class_ 209), (0, u "java/util/AbstractList$SubList$1"), (0, .class_ 211), (0, u "java/util/AbstractList$RandomAccessSpliterator")] 6

def k25m0 : Method := { name := "<init>", desc := "()V", sig := { parameters := [], returnType := none }, accessFlags := 4, code := none }
/-- java/util/AbstractList -/
def k25 : Class := { plain "java/util/AbstractList" (some 22) with
  accessFlags := 1057
  interfaces := #[24]
  cf := some (fileOf pool25 8 #[.nestMembers #[93, 98, 208, 210, 82, 77]] #[{ accessFlags := 4, nameIndex := 5, descriptorIndex := 6, attributes := #[] }] 1057 2 #[133] #[{ accessFlags := 132, nameIndex := 11, descriptorIndex := 12, attributes := #[] }])
  fields := #[{ name := "modCount", type := .int, accessFlags := 132, slot := 0, constantValue := 0 }]
  methods := #[k25m0]
  instanceTypes := #[.int]
  staticTypes := #[]
  resolved := Array.replicate 218 none
  statics := none }

def pool26 : Array CpInfo := pool [(1, .class_ 2), (0, u "java/util/RandomAccess"), (0, .class_ 4), (0, u "java/lang/Object")] 2

/-- java/util/RandomAccess -/
def k26 : Class := { plain "java/util/RandomAccess" (some 0) with
  accessFlags := 1537
  interfaces := #[]
  cf := some (fileOf pool26 1 #[] #[] 1537 3 #[] #[])
  fields := #[]
  methods := #[]
  instanceTypes := #[]
  staticTypes := #[]
  resolved := Array.replicate 7 none
  statics := none }

def pool27 : Array CpInfo := pool [(2, .class_ 4), (1, u "java/util/AbstractList"), (0, u "<init>"), (0, u "()V"), (1, .class_ 10), (1, u "java/util/Collections"), (54, .class_ 66), (0, u "java/util/Collections$EmptyList"), (0, .class_ 68), (0, u "java/util/RandomAccess"), (0, .class_ 70), (0, u "java/io/Serializable"), (0, u "serialVersionUID"), (0, u "J")] 77

def k27m0 : Method := { name := "<init>", desc := "()V", sig := { parameters := [], returnType := none }, accessFlags := 2, code := none }
/-- java/util/Collections$EmptyList -/
def k27 : Class := { plain "java/util/Collections$EmptyList" (some 25) with
  accessFlags := 32
  interfaces := #[26, 4]
  cf := some (fileOf pool27 65 #[.nestHost 8] #[{ accessFlags := 2, nameIndex := 5, descriptorIndex := 6, attributes := #[] }] 32 2 #[67, 69] #[{ accessFlags := 26, nameIndex := 71, descriptorIndex := 72, attributes := #[] }])
  fields := #[{ name := "serialVersionUID", type := .long, accessFlags := 26, slot := 0, constantValue := 0 }]
  methods := #[k27m0]
  instanceTypes := #[.int]
  staticTypes := #[.long]
  resolved := Array.replicate 150 none
  statics := none }

def pool28 : Array CpInfo := pool [(2, .class_ 4), (1, u "java/lang/StackTraceElement"), (0, u "<init>"), (2, .class_ 10), (1, u "java/lang/Object"), (0, u "()V"), (2, u "format"), (0, u "B"), (2, u "classLoaderName"), (0, u "Ljava/lang/String;"), (2, u "moduleName"), (2, u "moduleVersion"), (12, u "declaringClass"), (4, u "methodName"), (2, u "fileName"), (2, u "lineNumber"), (0, u "I"), (65, u "declaringClassObject"), (0, u "Ljava/lang/Class;"), (33, .class_ 153), (1, u "java/lang/StackTraceElement$HashedModules"), (17, .class_ 172), (0, u "java/io/Serializable"), (0, u "NATIVE_METHOD"), (1, u "UNKNOWN_SOURCE"), (2, u "BUILTIN_CLASS_LOADER"), (1, u "JDK_NON_UPGRADEABLE_MODULE"), (1, u "serialVersionUID"), (0, u "J")] 51

def k28m0 : Method := { name := "<init>", desc := "()V", sig := { parameters := [], returnType := none }, accessFlags := 2, code := none }
/-- java/lang/StackTraceElement -/
def k28 : Class := { plain "java/lang/StackTraceElement" (some 0) with
  accessFlags := 49
  interfaces := #[4]
  cf := some (fileOf pool28 2 #[.nestMembers #[151]] #[{ accessFlags := 2, nameIndex := 5, descriptorIndex := 11, attributes := #[] }] 49 8 #[171] #[{ accessFlags := 26, nameIndex := 173, descriptorIndex := 19, attributes := #[] }, { accessFlags := 26, nameIndex := 175, descriptorIndex := 19, attributes := #[] }, { accessFlags := 130, nameIndex := 116, descriptorIndex := 117, attributes := #[] }, { accessFlags := 2, nameIndex := 18, descriptorIndex := 19, attributes := #[] }, { accessFlags := 2, nameIndex := 22, descriptorIndex := 19, attributes := #[] }, { accessFlags := 2, nameIndex := 25, descriptorIndex := 19, attributes := #[] }, { accessFlags := 2, nameIndex := 38, descriptorIndex := 19, attributes := #[] }, { accessFlags := 2, nameIndex := 43, descriptorIndex := 19, attributes := #[] }, { accessFlags := 2, nameIndex := 46, descriptorIndex := 19, attributes := #[] }, { accessFlags := 2, nameIndex := 49, descriptorIndex := 50, attributes := #[] }, { accessFlags := 2, nameIndex := 14, descriptorIndex := 15, attributes := #[] }, { accessFlags := 26, nameIndex := 178, descriptorIndex := 15, attributes := #[] }, { accessFlags := 26, nameIndex := 180, descriptorIndex := 15, attributes := #[] }, { accessFlags := 26, nameIndex := 182, descriptorIndex := 183, attributes := #[] }])
  fields := #[{ name := "NATIVE_METHOD", type := (.object "java/lang/String"), accessFlags := 26, slot := 0, constantValue := 0 }, { name := "UNKNOWN_SOURCE", type := (.object "java/lang/String"), accessFlags := 26, slot := 1, constantValue := 0 }, { name := "declaringClassObject", type := (.object "java/lang/Class"), accessFlags := 130, slot := 0, constantValue := 0 }, { name := "classLoaderName", type := (.object "java/lang/String"), accessFlags := 2, slot := 1, constantValue := 0 }, { name := "moduleName", type := (.object "java/lang/String"), accessFlags := 2, slot := 2, constantValue := 0 }, { name := "moduleVersion", type := (.object "java/lang/String"), accessFlags := 2, slot := 3, constantValue := 0 }, { name := "declaringClass", type := (.object "java/lang/String"), accessFlags := 2, slot := 4, constantValue := 0 }, { name := "methodName", type := (.object "java/lang/String"), accessFlags := 2, slot := 5, constantValue := 0 }, { name := "fileName", type := (.object "java/lang/String"), accessFlags := 2, slot := 6, constantValue := 0 }, { name := "lineNumber", type := .int, accessFlags := 2, slot := 7, constantValue := 0 }, { name := "format", type := .byte, accessFlags := 2, slot := 8, constantValue := 0 }, { name := "BUILTIN_CLASS_LOADER", type := .byte, accessFlags := 26, slot := 2, constantValue := 0 }, { name := "JDK_NON_UPGRADEABLE_MODULE", type := .byte, accessFlags := 26, slot := 3, constantValue := 0 }, { name := "serialVersionUID", type := .long, accessFlags := 26, slot := 4, constantValue := 0 }]
  methods := #[k28m0]
  instanceTypes := #[(.object "java/lang/Class"), (.object "java/lang/String"), (.object "java/lang/String"), (.object "java/lang/String"), (.object "java/lang/String"), (.object "java/lang/String"), (.object "java/lang/String"), .int, .byte]
  staticTypes := #[(.object "java/lang/String"), (.object "java/lang/String"), .byte, .byte, .long]
  resolved := Array.replicate 235 none
  statics := none }

def pool29 : Array CpInfo := pool [(1, u "java/lang/Cloneable"), (0, .class_ 1), (0, u "java/lang/Object"), (0, .class_ 3)] 3

/-- java/lang/Cloneable -/
def k29 : Class := { plain "java/lang/Cloneable" (some 0) with
  accessFlags := 1537
  interfaces := #[]
  cf := some (fileOf pool29 2 #[] #[] 1537 4 #[] #[])
  fields := #[]
  methods := #[]
  instanceTypes := #[]
  staticTypes := #[]
  resolved := Array.replicate 8 none
  statics := none }

/-- the primitive byte -/
def k30 : Class := { plain "byte" none with kind := .primitive 'B', accessFlags := 0x411 }
/-- [B -/
def k31 : Class := { plain "[B" (some 0) with kind := .array 30 .byte, interfaces := #[29, 4], accessFlags := 1041 }

/-- the primitive char -/
def k32 : Class := { plain "char" none with kind := .primitive 'C', accessFlags := 0x411 }
/-- [C -/
def k33 : Class := { plain "[C" (some 0) with kind := .array 32 .char, interfaces := #[29, 4], accessFlags := 1041 }

/-- the primitive int -/
def k34 : Class := { plain "int" none with kind := .primitive 'I', accessFlags := 0x411 }
/-- [I -/
def k35 : Class := { plain "[I" (some 0) with kind := .array 34 .int, interfaces := #[29, 4], accessFlags := 1041 }

/-- [Ljava/lang/Object; -/
def k36 : Class := { plain "[Ljava/lang/Object;" (some 0) with kind := .array 0 (.object "java/lang/Object"), interfaces := #[29, 4], accessFlags := 1041 }

/-- [Ljava/lang/StackTraceElement; -/
def k37 : Class := { plain "[Ljava/lang/StackTraceElement;" (some 0) with kind := .array 28 (.object "java/lang/StackTraceElement"), interfaces := #[29, 4], accessFlags := 1041 }

/-- [Ljava/lang/Throwable; -/
def k38 : Class := { plain "[Ljava/lang/Throwable;" (some 0) with kind := .array 12 (.object "java/lang/Throwable"), interfaces := #[29, 4], accessFlags := 1041 }

def heap : Heap := #[{ cls := 6, slots := #[.ref 6, .ref 7, .ref 8, .ref 9, .ref 10, .ref 11, .ref 12, .ref 13, .ref 14, .ref 15, .ref 16, .ref 17, .ref 18, .null], vm := .statics 6 },
  { cls := 9, slots := #[.long 0, .int 1, .null, .int 0, .null, .int 0, .int 0], vm := .statics 9 },
  { cls := 12, slots := #[.long 0, .ref 19, .ref 20, .null, .null, .null, .null, .ref 21, .int 1], vm := .statics 12 },
  { cls := 15, slots := #[.ref 22], vm := .statics 15 },
  { cls := 17, slots := #[.null, .null, .null], vm := .statics 17 },
  { cls := 19, slots := #[.int 0, .int 0, .int 0, .int 0, .int 0, .int 0, .int 0, .int 0, .null, .null, .ref 20, .null], vm := .statics 19 },
  { cls := 6, slots := #[.null, .int 0, .int 0, .int 400], vm := .none },
  { cls := 6, slots := #[.null, .int 1, .int 0, .int 400], vm := .none },
  { cls := 6, slots := #[.null, .int 2, .int 0, .int 400], vm := .none },
  { cls := 6, slots := #[.null, .int 3, .int 0, .int 400], vm := .none },
  { cls := 6, slots := #[.null, .int 4, .int 0, .int 400], vm := .none },
  { cls := 6, slots := #[.null, .int 5, .int 0, .int 400], vm := .none },
  { cls := 6, slots := #[.null, .int 6, .int 0, .int 400], vm := .none },
  { cls := 6, slots := #[.null, .int 7, .int 0, .int 400], vm := .none },
  { cls := 6, slots := #[.null, .int 8, .int 0, .int 400], vm := .none },
  { cls := 6, slots := #[.null, .int 9, .int 0, .int 400], vm := .none },
  { cls := 6, slots := #[.null, .int 10, .int 0, .int 400], vm := .none },
  { cls := 6, slots := #[.null, .int 11, .int 0, .int 400], vm := .none },
  { cls := 6, slots := #[.null, .int 12, .int 0, .int 400], vm := .none },
  { cls := 37, slots := #[], vm := .none },
  { cls := 27, slots := #[.int 0], vm := .none },
  { cls := 38, slots := #[], vm := .none },
  { cls := 15, slots := #[.int 0, .long 0], vm := .none }]
def classes : Array Class := #[k0, k1, k2, k3, k4, k5, k6, k7, k8, k9, k10, k11, k12, k13, k14, k15, k16, k17, k18, k19, k20, k21, k22, k23, k24, k25, k26, k27, k28, k29, k30, k31, k32, k33, k34, k35, k36, k37, k38]
def interned : List (Array UInt16 × Addr) := []
def slotsUsed : Nat := 101
def theMethod : MethodId := ⟨1, 2⟩
def args0 : Array Value := #[.int 5, .int 65, .long 7, .int 1]
def aboutOver (below : List Frame) : State where
  vm := { classes := classes, interned := interned.toArray }
  heap := heap
  slotsUsed := slotsUsed
  threads := #[{ frames := .invoking theMethod args0 :: below }]
def below0 : List Frame := [.native { method := ⟨0, 0⟩, args := #[] }]
def about1 : State := aboutOver below0
def p0 : Program := .bare "" "" ""
def e0 : Env := launch0.env 0 0 0
theorem w_frames : about1.frames = Frame.invoking theMethod args0 :: below0 := rfl
set_option maxRecDepth 65536 in
theorem w_args : argsFit about1.vm theMethod args0 = true := by decide +kernel
set_option maxRecDepth 65536 in
theorem w_heap : heapFits about1 = true := by decide +kernel
set_option maxRecDepth 65536 in
theorem w_runnable : about1.curStatus? = some .runnable := by decide +kernel
set_option maxRecDepth 65536 in
theorem w_alone : about1.alone = true := by decide +kernel
set_option maxRecDepth 65536 in
theorem w_named : about1.methodNamed? x = some theMethod := by decide +kernel
set_option maxRecDepth 65536 in
theorem w_hears : about1.hears theMethod below0 = true := by decide +kernel
set_option maxRecDepth 65536 in
theorem w_ripe : about1.ripe theMethod args0 below0 = true := by decide +kernel
theorem w_running : about1.status = .running := rfl
set_option maxRecDepth 65536 in
theorem w_room : about1.hasRoom e0.platform room_1 = true :=
  launch0.hasRoom_least _ room_1 (by decide +kernel) (by decide +kernel) (by decide +kernel) (by decide +kernel) (by decide +kernel) (by decide +kernel)
theorem allAtoms_all (ts : List Jvm.Cond) (a : Array Jvm.Value) (st : Jvm.State) : (allAtoms ts).before a st = ts.all (fun c => c.before a st) := by
  induction ts with
  | nil => rfl
  | cons c t ih =>
    show (Jvm.Cond.and c (allAtoms t)).before a st = _
    rw [Jvm.Cond.before_and, ih, List.all_cons]
def words1 : List Jvm.Cond := Jvm.Cond.code x code maxLocals ret :: tables_1
/-- a 'code' word, met by the world's own term for the bytes: nothing is compared byte by byte -/
theorem code_word {y : MethodName} {bytes : ByteArray} {mx : Nat} {rt : Option FieldType} {a : Array Value} {s : State} {m : MethodId} {meth : Method} {c : Code} (h1 : s.methodNamed? y = some m) (h2 : s.vm.method? m = some meth) (h3 : meth.code = some c) (h4 : c.code = bytes)
    (h5 : (c.maxLocals == mx && c.exceptionTable.isEmpty && decide (c.maxStack ≤ mostOperands) && decide (meth.sig.returnType = rt) && !meth.locks && decide (parseMethodDescriptor y.desc = some meth.sig)) = true) : (Jvm.Cond.code y bytes mx rt).before a s = true := by
  simp only [Bool.and_eq_true, beq_iff_eq, Bool.not_eq_true', decide_eq_true_eq] at h5
  obtain ⟨⟨⟨⟨⟨g1, g2⟩, g3⟩, g4⟩, g5⟩, g6⟩ := h5
  simp [Cond.before, Cond.holds, Cond.value, h1, h2, h3, h4, g1, g2, g3, g4, g5, g6]
def isCode : Jvm.Cond → Bool
  | .code _ _ _ _ => true
  | _ => false
theorem all_split {L : List Jvm.Cond} {P : Jvm.Cond → Bool} (h1 : L.all (fun c => isCode c || P c) = true) (h2 : ∀ c ∈ L.filter isCode, P c = true) : L.all P = true := by
  refine List.all_eq_true.mpr fun c hc => ?_
  have h := List.all_eq_true.mp h1 c hc
  rcases Bool.eq_false_or_eq_true (isCode c) with hi | hi
  · exact h2 c (List.mem_filter.mpr ⟨hc, hi⟩)
  · simpa [hi] using h
set_option maxRecDepth 65536 in
theorem w_c0 : (Jvm.Cond.code x code maxLocals ret).before args0 about1 = true := code_word (m := ⟨1, 2⟩) (meth := k1m2) (c := k1c2) (by decide +kernel) rfl rfl rfl (by decide +kernel)
set_option maxRecDepth 65536 in
theorem w_c1 : (Jvm.Cond.code ({ cls := "com/example/zonegrant/zonegrant/service/OAuthExceptionRetryAfterPinLaw", name := "pick", desc := "(I)Lcom/example/zonegrant/zonegrant/service/OAuthError;" } : Jvm.MethodName) method_2_code (2 : Nat) (Option.some (Jvm.ClassFile.FieldType.object "com/example/zonegrant/zonegrant/service/OAuthError"))).before args0 about1 = true := code_word (m := ⟨1, 1⟩) (meth := k1m1) (c := k1c1) (by decide +kernel) rfl rfl rfl (by decide +kernel)
set_option maxRecDepth 65536 in
theorem w_c2 : (Jvm.Cond.code ({ cls := "java/lang/String", name := "<init>", desc := "([C)V" } : Jvm.MethodName) jdk_42_method_3_code (2 : Nat) (Option.none : Option Jvm.ClassFile.FieldType)).before args0 about1 = true := code_word (m := ⟨9, 1⟩) (meth := k9m1) (c := k9c1) (by decide +kernel) rfl rfl rfl (by decide +kernel)
set_option maxRecDepth 65536 in
theorem w_c3 : (Jvm.Cond.code ({ cls := "java/lang/String", name := "<init>", desc := "([CIILjava/lang/Void;)V" } : Jvm.MethodName) jdk_42_method_149_code (6 : Nat) (Option.none : Option Jvm.ClassFile.FieldType)).before args0 about1 = true := code_word (m := ⟨9, 2⟩) (meth := k9m2) (c := k9c2) (by decide +kernel) rfl rfl rfl (by decide +kernel)
set_option maxRecDepth 65536 in
theorem w_c4 : (Jvm.Cond.code ({ cls := "java/lang/Object", name := "<init>", desc := "()V" } : Jvm.MethodName) object_method_1_code (1 : Nat) (Option.none : Option Jvm.ClassFile.FieldType)).before args0 about1 = true := code_word (m := ⟨0, 0⟩) (meth := k0m0) (c := k0c0) (by decide +kernel) rfl rfl rfl (by decide +kernel)
set_option maxRecDepth 65536 in
theorem w_c5 : (Jvm.Cond.code ({ cls := "java/lang/StringUTF16", name := "compress", desc := "([CII)[B" } : Jvm.MethodName) jdk_52_method_16_code (6 : Nat) (Option.some (Jvm.ClassFile.FieldType.array Jvm.ClassFile.FieldType.byte))).before args0 about1 = true := code_word (m := ⟨10, 2⟩) (meth := k10m2) (c := k10c2) (by decide +kernel) rfl rfl rfl (by decide +kernel)
set_option maxRecDepth 65536 in
theorem w_c6 : (Jvm.Cond.code ({ cls := "java/lang/StringUTF16", name := "compress", desc := "([CI[BII)I" } : Jvm.MethodName) jdk_52_method_21_code (7 : Nat) (Option.some Jvm.ClassFile.FieldType.int)).before args0 about1 = true := code_word (m := ⟨10, 3⟩) (meth := k10m3) (c := k10c3) (by decide +kernel) rfl rfl rfl (by decide +kernel)
set_option maxRecDepth 65536 in
theorem w_c7 : (Jvm.Cond.code ({ cls := "java/lang/StringUTF16", name := "coderFromArrayLen", desc := "([BI)B" } : Jvm.MethodName) jdk_52_method_15_code (2 : Nat) (Option.some Jvm.ClassFile.FieldType.byte)).before args0 about1 = true := code_word (m := ⟨10, 1⟩) (meth := k10m1) (c := k10c1) (by decide +kernel) rfl rfl rfl (by decide +kernel)
set_option maxRecDepth 65536 in
theorem w_c8 : (Jvm.Cond.code ({ cls := "java/lang/Math", name := "max", desc := "(JJ)J" } : Jvm.MethodName) jdk_29_method_66_code (4 : Nat) (Option.some Jvm.ClassFile.FieldType.long)).before args0 about1 = true := code_word (m := ⟨11, 1⟩) (meth := k11m1) (c := k11c1) (by decide +kernel) rfl rfl rfl (by decide +kernel)
set_option maxRecDepth 65536 in
theorem w_c9 : (Jvm.Cond.code ({ cls := "com/example/zonegrant/zonegrant/service/OAuthException", name := "<init>", desc := "(Lcom/example/zonegrant/zonegrant/service/OAuthError;Ljava/lang/String;)V" } : Jvm.MethodName) prog_16_method_1_code (3 : Nat) (Option.none : Option Jvm.ClassFile.FieldType)).before args0 about1 = true := code_word (m := ⟨14, 0⟩) (meth := k14m0) (c := k14c0) (by decide +kernel) rfl rfl rfl (by decide +kernel)
set_option maxRecDepth 65536 in
theorem w_c10 : (Jvm.Cond.code ({ cls := "java/lang/Exception", name := "<init>", desc := "(Ljava/lang/String;)V" } : Jvm.MethodName) jdk_59_method_2_code (2 : Nat) (Option.none : Option Jvm.ClassFile.FieldType)).before args0 about1 = true := code_word (m := ⟨13, 1⟩) (meth := k13m1) (c := k13c1) (by decide +kernel) rfl rfl rfl (by decide +kernel)
set_option maxRecDepth 65536 in
theorem w_c11 : (Jvm.Cond.code ({ cls := "java/lang/Throwable", name := "<init>", desc := "(Ljava/lang/String;)V" } : Jvm.MethodName) jdk_78_method_2_code (2 : Nat) (Option.none : Option Jvm.ClassFile.FieldType)).before args0 about1 = true := code_word (m := ⟨12, 1⟩) (meth := k12m1) (c := k12c1) (by decide +kernel) rfl rfl rfl (by decide +kernel)
set_option maxRecDepth 65536 in
theorem w_c12 : (Jvm.Cond.code ({ cls := "java/lang/Throwable", name := "<init>", desc := "()V" } : Jvm.MethodName) jdk_78_method_1_code (1 : Nat) (Option.none : Option Jvm.ClassFile.FieldType)).before args0 about1 = true := code_word (m := ⟨12, 0⟩) (meth := k12m0) (c := k12c0) (by decide +kernel) rfl rfl rfl (by decide +kernel)
set_option maxRecDepth 65536 in
theorem w_c13 : (Jvm.Cond.code ({ cls := "com/example/zonegrant/zonegrant/service/OAuthException", name := "retryAfter", desc := "()Ljava/util/OptionalLong;" } : Jvm.MethodName) prog_16_method_4_code (1 : Nat) (Option.some (Jvm.ClassFile.FieldType.object "java/util/OptionalLong"))).before args0 about1 = true := code_word (m := ⟨14, 2⟩) (meth := k14m2) (c := k14c2) (by decide +kernel) rfl rfl rfl (by decide +kernel)
set_option maxRecDepth 65536 in
theorem w_c14 : (Jvm.Cond.code ({ cls := "java/util/OptionalLong", name := "empty", desc := "()Ljava/util/OptionalLong;" } : Jvm.MethodName) jdk_2650_method_2_code (0 : Nat) (Option.some (Jvm.ClassFile.FieldType.object "java/util/OptionalLong"))).before args0 about1 = true := code_word (m := ⟨15, 1⟩) (meth := k15m1) (c := k15c1) (by decide +kernel) rfl rfl rfl (by decide +kernel)
set_option maxRecDepth 65536 in
theorem w_c15 : (Jvm.Cond.code ({ cls := "java/util/OptionalLong", name := "isPresent", desc := "()Z" } : Jvm.MethodName) jdk_2650_method_6_code (1 : Nat) (Option.some Jvm.ClassFile.FieldType.boolean)).before args0 about1 = true := code_word (m := ⟨15, 5⟩) (meth := k15m5) (c := k15c5) (by decide +kernel) rfl rfl rfl (by decide +kernel)
set_option maxRecDepth 65536 in
theorem w_c16 : (Jvm.Cond.code ({ cls := "com/example/zonegrant/zonegrant/service/OAuthException", name := "<init>", desc := "(Lcom/example/zonegrant/zonegrant/service/OAuthError;Ljava/lang/String;J)V" } : Jvm.MethodName) prog_16_method_2_code (5 : Nat) (Option.none : Option Jvm.ClassFile.FieldType)).before args0 about1 = true := code_word (m := ⟨14, 1⟩) (meth := k14m1) (c := k14c1) (by decide +kernel) rfl rfl rfl (by decide +kernel)
set_option maxRecDepth 65536 in
theorem w_c17 : (Jvm.Cond.code ({ cls := "java/util/OptionalLong", name := "of", desc := "(J)Ljava/util/OptionalLong;" } : Jvm.MethodName) jdk_2650_method_4_code (2 : Nat) (Option.some (Jvm.ClassFile.FieldType.object "java/util/OptionalLong"))).before args0 about1 = true := code_word (m := ⟨15, 3⟩) (meth := k15m3) (c := k15c3) (by decide +kernel) rfl rfl rfl (by decide +kernel)
set_option maxRecDepth 65536 in
theorem w_c18 : (Jvm.Cond.code ({ cls := "java/util/OptionalLong", name := "<init>", desc := "(J)V" } : Jvm.MethodName) jdk_2650_method_3_code (3 : Nat) (Option.none : Option Jvm.ClassFile.FieldType)).before args0 about1 = true := code_word (m := ⟨15, 2⟩) (meth := k15m2) (c := k15c2) (by decide +kernel) rfl rfl rfl (by decide +kernel)
set_option maxRecDepth 65536 in
theorem w_c19 : (Jvm.Cond.code ({ cls := "java/util/OptionalLong", name := "getAsLong", desc := "()J" } : Jvm.MethodName) jdk_2650_method_5_code (1 : Nat) (Option.some Jvm.ClassFile.FieldType.long)).before args0 about1 = true := code_word (m := ⟨15, 4⟩) (meth := k15m4) (c := k15c4) (by decide +kernel) rfl rfl rfl (by decide +kernel)
def codes1 : List Jvm.Cond := [Jvm.Cond.code x code maxLocals ret, Jvm.Cond.code ({ cls := "com/example/zonegrant/zonegrant/service/OAuthExceptionRetryAfterPinLaw", name := "pick", desc := "(I)Lcom/example/zonegrant/zonegrant/service/OAuthError;" } : Jvm.MethodName) method_2_code (2 : Nat) (Option.some (Jvm.ClassFile.FieldType.object "com/example/zonegrant/zonegrant/service/OAuthError")), Jvm.Cond.code ({ cls := "java/lang/String", name := "<init>", desc := "([C)V" } : Jvm.MethodName) jdk_42_method_3_code (2 : Nat) (Option.none : Option Jvm.ClassFile.FieldType), Jvm.Cond.code ({ cls := "java/lang/String", name := "<init>", desc := "([CIILjava/lang/Void;)V" } : Jvm.MethodName) jdk_42_method_149_code (6 : Nat) (Option.none : Option Jvm.ClassFile.FieldType), Jvm.Cond.code ({ cls := "java/lang/Object", name := "<init>", desc := "()V" } : Jvm.MethodName) object_method_1_code (1 : Nat) (Option.none : Option Jvm.ClassFile.FieldType), Jvm.Cond.code ({ cls := "java/lang/StringUTF16", name := "compress", desc := "([CII)[B" } : Jvm.MethodName) jdk_52_method_16_code (6 : Nat) (Option.some (Jvm.ClassFile.FieldType.array Jvm.ClassFile.FieldType.byte)), Jvm.Cond.code ({ cls := "java/lang/StringUTF16", name := "compress", desc := "([CI[BII)I" } : Jvm.MethodName) jdk_52_method_21_code (7 : Nat) (Option.some Jvm.ClassFile.FieldType.int), Jvm.Cond.code ({ cls := "java/lang/StringUTF16", name := "coderFromArrayLen", desc := "([BI)B" } : Jvm.MethodName) jdk_52_method_15_code (2 : Nat) (Option.some Jvm.ClassFile.FieldType.byte), Jvm.Cond.code ({ cls := "java/lang/Math", name := "max", desc := "(JJ)J" } : Jvm.MethodName) jdk_29_method_66_code (4 : Nat) (Option.some Jvm.ClassFile.FieldType.long), Jvm.Cond.code ({ cls := "com/example/zonegrant/zonegrant/service/OAuthException", name := "<init>", desc := "(Lcom/example/zonegrant/zonegrant/service/OAuthError;Ljava/lang/String;)V" } : Jvm.MethodName) prog_16_method_1_code (3 : Nat) (Option.none : Option Jvm.ClassFile.FieldType), Jvm.Cond.code ({ cls := "java/lang/Exception", name := "<init>", desc := "(Ljava/lang/String;)V" } : Jvm.MethodName) jdk_59_method_2_code (2 : Nat) (Option.none : Option Jvm.ClassFile.FieldType), Jvm.Cond.code ({ cls := "java/lang/Throwable", name := "<init>", desc := "(Ljava/lang/String;)V" } : Jvm.MethodName) jdk_78_method_2_code (2 : Nat) (Option.none : Option Jvm.ClassFile.FieldType), Jvm.Cond.code ({ cls := "java/lang/Throwable", name := "<init>", desc := "()V" } : Jvm.MethodName) jdk_78_method_1_code (1 : Nat) (Option.none : Option Jvm.ClassFile.FieldType), Jvm.Cond.code ({ cls := "com/example/zonegrant/zonegrant/service/OAuthException", name := "retryAfter", desc := "()Ljava/util/OptionalLong;" } : Jvm.MethodName) prog_16_method_4_code (1 : Nat) (Option.some (Jvm.ClassFile.FieldType.object "java/util/OptionalLong")), Jvm.Cond.code ({ cls := "java/util/OptionalLong", name := "empty", desc := "()Ljava/util/OptionalLong;" } : Jvm.MethodName) jdk_2650_method_2_code (0 : Nat) (Option.some (Jvm.ClassFile.FieldType.object "java/util/OptionalLong")), Jvm.Cond.code ({ cls := "java/util/OptionalLong", name := "isPresent", desc := "()Z" } : Jvm.MethodName) jdk_2650_method_6_code (1 : Nat) (Option.some Jvm.ClassFile.FieldType.boolean), Jvm.Cond.code ({ cls := "com/example/zonegrant/zonegrant/service/OAuthException", name := "<init>", desc := "(Lcom/example/zonegrant/zonegrant/service/OAuthError;Ljava/lang/String;J)V" } : Jvm.MethodName) prog_16_method_2_code (5 : Nat) (Option.none : Option Jvm.ClassFile.FieldType), Jvm.Cond.code ({ cls := "java/util/OptionalLong", name := "of", desc := "(J)Ljava/util/OptionalLong;" } : Jvm.MethodName) jdk_2650_method_4_code (2 : Nat) (Option.some (Jvm.ClassFile.FieldType.object "java/util/OptionalLong")), Jvm.Cond.code ({ cls := "java/util/OptionalLong", name := "<init>", desc := "(J)V" } : Jvm.MethodName) jdk_2650_method_3_code (3 : Nat) (Option.none : Option Jvm.ClassFile.FieldType), Jvm.Cond.code ({ cls := "java/util/OptionalLong", name := "getAsLong", desc := "()J" } : Jvm.MethodName) jdk_2650_method_5_code (1 : Nat) (Option.some Jvm.ClassFile.FieldType.long)]
set_option maxRecDepth 65536 in
theorem codes_eq : words1.filter isCode = codes1 := rfl
theorem w_codes : ∀ c ∈ words1.filter isCode, c.before args0 about1 = true := by
  rw [codes_eq]
  intro c hc
  simp only [codes1, List.mem_cons, List.not_mem_nil, or_false] at hc
  rcases hc with rfl | rfl | rfl | rfl | rfl | rfl | rfl | rfl | rfl | rfl | rfl | rfl | rfl | rfl | rfl | rfl | rfl | rfl | rfl | rfl
  · exact w_c0
  · exact w_c1
  · exact w_c2
  · exact w_c3
  · exact w_c4
  · exact w_c5
  · exact w_c6
  · exact w_c7
  · exact w_c8
  · exact w_c9
  · exact w_c10
  · exact w_c11
  · exact w_c12
  · exact w_c13
  · exact w_c14
  · exact w_c15
  · exact w_c16
  · exact w_c17
  · exact w_c18
  · exact w_c19
set_option maxRecDepth 65536 in
theorem w_t1 : (words1.take 24).all (fun c => isCode c || c.before args0 about1) = true := by decide +kernel
set_option maxRecDepth 65536 in
theorem w_t2 : ((words1.drop 24).take 24).all (fun c => isCode c || c.before args0 about1) = true := by decide +kernel
set_option maxRecDepth 65536 in
theorem w_t3 : (((words1.drop 24).drop 24).take 24).all (fun c => isCode c || c.before args0 about1) = true := by decide +kernel
set_option maxRecDepth 65536 in
theorem w_t4 : ((((words1.drop 24).drop 24).drop 24).take 24).all (fun c => isCode c || c.before args0 about1) = true := by decide +kernel
set_option maxRecDepth 65536 in
theorem w_t5 : (((((words1.drop 24).drop 24).drop 24).drop 24).take 24).all (fun c => isCode c || c.before args0 about1) = true := by decide +kernel
set_option maxRecDepth 65536 in
theorem w_t6 : ((((((words1.drop 24).drop 24).drop 24).drop 24).drop 24).take 24).all (fun c => isCode c || c.before args0 about1) = true := by decide +kernel
set_option maxRecDepth 65536 in
theorem w_t7 : ((((((words1.drop 24).drop 24).drop 24).drop 24).drop 24).drop 24).all (fun c => isCode c || c.before args0 about1) = true := by decide +kernel
theorem w_tables : (allAtoms (Jvm.Cond.code x code maxLocals ret :: tables_1)).before args0 about1 = true := by
  rw [allAtoms_all]
  show words1.all (fun c => c.before args0 about1) = true
  refine all_split ?_ w_codes
  rw [← List.take_append_drop 24 words1, List.all_append, w_t1, ← List.take_append_drop 24 (words1.drop 24), List.all_append, w_t2, ← List.take_append_drop 24 ((words1.drop 24).drop 24), List.all_append, w_t3, ← List.take_append_drop 24 (((words1.drop 24).drop 24).drop 24), List.all_append, w_t4, ← List.take_append_drop 24 ((((words1.drop 24).drop 24).drop 24).drop 24), List.all_append, w_t5, ← List.take_append_drop 24 (((((words1.drop 24).drop 24).drop 24).drop 24).drop 24), List.all_append, w_t6, w_t7]
  rfl
set_option maxRecDepth 65536 in
theorem w_rest : rest_1_c.before args0 about1 = true := by decide +kernel
set_option maxRecDepth 65536 in
theorem w_case : (Jvm.Cond.and given_1 narrow_1).before args0 about1 = true := by decide +kernel
theorem w_applies : (headSpec (Jvm.Cond.code x code maxLocals ret :: tables_1) room_1).applies x e0.platform about1 = true :=
  (Spec.applies_iff w_frames).mpr ⟨w_running, w_runnable, w_alone, w_named, w_hears, w_ripe, w_room, w_tables⟩
theorem atStart : AtStart classFile x code maxLocals ret World_1 tables_1 room_1 Calls_1 rest_1 Pre_1 launch0 p0 e0 about1 theMethod args0 below0 :=
  ⟨lists_1, trivial, launch0.admits_env _ _ _, launch0.least_env, fairChoices_fair.cas, fairChoices_fair.clock, w_frames, w_args, w_heap, w_applies, ⟨(by decide +kernel : framesKnown about1 = true), ⟨(by decide +kernel : tablesKnown about1 = true), trivial⟩⟩, w_rest, w_case⟩
end start1
theorem witness_1 : WitnessClaimed_1 := ⟨start1.p0, start1.e0, start1.about1, start1.theMethod, start1.args0, start1.below0, start1.atStart⟩
end Jvm.Pilot.@@N@@
