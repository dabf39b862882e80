import JvmDerived
import JvmDerived.Pilot.@@N@@Statement
import JvmDerived.Pilot.@@N@@Code
set_option linter.unusedVariables false
set_option linter.unusedSimpArgs false
namespace Jvm.RoadKit
open Sem ClassFile Op Lib Jvm.Stand Jvm.Free Jvm.LawKit
section New
variable {p : Program} {l : Launch} {e : Env} {R : Room} {s : State} {m : MethodId} {args : Array Value} {below : List Frame} {meth : Method} {c : Code} {T : State} {locs : List Loc} {cells slots : Nat}
theorem retI (X : Stand p l e R s m args below meth c T locs cells slots) (hx : p.tables.exec = Jvm.exec) {pc : Nat} {Ls : Array Slot} {z : Int32} {rest : List Value} (hret : meth.sig.returnType = some .int) (hd : decode c.code pc = .ok (.ireturn, 1)) {fs : List Frame}
    (hl : ∀ (f : JFrame) (acts : List Action), f.method = m → f.locked = none → f.entered = [] → (doReturn e (T.setTop f) acts (some (.int z))).1 = T.setFrames fs) : Steps p.tables e below (T.setTop (mkF m pc Ls (.int z :: rest))) (T.setFrames fs) := by
  have hm' : T.vm.method? m = some meth := X.method'
  have hn : narrow .int (.int z) = .int z := rfl
  show Steps p.tables e below (T.setTop { method := m, pc := pc, locals := Ls, stack := _ :: rest, locked := none }) _
  jvm_step X.here [X.here.top, hx, hd, hm', hret, hn]
  first | (intro acts; rw [hl _ acts rfl rfl rfl]) | rw [hl _ _ rfl rfl rfl]
  exact Steps.refl _
end New
end Jvm.RoadKit
namespace Jvm.Pilot.@@N@@
open Jvm Jvm.ClassFile Sem Op Lib Jvm.Free Jvm.Stand Jvm.LawKit Jvm.RoadKit Bundle Jvm.Pilot.@@N@@.Jvm.D
section OwnWalk
variable {p : Program} {l : Launch} {e : Env} {R : Room} {s : State} {m : MethodId} {args : Array Value} {below : List Frame} {meth : Method} {c : Code} {T : State} {locs : List Loc} {cells slots : Nat} {Z : State} {a0 : Array Value} {h h0 : Heap}
variable {tb : Tables} {Post : Outcome → State → Prop} {Q : Option Value → Heap → List Loc → Prop} {k j : Nat}
/-- the run from here comes to its end, and there Post holds -/
def own_Ends (tb : Tables) (e : Env) (below : List Frame) (Post : Outcome → State → Prop) (A : State) : Prop := ∃ U o, Steps tb e below A U ∧ U.status = .running ∧ Ended U below o ∧ Post o U
theorem own_via {A : State} (B : State) (h : ∀ t, Steps tb e below B t → Steps tb e below A t) (k : own_Ends tb e below Post B) : own_Ends tb e below Post A := by
  obtain ⟨U, o, h1, h2⟩ := k; exact ⟨U, o, h _ h1, h2⟩
def own_Post (s : State) (Q : Option Value → Heap → List Loc → Prop) (k j : Nat) : Outcome → State → Prop := fun o U => ∃ v L, o = .returned v ∧ Q v U.heap L ∧ FrameEnd s o U L k j
/-- a method's contract: called with as at the heap h0 it returns, and Q holds of what it returned, of the heap and of the places written -/
def own_CT (l : Launch) (Z : State) (y : MethodName) (bytes : ByteArray) (maxL : Nat) (ret : Option FieldType) (rm : Room) (as : Array Value) (h0 : Heap) (Q : Option Value → Heap → List Loc → Prop) : Prop :=
  ∀ ws : List Jvm.Cond, MetFree l y (head1 (Jvm.Cond.code y bytes maxL ret :: ws) rm) (fun a U => a = as ∧ Z.Warmed39 U.vm ∧ U.heap = h0) (fun _ _ _ _ _ => True) (fun _ U o U' => ∃ v L, o = .returned v ∧ Q v U'.heap L ∧ FrameEnd U o U' L rm.cells rm.slots)
theorem own_of {y : MethodName} {bytes : ByteArray} {maxL : Nat} {ret : Option FieldType} {rm : Room} {as : Array Value} {Ls : Array Slot} (hx : plainFor y = true) (hef : ∀ m, entryFrame m as maxL = mkF m 0 Ls [])
    (body : ∀ p e s m below meth c T, Stand p l e rm s m as below meth c T [] 0 0 → p.tables.exec = Jvm.exec → c.code = bytes → c.maxLocals = maxL → s.vm.findClass y.cls = some m.cls → meth.name = y.name → meth.sig.returnType = ret → Z.Warmed39 s.vm → T.heap = h0 → meth.locks = false →
      own_Ends p.tables e below (own_Post s Q rm.cells rm.slots) (T.setTop (mkF m 0 Ls []))) : own_CT l Z y bytes maxL ret rm as h0 Q := by
  intro ws
  refine MetFree.of_bodySF hx hisR ?_
  intro p e s m args below meth c s₁ Bd hml0 hP hK
  obtain ⟨rfl, hZ, hh⟩ := hP
  have e0 : s₁.heap = h0 := by rw [← hh, Bd.state]; rfl
  obtain ⟨U, o, h1, h2, h3, h4⟩ := body p e s m below meth c s₁ (Stand.of_body Bd) Bd.exec Bd.bytes hml0 (findClass_of_methodNamed Bd.named) (name_of_methodNamed Bd.named Bd.method).1 Bd.returns hZ e0 Bd.notSynchronized
  exact ⟨U, o, castTop (hef m) h1, h2, h3, h4⟩
/-- the same for a body beneath which a stack trace is filled in: the tables' methods and the frames beneath are known -/
def own_CTK (l : Launch) (Z : State) (y : MethodName) (bytes : ByteArray) (maxL : Nat) (ret : Option FieldType) (rm : Room) (as : Array Value) (h0 : Heap) (Q : Option Value → Heap → List Loc → Prop) : Prop :=
  ∀ ws : List Jvm.Cond, MetFree l y (head1 (Jvm.Cond.code y bytes maxL ret :: ws) rm) (fun a U => a = as ∧ Z.Warmed39 U.vm ∧ U.heap = h0) (fun _ _ bl s _ => s.vm.MethodsKnown ∧ s.vm.FramesKnown bl) (fun _ U o U' => ∃ v L, o = .returned v ∧ Q v U'.heap L ∧ FrameEnd U o U' L rm.cells rm.slots)
theorem own_ofK {y : MethodName} {bytes : ByteArray} {maxL : Nat} {ret : Option FieldType} {rm : Room} {as : Array Value} {Ls : Array Slot} (hx : plainFor y = true) (hef : ∀ m, entryFrame m as maxL = mkF m 0 Ls [])
    (body : ∀ p e s m below meth c T, Stand p l e rm s m as below meth c T [] 0 0 → p.tables.exec = Jvm.exec → c.code = bytes → c.maxLocals = maxL → s.vm.findClass y.cls = some m.cls → meth.name = y.name → meth.sig.returnType = ret → Z.Warmed39 s.vm → T.heap = h0 → meth.locks = false → s.heap = h0 → s.vm.MethodsKnown → s.vm.FramesKnown below →
      own_Ends p.tables e below (own_Post s Q rm.cells rm.slots) (T.setTop (mkF m 0 Ls []))) : own_CTK l Z y bytes maxL ret rm as h0 Q := by
  intro ws
  refine MetFree.of_bodySF hx hisR ?_
  intro p e s m args below meth c s₁ Bd hml0 hP hK
  obtain ⟨rfl, hZ, hh⟩ := hP
  have e0 : s₁.heap = h0 := by rw [← hh, Bd.state]; rfl
  obtain ⟨U, o, h1, h2, h3, h4⟩ := body p e s m below meth c s₁ (Stand.of_body Bd) Bd.exec Bd.bytes hml0 (findClass_of_methodNamed Bd.named) (name_of_methodNamed Bd.named Bd.method).1 Bd.returns hZ e0 Bd.notSynchronized hh hK.1 hK.2
  exact ⟨U, o, castTop (hef m) h1, h2, h3, h4⟩
theorem own_retI (X : Stand p l e R s m args below meth c T locs cells slots) (hx : p.tables.exec = Jvm.exec) (hlk : meth.locks = false) {pc : Nat} {Ls : Array Slot} {z : Int32} {rest : List Value} (hret : meth.sig.returnType = some .int) (hd : decode c.code pc = .ok (.ireturn, 1))
    (eT : T.heap = h) (q : Q (some (.int z)) h locs) (hc : cells ≤ k) (hs : slots ≤ j) : own_Ends p.tables e below (own_Post s Q k j) (T.setTop (mkF m pc Ls (.int z :: rest))) := by
  obtain ⟨fs, hr, hrun, hended, hW, hsame⟩ := X.leave (v := some (.int z)) (fun h => by rw [hret] at h; cases h)
  subst eT
  exact ⟨_, _, retI X hx hret hd hr, hrun, hended, _, _, rfl, q, ⟨_, rfl⟩, hW, hsame.mono hc hs⟩
theorem own_retN (X : Stand p l e R s m args below meth c T locs cells slots) (hx : p.tables.exec = Jvm.exec) (hlk : meth.locks = false) {pc : Nat} {Ls : Array Slot} {z : Int32} {t : FieldType} {rest : List Value} (hret : meth.sig.returnType = some t) (ht : t = .boolean ∨ t = .byte ∨ t = .char ∨ t = .short) (hd : decode c.code pc = .ok (.ireturn, 1))
    (eT : T.heap = h) (q : Q (some (.int (nar t z))) h locs) (hc : cells ≤ k) (hs : slots ≤ j) : own_Ends p.tables e below (own_Post s Q k j) (T.setTop (mkF m pc Ls (.int z :: rest))) := by
  obtain ⟨fs, hr, hrun, hended, hW, hsame⟩ := X.leave (v := some (.int (nar t z))) (fun h => by rw [hret] at h; cases h)
  subst eT
  exact ⟨_, _, retN X hx hret ht hd hr, hrun, hended, _, _, rfl, q, ⟨_, rfl⟩, hW, hsame.mono hc hs⟩
theorem own_retA (X : Stand p l e R s m args below meth c T locs cells slots) (hx : p.tables.exec = Jvm.exec) (hlk : meth.locks = false) {pc : Nat} {Ls : Array Slot} {w : Value} {t : FieldType} {rest : List Value} (hret : meth.sig.returnType = some t) (ht : t.isReference = true) (hw : w.isRef = true) (hd : decode c.code pc = .ok (.areturn, 1))
    (eT : T.heap = h) (q : Q (some w) h locs) (hc : cells ≤ k) (hs : slots ≤ j) : own_Ends p.tables e below (own_Post s Q k j) (T.setTop (mkF m pc Ls (w :: rest))) := by
  obtain ⟨fs, hr, hrun, hended, hW, hsame⟩ := X.leave (v := some w) (fun h => by rw [hret] at h; cases h)
  subst eT
  have hn : narrow t w = w := by cases t <;> first | (cases ht; done) | (rcases ref_cases hw with rfl | ⟨_, rfl⟩ <;> rfl)
  exact ⟨_, _, retOut X hx hret hn (Or.inr (Or.inr (Or.inr (Or.inr ⟨rfl, ht, hw⟩)))) hd hr, hrun, hended, _, _, rfl, q, ⟨_, rfl⟩, hW, hsame.mono hc hs⟩
theorem own_retJ (X : Stand p l e R s m args below meth c T locs cells slots) (hx : p.tables.exec = Jvm.exec) (hlk : meth.locks = false) {pc : Nat} {Ls : Array Slot} {z : Int64} {rest : List Value} (hret : meth.sig.returnType = some .long) (hd : decode c.code pc = .ok (.lreturn, 1))
    (eT : T.heap = h) (q : Q (some (.long z)) h locs) (hc : cells ≤ k) (hs : slots ≤ j) : own_Ends p.tables e below (own_Post s Q k j) (T.setTop (mkF m pc Ls (.long z :: rest))) := by
  obtain ⟨fs, hr, hrun, hended, hW, hsame⟩ := X.leave (v := some (.long z)) (fun h => by rw [hret] at h; cases h)
  subst eT
  exact ⟨_, _, retOut X hx hret rfl (Or.inr (Or.inl ⟨rfl, rfl, _, rfl⟩)) hd hr, hrun, hended, _, _, rfl, q, ⟨_, rfl⟩, hW, hsame.mono hc hs⟩
theorem own_ret0 (X : Stand p l e R s m args below meth c T locs cells slots) (hx : p.tables.exec = Jvm.exec) (hlk : meth.locks = false) {pc : Nat} {Ls : Array Slot} (hret : meth.sig.returnType = none) (hd : decode c.code pc = .ok (.return_, 1))
    (eT : T.heap = h) (q : Q none h locs) (hc : cells ≤ k) (hs : slots ≤ j) : own_Ends p.tables e below (own_Post s Q k j) (T.setTop (mkF m pc Ls [])) := by
  obtain ⟨fs, hr, hrun, hended, hW, hsame⟩ := X.leave (v := none) (fun _ => rfl)
  subst eT
  exact ⟨_, _, X.returnOut hx hret hd hr, hrun, hended, _, _, rfl, q, ⟨_, rfl⟩, hW, hsame.mono hc hs⟩
theorem own_cat1 {v : Value} (h : v.isRef = true) : v.category = 1 := XT.cat1 h
theorem own_narR {v : Value} {t : FieldType} (ht : t.isReference = true) (h : v.isRef = true) : narrow t v = v := by cases t <;> first | (cases ht; done) | (rcases ref_cases h with rfl | ⟨_, rfl⟩ <;> rfl)
theorem own_fitR {v : Value} {t : FieldType} (ht : t.isReference = true) (h : v.isRef = true) : fits t v = true := by cases t <;> first | (cases ht; done) | (rcases ref_cases h with rfl | ⟨_, rfl⟩ <;> rfl)
theorem own_and255 (x : Int32) : ¬ nar .char ((x &&& (255 : Int32)).toUInt32.toUInt16.toUInt32.toInt32) < 0 ∧ ¬ (255 : Int32) < nar .char ((x &&& (255 : Int32)).toUInt32.toUInt16.toUInt32.toInt32) := by
  have t : ∀ k : Fin 256, ¬ nar .char ((Int32.ofNat k.val).toUInt32.toUInt16.toUInt32.toInt32) < 0 ∧ ¬ (255 : Int32) < nar .char ((Int32.ofNat k.val).toUInt32.toUInt16.toUInt32.toInt32) := by decide +kernel
  have h : (x &&& 255).toBitVec.toNat < 256 := by
    simp only [Int32.toBitVec_and, BitVec.toNat_and]
    exact Nat.lt_succ_of_le Nat.and_le_right
  have e : (x &&& 255) = Int32.ofNat (x &&& 255).toBitVec.toNat := by
    apply Int32.toBitVec_inj.mp
    show _ = BitVec.ofNat 32 _
    rw [BitVec.ofNat_toNat]; simp
  rw [e]
  exact t ⟨_, h⟩
/-- what pays a call: the shape of the library's backOf -/
abbrev own_BK (l : Launch) (R : Room) (p : Program) (e : Env) (below : List Frame) (s : State) (args : Array Value) (y : MethodName) (len W : Nat) (as : Array Value) (h : Heap) (k j : Nat) (Q : Option Value → Heap → List Loc → Prop) : Prop :=
  Back l R p e below s args y len W (fun A a => a = as ∧ A.U.heap = h ∧ A.cells + k ≤ R.cells ∧ A.slots + j ≤ R.slots) (fun A _ v B => ∃ L, Q v B.U.heap L ∧ B.locs = A.locs ++ L ∧ B.cells = A.cells + k ∧ B.slots = A.slots + j)
theorem own_bk {y : MethodName} {bytes : ByteArray} {maxL : Nat} {ret : Option FieldType} {rm : Room} {len W : Nat} {as : Array Value} (C : own_CT l Z y bytes maxL ret rm as h Q) (hZ : Z.Warmed39 s.vm) (wc : (Jvm.Cond.code y bytes maxL ret).before a0 Z = true) (wz : (Jvm.Cond.initialized y.cls).before a0 Z = true)
    (hf : rm.frames + 1 ≤ R.frames) (hl : W + (maxL + 11) + rm.locals ≤ R.locals) : own_BK l R p e below s args y len W as h rm.cells rm.slots Q := backOf (C []) hZ wc wz hf hl
theorem own_bkK {y : MethodName} {bytes : ByteArray} {maxL : Nat} {ret : Option FieldType} {rm : Room} {len W : Nat} {as : Array Value} (C : own_CTK l Z y bytes maxL ret rm as h Q) (hZ : Z.Warmed39 s.vm) (wc : (Jvm.Cond.code y bytes maxL ret).before a0 Z = true) (wz : (Jvm.Cond.initialized y.cls).before a0 Z = true)
    (hf : rm.frames + 1 ≤ R.frames) (hl : W + (maxL + 11) + rm.locals ≤ R.locals) (hTK : s.vm.MethodsKnown) (hBelow : s.vm.FramesKnown below) : own_BK l R p e below s args y len W as h rm.cells rm.slots Q := backOfKL (C []) hZ wc wz hf hl hTK hBelow
theorem own_cS (X : Stand p l e R s m args below meth c T locs cells slots) (hx : p.tables.exec = Jvm.exec) (hZ : Z.Warmed39 s.vm) {own : String} {index : Nat} {y : MethodName} {bytes : ByteArray} {maxL : Nat} {ret : Option FieldType} (hown : s.vm.findClass own = some m.cls)
    (w1 : (Jvm.Cond.methodLink own index y).before a0 Z = true) (w2 : (Jvm.Cond.static y).before a0 Z = true) (w3 : (Jvm.Cond.initialized y.cls).before a0 Z = true) (w4 : (Jvm.Cond.code y bytes maxL ret).before a0 Z = true) (hy : y.cls ≠ "java/lang/invoke/MethodHandle" ∧ y.cls ≠ "java/lang/invoke/VarHandle")
    {W : Nat} {as : Array Value} (K : own_BK l R p e below s args y 3 W as h k j Q) (eT : T.heap = h) {pc : Nat} {Ls : Array Slot} (hsize : Ls.size = c.maxLocals) {argsL rest st : List Value} (has : argsL.toArray = as) (hlen : ∀ sig, parseMethodDescriptor y.desc = some sig → argsL.length = sig.parameters.length) (hs : st = argsL.reverse ++ rest) (hW : (rest.map fun v => v.category).sum ≤ W)
    (hd : decode c.code pc = .ok (.invokestatic index, 3)) (hk : cells + k ≤ R.cells) (hj : slots + j ≤ R.slots) :
    ∃ (v : Option Value) (T' : State) (h' : Heap) (L : List Loc), Stand p l e R s m args below meth c T' (locs ++ L) (cells + k) (slots + j) ∧ T'.heap = h' ∧ Q v h' L ∧ ∀ t, Steps p.tables e below (T'.setTop (mkF m (pc + 3) Ls (v.toList ++ rest))) t → Steps p.tables e below (T.setTop (mkF m pc Ls st)) t := by
  subst hs
  obtain ⟨v, vm₁, ⟨T', L', k', n'⟩, -, X', ⟨L, hQ, hl, hy', hz⟩, stp⟩ := Jvm.LawKit.callS X hx hown (mvT hZ w1) (mvT hZ w2) (mvT hZ w3) (mvT hZ w4) hy K (g := mkF m pc Ls (argsL.reverse ++ rest)) rfl hsize (argsL := argsL) (rest := rest) hlen rfl (by show 2 * 0 + _ ≤ _; rw [Nat.mul_zero, Nat.zero_add]; exact hW) hd (fun _ _ => ⟨has, eT, hk, hj⟩)
  dsimp only [Pt.U, Pt.locs, Pt.cells, Pt.slots] at X' hQ hl hy' hz stp
  subst hl hy' hz
  exact ⟨v, T', _, L, X', rfl, hQ, stp⟩
theorem own_cI (X : Stand p l e R s m args below meth c T locs cells slots) (hx : p.tables.exec = Jvm.exec) (hZ : Z.Warmed39 s.vm) {own : String} {index : Nat} {y : MethodName} {bytes : ByteArray} {maxL : Nat} (hown : s.vm.findClass own = some m.cls)
    (w1 : (Jvm.Cond.methodLink own index y).before a0 Z = true) (w2 : (Jvm.Cond.instanceMethod y).before a0 Z = true) (w4 : (Jvm.Cond.code y bytes maxL none).before a0 Z = true) (hy1 : y.name = "<init>") (hy : y.cls ≠ "java/lang/invoke/MethodHandle" ∧ y.cls ≠ "java/lang/invoke/VarHandle")
    {W : Nat} {as : Array Value} (K : own_BK l R p e below s args y 3 W as h k j Q) (eT : T.heap = h) {pc : Nat} {Ls : Array Slot} (hsize : Ls.size = c.maxLocals) {a : Addr} {argsL rest st : List Value} (has : (Value.ref a :: argsL).toArray = as) (hlen : ∀ sig, parseMethodDescriptor y.desc = some sig → argsL.length = sig.parameters.length) (hs : st = argsL.reverse ++ .ref a :: rest) (hW : (rest.map fun v => v.category).sum ≤ W)
    (hd : decode c.code pc = .ok (.invokespecial index, 3)) (hk : cells + k ≤ R.cells) (hj : slots + j ≤ R.slots) :
    ∃ (v : Option Value) (T' : State) (h' : Heap) (L : List Loc), Stand p l e R s m args below meth c T' (locs ++ L) (cells + k) (slots + j) ∧ T'.heap = h' ∧ Q v h' L ∧ ∀ t, Steps p.tables e below (T'.setTop (mkF m (pc + 3) Ls (v.toList ++ rest))) t → Steps p.tables e below (T.setTop (mkF m pc Ls st)) t := by
  subst hs
  obtain ⟨v, vm₁, ⟨T', L', k', n'⟩, -, X', ⟨L, hQ, hl, hy', hz⟩, stp⟩ := X.specialBack hx hy1 hown (mvT hZ w1) (mvT hZ w2) (mvT hZ w4) hy K (g := mkF m pc Ls (argsL.reverse ++ .ref a :: rest)) rfl hsize (Steps.refl _) (a := a) (argsL := argsL) (rest := rest) hlen rfl (by show 2 * 0 + _ ≤ _; rw [Nat.mul_zero, Nat.zero_add]; exact hW) hd (fun _ _ => ⟨has, eT, hk, hj⟩)
  dsimp only [Pt.U, Pt.locs, Pt.cells, Pt.slots] at X' hQ hl hy' hz stp
  subst hl hy' hz
  exact ⟨v, T', _, L, X', rfl, hQ, fun t => stp.trans⟩
theorem own_cV (X : Stand p l e R s m args below meth c T locs cells slots) (hx : p.tables.exec = Jvm.exec) (hZ : Z.Warmed39 s.vm) {own C : String} {index : Nat} {y z : MethodName} (hown : s.vm.findClass own = some m.cls)
    (w1 : (Jvm.Cond.methodLink own index y).before a0 Z = true) (w2 : (Jvm.Cond.declares y).before a0 Z = true) (nf : NotFace s y) (w3 : (Jvm.Cond.selects C y z).before a0 Z = true) (w4 : (Jvm.Cond.instanceMethod z).before a0 Z = true) (hy : y.cls ≠ "java/lang/invoke/MethodHandle" ∧ y.cls ≠ "java/lang/invoke/VarHandle")
    {W : Nat} {as : Array Value} (K : own_BK l R p e below s args z 3 W as h k j Q) (eT : T.heap = h) {a : Addr} (E : Exa Z h a C) {pc : Nat} {Ls : Array Slot} (hsize : Ls.size = c.maxLocals) {argsL rest st : List Value} (has : (Value.ref a :: argsL).toArray = as) (hlen : ∀ sig, parseMethodDescriptor y.desc = some sig → argsL.length = sig.parameters.length) (hs : st = argsL.reverse ++ .ref a :: rest) (hW : (rest.map fun v => v.category).sum ≤ W)
    (hd : decode c.code pc = .ok (.invokevirtual index, 3)) (hk : cells + k ≤ R.cells) (hj : slots + j ≤ R.slots) :
    ∃ (v : Option Value) (T' : State) (h' : Heap) (L : List Loc), Stand p l e R s m args below meth c T' (locs ++ L) (cells + k) (slots + j) ∧ T'.heap = h' ∧ Q v h' L ∧ ∀ t, Steps p.tables e below (T'.setTop (mkF m (pc + 3) Ls (v.toList ++ rest))) t → Steps p.tables e below (T.setTop (mkF m pc Ls st)) t := by
  subst hs
  obtain ⟨cq, kq, qa, qb, qc⟩ := isOf hZ eT E
  obtain ⟨v, vm₁, ⟨T', L', k', n'⟩, -, X', ⟨L, hQ, hl, hy', hz⟩, stp⟩ := X.virtualBack hx (y := y) (z := z) hown (mvT hZ w1) (mvT hZ w2) nf (mvT hZ w3) (mvT hZ w4) hy K qa qc (g := mkF m pc Ls (argsL.reverse ++ .ref a :: rest)) rfl hsize (Steps.refl _) (argsL := argsL) (rest := rest) hlen rfl (by show 2 * 0 + _ ≤ _; rw [Nat.mul_zero, Nat.zero_add]; exact hW) hd (fun _ _ => ⟨has, eT, hk, hj⟩)
  dsimp only [Pt.U, Pt.locs, Pt.cells, Pt.slots] at X' hQ hl hy' hz stp
  subst hl hy' hz
  exact ⟨v, T', _, L, X', rfl, hQ, fun t => stp.trans⟩
theorem own_cF (X : Stand p l e R s m args below meth c T locs cells slots) (hx : p.tables.exec = Jvm.exec) (hZ : Z.Warmed39 s.vm) {own C : String} {index count : Nat} {xi y : MethodName} (hown : s.vm.findClass own = some m.cls)
    (w1 : (Jvm.Cond.methodLink own index xi).before a0 Z = true) (w2 : (Jvm.Cond.declares xi).before a0 Z = true) (w3 : (Jvm.Cond.interfaceMethod xi.cls xi.cls xi.name xi.desc).before a0 Z = true) (w4 : (Jvm.Cond.selects C xi y).before a0 Z = true) (w5 : (Jvm.Cond.instanceMethod y).before a0 Z = true) (w6 : (Jvm.Cond.publicMethod y).before a0 Z = true) (w7 : (Jvm.Cond.unhidden C xi.name xi.desc).before a0 Z = true) (w8 : (Jvm.Cond.castable C xi.cls).before a0 Z = true) (hy : xi.cls ≠ "java/lang/invoke/MethodHandle" ∧ xi.cls ≠ "java/lang/invoke/VarHandle")
    {W : Nat} {as : Array Value} (K : own_BK l R p e below s args y 5 W as h k j Q) (eT : T.heap = h) {a : Addr} (E : Exa Z h a C) {pc : Nat} {Ls : Array Slot} (hsize : Ls.size = c.maxLocals) {argsL rest st : List Value} (has : (Value.ref a :: argsL).toArray = as) (hlen : ∀ sig, parseMethodDescriptor xi.desc = some sig → argsL.length = sig.parameters.length) (hs : st = argsL.reverse ++ .ref a :: rest) (hW : (rest.map fun v => v.category).sum ≤ W)
    (hd : decode c.code pc = .ok (.invokeinterface index count, 5)) (hk : cells + k ≤ R.cells) (hj : slots + j ≤ R.slots) :
    ∃ (v : Option Value) (T' : State) (h' : Heap) (L : List Loc), Stand p l e R s m args below meth c T' (locs ++ L) (cells + k) (slots + j) ∧ T'.heap = h' ∧ Q v h' L ∧ ∀ t, Steps p.tables e below (T'.setTop (mkF m (pc + 5) Ls (v.toList ++ rest))) t → Steps p.tables e below (T.setTop (mkF m pc Ls st)) t := by
  subst hs
  obtain ⟨cq, kq, qa, qb, qc⟩ := isOf hZ eT E
  obtain ⟨v, vm₁, ⟨T', L', k', n'⟩, -, X', ⟨L, hQ, hl, hy', hz⟩, stp⟩ := X.interfaceBack hx (xi := xi) (y := y) hown (mvT hZ w1) (mvT hZ w2) (mvT hZ w3 (by simp [Cond.onTables, Cond.keepsFace, Cond.keeps, Cond.steady, Cond.faceAtom, hy.1, hy.2])) (mvT hZ w4) (mvT hZ w5) (mvT hZ w6) (mvT hZ w7) (mvT hZ w8) hy K qa qb qc (g := mkF m pc Ls (argsL.reverse ++ .ref a :: rest)) rfl hsize (Steps.refl _) (argsL := argsL) (rest := rest) hlen rfl (by show 2 * 0 + _ ≤ _; rw [Nat.mul_zero, Nat.zero_add]; exact hW) hd (fun _ _ => ⟨has, eT, hk, hj⟩)
  dsimp only [Pt.U, Pt.locs, Pt.cells, Pt.slots] at X' hQ hl hy' hz stp
  subst hl hy' hz
  exact ⟨v, T', _, L, X', rfl, hQ, fun t => stp.trans⟩
end OwnWalk
end Jvm.Pilot.@@N@@
/- laws to paste: Road.backV (cut by pick.py; bodies as the Statement names them) -/
namespace Jvm.Pilot.@@N@@
namespace StrChars
open Jvm Sem ClassFile Op Lib Jvm.Stand Jvm.Free.XT Jvm.Free.ALB Jvm.Free.JM Jvm.Free
open Jvm.Lib.Cold (StaticIs)
/-- a char array whose places are chars -/
def Ch (a : Addr) (A : Cell) (U : State) : Prop := Arr .char a A U ∧ Typed .char A
theorem Ch.mv {a : Addr} {A : Cell} {U U' : State} (h : Ch a A U) (hal : U.vm.Alike U'.vm) (hh : U'.heap = U.heap) : Ch a A U' := ⟨h.1.mv hal hh, h.2⟩
theorem Ch.keep {a : Addr} {A : Cell} {U U' : State} (h : Ch a A U) (hal : U.vm.Alike U'.vm) (hk : U'.heap[a]? = some A) : Ch a A U' := ⟨h.1.keep hal hk, h.2⟩
/-- what place i of a char[]'s cell holds -/
def cv (A : Cell) (i : Nat) : Int32 := match A.slots[i]? with | some (.int x) => x | _ => 0
theorem Ch.get {a : Addr} {A : Cell} {U : State} (h : Ch a A U) {i : Nat} (hi : i < A.slots.size) : A.slots[i]? = some (.int (cv A i)) := by
  have e := Array.getElem?_eq_getElem hi
  have f := h.2 i _ e
  unfold cv; rw [e]
  generalize A.slots[i] = v at f
  cases v <;> simp [fits] at f ⊢
/-- the byte that i2b leaves of a char -/
def lo8 (x : Int32) : Int32 := x.toInt8.toInt32
theorem fits_lo8 (y : Int32) : fits .byte (.int (lo8 y)) = true := by
  have h1 := y.toInt8.le_toInt
  have h2 := y.toInt8.toInt_lt
  simp only [lo8, fits, Bool.and_eq_true, decide_eq_true_eq, Int32.le_iff_toInt_le, Int8.toInt_toInt32, show (-128 : Int32).toInt = -128 from by decide, show (127 : Int32).toInt = 127 from by decide]
  omega
/-- A' is A but that each place j of lo .. hi - 1 holds f j -/
def Laid (A A' : Cell) (lo hi : Nat) (f : Nat → Value) : Prop := A'.cls = A.cls ∧ A'.vm = A.vm ∧ A'.slots.size = A.slots.size ∧ ∀ i, A'.slots[i]? = if lo ≤ i ∧ i < hi then some (f i) else A.slots[i]?
theorem Laid.zero (A : Cell) (lo : Nat) (f : Nat → Value) : Laid A A lo (lo + 0) f := ⟨rfl, rfl, rfl, fun i => by rw [if_neg (by omega)]⟩
theorem Laid.step {A Ak : Cell} {lo k : Nat} {f : Nat → Value} {v : Value} (h : Laid A Ak lo k f) (hlo : lo ≤ k) (hk : k < Ak.slots.size) (hv : v = f k) : Laid A (Ak.setSlot k v) lo (k + 1) f := by
  refine ⟨h.1, h.2.1, by simpa [Cell.setSlot] using h.2.2.1, fun i => ?_⟩
  by_cases e : k = i
  · subst e; rw [Cell.slots_setSlot_self v hk, if_pos (by omega), hv]
  · rw [Cell.slots_setSlot_ne v e, h.2.2.2 i]
    by_cases q : lo ≤ i ∧ i < k
    · rw [if_pos q, if_pos (by omega)]
    · rw [if_neg q, if_neg (by omega)]
def U16 : String := "java/lang/StringUTF16"
namespace Cmp5
def yN : MethodName := ⟨"java/lang/StringUTF16", "compress", "([CI[BII)I"⟩
abbrev yB : ByteArray := jdk_52_method_21_code
theorem d0 : decode yB 0 = .ok (.iconst 0, 1) := by decide +kernel
theorem d1 : decode yB 1 = .ok (.istore 5, 2) := by decide +kernel
theorem d3 : decode yB 3 = .ok (.iload 5, 2) := by decide +kernel
theorem d5 : decode yB 5 = .ok (.iload 4, 2) := by decide +kernel
theorem d7 : decode yB 7 = .ok (.if_icmp (.ge) 37, 3) := by decide +kernel
theorem d10 : decode yB 10 = .ok (.aload_n 0, 1) := by decide +kernel
theorem d11 : decode yB 11 = .ok (.iload_n 1, 1) := by decide +kernel
theorem d12 : decode yB 12 = .ok (.caload, 1) := by decide +kernel
theorem d13 : decode yB 13 = .ok (.istore 6, 2) := by decide +kernel
theorem d15 : decode yB 15 = .ok (.iload 6, 2) := by decide +kernel
theorem d17 : decode yB 17 = .ok (.sipush 255, 3) := by decide +kernel
theorem d20 : decode yB 20 = .ok (.if_icmp (.le) 6, 3) := by decide +kernel
theorem d26 : decode yB 26 = .ok (.aload_n 2, 1) := by decide +kernel
theorem d27 : decode yB 27 = .ok (.iload_n 3, 1) := by decide +kernel
theorem d28 : decode yB 28 = .ok (.iload 6, 2) := by decide +kernel
theorem d30 : decode yB 30 = .ok (.i2b, 1) := by decide +kernel
theorem d31 : decode yB 31 = .ok (.bastore, 1) := by decide +kernel
theorem d32 : decode yB 32 = .ok (.iinc 1 1, 3) := by decide +kernel
theorem d35 : decode yB 35 = .ok (.iinc 3 1, 3) := by decide +kernel
theorem d38 : decode yB 38 = .ok (.iinc 5 1, 3) := by decide +kernel
theorem d41 : decode yB 41 = .ok (.goto (-38), 3) := by decide +kernel
theorem d44 : decode yB 44 = .ok (.iload 4, 2) := by decide +kernel
theorem d46 : decode yB 46 = .ok (.ireturn, 1) := by decide +kernel
def site : List Cond := []
def tab : Cond := tabOf yN yB 7 (some .int) site
def P (b : Addr) (A : Cell) (d : Addr) (B : Cell) (o q len : Nat) (args : Array Value) (s : State) : Prop := args = #[.ref b, .int (Int32.ofNat o), .ref d, .int (Int32.ofNat q), .int (Int32.ofNat len)] ∧ Ch b A s ∧ Arr .byte d B s ∧ b ≠ d ∧ o + len ≤ A.slots.size ∧ q + len ≤ B.slots.size ∧ ∀ i, i < len → ¬ 255 < cv A (o + i)
def E (b : Addr) (A : Cell) (d : Addr) (B : Cell) (o q len : Nat) (r : Option Value) (s u : State) : Prop := r = some (.int (Int32.ofNat len)) ∧ ∃ B', Put d B' s u ∧ Laid B B' q (q + len) (fun j => Value.int (lo8 (cv A (o + (j - q)))))
/-- no char of the range above 255: len; the places written hold each char's low byte -/
theorem law (l : Launch) (b : Addr) (A : Cell) (d : Addr) (B : Cell) (o q len : Nat) : Law l yN 5 5 0 0 yB 7 (some .int) site (P b A d B o q len) (E b A d B o q len) (copyLocs d q len) 0 0 := by
  refine Law.of_walk (plainFor_of_name (by decide +kernel)) (by decide +kernel) (by decide +kernel) (by decide) (fun _ _ h => by rw [h.1]; rfl) (fun _ U U' hal hh h => ⟨h.1, h.2.1.mv hal hh, h.2.2.1.mv hal hh, h.2.2.2⟩) (fun r U U' V V' h1 hal h2 h => ⟨h.1, h.2.elim fun B' q => ⟨B', q.1.mv h1 h2, q.2⟩⟩) ?_
  intro p e s m args below meth c s₁ X0 hexec hbytes hml hret hlk hnm hown hh0 W hP
  obtain ⟨rfl, hA, hB, hne, l1, l2, hp⟩ := hP
  have c1 : Steps p.tables e below (s₁.setTop (entryFrame m #[.ref b, .int (Int32.ofNat o), .ref d, .int (Int32.ofNat q), .int (Int32.ofNat len)] 7)) (s₁.setTop (mkF m 0 #[.val (.ref b), .val (.int (Int32.ofNat o)), .val (.ref d), .val (.int (Int32.ofNat q)), .val (.int (Int32.ofNat len)), .unset, .unset] [])) := entry rfl
  have hA0 := hA.1.mv X0.warmed.alike hh0
  have hB0 := hB.mv X0.warmed.alike hh0
  have a31 := hA.1.2.2.2
  have c2 : Steps p.tables e below (s₁.setTop (entryFrame m #[.ref b, .int (Int32.ofNat o), .ref d, .int (Int32.ofNat q), .int (Int32.ofNat len)] 7)) (s₁.setTop (mkF m 3 #[.val (.ref b), .val (.int (Int32.ofNat o)), .val (.ref d), .val (.int (Int32.ofNat q)), .val (.int (Int32.ofNat len)), .val (.int 0), .unset] [])) := c1.trans (by
    refine iconstV X0.here hexec rfl 0 (hb hbytes d0) (by decide) ?_
    refine XS.istore X0.here hexec rfl (hb hbytes d1) rfl rfl ?_
    exact Steps.refl _)
  have loop : ∀ (r i : Nat), i + r = len → ∀ (z : Slot), (z = .unset ∨ ∃ w, z = .val w ∧ w.category = 1) → ∀ (Tl : State) (Bk : Cell), Stand p l e { frames := 0, locals := 0, cells := 0, slots := 0 } s m #[.ref b, .int (Int32.ofNat o), .ref d, .int (Int32.ofNat q), .int (Int32.ofNat len)] below meth c Tl ([] ++ copyLocs d q i) 0 0 → Put d Bk s₁ Tl → Laid B Bk q (q + i) (fun j => Value.int (lo8 (cv A (o + (j - q))))) →
      Steps p.tables e below (s₁.setTop (entryFrame m #[.ref b, .int (Int32.ofNat o), .ref d, .int (Int32.ofNat q), .int (Int32.ofNat len)] 7)) (Tl.setTop (mkF m 3 #[.val (.ref b), .val (.int (Int32.ofNat (o + i))), .val (.ref d), .val (.int (Int32.ofNat (q + i))), .val (.int (Int32.ofNat len)), .val (.int (Int32.ofNat i)), z] [])) → ∃ (T' : State) (B' : Cell) (z' : Slot), Stand p l e { frames := 0, locals := 0, cells := 0, slots := 0 } s m #[.ref b, .int (Int32.ofNat o), .ref d, .int (Int32.ofNat q), .int (Int32.ofNat len)] below meth c T' ([] ++ copyLocs d q len) 0 0 ∧ Put d B' s₁ T' ∧ Laid B B' q (q + len) (fun j => Value.int (lo8 (cv A (o + (j - q))))) ∧
      Steps p.tables e below (s₁.setTop (entryFrame m #[.ref b, .int (Int32.ofNat o), .ref d, .int (Int32.ofNat q), .int (Int32.ofNat len)] 7)) (T'.setTop (mkF m 3 #[.val (.ref b), .val (.int (Int32.ofNat (o + len))), .val (.ref d), .val (.int (Int32.ofNat (q + len))), .val (.int (Int32.ofNat len)), .val (.int (Int32.ofNat len)), z'] [])) := by
    intro r
    induction r with
    | zero =>
      intro i hi z hz Tl Bk Xl pl fl cl
      have hil : i = len := by omega
      rw [hil] at Xl fl cl
      exact ⟨Tl, Bk, z, Xl, pl, fl, cl⟩
    | succ r ih =>
      intro i hi z hz Tl Bk Xl pl fl cl
      have all := X0.warmed.alike.symm.trans Xl.warmed.alike
      have hAl := hA0.keep all (pl.other hne hA0.1)
      have hBk := hB0.like all pl.1 fl.1 fl.2.1 fl.2.2.1
      have hlt : q + i < Bk.slots.size := by rw [fl.2.2.1]; omega
      have c3 : Steps p.tables e below (s₁.setTop (entryFrame m #[.ref b, .int (Int32.ofNat o), .ref d, .int (Int32.ofNat q), .int (Int32.ofNat len)] 7)) (Tl.setTop (mkF m 12 #[.val (.ref b), .val (.int (Int32.ofNat (o + i))), .val (.ref d), .val (.int (Int32.ofNat (q + i))), .val (.int (Int32.ofNat len)), .val (.int (Int32.ofNat i)), z] [.int (Int32.ofNat (o + i)), .ref b])) := cl.trans (by
        refine XS.iload Xl.here hexec rfl (hb hbytes d3) rfl ?_
        refine XS.iload Xl.here hexec rfl (hb hbytes d5) rfl ?_
        refine XS.icmpNo Xl.here hexec rfl (hb hbytes d7) rfl (ii_ge_f (lt32 (by omega) (by omega))) ?_
        refine XS.aloadN Xl.here hexec rfl (hb hbytes d10) rfl rfl ?_
        refine XS.iloadN Xl.here hexec rfl (hb hbytes d11) rfl ?_
        exact Steps.refl _)
      have c4 : Steps p.tables e below (s₁.setTop (entryFrame m #[.ref b, .int (Int32.ofNat o), .ref d, .int (Int32.ofNat q), .int (Int32.ofNat len)] 7)) (Tl.setTop (mkF m 13 #[.val (.ref b), .val (.int (Int32.ofNat (o + i))), .val (.ref d), .val (.int (Int32.ofNat (q + i))), .val (.int (Int32.ofNat len)), .val (.int (Int32.ofNat i)), z] [.int (cv A (o + i))])) := c3.trans (by
        refine Xl.aget hexec hAl rfl (hA.get (i := o + i) (by omega)) rfl rfl (hb hbytes d12) ?_
        exact Steps.refl _)
      have c5 : Steps p.tables e below (s₁.setTop (entryFrame m #[.ref b, .int (Int32.ofNat o), .ref d, .int (Int32.ofNat q), .int (Int32.ofNat len)] 7)) (Tl.setTop (mkF m 15 #[.val (.ref b), .val (.int (Int32.ofNat (o + i))), .val (.ref d), .val (.int (Int32.ofNat (q + i))), .val (.int (Int32.ofNat len)), .val (.int (Int32.ofNat i)), .val (.int (cv A (o + i)))] [])) := c4.trans (by
        refine XS.istoreS Xl.here hexec rfl (hb hbytes d13) rfl rfl hz ?_
        exact Steps.refl _)
      have c6 : Steps p.tables e below (s₁.setTop (entryFrame m #[.ref b, .int (Int32.ofNat o), .ref d, .int (Int32.ofNat q), .int (Int32.ofNat len)] 7)) (Tl.setTop (mkF m 31 #[.val (.ref b), .val (.int (Int32.ofNat (o + i))), .val (.ref d), .val (.int (Int32.ofNat (q + i))), .val (.int (Int32.ofNat len)), .val (.int (Int32.ofNat i)), .val (.int (cv A (o + i)))] [.int (lo8 (cv A (o + i))), .int (Int32.ofNat (q + i)), .ref d])) := c5.trans (by
        refine XS.iload Xl.here hexec rfl (hb hbytes d15) rfl ?_
        refine sipushV Xl.here hexec rfl 255 (hb hbytes d17) (by decide) ?_
        refine XS.icmpYes Xl.here hexec rfl (pc0 := 20) rfl (hb hbytes d20) rfl (ii_le_t (hp i (by omega))) (by decide) rfl ?_
        refine XS.aloadN Xl.here hexec rfl (hb hbytes d26) rfl rfl ?_
        refine XS.iloadN Xl.here hexec rfl (hb hbytes d27) rfl ?_
        refine XS.iload Xl.here hexec rfl (hb hbytes d28) rfl ?_
        refine i2b Xl.here hexec rfl (hb hbytes d30) rfl ?_
        exact Steps.refl _)
      obtain ⟨T7, X7, p7, st7⟩ := Xl.aput hexec hBk rfl hlt rfl (fits_lo8 (cv A (o + i))) (g := (mkF m 31 #[.val (.ref b), .val (.int (Int32.ofNat (o + i))), .val (.ref d), .val (.int (Int32.ofNat (q + i))), .val (.int (Int32.ofNat len)), .val (.int (Int32.ofNat i)), .val (.int (cv A (o + i)))] [.int (lo8 (cv A (o + i))), .int (Int32.ofNat (q + i)), .ref d])) rfl (rest := []) rfl (hb hbytes d31)
      have c8 : Steps p.tables e below (s₁.setTop (entryFrame m #[.ref b, .int (Int32.ofNat o), .ref d, .int (Int32.ofNat q), .int (Int32.ofNat len)] 7)) (T7.setTop (mkF m 32 #[.val (.ref b), .val (.int (Int32.ofNat (o + i))), .val (.ref d), .val (.int (Int32.ofNat (q + i))), .val (.int (Int32.ofNat len)), .val (.int (Int32.ofNat i)), .val (.int (cv A (o + i)))] [])) := c6.trans (st7 _ (Steps.refl _))
      have c9 : Steps p.tables e below (s₁.setTop (entryFrame m #[.ref b, .int (Int32.ofNat o), .ref d, .int (Int32.ofNat q), .int (Int32.ofNat len)] 7)) (T7.setTop (mkF m 3 #[.val (.ref b), .val (.int (Int32.ofNat (o + i) + 1)), .val (.ref d), .val (.int (Int32.ofNat (q + i) + 1)), .val (.int (Int32.ofNat len)), .val (.int (Int32.ofNat i + 1)), .val (.int (cv A (o + i)))] [])) := c8.trans (by
        refine iincV X7.here hexec rfl 1 (hb hbytes d32) (by decide) rfl rfl ?_
        refine iincV X7.here hexec rfl 1 (hb hbytes d35) (by decide) rfl rfl ?_
        refine iincV X7.here hexec rfl 1 (hb hbytes d38) (by decide) rfl rfl ?_
        refine XS.goto X7.here hexec rfl (pc0 := 41) rfl (hb hbytes d41) (by decide) rfl ?_
        exact Steps.refl _)
      have c10 : Steps p.tables e below (s₁.setTop (entryFrame m #[.ref b, .int (Int32.ofNat o), .ref d, .int (Int32.ofNat q), .int (Int32.ofNat len)] 7)) (T7.setTop (mkF m 3 #[.val (.ref b), .val (.int (Int32.ofNat (o + (i + 1)))), .val (.ref d), .val (.int (Int32.ofNat (q + (i + 1)))), .val (.int (Int32.ofNat len)), .val (.int (Int32.ofNat (i + 1))), .val (.int (cv A (o + i)))] [])) := by
        have := c9
        rw [succ32, succ32, succ32] at this
        exact this
      exact ih (i + 1) (by omega) _ (Or.inr ⟨_, rfl, rfl⟩) T7 _ (by rw [copyLocs_step, ← List.append_assoc]; exact X7) (pl.trans p7) (fl.step (by omega) hlt (by simp)) c10
  obtain ⟨T9, B9, z9, X9, p9, f9, g9⟩ := loop len 0 (by omega) .unset (Or.inl rfl) s₁ B (by simpa [copyLocs] using X0) ⟨hB0.1, fun _ _ => rfl, rfl⟩ (Laid.zero _ _ _) c2
  have c11 : Steps p.tables e below (s₁.setTop (entryFrame m #[.ref b, .int (Int32.ofNat o), .ref d, .int (Int32.ofNat q), .int (Int32.ofNat len)] 7)) (T9.setTop (mkF m 46 #[.val (.ref b), .val (.int (Int32.ofNat (o + len))), .val (.ref d), .val (.int (Int32.ofNat (q + len))), .val (.int (Int32.ofNat len)), .val (.int (Int32.ofNat len)), z9] [.int (Int32.ofNat len)])) := g9.trans (by
    refine XS.iload X9.here hexec rfl (hb hbytes d3) rfl ?_
    refine XS.iload X9.here hexec rfl (hb hbytes d5) rfl ?_
    refine XS.icmpYes X9.here hexec rfl (pc0 := 7) rfl (hb hbytes d7) rfl (ii_ge_t (nlt32 (by omega) (Nat.le_refl _))) (by decide) rfl ?_
    refine XS.iload X9.here hexec rfl (hb hbytes d44) rfl ?_
    exact Steps.refl _)
  exact ⟨T9, some (.int (Int32.ofNat len)), _, _, _, X9, by simp, rfl, rfl, (fun h => by cases h), ⟨rfl, B9, p9.from hh0, f9⟩, fun fs hl => c11.trans (X9.ireturnOut hexec hret rfl (Or.inl rfl) (hb hbytes d46) hl)⟩
end Cmp5
namespace Cmp3
def yN : MethodName := ⟨"java/lang/StringUTF16", "compress", "([CII)[B"⟩
abbrev yB : ByteArray := jdk_52_method_16_code
theorem d0 : decode yB 0 = .ok (.iload_n 2, 1) := by decide +kernel
theorem d1 : decode yB 1 = .ok (.newarray .byte, 2) := by decide +kernel
theorem d3 : decode yB 3 = .ok (.astore_n 3, 1) := by decide +kernel
theorem d4 : decode yB 4 = .ok (.aload_n 0, 1) := by decide +kernel
theorem d5 : decode yB 5 = .ok (.iload_n 1, 1) := by decide +kernel
theorem d6 : decode yB 6 = .ok (.aload_n 3, 1) := by decide +kernel
theorem d7 : decode yB 7 = .ok (.iconst 0, 1) := by decide +kernel
theorem d8 : decode yB 8 = .ok (.iload_n 2, 1) := by decide +kernel
theorem d9 : decode yB 9 = .ok (.invokestatic 115, 3) := by decide +kernel
theorem d12 : decode yB 12 = .ok (.istore 4, 2) := by decide +kernel
theorem d14 : decode yB 14 = .ok (.iload 4, 2) := by decide +kernel
theorem d16 : decode yB 16 = .ok (.iload_n 2, 1) := by decide +kernel
theorem d17 : decode yB 17 = .ok (.if_icmp (.eq) 40, 3) := by decide +kernel
theorem d57 : decode yB 57 = .ok (.aload_n 3, 1) := by decide +kernel
theorem d58 : decode yB 58 = .ok (.areturn, 1) := by decide +kernel
def site : List Cond := [.arrayClass .byte, Cmp5.tab] ++ staticW U16 115 Cmp5.yN
def tab : Cond := tabOf yN yB 6 (some (.array .byte)) site
def P (b : Addr) (A : Cell) (o len : Nat) (args : Array Value) (s : State) : Prop := args = #[.ref b, .int (Int32.ofNat o), .int (Int32.ofNat len)] ∧ Ch b A s ∧ o + len ≤ A.slots.size ∧ len ≤ 536870912 ∧ ∀ i, i < len → ¬ 255 < cv A (o + i)
def E (b : Addr) (A : Cell) (o len : Nat) (r : Option Value) (s u : State) : Prop := NewArr .byte "[B" len (fun j => .int (lo8 (cv A (o + j)))) r s u ∧ u.heap.size = s.heap.size + 1
/-- no char of the range above 255: a new byte[] of their low bytes -/
theorem law (l : Launch) (b : Addr) (A : Cell) (o len : Nat) : Law l yN 3 3 1 18 yB 6 (some (.array .byte)) site (P b A o len) (E b A o len) [] 1 len := by
  refine Law.of_walk (plainFor_of_name (by decide +kernel)) (by decide +kernel) (by decide +kernel) (by decide) (fun _ _ h => by rw [h.1]; rfl) (fun _ U U' hal hh h => ⟨h.1, h.2.1.mv hal hh, h.2.2⟩) (fun r U U' V V' h1 hal h2 h => ⟨NewArr.mv r U U' V V' h1 hal h2 h.1, by rw [h1, h2]; exact h.2⟩) ?_
  intro p e s m args below meth c s₁ X0 hexec hbytes hml hret hlk hnm hown hh0 W hP
  obtain ⟨rfl, hA, l1, l2, hp⟩ := hP
  have a31 := hA.1.2.2.2
  have c1 : Steps p.tables e below (s₁.setTop (entryFrame m #[.ref b, .int (Int32.ofNat o), .int (Int32.ofNat len)] 6)) (s₁.setTop (mkF m 0 #[.val (.ref b), .val (.int (Int32.ofNat o)), .val (.int (Int32.ofNat len)), .unset, .unset, .unset] [])) := entry rfl
  have c2 : Steps p.tables e below (s₁.setTop (entryFrame m #[.ref b, .int (Int32.ofNat o), .int (Int32.ofNat len)] 6)) (s₁.setTop (mkF m 1 #[.val (.ref b), .val (.int (Int32.ofNat o)), .val (.int (Int32.ofNat len)), .unset, .unset, .unset] [.int (Int32.ofNat len)])) := c1.trans (by
    refine XS.iloadN X0.here hexec rfl (hb hbytes d0) rfl ?_
    exact Steps.refl _)
  obtain ⟨T3, B3, X3, ba3, bs3, bv3, bh3, bf3, st3⟩ := X0.anew hexec (atype := .byte) (wk W (.arrayClass .byte)) rfl (by show len * 1 ≤ _; omega) (by omega) (g := (mkF m 1 #[.val (.ref b), .val (.int (Int32.ofNat o)), .val (.int (Int32.ofNat len)), .unset, .unset, .unset] [.int (Int32.ofNat len)])) rfl (hb hbytes d1) (rest := []) rfl (Nat.le_refl _) (by show 0 + len ≤ len; omega)
  rw [hh0] at ba3 st3
  have kp3 : XT.Kept s T3 := (XT.Kept.of_eq hh0).push bh3
  have hA3 := hA.keep X3.warmed.alike (kp3 _ _ hA.1.1)
  have hne : b ≠ s.heap.size := hA.1.ne
  have c4 : Steps p.tables e below (s₁.setTop (entryFrame m #[.ref b, .int (Int32.ofNat o), .int (Int32.ofNat len)] 6)) (T3.setTop (mkF m 3 #[.val (.ref b), .val (.int (Int32.ofNat o)), .val (.int (Int32.ofNat len)), .unset, .unset, .unset] [.ref s.heap.size])) := c2.trans (st3 _ (Steps.refl _))
  have c5 : Steps p.tables e below (s₁.setTop (entryFrame m #[.ref b, .int (Int32.ofNat o), .int (Int32.ofNat len)] 6)) (T3.setTop (mkF m 9 #[.val (.ref b), .val (.int (Int32.ofNat o)), .val (.int (Int32.ofNat len)), .val (.ref s.heap.size), .unset, .unset] [.int (Int32.ofNat len), .int 0, .ref s.heap.size, .int (Int32.ofNat o), .ref b])) := c4.trans (by
    refine XS.astoreN X3.here hexec rfl (hb hbytes d3) rfl rfl rfl ?_
    refine XS.aloadN X3.here hexec rfl (hb hbytes d4) rfl rfl ?_
    refine XS.iloadN X3.here hexec rfl (hb hbytes d5) rfl ?_
    refine XS.aloadN X3.here hexec rfl (hb hbytes d6) rfl rfl ?_
    refine iconstV X3.here hexec rfl 0 (hb hbytes d7) (by decide) ?_
    refine XS.iloadN X3.here hexec rfl (hb hbytes d8) rfl ?_
    exact Steps.refl _)
  obtain ⟨v6, T6, X6, E6, g6⟩ := X3.callS hexec (Cmp5.law l b A s.heap.size B3 o 0 len) hown (wks W (staticW U16 115 Cmp5.yN)) (wk W Cmp5.tab) (W := 0) (Nat.le_of_ble_eq_true rfl) (Nat.le_of_ble_eq_true rfl) (Nat.le_refl _) (by show 0 + len + 0 ≤ len; omega) (g := (mkF m 9 #[.val (.ref b), .val (.int (Int32.ofNat o)), .val (.int (Int32.ofNat len)), .val (.ref s.heap.size), .unset, .unset] [.int (Int32.ofNat len), .int (Int32.ofNat 0), .ref s.heap.size, .int (Int32.ofNat o), .ref b])) rfl (by rw [hml]; rfl) c5 (argsL := [.ref b, .int (Int32.ofNat o), .ref s.heap.size, .int (Int32.ofNat 0), .int (Int32.ofNat len)]) (rest := []) rfl rfl (by show 2 * 0 + 0 ≤ _; decide) (hb hbytes d9) (⟨rfl, hA3, ba3, hne, l1, by rw [bs3]; simp, hp⟩)
  obtain ⟨rfl, B6, p6, f6⟩ := E6
  have c7 : Steps p.tables e below (s₁.setTop (entryFrame m #[.ref b, .int (Int32.ofNat o), .int (Int32.ofNat len)] 6)) (T6.setTop (mkF m 12 #[.val (.ref b), .val (.int (Int32.ofNat o)), .val (.int (Int32.ofNat len)), .val (.ref s.heap.size), .unset, .unset] [.int (Int32.ofNat len)])) := g6
  have c8 : Steps p.tables e below (s₁.setTop (entryFrame m #[.ref b, .int (Int32.ofNat o), .int (Int32.ofNat len)] 6)) (T6.setTop (mkF m 58 #[.val (.ref b), .val (.int (Int32.ofNat o)), .val (.int (Int32.ofNat len)), .val (.ref s.heap.size), .val (.int (Int32.ofNat len)), .unset] [.ref s.heap.size])) := c7.trans (by
    refine XS.istore X6.here hexec rfl (hb hbytes d12) rfl rfl ?_
    refine XS.iload X6.here hexec rfl (hb hbytes d14) rfl ?_
    refine XS.iloadN X6.here hexec rfl (hb hbytes d16) rfl ?_
    refine XS.icmpYes X6.here hexec rfl (pc0 := 17) rfl (hb hbytes d17) rfl (ii_eq_t rfl) (by decide) rfl ?_
    refine XS.aloadN X6.here hexec rfl (hb hbytes d57) rfl rfl ?_
    exact Steps.refl _)
  have X8 := X6.wide (L' := []) (cells' := 1) (slots' := len) (fun x hx hlt => by
    simp only [List.nil_append, copyLocs, List.mem_map, List.mem_range] at hx
    obtain ⟨i, -, rfl⟩ := hx
    exact absurd hlt (Nat.lt_irrefl _)) (Nat.le_refl _) (by omega)
  exact ⟨T6, some (.ref s.heap.size), _, _, _, X8, rfl, rfl, rfl, (fun h => by cases h), ⟨⟨rfl, B6, ba3.like (X3.warmed.alike.symm.trans X6.warmed.alike) p6.1 f6.1 f6.2.1 f6.2.2.1, f6.2.1.trans bv3, by rw [X6.warmed.alike.findClass, f6.1]; exact bf3, by rw [f6.2.2.1, bs3]; simp, fun j hj => by rw [f6.2.2.2 j, if_pos (by omega)]; rfl, kp3.put p6 (Nat.le_refl _)⟩, by rw [p6.2.2, bh3, hh0]; simp⟩, fun fs hl => c8.trans (X8.areturnOut hexec rfl hret rfl (hb hbytes d58) hl)⟩
end Cmp3
namespace CodL
def yN : MethodName := ⟨"java/lang/StringUTF16", "coderFromArrayLen", "([BI)B"⟩
abbrev yB : ByteArray := jdk_52_method_15_code
theorem d0 : decode yB 0 = .ok (.iload_n 1, 1) := by decide +kernel
theorem d1 : decode yB 1 = .ok (.aload_n 0, 1) := by decide +kernel
theorem d2 : decode yB 2 = .ok (.arraylength, 1) := by decide +kernel
theorem d3 : decode yB 3 = .ok (.isub, 1) := by decide +kernel
theorem d4 : decode yB 4 = .ok (.bipush 31, 2) := by decide +kernel
theorem d6 : decode yB 6 = .ok (.iushr, 1) := by decide +kernel
theorem d7 : decode yB 7 = .ok (.i2b, 1) := by decide +kernel
theorem d8 : decode yB 8 = .ok (.ireturn, 1) := by decide +kernel
def site : List Cond := []
def tab : Cond := tabOf yN yB 2 (some .byte) site
def P (d : Addr) (B : Cell) (args : Array Value) (s : State) : Prop := args = #[.ref d, .int (Int32.ofNat B.slots.size)] ∧ Arr .byte d B s
def E (r : Option Value) (s u : State) : Prop := XT.PureE (some (.int 0)) r s u
/-- an array as long as the number of chars: LATIN1 -/
theorem law (l : Launch) (d : Addr) (B : Cell) : Law l yN 2 2 0 0 yB 2 (some .byte) site (P d B) E [] 0 0 := by
  refine Law.of_walk (plainFor_of_name (by decide +kernel)) (by decide +kernel) (by decide +kernel) (by decide) (fun _ _ h => by rw [h.1]; rfl) (fun _ U U' hal hh h => ⟨h.1, h.2.mv hal hh⟩) (fun r U U' V V' h1 hal h2 h => XT.PureE.mv r U U' V V' h1 hal h2 h) ?_
  intro p e s m args below meth c s₁ X0 hexec hbytes hml hret hlk hnm hown hh0 W hP
  obtain ⟨rfl, hB⟩ := hP
  have hB0 := hB.mv X0.warmed.alike hh0
  have c1 : Steps p.tables e below (s₁.setTop (entryFrame m #[.ref d, .int (Int32.ofNat B.slots.size)] 2)) (s₁.setTop (mkF m 0 #[.val (.ref d), .val (.int (Int32.ofNat B.slots.size))] [])) := entry rfl
  have c2 : Steps p.tables e below (s₁.setTop (entryFrame m #[.ref d, .int (Int32.ofNat B.slots.size)] 2)) (s₁.setTop (mkF m 2 #[.val (.ref d), .val (.int (Int32.ofNat B.slots.size))] [.ref d, .int (Int32.ofNat B.slots.size)])) := c1.trans (by
    refine XS.iloadN X0.here hexec rfl (hb hbytes d0) rfl ?_
    refine XS.aloadN X0.here hexec rfl (hb hbytes d1) rfl rfl ?_
    exact Steps.refl _)
  have c3 : Steps p.tables e below (s₁.setTop (entryFrame m #[.ref d, .int (Int32.ofNat B.slots.size)] 2)) (s₁.setTop (mkF m 8 #[.val (.ref d), .val (.int (Int32.ofNat B.slots.size))] [.int (lo8 (ushr (Int32.ofNat B.slots.size - Int32.ofNat B.slots.size) 31))])) := c2.trans (by
    refine X0.alen hexec hB0 rfl rfl (hb hbytes d2) ?_
    refine XS.isub X0.here hexec rfl (hb hbytes d3) rfl ?_
    refine bipushV X0.here hexec rfl 31 (hb hbytes d4) (by decide) ?_
    refine iushr X0.here hexec rfl (hb hbytes d6) rfl ?_
    refine i2b X0.here hexec rfl (hb hbytes d7) rfl ?_
    exact Steps.refl _)
  have e0 : lo8 (ushr (Int32.ofNat B.slots.size - Int32.ofNat B.slots.size) 31) = 0 := by rw [Int32.sub_self]; decide
  rw [e0] at c3
  exact ⟨s₁, some (.int 0), _, _, _, X0, rfl, rfl, rfl, (fun h => by cases h), ⟨rfl, hh0⟩, fun fs hl => c3.trans (X0.ireturnOut hexec hret rfl (Or.inr (Or.inr (Or.inl rfl))) (hb hbytes d8) hl)⟩
end CodL
/-- the String at a is Latin-1 over a new byte[] (the heap's one new cell): the low bytes of the len chars of A from o on; every cell but a is kept -/
def Got (a : Addr) (D : Cell) (fV fC : Field) (A : Cell) (o len : Nat) (r : Option Value) (s u : State) : Prop := r = none ∧ ∃ D' V : Cell, Blank "java/lang/String" a D' u ∧ Same D D' [fV.slot, fC.slot] ∧ D'.slots[fV.slot]? = some (.ref s.heap.size) ∧ D'.slots[fC.slot]? = some (.int 0) ∧ Arr .byte s.heap.size V u ∧ V.vm = .none ∧ u.vm.findClass "[B" = some V.cls ∧ V.slots.size = len ∧ (∀ j, j < len → V.slots[j]? = some (.int (lo8 (cv A (o + j))))) ∧ (∀ (y : Addr) (c : Cell), y ≠ a → s.heap[y]? = some c → u.heap[y]? = some c) ∧ u.heap.size = s.heap.size + 1
theorem Got.mv {a : Addr} {D A : Cell} {fV fC : Field} {o len : Nat} : ∀ r (U U' V V' : State), U'.heap = U.heap → V.vm.Alike V'.vm → V'.heap = V.heap → Got a D fV fC A o len r U V → Got a D fV fC A o len r U' V' :=
  fun r U U' V V' h1 hal h2 ⟨e0, D', X, a1, a2, a3, a4, a5, a6, a7, a8, a9, a10, a11⟩ => ⟨e0, D', X, a1.mv hal h2, a2, by rw [h1]; exact a3, a4, by rw [h1]; exact a5.mv hal h2, a6, by rw [hal.findClass]; exact a7, a8, a9, by rw [h1, h2]; exact a10, by rw [h1, h2]; exact a11⟩
namespace New4
def yN : MethodName := ⟨"java/lang/String", "<init>", "([CIILjava/lang/Void;)V"⟩
abbrev yB : ByteArray := jdk_42_method_149_code
theorem d0 : decode yB 0 = .ok (.aload_n 0, 1) := by decide +kernel
theorem d1 : decode yB 1 = .ok (.invokespecial 1, 3) := by decide +kernel
theorem d4 : decode yB 4 = .ok (.iload_n 3, 1) := by decide +kernel
theorem d5 : decode yB 5 = .ok (.ifCond (.ne) 22, 3) := by decide +kernel
theorem d27 : decode yB 27 = .ok (.getstatic 38, 3) := by decide +kernel
theorem d30 : decode yB 30 = .ok (.ifCond (.eq) 28, 3) := by decide +kernel
theorem d33 : decode yB 33 = .ok (.aload_n 1, 1) := by decide +kernel
theorem d34 : decode yB 34 = .ok (.iload_n 2, 1) := by decide +kernel
theorem d35 : decode yB 35 = .ok (.iload_n 3, 1) := by decide +kernel
theorem d36 : decode yB 36 = .ok (.invokestatic 177, 3) := by decide +kernel
theorem d39 : decode yB 39 = .ok (.astore 5, 2) := by decide +kernel
theorem d41 : decode yB 41 = .ok (.aload_n 0, 1) := by decide +kernel
theorem d42 : decode yB 42 = .ok (.aload 5, 2) := by decide +kernel
theorem d44 : decode yB 44 = .ok (.iload_n 3, 1) := by decide +kernel
theorem d45 : decode yB 45 = .ok (.invokestatic 47, 3) := by decide +kernel
theorem d48 : decode yB 48 = .ok (.putfield 15, 3) := by decide +kernel
theorem d51 : decode yB 51 = .ok (.aload_n 0, 1) := by decide +kernel
theorem d52 : decode yB 52 = .ok (.aload 5, 2) := by decide +kernel
theorem d54 : decode yB 54 = .ok (.putfield 9, 3) := by decide +kernel
theorem d57 : decode yB 57 = .ok (.return_, 1) := by decide +kernel
def site : List Cond := [.fieldLink "java/lang/String" 38 "java/lang/String" "COMPACT_STRINGS" "Z", Cmp3.tab, CodL.tab, .laysFinal "java/lang/String" "java/lang/String" "value" "[B", .fieldLink "java/lang/String" 9 "java/lang/String" "value" "[B", .laysFinal "java/lang/String" "java/lang/String" "coder" "B", .fieldLink "java/lang/String" 15 "java/lang/String" "coder" "B"] ++ objW "java/lang/String" 1 ++ staticW "java/lang/String" 177 Cmp3.yN ++ staticW "java/lang/String" 47 CodL.yN
def tab : Cond := tabOf yN yB 6 none site
def P (a : Addr) (D : Cell) (fV fC : Field) (b : Addr) (A : Cell) (z : Int32) (o len : Nat) (args : Array Value) (s : State) : Prop := args = #[.ref a, .ref b, .int (Int32.ofNat o), .int (Int32.ofNat len), .null] ∧ Blank "java/lang/String" a D s ∧ Found "java/lang/String" "value" "[B" fV s ∧ Found "java/lang/String" "coder" "B" fC s ∧ Ch b A s ∧ StaticIs s "java/lang/String" "COMPACT_STRINGS" "Z" (.int z) ∧ ¬ z = 0 ∧ 0 < len ∧ o + len ≤ A.slots.size ∧ len ≤ 536870912 ∧ ∀ i, i < len → ¬ 255 < cv A (o + i)
def E (a : Addr) (D : Cell) (fV fC : Field) (A : Cell) (o len : Nat) (r : Option Value) (s u : State) : Prop := Got a D fV fC A o len r s u
/-- len > 0, no char of the range above 255: a Latin-1 String of their low bytes -/
theorem law (l : Launch) (a : Addr) (D : Cell) (fV fC : Field) (b : Addr) (A : Cell) (z : Int32) (o len : Nat) : Law l yN 5 4 2 35 yB 6 none site (P a D fV fC b A z o len) (E a D fV fC A o len) [⟨a, fC.slot⟩, ⟨a, fV.slot⟩] 1 len := by
  refine Law.of_walk (plainFor_of_name (by decide +kernel)) (by decide +kernel) (by decide +kernel) (by decide) (fun _ _ h => by rw [h.1]; rfl) (fun _ U U' hal hh h => ⟨h.1, h.2.1.mv hal hh, h.2.2.1.al hal, h.2.2.2.1.al hal, h.2.2.2.2.1.mv hal hh, h.2.2.2.2.2.1.there hal hh, h.2.2.2.2.2.2⟩) (fun r U U' V V' h1 hal h2 h => Got.mv r U U' V V' h1 hal h2 h) ?_
  intro p e s m args below meth c s₁ X0 hexec hbytes hml hret hlk hnm hown hh0 W hP
  obtain ⟨rfl, hB, f1, f2, hA, s1, hz, l0, l1, l2, hp⟩ := hP
  have a31 := hA.1.2.2.2
  have c1 : Steps p.tables e below (s₁.setTop (entryFrame m #[.ref a, .ref b, .int (Int32.ofNat o), .int (Int32.ofNat len), .null] 6)) (s₁.setTop (mkF m 0 #[.val (.ref a), .val (.ref b), .val (.int (Int32.ofNat o)), .val (.int (Int32.ofNat len)), .val .null, .unset] [])) := entry rfl
  have c2 : Steps p.tables e below (s₁.setTop (entryFrame m #[.ref a, .ref b, .int (Int32.ofNat o), .int (Int32.ofNat len), .null] 6)) (s₁.setTop (mkF m 1 #[.val (.ref a), .val (.ref b), .val (.int (Int32.ofNat o)), .val (.int (Int32.ofNat len)), .val .null, .unset] [.ref a])) := c1.trans (by
    refine XS.aloadN X0.here hexec rfl (hb hbytes d0) rfl rfl ?_
    exact Steps.refl _)
  obtain ⟨T3, X3, q3, st3⟩ := X0.oinit hexec hown (wks W (objW "java/lang/String" 1)) (g := (mkF m 1 #[.val (.ref a), .val (.ref b), .val (.int (Int32.ofNat o)), .val (.int (Int32.ofNat len)), .val .null, .unset] [.ref a])) rfl (by rw [hml]; rfl) (rest := []) rfl (hb hbytes d1) (W := 0) (by show 2 * 0 + 0 ≤ _; decide) (Nat.le_of_ble_eq_true rfl) (Nat.le_of_ble_eq_true rfl)
  have hh3 := q3.trans hh0
  have c4 : Steps p.tables e below (s₁.setTop (entryFrame m #[.ref a, .ref b, .int (Int32.ofNat o), .int (Int32.ofNat len), .null] 6)) (T3.setTop (mkF m 27 #[.val (.ref a), .val (.ref b), .val (.int (Int32.ofNat o)), .val (.int (Int32.ofNat len)), .val .null, .unset] [])) := (c2.trans (st3 _ (Steps.refl _))).trans (by
    refine XS.iloadN X3.here hexec rfl (hb hbytes d4) rfl ?_
    refine XS.ifYes X3.here hexec rfl (pc0 := 5) rfl (hb hbytes d5) rfl (i0_ne_t (nz32 (by omega) l0)) (by decide) rfl ?_
    exact Steps.refl _)
  obtain ⟨T5, X5, q5, st5⟩ := X3.sget hexec hown (wk W (.fieldLink "java/lang/String" 38 "java/lang/String" "COMPACT_STRINGS" "Z")) s1 (fun _ _ h => by rw [hh3]; exact h) (g := (mkF m 27 #[.val (.ref a), .val (.ref b), .val (.int (Int32.ofNat o)), .val (.int (Int32.ofNat len)), .val .null, .unset] [])) rfl (hb hbytes d27)
  have hh5 := q5.trans hh3
  have c6 : Steps p.tables e below (s₁.setTop (entryFrame m #[.ref a, .ref b, .int (Int32.ofNat o), .int (Int32.ofNat len), .null] 6)) (T5.setTop (mkF m 30 #[.val (.ref a), .val (.ref b), .val (.int (Int32.ofNat o)), .val (.int (Int32.ofNat len)), .val .null, .unset] [.int z])) := c4.trans (st5 _ (Steps.refl _))
  have c7 : Steps p.tables e below (s₁.setTop (entryFrame m #[.ref a, .ref b, .int (Int32.ofNat o), .int (Int32.ofNat len), .null] 6)) (T5.setTop (mkF m 36 #[.val (.ref a), .val (.ref b), .val (.int (Int32.ofNat o)), .val (.int (Int32.ofNat len)), .val .null, .unset] [.int (Int32.ofNat len), .int (Int32.ofNat o), .ref b])) := c6.trans (by
    refine XS.ifNo X5.here hexec rfl (hb hbytes d30) rfl (i0_eq_f hz) ?_
    refine XS.aloadN X5.here hexec rfl (hb hbytes d33) rfl rfl ?_
    refine XS.iloadN X5.here hexec rfl (hb hbytes d34) rfl ?_
    refine XS.iloadN X5.here hexec rfl (hb hbytes d35) rfl ?_
    exact Steps.refl _)
  obtain ⟨v8, T8, X8, E8, g8⟩ := X5.callS hexec (Cmp3.law l b A o len) hown (wks W (staticW "java/lang/String" 177 Cmp3.yN)) (wk W Cmp3.tab) (W := 0) (Nat.le_of_ble_eq_true rfl) (Nat.le_of_ble_eq_true rfl) (Nat.le_refl _) (by show 0 + len ≤ len; omega) (g := (mkF m 36 #[.val (.ref a), .val (.ref b), .val (.int (Int32.ofNat o)), .val (.int (Int32.ofNat len)), .val .null, .unset] [.int (Int32.ofNat len), .int (Int32.ofNat o), .ref b])) rfl (by rw [hml]; rfl) c7 (argsL := [.ref b, .int (Int32.ofNat o), .int (Int32.ofNat len)]) (rest := []) rfl rfl (by show 2 * 0 + 0 ≤ _; decide) (hb hbytes d36) (⟨rfl, hA.mv X5.warmed.alike hh5, l1, l2, hp⟩)
  obtain ⟨e8, z8⟩ := E8
  obtain ⟨rfl, N, n1, n2, n3, n4, n5, n6⟩ := NewArr.mv _ T5 s _ _ hh5.symm (Vm.Alike.refl _) rfl e8
  rw [hh5] at z8
  have hB1 := hB.keep X8.warmed.alike (n6 _ _ hB.1)
  have hne : s.heap.size ≠ a := (Nat.ne_of_lt (Array.getElem?_eq_some_iff.mp hB.1).1).symm
  have c9 : Steps p.tables e below (s₁.setTop (entryFrame m #[.ref a, .ref b, .int (Int32.ofNat o), .int (Int32.ofNat len), .null] 6)) (T8.setTop (mkF m 39 #[.val (.ref a), .val (.ref b), .val (.int (Int32.ofNat o)), .val (.int (Int32.ofNat len)), .val .null, .unset] [.ref s.heap.size])) := g8
  have c10 : Steps p.tables e below (s₁.setTop (entryFrame m #[.ref a, .ref b, .int (Int32.ofNat o), .int (Int32.ofNat len), .null] 6)) (T8.setTop (mkF m 45 #[.val (.ref a), .val (.ref b), .val (.int (Int32.ofNat o)), .val (.int (Int32.ofNat len)), .val .null, .val (.ref s.heap.size)] [.int (Int32.ofNat N.slots.size), .ref s.heap.size, .ref a])) := by
    have hc : Steps p.tables e below (s₁.setTop (entryFrame m #[.ref a, .ref b, .int (Int32.ofNat o), .int (Int32.ofNat len), .null] 6)) (T8.setTop (mkF m 45 #[.val (.ref a), .val (.ref b), .val (.int (Int32.ofNat o)), .val (.int (Int32.ofNat len)), .val .null, .val (.ref s.heap.size)] [.int (Int32.ofNat len), .ref s.heap.size, .ref a])) := c9.trans (by
      refine XS.astore X8.here hexec rfl (hb hbytes d39) rfl rfl rfl ?_
      refine XS.aloadN X8.here hexec rfl (hb hbytes d41) rfl rfl ?_
      refine XS.aload X8.here hexec rfl (hb hbytes d42) rfl rfl ?_
      refine XS.iloadN X8.here hexec rfl (hb hbytes d44) rfl ?_
      exact Steps.refl _)
    rw [n4]; exact hc
  obtain ⟨v11, T11, X11, E11, g11⟩ := X8.callS hexec (CodL.law l s.heap.size N) hown (wks W (staticW "java/lang/String" 47 CodL.yN)) (wk W CodL.tab) (W := 1) (Nat.le_of_ble_eq_true rfl) (Nat.le_of_ble_eq_true rfl) (Nat.le_refl _) (by show 0 + len + 0 ≤ len; omega) (g := (mkF m 45 #[.val (.ref a), .val (.ref b), .val (.int (Int32.ofNat o)), .val (.int (Int32.ofNat len)), .val .null, .val (.ref s.heap.size)] [.int (Int32.ofNat N.slots.size), .ref s.heap.size, .ref a])) rfl (by rw [hml]; rfl) c10 (argsL := [.ref s.heap.size, .int (Int32.ofNat N.slots.size)]) (rest := [.ref a]) rfl rfl (by show 2 * 0 + (1 + 0) ≤ _; decide) (hb hbytes d45) (⟨rfl, n1⟩)
  obtain ⟨rfl, q11⟩ := E11
  have hB11 := hB1.mv (X8.warmed.alike.symm.trans X11.warmed.alike) q11
  have c12 : Steps p.tables e below (s₁.setTop (entryFrame m #[.ref a, .ref b, .int (Int32.ofNat o), .int (Int32.ofNat len), .null] 6)) (T11.setTop (mkF m 48 #[.val (.ref a), .val (.ref b), .val (.int (Int32.ofNat o)), .val (.int (Int32.ofNat len)), .val .null, .val (.ref s.heap.size)] [.int 0, .ref a])) := g11
  obtain ⟨T13, X13, p13, bl13, sl13, st13⟩ := X11.finit hexec hown (wk W (.fieldLink "java/lang/String" 15 "java/lang/String" "coder" "B")) (Or.inr ⟨_, (wk W (.laysFinal "java/lang/String" "java/lang/String" "coder" "B"))⟩) (Or.inl ⟨rfl, hnm⟩) f2 (Or.inl rfl) hB11 (t := .byte) (by decide +kernel) rfl (g := (mkF m 48 #[.val (.ref a), .val (.ref b), .val (.int (Int32.ofNat o)), .val (.int (Int32.ofNat len)), .val .null, .val (.ref s.heap.size)] [.int 0, .ref a])) rfl (rest := []) rfl (hb hbytes d48)
  have c14 : Steps p.tables e below (s₁.setTop (entryFrame m #[.ref a, .ref b, .int (Int32.ofNat o), .int (Int32.ofNat len), .null] 6)) (T13.setTop (mkF m 54 #[.val (.ref a), .val (.ref b), .val (.int (Int32.ofNat o)), .val (.int (Int32.ofNat len)), .val .null, .val (.ref s.heap.size)] [.ref s.heap.size, .ref a])) := (c12.trans (st13 _ (Steps.refl _))).trans (by
    refine XS.aloadN X13.here hexec rfl (hb hbytes d51) rfl rfl ?_
    refine XS.aload X13.here hexec rfl (hb hbytes d52) rfl rfl ?_
    exact Steps.refl _)
  obtain ⟨T15, X15, p15, bl15, sl15, st15⟩ := X13.finit hexec hown (wk W (.fieldLink "java/lang/String" 9 "java/lang/String" "value" "[B")) (Or.inr ⟨_, (wk W (.laysFinal "java/lang/String" "java/lang/String" "value" "[B"))⟩) (Or.inl ⟨rfl, hnm⟩) f1 (Or.inl rfl) bl13 (t := (.array .byte)) (by decide +kernel) rfl (g := (mkF m 54 #[.val (.ref a), .val (.ref b), .val (.int (Int32.ofNat o)), .val (.int (Int32.ofNat len)), .val .null, .val (.ref s.heap.size)] [.ref s.heap.size, .ref a])) rfl (rest := []) rfl (hb hbytes d54)
  have c16 : Steps p.tables e below (s₁.setTop (entryFrame m #[.ref a, .ref b, .int (Int32.ofNat o), .int (Int32.ofNat len), .null] 6)) (T15.setTop (mkF m 57 #[.val (.ref a), .val (.ref b), .val (.int (Int32.ofNat o)), .val (.int (Int32.ofNat len)), .val .null, .val (.ref s.heap.size)] [])) := c14.trans (st15 _ (Steps.refl _))
  have ap := apart (Or.inr ⟨_, (wk W (.laysFinal "java/lang/String" "java/lang/String" "value" "[B"))⟩) (Or.inr ⟨_, (wk W (.laysFinal "java/lang/String" "java/lang/String" "coder" "B"))⟩) f1 f2 (t₁ := .array .byte) (t₂ := .byte) (by decide +kernel) (by decide +kernel) (by decide)
  have al := X8.warmed.alike.symm.trans X15.warmed.alike
  have n7 : T11.heap[s.heap.size]? = some N := by rw [q11]; exact n1.1
  exact ⟨T15, none, _, _, _, X15, by simp, rfl, by omega, (fun _ => rfl), ⟨rfl, _, N, bl15, ((Same.refl D _).set _ (by simp)).set _ (by simp), sl15, (Cell.slots_setSlot_ne _ ap).trans sl13, n1.keep al (p15.other hne (p13.other hne n7)), n2, by rw [al.findClass]; exact n3, n4, n5, fun y c h1 h2 => p15.other h1 (p13.other h1 (by rw [q11]; exact n6 y c h2)), by rw [p15.2.2, p13.2.2, q11]; exact z8⟩, fun fs hl => c16.trans (X15.returnOut hexec hret (hb hbytes d57) hl)⟩
end New4
namespace New1
def yN : MethodName := ⟨"java/lang/String", "<init>", "([C)V"⟩
abbrev yB : ByteArray := jdk_42_method_3_code
theorem d0 : decode yB 0 = .ok (.aload_n 0, 1) := by decide +kernel
theorem d1 : decode yB 1 = .ok (.aload_n 1, 1) := by decide +kernel
theorem d2 : decode yB 2 = .ok (.iconst 0, 1) := by decide +kernel
theorem d3 : decode yB 3 = .ok (.aload_n 1, 1) := by decide +kernel
theorem d4 : decode yB 4 = .ok (.arraylength, 1) := by decide +kernel
theorem d5 : decode yB 5 = .ok (.aconst_null, 1) := by decide +kernel
theorem d6 : decode yB 6 = .ok (.invokespecial 27, 3) := by decide +kernel
theorem d9 : decode yB 9 = .ok (.return_, 1) := by decide +kernel
def site : List Cond := [New4.tab] ++ initW "java/lang/String" 27 New4.yN
def tab : Cond := tabOf yN yB 2 none site
def P (a : Addr) (D : Cell) (fV fC : Field) (b : Addr) (A : Cell) (z : Int32) (args : Array Value) (s : State) : Prop := args = #[.ref a, .ref b] ∧ Blank "java/lang/String" a D s ∧ Found "java/lang/String" "value" "[B" fV s ∧ Found "java/lang/String" "coder" "B" fC s ∧ Ch b A s ∧ StaticIs s "java/lang/String" "COMPACT_STRINGS" "Z" (.int z) ∧ ¬ z = 0 ∧ 0 < A.slots.size ∧ A.slots.size ≤ 536870912 ∧ ∀ i, i < A.slots.size → ¬ 255 < cv A i
def E (a : Addr) (D : Cell) (fV fC : Field) (A : Cell) (r : Option Value) (s u : State) : Prop := Got a D fV fC A 0 A.slots.size r s u
/-- new String(chars), not empty, no char above 255: a Latin-1 String of their low bytes -/
theorem law (l : Launch) (a : Addr) (D : Cell) (fV fC : Field) (b : Addr) (A : Cell) (z : Int32) : Law l yN 2 1 3 52 yB 2 none site (P a D fV fC b A z) (E a D fV fC A) [⟨a, fC.slot⟩, ⟨a, fV.slot⟩] 1 A.slots.size := by
  refine Law.of_walk (plainFor_of_name (by decide +kernel)) (by decide +kernel) (by decide +kernel) (by decide) (fun _ _ h => by rw [h.1]; rfl) (fun _ U U' hal hh h => ⟨h.1, h.2.1.mv hal hh, h.2.2.1.al hal, h.2.2.2.1.al hal, h.2.2.2.2.1.mv hal hh, h.2.2.2.2.2.1.there hal hh, h.2.2.2.2.2.2⟩) (fun r U U' V V' h1 hal h2 h => Got.mv r U U' V V' h1 hal h2 h) ?_
  intro p e s m args below meth c s₁ X0 hexec hbytes hml hret hlk hnm hown hh0 W hP
  obtain ⟨rfl, hB, f1, f2, hA, s1, hz, l0, l2, hp⟩ := hP
  have c1 : Steps p.tables e below (s₁.setTop (entryFrame m #[.ref a, .ref b] 2)) (s₁.setTop (mkF m 0 #[.val (.ref a), .val (.ref b)] [])) := entry rfl
  have c2 : Steps p.tables e below (s₁.setTop (entryFrame m #[.ref a, .ref b] 2)) (s₁.setTop (mkF m 6 #[.val (.ref a), .val (.ref b)] [.null, .int (Int32.ofNat A.slots.size), .int 0, .ref b, .ref a])) := c1.trans (by
    refine XS.aloadN X0.here hexec rfl (hb hbytes d0) rfl rfl ?_
    refine XS.aloadN X0.here hexec rfl (hb hbytes d1) rfl rfl ?_
    refine iconstV X0.here hexec rfl 0 (hb hbytes d2) (by decide) ?_
    refine XS.aloadN X0.here hexec rfl (hb hbytes d3) rfl rfl ?_
    refine X0.alen hexec (hA.1.mv X0.warmed.alike hh0) rfl rfl (hb hbytes d4) ?_
    refine XS.aconstNull X0.here hexec rfl (hb hbytes d5) ?_
    exact Steps.refl _)
  obtain ⟨v3, T3, X3, E3, g3⟩ := X0.callN hexec (New4.law l a D fV fC b A z 0 A.slots.size) rfl hown (wks W (initW "java/lang/String" 27 New4.yN)) (W New4.tab (by simp only [site, List.mem_cons, List.mem_append, true_or, or_true])) (W := 0) (Nat.le_of_ble_eq_true rfl) (Nat.le_of_ble_eq_true rfl) (Nat.le_refl _) (by show 0 + A.slots.size ≤ A.slots.size; omega) (g := (mkF m 6 #[.val (.ref a), .val (.ref b)] [.null, .int (Int32.ofNat A.slots.size), .int (Int32.ofNat 0), .ref b, .ref a])) rfl (by rw [hml]; rfl) c2 (argsL := [.ref b, .int (Int32.ofNat 0), .int (Int32.ofNat A.slots.size), .null]) (rest := []) rfl rfl (by show 2 * 0 + 0 ≤ _; decide) (hb hbytes d6) (⟨rfl, hB.mv X0.warmed.alike hh0, f1.al X0.warmed.alike, f2.al X0.warmed.alike, hA.mv X0.warmed.alike hh0, s1.there X0.warmed.alike hh0, hz, l0, by omega, l2, fun i hi => by rw [Nat.zero_add]; exact hp i hi⟩)
  have e0 := Got.mv _ s₁ s _ _ hh0.symm (Vm.Alike.refl _) rfl E3
  obtain rfl := e0.1
  have c4 : Steps p.tables e below (s₁.setTop (entryFrame m #[.ref a, .ref b] 2)) (T3.setTop (mkF m 9 #[.val (.ref a), .val (.ref b)] [])) := g3
  exact ⟨T3, none, _, _, _, X3, by simp, rfl, by omega, (fun _ => rfl), e0, fun fs hl => c4.trans (X3.returnOut hexec hret (hb hbytes d9) hl)⟩
theorem pays {l : Launch} {R : Room} {p : Program} {e : Env} {below : List Frame} {s : State} {sargs : Array Value} {len W : Nat} (a : Addr) (D : Cell) (fV fC : Field) (b : Addr) (A : Cell) (z : Int32) (htab : tab.before sargs s = true) (hfr : 4 ≤ R.frames) (hlo : W + 65 ≤ R.locals) :
    Back l R p e below s sargs yN len W (fun A₁ a₁ => A₁.cells + 1 ≤ R.cells ∧ A₁.slots + A.slots.size ≤ R.slots ∧ P a D fV fC b A z a₁ A₁.U) (fun A₁ _ v₁ B₁ => E a D fV fC A v₁ A₁.U B₁.U ∧ B₁.locs = A₁.locs ++ [⟨a, fC.slot⟩, ⟨a, fV.slot⟩] ∧ B₁.cells = A₁.cells + 1 ∧ B₁.slots = A₁.slots + A.slots.size) :=
  (law l a D fV fC b A z).pays htab hfr (by omega)
end New1
end StrChars
namespace StrChars.Road
open Jvm Sem ClassFile Op Lib Jvm.Stand Jvm.Free Jvm.Free.XT
open Jvm.Lib.Cold (StaticIs)
abbrev ST : String := "java/lang/String"
/-- every table word that New1's law asks, flat -/
abbrev words : List Jvm.Cond := [.code New1.yN New1.yB 2 none, .initialized ST, .methodLink ST 27 New4.yN, .instanceMethod New4.yN,
  .code New4.yN New4.yB 6 none, .fieldLink ST 38 ST "COMPACT_STRINGS" "Z", .laysFinal ST ST "value" "[B", .fieldLink ST 9 ST "value" "[B", .laysFinal ST ST "coder" "B", .fieldLink ST 15 ST "coder" "B",
  .methodLink ST 1 Lib.objectInit, .instanceMethod Lib.objectInit, .code Lib.objectInit ⟨#[0xb1]⟩ 1 none, .methodLink ST 177 Cmp3.yN, .static Cmp3.yN, .methodLink ST 47 CodL.yN, .static CodL.yN,
  .code Cmp3.yN Cmp3.yB 6 (some (.array .byte)), .initialized U16, .arrayClass .byte, .methodLink U16 115 Cmp5.yN, .static Cmp5.yN, .code Cmp5.yN Cmp5.yB 7 (some .int), .code CodL.yN CodL.yB 2 (some .byte)]
theorem tab_of {a : Array Value} {s : State} (h : ∀ w ∈ words, w.before a s = true) : New1.tab.before a s = true := by
  have h5 : Cmp5.tab.before a s = true := unparts (wk h (.code Cmp5.yN Cmp5.yB 7 (some .int))) (wks h (.initialized Cmp5.yN.cls :: Cmp5.site))
  have hc : CodL.tab.before a s = true := unparts (wk h (.code CodL.yN CodL.yB 2 (some .byte))) (wks h (.initialized CodL.yN.cls :: CodL.site))
  have q5 : ∀ w ∈ Cmp5.tab :: words, w.before a s = true := fun w hw => (List.mem_cons.mp hw).elim (fun e => e ▸ h5) (h w)
  have h3 : Cmp3.tab.before a s = true := unparts (wk q5 (.code Cmp3.yN Cmp3.yB 6 (some (.array .byte)))) (wks q5 (.initialized Cmp3.yN.cls :: Cmp3.site))
  have q3 : ∀ w ∈ Cmp3.tab :: CodL.tab :: words, w.before a s = true := fun w hw => (List.mem_cons.mp hw).elim (fun e => e ▸ h3) fun hw => (List.mem_cons.mp hw).elim (fun e => e ▸ hc) (h w)
  have h4 : New4.tab.before a s = true := unparts (wk q3 (.code New4.yN New4.yB 6 none)) (wks q3 (.initialized New4.yN.cls :: New4.site))
  have q4 : ∀ w ∈ New4.tab :: words, w.before a s = true := fun w hw => (List.mem_cons.mp hw).elim (fun e => e ▸ h4) (h w)
  exact unparts (wk q4 (.code New1.yN New1.yB 2 none)) (wks q4 (.initialized New1.yN.cls :: New1.site))
/-- the words ride from the start Z to the walk's own state -/
theorem moved {Z s : State} {a0 args : Array Value} (hZ : Z.Warmed39 s.vm) (hw : ∀ d ∈ words, d.before a0 Z = true) : ∀ d ∈ words, d.before args s = true := fun d hd => by
  have q := hw d hd
  have t : ∀ d ∈ words, d = .arrayClass .byte ∨ (d.onTables && d.keepsFace) = true := by decide +kernel
  rcases t d hd with rfl | t
  · exact RoadKit.mvA hZ q
  · exact RoadKit.mv hZ q t
/-- WHAT COMES BACK, over the tables of the start Z: h the heap at the call, h' behind it -/
def Q (Z : State) (x : Addr) (A : Cell) (h : Heap) (v : Option Value) (h' : Heap) (L : List Loc) : Prop := v = none ∧ (∀ y ∈ L, y.base = x) ∧ RoadKit.Keep h h' [x] ∧ h'.size = h.size + 1 ∧ RoadKit.Exa Z h' x ST ∧ RoadKit.Fld Z h' x ST "value" "[B" (.ref h.size) ∧ RoadKit.Fld Z h' x ST "coder" "B" (.int 0) ∧
  (∃ V : Cell, RoadKit.Arr Z h' h.size V .byte ∧ V.vm = .none ∧ Z.vm.findClass "[B" = some V.cls ∧ V.slots.size = A.slots.size ∧ ∀ j, j < A.slots.size → V.slots[j]? = some (.int (lo8 (cv A j)))) ∧
  ∀ (O n d : String) (w : Value), RoadKit.Fld Z h x O n d w → RoadKit.slotOf Z O n d ≠ RoadKit.slotOf Z ST "value" "[B" → RoadKit.slotOf Z O n d ≠ RoadKit.slotOf Z ST "coder" "B" → RoadKit.Fld Z h' x O n d w
/-- **new String(chars) AT A CALL, IN THE ROAD'S FORM**: for specialBack behind newO: x the fresh String, b the char[] with the cell A -/
theorem back {p : Program} {l : Launch} {e : Env} {R : Room} {s : State} {args : Array Value} {below : List Frame} {len W : Nat} {Z : State} {a0 : Array Value} {h : Heap} (hZ : Z.Warmed39 s.vm) (hw : ∀ d ∈ words, d.before a0 Z = true) {kI : Nat} (wi : (Jvm.Cond.instantiable ST kI).before a0 Z = true)
    {x b : Addr} {A : Cell} {z : Int32} {v0 c0 : Value} (E : RoadKit.Exa Z h x ST) (V : RoadKit.Fld Z h x ST "value" "[B" v0) (C : RoadKit.Fld Z h x ST "coder" "B" c0) (K : RoadKit.Arr Z h b A .char) (hty : Typed .char A) (S : RoadKit.Sta Z h ST "COMPACT_STRINGS" "Z" (.int z)) (hz : ¬ z = 0)
    (l0 : 0 < A.slots.size) (l2 : A.slots.size ≤ 536870912) (hp : ∀ i, i < A.slots.size → ¬ 255 < cv A i) (hfr : 4 ≤ R.frames) (hlo : W + 65 ≤ R.locals) :
    Back l R p e below s args New1.yN len W (fun P a => a = #[.ref x, .ref b] ∧ P.U.heap = h ∧ P.cells + 1 ≤ R.cells ∧ P.slots + A.slots.size ≤ R.slots)
      (fun P _ v B => ∃ L, Q Z x A h v B.U.heap L ∧ B.locs = P.locs ++ L ∧ B.cells = P.cells + 1 ∧ B.slots = P.slots + A.slots.size) := by
  intro m meth c P g ig mk a X hg hsize hdg hW hn hp'
  obtain ⟨rfl, rfl, r1, r2⟩ := hp'
  have al : Z.vm.Alike P.U.vm := hZ.alike.trans X.warmed.alike
  obtain ⟨D, cfV, kV, iV, fV, hD, gV, stV, knV, obV, asV, slV⟩ := id V
  obtain ⟨D', cfC, kC, iC, fC, hD', gC, stC, -, -, asC, slC⟩ := id C
  cases hD.symm.trans hD'
  obtain ⟨D2, kD, e1, e2, e3, e4, e5⟩ := id E
  cases hD.symm.trans e1
  obtain ⟨c2, k2, i1, i2, i3, -⟩ := Cond.instantiable_spec wi
  cases e2.symm.trans i1
  cases e3.symm.trans i2
  obtain ⟨kU, u1, u2⟩ := al.2.2 _ _ e3
  have hB : Blank ST x D P.U := ⟨hD, ⟨knV, fun q hq => by rw [hq] at obV; cases obV⟩, by rw [al.findClass]; exact e2, kU, u1, by rw [u2]; exact i3, by rw [u2]; exact e5 i3⟩
  have F1 : Found ST "value" "[B" fV P.U := ⟨SBG.found_only al ⟨cfV, kV, iV, gV⟩, stV⟩
  have F2 : Found ST "coder" "B" fC P.U := ⟨SBG.found_only al ⟨cfC, kC, iC, gC⟩, stC⟩
  have hA : Ch b A P.U := ⟨⟨K.1, State.isArrayOf_alike al K.2.1, K.2.2, by omega⟩, hty⟩
  have hS : StaticIs P.U ST "COMPACT_STRINGS" "Z" (.int z) := by
    obtain ⟨cfS, iS, kS, fS, st, cS, t1, t2, t3, t4, t5, t6, t7⟩ := S
    exact StaticIs.there (s := { Z with heap := P.U.heap }) ⟨cfS, iS, kS, fS, st, cS, t1, t2, t3, t4, t5, (fun q => by rw [q] at t6; cases t6), t7⟩ al rfl
  obtain ⟨v, B, X', ⟨⟨hv, E', V', q1, q2, q3, q4, q5, q6, q7, q8, q9, q10, q11⟩, hl, hc, hs⟩, st⟩ := New1.pays x D fV fC b A z (tab_of (moved hZ hw)) hfr hlo m meth c P g ig mk _ X hg hsize hdg hW hn ⟨r1, r2, rfl, hB, F1, F2, hA, hS, hz, l0, l2, hp⟩
  have al' : Z.vm.Alike B.U.vm := hZ.alike.trans X'.warmed.alike
  have hsz : E'.slots.size = D.slots.size := by
    obtain ⟨-, -, -, kB, w1, w2, w3⟩ := q1
    obtain ⟨kB', y1, y2⟩ := al'.2.2 _ _ e3
    rw [q2.2.1] at w1
    cases w1.symm.trans y1
    rw [w3, e5 i3, y2]
  refine ⟨v, B, X', ⟨_, ⟨hv, ?_, ⟨by omega, fun y cy hy hn' => q10 y cy (by simpa using hn') hy, fun y cy hy => ?_⟩, q11, ⟨E', _, q1.1, by rw [q2.2.1]; exact e2, by rw [q2.2.1]; exact e3, by rw [q2.1]; exact obV, fun _ => by rw [hsz]; exact e5 i3⟩,
    ⟨E', cfV, kV, iV, fV, q1.1, gV, stV, by rw [q2.1]; exact knV, by rw [q2.1]; exact obV, by rw [q2.2.1]; exact asV, q3⟩, ⟨E', cfC, kC, iC, fC, q1.1, gC, stC, by rw [q2.1]; exact knV, by rw [q2.1]; exact obV, by rw [q2.2.1]; exact asC, q4⟩,
    ⟨V', ⟨q5.1, State.isArrayOf_alike al'.symm q5.2.1, q5.2.2.1⟩, q6, by rw [← al'.findClass]; exact q7, q8, fun j hj => by have := q9 j hj; rwa [Nat.zero_add] at this⟩, fun O n d w F n1 n2 => ?_⟩, hl, hc, hs⟩, st⟩
  · intro y hy
    simp only [List.mem_cons, List.not_mem_nil, or_false] at hy
    rcases hy with rfl | rfl <;> rfl
  · by_cases q : y = x
    · subst q
      cases hD.symm.trans hy
      exact ⟨E', q1.1, q2.2.1, q2.1, hsz⟩
    · exact ⟨cy, q10 y cy q hy, rfl, rfl, rfl⟩
  · obtain ⟨D3, cf, k, i, f, g1, g2, g3, g4, g5, g6, g7⟩ := F
    cases hD.symm.trans g1
    simp only [RoadKit.slotOf, g2, gV, gC, Option.map_some, Option.getD_some] at n1 n2
    exact ⟨E', cf, k, i, f, q1.1, g2, g3, by rw [q2.1]; exact g4, by rw [q2.1]; exact g5, by rw [q2.2.1]; exact g6, by rw [q2.2.2 f.slot (by simp [n1, n2])]; exact g7⟩
end StrChars.Road
namespace StrChars.Road
open Jvm Sem ClassFile Op Lib Jvm.Stand Jvm.Free Jvm.Free.XT
/-- WHAT COMES BACK, the byte[] as a list of values -/
def QA (Z : State) (x : Addr) (zn : Int32) (cs : List Int32) (h : Heap) (v : Option Value) (h' : Heap) (L : List Loc) : Prop := v = none ∧ (∀ y ∈ L, y.base = x) ∧ RoadKit.Keep h h' [x] ∧ h'.size = h.size + 1 ∧ RoadKit.Exa Z h' x ST ∧ RoadKit.Fld Z h' x ST "value" "[B" (.ref h.size) ∧ RoadKit.Fld Z h' x ST "coder" "B" (.int 0) ∧
  (∃ kb, Z.vm.findClass "[B" = some kb ∧ RoadKit.Arv Z h' h.size kb .byte zn (cs.map fun c => .int (lo8 c)) (.int 0)) ∧
  ∀ (O n d : String) (w : Value), RoadKit.Fld Z h x O n d w → RoadKit.slotOf Z O n d ≠ RoadKit.slotOf Z ST "value" "[B" → RoadKit.slotOf Z O n d ≠ RoadKit.slotOf Z ST "coder" "B" → RoadKit.Fld Z h' x O n d w
/-- **new String(chars) AT A CALL, THE ARRAYS AS LISTS**: the char[] at b holds cs, not empty, no char above 255 -/
theorem backArv {p : Program} {l : Launch} {e : Env} {R : Room} {s : State} {args : Array Value} {below : List Frame} {len W : Nat} {Z : State} {a0 : Array Value} {h : Heap} (hZ : Z.Warmed39 s.vm) (hw : ∀ d ∈ words, d.before a0 Z = true) {kI : Nat} (wi : (Jvm.Cond.instantiable ST kI).before a0 Z = true)
    {x b : Addr} {k : ClassId} {zn z : Int32} {cs : List Int32} {dv v0 c0 : Value} (E : RoadKit.Exa Z h x ST) (V : RoadKit.Fld Z h x ST "value" "[B" v0) (C : RoadKit.Fld Z h x ST "coder" "B" c0) (K : RoadKit.Arv Z h b k .char zn (cs.map Value.int) dv) (S : RoadKit.Sta Z h ST "COMPACT_STRINGS" "Z" (.int z)) (hz : ¬ z = 0)
    (hlen : zn.toNatClampNeg = cs.length) (h0 : 0 < cs.length) (hbig : cs.length ≤ 536870912) (hall : ∀ c ∈ cs, ¬ 255 < c) (hfr : 4 ≤ R.frames) (hlo : W + 65 ≤ R.locals) :
    Back l R p e below s args New1.yN len W (fun P a => a = #[.ref x, .ref b] ∧ P.U.heap = h ∧ P.cells + 1 ≤ R.cells ∧ P.slots + cs.length ≤ R.slots)
      (fun P _ v B => ∃ L, QA Z x zn cs h v B.U.heap L ∧ B.locs = P.locs ++ L ∧ B.cells = P.cells + 1 ∧ B.slots = P.slots + cs.length) := by
  obtain ⟨A, K1, K2, K3, K4, K5, K6⟩ := K
  have e : A.slots.size = cs.length := K3.trans hlen
  have hat : ∀ (i : Nat) (hi : i < cs.length), A.slots[i]? = some (.int cs[i]) := fun i hi => by rw [K5 i (by omega)]; simp [List.getD_eq_getElem?_getD, hi]
  have hcv : ∀ (i : Nat) (hi : i < cs.length), cv A i = cs[i] := fun i hi => by unfold cv; rw [hat i hi]
  have hty : Typed .char A := fun i v hv => by
    have hi : i < A.slots.size := (Array.getElem?_eq_some_iff.mp hv).1
    have q := K5 i hi
    rw [hv] at q
    rw [Option.some.inj q]
    exact K6 i hi
  refine Back.mono (back hZ hw wi E V C K1 hty S hz (by omega) (by omega) (fun i hi => by rw [hcv i (by omega)]; exact hall _ (List.getElem_mem _)) hfr hlo) (fun P a hp => ⟨hp.1, hp.2.1, hp.2.2.1, by rw [e]; exact hp.2.2.2⟩) (fun P a v B hp hq => ?_)
  obtain ⟨L, ⟨q1, q2, q3, q4, q5, q6, q7, ⟨V', v1, v2, v3, v4, v5⟩, q9⟩, hl, hc, hs⟩ := hq
  refine ⟨L, ⟨q1, q2, q3, q4, q5, q6, q7, ⟨V'.cls, v3, V', v1, rfl, by rw [v4, e, hlen], K4, fun i hi => ?_, fun i hi => ?_⟩, q9⟩, hl, hc, by rw [hs, e]⟩
  · have hi' : i < cs.length := by omega
    rw [v5 i (by omega), hcv i hi']; simp [List.getD_eq_getElem?_getD, hi']
  · have hi' : i < cs.length := by omega
    simp only [List.getD_eq_getElem?_getD, List.getElem?_map, List.getElem?_eq_getElem hi', Option.map_some, Option.getD_some]
    exact fits_lo8 _
end StrChars.Road
namespace StrChars.Road
open Jvm Sem ClassFile Op Lib Jvm.Stand Jvm.Free Jvm.Free.XT
/-- WHAT COMES BACK, in the writer's own shape -/
def QV (Z : State) (x : Addr) (N : Int32) (bs : List Int32) (h : Heap) (n0 : Nat) (v : Option Value) (h' : Heap) (L : List Loc) : Prop := v = none ∧ RoadKit.Fr n0 L ∧ RoadKit.Keep h h' [x] ∧ RoadKit.Exa Z h' x ST ∧ RoadKit.Fld Z h' x ST "coder" "B" (.int 0) ∧
  ∃ (t : Addr) (kb : ClassId), n0 ≤ t ∧ h.size ≤ t ∧ ¬ t = x ∧ RoadKit.Fld Z h' x ST "value" "[B" (.ref t) ∧ RoadKit.Arv Z h' t kb .byte N (bs.map Value.int) (.int 0)
/-- **new String(chars) AT A CALL, FOR THE WRITER**: a char[] of n known ints, each 0 to 255 -/
theorem backV {p : Program} {l : Launch} {e : Env} {R : Room} {s : State} {args : Array Value} {below : List Frame} {len W : Nat} {Z : State} {a0 : Array Value} {h : Heap} (hZ : Z.Warmed39 s.vm) (hw : ∀ d ∈ words, d.before a0 Z = true) {kI : Nat} (wi : (Jvm.Cond.instantiable ST kI).before a0 Z = true)
    {x b : Addr} {kC : ClassId} {cs bs : List Int32} {d v0 c0 : Value} {z N : Int32} {n n0 : Nat} (hx0 : n0 ≤ x) (hh0 : n0 ≤ h.size) (E : RoadKit.Exa Z h x ST) (V : RoadKit.Fld Z h x ST "value" "[B" v0) (C : RoadKit.Fld Z h x ST "coder" "B" c0) (K : RoadKit.Arv Z h b kC .char N (cs.map Value.int) d) (S : RoadKit.Sta Z h ST "COMPACT_STRINGS" "Z" (.int z)) (hz : ¬ z = 0)
    (hn : cs.length = n) (hN : N = Int32.ofNat n) (l0 : 0 < n) (l2 : n ≤ 4000) (hp : ∀ c ∈ cs, ¬ c < 0 ∧ ¬ (255 : Int32) < c) (hb : bs = cs.map (fun c => c.toInt8.toInt32)) (hfr : 4 ≤ R.frames) (hlo : W + 65 ≤ R.locals) :
    Back l R p e below s args (⟨"java/lang/String", "<init>", "([C)V"⟩ : MethodName) len W (fun P a => a = #[.ref x, .ref b] ∧ P.U.heap = h ∧ P.cells + 1 ≤ R.cells ∧ P.slots + n ≤ R.slots)
      (fun P _ v B => ∃ L, QV Z x N bs h n0 v B.U.heap L ∧ B.locs = P.locs ++ L ∧ B.cells = P.cells + 1 ∧ B.slots = P.slots + n) := by
  subst hn hN hb
  refine Back.mono (backArv hZ hw wi E V C K S hz (n32 (by omega)) l0 (by omega) (fun c hc => (hp c hc).2) hfr hlo) (fun P a hp => hp) (fun P a v B hp hq => ?_)
  obtain ⟨L, ⟨q1, q2, q3, q4, q5, q6, q7, ⟨kb, v1, v2⟩, q9⟩, hl, hc, hs⟩ := hq
  exact ⟨L, ⟨q1, fun y hy => by rw [q2 y hy]; exact hx0, q3, q5, q7, h.size, kb, hh0, Nat.le_refl _, Nat.ne_of_gt E.lt, q6, by rw [List.map_map]; exact v2⟩, hl, hc, hs⟩
end StrChars.Road
end Jvm.Pilot.@@N@@
namespace Jvm.Pilot.@@N@@
open Jvm Jvm.ClassFile Sem Op Lib Jvm.Free Jvm.Stand Jvm.LawKit Jvm.RoadKit Bundle Jvm.Pilot.@@N@@.Jvm.D
theorem own_pn28618716 : plainFor (⟨"java/lang/Record", "<init>", "()V"⟩ : MethodName) = true := by first | exact Jvm.Free.JP.mathPlain rfl (by decide +kernel) | exact plainFor_of_name (by first | (simp [plainName, overriddenIn]; done) | decide +kernel) | decide +kernel
theorem own_d9_0 : decode jdk_30_method_1_code 0 = .ok (.aload_n 0, 1) := by decide +kernel
theorem own_d9_1 : decode jdk_30_method_1_code 1 = .ok (.invokespecial 1, 3) := by decide +kernel
theorem own_d9_4 : decode jdk_30_method_1_code 4 = .ok (.return_, 1) := by decide +kernel
theorem own_ef_rm_rec (m : MethodId) (x0 : Addr) : entryFrame m #[(.ref x0)] 1 = mkF m 0 #[.val (.ref x0)] [] := by first | (simp [entryFrame, mkF, argsToLocals, Value.category]; done) | rfl
def Q_rm_rec (Z : State) (a1 : Nat) (h0 : Heap) (n0 : Nat) (v : Option Value) (h : Heap) (L : List Loc) : Prop := v = none ∧ Fr n0 L ∧ h = h0
set_option maxRecDepth 65536 in
set_option maxHeartbeats 40000000 in
theorem rm_rec (l : Launch) (Z : State) (a0 : Array Value) (hw : ∀ d ∈ tables_1, d.before a0 Z = true) (a1 : Nat) (h0 : Heap) (n0 : Nat) (Z0 : n0 ≤ h0.size)  :
    own_CT l Z (⟨"java/lang/Record", "<init>", "()V"⟩ : MethodName) jdk_30_method_1_code 1 none ({ frames := 1, cells := 0, slots := 0, locals := 12 } : Room) #[(.ref a1)] h0 (Q_rm_rec Z a1 h0 n0) := by
  refine own_of own_pn28618716 (Ls := #[.val (.ref a1)]) (fun m => own_ef_rm_rec m a1) ?_
  intro p e s m below meth c T0 X0 hx hby hml hown hnm hret hZ e0 hlk
  have hown : s.vm.findClass "java/lang/Record" = some m.cls := hown
  have N0 := Fr.nil n0
  refine own_via (T0.setTop (mkF m 1 #[.val (.ref a1)] [(.ref a1)])) (fun t k => XS.aloadN X0.here hx rfl (hb hby own_d9_0) rfl rfl k) ?_
  obtain ⟨T1, X1, e1, st1⟩ := initO X0 hx hZ hown (hw _ (List.mem_of_getElem? (i := 48) rfl)) (hw _ (List.mem_of_getElem? (i := 16) rfl)) (hw _ (List.mem_of_getElem? (i := 17) rfl)) e0 (g := (mkF m 1 #[.val (.ref a1)] [(.ref a1)])) rfl (by rw [hml]; rfl) rfl (hb hby own_d9_1) (by decide) (W := 0) (by show 2 * 0 + _ ≤ _; exact Nat.le_of_eq rfl) (by decide)
  refine own_via (T1.setTop (mkF m 4 #[.val (.ref a1)] [])) (st1) ?_
  exact own_ret0 X1 hx hlk hret (hb hby own_d9_4) e1 (⟨rfl, N0, rfl⟩) (by decide) (by decide)
theorem own_pn21551385 : plainFor (⟨"java/util/Map", "of", "()Ljava/util/Map;"⟩ : MethodName) = true := by first | exact Jvm.Free.JP.mathPlain rfl (by decide +kernel) | exact plainFor_of_name (by first | (simp [plainName, overriddenIn]; done) | decide +kernel) | decide +kernel
theorem own_d7_0 : decode jdk_72_method_26_code 0 = .ok (.getstatic 81, 3) := by decide +kernel
theorem own_d7_3 : decode jdk_72_method_26_code 3 = .ok (.areturn, 1) := by decide +kernel
theorem own_ef_rm_mapOf (m : MethodId)  : entryFrame m #[] 0 = mkF m 0 #[] [] := by first | (simp [entryFrame, mkF, argsToLocals, Value.category]; done) | rfl
def Q_rm_mapOf (Z : State) (em : Nat) (h0 : Heap) (n0 : Nat) (v : Option Value) (h : Heap) (L : List Loc) : Prop := v = some (.ref em) ∧ Fr n0 L ∧ h = h0
set_option maxRecDepth 65536 in
set_option maxHeartbeats 40000000 in
theorem rm_mapOf (l : Launch) (Z : State) (a0 : Array Value) (hw : ∀ d ∈ tables_1, d.before a0 Z = true) (em : Nat) (h0 : Heap) (n0 : Nat) (Z0 : n0 ≤ h0.size) (pf0 : Sta Z Z.heap "java/util/ImmutableCollections" "EMPTY_MAP" "Ljava/util/ImmutableCollections$MapN;" (.ref em)) (pf1 : Old Z n0 h0) :
    own_CT l Z (⟨"java/util/Map", "of", "()Ljava/util/Map;"⟩ : MethodName) jdk_72_method_26_code 0 (some (.object "java/util/Map")) ({ frames := 0, cells := 0, slots := 0, locals := 0 } : Room) #[] h0 (Q_rm_mapOf Z em h0 n0) := by
  refine own_of own_pn21551385 (Ls := #[]) (fun m => own_ef_rm_mapOf m ) ?_
  intro p e s m below meth c T0 X0 hx hby hml hown hnm hret hZ e0 hlk
  have hown : s.vm.findClass "java/util/Map" = some m.cls := hown
  have N0 := Fr.nil n0
  obtain ⟨T1, X1, e1, st1⟩ := getS X0 hx hZ (host := "") hown (hw _ (List.mem_of_getElem? (i := 38) rfl)) Via.refl e0 (pf0.ext pf1.2) (g := (mkF m 0 #[] [])) rfl (hb hby own_d7_0)
  refine own_via (T1.setTop (mkF m 3 #[] [(.ref em)])) (st1) ?_
  exact own_retA X1 hx hlk hret rfl rfl (hb hby own_d7_3) e1 (⟨rfl, N0, rfl⟩) (by decide) (by decide)
theorem own_pn63609814 : plainFor (⟨"java/util/Map", "copyOf", "(Ljava/util/Map;)Ljava/util/Map;"⟩ : MethodName) = true := by first | exact Jvm.Free.JP.mathPlain rfl (by decide +kernel) | exact plainFor_of_name (by first | (simp [plainName, overriddenIn]; done) | decide +kernel) | decide +kernel
theorem own_d10_0 : decode jdk_72_method_39_code 0 = .ok (.aload_n 0, 1) := by decide +kernel
theorem own_d10_1 : decode jdk_72_method_39_code 1 = .ok (.instanceof 101, 3) := by decide +kernel
theorem own_d10_4 : decode jdk_72_method_39_code 4 = .ok (.ifCond .eq 5, 3) := by decide +kernel
theorem own_d10_7 : decode jdk_72_method_39_code 7 = .ok (.aload_n 0, 1) := by decide +kernel
theorem own_d10_8 : decode jdk_72_method_39_code 8 = .ok (.areturn, 1) := by decide +kernel
theorem own_ef_rm_copyOf (m : MethodId) (x0 : Addr) : entryFrame m #[(.ref x0)] 1 = mkF m 0 #[.val (.ref x0)] [] := by first | (simp [entryFrame, mkF, argsToLocals, Value.category]; done) | rfl
def Q_rm_copyOf (Z : State) (a1 : Nat) (h0 : Heap) (n0 : Nat) (v : Option Value) (h : Heap) (L : List Loc) : Prop := v = some (.ref a1) ∧ Fr n0 L ∧ h = h0
set_option maxRecDepth 65536 in
set_option maxHeartbeats 40000000 in
theorem rm_copyOf (l : Launch) (Z : State) (a0 : Array Value) (hw : ∀ d ∈ tables_1, d.before a0 Z = true) (a1 : Nat) (h0 : Heap) (n0 : Nat) (Z0 : n0 ≤ h0.size) (pf0 : Exa Z h0 a1 "java/util/ImmutableCollections$MapN") :
    own_CT l Z (⟨"java/util/Map", "copyOf", "(Ljava/util/Map;)Ljava/util/Map;"⟩ : MethodName) jdk_72_method_39_code 1 (some (.object "java/util/Map")) ({ frames := 0, cells := 0, slots := 0, locals := 0 } : Room) #[(.ref a1)] h0 (Q_rm_copyOf Z a1 h0 n0) := by
  refine own_of own_pn63609814 (Ls := #[.val (.ref a1)]) (fun m => own_ef_rm_copyOf m a1) ?_
  intro p e s m below meth c T0 X0 hx hby hml hown hnm hret hZ e0 hlk
  have hown : s.vm.findClass "java/util/Map" = some m.cls := hown
  have N0 := Fr.nil n0
  have lt_a1 : @LT.lt Nat _ a1 h0.size := pf0.lt
  refine own_via (T0.setTop (mkF m 1 #[.val (.ref a1)] [(.ref a1)])) (fun t k => XS.aloadN X0.here hx rfl (hb hby own_d10_0) rfl rfl k) ?_
  obtain ⟨T1, X1, e1, st1⟩ := instY X0 hx hZ hown (hw _ (List.mem_of_getElem? (i := 52) rfl)) e0 (Ins.of_exa pf0 (hw _ (List.mem_of_getElem? (i := 53) rfl))) (g := (mkF m 1 #[.val (.ref a1)] [(.ref a1)])) rfl rfl (hb hby own_d10_1)
  refine own_via (T1.setTop (mkF m 4 #[.val (.ref a1)] [(.int (1 : Int32))])) (st1) ?_
  refine own_via (T1.setTop (mkF m 7 #[.val (.ref a1)] [])) (fun t k => XS.ifNo X1.here hx rfl (hb hby own_d10_4) rfl (by decide) k) ?_
  refine own_via (T1.setTop (mkF m 8 #[.val (.ref a1)] [(.ref a1)])) (fun t k => XS.aloadN X1.here hx rfl (hb hby own_d10_7) rfl rfl k) ?_
  exact own_retA X1 hx hlk hret rfl rfl (hb hby own_d10_8) e1 (⟨rfl, N0, rfl⟩) (by decide) (by decide)
theorem own_pn52666970 : plainFor (⟨"com/example/tendril/tendril/ejbql/Schema$Bean", "<init>", "(Ljava/lang/String;Ljava/lang/String;Ljava/lang/String;Ljava/util/Map;Ljava/util/Map;)V"⟩ : MethodName) = true := by first | exact Jvm.Free.JP.mathPlain rfl (by decide +kernel) | exact plainFor_of_name (by first | (simp [plainName, overriddenIn]; done) | decide +kernel) | decide +kernel
theorem own_d8_0 : decode prog_60_method_1_code 0 = .ok (.aload_n 0, 1) := by decide +kernel
theorem own_d8_1 : decode prog_60_method_1_code 1 = .ok (.invokespecial 1, 3) := by decide +kernel
theorem own_pd25328131 : parseMethodDescriptor "()V" = some ⟨[], none⟩ := by decide +kernel
theorem own_d8_4 : decode prog_60_method_1_code 4 = .ok (.aload 4, 2) := by decide +kernel
theorem own_d8_6 : decode prog_60_method_1_code 6 = .ok (.invokestatic 7, 3) := by decide +kernel
theorem own_pd58424785 : parseMethodDescriptor "(Ljava/util/Map;)Ljava/util/Map;" = some ⟨[(.object "java/util/Map")], some (.object "java/util/Map")⟩ := by decide +kernel
theorem own_d8_9 : decode prog_60_method_1_code 9 = .ok (.astore 4, 2) := by decide +kernel
theorem own_d8_11 : decode prog_60_method_1_code 11 = .ok (.aload 5, 2) := by decide +kernel
theorem own_d8_13 : decode prog_60_method_1_code 13 = .ok (.invokestatic 7, 3) := by decide +kernel
theorem own_d8_16 : decode prog_60_method_1_code 16 = .ok (.astore 5, 2) := by decide +kernel
theorem own_d8_18 : decode prog_60_method_1_code 18 = .ok (.aload_n 0, 1) := by decide +kernel
theorem own_d8_19 : decode prog_60_method_1_code 19 = .ok (.aload_n 1, 1) := by decide +kernel
theorem own_d8_20 : decode prog_60_method_1_code 20 = .ok (.putfield 13, 3) := by decide +kernel
theorem own_d8_23 : decode prog_60_method_1_code 23 = .ok (.aload_n 0, 1) := by decide +kernel
theorem own_d8_24 : decode prog_60_method_1_code 24 = .ok (.aload_n 2, 1) := by decide +kernel
theorem own_d8_25 : decode prog_60_method_1_code 25 = .ok (.putfield 19, 3) := by decide +kernel
theorem own_d8_28 : decode prog_60_method_1_code 28 = .ok (.aload_n 0, 1) := by decide +kernel
theorem own_d8_29 : decode prog_60_method_1_code 29 = .ok (.aload_n 3, 1) := by decide +kernel
theorem own_d8_30 : decode prog_60_method_1_code 30 = .ok (.putfield 22, 3) := by decide +kernel
theorem own_d8_33 : decode prog_60_method_1_code 33 = .ok (.aload_n 0, 1) := by decide +kernel
theorem own_d8_34 : decode prog_60_method_1_code 34 = .ok (.aload 4, 2) := by decide +kernel
theorem own_d8_36 : decode prog_60_method_1_code 36 = .ok (.putfield 25, 3) := by decide +kernel
theorem own_d8_39 : decode prog_60_method_1_code 39 = .ok (.aload_n 0, 1) := by decide +kernel
theorem own_d8_40 : decode prog_60_method_1_code 40 = .ok (.aload 5, 2) := by decide +kernel
theorem own_d8_42 : decode prog_60_method_1_code 42 = .ok (.putfield 29, 3) := by decide +kernel
theorem own_d8_45 : decode prog_60_method_1_code 45 = .ok (.return_, 1) := by decide +kernel
theorem own_ef_rm_bean (m : MethodId) (x0 : Addr) (x1 : Addr) (x4 : Addr) (x5 : Addr) : entryFrame m #[(.ref x0), (.ref x1), .null, .null, (.ref x4), (.ref x5)] 6 = mkF m 0 #[.val (.ref x0), .val (.ref x1), .val .null, .val .null, .val (.ref x4), .val (.ref x5)] [] := by first | (simp [entryFrame, mkF, argsToLocals, Value.category]; done) | rfl
def Q_rm_bean (Z : State) (a1 : Nat) (a2 : Nat) (em : Nat) (u0 : Value) (u1 : Value) (u2 : Value) (u3 : Value) (u4 : Value) (h0 : Heap) (n0 : Nat) (v : Option Value) (h : Heap) (L : List Loc) : Prop := v = none ∧ Fr n0 L ∧ Keep h0 h [a1] ∧ Exa Z h a1 "com/example/tendril/tendril/ejbql/Schema$Bean"
set_option maxRecDepth 65536 in
set_option maxHeartbeats 40000000 in
theorem rm_bean (l : Launch) (Z : State) (a0 : Array Value) (hw : ∀ d ∈ tables_1, d.before a0 Z = true) (a1 : Nat) (a2 : Nat) (em : Nat) (u0 : Value) (u1 : Value) (u2 : Value) (u3 : Value) (u4 : Value) (h0 : Heap) (n0 : Nat) (Z0 : n0 ≤ h0.size) (pf0 : Exa Z h0 a1 "com/example/tendril/tendril/ejbql/Schema$Bean") (pf1 : Exa Z h0 em "java/util/ImmutableCollections$MapN") (pf2 : Fld Z h0 a1 "com/example/tendril/tendril/ejbql/Schema$Bean" "ejbName" "Ljava/lang/String;" u0) (pf3 : Fld Z h0 a1 "com/example/tendril/tendril/ejbql/Schema$Bean" "abstractSchemaName" "Ljava/lang/String;" u1) (pf4 : Fld Z h0 a1 "com/example/tendril/tendril/ejbql/Schema$Bean" "localInterface" "Ljava/lang/String;" u2) (pf5 : Fld Z h0 a1 "com/example/tendril/tendril/ejbql/Schema$Bean" "cmpFields" "Ljava/util/Map;" u3) (pf6 : Fld Z h0 a1 "com/example/tendril/tendril/ejbql/Schema$Bean" "cmrFields" "Ljava/util/Map;" u4) (g1 : n0 ≤ a1) :
    own_CT l Z (⟨"com/example/tendril/tendril/ejbql/Schema$Bean", "<init>", "(Ljava/lang/String;Ljava/lang/String;Ljava/lang/String;Ljava/util/Map;Ljava/util/Map;)V"⟩ : MethodName) prog_60_method_1_code 6 none ({ frames := 2, cells := 0, slots := 0, locals := 24 } : Room) #[(.ref a1), (.ref a2), .null, .null, (.ref em), (.ref em)] h0 (Q_rm_bean Z a1 a2 em u0 u1 u2 u3 u4 h0 n0) := by
  refine own_of own_pn52666970 (Ls := #[.val (.ref a1), .val (.ref a2), .val .null, .val .null, .val (.ref em), .val (.ref em)]) (fun m => own_ef_rm_bean m a1 a2 em em) ?_
  intro p e s m below meth c T0 X0 hx hby hml hown hnm hret hZ e0 hlk
  have hown : s.vm.findClass "com/example/tendril/tendril/ejbql/Schema$Bean" = some m.cls := hown
  have N0 := Fr.nil n0
  have lt_a1 : @LT.lt Nat _ a1 h0.size := pf0.lt
  have lt_em : @LT.lt Nat _ em h0.size := pf1.lt
  refine own_via (T0.setTop (mkF m 1 #[.val (.ref a1), .val (.ref a2), .val .null, .val .null, .val (.ref em), .val (.ref em)] [(.ref a1)])) (fun t k => XS.aloadN X0.here hx rfl (hb hby own_d8_0) rfl rfl k) ?_
  obtain ⟨v1, T1, h1, L1, X1, e1, q1, st1⟩ := own_cI X0 hx hZ hown (hw _ (List.mem_of_getElem? (i := 43) rfl)) (hw _ (List.mem_of_getElem? (i := 44) rfl)) (hw _ (List.mem_of_getElem? (i := 47) rfl)) rfl (by decide) (W := 0) (own_bk (rm_rec l Z a0 hw a1 h0 n0 (by omega)) hZ (hw _ (List.mem_of_getElem? (i := 47) rfl)) (hw _ (List.mem_of_getElem? (i := 46) rfl)) (by decide) (by decide)) e0 (a := a1) (Ls := #[.val (.ref a1), .val (.ref a2), .val .null, .val .null, .val (.ref em), .val (.ref em)]) (by rw [hml]; rfl) (argsL := []) (rest := []) rfl (lenOf own_pd25328131 rfl) rfl (Nat.le_of_eq rfl) (hb hby own_d8_1) (by decide) (by decide)
  obtain ⟨rfl, Nq1, eq1⟩ := q1
  have N1 := Fr.app N0 Nq1
  replace e1 := e1.trans eq1
  refine own_via (T1.setTop (mkF m 4 #[.val (.ref a1), .val (.ref a2), .val .null, .val .null, .val (.ref em), .val (.ref em)] [])) (st1) ?_
  refine own_via (T1.setTop (mkF m 6 #[.val (.ref a1), .val (.ref a2), .val .null, .val .null, .val (.ref em), .val (.ref em)] [(.ref em)])) (fun t k => XS.aload X1.here hx rfl (hb hby own_d8_4) rfl rfl k) ?_
  obtain ⟨v2, T2, h2, L2, X2, e2, q2, st2⟩ := own_cS X1 hx hZ hown (hw _ (List.mem_of_getElem? (i := 49) rfl)) (hw _ (List.mem_of_getElem? (i := 50) rfl)) (hw _ (List.mem_of_getElem? (i := 36) rfl)) (hw _ (List.mem_of_getElem? (i := 51) rfl)) (by decide) (W := 0) (own_bk (rm_copyOf l Z a0 hw em h0 n0 (by omega) pf1) hZ (hw _ (List.mem_of_getElem? (i := 51) rfl)) (hw _ (List.mem_of_getElem? (i := 36) rfl)) (by decide) (by decide)) e1 (Ls := #[.val (.ref a1), .val (.ref a2), .val .null, .val .null, .val (.ref em), .val (.ref em)]) (by rw [hml]; rfl) (argsL := [(.ref em)]) (rest := []) rfl (lenOf own_pd58424785 rfl) rfl (Nat.le_of_eq rfl) (hb hby own_d8_6) (by decide) (by decide)
  obtain ⟨rfl, Nq2, eq2⟩ := q2
  have N2 := Fr.app N1 Nq2
  replace e2 := e2.trans eq2
  refine own_via (T2.setTop (mkF m 9 #[.val (.ref a1), .val (.ref a2), .val .null, .val .null, .val (.ref em), .val (.ref em)] [(.ref em)])) (st2) ?_
  refine own_via (T2.setTop (mkF m 11 #[.val (.ref a1), .val (.ref a2), .val .null, .val .null, .val (.ref em), .val (.ref em)] [])) (fun t k => XS.astore X2.here hx rfl (hb hby own_d8_9) rfl rfl (l' := #[.val (.ref a1), .val (.ref a2), .val .null, .val .null, .val (.ref em), .val (.ref em)]) rfl k) ?_
  refine own_via (T2.setTop (mkF m 13 #[.val (.ref a1), .val (.ref a2), .val .null, .val .null, .val (.ref em), .val (.ref em)] [(.ref em)])) (fun t k => XS.aload X2.here hx rfl (hb hby own_d8_11) rfl rfl k) ?_
  obtain ⟨v3, T3, h3, L3, X3, e3, q3, st3⟩ := own_cS X2 hx hZ hown (hw _ (List.mem_of_getElem? (i := 49) rfl)) (hw _ (List.mem_of_getElem? (i := 50) rfl)) (hw _ (List.mem_of_getElem? (i := 36) rfl)) (hw _ (List.mem_of_getElem? (i := 51) rfl)) (by decide) (W := 0) (own_bk (rm_copyOf l Z a0 hw em h0 n0 (by omega) pf1) hZ (hw _ (List.mem_of_getElem? (i := 51) rfl)) (hw _ (List.mem_of_getElem? (i := 36) rfl)) (by decide) (by decide)) e2 (Ls := #[.val (.ref a1), .val (.ref a2), .val .null, .val .null, .val (.ref em), .val (.ref em)]) (by rw [hml]; rfl) (argsL := [(.ref em)]) (rest := []) rfl (lenOf own_pd58424785 rfl) rfl (Nat.le_of_eq rfl) (hb hby own_d8_13) (by decide) (by decide)
  obtain ⟨rfl, Nq3, eq3⟩ := q3
  have N3 := Fr.app N2 Nq3
  replace e3 := e3.trans eq3
  refine own_via (T3.setTop (mkF m 16 #[.val (.ref a1), .val (.ref a2), .val .null, .val .null, .val (.ref em), .val (.ref em)] [(.ref em)])) (st3) ?_
  refine own_via (T3.setTop (mkF m 18 #[.val (.ref a1), .val (.ref a2), .val .null, .val .null, .val (.ref em), .val (.ref em)] [])) (fun t k => XS.astore X3.here hx rfl (hb hby own_d8_16) rfl rfl (l' := #[.val (.ref a1), .val (.ref a2), .val .null, .val .null, .val (.ref em), .val (.ref em)]) rfl k) ?_
  refine own_via (T3.setTop (mkF m 19 #[.val (.ref a1), .val (.ref a2), .val .null, .val .null, .val (.ref em), .val (.ref em)] [(.ref a1)])) (fun t k => XS.aloadN X3.here hx rfl (hb hby own_d8_18) rfl rfl k) ?_
  refine own_via (T3.setTop (mkF m 20 #[.val (.ref a1), .val (.ref a2), .val .null, .val .null, .val (.ref em), .val (.ref em)] [(.ref a2), (.ref a1)])) (fun t k => XS.aloadN X3.here hx rfl (hb hby own_d8_19) rfl rfl k) ?_
  obtain ⟨T4, h4, X4, e4, W4, st4⟩ := putF X3 hx hZ hown (host := "") (Or.inl (hw _ (List.mem_of_getElem? (i := 54) rfl))) Via.refl e3 pf2 pf0 (Or.inr ⟨(hw _ (List.mem_of_getElem? (i := 55) rfl)), rfl, hnm⟩) (hw _ (List.mem_of_getElem? (i := 3) rfl)) (ty := (.object "java/lang/String")) (by decide) rfl rfl (g := (mkF m 20 #[.val (.ref a1), .val (.ref a2), .val .null, .val .null, .val (.ref em), .val (.ref em)] [(.ref a2), (.ref a1)])) rfl rfl (hb hby own_d8_20)
  have N4 := Fr.snoc X4 N3 (show @LE.le Nat _ _ _ by omega)
  have sz_h4 : h4.size = h0.size := Wr.size W4
  have K_h4 : Keep h0 h4 [a1] := (Keep.refl h0 [a1]).wr W4 (Or.inl (List.mem_of_getElem? (i := 0) rfl))
  have f5 : Fld Z h4 a1 "com/example/tendril/tendril/ejbql/Schema$Bean" "ejbName" "Ljava/lang/String;" (.ref a2) := (pf2.same W4)
  refine own_via (T4.setTop (mkF m 23 #[.val (.ref a1), .val (.ref a2), .val .null, .val .null, .val (.ref em), .val (.ref em)] [])) (st4) ?_
  refine own_via (T4.setTop (mkF m 24 #[.val (.ref a1), .val (.ref a2), .val .null, .val .null, .val (.ref em), .val (.ref em)] [(.ref a1)])) (fun t k => XS.aloadN X4.here hx rfl (hb hby own_d8_23) rfl rfl k) ?_
  refine own_via (T4.setTop (mkF m 25 #[.val (.ref a1), .val (.ref a2), .val .null, .val .null, .val (.ref em), .val (.ref em)] [.null, (.ref a1)])) (fun t k => XS.aloadN X4.here hx rfl (hb hby own_d8_24) rfl rfl k) ?_
  have f6 : Fld Z h4 a1 "com/example/tendril/tendril/ejbql/Schema$Bean" "abstractSchemaName" "Ljava/lang/String;" u1 := (pf3.other W4 (Or.inr (slot_ne (Or.inr (hw _ (List.mem_of_getElem? (i := 57) rfl))) (Or.inr (hw _ (List.mem_of_getElem? (i := 55) rfl))) (by decide) (t := (.object "java/lang/String")) (t' := (.object "java/lang/String")) (by decide) (by decide))))
  have f7 : Exa Z h4 a1 "com/example/tendril/tendril/ejbql/Schema$Bean" := (pf0.wr W4)
  obtain ⟨T8, h8, X8, e8, W8, st8⟩ := putF X4 hx hZ hown (host := "") (Or.inl (hw _ (List.mem_of_getElem? (i := 56) rfl))) Via.refl e4 f6 f7 (Or.inr ⟨(hw _ (List.mem_of_getElem? (i := 57) rfl)), rfl, hnm⟩) (hw _ (List.mem_of_getElem? (i := 3) rfl)) (ty := (.object "java/lang/String")) (by decide) rfl rfl (g := (mkF m 25 #[.val (.ref a1), .val (.ref a2), .val .null, .val .null, .val (.ref em), .val (.ref em)] [.null, (.ref a1)])) rfl rfl (hb hby own_d8_25)
  have N8 := Fr.snoc X8 N4 (show @LE.le Nat _ _ _ by omega)
  have sz_h8 : h8.size = h4.size := Wr.size W8
  have K_h8 : Keep h0 h8 [a1] := K_h4.wr W8 (Or.inl (List.mem_of_getElem? (i := 0) rfl))
  have f9 : Fld Z h8 a1 "com/example/tendril/tendril/ejbql/Schema$Bean" "abstractSchemaName" "Ljava/lang/String;" .null := (f6.same W8)
  refine own_via (T8.setTop (mkF m 28 #[.val (.ref a1), .val (.ref a2), .val .null, .val .null, .val (.ref em), .val (.ref em)] [])) (st8) ?_
  refine own_via (T8.setTop (mkF m 29 #[.val (.ref a1), .val (.ref a2), .val .null, .val .null, .val (.ref em), .val (.ref em)] [(.ref a1)])) (fun t k => XS.aloadN X8.here hx rfl (hb hby own_d8_28) rfl rfl k) ?_
  refine own_via (T8.setTop (mkF m 30 #[.val (.ref a1), .val (.ref a2), .val .null, .val .null, .val (.ref em), .val (.ref em)] [.null, (.ref a1)])) (fun t k => XS.aloadN X8.here hx rfl (hb hby own_d8_29) rfl rfl k) ?_
  have f10 : Fld Z h8 a1 "com/example/tendril/tendril/ejbql/Schema$Bean" "localInterface" "Ljava/lang/String;" u2 := ((pf4.other W4 (Or.inr (slot_ne (Or.inr (hw _ (List.mem_of_getElem? (i := 59) rfl))) (Or.inr (hw _ (List.mem_of_getElem? (i := 55) rfl))) (by decide) (t := (.object "java/lang/String")) (t' := (.object "java/lang/String")) (by decide) (by decide)))).other W8 (Or.inr (slot_ne (Or.inr (hw _ (List.mem_of_getElem? (i := 59) rfl))) (Or.inr (hw _ (List.mem_of_getElem? (i := 57) rfl))) (by decide) (t := (.object "java/lang/String")) (t' := (.object "java/lang/String")) (by decide) (by decide))))
  have f11 : Exa Z h8 a1 "com/example/tendril/tendril/ejbql/Schema$Bean" := (f7.wr W8)
  obtain ⟨T12, h12, X12, e12, W12, st12⟩ := putF X8 hx hZ hown (host := "") (Or.inl (hw _ (List.mem_of_getElem? (i := 58) rfl))) Via.refl e8 f10 f11 (Or.inr ⟨(hw _ (List.mem_of_getElem? (i := 59) rfl)), rfl, hnm⟩) (hw _ (List.mem_of_getElem? (i := 3) rfl)) (ty := (.object "java/lang/String")) (by decide) rfl rfl (g := (mkF m 30 #[.val (.ref a1), .val (.ref a2), .val .null, .val .null, .val (.ref em), .val (.ref em)] [.null, (.ref a1)])) rfl rfl (hb hby own_d8_30)
  have N12 := Fr.snoc X12 N8 (show @LE.le Nat _ _ _ by omega)
  have sz_h12 : h12.size = h8.size := Wr.size W12
  have K_h12 : Keep h0 h12 [a1] := K_h8.wr W12 (Or.inl (List.mem_of_getElem? (i := 0) rfl))
  have f13 : Fld Z h12 a1 "com/example/tendril/tendril/ejbql/Schema$Bean" "localInterface" "Ljava/lang/String;" .null := (f10.same W12)
  refine own_via (T12.setTop (mkF m 33 #[.val (.ref a1), .val (.ref a2), .val .null, .val .null, .val (.ref em), .val (.ref em)] [])) (st12) ?_
  refine own_via (T12.setTop (mkF m 34 #[.val (.ref a1), .val (.ref a2), .val .null, .val .null, .val (.ref em), .val (.ref em)] [(.ref a1)])) (fun t k => XS.aloadN X12.here hx rfl (hb hby own_d8_33) rfl rfl k) ?_
  refine own_via (T12.setTop (mkF m 36 #[.val (.ref a1), .val (.ref a2), .val .null, .val .null, .val (.ref em), .val (.ref em)] [(.ref em), (.ref a1)])) (fun t k => XS.aload X12.here hx rfl (hb hby own_d8_34) rfl rfl k) ?_
  have f14 : Fld Z h12 a1 "com/example/tendril/tendril/ejbql/Schema$Bean" "cmpFields" "Ljava/util/Map;" u3 := (((pf5.other W4 (Or.inr (slot_ne (Or.inr (hw _ (List.mem_of_getElem? (i := 61) rfl))) (Or.inr (hw _ (List.mem_of_getElem? (i := 55) rfl))) (by decide) (t := (.object "java/util/Map")) (t' := (.object "java/lang/String")) (by decide) (by decide)))).other W8 (Or.inr (slot_ne (Or.inr (hw _ (List.mem_of_getElem? (i := 61) rfl))) (Or.inr (hw _ (List.mem_of_getElem? (i := 57) rfl))) (by decide) (t := (.object "java/util/Map")) (t' := (.object "java/lang/String")) (by decide) (by decide)))).other W12 (Or.inr (slot_ne (Or.inr (hw _ (List.mem_of_getElem? (i := 61) rfl))) (Or.inr (hw _ (List.mem_of_getElem? (i := 59) rfl))) (by decide) (t := (.object "java/util/Map")) (t' := (.object "java/lang/String")) (by decide) (by decide))))
  have f15 : Exa Z h12 a1 "com/example/tendril/tendril/ejbql/Schema$Bean" := (f11.wr W12)
  obtain ⟨T16, h16, X16, e16, W16, st16⟩ := putF X12 hx hZ hown (host := "") (Or.inl (hw _ (List.mem_of_getElem? (i := 60) rfl))) Via.refl e12 f14 f15 (Or.inr ⟨(hw _ (List.mem_of_getElem? (i := 61) rfl)), rfl, hnm⟩) (hw _ (List.mem_of_getElem? (i := 3) rfl)) (ty := (.object "java/util/Map")) (by decide) rfl rfl (g := (mkF m 36 #[.val (.ref a1), .val (.ref a2), .val .null, .val .null, .val (.ref em), .val (.ref em)] [(.ref em), (.ref a1)])) rfl rfl (hb hby own_d8_36)
  have N16 := Fr.snoc X16 N12 (show @LE.le Nat _ _ _ by omega)
  have sz_h16 : h16.size = h12.size := Wr.size W16
  have K_h16 : Keep h0 h16 [a1] := K_h12.wr W16 (Or.inl (List.mem_of_getElem? (i := 0) rfl))
  have f17 : Fld Z h16 a1 "com/example/tendril/tendril/ejbql/Schema$Bean" "cmpFields" "Ljava/util/Map;" (.ref em) := (f14.same W16)
  refine own_via (T16.setTop (mkF m 39 #[.val (.ref a1), .val (.ref a2), .val .null, .val .null, .val (.ref em), .val (.ref em)] [])) (st16) ?_
  refine own_via (T16.setTop (mkF m 40 #[.val (.ref a1), .val (.ref a2), .val .null, .val .null, .val (.ref em), .val (.ref em)] [(.ref a1)])) (fun t k => XS.aloadN X16.here hx rfl (hb hby own_d8_39) rfl rfl k) ?_
  refine own_via (T16.setTop (mkF m 42 #[.val (.ref a1), .val (.ref a2), .val .null, .val .null, .val (.ref em), .val (.ref em)] [(.ref em), (.ref a1)])) (fun t k => XS.aload X16.here hx rfl (hb hby own_d8_40) rfl rfl k) ?_
  have f18 : Fld Z h16 a1 "com/example/tendril/tendril/ejbql/Schema$Bean" "cmrFields" "Ljava/util/Map;" u4 := ((((pf6.other W4 (Or.inr (slot_ne (Or.inr (hw _ (List.mem_of_getElem? (i := 63) rfl))) (Or.inr (hw _ (List.mem_of_getElem? (i := 55) rfl))) (by decide) (t := (.object "java/util/Map")) (t' := (.object "java/lang/String")) (by decide) (by decide)))).other W8 (Or.inr (slot_ne (Or.inr (hw _ (List.mem_of_getElem? (i := 63) rfl))) (Or.inr (hw _ (List.mem_of_getElem? (i := 57) rfl))) (by decide) (t := (.object "java/util/Map")) (t' := (.object "java/lang/String")) (by decide) (by decide)))).other W12 (Or.inr (slot_ne (Or.inr (hw _ (List.mem_of_getElem? (i := 63) rfl))) (Or.inr (hw _ (List.mem_of_getElem? (i := 59) rfl))) (by decide) (t := (.object "java/util/Map")) (t' := (.object "java/lang/String")) (by decide) (by decide)))).other W16 (Or.inr (slot_ne (Or.inr (hw _ (List.mem_of_getElem? (i := 63) rfl))) (Or.inr (hw _ (List.mem_of_getElem? (i := 61) rfl))) (by decide) (t := (.object "java/util/Map")) (t' := (.object "java/util/Map")) (by decide) (by decide))))
  have f19 : Exa Z h16 a1 "com/example/tendril/tendril/ejbql/Schema$Bean" := (f15.wr W16)
  obtain ⟨T20, h20, X20, e20, W20, st20⟩ := putF X16 hx hZ hown (host := "") (Or.inl (hw _ (List.mem_of_getElem? (i := 62) rfl))) Via.refl e16 f18 f19 (Or.inr ⟨(hw _ (List.mem_of_getElem? (i := 63) rfl)), rfl, hnm⟩) (hw _ (List.mem_of_getElem? (i := 3) rfl)) (ty := (.object "java/util/Map")) (by decide) rfl rfl (g := (mkF m 42 #[.val (.ref a1), .val (.ref a2), .val .null, .val .null, .val (.ref em), .val (.ref em)] [(.ref em), (.ref a1)])) rfl rfl (hb hby own_d8_42)
  have N20 := Fr.snoc X20 N16 (show @LE.le Nat _ _ _ by omega)
  have sz_h20 : h20.size = h16.size := Wr.size W20
  have K_h20 : Keep h0 h20 [a1] := K_h16.wr W20 (Or.inl (List.mem_of_getElem? (i := 0) rfl))
  have f21 : Fld Z h20 a1 "com/example/tendril/tendril/ejbql/Schema$Bean" "cmrFields" "Ljava/util/Map;" (.ref em) := (f18.same W20)
  refine own_via (T20.setTop (mkF m 45 #[.val (.ref a1), .val (.ref a2), .val .null, .val .null, .val (.ref em), .val (.ref em)] [])) (st20) ?_
  have f22 : Exa Z h20 a1 "com/example/tendril/tendril/ejbql/Schema$Bean" := (f19.wr W20)
  exact own_ret0 X20 hx hlk hret (hb hby own_d8_45) e20 (⟨rfl, N20, K_h20, f22⟩) (by decide) (by decide)
theorem own_pn96478429 : plainFor (⟨"com/example/tendril/tendril/ejbql/TypeIsEntityPinLaw", "pick", "(I)Lcom/example/tendril/tendril/ejbql/ValueType;"⟩ : MethodName) = true := by first | exact Jvm.Free.JP.mathPlain rfl (by decide +kernel) | exact plainFor_of_name (by first | (simp [plainName, overriddenIn]; done) | decide +kernel) | decide +kernel
theorem own_d11_0 : decode method_2_code 0 = .ok (.iload_n 0, 1) := by decide +kernel
theorem own_d11_1 : decode method_2_code 1 = .ok (.ldc 7, 2) := by decide +kernel
theorem own_d11_3 : decode method_2_code 3 = .ok (.iand, 1) := by decide +kernel
theorem own_d11_4 : decode method_2_code 4 = .ok (.bipush 6, 2) := by decide +kernel
theorem own_d11_6 : decode method_2_code 6 = .ok (.irem, 1) := by decide +kernel
theorem own_d11_7 : decode method_2_code 7 = .ok (.istore_n 1, 1) := by decide +kernel
theorem own_d11_8 : decode method_2_code 8 = .ok (.iload_n 1, 1) := by decide +kernel
theorem own_d11_9 : decode method_2_code 9 = .ok (.ifCond .ne 7, 3) := by decide +kernel
theorem own_d11_12 : decode method_2_code 12 = .ok (.getstatic 8, 3) := by decide +kernel
theorem own_d11_15 : decode method_2_code 15 = .ok (.areturn, 1) := by decide +kernel
theorem own_d11_16 : decode method_2_code 16 = .ok (.iload_n 1, 1) := by decide +kernel
theorem own_d11_17 : decode method_2_code 17 = .ok (.iconst 1, 1) := by decide +kernel
theorem own_d11_18 : decode method_2_code 18 = .ok (.if_icmp .ne 7, 3) := by decide +kernel
theorem own_d11_21 : decode method_2_code 21 = .ok (.getstatic 14, 3) := by decide +kernel
theorem own_d11_24 : decode method_2_code 24 = .ok (.areturn, 1) := by decide +kernel
theorem own_d11_25 : decode method_2_code 25 = .ok (.iload_n 1, 1) := by decide +kernel
theorem own_d11_26 : decode method_2_code 26 = .ok (.iconst 2, 1) := by decide +kernel
theorem own_d11_27 : decode method_2_code 27 = .ok (.if_icmp .ne 7, 3) := by decide +kernel
theorem own_d11_30 : decode method_2_code 30 = .ok (.getstatic 17, 3) := by decide +kernel
theorem own_d11_33 : decode method_2_code 33 = .ok (.areturn, 1) := by decide +kernel
theorem own_d11_34 : decode method_2_code 34 = .ok (.iload_n 1, 1) := by decide +kernel
theorem own_d11_35 : decode method_2_code 35 = .ok (.iconst 3, 1) := by decide +kernel
theorem own_d11_36 : decode method_2_code 36 = .ok (.if_icmp .ne 7, 3) := by decide +kernel
theorem own_d11_39 : decode method_2_code 39 = .ok (.getstatic 20, 3) := by decide +kernel
theorem own_d11_42 : decode method_2_code 42 = .ok (.areturn, 1) := by decide +kernel
theorem own_d11_43 : decode method_2_code 43 = .ok (.iload_n 1, 1) := by decide +kernel
theorem own_d11_44 : decode method_2_code 44 = .ok (.iconst 4, 1) := by decide +kernel
theorem own_d11_45 : decode method_2_code 45 = .ok (.if_icmp .ne 7, 3) := by decide +kernel
theorem own_d11_48 : decode method_2_code 48 = .ok (.getstatic 23, 3) := by decide +kernel
theorem own_d11_51 : decode method_2_code 51 = .ok (.areturn, 1) := by decide +kernel
theorem own_d11_52 : decode method_2_code 52 = .ok (.getstatic 26, 3) := by decide +kernel
theorem own_d11_55 : decode method_2_code 55 = .ok (.areturn, 1) := by decide +kernel
theorem own_ef_rm_pick (m : MethodId) (x0 : Int32) : entryFrame m #[(.int x0)] 2 = mkF m 0 #[.val (.int x0), .unset] [] := by first | (simp [entryFrame, mkF, argsToLocals, Value.category]; done) | rfl
def Q_rm_pick (Z : State) (p0 : Int32) (x0 : Nat) (x1 : Nat) (x2 : Nat) (x3 : Nat) (x4 : Nat) (x5 : Nat) (h0 : Heap) (n0 : Nat) (v : Option Value) (h : Heap) (L : List Loc) : Prop := ∃ (r : Nat), v = some (.ref r) ∧ Fr n0 L ∧ h = h0
set_option maxRecDepth 65536 in
set_option maxHeartbeats 40000000 in
theorem rm_pick (l : Launch) (Z : State) (a0 : Array Value) (hw : ∀ d ∈ tables_1, d.before a0 Z = true) (p0 : Int32) (x0 : Nat) (x1 : Nat) (x2 : Nat) (x3 : Nat) (x4 : Nat) (x5 : Nat) (h0 : Heap) (n0 : Nat) (Z0 : n0 ≤ h0.size) (pf0 : Sta Z Z.heap "com/example/tendril/tendril/ejbql/ValueType" "NUMERIC" "Lcom/example/tendril/tendril/ejbql/ValueType;" (.ref x0)) (pf1 : Sta Z Z.heap "com/example/tendril/tendril/ejbql/ValueType" "STRING" "Lcom/example/tendril/tendril/ejbql/ValueType;" (.ref x1)) (pf2 : Sta Z Z.heap "com/example/tendril/tendril/ejbql/ValueType" "BOOLEAN" "Lcom/example/tendril/tendril/ejbql/ValueType;" (.ref x2)) (pf3 : Sta Z Z.heap "com/example/tendril/tendril/ejbql/ValueType" "DATETIME" "Lcom/example/tendril/tendril/ejbql/ValueType;" (.ref x3)) (pf4 : Sta Z Z.heap "com/example/tendril/tendril/ejbql/ValueType" "OTHER" "Lcom/example/tendril/tendril/ejbql/ValueType;" (.ref x4)) (pf5 : Sta Z Z.heap "com/example/tendril/tendril/ejbql/ValueType" "UNKNOWN" "Lcom/example/tendril/tendril/ejbql/ValueType;" (.ref x5)) (pf6 : Old Z n0 h0) :
    own_CT l Z (⟨"com/example/tendril/tendril/ejbql/TypeIsEntityPinLaw", "pick", "(I)Lcom/example/tendril/tendril/ejbql/ValueType;"⟩ : MethodName) method_2_code 2 (some (.object "com/example/tendril/tendril/ejbql/ValueType")) ({ frames := 0, cells := 0, slots := 0, locals := 0 } : Room) #[(.int p0)] h0 (Q_rm_pick Z p0 x0 x1 x2 x3 x4 x5 h0 n0) := by
  refine own_of own_pn96478429 (Ls := #[.val (.int p0), .unset]) (fun m => own_ef_rm_pick m p0) ?_
  intro p e s m below meth c T0 X0 hx hby hml hown hnm hret hZ e0 hlk
  have hown : s.vm.findClass "com/example/tendril/tendril/ejbql/TypeIsEntityPinLaw" = some m.cls := hown
  have N0 := Fr.nil n0
  refine own_via (T0.setTop (mkF m 1 #[.val (.int p0), .unset] [(.int p0)])) (fun t k => XS.iloadN X0.here hx rfl (hb hby own_d11_0) rfl k) ?_
  refine own_via (T0.setTop (mkF m 3 #[.val (.int p0), .unset] [(.int (2147483647 : Int32)), (.int p0)])) (fun t k => X0.ldcInt hx hown (mvT hZ (hw _ (List.mem_of_getElem? (i := 0) rfl))) (g := (mkF m 1 #[.val (.int p0), .unset] [(.int p0)])) rfl (hb hby own_d11_1) t k) ?_
  refine own_via (T0.setTop (mkF m 4 #[.val (.int p0), .unset] [(.int (p0 &&& (2147483647 : Int32)))])) (fun t k => XS.iand X0.here hx rfl (hb hby own_d11_3) rfl k) ?_
  refine own_via (T0.setTop (mkF m 6 #[.val (.int p0), .unset] [(.int (6 : Int32)), (.int (p0 &&& (2147483647 : Int32)))])) (fun t k => XS.bipush X0.here hx rfl (hb hby own_d11_4) k) ?_
  refine own_via (T0.setTop (mkF m 7 #[.val (.int p0), .unset] [(.int ((p0 &&& (2147483647 : Int32)) % (6 : Int32)))])) (fun t k => iremM X0 hx rfl (hb hby own_d11_6) rfl (by decide) k) ?_
  refine own_via (T0.setTop (mkF m 8 #[.val (.int p0), .val (.int ((p0 &&& (2147483647 : Int32)) % (6 : Int32)))] [])) (fun t k => XS.istoreN X0.here hx rfl (hb hby own_d11_7) rfl (l' := #[.val (.int p0), .val (.int ((p0 &&& (2147483647 : Int32)) % (6 : Int32)))]) rfl k) ?_
  refine own_via (T0.setTop (mkF m 9 #[.val (.int p0), .val (.int ((p0 &&& (2147483647 : Int32)) % (6 : Int32)))] [(.int ((p0 &&& (2147483647 : Int32)) % (6 : Int32)))])) (fun t k => XS.iloadN X0.here hx rfl (hb hby own_d11_8) rfl k) ?_
  by_cases hk0 : ((p0 &&& (2147483647 : Int32)) % (6 : Int32)) = 0
  · refine own_via (T0.setTop (mkF m 12 #[.val (.int p0), .val (.int ((p0 &&& (2147483647 : Int32)) % (6 : Int32)))] [])) (fun t k => XS.ifNo X0.here hx rfl (hb hby own_d11_9) rfl (XT.i0_ne_f hk0) k) ?_
    obtain ⟨T1, X1, e1, st1⟩ := getS X0 hx hZ (host := "") hown (hw _ (List.mem_of_getElem? (i := 104) rfl)) Via.refl e0 (pf0.ext pf6.2) (g := (mkF m 12 #[.val (.int p0), .val (.int ((p0 &&& (2147483647 : Int32)) % (6 : Int32)))] [])) rfl (hb hby own_d11_12)
    refine own_via (T1.setTop (mkF m 15 #[.val (.int p0), .val (.int ((p0 &&& (2147483647 : Int32)) % (6 : Int32)))] [(.ref x0)])) (st1) ?_
    exact own_retA X1 hx hlk hret rfl rfl (hb hby own_d11_15) e1 (⟨x0, rfl, N0, rfl⟩) (by decide) (by decide)
  · refine own_via (T0.setTop (mkF m 16 #[.val (.int p0), .val (.int ((p0 &&& (2147483647 : Int32)) % (6 : Int32)))] [])) (fun t k => XS.ifYes X0.here hx rfl (pc0 := 9) (pc' := 16) rfl (hb hby own_d11_9) rfl (XT.i0_ne_t hk0) (by decide) (by decide) k) ?_
    refine own_via (T0.setTop (mkF m 17 #[.val (.int p0), .val (.int ((p0 &&& (2147483647 : Int32)) % (6 : Int32)))] [(.int ((p0 &&& (2147483647 : Int32)) % (6 : Int32)))])) (fun t k => XS.iloadN X0.here hx rfl (hb hby own_d11_16) rfl k) ?_
    refine own_via (T0.setTop (mkF m 18 #[.val (.int p0), .val (.int ((p0 &&& (2147483647 : Int32)) % (6 : Int32)))] [(.int (1 : Int32)), (.int ((p0 &&& (2147483647 : Int32)) % (6 : Int32)))])) (fun t k => XS.iconst X0.here hx rfl (hb hby own_d11_17) k) ?_
    by_cases hk1 : ((p0 &&& (2147483647 : Int32)) % (6 : Int32)) = (1 : Int32)
    · refine own_via (T0.setTop (mkF m 21 #[.val (.int p0), .val (.int ((p0 &&& (2147483647 : Int32)) % (6 : Int32)))] [])) (fun t k => XS.icmpNo X0.here hx rfl (hb hby own_d11_18) rfl (XT.ii_ne_f hk1) k) ?_
      obtain ⟨T2, X2, e2, st2⟩ := getS X0 hx hZ (host := "") hown (hw _ (List.mem_of_getElem? (i := 99) rfl)) Via.refl e0 (pf1.ext pf6.2) (g := (mkF m 21 #[.val (.int p0), .val (.int ((p0 &&& (2147483647 : Int32)) % (6 : Int32)))] [])) rfl (hb hby own_d11_21)
      refine own_via (T2.setTop (mkF m 24 #[.val (.int p0), .val (.int ((p0 &&& (2147483647 : Int32)) % (6 : Int32)))] [(.ref x1)])) (st2) ?_
      exact own_retA X2 hx hlk hret rfl rfl (hb hby own_d11_24) e2 (⟨x1, rfl, N0, rfl⟩) (by decide) (by decide)
    · refine own_via (T0.setTop (mkF m 25 #[.val (.int p0), .val (.int ((p0 &&& (2147483647 : Int32)) % (6 : Int32)))] [])) (fun t k => XS.icmpYes X0.here hx rfl (pc0 := 18) (pc' := 25) rfl (hb hby own_d11_18) rfl (XT.ii_ne_t hk1) (by decide) (by decide) k) ?_
      refine own_via (T0.setTop (mkF m 26 #[.val (.int p0), .val (.int ((p0 &&& (2147483647 : Int32)) % (6 : Int32)))] [(.int ((p0 &&& (2147483647 : Int32)) % (6 : Int32)))])) (fun t k => XS.iloadN X0.here hx rfl (hb hby own_d11_25) rfl k) ?_
      refine own_via (T0.setTop (mkF m 27 #[.val (.int p0), .val (.int ((p0 &&& (2147483647 : Int32)) % (6 : Int32)))] [(.int (2 : Int32)), (.int ((p0 &&& (2147483647 : Int32)) % (6 : Int32)))])) (fun t k => XS.iconst X0.here hx rfl (hb hby own_d11_26) k) ?_
      by_cases hk2 : ((p0 &&& (2147483647 : Int32)) % (6 : Int32)) = (2 : Int32)
      · refine own_via (T0.setTop (mkF m 30 #[.val (.int p0), .val (.int ((p0 &&& (2147483647 : Int32)) % (6 : Int32)))] [])) (fun t k => XS.icmpNo X0.here hx rfl (hb hby own_d11_27) rfl (XT.ii_ne_f hk2) k) ?_
        obtain ⟨T3, X3, e3, st3⟩ := getS X0 hx hZ (host := "") hown (hw _ (List.mem_of_getElem? (i := 106) rfl)) Via.refl e0 (pf2.ext pf6.2) (g := (mkF m 30 #[.val (.int p0), .val (.int ((p0 &&& (2147483647 : Int32)) % (6 : Int32)))] [])) rfl (hb hby own_d11_30)
        refine own_via (T3.setTop (mkF m 33 #[.val (.int p0), .val (.int ((p0 &&& (2147483647 : Int32)) % (6 : Int32)))] [(.ref x2)])) (st3) ?_
        exact own_retA X3 hx hlk hret rfl rfl (hb hby own_d11_33) e3 (⟨x2, rfl, N0, rfl⟩) (by decide) (by decide)
      · refine own_via (T0.setTop (mkF m 34 #[.val (.int p0), .val (.int ((p0 &&& (2147483647 : Int32)) % (6 : Int32)))] [])) (fun t k => XS.icmpYes X0.here hx rfl (pc0 := 27) (pc' := 34) rfl (hb hby own_d11_27) rfl (XT.ii_ne_t hk2) (by decide) (by decide) k) ?_
        refine own_via (T0.setTop (mkF m 35 #[.val (.int p0), .val (.int ((p0 &&& (2147483647 : Int32)) % (6 : Int32)))] [(.int ((p0 &&& (2147483647 : Int32)) % (6 : Int32)))])) (fun t k => XS.iloadN X0.here hx rfl (hb hby own_d11_34) rfl k) ?_
        refine own_via (T0.setTop (mkF m 36 #[.val (.int p0), .val (.int ((p0 &&& (2147483647 : Int32)) % (6 : Int32)))] [(.int (3 : Int32)), (.int ((p0 &&& (2147483647 : Int32)) % (6 : Int32)))])) (fun t k => XS.iconst X0.here hx rfl (hb hby own_d11_35) k) ?_
        by_cases hk3 : ((p0 &&& (2147483647 : Int32)) % (6 : Int32)) = (3 : Int32)
        · refine own_via (T0.setTop (mkF m 39 #[.val (.int p0), .val (.int ((p0 &&& (2147483647 : Int32)) % (6 : Int32)))] [])) (fun t k => XS.icmpNo X0.here hx rfl (hb hby own_d11_36) rfl (XT.ii_ne_f hk3) k) ?_
          obtain ⟨T4, X4, e4, st4⟩ := getS X0 hx hZ (host := "") hown (hw _ (List.mem_of_getElem? (i := 68) rfl)) Via.refl e0 (pf3.ext pf6.2) (g := (mkF m 39 #[.val (.int p0), .val (.int ((p0 &&& (2147483647 : Int32)) % (6 : Int32)))] [])) rfl (hb hby own_d11_39)
          refine own_via (T4.setTop (mkF m 42 #[.val (.int p0), .val (.int ((p0 &&& (2147483647 : Int32)) % (6 : Int32)))] [(.ref x3)])) (st4) ?_
          exact own_retA X4 hx hlk hret rfl rfl (hb hby own_d11_42) e4 (⟨x3, rfl, N0, rfl⟩) (by decide) (by decide)
        · refine own_via (T0.setTop (mkF m 43 #[.val (.int p0), .val (.int ((p0 &&& (2147483647 : Int32)) % (6 : Int32)))] [])) (fun t k => XS.icmpYes X0.here hx rfl (pc0 := 36) (pc' := 43) rfl (hb hby own_d11_36) rfl (XT.ii_ne_t hk3) (by decide) (by decide) k) ?_
          refine own_via (T0.setTop (mkF m 44 #[.val (.int p0), .val (.int ((p0 &&& (2147483647 : Int32)) % (6 : Int32)))] [(.int ((p0 &&& (2147483647 : Int32)) % (6 : Int32)))])) (fun t k => XS.iloadN X0.here hx rfl (hb hby own_d11_43) rfl k) ?_
          refine own_via (T0.setTop (mkF m 45 #[.val (.int p0), .val (.int ((p0 &&& (2147483647 : Int32)) % (6 : Int32)))] [(.int (4 : Int32)), (.int ((p0 &&& (2147483647 : Int32)) % (6 : Int32)))])) (fun t k => XS.iconst X0.here hx rfl (hb hby own_d11_44) k) ?_
          by_cases hk4 : ((p0 &&& (2147483647 : Int32)) % (6 : Int32)) = (4 : Int32)
          · refine own_via (T0.setTop (mkF m 48 #[.val (.int p0), .val (.int ((p0 &&& (2147483647 : Int32)) % (6 : Int32)))] [])) (fun t k => XS.icmpNo X0.here hx rfl (hb hby own_d11_45) rfl (XT.ii_ne_f hk4) k) ?_
            obtain ⟨T5, X5, e5, st5⟩ := getS X0 hx hZ (host := "") hown (hw _ (List.mem_of_getElem? (i := 108) rfl)) Via.refl e0 (pf4.ext pf6.2) (g := (mkF m 48 #[.val (.int p0), .val (.int ((p0 &&& (2147483647 : Int32)) % (6 : Int32)))] [])) rfl (hb hby own_d11_48)
            refine own_via (T5.setTop (mkF m 51 #[.val (.int p0), .val (.int ((p0 &&& (2147483647 : Int32)) % (6 : Int32)))] [(.ref x4)])) (st5) ?_
            exact own_retA X5 hx hlk hret rfl rfl (hb hby own_d11_51) e5 (⟨x4, rfl, N0, rfl⟩) (by decide) (by decide)
          · refine own_via (T0.setTop (mkF m 52 #[.val (.int p0), .val (.int ((p0 &&& (2147483647 : Int32)) % (6 : Int32)))] [])) (fun t k => XS.icmpYes X0.here hx rfl (pc0 := 45) (pc' := 52) rfl (hb hby own_d11_45) rfl (XT.ii_ne_t hk4) (by decide) (by decide) k) ?_
            obtain ⟨T6, X6, e6, st6⟩ := getS X0 hx hZ (host := "") hown (hw _ (List.mem_of_getElem? (i := 97) rfl)) Via.refl e0 (pf5.ext pf6.2) (g := (mkF m 52 #[.val (.int p0), .val (.int ((p0 &&& (2147483647 : Int32)) % (6 : Int32)))] [])) rfl (hb hby own_d11_52)
            refine own_via (T6.setTop (mkF m 55 #[.val (.int p0), .val (.int ((p0 &&& (2147483647 : Int32)) % (6 : Int32)))] [(.ref x5)])) (st6) ?_
            exact own_retA X6 hx hlk hret rfl rfl (hb hby own_d11_55) e6 (⟨x5, rfl, N0, rfl⟩) (by decide) (by decide)
theorem own_pn59974935 : plainFor (⟨"com/example/tendril/tendril/ejbql/QueryChecker$Type", "<init>", "(Lcom/example/tendril/tendril/ejbql/ValueType;Lcom/example/tendril/tendril/ejbql/Schema$Bean;Z)V"⟩ : MethodName) = true := by first | exact Jvm.Free.JP.mathPlain rfl (by decide +kernel) | exact plainFor_of_name (by first | (simp [plainName, overriddenIn]; done) | decide +kernel) | decide +kernel
theorem own_d12_0 : decode prog_58_method_1_code 0 = .ok (.aload_n 0, 1) := by decide +kernel
theorem own_d12_1 : decode prog_58_method_1_code 1 = .ok (.invokespecial 1, 3) := by decide +kernel
theorem own_d12_4 : decode prog_58_method_1_code 4 = .ok (.aload_n 0, 1) := by decide +kernel
theorem own_d12_5 : decode prog_58_method_1_code 5 = .ok (.aload_n 1, 1) := by decide +kernel
theorem own_d12_6 : decode prog_58_method_1_code 6 = .ok (.putfield 7, 3) := by decide +kernel
theorem own_d12_9 : decode prog_58_method_1_code 9 = .ok (.aload_n 0, 1) := by decide +kernel
theorem own_d12_10 : decode prog_58_method_1_code 10 = .ok (.aload_n 2, 1) := by decide +kernel
theorem own_d12_11 : decode prog_58_method_1_code 11 = .ok (.putfield 13, 3) := by decide +kernel
theorem own_d12_14 : decode prog_58_method_1_code 14 = .ok (.aload_n 0, 1) := by decide +kernel
theorem own_d12_15 : decode prog_58_method_1_code 15 = .ok (.iload_n 3, 1) := by decide +kernel
theorem own_d12_16 : decode prog_58_method_1_code 16 = .ok (.putfield 17, 3) := by decide +kernel
theorem own_d12_19 : decode prog_58_method_1_code 19 = .ok (.return_, 1) := by decide +kernel
theorem own_ef_rm_type (m : MethodId) (x0 : Addr) (x1 : Value) (hx1 : x1.isRef = true) (x2 : Value) (hx2 : x2.isRef = true) (x3 : Int32) : entryFrame m #[(.ref x0), x1, x2, (.int x3)] 4 = mkF m 0 #[.val (.ref x0), .val x1, .val x2, .val (.int x3)] [] := by rcases ref_cases hx1 with rfl | ⟨_, rfl⟩ <;> rcases ref_cases hx2 with rfl | ⟨_, rfl⟩ <;> first | (simp [entryFrame, mkF, argsToLocals, Value.category]; done) | rfl
def Q_rm_type (Z : State) (a1 : Nat) (r2 : Value) (r3 : Value) (p4 : Int32) (u0 : Value) (u1 : Value) (u2 : Value) (h0 : Heap) (n0 : Nat) (v : Option Value) (h : Heap) (L : List Loc) : Prop := v = none ∧ Fr n0 L ∧ Keep h0 h [a1] ∧ Exa Z h a1 "com/example/tendril/tendril/ejbql/QueryChecker$Type" ∧ Fld Z h a1 "com/example/tendril/tendril/ejbql/QueryChecker$Type" "bean" "Lcom/example/tendril/tendril/ejbql/Schema$Bean;" r3 ∧ Fld Z h a1 "com/example/tendril/tendril/ejbql/QueryChecker$Type" "collection" "Z" (.int (nar .boolean p4))
set_option maxRecDepth 65536 in
set_option maxHeartbeats 40000000 in
theorem rm_type (l : Launch) (Z : State) (a0 : Array Value) (hw : ∀ d ∈ tables_1, d.before a0 Z = true) (a1 : Nat) (r2 : Value) (r3 : Value) (p4 : Int32) (u0 : Value) (u1 : Value) (u2 : Value) (h0 : Heap) (n0 : Nat) (Z0 : n0 ≤ h0.size) (pf0 : Exa Z h0 a1 "com/example/tendril/tendril/ejbql/QueryChecker$Type") (pf1 : Fld Z h0 a1 "com/example/tendril/tendril/ejbql/QueryChecker$Type" "value" "Lcom/example/tendril/tendril/ejbql/ValueType;" u0) (pf2 : Fld Z h0 a1 "com/example/tendril/tendril/ejbql/QueryChecker$Type" "bean" "Lcom/example/tendril/tendril/ejbql/Schema$Bean;" u1) (pf3 : Fld Z h0 a1 "com/example/tendril/tendril/ejbql/QueryChecker$Type" "collection" "Z" u2) (hr2 : r2.isRef = true) (hr3 : r3.isRef = true) (g1 : n0 ≤ a1) :
    own_CT l Z (⟨"com/example/tendril/tendril/ejbql/QueryChecker$Type", "<init>", "(Lcom/example/tendril/tendril/ejbql/ValueType;Lcom/example/tendril/tendril/ejbql/Schema$Bean;Z)V"⟩ : MethodName) prog_58_method_1_code 4 none ({ frames := 2, cells := 0, slots := 0, locals := 24 } : Room) #[(.ref a1), r2, r3, (.int p4)] h0 (Q_rm_type Z a1 r2 r3 p4 u0 u1 u2 h0 n0) := by
  refine own_of own_pn59974935 (Ls := #[.val (.ref a1), .val r2, .val r3, .val (.int p4)]) (fun m => own_ef_rm_type m a1 r2 hr2 r3 hr3 p4) ?_
  intro p e s m below meth c T0 X0 hx hby hml hown hnm hret hZ e0 hlk
  have hown : s.vm.findClass "com/example/tendril/tendril/ejbql/QueryChecker$Type" = some m.cls := hown
  have N0 := Fr.nil n0
  have lt_a1 : @LT.lt Nat _ a1 h0.size := pf0.lt
  refine own_via (T0.setTop (mkF m 1 #[.val (.ref a1), .val r2, .val r3, .val (.int p4)] [(.ref a1)])) (fun t k => XS.aloadN X0.here hx rfl (hb hby own_d12_0) rfl rfl k) ?_
  obtain ⟨v1, T1, h1, L1, X1, e1, q1, st1⟩ := own_cI X0 hx hZ hown (hw _ (List.mem_of_getElem? (i := 77) rfl)) (hw _ (List.mem_of_getElem? (i := 44) rfl)) (hw _ (List.mem_of_getElem? (i := 47) rfl)) rfl (by decide) (W := 0) (own_bk (rm_rec l Z a0 hw a1 h0 n0 (by omega)) hZ (hw _ (List.mem_of_getElem? (i := 47) rfl)) (hw _ (List.mem_of_getElem? (i := 46) rfl)) (by decide) (by decide)) e0 (a := a1) (Ls := #[.val (.ref a1), .val r2, .val r3, .val (.int p4)]) (by rw [hml]; rfl) (argsL := []) (rest := []) rfl (lenOf own_pd25328131 rfl) rfl (Nat.le_of_eq rfl) (hb hby own_d12_1) (by decide) (by decide)
  obtain ⟨rfl, Nq1, eq1⟩ := q1
  have N1 := Fr.app N0 Nq1
  replace e1 := e1.trans eq1
  refine own_via (T1.setTop (mkF m 4 #[.val (.ref a1), .val r2, .val r3, .val (.int p4)] [])) (st1) ?_
  refine own_via (T1.setTop (mkF m 5 #[.val (.ref a1), .val r2, .val r3, .val (.int p4)] [(.ref a1)])) (fun t k => XS.aloadN X1.here hx rfl (hb hby own_d12_4) rfl rfl k) ?_
  refine own_via (T1.setTop (mkF m 6 #[.val (.ref a1), .val r2, .val r3, .val (.int p4)] [r2, (.ref a1)])) (fun t k => XS.aloadN X1.here hx rfl (hb hby own_d12_5) rfl hr2 k) ?_
  obtain ⟨T2, h2, X2, e2, W2, st2⟩ := putF X1 hx hZ hown (host := "") (Or.inl (hw _ (List.mem_of_getElem? (i := 78) rfl))) Via.refl e1 pf1 pf0 (Or.inr ⟨(hw _ (List.mem_of_getElem? (i := 79) rfl)), rfl, hnm⟩) (hw _ (List.mem_of_getElem? (i := 72) rfl)) (ty := (.object "com/example/tendril/tendril/ejbql/ValueType")) (by decide) (own_narR rfl hr2) (own_fitR rfl hr2) (g := (mkF m 6 #[.val (.ref a1), .val r2, .val r3, .val (.int p4)] [r2, (.ref a1)])) rfl rfl (hb hby own_d12_6)
  have N2 := Fr.snoc X2 N1 (show @LE.le Nat _ _ _ by omega)
  have sz_h2 : h2.size = h0.size := Wr.size W2
  have K_h2 : Keep h0 h2 [a1] := (Keep.refl h0 [a1]).wr W2 (Or.inl (List.mem_of_getElem? (i := 0) rfl))
  have f3 : Fld Z h2 a1 "com/example/tendril/tendril/ejbql/QueryChecker$Type" "value" "Lcom/example/tendril/tendril/ejbql/ValueType;" r2 := (pf1.same W2)
  refine own_via (T2.setTop (mkF m 9 #[.val (.ref a1), .val r2, .val r3, .val (.int p4)] [])) (st2) ?_
  refine own_via (T2.setTop (mkF m 10 #[.val (.ref a1), .val r2, .val r3, .val (.int p4)] [(.ref a1)])) (fun t k => XS.aloadN X2.here hx rfl (hb hby own_d12_9) rfl rfl k) ?_
  refine own_via (T2.setTop (mkF m 11 #[.val (.ref a1), .val r2, .val r3, .val (.int p4)] [r3, (.ref a1)])) (fun t k => XS.aloadN X2.here hx rfl (hb hby own_d12_10) rfl hr3 k) ?_
  have f4 : Fld Z h2 a1 "com/example/tendril/tendril/ejbql/QueryChecker$Type" "bean" "Lcom/example/tendril/tendril/ejbql/Schema$Bean;" u1 := (pf2.other W2 (Or.inr (slot_ne (Or.inr (hw _ (List.mem_of_getElem? (i := 81) rfl))) (Or.inr (hw _ (List.mem_of_getElem? (i := 79) rfl))) (by decide) (t := (.object "com/example/tendril/tendril/ejbql/Schema$Bean")) (t' := (.object "com/example/tendril/tendril/ejbql/ValueType")) (by decide) (by decide))))
  have f5 : Exa Z h2 a1 "com/example/tendril/tendril/ejbql/QueryChecker$Type" := (pf0.wr W2)
  obtain ⟨T6, h6, X6, e6, W6, st6⟩ := putF X2 hx hZ hown (host := "") (Or.inl (hw _ (List.mem_of_getElem? (i := 80) rfl))) Via.refl e2 f4 f5 (Or.inr ⟨(hw _ (List.mem_of_getElem? (i := 81) rfl)), rfl, hnm⟩) (hw _ (List.mem_of_getElem? (i := 72) rfl)) (ty := (.object "com/example/tendril/tendril/ejbql/Schema$Bean")) (by decide) (own_narR rfl hr3) (own_fitR rfl hr3) (g := (mkF m 11 #[.val (.ref a1), .val r2, .val r3, .val (.int p4)] [r3, (.ref a1)])) rfl rfl (hb hby own_d12_11)
  have N6 := Fr.snoc X6 N2 (show @LE.le Nat _ _ _ by omega)
  have sz_h6 : h6.size = h2.size := Wr.size W6
  have K_h6 : Keep h0 h6 [a1] := K_h2.wr W6 (Or.inl (List.mem_of_getElem? (i := 0) rfl))
  have f7 : Fld Z h6 a1 "com/example/tendril/tendril/ejbql/QueryChecker$Type" "bean" "Lcom/example/tendril/tendril/ejbql/Schema$Bean;" r3 := (f4.same W6)
  refine own_via (T6.setTop (mkF m 14 #[.val (.ref a1), .val r2, .val r3, .val (.int p4)] [])) (st6) ?_
  refine own_via (T6.setTop (mkF m 15 #[.val (.ref a1), .val r2, .val r3, .val (.int p4)] [(.ref a1)])) (fun t k => XS.aloadN X6.here hx rfl (hb hby own_d12_14) rfl rfl k) ?_
  refine own_via (T6.setTop (mkF m 16 #[.val (.ref a1), .val r2, .val r3, .val (.int p4)] [(.int p4), (.ref a1)])) (fun t k => XS.iloadN X6.here hx rfl (hb hby own_d12_15) rfl k) ?_
  have f8 : Fld Z h6 a1 "com/example/tendril/tendril/ejbql/QueryChecker$Type" "collection" "Z" u2 := ((pf3.other W2 (Or.inr (slot_ne (Or.inr (hw _ (List.mem_of_getElem? (i := 83) rfl))) (Or.inr (hw _ (List.mem_of_getElem? (i := 79) rfl))) (by decide) (t := .boolean) (t' := (.object "com/example/tendril/tendril/ejbql/ValueType")) (by decide) (by decide)))).other W6 (Or.inr (slot_ne (Or.inr (hw _ (List.mem_of_getElem? (i := 83) rfl))) (Or.inr (hw _ (List.mem_of_getElem? (i := 81) rfl))) (by decide) (t := .boolean) (t' := (.object "com/example/tendril/tendril/ejbql/Schema$Bean")) (by decide) (by decide))))
  have f9 : Exa Z h6 a1 "com/example/tendril/tendril/ejbql/QueryChecker$Type" := (f5.wr W6)
  obtain ⟨T10, h10, X10, e10, W10, st10⟩ := putFN X6 hx hZ hown (hw _ (List.mem_of_getElem? (i := 82) rfl)) Via.refl e6 f8 f9 (Or.inr ⟨(hw _ (List.mem_of_getElem? (i := 83) rfl)), rfl, hnm⟩) (hw _ (List.mem_of_getElem? (i := 72) rfl)) (ty := .boolean) (v' := (.int (nar .boolean p4))) (by decide) rfl (fits_nar_bool _) (g := (mkF m 16 #[.val (.ref a1), .val r2, .val r3, .val (.int p4)] [(.int p4), (.ref a1)])) rfl rfl (hb hby own_d12_16)
  have N10 := Fr.snoc X10 N6 (show @LE.le Nat _ _ _ by omega)
  have sz_h10 : h10.size = h6.size := Wr.size W10
  have K_h10 : Keep h0 h10 [a1] := K_h6.wr W10 (Or.inl (List.mem_of_getElem? (i := 0) rfl))
  have f11 : Fld Z h10 a1 "com/example/tendril/tendril/ejbql/QueryChecker$Type" "collection" "Z" (.int (nar .boolean p4)) := (f8.same W10)
  refine own_via (T10.setTop (mkF m 19 #[.val (.ref a1), .val r2, .val r3, .val (.int p4)] [])) (st10) ?_
  have f12 : Exa Z h10 a1 "com/example/tendril/tendril/ejbql/QueryChecker$Type" := (f9.wr W10)
  have f13 : Fld Z h10 a1 "com/example/tendril/tendril/ejbql/QueryChecker$Type" "bean" "Lcom/example/tendril/tendril/ejbql/Schema$Bean;" r3 := (f7.other W10 (Or.inr (slot_ne (Or.inr (hw _ (List.mem_of_getElem? (i := 81) rfl))) (Or.inr (hw _ (List.mem_of_getElem? (i := 83) rfl))) (by decide) (t := (.object "com/example/tendril/tendril/ejbql/Schema$Bean")) (t' := .boolean) (by decide) (by decide))))
  exact own_ret0 X10 hx hlk hret (hb hby own_d12_19) e10 (⟨rfl, N10, K_h10, f12, f13, f11⟩) (by decide) (by decide)
theorem own_pn28604875 : plainFor (⟨"com/example/tendril/tendril/ejbql/QueryChecker$Type", "of", "(Lcom/example/tendril/tendril/ejbql/ValueType;)Lcom/example/tendril/tendril/ejbql/QueryChecker$Type;"⟩ : MethodName) = true := by first | exact Jvm.Free.JP.mathPlain rfl (by decide +kernel) | exact plainFor_of_name (by first | (simp [plainName, overriddenIn]; done) | decide +kernel) | decide +kernel
theorem own_d13_0 : decode prog_58_method_2_code 0 = .ok (.new 8, 3) := by decide +kernel
theorem own_d13_3 : decode prog_58_method_2_code 3 = .ok (.dup, 1) := by decide +kernel
theorem own_d13_4 : decode prog_58_method_2_code 4 = .ok (.aload_n 0, 1) := by decide +kernel
theorem own_d13_5 : decode prog_58_method_2_code 5 = .ok (.aconst_null, 1) := by decide +kernel
theorem own_d13_6 : decode prog_58_method_2_code 6 = .ok (.iconst 0, 1) := by decide +kernel
theorem own_d13_7 : decode prog_58_method_2_code 7 = .ok (.invokespecial 21, 3) := by decide +kernel
theorem own_pd65518967 : parseMethodDescriptor "(Lcom/example/tendril/tendril/ejbql/ValueType;Lcom/example/tendril/tendril/ejbql/Schema$Bean;Z)V" = some ⟨[(.object "com/example/tendril/tendril/ejbql/ValueType"), (.object "com/example/tendril/tendril/ejbql/Schema$Bean"), .boolean], none⟩ := by decide +kernel
theorem own_d13_10 : decode prog_58_method_2_code 10 = .ok (.areturn, 1) := by decide +kernel
theorem own_ef_rm_of (m : MethodId) (x0 : Addr) : entryFrame m #[(.ref x0)] 1 = mkF m 0 #[.val (.ref x0)] [] := by first | (simp [entryFrame, mkF, argsToLocals, Value.category]; done) | rfl
def Q_rm_of (Z : State) (a1 : Nat) (h0 : Heap) (n0 : Nat) (v : Option Value) (h : Heap) (L : List Loc) : Prop := ∃ (b : Nat), v = some (.ref b) ∧ Fr n0 L ∧ Keep h0 h [] ∧ Exa Z h b "com/example/tendril/tendril/ejbql/QueryChecker$Type" ∧ Fld Z h b "com/example/tendril/tendril/ejbql/QueryChecker$Type" "bean" "Lcom/example/tendril/tendril/ejbql/Schema$Bean;" .null ∧ Fld Z h b "com/example/tendril/tendril/ejbql/QueryChecker$Type" "collection" "Z" (.int (nar .boolean (0 : Int32)))
set_option maxRecDepth 65536 in
set_option maxHeartbeats 40000000 in
theorem rm_of (l : Launch) (Z : State) (a0 : Array Value) (hw : ∀ d ∈ tables_1, d.before a0 Z = true) (a1 : Nat) (h0 : Heap) (n0 : Nat) (Z0 : n0 ≤ h0.size)  :
    own_CT l Z (⟨"com/example/tendril/tendril/ejbql/QueryChecker$Type", "of", "(Lcom/example/tendril/tendril/ejbql/ValueType;)Lcom/example/tendril/tendril/ejbql/QueryChecker$Type;"⟩ : MethodName) prog_58_method_2_code 1 (some (.object "com/example/tendril/tendril/ejbql/QueryChecker$Type")) ({ frames := 3, cells := 1, slots := 3, locals := 40 } : Room) #[(.ref a1)] h0 (Q_rm_of Z a1 h0 n0) := by
  refine own_of own_pn28604875 (Ls := #[.val (.ref a1)]) (fun m => own_ef_rm_of m a1) ?_
  intro p e s m below meth c T0 X0 hx hby hml hown hnm hret hZ e0 hlk
  have hown : s.vm.findClass "com/example/tendril/tendril/ejbql/QueryChecker$Type" = some m.cls := hown
  have N0 := Fr.nil n0
  obtain ⟨T1, h1, X1, e1, E1, A1, D1, U1, st1⟩ := newO X0 hx hZ hown (hw _ (List.mem_of_getElem? (i := 87) rfl)) (hw _ (List.mem_of_getElem? (i := 72) rfl)) (hw _ (List.mem_of_getElem? (i := 73) rfl)) e0 (g := (mkF m 0 #[.val (.ref a1)] [])) rfl (hb hby own_d13_0) (by decide) (by decide)
  obtain ⟨o1, g1⟩ : ∃ z, z = h0.size := ⟨_, rfl⟩
  rw [← g1] at A1 D1 U1 st1
  have sz_h1 : h0.size ≤ h1.size := E1.1
  have K_h1 : Keep h0 h1 [] := (Keep.refl h0 []).ext E1
  have lt_o1 : @LT.lt Nat _ o1 h1.size := A1.lt
  refine own_via (T1.setTop (mkF m 3 #[.val (.ref a1)] [(.ref o1)])) (st1) ?_
  refine own_via (T1.setTop (mkF m 4 #[.val (.ref a1)] [(.ref o1), (.ref o1)])) (fun t k => XS.dup X1.here hx rfl (hb hby own_d13_3) rfl rfl k) ?_
  refine own_via (T1.setTop (mkF m 5 #[.val (.ref a1)] [(.ref a1), (.ref o1), (.ref o1)])) (fun t k => XS.aloadN X1.here hx rfl (hb hby own_d13_4) rfl rfl k) ?_
  refine own_via (T1.setTop (mkF m 6 #[.val (.ref a1)] [.null, (.ref a1), (.ref o1), (.ref o1)])) (fun t k => XS.aconstNull X1.here hx rfl (hb hby own_d13_5) k) ?_
  refine own_via (T1.setTop (mkF m 7 #[.val (.ref a1)] [(.int (0 : Int32)), .null, (.ref a1), (.ref o1), (.ref o1)])) (fun t k => XS.iconst X1.here hx rfl (hb hby own_d13_6) k) ?_
  have f2 : Fld Z h1 o1 "com/example/tendril/tendril/ejbql/QueryChecker$Type" "value" "Lcom/example/tendril/tendril/ejbql/ValueType;" .null := (D1 (Or.inr (hw _ (List.mem_of_getElem? (i := 79) rfl))) (ty := (.object "com/example/tendril/tendril/ejbql/ValueType")) (by decide))
  have f3 : Fld Z h1 o1 "com/example/tendril/tendril/ejbql/QueryChecker$Type" "bean" "Lcom/example/tendril/tendril/ejbql/Schema$Bean;" .null := (D1 (Or.inr (hw _ (List.mem_of_getElem? (i := 81) rfl))) (ty := (.object "com/example/tendril/tendril/ejbql/Schema$Bean")) (by decide))
  have f4 : Fld Z h1 o1 "com/example/tendril/tendril/ejbql/QueryChecker$Type" "collection" "Z" (.int (0 : Int32)) := (D1 (Or.inr (hw _ (List.mem_of_getElem? (i := 83) rfl))) (ty := .boolean) (by decide))
  obtain ⟨v5, T5, h5, L5, X5, e5, q5, st5⟩ := own_cI X1 hx hZ hown (hw _ (List.mem_of_getElem? (i := 88) rfl)) (hw _ (List.mem_of_getElem? (i := 75) rfl)) (hw _ (List.mem_of_getElem? (i := 76) rfl)) rfl (by decide) (W := 1) (own_bk (rm_type l Z a0 hw o1 (.ref a1) .null (0 : Int32) .null .null (.int (0 : Int32)) h1 n0 (by omega) A1 f2 f3 f4 rfl rfl (show @LE.le Nat _ _ _ by omega)) hZ (hw _ (List.mem_of_getElem? (i := 76) rfl)) (hw _ (List.mem_of_getElem? (i := 73) rfl)) (by decide) (by decide)) e1 (a := o1) (Ls := #[.val (.ref a1)]) (by rw [hml]; rfl) (argsL := [(.ref a1), .null, (.int (0 : Int32))]) (rest := [(.ref o1)]) rfl (lenOf own_pd65518967 rfl) rfl (Nat.le_of_eq rfl) (hb hby own_d13_7) (by decide) (by decide)
  obtain ⟨rfl, Nq5, Kq5, f6, f7, f8⟩ := q5
  have N5 := Fr.app N0 Nq5
  have sz_h5 : h1.size ≤ h5.size := Kq5.1
  have K_h5 : Keep h0 h5 [] := K_h1.trans Kq5 (allS (Or.inr (show @LE.le Nat _ _ _ by omega)) all0)
  refine own_via (T5.setTop (mkF m 10 #[.val (.ref a1)] [(.ref o1)])) (st5) ?_
  exact own_retA X5 hx hlk hret rfl rfl (hb hby own_d13_10) e5 (⟨o1, rfl, N5, K_h5, f6, f7, f8⟩) (by decide) (by decide)
theorem own_pn56065195 : plainFor (⟨"com/example/tendril/tendril/ejbql/QueryChecker$Type", "objects", "(Lcom/example/tendril/tendril/ejbql/Schema$Bean;)Lcom/example/tendril/tendril/ejbql/QueryChecker$Type;"⟩ : MethodName) = true := by first | exact Jvm.Free.JP.mathPlain rfl (by decide +kernel) | exact plainFor_of_name (by first | (simp [plainName, overriddenIn]; done) | decide +kernel) | decide +kernel
theorem own_d15_0 : decode prog_58_method_3_code 0 = .ok (.new 8, 3) := by decide +kernel
theorem own_d15_3 : decode prog_58_method_3_code 3 = .ok (.dup, 1) := by decide +kernel
theorem own_d15_4 : decode prog_58_method_3_code 4 = .ok (.aconst_null, 1) := by decide +kernel
theorem own_d15_5 : decode prog_58_method_3_code 5 = .ok (.aload_n 0, 1) := by decide +kernel
theorem own_d15_6 : decode prog_58_method_3_code 6 = .ok (.iconst 0, 1) := by decide +kernel
theorem own_d15_7 : decode prog_58_method_3_code 7 = .ok (.invokespecial 21, 3) := by decide +kernel
theorem own_d15_10 : decode prog_58_method_3_code 10 = .ok (.areturn, 1) := by decide +kernel
theorem own_ef_rm_objects (m : MethodId) (x0 : Addr) : entryFrame m #[(.ref x0)] 1 = mkF m 0 #[.val (.ref x0)] [] := by first | (simp [entryFrame, mkF, argsToLocals, Value.category]; done) | rfl
def Q_rm_objects (Z : State) (a1 : Nat) (h0 : Heap) (n0 : Nat) (v : Option Value) (h : Heap) (L : List Loc) : Prop := ∃ (b : Nat), v = some (.ref b) ∧ Fr n0 L ∧ Keep h0 h [] ∧ Exa Z h b "com/example/tendril/tendril/ejbql/QueryChecker$Type" ∧ Fld Z h b "com/example/tendril/tendril/ejbql/QueryChecker$Type" "bean" "Lcom/example/tendril/tendril/ejbql/Schema$Bean;" (.ref a1) ∧ Fld Z h b "com/example/tendril/tendril/ejbql/QueryChecker$Type" "collection" "Z" (.int (nar .boolean (0 : Int32)))
set_option maxRecDepth 65536 in
set_option maxHeartbeats 40000000 in
theorem rm_objects (l : Launch) (Z : State) (a0 : Array Value) (hw : ∀ d ∈ tables_1, d.before a0 Z = true) (a1 : Nat) (h0 : Heap) (n0 : Nat) (Z0 : n0 ≤ h0.size)  :
    own_CT l Z (⟨"com/example/tendril/tendril/ejbql/QueryChecker$Type", "objects", "(Lcom/example/tendril/tendril/ejbql/Schema$Bean;)Lcom/example/tendril/tendril/ejbql/QueryChecker$Type;"⟩ : MethodName) prog_58_method_3_code 1 (some (.object "com/example/tendril/tendril/ejbql/QueryChecker$Type")) ({ frames := 3, cells := 1, slots := 3, locals := 40 } : Room) #[(.ref a1)] h0 (Q_rm_objects Z a1 h0 n0) := by
  refine own_of own_pn56065195 (Ls := #[.val (.ref a1)]) (fun m => own_ef_rm_objects m a1) ?_
  intro p e s m below meth c T0 X0 hx hby hml hown hnm hret hZ e0 hlk
  have hown : s.vm.findClass "com/example/tendril/tendril/ejbql/QueryChecker$Type" = some m.cls := hown
  have N0 := Fr.nil n0
  obtain ⟨T1, h1, X1, e1, E1, A1, D1, U1, st1⟩ := newO X0 hx hZ hown (hw _ (List.mem_of_getElem? (i := 87) rfl)) (hw _ (List.mem_of_getElem? (i := 72) rfl)) (hw _ (List.mem_of_getElem? (i := 73) rfl)) e0 (g := (mkF m 0 #[.val (.ref a1)] [])) rfl (hb hby own_d15_0) (by decide) (by decide)
  obtain ⟨o1, g1⟩ : ∃ z, z = h0.size := ⟨_, rfl⟩
  rw [← g1] at A1 D1 U1 st1
  have sz_h1 : h0.size ≤ h1.size := E1.1
  have K_h1 : Keep h0 h1 [] := (Keep.refl h0 []).ext E1
  have lt_o1 : @LT.lt Nat _ o1 h1.size := A1.lt
  refine own_via (T1.setTop (mkF m 3 #[.val (.ref a1)] [(.ref o1)])) (st1) ?_
  refine own_via (T1.setTop (mkF m 4 #[.val (.ref a1)] [(.ref o1), (.ref o1)])) (fun t k => XS.dup X1.here hx rfl (hb hby own_d15_3) rfl rfl k) ?_
  refine own_via (T1.setTop (mkF m 5 #[.val (.ref a1)] [.null, (.ref o1), (.ref o1)])) (fun t k => XS.aconstNull X1.here hx rfl (hb hby own_d15_4) k) ?_
  refine own_via (T1.setTop (mkF m 6 #[.val (.ref a1)] [(.ref a1), .null, (.ref o1), (.ref o1)])) (fun t k => XS.aloadN X1.here hx rfl (hb hby own_d15_5) rfl rfl k) ?_
  refine own_via (T1.setTop (mkF m 7 #[.val (.ref a1)] [(.int (0 : Int32)), (.ref a1), .null, (.ref o1), (.ref o1)])) (fun t k => XS.iconst X1.here hx rfl (hb hby own_d15_6) k) ?_
  have f2 : Fld Z h1 o1 "com/example/tendril/tendril/ejbql/QueryChecker$Type" "value" "Lcom/example/tendril/tendril/ejbql/ValueType;" .null := (D1 (Or.inr (hw _ (List.mem_of_getElem? (i := 79) rfl))) (ty := (.object "com/example/tendril/tendril/ejbql/ValueType")) (by decide))
  have f3 : Fld Z h1 o1 "com/example/tendril/tendril/ejbql/QueryChecker$Type" "bean" "Lcom/example/tendril/tendril/ejbql/Schema$Bean;" .null := (D1 (Or.inr (hw _ (List.mem_of_getElem? (i := 81) rfl))) (ty := (.object "com/example/tendril/tendril/ejbql/Schema$Bean")) (by decide))
  have f4 : Fld Z h1 o1 "com/example/tendril/tendril/ejbql/QueryChecker$Type" "collection" "Z" (.int (0 : Int32)) := (D1 (Or.inr (hw _ (List.mem_of_getElem? (i := 83) rfl))) (ty := .boolean) (by decide))
  obtain ⟨v5, T5, h5, L5, X5, e5, q5, st5⟩ := own_cI X1 hx hZ hown (hw _ (List.mem_of_getElem? (i := 88) rfl)) (hw _ (List.mem_of_getElem? (i := 75) rfl)) (hw _ (List.mem_of_getElem? (i := 76) rfl)) rfl (by decide) (W := 1) (own_bk (rm_type l Z a0 hw o1 .null (.ref a1) (0 : Int32) .null .null (.int (0 : Int32)) h1 n0 (by omega) A1 f2 f3 f4 rfl rfl (show @LE.le Nat _ _ _ by omega)) hZ (hw _ (List.mem_of_getElem? (i := 76) rfl)) (hw _ (List.mem_of_getElem? (i := 73) rfl)) (by decide) (by decide)) e1 (a := o1) (Ls := #[.val (.ref a1)]) (by rw [hml]; rfl) (argsL := [.null, (.ref a1), (.int (0 : Int32))]) (rest := [(.ref o1)]) rfl (lenOf own_pd65518967 rfl) rfl (Nat.le_of_eq rfl) (hb hby own_d15_7) (by decide) (by decide)
  obtain ⟨rfl, Nq5, Kq5, f6, f7, f8⟩ := q5
  have N5 := Fr.app N0 Nq5
  have sz_h5 : h1.size ≤ h5.size := Kq5.1
  have K_h5 : Keep h0 h5 [] := K_h1.trans Kq5 (allS (Or.inr (show @LE.le Nat _ _ _ by omega)) all0)
  refine own_via (T5.setTop (mkF m 10 #[.val (.ref a1)] [(.ref o1)])) (st5) ?_
  exact own_retA X5 hx hlk hret rfl rfl (hb hby own_d15_10) e5 (⟨o1, rfl, N5, K_h5, f6, f7, f8⟩) (by decide) (by decide)
theorem own_pn54017622 : plainFor (⟨"com/example/tendril/tendril/ejbql/QueryChecker$Type", "collectionOf", "(Lcom/example/tendril/tendril/ejbql/Schema$Bean;)Lcom/example/tendril/tendril/ejbql/QueryChecker$Type;"⟩ : MethodName) = true := by first | exact Jvm.Free.JP.mathPlain rfl (by decide +kernel) | exact plainFor_of_name (by first | (simp [plainName, overriddenIn]; done) | decide +kernel) | decide +kernel
theorem own_d16_0 : decode prog_58_method_4_code 0 = .ok (.new 8, 3) := by decide +kernel
theorem own_d16_3 : decode prog_58_method_4_code 3 = .ok (.dup, 1) := by decide +kernel
theorem own_d16_4 : decode prog_58_method_4_code 4 = .ok (.aconst_null, 1) := by decide +kernel
theorem own_d16_5 : decode prog_58_method_4_code 5 = .ok (.aload_n 0, 1) := by decide +kernel
theorem own_d16_6 : decode prog_58_method_4_code 6 = .ok (.iconst 1, 1) := by decide +kernel
theorem own_d16_7 : decode prog_58_method_4_code 7 = .ok (.invokespecial 21, 3) := by decide +kernel
theorem own_d16_10 : decode prog_58_method_4_code 10 = .ok (.areturn, 1) := by decide +kernel
theorem own_ef_rm_coll (m : MethodId) (x0 : Addr) : entryFrame m #[(.ref x0)] 1 = mkF m 0 #[.val (.ref x0)] [] := by first | (simp [entryFrame, mkF, argsToLocals, Value.category]; done) | rfl
def Q_rm_coll (Z : State) (a1 : Nat) (h0 : Heap) (n0 : Nat) (v : Option Value) (h : Heap) (L : List Loc) : Prop := ∃ (b : Nat), v = some (.ref b) ∧ Fr n0 L ∧ Keep h0 h [] ∧ Exa Z h b "com/example/tendril/tendril/ejbql/QueryChecker$Type" ∧ Fld Z h b "com/example/tendril/tendril/ejbql/QueryChecker$Type" "bean" "Lcom/example/tendril/tendril/ejbql/Schema$Bean;" (.ref a1) ∧ Fld Z h b "com/example/tendril/tendril/ejbql/QueryChecker$Type" "collection" "Z" (.int (nar .boolean (1 : Int32)))
set_option maxRecDepth 65536 in
set_option maxHeartbeats 40000000 in
theorem rm_coll (l : Launch) (Z : State) (a0 : Array Value) (hw : ∀ d ∈ tables_1, d.before a0 Z = true) (a1 : Nat) (h0 : Heap) (n0 : Nat) (Z0 : n0 ≤ h0.size)  :
    own_CT l Z (⟨"com/example/tendril/tendril/ejbql/QueryChecker$Type", "collectionOf", "(Lcom/example/tendril/tendril/ejbql/Schema$Bean;)Lcom/example/tendril/tendril/ejbql/QueryChecker$Type;"⟩ : MethodName) prog_58_method_4_code 1 (some (.object "com/example/tendril/tendril/ejbql/QueryChecker$Type")) ({ frames := 3, cells := 1, slots := 3, locals := 40 } : Room) #[(.ref a1)] h0 (Q_rm_coll Z a1 h0 n0) := by
  refine own_of own_pn54017622 (Ls := #[.val (.ref a1)]) (fun m => own_ef_rm_coll m a1) ?_
  intro p e s m below meth c T0 X0 hx hby hml hown hnm hret hZ e0 hlk
  have hown : s.vm.findClass "com/example/tendril/tendril/ejbql/QueryChecker$Type" = some m.cls := hown
  have N0 := Fr.nil n0
  obtain ⟨T1, h1, X1, e1, E1, A1, D1, U1, st1⟩ := newO X0 hx hZ hown (hw _ (List.mem_of_getElem? (i := 87) rfl)) (hw _ (List.mem_of_getElem? (i := 72) rfl)) (hw _ (List.mem_of_getElem? (i := 73) rfl)) e0 (g := (mkF m 0 #[.val (.ref a1)] [])) rfl (hb hby own_d16_0) (by decide) (by decide)
  obtain ⟨o1, g1⟩ : ∃ z, z = h0.size := ⟨_, rfl⟩
  rw [← g1] at A1 D1 U1 st1
  have sz_h1 : h0.size ≤ h1.size := E1.1
  have K_h1 : Keep h0 h1 [] := (Keep.refl h0 []).ext E1
  have lt_o1 : @LT.lt Nat _ o1 h1.size := A1.lt
  refine own_via (T1.setTop (mkF m 3 #[.val (.ref a1)] [(.ref o1)])) (st1) ?_
  refine own_via (T1.setTop (mkF m 4 #[.val (.ref a1)] [(.ref o1), (.ref o1)])) (fun t k => XS.dup X1.here hx rfl (hb hby own_d16_3) rfl rfl k) ?_
  refine own_via (T1.setTop (mkF m 5 #[.val (.ref a1)] [.null, (.ref o1), (.ref o1)])) (fun t k => XS.aconstNull X1.here hx rfl (hb hby own_d16_4) k) ?_
  refine own_via (T1.setTop (mkF m 6 #[.val (.ref a1)] [(.ref a1), .null, (.ref o1), (.ref o1)])) (fun t k => XS.aloadN X1.here hx rfl (hb hby own_d16_5) rfl rfl k) ?_
  refine own_via (T1.setTop (mkF m 7 #[.val (.ref a1)] [(.int (1 : Int32)), (.ref a1), .null, (.ref o1), (.ref o1)])) (fun t k => XS.iconst X1.here hx rfl (hb hby own_d16_6) k) ?_
  have f2 : Fld Z h1 o1 "com/example/tendril/tendril/ejbql/QueryChecker$Type" "value" "Lcom/example/tendril/tendril/ejbql/ValueType;" .null := (D1 (Or.inr (hw _ (List.mem_of_getElem? (i := 79) rfl))) (ty := (.object "com/example/tendril/tendril/ejbql/ValueType")) (by decide))
  have f3 : Fld Z h1 o1 "com/example/tendril/tendril/ejbql/QueryChecker$Type" "bean" "Lcom/example/tendril/tendril/ejbql/Schema$Bean;" .null := (D1 (Or.inr (hw _ (List.mem_of_getElem? (i := 81) rfl))) (ty := (.object "com/example/tendril/tendril/ejbql/Schema$Bean")) (by decide))
  have f4 : Fld Z h1 o1 "com/example/tendril/tendril/ejbql/QueryChecker$Type" "collection" "Z" (.int (0 : Int32)) := (D1 (Or.inr (hw _ (List.mem_of_getElem? (i := 83) rfl))) (ty := .boolean) (by decide))
  obtain ⟨v5, T5, h5, L5, X5, e5, q5, st5⟩ := own_cI X1 hx hZ hown (hw _ (List.mem_of_getElem? (i := 88) rfl)) (hw _ (List.mem_of_getElem? (i := 75) rfl)) (hw _ (List.mem_of_getElem? (i := 76) rfl)) rfl (by decide) (W := 1) (own_bk (rm_type l Z a0 hw o1 .null (.ref a1) (1 : Int32) .null .null (.int (0 : Int32)) h1 n0 (by omega) A1 f2 f3 f4 rfl rfl (show @LE.le Nat _ _ _ by omega)) hZ (hw _ (List.mem_of_getElem? (i := 76) rfl)) (hw _ (List.mem_of_getElem? (i := 73) rfl)) (by decide) (by decide)) e1 (a := o1) (Ls := #[.val (.ref a1)]) (by rw [hml]; rfl) (argsL := [.null, (.ref a1), (.int (1 : Int32))]) (rest := [(.ref o1)]) rfl (lenOf own_pd65518967 rfl) rfl (Nat.le_of_eq rfl) (hb hby own_d16_7) (by decide) (by decide)
  obtain ⟨rfl, Nq5, Kq5, f6, f7, f8⟩ := q5
  have N5 := Fr.app N0 Nq5
  have sz_h5 : h1.size ≤ h5.size := Kq5.1
  have K_h5 : Keep h0 h5 [] := K_h1.trans Kq5 (allS (Or.inr (show @LE.le Nat _ _ _ by omega)) all0)
  refine own_via (T5.setTop (mkF m 10 #[.val (.ref a1)] [(.ref o1)])) (st5) ?_
  exact own_retA X5 hx hlk hret rfl rfl (hb hby own_d16_10) e5 (⟨o1, rfl, N5, K_h5, f6, f7, f8⟩) (by decide) (by decide)
theorem own_pn3087031 : plainFor (⟨"com/example/tendril/tendril/ejbql/QueryChecker$Type", "isEntity", "()Z"⟩ : MethodName) = true := by first | exact Jvm.Free.JP.mathPlain rfl (by decide +kernel) | exact plainFor_of_name (by first | (simp [plainName, overriddenIn]; done) | decide +kernel) | decide +kernel
theorem own_d14_0 : decode prog_58_method_6_code 0 = .ok (.aload_n 0, 1) := by decide +kernel
theorem own_d14_1 : decode prog_58_method_6_code 1 = .ok (.getfield 13, 3) := by decide +kernel
theorem own_d14_4 : decode prog_58_method_6_code 4 = .ok (.ifnull 14, 3) := by decide +kernel
theorem own_d14_18 : decode prog_58_method_6_code 18 = .ok (.iconst 0, 1) := by decide +kernel
theorem own_d14_19 : decode prog_58_method_6_code 19 = .ok (.ireturn, 1) := by decide +kernel
theorem own_ef_rm_ent0 (m : MethodId) (x0 : Addr) : entryFrame m #[(.ref x0)] 1 = mkF m 0 #[.val (.ref x0)] [] := by first | (simp [entryFrame, mkF, argsToLocals, Value.category]; done) | rfl
def Q_rm_ent0 (Z : State) (a1 : Nat) (h0 : Heap) (n0 : Nat) (v : Option Value) (h : Heap) (L : List Loc) : Prop := v = some (.int (0 : Int32)) ∧ Fr n0 L ∧ h = h0
set_option maxRecDepth 65536 in
set_option maxHeartbeats 40000000 in
theorem rm_ent0 (l : Launch) (Z : State) (a0 : Array Value) (hw : ∀ d ∈ tables_1, d.before a0 Z = true) (a1 : Nat) (h0 : Heap) (n0 : Nat) (Z0 : n0 ≤ h0.size) (pf0 : Fld Z h0 a1 "com/example/tendril/tendril/ejbql/QueryChecker$Type" "bean" "Lcom/example/tendril/tendril/ejbql/Schema$Bean;" .null) :
    own_CT l Z (⟨"com/example/tendril/tendril/ejbql/QueryChecker$Type", "isEntity", "()Z"⟩ : MethodName) prog_58_method_6_code 1 (some .boolean) ({ frames := 0, cells := 0, slots := 0, locals := 0 } : Room) #[(.ref a1)] h0 (Q_rm_ent0 Z a1 h0 n0) := by
  refine own_of own_pn3087031 (Ls := #[.val (.ref a1)]) (fun m => own_ef_rm_ent0 m a1) ?_
  intro p e s m below meth c T0 X0 hx hby hml hown hnm hret hZ e0 hlk
  have hown : s.vm.findClass "com/example/tendril/tendril/ejbql/QueryChecker$Type" = some m.cls := hown
  have N0 := Fr.nil n0
  have lt_a1 : @LT.lt Nat _ a1 h0.size := pf0.lt
  refine own_via (T0.setTop (mkF m 1 #[.val (.ref a1)] [(.ref a1)])) (fun t k => XS.aloadN X0.here hx rfl (hb hby own_d14_0) rfl rfl k) ?_
  obtain ⟨T1, X1, e1, st1⟩ := getF X0 hx hZ hown (host := "") (Or.inl (hw _ (List.mem_of_getElem? (i := 80) rfl))) Via.refl e0 pf0 (g := (mkF m 1 #[.val (.ref a1)] [(.ref a1)])) rfl rfl (hb hby own_d14_1)
  refine own_via (T1.setTop (mkF m 4 #[.val (.ref a1)] [.null])) (st1) ?_
  refine own_via (T1.setTop (mkF m 18 #[.val (.ref a1)] [])) (fun t k => XS.ifnullYes X1.here hx rfl (pc0 := 4) (pc' := 18) rfl (hb hby own_d14_4) rfl (by decide) (by decide) k) ?_
  refine own_via (T1.setTop (mkF m 19 #[.val (.ref a1)] [(.int (0 : Int32))])) (fun t k => XS.iconst X1.here hx rfl (hb hby own_d14_18) k) ?_
  exact own_retN X1 hx hlk (t := .boolean) hret (by simp) (hb hby own_d14_19) e1 (⟨rfl, N0, rfl⟩) (by decide) (by decide)
theorem own_d14_7 : decode prog_58_method_6_code 7 = .ok (.aload_n 0, 1) := by decide +kernel
theorem own_d14_8 : decode prog_58_method_6_code 8 = .ok (.getfield 17, 3) := by decide +kernel
theorem own_d14_11 : decode prog_58_method_6_code 11 = .ok (.ifCond .ne 7, 3) := by decide +kernel
theorem own_d14_14 : decode prog_58_method_6_code 14 = .ok (.iconst 1, 1) := by decide +kernel
theorem own_d14_15 : decode prog_58_method_6_code 15 = .ok (.goto 4, 3) := by decide +kernel
theorem own_ef_rm_ent1 (m : MethodId) (x0 : Addr) : entryFrame m #[(.ref x0)] 1 = mkF m 0 #[.val (.ref x0)] [] := by first | (simp [entryFrame, mkF, argsToLocals, Value.category]; done) | rfl
def Q_rm_ent1 (Z : State) (a1 : Nat) (b : Nat) (q : Int32) (h0 : Heap) (n0 : Nat) (v : Option Value) (h : Heap) (L : List Loc) : Prop := v = some (.int (1 : Int32)) ∧ Fr n0 L ∧ h = h0
set_option maxRecDepth 65536 in
set_option maxHeartbeats 40000000 in
theorem rm_ent1 (l : Launch) (Z : State) (a0 : Array Value) (hw : ∀ d ∈ tables_1, d.before a0 Z = true) (a1 : Nat) (b : Nat) (q : Int32) (h0 : Heap) (n0 : Nat) (Z0 : n0 ≤ h0.size) (pf0 : Fld Z h0 a1 "com/example/tendril/tendril/ejbql/QueryChecker$Type" "bean" "Lcom/example/tendril/tendril/ejbql/Schema$Bean;" (.ref b)) (pf1 : Fld Z h0 a1 "com/example/tendril/tendril/ejbql/QueryChecker$Type" "collection" "Z" (.int q)) (hq : q = 0) :
    own_CT l Z (⟨"com/example/tendril/tendril/ejbql/QueryChecker$Type", "isEntity", "()Z"⟩ : MethodName) prog_58_method_6_code 1 (some .boolean) ({ frames := 0, cells := 0, slots := 0, locals := 0 } : Room) #[(.ref a1)] h0 (Q_rm_ent1 Z a1 b q h0 n0) := by
  refine own_of own_pn3087031 (Ls := #[.val (.ref a1)]) (fun m => own_ef_rm_ent1 m a1) ?_
  intro p e s m below meth c T0 X0 hx hby hml hown hnm hret hZ e0 hlk
  have hown : s.vm.findClass "com/example/tendril/tendril/ejbql/QueryChecker$Type" = some m.cls := hown
  have N0 := Fr.nil n0
  have lt_a1 : @LT.lt Nat _ a1 h0.size := pf0.lt
  refine own_via (T0.setTop (mkF m 1 #[.val (.ref a1)] [(.ref a1)])) (fun t k => XS.aloadN X0.here hx rfl (hb hby own_d14_0) rfl rfl k) ?_
  obtain ⟨T1, X1, e1, st1⟩ := getF X0 hx hZ hown (host := "") (Or.inl (hw _ (List.mem_of_getElem? (i := 80) rfl))) Via.refl e0 pf0 (g := (mkF m 1 #[.val (.ref a1)] [(.ref a1)])) rfl rfl (hb hby own_d14_1)
  refine own_via (T1.setTop (mkF m 4 #[.val (.ref a1)] [(.ref b)])) (st1) ?_
  refine own_via (T1.setTop (mkF m 7 #[.val (.ref a1)] [])) (fun t k => XS.ifnullNo X1.here hx rfl (hb hby own_d14_4) rfl k) ?_
  refine own_via (T1.setTop (mkF m 8 #[.val (.ref a1)] [(.ref a1)])) (fun t k => XS.aloadN X1.here hx rfl (hb hby own_d14_7) rfl rfl k) ?_
  obtain ⟨T2, X2, e2, st2⟩ := getF X1 hx hZ hown (host := "") (Or.inl (hw _ (List.mem_of_getElem? (i := 82) rfl))) Via.refl e1 pf1 (g := (mkF m 8 #[.val (.ref a1)] [(.ref a1)])) rfl rfl (hb hby own_d14_8)
  refine own_via (T2.setTop (mkF m 11 #[.val (.ref a1)] [(.int q)])) (st2) ?_
  refine own_via (T2.setTop (mkF m 14 #[.val (.ref a1)] [])) (fun t k => XS.ifNo X2.here hx rfl (hb hby own_d14_11) rfl (XT.i0_ne_f hq) k) ?_
  refine own_via (T2.setTop (mkF m 15 #[.val (.ref a1)] [(.int (1 : Int32))])) (fun t k => XS.iconst X2.here hx rfl (hb hby own_d14_14) k) ?_
  refine own_via (T2.setTop (mkF m 19 #[.val (.ref a1)] [(.int (1 : Int32))])) (fun t k => XS.goto X2.here hx rfl (pc0 := 15) (pc' := 19) rfl (hb hby own_d14_15) (by decide) (by decide) k) ?_
  exact own_retN X2 hx hlk (t := .boolean) hret (by simp) (hb hby own_d14_19) e2 (⟨rfl, N0, rfl⟩) (by decide) (by decide)
theorem own_ef_rm_ent2 (m : MethodId) (x0 : Addr) : entryFrame m #[(.ref x0)] 1 = mkF m 0 #[.val (.ref x0)] [] := by first | (simp [entryFrame, mkF, argsToLocals, Value.category]; done) | rfl
def Q_rm_ent2 (Z : State) (a1 : Nat) (b : Nat) (q : Int32) (h0 : Heap) (n0 : Nat) (v : Option Value) (h : Heap) (L : List Loc) : Prop := v = some (.int (0 : Int32)) ∧ Fr n0 L ∧ h = h0
set_option maxRecDepth 65536 in
set_option maxHeartbeats 40000000 in
theorem rm_ent2 (l : Launch) (Z : State) (a0 : Array Value) (hw : ∀ d ∈ tables_1, d.before a0 Z = true) (a1 : Nat) (b : Nat) (q : Int32) (h0 : Heap) (n0 : Nat) (Z0 : n0 ≤ h0.size) (pf0 : Fld Z h0 a1 "com/example/tendril/tendril/ejbql/QueryChecker$Type" "bean" "Lcom/example/tendril/tendril/ejbql/Schema$Bean;" (.ref b)) (pf1 : Fld Z h0 a1 "com/example/tendril/tendril/ejbql/QueryChecker$Type" "collection" "Z" (.int q)) (hq : ¬ q = 0) :
    own_CT l Z (⟨"com/example/tendril/tendril/ejbql/QueryChecker$Type", "isEntity", "()Z"⟩ : MethodName) prog_58_method_6_code 1 (some .boolean) ({ frames := 0, cells := 0, slots := 0, locals := 0 } : Room) #[(.ref a1)] h0 (Q_rm_ent2 Z a1 b q h0 n0) := by
  refine own_of own_pn3087031 (Ls := #[.val (.ref a1)]) (fun m => own_ef_rm_ent2 m a1) ?_
  intro p e s m below meth c T0 X0 hx hby hml hown hnm hret hZ e0 hlk
  have hown : s.vm.findClass "com/example/tendril/tendril/ejbql/QueryChecker$Type" = some m.cls := hown
  have N0 := Fr.nil n0
  have lt_a1 : @LT.lt Nat _ a1 h0.size := pf0.lt
  refine own_via (T0.setTop (mkF m 1 #[.val (.ref a1)] [(.ref a1)])) (fun t k => XS.aloadN X0.here hx rfl (hb hby own_d14_0) rfl rfl k) ?_
  obtain ⟨T1, X1, e1, st1⟩ := getF X0 hx hZ hown (host := "") (Or.inl (hw _ (List.mem_of_getElem? (i := 80) rfl))) Via.refl e0 pf0 (g := (mkF m 1 #[.val (.ref a1)] [(.ref a1)])) rfl rfl (hb hby own_d14_1)
  refine own_via (T1.setTop (mkF m 4 #[.val (.ref a1)] [(.ref b)])) (st1) ?_
  refine own_via (T1.setTop (mkF m 7 #[.val (.ref a1)] [])) (fun t k => XS.ifnullNo X1.here hx rfl (hb hby own_d14_4) rfl k) ?_
  refine own_via (T1.setTop (mkF m 8 #[.val (.ref a1)] [(.ref a1)])) (fun t k => XS.aloadN X1.here hx rfl (hb hby own_d14_7) rfl rfl k) ?_
  obtain ⟨T2, X2, e2, st2⟩ := getF X1 hx hZ hown (host := "") (Or.inl (hw _ (List.mem_of_getElem? (i := 82) rfl))) Via.refl e1 pf1 (g := (mkF m 8 #[.val (.ref a1)] [(.ref a1)])) rfl rfl (hb hby own_d14_8)
  refine own_via (T2.setTop (mkF m 11 #[.val (.ref a1)] [(.int q)])) (st2) ?_
  refine own_via (T2.setTop (mkF m 18 #[.val (.ref a1)] [])) (fun t k => XS.ifYes X2.here hx rfl (pc0 := 11) (pc' := 18) rfl (hb hby own_d14_11) rfl (XT.i0_ne_t hq) (by decide) (by decide) k) ?_
  refine own_via (T2.setTop (mkF m 19 #[.val (.ref a1)] [(.int (0 : Int32))])) (fun t k => XS.iconst X2.here hx rfl (hb hby own_d14_18) k) ?_
  exact own_retN X2 hx hlk (t := .boolean) hret (by simp) (hb hby own_d14_19) e2 (⟨rfl, N0, rfl⟩) (by decide) (by decide)
theorem own_hws {Z : State} {a0 : Array Value} (hw : ∀ d ∈ tables_1, d.before a0 Z = true) : ∀ d ∈ StrChars.Road.words, d.before a0 Z = true := fun d hd => hw d ((by decide +kernel : ∀ d ∈ StrChars.Road.words, d ∈ tables_1) d hd)
theorem own_pn78751739 : plainFor (⟨"com/example/tendril/tendril/ejbql/TypeIsEntityPinLaw", "law", "(IIII)Z"⟩ : MethodName) = true := by first | exact Jvm.Free.JP.mathPlain rfl (by decide +kernel) | exact plainFor_of_name (by first | (simp [plainName, overriddenIn]; done) | decide +kernel) | decide +kernel
theorem own_pd95987610 : parseMethodDescriptor "([C)V" = some ⟨[(.array .char)], none⟩ := by decide +kernel
theorem own_pd6676492 : parseMethodDescriptor "()Ljava/util/Map;" = some ⟨[], some (.object "java/util/Map")⟩ := by decide +kernel
theorem own_pd3923754 : parseMethodDescriptor "(Ljava/lang/String;Ljava/lang/String;Ljava/lang/String;Ljava/util/Map;Ljava/util/Map;)V" = some ⟨[(.object "java/lang/String"), (.object "java/lang/String"), (.object "java/lang/String"), (.object "java/util/Map"), (.object "java/util/Map")], none⟩ := by decide +kernel
theorem own_pd10719516 : parseMethodDescriptor "(I)Lcom/example/tendril/tendril/ejbql/ValueType;" = some ⟨[.int], some (.object "com/example/tendril/tendril/ejbql/ValueType")⟩ := by decide +kernel
theorem own_pd15687503 : parseMethodDescriptor "(Lcom/example/tendril/tendril/ejbql/ValueType;)Lcom/example/tendril/tendril/ejbql/QueryChecker$Type;" = some ⟨[(.object "com/example/tendril/tendril/ejbql/ValueType")], some (.object "com/example/tendril/tendril/ejbql/QueryChecker$Type")⟩ := by decide +kernel
theorem own_pd48405890 : parseMethodDescriptor "()Z" = some ⟨[], some .boolean⟩ := by decide +kernel
theorem own_pd26472761 : parseMethodDescriptor "(Lcom/example/tendril/tendril/ejbql/Schema$Bean;)Lcom/example/tendril/tendril/ejbql/QueryChecker$Type;" = some ⟨[(.object "com/example/tendril/tendril/ejbql/Schema$Bean")], some (.object "com/example/tendril/tendril/ejbql/QueryChecker$Type")⟩ := by decide +kernel
theorem own_ef_rm_law (m : MethodId) (x0 : Int32) (x1 : Int32) (x2 : Int32) (x3 : Int32) : entryFrame m #[(.int x0), (.int x1), (.int x2), (.int x3)] maxLocals = mkF m 0 #[.val (.int x0), .val (.int x1), .val (.int x2), .val (.int x3), .unset, .unset, .unset, .unset, .unset, .unset, .unset] [] := by first | (simp [entryFrame, mkF, argsToLocals, Value.category, maxLocals]; done) | rfl
def Q_rm_law (Z : State) (p0 : Int32) (p1 : Int32) (p2 : Int32) (p3 : Int32) (G1 : Int32) (em : Nat) (x0 : Nat) (x1 : Nat) (x2 : Nat) (x3 : Nat) (x4 : Nat) (x5 : Nat) (h0 : Heap) (n0 : Nat) (v : Option Value) (h : Heap) (L : List Loc) : Prop := v = some (.int 1) ∧ Fr n0 L
set_option maxRecDepth 65536 in
set_option maxHeartbeats 40000000 in
theorem rm_law (l : Launch) (Z : State) (a0 : Array Value) (hw : ∀ d ∈ tables_1, d.before a0 Z = true) (p0 : Int32) (p1 : Int32) (p2 : Int32) (p3 : Int32) (G1 : Int32) (em : Nat) (x0 : Nat) (x1 : Nat) (x2 : Nat) (x3 : Nat) (x4 : Nat) (x5 : Nat) (h0 : Heap) (n0 : Nat) (Z0 : n0 ≤ h0.size) (pf0 : Sta Z Z.heap "java/lang/String" "COMPACT_STRINGS" "Z" (.int G1)) (pf1 : Sta Z Z.heap "java/util/ImmutableCollections" "EMPTY_MAP" "Ljava/util/ImmutableCollections$MapN;" (.ref em)) (pf2 : Exa Z h0 em "java/util/ImmutableCollections$MapN") (pf3 : Sta Z Z.heap "com/example/tendril/tendril/ejbql/ValueType" "NUMERIC" "Lcom/example/tendril/tendril/ejbql/ValueType;" (.ref x0)) (pf4 : Sta Z Z.heap "com/example/tendril/tendril/ejbql/ValueType" "STRING" "Lcom/example/tendril/tendril/ejbql/ValueType;" (.ref x1)) (pf5 : Sta Z Z.heap "com/example/tendril/tendril/ejbql/ValueType" "BOOLEAN" "Lcom/example/tendril/tendril/ejbql/ValueType;" (.ref x2)) (pf6 : Sta Z Z.heap "com/example/tendril/tendril/ejbql/ValueType" "DATETIME" "Lcom/example/tendril/tendril/ejbql/ValueType;" (.ref x3)) (pf7 : Sta Z Z.heap "com/example/tendril/tendril/ejbql/ValueType" "OTHER" "Lcom/example/tendril/tendril/ejbql/ValueType;" (.ref x4)) (pf8 : Sta Z Z.heap "com/example/tendril/tendril/ejbql/ValueType" "UNKNOWN" "Lcom/example/tendril/tendril/ejbql/ValueType;" (.ref x5)) (pf9 : Old Z n0 h0) (hG1 : ¬ G1 = 0) :
    own_CT l Z x code maxLocals ret room_1 #[(.int p0), (.int p1), (.int p2), (.int p3)] h0 (Q_rm_law Z p0 p1 p2 p3 G1 em x0 x1 x2 x3 x4 x5 h0 n0) := by
  refine own_of own_pn78751739 (Ls := #[.val (.int p0), .val (.int p1), .val (.int p2), .val (.int p3), .unset, .unset, .unset, .unset, .unset, .unset, .unset]) (fun m => own_ef_rm_law m p0 p1 p2 p3) ?_
  intro p e s m below meth c T0 X0 hx hby hml hown hnm hret hZ e0 hlk
  have hown : s.vm.findClass "com/example/tendril/tendril/ejbql/TypeIsEntityPinLaw" = some m.cls := hown
  have N0 := Fr.nil n0
  have lt_em : @LT.lt Nat _ em h0.size := pf2.lt
  refine own_via (T0.setTop (mkF m 1 #[.val (.int p0), .val (.int p1), .val (.int p2), .val (.int p3), .unset, .unset, .unset, .unset, .unset, .unset, .unset] [(.int p0)])) (fun t k => XS.iloadN X0.here hx rfl (hb hby at_0) rfl k) ?_
  refine own_via (T0.setTop (mkF m 3 #[.val (.int p0), .val (.int p1), .val (.int p2), .val (.int p3), .unset, .unset, .unset, .unset, .unset, .unset, .unset] [(.int (2147483647 : Int32)), (.int p0)])) (fun t k => X0.ldcInt hx hown (mvT hZ (hw _ (List.mem_of_getElem? (i := 0) rfl))) (g := (mkF m 1 #[.val (.int p0), .val (.int p1), .val (.int p2), .val (.int p3), .unset, .unset, .unset, .unset, .unset, .unset, .unset] [(.int p0)])) rfl (hb hby at_1) t k) ?_
  refine own_via (T0.setTop (mkF m 4 #[.val (.int p0), .val (.int p1), .val (.int p2), .val (.int p3), .unset, .unset, .unset, .unset, .unset, .unset, .unset] [(.int (p0 &&& (2147483647 : Int32)))])) (fun t k => XS.iand X0.here hx rfl (hb hby at_3) rfl k) ?_
  refine own_via (T0.setTop (mkF m 5 #[.val (.int p0), .val (.int p1), .val (.int p2), .val (.int p3), .unset, .unset, .unset, .unset, .unset, .unset, .unset] [(.int (3 : Int32)), (.int (p0 &&& (2147483647 : Int32)))])) (fun t k => XS.iconst X0.here hx rfl (hb hby at_4) k) ?_
  refine own_via (T0.setTop (mkF m 6 #[.val (.int p0), .val (.int p1), .val (.int p2), .val (.int p3), .unset, .unset, .unset, .unset, .unset, .unset, .unset] [(.int ((p0 &&& (2147483647 : Int32)) % (3 : Int32)))])) (fun t k => iremM X0 hx rfl (hb hby at_5) rfl (by decide) k) ?_
  refine own_via (T0.setTop (mkF m 8 #[.val (.int p0), .val (.int p1), .val (.int p2), .val (.int p3), .val (.int ((p0 &&& (2147483647 : Int32)) % (3 : Int32))), .unset, .unset, .unset, .unset, .unset, .unset] [])) (fun t k => XS.istore X0.here hx rfl (hb hby at_6) rfl (l' := #[.val (.int p0), .val (.int p1), .val (.int p2), .val (.int p3), .val (.int ((p0 &&& (2147483647 : Int32)) % (3 : Int32))), .unset, .unset, .unset, .unset, .unset, .unset]) rfl k) ?_
  refine own_via (T0.setTop (mkF m 9 #[.val (.int p0), .val (.int p1), .val (.int p2), .val (.int p3), .val (.int ((p0 &&& (2147483647 : Int32)) % (3 : Int32))), .unset, .unset, .unset, .unset, .unset, .unset] [(.int (2 : Int32))])) (fun t k => XS.iconst X0.here hx rfl (hb hby at_8) k) ?_
  obtain ⟨T1, h1, k1, X1, e1, E1, A1, st1⟩ := newP X0 hx hZ (hw _ (List.mem_of_getElem? (i := 1) rfl)) e0 (g := (mkF m 9 #[.val (.int p0), .val (.int p1), .val (.int p2), .val (.int p3), .val (.int ((p0 &&& (2147483647 : Int32)) % (3 : Int32))), .unset, .unset, .unset, .unset, .unset, .unset] [(.int (2 : Int32))])) rfl (hb hby at_9) rfl (by decide) (cap := 2) (by decide) (by decide) (by decide) (by decide)
  obtain ⟨o1, g1⟩ : ∃ z, z = h0.size := ⟨_, rfl⟩
  rw [← g1] at A1 st1
  have sz_h1 : h0.size ≤ h1.size := E1.1
  have V1 : Arv Z h1 o1 k1 .char (2 : Int32) [] (.int (0 : Int32)) := Arv.new A1 (by decide)
  have lt_o1 : @LT.lt Nat _ o1 h1.size := V1.lt
  refine own_via (T1.setTop (mkF m 11 #[.val (.int p0), .val (.int p1), .val (.int p2), .val (.int p3), .val (.int ((p0 &&& (2147483647 : Int32)) % (3 : Int32))), .unset, .unset, .unset, .unset, .unset, .unset] [(.ref o1)])) (st1) ?_
  refine own_via (T1.setTop (mkF m 13 #[.val (.int p0), .val (.int p1), .val (.int p2), .val (.int p3), .val (.int ((p0 &&& (2147483647 : Int32)) % (3 : Int32))), .val (.ref o1), .unset, .unset, .unset, .unset, .unset] [])) (fun t k => XS.astore X1.here hx rfl (hb hby at_11) rfl rfl (l' := #[.val (.int p0), .val (.int p1), .val (.int p2), .val (.int p3), .val (.int ((p0 &&& (2147483647 : Int32)) % (3 : Int32))), .val (.ref o1), .unset, .unset, .unset, .unset, .unset]) rfl k) ?_
  refine own_via (T1.setTop (mkF m 15 #[.val (.int p0), .val (.int p1), .val (.int p2), .val (.int p3), .val (.int ((p0 &&& (2147483647 : Int32)) % (3 : Int32))), .val (.ref o1), .unset, .unset, .unset, .unset, .unset] [(.ref o1)])) (fun t k => XS.aload X1.here hx rfl (hb hby at_13) rfl rfl k) ?_
  refine own_via (T1.setTop (mkF m 16 #[.val (.int p0), .val (.int p1), .val (.int p2), .val (.int p3), .val (.int ((p0 &&& (2147483647 : Int32)) % (3 : Int32))), .val (.ref o1), .unset, .unset, .unset, .unset, .unset] [(.int (0 : Int32)), (.ref o1)])) (fun t k => XS.iconst X1.here hx rfl (hb hby at_15) k) ?_
  refine own_via (T1.setTop (mkF m 17 #[.val (.int p0), .val (.int p1), .val (.int p2), .val (.int p3), .val (.int ((p0 &&& (2147483647 : Int32)) % (3 : Int32))), .val (.ref o1), .unset, .unset, .unset, .unset, .unset] [(.int p2), (.int (0 : Int32)), (.ref o1)])) (fun t k => XS.iloadN X1.here hx rfl (hb hby at_16) rfl k) ?_
  refine own_via (T1.setTop (mkF m 20 #[.val (.int p0), .val (.int p1), .val (.int p2), .val (.int p3), .val (.int ((p0 &&& (2147483647 : Int32)) % (3 : Int32))), .val (.ref o1), .unset, .unset, .unset, .unset, .unset] [(.int (255 : Int32)), (.int p2), (.int (0 : Int32)), (.ref o1)])) (fun t k => XS.sipush X1.here hx rfl (hb hby at_17) k) ?_
  refine own_via (T1.setTop (mkF m 21 #[.val (.int p0), .val (.int p1), .val (.int p2), .val (.int p3), .val (.int ((p0 &&& (2147483647 : Int32)) % (3 : Int32))), .val (.ref o1), .unset, .unset, .unset, .unset, .unset] [(.int (p2 &&& (255 : Int32))), (.int (0 : Int32)), (.ref o1)])) (fun t k => XS.iand X1.here hx rfl (hb hby at_20) rfl k) ?_
  refine own_via (T1.setTop (mkF m 22 #[.val (.int p0), .val (.int p1), .val (.int p2), .val (.int p3), .val (.int ((p0 &&& (2147483647 : Int32)) % (3 : Int32))), .val (.ref o1), .unset, .unset, .unset, .unset, .unset] [(.int (((p2 &&& (255 : Int32))).toUInt32.toUInt16.toUInt32.toInt32)), (.int (0 : Int32)), (.ref o1)])) (fun t k => XS.i2c X1.here hx rfl (hb hby at_21) rfl k) ?_
  generalize h_y1 : (((p2 &&& (255 : Int32))).toUInt32.toUInt16.toUInt32.toInt32) = y1
  have V2 : Arv Z h1 o1 k1 .char (2 : Int32) [(.int (0 : Int32))] (.int (0 : Int32)) := V1.pad (pad_rep [] (.int (0 : Int32)) 1)
  obtain ⟨c3, A3, q3, S3, M3, H3, U3⟩ := id V2
  obtain ⟨T4, h4, X4, e4, W4, st4⟩ := stC X1 hx hZ e1 A3 (j := (0 : Int32)) (inb_of S3 ⟨(by decide), (by decide)⟩) (g := (mkF m 22 #[.val (.int p0), .val (.int p1), .val (.int p2), .val (.int p3), .val (.int ((p0 &&& (2147483647 : Int32)) % (3 : Int32))), .val (.ref o1), .unset, .unset, .unset, .unset, .unset] [(.int y1), (.int (0 : Int32)), (.ref o1)])) rfl rfl (hb hby at_22)
  have N4 := Fr.snoc X4 N0 (show @LE.le Nat _ _ _ by omega)
  have sz_h4 : h4.size = h1.size := Wr.size W4
  have f5 : Arv Z h4 o1 k1 .char (2 : Int32) [(.int (nar .char y1))] (.int (0 : Int32)) := Arv.set A3 q3 S3 M3 H3 U3 (fits_nar_char _) W4 0 rfl (Nat.le_of_ble_eq_true rfl)
  refine own_via (T4.setTop (mkF m 23 #[.val (.int p0), .val (.int p1), .val (.int p2), .val (.int p3), .val (.int ((p0 &&& (2147483647 : Int32)) % (3 : Int32))), .val (.ref o1), .unset, .unset, .unset, .unset, .unset] [])) (st4) ?_
  refine own_via (T4.setTop (mkF m 25 #[.val (.int p0), .val (.int p1), .val (.int p2), .val (.int p3), .val (.int ((p0 &&& (2147483647 : Int32)) % (3 : Int32))), .val (.ref o1), .unset, .unset, .unset, .unset, .unset] [(.ref o1)])) (fun t k => XS.aload X4.here hx rfl (hb hby at_23) rfl rfl k) ?_
  refine own_via (T4.setTop (mkF m 26 #[.val (.int p0), .val (.int p1), .val (.int p2), .val (.int p3), .val (.int ((p0 &&& (2147483647 : Int32)) % (3 : Int32))), .val (.ref o1), .unset, .unset, .unset, .unset, .unset] [(.int (1 : Int32)), (.ref o1)])) (fun t k => XS.iconst X4.here hx rfl (hb hby at_25) k) ?_
  refine own_via (T4.setTop (mkF m 27 #[.val (.int p0), .val (.int p1), .val (.int p2), .val (.int p3), .val (.int ((p0 &&& (2147483647 : Int32)) % (3 : Int32))), .val (.ref o1), .unset, .unset, .unset, .unset, .unset] [(.int p3), (.int (1 : Int32)), (.ref o1)])) (fun t k => XS.iloadN X4.here hx rfl (hb hby at_26) rfl k) ?_
  refine own_via (T4.setTop (mkF m 30 #[.val (.int p0), .val (.int p1), .val (.int p2), .val (.int p3), .val (.int ((p0 &&& (2147483647 : Int32)) % (3 : Int32))), .val (.ref o1), .unset, .unset, .unset, .unset, .unset] [(.int (255 : Int32)), (.int p3), (.int (1 : Int32)), (.ref o1)])) (fun t k => XS.sipush X4.here hx rfl (hb hby at_27) k) ?_
  refine own_via (T4.setTop (mkF m 31 #[.val (.int p0), .val (.int p1), .val (.int p2), .val (.int p3), .val (.int ((p0 &&& (2147483647 : Int32)) % (3 : Int32))), .val (.ref o1), .unset, .unset, .unset, .unset, .unset] [(.int (p3 &&& (255 : Int32))), (.int (1 : Int32)), (.ref o1)])) (fun t k => XS.iand X4.here hx rfl (hb hby at_30) rfl k) ?_
  refine own_via (T4.setTop (mkF m 32 #[.val (.int p0), .val (.int p1), .val (.int p2), .val (.int p3), .val (.int ((p0 &&& (2147483647 : Int32)) % (3 : Int32))), .val (.ref o1), .unset, .unset, .unset, .unset, .unset] [(.int (((p3 &&& (255 : Int32))).toUInt32.toUInt16.toUInt32.toInt32)), (.int (1 : Int32)), (.ref o1)])) (fun t k => XS.i2c X4.here hx rfl (hb hby at_31) rfl k) ?_
  generalize h_y2 : (((p3 &&& (255 : Int32))).toUInt32.toUInt16.toUInt32.toInt32) = y2
  have V6 : Arv Z h4 o1 k1 .char (2 : Int32) [(.int (nar .char y1)), (.int (0 : Int32))] (.int (0 : Int32)) := f5.pad (pad_rep [(.int (nar .char y1))] (.int (0 : Int32)) 1)
  obtain ⟨c7, A7, q7, S7, M7, H7, U7⟩ := id V6
  obtain ⟨T8, h8, X8, e8, W8, st8⟩ := stC X4 hx hZ e4 A7 (j := (1 : Int32)) (inb_of S7 ⟨(by decide), (by decide)⟩) (g := (mkF m 32 #[.val (.int p0), .val (.int p1), .val (.int p2), .val (.int p3), .val (.int ((p0 &&& (2147483647 : Int32)) % (3 : Int32))), .val (.ref o1), .unset, .unset, .unset, .unset, .unset] [(.int y2), (.int (1 : Int32)), (.ref o1)])) rfl rfl (hb hby at_32)
  have N8 := Fr.snoc X8 N4 (show @LE.le Nat _ _ _ by omega)
  have sz_h8 : h8.size = h4.size := Wr.size W8
  have f9 : Arv Z h8 o1 k1 .char (2 : Int32) [(.int (nar .char y1)), (.int (nar .char y2))] (.int (0 : Int32)) := Arv.set A7 q7 S7 M7 H7 U7 (fits_nar_char _) W8 1 rfl (Nat.le_of_ble_eq_true rfl)
  refine own_via (T8.setTop (mkF m 33 #[.val (.int p0), .val (.int p1), .val (.int p2), .val (.int p3), .val (.int ((p0 &&& (2147483647 : Int32)) % (3 : Int32))), .val (.ref o1), .unset, .unset, .unset, .unset, .unset] [])) (st8) ?_
  obtain ⟨T10, h10, X10, e10, E10, A10, D10, U10, st10⟩ := newO X8 hx hZ hown (hw _ (List.mem_of_getElem? (i := 2) rfl)) (hw _ (List.mem_of_getElem? (i := 3) rfl)) (hw _ (List.mem_of_getElem? (i := 4) rfl)) e8 (g := (mkF m 33 #[.val (.int p0), .val (.int p1), .val (.int p2), .val (.int p3), .val (.int ((p0 &&& (2147483647 : Int32)) % (3 : Int32))), .val (.ref o1), .unset, .unset, .unset, .unset, .unset] [])) rfl (hb hby at_33) (by decide) (by decide)
  obtain ⟨o10, g10⟩ : ∃ z, z = h8.size := ⟨_, rfl⟩
  rw [← g10] at A10 D10 U10 st10
  have sz_h10 : h8.size ≤ h10.size := E10.1
  have lt_o10 : @LT.lt Nat _ o10 h10.size := A10.lt
  refine own_via (T10.setTop (mkF m 36 #[.val (.int p0), .val (.int p1), .val (.int p2), .val (.int p3), .val (.int ((p0 &&& (2147483647 : Int32)) % (3 : Int32))), .val (.ref o1), .unset, .unset, .unset, .unset, .unset] [(.ref o10)])) (st10) ?_
  refine own_via (T10.setTop (mkF m 37 #[.val (.int p0), .val (.int p1), .val (.int p2), .val (.int p3), .val (.int ((p0 &&& (2147483647 : Int32)) % (3 : Int32))), .val (.ref o1), .unset, .unset, .unset, .unset, .unset] [(.ref o10), (.ref o10)])) (fun t k => XS.dup X10.here hx rfl (hb hby at_36) rfl rfl k) ?_
  obtain ⟨T11, h11, X11, e11, E11, A11, D11, U11, st11⟩ := newO X10 hx hZ hown (hw _ (List.mem_of_getElem? (i := 5) rfl)) (hw _ (List.mem_of_getElem? (i := 6) rfl)) (hw _ (List.mem_of_getElem? (i := 7) rfl)) e10 (g := (mkF m 37 #[.val (.int p0), .val (.int p1), .val (.int p2), .val (.int p3), .val (.int ((p0 &&& (2147483647 : Int32)) % (3 : Int32))), .val (.ref o1), .unset, .unset, .unset, .unset, .unset] [(.ref o10), (.ref o10)])) rfl (hb hby at_37) (by decide) (by decide)
  obtain ⟨o11, g11⟩ : ∃ z, z = h10.size := ⟨_, rfl⟩
  rw [← g11] at A11 D11 U11 st11
  have sz_h11 : h10.size ≤ h11.size := E11.1
  have lt_o11 : @LT.lt Nat _ o11 h11.size := A11.lt
  refine own_via (T11.setTop (mkF m 40 #[.val (.int p0), .val (.int p1), .val (.int p2), .val (.int p3), .val (.int ((p0 &&& (2147483647 : Int32)) % (3 : Int32))), .val (.ref o1), .unset, .unset, .unset, .unset, .unset] [(.ref o11), (.ref o10), (.ref o10)])) (st11) ?_
  refine own_via (T11.setTop (mkF m 41 #[.val (.int p0), .val (.int p1), .val (.int p2), .val (.int p3), .val (.int ((p0 &&& (2147483647 : Int32)) % (3 : Int32))), .val (.ref o1), .unset, .unset, .unset, .unset, .unset] [(.ref o11), (.ref o11), (.ref o10), (.ref o10)])) (fun t k => XS.dup X11.here hx rfl (hb hby at_40) rfl rfl k) ?_
  refine own_via (T11.setTop (mkF m 43 #[.val (.int p0), .val (.int p1), .val (.int p2), .val (.int p3), .val (.int ((p0 &&& (2147483647 : Int32)) % (3 : Int32))), .val (.ref o1), .unset, .unset, .unset, .unset, .unset] [(.ref o1), (.ref o11), (.ref o11), (.ref o10), (.ref o10)])) (fun t k => XS.aload X11.here hx rfl (hb hby at_41) rfl rfl k) ?_
  have hp12 : ∀ c ∈ ([(nar .char y1), (nar .char y2)] : List Int32), ¬ c < 0 ∧ ¬ (255 : Int32) < c := by
    intro c hc
    simp only [List.mem_cons, List.not_mem_nil, or_false] at hc
    rcases hc with rfl | rfl
    · rw [← h_y1]; exact own_and255 _
    · rw [← h_y2]; exact own_and255 _
  have f13 : Fld Z h11 o11 "java/lang/String" "value" "[B" .null := (D11 (Or.inr (hw _ (List.mem_of_getElem? (i := 33) rfl))) (ty := (.array .byte)) (by decide))
  have f14 : Fld Z h11 o11 "java/lang/String" "coder" "B" (.int (0 : Int32)) := (D11 (Or.inr (hw _ (List.mem_of_getElem? (i := 31) rfl))) (ty := .byte) (by decide))
  have f15 : Arv Z h11 o1 k1 .char (2 : Int32) [(.int (nar .char y1)), (.int (nar .char y2))] (.int (0 : Int32)) := ((f9.ext E10).ext E11)
  have f16 : Old Z n0 h11 := (((((pf9.ext E1).wr W4 (show @LE.le Nat _ _ _ by omega)).wr W8 (show @LE.le Nat _ _ _ by omega)).ext E10).ext E11)
  obtain ⟨v17, T17, h17, L17, X17, e17, q17, st17⟩ := own_cI X11 hx hZ hown (hw _ (List.mem_of_getElem? (i := 8) rfl)) (hw _ (List.mem_of_getElem? (i := 9) rfl)) (hw _ (List.mem_of_getElem? (i := 10) rfl)) rfl (by decide) (W := 3) (StrChars.Road.backV hZ (own_hws hw) (kI := 4) (hw _ (List.mem_of_getElem? (i := 6) rfl)) (cs := ([(nar .char y1), (nar .char y2)] : List Int32)) (bs := (([(nar .char y1), (nar .char y2)] : List Int32)).map (fun c => c.toInt8.toInt32)) (n := 2) (n0 := n0) (by omega) (by omega) A11 f13 f14 f15 (pf0.ext f16.2) hG1 rfl rfl (by decide) (by decide) hp12 rfl (by decide) (by decide)) e11 (a := o11) (Ls := #[.val (.int p0), .val (.int p1), .val (.int p2), .val (.int p3), .val (.int ((p0 &&& (2147483647 : Int32)) % (3 : Int32))), .val (.ref o1), .unset, .unset, .unset, .unset, .unset]) (by rw [hml]; rfl) (argsL := [(.ref o1)]) (rest := [(.ref o11), (.ref o10), (.ref o10)]) rfl (lenOf own_pd95987610 rfl) rfl (Nat.le_of_eq rfl) (hb hby at_43) (by decide) (by decide)
  obtain ⟨rfl, Nq17, Kq17, fE17, fC17, t17, kb17, u17, w17, n17, fV17, fA17⟩ := q17
  have N17 := Fr.app N8 Nq17
  have sz_h17 : h11.size ≤ h17.size := Kq17.1
  have lt_t17 := fA17.lt
  refine own_via (T17.setTop (mkF m 46 #[.val (.int p0), .val (.int p1), .val (.int p2), .val (.int p3), .val (.int ((p0 &&& (2147483647 : Int32)) % (3 : Int32))), .val (.ref o1), .unset, .unset, .unset, .unset, .unset] [(.ref o11), (.ref o10), (.ref o10)])) (st17) ?_
  refine own_via (T17.setTop (mkF m 47 #[.val (.int p0), .val (.int p1), .val (.int p2), .val (.int p3), .val (.int ((p0 &&& (2147483647 : Int32)) % (3 : Int32))), .val (.ref o1), .unset, .unset, .unset, .unset, .unset] [.null, (.ref o11), (.ref o10), (.ref o10)])) (fun t k => XS.aconstNull X17.here hx rfl (hb hby at_46) k) ?_
  refine own_via (T17.setTop (mkF m 48 #[.val (.int p0), .val (.int p1), .val (.int p2), .val (.int p3), .val (.int ((p0 &&& (2147483647 : Int32)) % (3 : Int32))), .val (.ref o1), .unset, .unset, .unset, .unset, .unset] [.null, .null, (.ref o11), (.ref o10), (.ref o10)])) (fun t k => XS.aconstNull X17.here hx rfl (hb hby at_47) k) ?_
  have f18 : Old Z n0 h17 := (f16.keep Kq17 (allS (show @LE.le Nat _ _ _ by omega) all0))
  obtain ⟨v19, T19, h19, L19, X19, e19, q19, st19⟩ := own_cS X17 hx hZ hown (hw _ (List.mem_of_getElem? (i := 34) rfl)) (hw _ (List.mem_of_getElem? (i := 35) rfl)) (hw _ (List.mem_of_getElem? (i := 36) rfl)) (hw _ (List.mem_of_getElem? (i := 37) rfl)) (by decide) (W := 5) (own_bk (rm_mapOf l Z a0 hw em h17 n0 (by omega) pf1 f18) hZ (hw _ (List.mem_of_getElem? (i := 37) rfl)) (hw _ (List.mem_of_getElem? (i := 36) rfl)) (by decide) (by decide)) e17 (Ls := #[.val (.int p0), .val (.int p1), .val (.int p2), .val (.int p3), .val (.int ((p0 &&& (2147483647 : Int32)) % (3 : Int32))), .val (.ref o1), .unset, .unset, .unset, .unset, .unset]) (by rw [hml]; rfl) (argsL := []) (rest := [.null, .null, (.ref o11), (.ref o10), (.ref o10)]) rfl (lenOf own_pd6676492 rfl) rfl (Nat.le_of_eq rfl) (hb hby at_48) (by decide) (by decide)
  obtain ⟨rfl, Nq19, eq19⟩ := q19
  have N19 := Fr.app N17 Nq19
  replace e19 := e19.trans eq19
  refine own_via (T19.setTop (mkF m 51 #[.val (.int p0), .val (.int p1), .val (.int p2), .val (.int p3), .val (.int ((p0 &&& (2147483647 : Int32)) % (3 : Int32))), .val (.ref o1), .unset, .unset, .unset, .unset, .unset] [(.ref em), .null, .null, (.ref o11), (.ref o10), (.ref o10)])) (st19) ?_
  obtain ⟨v20, T20, h20, L20, X20, e20, q20, st20⟩ := own_cS X19 hx hZ hown (hw _ (List.mem_of_getElem? (i := 34) rfl)) (hw _ (List.mem_of_getElem? (i := 35) rfl)) (hw _ (List.mem_of_getElem? (i := 36) rfl)) (hw _ (List.mem_of_getElem? (i := 37) rfl)) (by decide) (W := 6) (own_bk (rm_mapOf l Z a0 hw em h17 n0 (by omega) pf1 f18) hZ (hw _ (List.mem_of_getElem? (i := 37) rfl)) (hw _ (List.mem_of_getElem? (i := 36) rfl)) (by decide) (by decide)) e19 (Ls := #[.val (.int p0), .val (.int p1), .val (.int p2), .val (.int p3), .val (.int ((p0 &&& (2147483647 : Int32)) % (3 : Int32))), .val (.ref o1), .unset, .unset, .unset, .unset, .unset]) (by rw [hml]; rfl) (argsL := []) (rest := [(.ref em), .null, .null, (.ref o11), (.ref o10), (.ref o10)]) rfl (lenOf own_pd6676492 rfl) rfl (Nat.le_of_eq rfl) (hb hby at_51) (by decide) (by decide)
  obtain ⟨rfl, Nq20, eq20⟩ := q20
  have N20 := Fr.app N19 Nq20
  replace e20 := e20.trans eq20
  refine own_via (T20.setTop (mkF m 54 #[.val (.int p0), .val (.int p1), .val (.int p2), .val (.int p3), .val (.int ((p0 &&& (2147483647 : Int32)) % (3 : Int32))), .val (.ref o1), .unset, .unset, .unset, .unset, .unset] [(.ref em), (.ref em), .null, .null, (.ref o11), (.ref o10), (.ref o10)])) (st20) ?_
  have f21 : Exa Z h17 o10 "com/example/tendril/tendril/ejbql/Schema$Bean" := ((A10.ext E11).keep Kq17)
  have f22 : Exa Z h17 em "java/util/ImmutableCollections$MapN" := ((((((pf2.ext E1).wr W4).wr W8).ext E10).ext E11).keep Kq17)
  have f23 : Fld Z h17 o10 "com/example/tendril/tendril/ejbql/Schema$Bean" "ejbName" "Ljava/lang/String;" .null := (((D10 (Or.inr (hw _ (List.mem_of_getElem? (i := 55) rfl))) (ty := (.object "java/lang/String")) (by decide)).ext E11).keep Kq17 (ninS (show @Ne Nat _ _ by omega) nin0))
  have f24 : Fld Z h17 o10 "com/example/tendril/tendril/ejbql/Schema$Bean" "abstractSchemaName" "Ljava/lang/String;" .null := (((D10 (Or.inr (hw _ (List.mem_of_getElem? (i := 57) rfl))) (ty := (.object "java/lang/String")) (by decide)).ext E11).keep Kq17 (ninS (show @Ne Nat _ _ by omega) nin0))
  have f25 : Fld Z h17 o10 "com/example/tendril/tendril/ejbql/Schema$Bean" "localInterface" "Ljava/lang/String;" .null := (((D10 (Or.inr (hw _ (List.mem_of_getElem? (i := 59) rfl))) (ty := (.object "java/lang/String")) (by decide)).ext E11).keep Kq17 (ninS (show @Ne Nat _ _ by omega) nin0))
  have f26 : Fld Z h17 o10 "com/example/tendril/tendril/ejbql/Schema$Bean" "cmpFields" "Ljava/util/Map;" .null := (((D10 (Or.inr (hw _ (List.mem_of_getElem? (i := 61) rfl))) (ty := (.object "java/util/Map")) (by decide)).ext E11).keep Kq17 (ninS (show @Ne Nat _ _ by omega) nin0))
  have f27 : Fld Z h17 o10 "com/example/tendril/tendril/ejbql/Schema$Bean" "cmrFields" "Ljava/util/Map;" .null := (((D10 (Or.inr (hw _ (List.mem_of_getElem? (i := 63) rfl))) (ty := (.object "java/util/Map")) (by decide)).ext E11).keep Kq17 (ninS (show @Ne Nat _ _ by omega) nin0))
  obtain ⟨v28, T28, h28, L28, X28, e28, q28, st28⟩ := own_cI X20 hx hZ hown (hw _ (List.mem_of_getElem? (i := 40) rfl)) (hw _ (List.mem_of_getElem? (i := 41) rfl)) (hw _ (List.mem_of_getElem? (i := 42) rfl)) rfl (by decide) (W := 1) (own_bk (rm_bean l Z a0 hw o10 o11 em .null .null .null .null .null h17 n0 (by omega) f21 f22 f23 f24 f25 f26 f27 (show @LE.le Nat _ _ _ by omega)) hZ (hw _ (List.mem_of_getElem? (i := 42) rfl)) (hw _ (List.mem_of_getElem? (i := 4) rfl)) (by decide) (by decide)) e20 (a := o10) (Ls := #[.val (.int p0), .val (.int p1), .val (.int p2), .val (.int p3), .val (.int ((p0 &&& (2147483647 : Int32)) % (3 : Int32))), .val (.ref o1), .unset, .unset, .unset, .unset, .unset]) (by rw [hml]; rfl) (argsL := [(.ref o11), .null, .null, (.ref em), (.ref em)]) (rest := [(.ref o10)]) rfl (lenOf own_pd3923754 rfl) rfl (Nat.le_of_eq rfl) (hb hby at_54) (by decide) (by decide)
  obtain ⟨rfl, Nq28, Kq28, f29⟩ := q28
  have N28 := Fr.app N20 Nq28
  have sz_h28 : h17.size ≤ h28.size := Kq28.1
  refine own_via (T28.setTop (mkF m 57 #[.val (.int p0), .val (.int p1), .val (.int p2), .val (.int p3), .val (.int ((p0 &&& (2147483647 : Int32)) % (3 : Int32))), .val (.ref o1), .unset, .unset, .unset, .unset, .unset] [(.ref o10)])) (st28) ?_
  refine own_via (T28.setTop (mkF m 59 #[.val (.int p0), .val (.int p1), .val (.int p2), .val (.int p3), .val (.int ((p0 &&& (2147483647 : Int32)) % (3 : Int32))), .val (.ref o1), .val (.ref o10), .unset, .unset, .unset, .unset] [])) (fun t k => XS.astore X28.here hx rfl (hb hby at_57) rfl rfl (l' := #[.val (.int p0), .val (.int p1), .val (.int p2), .val (.int p3), .val (.int ((p0 &&& (2147483647 : Int32)) % (3 : Int32))), .val (.ref o1), .val (.ref o10), .unset, .unset, .unset, .unset]) rfl k) ?_
  refine own_via (T28.setTop (mkF m 61 #[.val (.int p0), .val (.int p1), .val (.int p2), .val (.int p3), .val (.int ((p0 &&& (2147483647 : Int32)) % (3 : Int32))), .val (.ref o1), .val (.ref o10), .unset, .unset, .unset, .unset] [(.int ((p0 &&& (2147483647 : Int32)) % (3 : Int32)))])) (fun t k => XS.iload X28.here hx rfl (hb hby at_59) rfl k) ?_
  by_cases hs0 : ((p0 &&& (2147483647 : Int32)) % (3 : Int32)) = 0
  · refine own_via (T28.setTop (mkF m 64 #[.val (.int p0), .val (.int p1), .val (.int p2), .val (.int p3), .val (.int ((p0 &&& (2147483647 : Int32)) % (3 : Int32))), .val (.ref o1), .val (.ref o10), .unset, .unset, .unset, .unset] [])) (fun t k => XS.ifNo X28.here hx rfl (hb hby at_61) rfl (XT.i0_ne_f hs0) k) ?_
    refine own_via (T28.setTop (mkF m 65 #[.val (.int p0), .val (.int p1), .val (.int p2), .val (.int p3), .val (.int ((p0 &&& (2147483647 : Int32)) % (3 : Int32))), .val (.ref o1), .val (.ref o10), .unset, .unset, .unset, .unset] [(.int p1)])) (fun t k => XS.iloadN X28.here hx rfl (hb hby at_64) rfl k) ?_
    have f30 : Old Z n0 h28 := (f18.keep Kq28 (allS (show @LE.le Nat _ _ _ by omega) all0))
    obtain ⟨v31, T31, h31, L31, X31, e31, q31, st31⟩ := own_cS X28 hx hZ hown (hw _ (List.mem_of_getElem? (i := 64) rfl)) (hw _ (List.mem_of_getElem? (i := 65) rfl)) (hw _ (List.mem_of_getElem? (i := 66) rfl)) (hw _ (List.mem_of_getElem? (i := 67) rfl)) (by decide) (W := 0) (own_bk (rm_pick l Z a0 hw p1 x0 x1 x2 x3 x4 x5 h28 n0 (by omega) pf3 pf4 pf5 pf6 pf7 pf8 f30) hZ (hw _ (List.mem_of_getElem? (i := 67) rfl)) (hw _ (List.mem_of_getElem? (i := 66) rfl)) (by decide) (by decide)) e28 (Ls := #[.val (.int p0), .val (.int p1), .val (.int p2), .val (.int p3), .val (.int ((p0 &&& (2147483647 : Int32)) % (3 : Int32))), .val (.ref o1), .val (.ref o10), .unset, .unset, .unset, .unset]) (by rw [hml]; rfl) (argsL := [(.int p1)]) (rest := []) rfl (lenOf own_pd10719516 rfl) rfl (Nat.le_of_eq rfl) (hb hby at_65) (by decide) (by decide)
    obtain ⟨r_31, rfl, Nq31, eq31⟩ := q31
    have N31 := Fr.app N28 Nq31
    replace e31 := e31.trans eq31
    refine own_via (T31.setTop (mkF m 68 #[.val (.int p0), .val (.int p1), .val (.int p2), .val (.int p3), .val (.int ((p0 &&& (2147483647 : Int32)) % (3 : Int32))), .val (.ref o1), .val (.ref o10), .unset, .unset, .unset, .unset] [(.ref r_31)])) (st31) ?_
    refine own_via (T31.setTop (mkF m 70 #[.val (.int p0), .val (.int p1), .val (.int p2), .val (.int p3), .val (.int ((p0 &&& (2147483647 : Int32)) % (3 : Int32))), .val (.ref o1), .val (.ref o10), .unset, .unset, .unset, .val (.ref r_31)] [])) (fun t k => XS.astore X31.here hx rfl (hb hby at_68) rfl rfl (l' := #[.val (.int p0), .val (.int p1), .val (.int p2), .val (.int p3), .val (.int ((p0 &&& (2147483647 : Int32)) % (3 : Int32))), .val (.ref o1), .val (.ref o10), .unset, .unset, .unset, .val (.ref r_31)]) rfl k) ?_
    obtain ⟨T32, h32, X32, e32, E32, A32, D32, U32, st32⟩ := newO X31 hx hZ hown (hw _ (List.mem_of_getElem? (i := 71) rfl)) (hw _ (List.mem_of_getElem? (i := 72) rfl)) (hw _ (List.mem_of_getElem? (i := 73) rfl)) e31 (g := (mkF m 70 #[.val (.int p0), .val (.int p1), .val (.int p2), .val (.int p3), .val (.int ((p0 &&& (2147483647 : Int32)) % (3 : Int32))), .val (.ref o1), .val (.ref o10), .unset, .unset, .unset, .val (.ref r_31)] [])) rfl (hb hby at_70) (by decide) (by decide)
    obtain ⟨o32, g32⟩ : ∃ z, z = h28.size := ⟨_, rfl⟩
    rw [← g32] at A32 D32 U32 st32
    have sz_h32 : h28.size ≤ h32.size := E32.1
    have lt_o32 : @LT.lt Nat _ o32 h32.size := A32.lt
    refine own_via (T32.setTop (mkF m 73 #[.val (.int p0), .val (.int p1), .val (.int p2), .val (.int p3), .val (.int ((p0 &&& (2147483647 : Int32)) % (3 : Int32))), .val (.ref o1), .val (.ref o10), .unset, .unset, .unset, .val (.ref r_31)] [(.ref o32)])) (st32) ?_
    refine own_via (T32.setTop (mkF m 74 #[.val (.int p0), .val (.int p1), .val (.int p2), .val (.int p3), .val (.int ((p0 &&& (2147483647 : Int32)) % (3 : Int32))), .val (.ref o1), .val (.ref o10), .unset, .unset, .unset, .val (.ref r_31)] [(.ref o32), (.ref o32)])) (fun t k => XS.dup X32.here hx rfl (hb hby at_73) rfl rfl k) ?_
    refine own_via (T32.setTop (mkF m 76 #[.val (.int p0), .val (.int p1), .val (.int p2), .val (.int p3), .val (.int ((p0 &&& (2147483647 : Int32)) % (3 : Int32))), .val (.ref o1), .val (.ref o10), .unset, .unset, .unset, .val (.ref r_31)] [(.ref r_31), (.ref o32), (.ref o32)])) (fun t k => XS.aload X32.here hx rfl (hb hby at_74) rfl rfl k) ?_
    refine own_via (T32.setTop (mkF m 77 #[.val (.int p0), .val (.int p1), .val (.int p2), .val (.int p3), .val (.int ((p0 &&& (2147483647 : Int32)) % (3 : Int32))), .val (.ref o1), .val (.ref o10), .unset, .unset, .unset, .val (.ref r_31)] [.null, (.ref r_31), (.ref o32), (.ref o32)])) (fun t k => XS.aconstNull X32.here hx rfl (hb hby at_76) k) ?_
    refine own_via (T32.setTop (mkF m 78 #[.val (.int p0), .val (.int p1), .val (.int p2), .val (.int p3), .val (.int ((p0 &&& (2147483647 : Int32)) % (3 : Int32))), .val (.ref o1), .val (.ref o10), .unset, .unset, .unset, .val (.ref r_31)] [(.int (0 : Int32)), .null, (.ref r_31), (.ref o32), (.ref o32)])) (fun t k => XS.iconst X32.here hx rfl (hb hby at_77) k) ?_
    have f33 : Fld Z h32 o32 "com/example/tendril/tendril/ejbql/QueryChecker$Type" "value" "Lcom/example/tendril/tendril/ejbql/ValueType;" .null := (D32 (Or.inr (hw _ (List.mem_of_getElem? (i := 79) rfl))) (ty := (.object "com/example/tendril/tendril/ejbql/ValueType")) (by decide))
    have f34 : Fld Z h32 o32 "com/example/tendril/tendril/ejbql/QueryChecker$Type" "bean" "Lcom/example/tendril/tendril/ejbql/Schema$Bean;" .null := (D32 (Or.inr (hw _ (List.mem_of_getElem? (i := 81) rfl))) (ty := (.object "com/example/tendril/tendril/ejbql/Schema$Bean")) (by decide))
    have f35 : Fld Z h32 o32 "com/example/tendril/tendril/ejbql/QueryChecker$Type" "collection" "Z" (.int (0 : Int32)) := (D32 (Or.inr (hw _ (List.mem_of_getElem? (i := 83) rfl))) (ty := .boolean) (by decide))
    obtain ⟨v36, T36, h36, L36, X36, e36, q36, st36⟩ := own_cI X32 hx hZ hown (hw _ (List.mem_of_getElem? (i := 74) rfl)) (hw _ (List.mem_of_getElem? (i := 75) rfl)) (hw _ (List.mem_of_getElem? (i := 76) rfl)) rfl (by decide) (W := 1) (own_bk (rm_type l Z a0 hw o32 (.ref r_31) .null (0 : Int32) .null .null (.int (0 : Int32)) h32 n0 (by omega) A32 f33 f34 f35 rfl rfl (show @LE.le Nat _ _ _ by omega)) hZ (hw _ (List.mem_of_getElem? (i := 76) rfl)) (hw _ (List.mem_of_getElem? (i := 73) rfl)) (by decide) (by decide)) e32 (a := o32) (Ls := #[.val (.int p0), .val (.int p1), .val (.int p2), .val (.int p3), .val (.int ((p0 &&& (2147483647 : Int32)) % (3 : Int32))), .val (.ref o1), .val (.ref o10), .unset, .unset, .unset, .val (.ref r_31)]) (by rw [hml]; rfl) (argsL := [(.ref r_31), .null, (.int (0 : Int32))]) (rest := [(.ref o32)]) rfl (lenOf own_pd65518967 rfl) rfl (Nat.le_of_eq rfl) (hb hby at_78) (by decide) (by decide)
    obtain ⟨rfl, Nq36, Kq36, f37, f38, f39⟩ := q36
    have N36 := Fr.app N31 Nq36
    have sz_h36 : h32.size ≤ h36.size := Kq36.1
    refine own_via (T36.setTop (mkF m 81 #[.val (.int p0), .val (.int p1), .val (.int p2), .val (.int p3), .val (.int ((p0 &&& (2147483647 : Int32)) % (3 : Int32))), .val (.ref o1), .val (.ref o10), .unset, .unset, .unset, .val (.ref r_31)] [(.ref o32)])) (st36) ?_
    refine own_via (T36.setTop (mkF m 83 #[.val (.int p0), .val (.int p1), .val (.int p2), .val (.int p3), .val (.int ((p0 &&& (2147483647 : Int32)) % (3 : Int32))), .val (.ref o1), .val (.ref o10), .val (.ref o32), .unset, .unset, .val (.ref r_31)] [])) (fun t k => XS.astore X36.here hx rfl (hb hby at_81) rfl rfl (l' := #[.val (.int p0), .val (.int p1), .val (.int p2), .val (.int p3), .val (.int ((p0 &&& (2147483647 : Int32)) % (3 : Int32))), .val (.ref o1), .val (.ref o10), .val (.ref o32), .unset, .unset, .val (.ref r_31)]) rfl k) ?_
    refine own_via (T36.setTop (mkF m 85 #[.val (.int p0), .val (.int p1), .val (.int p2), .val (.int p3), .val (.int ((p0 &&& (2147483647 : Int32)) % (3 : Int32))), .val (.ref o1), .val (.ref o10), .val (.ref o32), .unset, .unset, .val (.ref r_31)] [(.ref r_31)])) (fun t k => XS.aload X36.here hx rfl (hb hby at_83) rfl rfl k) ?_
    obtain ⟨v40, T40, h40, L40, X40, e40, q40, st40⟩ := own_cS X36 hx hZ hown (hw _ (List.mem_of_getElem? (i := 84) rfl)) (hw _ (List.mem_of_getElem? (i := 85) rfl)) (hw _ (List.mem_of_getElem? (i := 73) rfl)) (hw _ (List.mem_of_getElem? (i := 86) rfl)) (by decide) (W := 0) (own_bk (rm_of l Z a0 hw r_31 h36 n0 (by omega)) hZ (hw _ (List.mem_of_getElem? (i := 86) rfl)) (hw _ (List.mem_of_getElem? (i := 73) rfl)) (by decide) (by decide)) e36 (Ls := #[.val (.int p0), .val (.int p1), .val (.int p2), .val (.int p3), .val (.int ((p0 &&& (2147483647 : Int32)) % (3 : Int32))), .val (.ref o1), .val (.ref o10), .val (.ref o32), .unset, .unset, .val (.ref r_31)]) (by rw [hml]; rfl) (argsL := [(.ref r_31)]) (rest := []) rfl (lenOf own_pd15687503 rfl) rfl (Nat.le_of_eq rfl) (hb hby at_85) (by decide) (by decide)
    obtain ⟨b_40, rfl, Nq40, Kq40, f41, f42, f43⟩ := q40
    have N40 := Fr.app N36 Nq40
    have sz_h40 : h36.size ≤ h40.size := Kq40.1
    have lt_b_40 : @LT.lt Nat _ b_40 h40.size := f41.lt
    refine own_via (T40.setTop (mkF m 88 #[.val (.int p0), .val (.int p1), .val (.int p2), .val (.int p3), .val (.int ((p0 &&& (2147483647 : Int32)) % (3 : Int32))), .val (.ref o1), .val (.ref o10), .val (.ref o32), .unset, .unset, .val (.ref r_31)] [(.ref b_40)])) (st40) ?_
    refine own_via (T40.setTop (mkF m 90 #[.val (.int p0), .val (.int p1), .val (.int p2), .val (.int p3), .val (.int ((p0 &&& (2147483647 : Int32)) % (3 : Int32))), .val (.ref o1), .val (.ref o10), .val (.ref o32), .val (.ref b_40), .unset, .val (.ref r_31)] [])) (fun t k => XS.astore X40.here hx rfl (hb hby at_88) rfl rfl (l' := #[.val (.int p0), .val (.int p1), .val (.int p2), .val (.int p3), .val (.int ((p0 &&& (2147483647 : Int32)) % (3 : Int32))), .val (.ref o1), .val (.ref o10), .val (.ref o32), .val (.ref b_40), .unset, .val (.ref r_31)]) rfl k) ?_
    refine own_via (T40.setTop (mkF m 91 #[.val (.int p0), .val (.int p1), .val (.int p2), .val (.int p3), .val (.int ((p0 &&& (2147483647 : Int32)) % (3 : Int32))), .val (.ref o1), .val (.ref o10), .val (.ref o32), .val (.ref b_40), .unset, .val (.ref r_31)] [(.int (0 : Int32))])) (fun t k => XS.iconst X40.here hx rfl (hb hby at_90) k) ?_
    refine own_via (T40.setTop (mkF m 93 #[.val (.int p0), .val (.int p1), .val (.int p2), .val (.int p3), .val (.int ((p0 &&& (2147483647 : Int32)) % (3 : Int32))), .val (.ref o1), .val (.ref o10), .val (.ref o32), .val (.ref b_40), .val (.int (0 : Int32)), .val (.ref r_31)] [])) (fun t k => XS.istore X40.here hx rfl (hb hby at_91) rfl (l' := #[.val (.int p0), .val (.int p1), .val (.int p2), .val (.int p3), .val (.int ((p0 &&& (2147483647 : Int32)) % (3 : Int32))), .val (.ref o1), .val (.ref o10), .val (.ref o32), .val (.ref b_40), .val (.int (0 : Int32)), .val (.ref r_31)]) rfl k) ?_
    refine own_via (T40.setTop (mkF m 151 #[.val (.int p0), .val (.int p1), .val (.int p2), .val (.int p3), .val (.int ((p0 &&& (2147483647 : Int32)) % (3 : Int32))), .val (.ref o1), .val (.ref o10), .val (.ref o32), .val (.ref b_40), .val (.int (0 : Int32)), .val (.ref r_31)] [])) (fun t k => XS.goto X40.here hx rfl (pc0 := 93) (pc' := 151) rfl (hb hby at_93) (by decide) (by decide) k) ?_
    refine own_via (T40.setTop (mkF m 153 #[.val (.int p0), .val (.int p1), .val (.int p2), .val (.int p3), .val (.int ((p0 &&& (2147483647 : Int32)) % (3 : Int32))), .val (.ref o1), .val (.ref o10), .val (.ref o32), .val (.ref b_40), .val (.int (0 : Int32)), .val (.ref r_31)] [(.ref o32)])) (fun t k => XS.aload X40.here hx rfl (hb hby at_151) rfl rfl k) ?_
    have f44 : Fld Z h40 o32 "com/example/tendril/tendril/ejbql/QueryChecker$Type" "bean" "Lcom/example/tendril/tendril/ejbql/Schema$Bean;" .null := (f38.keep Kq40 nin0)
    have f46 : Exa Z h40 o32 "com/example/tendril/tendril/ejbql/QueryChecker$Type" := (f37.keep Kq40)
    obtain ⟨v45, T45, h45, L45, X45, e45, q45, st45⟩ := own_cV X40 hx hZ (y := (⟨"com/example/tendril/tendril/ejbql/QueryChecker$Type", "isEntity", "()Z"⟩ : MethodName)) (z := (⟨"com/example/tendril/tendril/ejbql/QueryChecker$Type", "isEntity", "()Z"⟩ : MethodName)) hown (hw _ (List.mem_of_getElem? (i := 89) rfl)) (hw _ (List.mem_of_getElem? (i := 90) rfl)) (notFace_of_selects (args := #[]) (mvT hZ (hw _ (List.mem_of_getElem? (i := 92) rfl)))) (hw _ (List.mem_of_getElem? (i := 92) rfl)) (hw _ (List.mem_of_getElem? (i := 91) rfl)) (by decide) (W := 0) (own_bk (rm_ent0 l Z a0 hw o32 h40 n0 (by omega) f44) hZ (hw _ (List.mem_of_getElem? (i := 93) rfl)) (hw _ (List.mem_of_getElem? (i := 73) rfl)) (by decide) (by decide)) e40 f46 (Ls := #[.val (.int p0), .val (.int p1), .val (.int p2), .val (.int p3), .val (.int ((p0 &&& (2147483647 : Int32)) % (3 : Int32))), .val (.ref o1), .val (.ref o10), .val (.ref o32), .val (.ref b_40), .val (.int (0 : Int32)), .val (.ref r_31)]) (by rw [hml]; rfl) (argsL := []) (rest := []) rfl (lenOf own_pd48405890 rfl) rfl (Nat.le_of_eq rfl) (hb hby at_153) (by decide) (by decide)
    obtain ⟨rfl, Nq45, eq45⟩ := q45
    have N45 := Fr.app N40 Nq45
    replace e45 := e45.trans eq45
    refine own_via (T45.setTop (mkF m 156 #[.val (.int p0), .val (.int p1), .val (.int p2), .val (.int p3), .val (.int ((p0 &&& (2147483647 : Int32)) % (3 : Int32))), .val (.ref o1), .val (.ref o10), .val (.ref o32), .val (.ref b_40), .val (.int (0 : Int32)), .val (.ref r_31)] [(.int (0 : Int32))])) (st45) ?_
    refine own_via (T45.setTop (mkF m 158 #[.val (.int p0), .val (.int p1), .val (.int p2), .val (.int p3), .val (.int ((p0 &&& (2147483647 : Int32)) % (3 : Int32))), .val (.ref o1), .val (.ref o10), .val (.ref o32), .val (.ref b_40), .val (.int (0 : Int32)), .val (.ref r_31)] [(.int (0 : Int32)), (.int (0 : Int32))])) (fun t k => XS.iload X45.here hx rfl (hb hby at_156) rfl k) ?_
    refine own_via (T45.setTop (mkF m 161 #[.val (.int p0), .val (.int p1), .val (.int p2), .val (.int p3), .val (.int ((p0 &&& (2147483647 : Int32)) % (3 : Int32))), .val (.ref o1), .val (.ref o10), .val (.ref o32), .val (.ref b_40), .val (.int (0 : Int32)), .val (.ref r_31)] [])) (fun t k => XS.icmpNo X45.here hx rfl (hb hby at_158) rfl (by decide) k) ?_
    refine own_via (T45.setTop (mkF m 163 #[.val (.int p0), .val (.int p1), .val (.int p2), .val (.int p3), .val (.int ((p0 &&& (2147483647 : Int32)) % (3 : Int32))), .val (.ref o1), .val (.ref o10), .val (.ref o32), .val (.ref b_40), .val (.int (0 : Int32)), .val (.ref r_31)] [(.ref b_40)])) (fun t k => XS.aload X45.here hx rfl (hb hby at_161) rfl rfl k) ?_
    obtain ⟨v47, T47, h47, L47, X47, e47, q47, st47⟩ := own_cV X45 hx hZ (y := (⟨"com/example/tendril/tendril/ejbql/QueryChecker$Type", "isEntity", "()Z"⟩ : MethodName)) (z := (⟨"com/example/tendril/tendril/ejbql/QueryChecker$Type", "isEntity", "()Z"⟩ : MethodName)) hown (hw _ (List.mem_of_getElem? (i := 89) rfl)) (hw _ (List.mem_of_getElem? (i := 90) rfl)) (notFace_of_selects (args := #[]) (mvT hZ (hw _ (List.mem_of_getElem? (i := 92) rfl)))) (hw _ (List.mem_of_getElem? (i := 92) rfl)) (hw _ (List.mem_of_getElem? (i := 91) rfl)) (by decide) (W := 0) (own_bk (rm_ent0 l Z a0 hw b_40 h40 n0 (by omega) f42) hZ (hw _ (List.mem_of_getElem? (i := 93) rfl)) (hw _ (List.mem_of_getElem? (i := 73) rfl)) (by decide) (by decide)) e45 f41 (Ls := #[.val (.int p0), .val (.int p1), .val (.int p2), .val (.int p3), .val (.int ((p0 &&& (2147483647 : Int32)) % (3 : Int32))), .val (.ref o1), .val (.ref o10), .val (.ref o32), .val (.ref b_40), .val (.int (0 : Int32)), .val (.ref r_31)]) (by rw [hml]; rfl) (argsL := []) (rest := []) rfl (lenOf own_pd48405890 rfl) rfl (Nat.le_of_eq rfl) (hb hby at_163) (by decide) (by decide)
    obtain ⟨rfl, Nq47, eq47⟩ := q47
    have N47 := Fr.app N45 Nq47
    replace e47 := e47.trans eq47
    refine own_via (T47.setTop (mkF m 166 #[.val (.int p0), .val (.int p1), .val (.int p2), .val (.int p3), .val (.int ((p0 &&& (2147483647 : Int32)) % (3 : Int32))), .val (.ref o1), .val (.ref o10), .val (.ref o32), .val (.ref b_40), .val (.int (0 : Int32)), .val (.ref r_31)] [(.int (0 : Int32))])) (st47) ?_
    refine own_via (T47.setTop (mkF m 168 #[.val (.int p0), .val (.int p1), .val (.int p2), .val (.int p3), .val (.int ((p0 &&& (2147483647 : Int32)) % (3 : Int32))), .val (.ref o1), .val (.ref o10), .val (.ref o32), .val (.ref b_40), .val (.int (0 : Int32)), .val (.ref r_31)] [(.int (0 : Int32)), (.int (0 : Int32))])) (fun t k => XS.iload X47.here hx rfl (hb hby at_166) rfl k) ?_
    refine own_via (T47.setTop (mkF m 171 #[.val (.int p0), .val (.int p1), .val (.int p2), .val (.int p3), .val (.int ((p0 &&& (2147483647 : Int32)) % (3 : Int32))), .val (.ref o1), .val (.ref o10), .val (.ref o32), .val (.ref b_40), .val (.int (0 : Int32)), .val (.ref r_31)] [])) (fun t k => XS.icmpNo X47.here hx rfl (hb hby at_168) rfl (by decide) k) ?_
    refine own_via (T47.setTop (mkF m 172 #[.val (.int p0), .val (.int p1), .val (.int p2), .val (.int p3), .val (.int ((p0 &&& (2147483647 : Int32)) % (3 : Int32))), .val (.ref o1), .val (.ref o10), .val (.ref o32), .val (.ref b_40), .val (.int (0 : Int32)), .val (.ref r_31)] [(.int (1 : Int32))])) (fun t k => XS.iconst X47.here hx rfl (hb hby at_171) k) ?_
    refine own_via (T47.setTop (mkF m 176 #[.val (.int p0), .val (.int p1), .val (.int p2), .val (.int p3), .val (.int ((p0 &&& (2147483647 : Int32)) % (3 : Int32))), .val (.ref o1), .val (.ref o10), .val (.ref o32), .val (.ref b_40), .val (.int (0 : Int32)), .val (.ref r_31)] [(.int (1 : Int32))])) (fun t k => XS.goto X47.here hx rfl (pc0 := 172) (pc' := 176) rfl (hb hby at_172) (by decide) (by decide) k) ?_
    exact own_retN X47 hx hlk (t := .boolean) hret (by simp) (hb hby at_176) e47 (⟨rfl, N47⟩) (by decide) (by decide)
  · refine own_via (T28.setTop (mkF m 96 #[.val (.int p0), .val (.int p1), .val (.int p2), .val (.int p3), .val (.int ((p0 &&& (2147483647 : Int32)) % (3 : Int32))), .val (.ref o1), .val (.ref o10), .unset, .unset, .unset, .unset] [])) (fun t k => XS.ifYes X28.here hx rfl (pc0 := 61) (pc' := 96) rfl (hb hby at_61) rfl (XT.i0_ne_t hs0) (by decide) (by decide) k) ?_
    refine own_via (T28.setTop (mkF m 98 #[.val (.int p0), .val (.int p1), .val (.int p2), .val (.int p3), .val (.int ((p0 &&& (2147483647 : Int32)) % (3 : Int32))), .val (.ref o1), .val (.ref o10), .unset, .unset, .unset, .unset] [(.int ((p0 &&& (2147483647 : Int32)) % (3 : Int32)))])) (fun t k => XS.iload X28.here hx rfl (hb hby at_96) rfl k) ?_
    refine own_via (T28.setTop (mkF m 99 #[.val (.int p0), .val (.int p1), .val (.int p2), .val (.int p3), .val (.int ((p0 &&& (2147483647 : Int32)) % (3 : Int32))), .val (.ref o1), .val (.ref o10), .unset, .unset, .unset, .unset] [(.int (1 : Int32)), (.int ((p0 &&& (2147483647 : Int32)) % (3 : Int32)))])) (fun t k => XS.iconst X28.here hx rfl (hb hby at_98) k) ?_
    by_cases hs1 : ((p0 &&& (2147483647 : Int32)) % (3 : Int32)) = (1 : Int32)
    · refine own_via (T28.setTop (mkF m 102 #[.val (.int p0), .val (.int p1), .val (.int p2), .val (.int p3), .val (.int ((p0 &&& (2147483647 : Int32)) % (3 : Int32))), .val (.ref o1), .val (.ref o10), .unset, .unset, .unset, .unset] [])) (fun t k => XS.icmpNo X28.here hx rfl (hb hby at_99) rfl (XT.ii_ne_f hs1) k) ?_
      obtain ⟨T48, h48, X48, e48, E48, A48, D48, U48, st48⟩ := newO X28 hx hZ hown (hw _ (List.mem_of_getElem? (i := 71) rfl)) (hw _ (List.mem_of_getElem? (i := 72) rfl)) (hw _ (List.mem_of_getElem? (i := 73) rfl)) e28 (g := (mkF m 102 #[.val (.int p0), .val (.int p1), .val (.int p2), .val (.int p3), .val (.int ((p0 &&& (2147483647 : Int32)) % (3 : Int32))), .val (.ref o1), .val (.ref o10), .unset, .unset, .unset, .unset] [])) rfl (hb hby at_102) (by decide) (by decide)
      obtain ⟨o48, g48⟩ : ∃ z, z = h28.size := ⟨_, rfl⟩
      rw [← g48] at A48 D48 U48 st48
      have sz_h48 : h28.size ≤ h48.size := E48.1
      have lt_o48 : @LT.lt Nat _ o48 h48.size := A48.lt
      refine own_via (T48.setTop (mkF m 105 #[.val (.int p0), .val (.int p1), .val (.int p2), .val (.int p3), .val (.int ((p0 &&& (2147483647 : Int32)) % (3 : Int32))), .val (.ref o1), .val (.ref o10), .unset, .unset, .unset, .unset] [(.ref o48)])) (st48) ?_
      refine own_via (T48.setTop (mkF m 106 #[.val (.int p0), .val (.int p1), .val (.int p2), .val (.int p3), .val (.int ((p0 &&& (2147483647 : Int32)) % (3 : Int32))), .val (.ref o1), .val (.ref o10), .unset, .unset, .unset, .unset] [(.ref o48), (.ref o48)])) (fun t k => XS.dup X48.here hx rfl (hb hby at_105) rfl rfl k) ?_
      refine own_via (T48.setTop (mkF m 107 #[.val (.int p0), .val (.int p1), .val (.int p2), .val (.int p3), .val (.int ((p0 &&& (2147483647 : Int32)) % (3 : Int32))), .val (.ref o1), .val (.ref o10), .unset, .unset, .unset, .unset] [.null, (.ref o48), (.ref o48)])) (fun t k => XS.aconstNull X48.here hx rfl (hb hby at_106) k) ?_
      refine own_via (T48.setTop (mkF m 109 #[.val (.int p0), .val (.int p1), .val (.int p2), .val (.int p3), .val (.int ((p0 &&& (2147483647 : Int32)) % (3 : Int32))), .val (.ref o1), .val (.ref o10), .unset, .unset, .unset, .unset] [(.ref o10), .null, (.ref o48), (.ref o48)])) (fun t k => XS.aload X48.here hx rfl (hb hby at_107) rfl rfl k) ?_
      refine own_via (T48.setTop (mkF m 110 #[.val (.int p0), .val (.int p1), .val (.int p2), .val (.int p3), .val (.int ((p0 &&& (2147483647 : Int32)) % (3 : Int32))), .val (.ref o1), .val (.ref o10), .unset, .unset, .unset, .unset] [(.int (0 : Int32)), (.ref o10), .null, (.ref o48), (.ref o48)])) (fun t k => XS.iconst X48.here hx rfl (hb hby at_109) k) ?_
      have f49 : Fld Z h48 o48 "com/example/tendril/tendril/ejbql/QueryChecker$Type" "value" "Lcom/example/tendril/tendril/ejbql/ValueType;" .null := (D48 (Or.inr (hw _ (List.mem_of_getElem? (i := 79) rfl))) (ty := (.object "com/example/tendril/tendril/ejbql/ValueType")) (by decide))
      have f50 : Fld Z h48 o48 "com/example/tendril/tendril/ejbql/QueryChecker$Type" "bean" "Lcom/example/tendril/tendril/ejbql/Schema$Bean;" .null := (D48 (Or.inr (hw _ (List.mem_of_getElem? (i := 81) rfl))) (ty := (.object "com/example/tendril/tendril/ejbql/Schema$Bean")) (by decide))
      have f51 : Fld Z h48 o48 "com/example/tendril/tendril/ejbql/QueryChecker$Type" "collection" "Z" (.int (0 : Int32)) := (D48 (Or.inr (hw _ (List.mem_of_getElem? (i := 83) rfl))) (ty := .boolean) (by decide))
      obtain ⟨v52, T52, h52, L52, X52, e52, q52, st52⟩ := own_cI X48 hx hZ hown (hw _ (List.mem_of_getElem? (i := 74) rfl)) (hw _ (List.mem_of_getElem? (i := 75) rfl)) (hw _ (List.mem_of_getElem? (i := 76) rfl)) rfl (by decide) (W := 1) (own_bk (rm_type l Z a0 hw o48 .null (.ref o10) (0 : Int32) .null .null (.int (0 : Int32)) h48 n0 (by omega) A48 f49 f50 f51 rfl rfl (show @LE.le Nat _ _ _ by omega)) hZ (hw _ (List.mem_of_getElem? (i := 76) rfl)) (hw _ (List.mem_of_getElem? (i := 73) rfl)) (by decide) (by decide)) e48 (a := o48) (Ls := #[.val (.int p0), .val (.int p1), .val (.int p2), .val (.int p3), .val (.int ((p0 &&& (2147483647 : Int32)) % (3 : Int32))), .val (.ref o1), .val (.ref o10), .unset, .unset, .unset, .unset]) (by rw [hml]; rfl) (argsL := [.null, (.ref o10), (.int (0 : Int32))]) (rest := [(.ref o48)]) rfl (lenOf own_pd65518967 rfl) rfl (Nat.le_of_eq rfl) (hb hby at_110) (by decide) (by decide)
      obtain ⟨rfl, Nq52, Kq52, f53, f54, f55⟩ := q52
      have N52 := Fr.app N28 Nq52
      have sz_h52 : h48.size ≤ h52.size := Kq52.1
      refine own_via (T52.setTop (mkF m 113 #[.val (.int p0), .val (.int p1), .val (.int p2), .val (.int p3), .val (.int ((p0 &&& (2147483647 : Int32)) % (3 : Int32))), .val (.ref o1), .val (.ref o10), .unset, .unset, .unset, .unset] [(.ref o48)])) (st52) ?_
      refine own_via (T52.setTop (mkF m 115 #[.val (.int p0), .val (.int p1), .val (.int p2), .val (.int p3), .val (.int ((p0 &&& (2147483647 : Int32)) % (3 : Int32))), .val (.ref o1), .val (.ref o10), .val (.ref o48), .unset, .unset, .unset] [])) (fun t k => XS.astore X52.here hx rfl (hb hby at_113) rfl rfl (l' := #[.val (.int p0), .val (.int p1), .val (.int p2), .val (.int p3), .val (.int ((p0 &&& (2147483647 : Int32)) % (3 : Int32))), .val (.ref o1), .val (.ref o10), .val (.ref o48), .unset, .unset, .unset]) rfl k) ?_
      refine own_via (T52.setTop (mkF m 117 #[.val (.int p0), .val (.int p1), .val (.int p2), .val (.int p3), .val (.int ((p0 &&& (2147483647 : Int32)) % (3 : Int32))), .val (.ref o1), .val (.ref o10), .val (.ref o48), .unset, .unset, .unset] [(.ref o10)])) (fun t k => XS.aload X52.here hx rfl (hb hby at_115) rfl rfl k) ?_
      obtain ⟨v56, T56, h56, L56, X56, e56, q56, st56⟩ := own_cS X52 hx hZ hown (hw _ (List.mem_of_getElem? (i := 94) rfl)) (hw _ (List.mem_of_getElem? (i := 95) rfl)) (hw _ (List.mem_of_getElem? (i := 73) rfl)) (hw _ (List.mem_of_getElem? (i := 96) rfl)) (by decide) (W := 0) (own_bk (rm_objects l Z a0 hw o10 h52 n0 (by omega)) hZ (hw _ (List.mem_of_getElem? (i := 96) rfl)) (hw _ (List.mem_of_getElem? (i := 73) rfl)) (by decide) (by decide)) e52 (Ls := #[.val (.int p0), .val (.int p1), .val (.int p2), .val (.int p3), .val (.int ((p0 &&& (2147483647 : Int32)) % (3 : Int32))), .val (.ref o1), .val (.ref o10), .val (.ref o48), .unset, .unset, .unset]) (by rw [hml]; rfl) (argsL := [(.ref o10)]) (rest := []) rfl (lenOf own_pd26472761 rfl) rfl (Nat.le_of_eq rfl) (hb hby at_117) (by decide) (by decide)
      obtain ⟨b_56, rfl, Nq56, Kq56, f57, f58, f59⟩ := q56
      have N56 := Fr.app N52 Nq56
      have sz_h56 : h52.size ≤ h56.size := Kq56.1
      have lt_b_56 : @LT.lt Nat _ b_56 h56.size := f57.lt
      refine own_via (T56.setTop (mkF m 120 #[.val (.int p0), .val (.int p1), .val (.int p2), .val (.int p3), .val (.int ((p0 &&& (2147483647 : Int32)) % (3 : Int32))), .val (.ref o1), .val (.ref o10), .val (.ref o48), .unset, .unset, .unset] [(.ref b_56)])) (st56) ?_
      refine own_via (T56.setTop (mkF m 122 #[.val (.int p0), .val (.int p1), .val (.int p2), .val (.int p3), .val (.int ((p0 &&& (2147483647 : Int32)) % (3 : Int32))), .val (.ref o1), .val (.ref o10), .val (.ref o48), .val (.ref b_56), .unset, .unset] [])) (fun t k => XS.astore X56.here hx rfl (hb hby at_120) rfl rfl (l' := #[.val (.int p0), .val (.int p1), .val (.int p2), .val (.int p3), .val (.int ((p0 &&& (2147483647 : Int32)) % (3 : Int32))), .val (.ref o1), .val (.ref o10), .val (.ref o48), .val (.ref b_56), .unset, .unset]) rfl k) ?_
      refine own_via (T56.setTop (mkF m 123 #[.val (.int p0), .val (.int p1), .val (.int p2), .val (.int p3), .val (.int ((p0 &&& (2147483647 : Int32)) % (3 : Int32))), .val (.ref o1), .val (.ref o10), .val (.ref o48), .val (.ref b_56), .unset, .unset] [(.int (1 : Int32))])) (fun t k => XS.iconst X56.here hx rfl (hb hby at_122) k) ?_
      refine own_via (T56.setTop (mkF m 125 #[.val (.int p0), .val (.int p1), .val (.int p2), .val (.int p3), .val (.int ((p0 &&& (2147483647 : Int32)) % (3 : Int32))), .val (.ref o1), .val (.ref o10), .val (.ref o48), .val (.ref b_56), .val (.int (1 : Int32)), .unset] [])) (fun t k => XS.istore X56.here hx rfl (hb hby at_123) rfl (l' := #[.val (.int p0), .val (.int p1), .val (.int p2), .val (.int p3), .val (.int ((p0 &&& (2147483647 : Int32)) % (3 : Int32))), .val (.ref o1), .val (.ref o10), .val (.ref o48), .val (.ref b_56), .val (.int (1 : Int32)), .unset]) rfl k) ?_
      refine own_via (T56.setTop (mkF m 151 #[.val (.int p0), .val (.int p1), .val (.int p2), .val (.int p3), .val (.int ((p0 &&& (2147483647 : Int32)) % (3 : Int32))), .val (.ref o1), .val (.ref o10), .val (.ref o48), .val (.ref b_56), .val (.int (1 : Int32)), .unset] [])) (fun t k => XS.goto X56.here hx rfl (pc0 := 125) (pc' := 151) rfl (hb hby at_125) (by decide) (by decide) k) ?_
      refine own_via (T56.setTop (mkF m 153 #[.val (.int p0), .val (.int p1), .val (.int p2), .val (.int p3), .val (.int ((p0 &&& (2147483647 : Int32)) % (3 : Int32))), .val (.ref o1), .val (.ref o10), .val (.ref o48), .val (.ref b_56), .val (.int (1 : Int32)), .unset] [(.ref o48)])) (fun t k => XS.aload X56.here hx rfl (hb hby at_151) rfl rfl k) ?_
      have f60 : Fld Z h56 o48 "com/example/tendril/tendril/ejbql/QueryChecker$Type" "bean" "Lcom/example/tendril/tendril/ejbql/Schema$Bean;" (.ref o10) := (f54.keep Kq56 nin0)
      have f61 : Fld Z h56 o48 "com/example/tendril/tendril/ejbql/QueryChecker$Type" "collection" "Z" (.int (nar .boolean (0 : Int32))) := (f55.keep Kq56 nin0)
      have f63 : Exa Z h56 o48 "com/example/tendril/tendril/ejbql/QueryChecker$Type" := (f53.keep Kq56)
      obtain ⟨v62, T62, h62, L62, X62, e62, q62, st62⟩ := own_cV X56 hx hZ (y := (⟨"com/example/tendril/tendril/ejbql/QueryChecker$Type", "isEntity", "()Z"⟩ : MethodName)) (z := (⟨"com/example/tendril/tendril/ejbql/QueryChecker$Type", "isEntity", "()Z"⟩ : MethodName)) hown (hw _ (List.mem_of_getElem? (i := 89) rfl)) (hw _ (List.mem_of_getElem? (i := 90) rfl)) (notFace_of_selects (args := #[]) (mvT hZ (hw _ (List.mem_of_getElem? (i := 92) rfl)))) (hw _ (List.mem_of_getElem? (i := 92) rfl)) (hw _ (List.mem_of_getElem? (i := 91) rfl)) (by decide) (W := 0) (own_bk (rm_ent1 l Z a0 hw o48 o10 (nar .boolean (0 : Int32)) h56 n0 (by omega) f60 f61 (by decide)) hZ (hw _ (List.mem_of_getElem? (i := 93) rfl)) (hw _ (List.mem_of_getElem? (i := 73) rfl)) (by decide) (by decide)) e56 f63 (Ls := #[.val (.int p0), .val (.int p1), .val (.int p2), .val (.int p3), .val (.int ((p0 &&& (2147483647 : Int32)) % (3 : Int32))), .val (.ref o1), .val (.ref o10), .val (.ref o48), .val (.ref b_56), .val (.int (1 : Int32)), .unset]) (by rw [hml]; rfl) (argsL := []) (rest := []) rfl (lenOf own_pd48405890 rfl) rfl (Nat.le_of_eq rfl) (hb hby at_153) (by decide) (by decide)
      obtain ⟨rfl, Nq62, eq62⟩ := q62
      have N62 := Fr.app N56 Nq62
      replace e62 := e62.trans eq62
      refine own_via (T62.setTop (mkF m 156 #[.val (.int p0), .val (.int p1), .val (.int p2), .val (.int p3), .val (.int ((p0 &&& (2147483647 : Int32)) % (3 : Int32))), .val (.ref o1), .val (.ref o10), .val (.ref o48), .val (.ref b_56), .val (.int (1 : Int32)), .unset] [(.int (1 : Int32))])) (st62) ?_
      refine own_via (T62.setTop (mkF m 158 #[.val (.int p0), .val (.int p1), .val (.int p2), .val (.int p3), .val (.int ((p0 &&& (2147483647 : Int32)) % (3 : Int32))), .val (.ref o1), .val (.ref o10), .val (.ref o48), .val (.ref b_56), .val (.int (1 : Int32)), .unset] [(.int (1 : Int32)), (.int (1 : Int32))])) (fun t k => XS.iload X62.here hx rfl (hb hby at_156) rfl k) ?_
      refine own_via (T62.setTop (mkF m 161 #[.val (.int p0), .val (.int p1), .val (.int p2), .val (.int p3), .val (.int ((p0 &&& (2147483647 : Int32)) % (3 : Int32))), .val (.ref o1), .val (.ref o10), .val (.ref o48), .val (.ref b_56), .val (.int (1 : Int32)), .unset] [])) (fun t k => XS.icmpNo X62.here hx rfl (hb hby at_158) rfl (by decide) k) ?_
      refine own_via (T62.setTop (mkF m 163 #[.val (.int p0), .val (.int p1), .val (.int p2), .val (.int p3), .val (.int ((p0 &&& (2147483647 : Int32)) % (3 : Int32))), .val (.ref o1), .val (.ref o10), .val (.ref o48), .val (.ref b_56), .val (.int (1 : Int32)), .unset] [(.ref b_56)])) (fun t k => XS.aload X62.here hx rfl (hb hby at_161) rfl rfl k) ?_
      obtain ⟨v64, T64, h64, L64, X64, e64, q64, st64⟩ := own_cV X62 hx hZ (y := (⟨"com/example/tendril/tendril/ejbql/QueryChecker$Type", "isEntity", "()Z"⟩ : MethodName)) (z := (⟨"com/example/tendril/tendril/ejbql/QueryChecker$Type", "isEntity", "()Z"⟩ : MethodName)) hown (hw _ (List.mem_of_getElem? (i := 89) rfl)) (hw _ (List.mem_of_getElem? (i := 90) rfl)) (notFace_of_selects (args := #[]) (mvT hZ (hw _ (List.mem_of_getElem? (i := 92) rfl)))) (hw _ (List.mem_of_getElem? (i := 92) rfl)) (hw _ (List.mem_of_getElem? (i := 91) rfl)) (by decide) (W := 0) (own_bk (rm_ent1 l Z a0 hw b_56 o10 (nar .boolean (0 : Int32)) h56 n0 (by omega) f58 f59 (by decide)) hZ (hw _ (List.mem_of_getElem? (i := 93) rfl)) (hw _ (List.mem_of_getElem? (i := 73) rfl)) (by decide) (by decide)) e62 f57 (Ls := #[.val (.int p0), .val (.int p1), .val (.int p2), .val (.int p3), .val (.int ((p0 &&& (2147483647 : Int32)) % (3 : Int32))), .val (.ref o1), .val (.ref o10), .val (.ref o48), .val (.ref b_56), .val (.int (1 : Int32)), .unset]) (by rw [hml]; rfl) (argsL := []) (rest := []) rfl (lenOf own_pd48405890 rfl) rfl (Nat.le_of_eq rfl) (hb hby at_163) (by decide) (by decide)
      obtain ⟨rfl, Nq64, eq64⟩ := q64
      have N64 := Fr.app N62 Nq64
      replace e64 := e64.trans eq64
      refine own_via (T64.setTop (mkF m 166 #[.val (.int p0), .val (.int p1), .val (.int p2), .val (.int p3), .val (.int ((p0 &&& (2147483647 : Int32)) % (3 : Int32))), .val (.ref o1), .val (.ref o10), .val (.ref o48), .val (.ref b_56), .val (.int (1 : Int32)), .unset] [(.int (1 : Int32))])) (st64) ?_
      refine own_via (T64.setTop (mkF m 168 #[.val (.int p0), .val (.int p1), .val (.int p2), .val (.int p3), .val (.int ((p0 &&& (2147483647 : Int32)) % (3 : Int32))), .val (.ref o1), .val (.ref o10), .val (.ref o48), .val (.ref b_56), .val (.int (1 : Int32)), .unset] [(.int (1 : Int32)), (.int (1 : Int32))])) (fun t k => XS.iload X64.here hx rfl (hb hby at_166) rfl k) ?_
      refine own_via (T64.setTop (mkF m 171 #[.val (.int p0), .val (.int p1), .val (.int p2), .val (.int p3), .val (.int ((p0 &&& (2147483647 : Int32)) % (3 : Int32))), .val (.ref o1), .val (.ref o10), .val (.ref o48), .val (.ref b_56), .val (.int (1 : Int32)), .unset] [])) (fun t k => XS.icmpNo X64.here hx rfl (hb hby at_168) rfl (by decide) k) ?_
      refine own_via (T64.setTop (mkF m 172 #[.val (.int p0), .val (.int p1), .val (.int p2), .val (.int p3), .val (.int ((p0 &&& (2147483647 : Int32)) % (3 : Int32))), .val (.ref o1), .val (.ref o10), .val (.ref o48), .val (.ref b_56), .val (.int (1 : Int32)), .unset] [(.int (1 : Int32))])) (fun t k => XS.iconst X64.here hx rfl (hb hby at_171) k) ?_
      refine own_via (T64.setTop (mkF m 176 #[.val (.int p0), .val (.int p1), .val (.int p2), .val (.int p3), .val (.int ((p0 &&& (2147483647 : Int32)) % (3 : Int32))), .val (.ref o1), .val (.ref o10), .val (.ref o48), .val (.ref b_56), .val (.int (1 : Int32)), .unset] [(.int (1 : Int32))])) (fun t k => XS.goto X64.here hx rfl (pc0 := 172) (pc' := 176) rfl (hb hby at_172) (by decide) (by decide) k) ?_
      exact own_retN X64 hx hlk (t := .boolean) hret (by simp) (hb hby at_176) e64 (⟨rfl, N64⟩) (by decide) (by decide)
    · refine own_via (T28.setTop (mkF m 128 #[.val (.int p0), .val (.int p1), .val (.int p2), .val (.int p3), .val (.int ((p0 &&& (2147483647 : Int32)) % (3 : Int32))), .val (.ref o1), .val (.ref o10), .unset, .unset, .unset, .unset] [])) (fun t k => XS.icmpYes X28.here hx rfl (pc0 := 99) (pc' := 128) rfl (hb hby at_99) rfl (XT.ii_ne_t hs1) (by decide) (by decide) k) ?_
      obtain ⟨T65, h65, X65, e65, E65, A65, D65, U65, st65⟩ := newO X28 hx hZ hown (hw _ (List.mem_of_getElem? (i := 71) rfl)) (hw _ (List.mem_of_getElem? (i := 72) rfl)) (hw _ (List.mem_of_getElem? (i := 73) rfl)) e28 (g := (mkF m 128 #[.val (.int p0), .val (.int p1), .val (.int p2), .val (.int p3), .val (.int ((p0 &&& (2147483647 : Int32)) % (3 : Int32))), .val (.ref o1), .val (.ref o10), .unset, .unset, .unset, .unset] [])) rfl (hb hby at_128) (by decide) (by decide)
      obtain ⟨o65, g65⟩ : ∃ z, z = h28.size := ⟨_, rfl⟩
      rw [← g65] at A65 D65 U65 st65
      have sz_h65 : h28.size ≤ h65.size := E65.1
      have lt_o65 : @LT.lt Nat _ o65 h65.size := A65.lt
      refine own_via (T65.setTop (mkF m 131 #[.val (.int p0), .val (.int p1), .val (.int p2), .val (.int p3), .val (.int ((p0 &&& (2147483647 : Int32)) % (3 : Int32))), .val (.ref o1), .val (.ref o10), .unset, .unset, .unset, .unset] [(.ref o65)])) (st65) ?_
      refine own_via (T65.setTop (mkF m 132 #[.val (.int p0), .val (.int p1), .val (.int p2), .val (.int p3), .val (.int ((p0 &&& (2147483647 : Int32)) % (3 : Int32))), .val (.ref o1), .val (.ref o10), .unset, .unset, .unset, .unset] [(.ref o65), (.ref o65)])) (fun t k => XS.dup X65.here hx rfl (hb hby at_131) rfl rfl k) ?_
      refine own_via (T65.setTop (mkF m 133 #[.val (.int p0), .val (.int p1), .val (.int p2), .val (.int p3), .val (.int ((p0 &&& (2147483647 : Int32)) % (3 : Int32))), .val (.ref o1), .val (.ref o10), .unset, .unset, .unset, .unset] [.null, (.ref o65), (.ref o65)])) (fun t k => XS.aconstNull X65.here hx rfl (hb hby at_132) k) ?_
      refine own_via (T65.setTop (mkF m 135 #[.val (.int p0), .val (.int p1), .val (.int p2), .val (.int p3), .val (.int ((p0 &&& (2147483647 : Int32)) % (3 : Int32))), .val (.ref o1), .val (.ref o10), .unset, .unset, .unset, .unset] [(.ref o10), .null, (.ref o65), (.ref o65)])) (fun t k => XS.aload X65.here hx rfl (hb hby at_133) rfl rfl k) ?_
      refine own_via (T65.setTop (mkF m 136 #[.val (.int p0), .val (.int p1), .val (.int p2), .val (.int p3), .val (.int ((p0 &&& (2147483647 : Int32)) % (3 : Int32))), .val (.ref o1), .val (.ref o10), .unset, .unset, .unset, .unset] [(.int (1 : Int32)), (.ref o10), .null, (.ref o65), (.ref o65)])) (fun t k => XS.iconst X65.here hx rfl (hb hby at_135) k) ?_
      have f66 : Fld Z h65 o65 "com/example/tendril/tendril/ejbql/QueryChecker$Type" "value" "Lcom/example/tendril/tendril/ejbql/ValueType;" .null := (D65 (Or.inr (hw _ (List.mem_of_getElem? (i := 79) rfl))) (ty := (.object "com/example/tendril/tendril/ejbql/ValueType")) (by decide))
      have f67 : Fld Z h65 o65 "com/example/tendril/tendril/ejbql/QueryChecker$Type" "bean" "Lcom/example/tendril/tendril/ejbql/Schema$Bean;" .null := (D65 (Or.inr (hw _ (List.mem_of_getElem? (i := 81) rfl))) (ty := (.object "com/example/tendril/tendril/ejbql/Schema$Bean")) (by decide))
      have f68 : Fld Z h65 o65 "com/example/tendril/tendril/ejbql/QueryChecker$Type" "collection" "Z" (.int (0 : Int32)) := (D65 (Or.inr (hw _ (List.mem_of_getElem? (i := 83) rfl))) (ty := .boolean) (by decide))
      obtain ⟨v69, T69, h69, L69, X69, e69, q69, st69⟩ := own_cI X65 hx hZ hown (hw _ (List.mem_of_getElem? (i := 74) rfl)) (hw _ (List.mem_of_getElem? (i := 75) rfl)) (hw _ (List.mem_of_getElem? (i := 76) rfl)) rfl (by decide) (W := 1) (own_bk (rm_type l Z a0 hw o65 .null (.ref o10) (1 : Int32) .null .null (.int (0 : Int32)) h65 n0 (by omega) A65 f66 f67 f68 rfl rfl (show @LE.le Nat _ _ _ by omega)) hZ (hw _ (List.mem_of_getElem? (i := 76) rfl)) (hw _ (List.mem_of_getElem? (i := 73) rfl)) (by decide) (by decide)) e65 (a := o65) (Ls := #[.val (.int p0), .val (.int p1), .val (.int p2), .val (.int p3), .val (.int ((p0 &&& (2147483647 : Int32)) % (3 : Int32))), .val (.ref o1), .val (.ref o10), .unset, .unset, .unset, .unset]) (by rw [hml]; rfl) (argsL := [.null, (.ref o10), (.int (1 : Int32))]) (rest := [(.ref o65)]) rfl (lenOf own_pd65518967 rfl) rfl (Nat.le_of_eq rfl) (hb hby at_136) (by decide) (by decide)
      obtain ⟨rfl, Nq69, Kq69, f70, f71, f72⟩ := q69
      have N69 := Fr.app N28 Nq69
      have sz_h69 : h65.size ≤ h69.size := Kq69.1
      refine own_via (T69.setTop (mkF m 139 #[.val (.int p0), .val (.int p1), .val (.int p2), .val (.int p3), .val (.int ((p0 &&& (2147483647 : Int32)) % (3 : Int32))), .val (.ref o1), .val (.ref o10), .unset, .unset, .unset, .unset] [(.ref o65)])) (st69) ?_
      refine own_via (T69.setTop (mkF m 141 #[.val (.int p0), .val (.int p1), .val (.int p2), .val (.int p3), .val (.int ((p0 &&& (2147483647 : Int32)) % (3 : Int32))), .val (.ref o1), .val (.ref o10), .val (.ref o65), .unset, .unset, .unset] [])) (fun t k => XS.astore X69.here hx rfl (hb hby at_139) rfl rfl (l' := #[.val (.int p0), .val (.int p1), .val (.int p2), .val (.int p3), .val (.int ((p0 &&& (2147483647 : Int32)) % (3 : Int32))), .val (.ref o1), .val (.ref o10), .val (.ref o65), .unset, .unset, .unset]) rfl k) ?_
      refine own_via (T69.setTop (mkF m 143 #[.val (.int p0), .val (.int p1), .val (.int p2), .val (.int p3), .val (.int ((p0 &&& (2147483647 : Int32)) % (3 : Int32))), .val (.ref o1), .val (.ref o10), .val (.ref o65), .unset, .unset, .unset] [(.ref o10)])) (fun t k => XS.aload X69.here hx rfl (hb hby at_141) rfl rfl k) ?_
      obtain ⟨v73, T73, h73, L73, X73, e73, q73, st73⟩ := own_cS X69 hx hZ hown (hw _ (List.mem_of_getElem? (i := 101) rfl)) (hw _ (List.mem_of_getElem? (i := 102) rfl)) (hw _ (List.mem_of_getElem? (i := 73) rfl)) (hw _ (List.mem_of_getElem? (i := 103) rfl)) (by decide) (W := 0) (own_bk (rm_coll l Z a0 hw o10 h69 n0 (by omega)) hZ (hw _ (List.mem_of_getElem? (i := 103) rfl)) (hw _ (List.mem_of_getElem? (i := 73) rfl)) (by decide) (by decide)) e69 (Ls := #[.val (.int p0), .val (.int p1), .val (.int p2), .val (.int p3), .val (.int ((p0 &&& (2147483647 : Int32)) % (3 : Int32))), .val (.ref o1), .val (.ref o10), .val (.ref o65), .unset, .unset, .unset]) (by rw [hml]; rfl) (argsL := [(.ref o10)]) (rest := []) rfl (lenOf own_pd26472761 rfl) rfl (Nat.le_of_eq rfl) (hb hby at_143) (by decide) (by decide)
      obtain ⟨b_73, rfl, Nq73, Kq73, f74, f75, f76⟩ := q73
      have N73 := Fr.app N69 Nq73
      have sz_h73 : h69.size ≤ h73.size := Kq73.1
      have lt_b_73 : @LT.lt Nat _ b_73 h73.size := f74.lt
      refine own_via (T73.setTop (mkF m 146 #[.val (.int p0), .val (.int p1), .val (.int p2), .val (.int p3), .val (.int ((p0 &&& (2147483647 : Int32)) % (3 : Int32))), .val (.ref o1), .val (.ref o10), .val (.ref o65), .unset, .unset, .unset] [(.ref b_73)])) (st73) ?_
      refine own_via (T73.setTop (mkF m 148 #[.val (.int p0), .val (.int p1), .val (.int p2), .val (.int p3), .val (.int ((p0 &&& (2147483647 : Int32)) % (3 : Int32))), .val (.ref o1), .val (.ref o10), .val (.ref o65), .val (.ref b_73), .unset, .unset] [])) (fun t k => XS.astore X73.here hx rfl (hb hby at_146) rfl rfl (l' := #[.val (.int p0), .val (.int p1), .val (.int p2), .val (.int p3), .val (.int ((p0 &&& (2147483647 : Int32)) % (3 : Int32))), .val (.ref o1), .val (.ref o10), .val (.ref o65), .val (.ref b_73), .unset, .unset]) rfl k) ?_
      refine own_via (T73.setTop (mkF m 149 #[.val (.int p0), .val (.int p1), .val (.int p2), .val (.int p3), .val (.int ((p0 &&& (2147483647 : Int32)) % (3 : Int32))), .val (.ref o1), .val (.ref o10), .val (.ref o65), .val (.ref b_73), .unset, .unset] [(.int (0 : Int32))])) (fun t k => XS.iconst X73.here hx rfl (hb hby at_148) k) ?_
      refine own_via (T73.setTop (mkF m 151 #[.val (.int p0), .val (.int p1), .val (.int p2), .val (.int p3), .val (.int ((p0 &&& (2147483647 : Int32)) % (3 : Int32))), .val (.ref o1), .val (.ref o10), .val (.ref o65), .val (.ref b_73), .val (.int (0 : Int32)), .unset] [])) (fun t k => XS.istore X73.here hx rfl (hb hby at_149) rfl (l' := #[.val (.int p0), .val (.int p1), .val (.int p2), .val (.int p3), .val (.int ((p0 &&& (2147483647 : Int32)) % (3 : Int32))), .val (.ref o1), .val (.ref o10), .val (.ref o65), .val (.ref b_73), .val (.int (0 : Int32)), .unset]) rfl k) ?_
      refine own_via (T73.setTop (mkF m 153 #[.val (.int p0), .val (.int p1), .val (.int p2), .val (.int p3), .val (.int ((p0 &&& (2147483647 : Int32)) % (3 : Int32))), .val (.ref o1), .val (.ref o10), .val (.ref o65), .val (.ref b_73), .val (.int (0 : Int32)), .unset] [(.ref o65)])) (fun t k => XS.aload X73.here hx rfl (hb hby at_151) rfl rfl k) ?_
      have f77 : Fld Z h73 o65 "com/example/tendril/tendril/ejbql/QueryChecker$Type" "bean" "Lcom/example/tendril/tendril/ejbql/Schema$Bean;" (.ref o10) := (f71.keep Kq73 nin0)
      have f78 : Fld Z h73 o65 "com/example/tendril/tendril/ejbql/QueryChecker$Type" "collection" "Z" (.int (nar .boolean (1 : Int32))) := (f72.keep Kq73 nin0)
      have f80 : Exa Z h73 o65 "com/example/tendril/tendril/ejbql/QueryChecker$Type" := (f70.keep Kq73)
      obtain ⟨v79, T79, h79, L79, X79, e79, q79, st79⟩ := own_cV X73 hx hZ (y := (⟨"com/example/tendril/tendril/ejbql/QueryChecker$Type", "isEntity", "()Z"⟩ : MethodName)) (z := (⟨"com/example/tendril/tendril/ejbql/QueryChecker$Type", "isEntity", "()Z"⟩ : MethodName)) hown (hw _ (List.mem_of_getElem? (i := 89) rfl)) (hw _ (List.mem_of_getElem? (i := 90) rfl)) (notFace_of_selects (args := #[]) (mvT hZ (hw _ (List.mem_of_getElem? (i := 92) rfl)))) (hw _ (List.mem_of_getElem? (i := 92) rfl)) (hw _ (List.mem_of_getElem? (i := 91) rfl)) (by decide) (W := 0) (own_bk (rm_ent2 l Z a0 hw o65 o10 (nar .boolean (1 : Int32)) h73 n0 (by omega) f77 f78 (by decide)) hZ (hw _ (List.mem_of_getElem? (i := 93) rfl)) (hw _ (List.mem_of_getElem? (i := 73) rfl)) (by decide) (by decide)) e73 f80 (Ls := #[.val (.int p0), .val (.int p1), .val (.int p2), .val (.int p3), .val (.int ((p0 &&& (2147483647 : Int32)) % (3 : Int32))), .val (.ref o1), .val (.ref o10), .val (.ref o65), .val (.ref b_73), .val (.int (0 : Int32)), .unset]) (by rw [hml]; rfl) (argsL := []) (rest := []) rfl (lenOf own_pd48405890 rfl) rfl (Nat.le_of_eq rfl) (hb hby at_153) (by decide) (by decide)
      obtain ⟨rfl, Nq79, eq79⟩ := q79
      have N79 := Fr.app N73 Nq79
      replace e79 := e79.trans eq79
      refine own_via (T79.setTop (mkF m 156 #[.val (.int p0), .val (.int p1), .val (.int p2), .val (.int p3), .val (.int ((p0 &&& (2147483647 : Int32)) % (3 : Int32))), .val (.ref o1), .val (.ref o10), .val (.ref o65), .val (.ref b_73), .val (.int (0 : Int32)), .unset] [(.int (0 : Int32))])) (st79) ?_
      refine own_via (T79.setTop (mkF m 158 #[.val (.int p0), .val (.int p1), .val (.int p2), .val (.int p3), .val (.int ((p0 &&& (2147483647 : Int32)) % (3 : Int32))), .val (.ref o1), .val (.ref o10), .val (.ref o65), .val (.ref b_73), .val (.int (0 : Int32)), .unset] [(.int (0 : Int32)), (.int (0 : Int32))])) (fun t k => XS.iload X79.here hx rfl (hb hby at_156) rfl k) ?_
      refine own_via (T79.setTop (mkF m 161 #[.val (.int p0), .val (.int p1), .val (.int p2), .val (.int p3), .val (.int ((p0 &&& (2147483647 : Int32)) % (3 : Int32))), .val (.ref o1), .val (.ref o10), .val (.ref o65), .val (.ref b_73), .val (.int (0 : Int32)), .unset] [])) (fun t k => XS.icmpNo X79.here hx rfl (hb hby at_158) rfl (by decide) k) ?_
      refine own_via (T79.setTop (mkF m 163 #[.val (.int p0), .val (.int p1), .val (.int p2), .val (.int p3), .val (.int ((p0 &&& (2147483647 : Int32)) % (3 : Int32))), .val (.ref o1), .val (.ref o10), .val (.ref o65), .val (.ref b_73), .val (.int (0 : Int32)), .unset] [(.ref b_73)])) (fun t k => XS.aload X79.here hx rfl (hb hby at_161) rfl rfl k) ?_
      obtain ⟨v81, T81, h81, L81, X81, e81, q81, st81⟩ := own_cV X79 hx hZ (y := (⟨"com/example/tendril/tendril/ejbql/QueryChecker$Type", "isEntity", "()Z"⟩ : MethodName)) (z := (⟨"com/example/tendril/tendril/ejbql/QueryChecker$Type", "isEntity", "()Z"⟩ : MethodName)) hown (hw _ (List.mem_of_getElem? (i := 89) rfl)) (hw _ (List.mem_of_getElem? (i := 90) rfl)) (notFace_of_selects (args := #[]) (mvT hZ (hw _ (List.mem_of_getElem? (i := 92) rfl)))) (hw _ (List.mem_of_getElem? (i := 92) rfl)) (hw _ (List.mem_of_getElem? (i := 91) rfl)) (by decide) (W := 0) (own_bk (rm_ent2 l Z a0 hw b_73 o10 (nar .boolean (1 : Int32)) h73 n0 (by omega) f75 f76 (by decide)) hZ (hw _ (List.mem_of_getElem? (i := 93) rfl)) (hw _ (List.mem_of_getElem? (i := 73) rfl)) (by decide) (by decide)) e79 f74 (Ls := #[.val (.int p0), .val (.int p1), .val (.int p2), .val (.int p3), .val (.int ((p0 &&& (2147483647 : Int32)) % (3 : Int32))), .val (.ref o1), .val (.ref o10), .val (.ref o65), .val (.ref b_73), .val (.int (0 : Int32)), .unset]) (by rw [hml]; rfl) (argsL := []) (rest := []) rfl (lenOf own_pd48405890 rfl) rfl (Nat.le_of_eq rfl) (hb hby at_163) (by decide) (by decide)
      obtain ⟨rfl, Nq81, eq81⟩ := q81
      have N81 := Fr.app N79 Nq81
      replace e81 := e81.trans eq81
      refine own_via (T81.setTop (mkF m 166 #[.val (.int p0), .val (.int p1), .val (.int p2), .val (.int p3), .val (.int ((p0 &&& (2147483647 : Int32)) % (3 : Int32))), .val (.ref o1), .val (.ref o10), .val (.ref o65), .val (.ref b_73), .val (.int (0 : Int32)), .unset] [(.int (0 : Int32))])) (st81) ?_
      refine own_via (T81.setTop (mkF m 168 #[.val (.int p0), .val (.int p1), .val (.int p2), .val (.int p3), .val (.int ((p0 &&& (2147483647 : Int32)) % (3 : Int32))), .val (.ref o1), .val (.ref o10), .val (.ref o65), .val (.ref b_73), .val (.int (0 : Int32)), .unset] [(.int (0 : Int32)), (.int (0 : Int32))])) (fun t k => XS.iload X81.here hx rfl (hb hby at_166) rfl k) ?_
      refine own_via (T81.setTop (mkF m 171 #[.val (.int p0), .val (.int p1), .val (.int p2), .val (.int p3), .val (.int ((p0 &&& (2147483647 : Int32)) % (3 : Int32))), .val (.ref o1), .val (.ref o10), .val (.ref o65), .val (.ref b_73), .val (.int (0 : Int32)), .unset] [])) (fun t k => XS.icmpNo X81.here hx rfl (hb hby at_168) rfl (by decide) k) ?_
      refine own_via (T81.setTop (mkF m 172 #[.val (.int p0), .val (.int p1), .val (.int p2), .val (.int p3), .val (.int ((p0 &&& (2147483647 : Int32)) % (3 : Int32))), .val (.ref o1), .val (.ref o10), .val (.ref o65), .val (.ref b_73), .val (.int (0 : Int32)), .unset] [(.int (1 : Int32))])) (fun t k => XS.iconst X81.here hx rfl (hb hby at_171) k) ?_
      refine own_via (T81.setTop (mkF m 176 #[.val (.int p0), .val (.int p1), .val (.int p2), .val (.int p3), .val (.int ((p0 &&& (2147483647 : Int32)) % (3 : Int32))), .val (.ref o1), .val (.ref o10), .val (.ref o65), .val (.ref b_73), .val (.int (0 : Int32)), .unset] [(.int (1 : Int32))])) (fun t k => XS.goto X81.here hx rfl (pc0 := 172) (pc' := 176) rfl (hb hby at_172) (by decide) (by decide) k) ?_
      exact own_retN X81 hx hlk (t := .boolean) hret (by simp) (hb hby at_176) e81 (⟨rfl, N81⟩) (by decide) (by decide)
set_option maxRecDepth 65536 in
set_option maxHeartbeats 40000000 in
theorem comes_1 {Post : Tables → Env → Array Value → State → Outcome → State → Prop} (hpost : ∀ tb e args s v u, (limb_1_1.after args s (.returned v) u = true ∧ limb_1_2.after args s (.returned v) u = true ∧ True) → FrameEnd s (.returned v) u (Jvm.fieldLocs frame_1_writes args s ++ Jvm.arrayLocs frame_1_arrays args s ++ Jvm.staticLocs frame_1_statics s) 24 128 → Post tb e args s (.returned v) u) :
    ArmFor flags0 classFile x code maxLocals ret World_1 tables_1 room_1 Calls_1 rest_1 Pre_1 Post := by
  intro l hfl _ _ p e ha hc hk s m args below hf hA hF happ hP
  obtain ⟨hcalls, hrest, hpre⟩ := hP
  obtain ⟨-, -, -, hnamed, -, -, -, hat⟩ := (Spec.applies_iff hf).mp happ
  obtain ⟨hg, hn⟩ := and_e (Cond.before_iff.mp (show (Jvm.Cond.and given_1 narrow_1).before args s = true from hpre))
  obtain ⟨hcount, ga0⟩ := and_e hg
  obtain ⟨gv0, ga1⟩ := and_e ga0
  obtain ⟨gv1, ga2⟩ := and_e ga1
  obtain ⟨gv2, ga3⟩ := and_e ga2
  obtain ⟨w0, w1, w2, w3, rfl⟩ : ∃ w0 w1 w2 w3 : Value, args = #[w0, w1, w2, w3] := by
    have hs : args.size = 4 := by simpa [Cond.value, given_1] using hcount
    obtain ⟨L⟩ := args
    match L, hs with
    | [w0, w1, w2, w3], _ => exact ⟨w0, w1, w2, w3, rfl⟩
  have hw := fun d (hd : d ∈ tables_1) => atoms_spec (ws := Jvm.Cond.code x code maxLocals ret :: tables_1) hat d (List.mem_cons_of_mem _ hd)
  obtain ⟨hsets, hown0⟩ := atoms_of _ (rest_1_c_eq ▸ (show rest_1_c.before _ s = true from hrest))
  have hfit : Fit s := fun {y c} hc i hi => by
    obtain ⟨ha, rfl⟩ := Array.getElem?_eq_some_iff.mp hc
    have q := List.all_eq_true.mp ((Array.all_eq_true_iff_forall_mem.mp hF) _ (Array.getElem_mem ha)) i (List.mem_range.mpr hi)
    simpa [Array.getElem?_eq_getElem hi] using q
  obtain ⟨i0, ev0⟩ := is_v gv0
  obtain rfl : w0 = (.int i0) := Option.some.inj ev0
  obtain ⟨i1, ev1⟩ := is_v gv1
  obtain rfl : w1 = (.int i1) := Option.some.inj ev1
  obtain ⟨i2, ev2⟩ := is_v gv2
  obtain rfl : w2 = (.int i2) := Option.some.inj ev2
  obtain ⟨i3, ev3⟩ := is_v ga3
  obtain rfl : w3 = (.int i3) := Option.some.inj ev3
  obtain ⟨i11, e10⟩ := is_v (Cond.before_iff.mp (hsets _ (List.mem_of_getElem? (i := 1) rfl)))
  have S12 : Sta s s.heap "java/lang/String" "COMPACT_STRINGS" "Z" (.int i11) := Sta.start e10 (Or.inl (hsets _ (List.mem_of_getElem? (i := 0) rfl)))
  have c17 : ¬ (i11 = (0 : Int32)) := gotF (Cond.eq_ints e10 (Term.int_eval (0))) (not_v (Cond.before_iff.mp (hsets _ (List.mem_of_getElem? (i := 2) rfl))))
  obtain ⟨em, ee⟩ := exa_v (Cond.before_iff.mp (hsets _ (List.mem_of_getElem? (i := 11) rfl)))
  have SE : Sta s s.heap "java/util/ImmutableCollections" "EMPTY_MAP" "Ljava/util/ImmutableCollections$MapN;" (.ref em) := Sta.start ee (Or.inl (hsets _ (List.mem_of_getElem? (i := 10) rfl)))
  have XE : Exa s s.heap em "java/util/ImmutableCollections$MapN" := Exa.start ee (Cond.before_iff.mp (hsets _ (List.mem_of_getElem? (i := 11) rfl)))
  obtain ⟨nv_DATETIME, nr0⟩ := and_e hn
  obtain ⟨nv_UNKNOWN, nr1⟩ := and_e nr0
  obtain ⟨nv_STRING, nr2⟩ := and_e nr1
  obtain ⟨nv_NUMERIC, nr3⟩ := and_e nr2
  obtain ⟨nv_BOOLEAN, nr4⟩ := and_e nr3
  have nv_OTHER := nr4
  obtain ⟨x_NUMERIC, ex_NUMERIC⟩ := exa_v nv_NUMERIC
  have S_NUMERIC : Sta s s.heap "com/example/tendril/tendril/ejbql/ValueType" "NUMERIC" "Lcom/example/tendril/tendril/ejbql/ValueType;" (.ref x_NUMERIC) := Sta.start ex_NUMERIC (Or.inr ⟨hw _ (List.mem_of_getElem? (i := 69) rfl), hw _ (List.mem_of_getElem? (i := 105) rfl)⟩)
  obtain ⟨x_STRING, ex_STRING⟩ := exa_v nv_STRING
  have S_STRING : Sta s s.heap "com/example/tendril/tendril/ejbql/ValueType" "STRING" "Lcom/example/tendril/tendril/ejbql/ValueType;" (.ref x_STRING) := Sta.start ex_STRING (Or.inr ⟨hw _ (List.mem_of_getElem? (i := 69) rfl), hw _ (List.mem_of_getElem? (i := 100) rfl)⟩)
  obtain ⟨x_BOOLEAN, ex_BOOLEAN⟩ := exa_v nv_BOOLEAN
  have S_BOOLEAN : Sta s s.heap "com/example/tendril/tendril/ejbql/ValueType" "BOOLEAN" "Lcom/example/tendril/tendril/ejbql/ValueType;" (.ref x_BOOLEAN) := Sta.start ex_BOOLEAN (Or.inr ⟨hw _ (List.mem_of_getElem? (i := 69) rfl), hw _ (List.mem_of_getElem? (i := 107) rfl)⟩)
  obtain ⟨x_DATETIME, ex_DATETIME⟩ := exa_v nv_DATETIME
  have S_DATETIME : Sta s s.heap "com/example/tendril/tendril/ejbql/ValueType" "DATETIME" "Lcom/example/tendril/tendril/ejbql/ValueType;" (.ref x_DATETIME) := Sta.start ex_DATETIME (Or.inr ⟨hw _ (List.mem_of_getElem? (i := 69) rfl), hw _ (List.mem_of_getElem? (i := 70) rfl)⟩)
  obtain ⟨x_OTHER, ex_OTHER⟩ := exa_v nv_OTHER
  have S_OTHER : Sta s s.heap "com/example/tendril/tendril/ejbql/ValueType" "OTHER" "Lcom/example/tendril/tendril/ejbql/ValueType;" (.ref x_OTHER) := Sta.start ex_OTHER (Or.inr ⟨hw _ (List.mem_of_getElem? (i := 69) rfl), hw _ (List.mem_of_getElem? (i := 109) rfl)⟩)
  obtain ⟨x_UNKNOWN, ex_UNKNOWN⟩ := exa_v nv_UNKNOWN
  have S_UNKNOWN : Sta s s.heap "com/example/tendril/tendril/ejbql/ValueType" "UNKNOWN" "Lcom/example/tendril/tendril/ejbql/ValueType;" (.ref x_UNKNOWN) := Sta.start ex_UNKNOWN (Or.inr ⟨hw _ (List.mem_of_getElem? (i := 69) rfl), hw _ (List.mem_of_getElem? (i := 98) rfl)⟩)
  obtain ⟨n, o, h1, h2, h3, _, L, rfl, ⟨rfl, N⟩, hq⟩ := rm_law l s _ hw i0 i1 i2 i3 i11 em x_NUMERIC x_STRING x_BOOLEAN x_DATETIME x_OTHER x_UNKNOWN s.heap s.heap.size (Nat.le_refl _) S12 SE XE S_NUMERIC S_STRING S_BOOLEAN S_DATETIME S_OTHER S_UNKNOWN (Old.start s) c17 tables_1 p e ha hc hk s m _ below hf ((Spec.applies_iff_loose hf).mp happ).1 ⟨rfl, State.Warmed39.refl s, rfl⟩ trivial
  refine ⟨n, _, h1, h2, h3, hpost _ _ _ _ _ _ ⟨Cond.after_iff.mpr rfl, Cond.after_iff.mpr (eq_i res_at (Term.int_eval (1)) rfl), trivial⟩ ⟨hq.1, hq.2.1, (hq.2.2.sift fun y hy => Or.inr (N y hy)).mono (by decide) (by decide)⟩⟩
theorem main_1_1 : Claimed_1_1 := comes_1 fun _ _ _ _ _ _ h hF => ⟨h.1, hF⟩
theorem main_1_2 : Claimed_1_2 := comes_1 fun _ _ _ _ _ _ h hF => ⟨h.2.1, hF⟩
end Jvm.Pilot.@@N@@
namespace Jvm.Pilot.@@N@@
open Jvm Jvm.ClassFile Sem Op Lib Jvm.Free Jvm.Stand Jvm.Pilot.@@N@@.Jvm.D
/-! MADE BY PROGRAM (witnessworld.py) out of the Statement's table words and the real class files: 30 classes; the members and pool entries that the words name. The judged class is class 1, her method 2. -/
namespace start1
open Jvm.ClassFile
def u (s : String) : CpInfo := .utf8 (stringToUtf16 s)
/-- a pool by its gaps: so many unusable entries, then the entry; so many at the end -/
def gap : Nat → List CpInfo → List CpInfo
  | 0, r => r
  | n + 1, r => .unusable :: gap n r
def poolList (es : List (Nat × CpInfo)) (last : Nat) : List CpInfo := es.foldr (fun e r => gap e.1 (e.2 :: r)) (gap last [])
def pool (es : List (Nat × CpInfo)) (last : Nat) : Array CpInfo := ⟨poolList es last⟩
def fileOf (pool : Array CpInfo) (this : Nat) (attrs : Array Attribute := #[]) (ms : Array MethodInfo := #[]) (fl : Nat := 33) (sup : Nat := 0) (ifs : Array Nat := #[]) (fds : Array FieldInfo := #[]) : ClassFile where
  minorVersion := 0
  majorVersion := 65
  constantPool := pool
  accessFlags := fl
  thisClass := this
  superClass := sup
  interfaces := ifs
  fields := fds
  methods := ms
  attributes := attrs
def plain (name : String) (sup : Option ClassId) : Class where
  name := name
  kind := .ordinary
  loader := none
  accessFlags := 33
  super := sup
  interfaces := #[]
  cf := none
  fields := #[]
  methods := #[]
  instanceTypes := #[]
  staticTypes := #[]
  resolved := #[]
  callSites := []
  init := .initialized
  statics := none
  mirror := none

def pool0 : Array CpInfo := pool [(5, u "<init>"), (0, u "()V"), (1, .class_ 10), (1, u "java/lang/Object")] 113

def k0c0 : Code := { maxStack := 0, maxLocals := 1, code := object_method_1_code, exceptionTable := #[], attributes := #[] }
def k0m0 : Method := { name := "<init>", desc := "()V", sig := { parameters := [], returnType := none }, accessFlags := 1, code := some k0c0 }
/-- java/lang/Object -/
def k0 : Class := { plain "java/lang/Object" none with
  accessFlags := 33
  interfaces := #[]
  cf := some (fileOf pool0 8 #[] #[{ accessFlags := 1, nameIndex := 5, descriptorIndex := 6, attributes := #[] }] 33 0 #[] #[])
  fields := #[]
  methods := #[k0m0]
  instanceTypes := #[]
  staticTypes := #[]
  resolved := Array.replicate 124 none
  statics := none }

def pool1 : Array CpInfo := pool [(2, .class_ 4), (1, u "java/lang/Object"), (0, u "<init>"), (0, u "()V"), (0, .integer 2147483647), (0, .fieldref 9 10), (0, .class_ 11), (0, .nameAndType 12 13), (0, u "com/example/tendril/tendril/ejbql/ValueType"), (0, u "NUMERIC"), (0, u "Lcom/example/tendril/tendril/ejbql/ValueType;"), (0, .fieldref 9 15), (0, .nameAndType 16 13), (0, u "STRING"), (0, .fieldref 9 18), (0, .nameAndType 19 13), (0, u "BOOLEAN"), (0, .fieldref 9 21), (0, .nameAndType 22 13), (0, u "DATETIME"), (0, .fieldref 9 24), (0, .nameAndType 25 13), (0, u "OTHER"), (0, .fieldref 9 27), (0, .nameAndType 28 13), (0, u "UNKNOWN"), (0, .class_ 30), (0, u "com/example/tendril/tendril/ejbql/Schema$Bean"), (0, .class_ 32), (0, u "java/lang/String"), (0, .methodref 31 34), (0, .nameAndType 5 35), (0, u "([C)V"), (0, .interfaceMethodref 37 38), (0, .class_ 39), (0, .nameAndType 40 41), (0, u "java/util/Map"), (0, u "of"), (0, u "()Ljava/util/Map;"), (0, .methodref 29 43), (0, .nameAndType 5 44), (0, u "(Ljava/lang/String;Ljava/lang/String;Ljava/lang/String;Ljava/util/Map;Ljava/util/Map;)V"), (0, .methodref 46 47), (0, .class_ 48), (0, .nameAndType 49 50), (0, u "com/example/tendril/tendril/ejbql/TypeIsEntityPinLaw"), (0, u "pick"), (0, u "(I)Lcom/example/tendril/tendril/ejbql/ValueType;"), (0, .class_ 52), (0, u "com/example/tendril/tendril/ejbql/QueryChecker$Type"), (0, .methodref 51 54), (0, .nameAndType 5 55), (0, u "(Lcom/example/tendril/tendril/ejbql/ValueType;Lcom/example/tendril/tendril/ejbql/Schema$Bean;Z)V"), (0, .methodref 51 57), (0, .nameAndType 40 58), (0, u "(Lcom/example/tendril/tendril/ejbql/ValueType;)Lcom/example/tendril/tendril/ejbql/QueryChecker$Type;"), (0, .methodref 51 60), (0, .nameAndType 61 62), (0, u "objects"), (0, u "(Lcom/example/tendril/tendril/ejbql/Schema$Bean;)Lcom/example/tendril/tendril/ejbql/QueryChecker$Type;"), (0, .methodref 51 64), (0, .nameAndType 65 62), (0, u "collectionOf"), (0, .methodref 51 67), (0, .nameAndType 68 69), (0, u "isEntity"), (0, u "()Z"), (3, u "law"), (0, u "(IIII)Z")] 11

def k1m0 : Method := { name := "<init>", desc := "()V", sig := { parameters := [], returnType := none }, accessFlags := 2, code := none }
def k1c1 : Code := { maxStack := 2, maxLocals := 2, code := method_2_code, exceptionTable := #[], attributes := #[] }
def k1m1 : Method := { name := "pick", desc := "(I)Lcom/example/tendril/tendril/ejbql/ValueType;", sig := { parameters := [.int], returnType := some (.object "com/example/tendril/tendril/ejbql/ValueType") }, accessFlags := 10, code := some k1c1 }
def k1c2 : Code := { maxStack := 7, maxLocals := 11, code := code, exceptionTable := #[], attributes := #[] }
def k1m2 : Method := { name := "law", desc := "(IIII)Z", sig := { parameters := [.int, .int, .int, .int], returnType := some .boolean }, accessFlags := 9, code := some k1c2 }
/-- com/example/tendril/tendril/ejbql/TypeIsEntityPinLaw -/
def k1 : Class := { plain "com/example/tendril/tendril/ejbql/TypeIsEntityPinLaw" (some 0) with
  accessFlags := 49
  interfaces := #[]
  cf := some (fileOf pool1 46 #[] #[{ accessFlags := 2, nameIndex := 5, descriptorIndex := 6, attributes := #[] }, { accessFlags := 10, nameIndex := 49, descriptorIndex := 50, attributes := #[] }, { accessFlags := 9, nameIndex := 73, descriptorIndex := 74, attributes := #[] }] 49 2 #[] #[])
  fields := #[]
  methods := #[k1m0, k1m1, k1m2]
  instanceTypes := #[]
  staticTypes := #[]
  resolved := Array.replicate 86 none
  statics := none }

def pool2 : Array CpInfo := pool [(1, .methodref 2 3), (0, .class_ 4), (0, .nameAndType 5 6), (0, u "java/lang/Object"), (0, u "<init>"), (0, u "()V"), (0, .class_ 8), (0, u "java/lang/Record")] 13

def k2c0 : Code := { maxStack := 1, maxLocals := 1, code := jdk_30_method_1_code, exceptionTable := #[], attributes := #[] }
def k2m0 : Method := { name := "<init>", desc := "()V", sig := { parameters := [], returnType := none }, accessFlags := 4, code := some k2c0 }
/-- java/lang/Record -/
def k2 : Class := { plain "java/lang/Record" (some 0) with
  accessFlags := 1057
  interfaces := #[]
  cf := some (fileOf pool2 7 #[] #[{ accessFlags := 4, nameIndex := 5, descriptorIndex := 6, attributes := #[] }] 1057 2 #[] #[])
  fields := #[]
  methods := #[k2m0]
  instanceTypes := #[]
  staticTypes := #[]
  resolved := Array.replicate 22 none
  statics := none }

def pool3 : Array CpInfo := pool [(1, .methodref 2 3), (0, .class_ 4), (0, .nameAndType 5 6), (0, u "java/lang/Record"), (0, u "<init>"), (0, u "()V"), (0, .interfaceMethodref 8 9), (0, .class_ 10), (0, .nameAndType 11 12), (0, u "java/util/Map"), (0, u "copyOf"), (0, u "(Ljava/util/Map;)Ljava/util/Map;"), (0, .fieldref 14 15), (0, .class_ 16), (0, .nameAndType 17 18), (0, u "com/example/tendril/tendril/ejbql/Schema$Bean"), (0, u "ejbName"), (0, u "Ljava/lang/String;"), (0, .fieldref 14 20), (0, .nameAndType 21 18), (0, u "abstractSchemaName"), (0, .fieldref 14 23), (0, .nameAndType 24 18), (0, u "localInterface"), (0, .fieldref 14 26), (0, .nameAndType 27 28), (0, u "cmpFields"), (0, u "Ljava/util/Map;"), (0, .fieldref 14 30), (0, .nameAndType 31 28), (0, u "cmrFields"), (15, u "(Ljava/lang/String;Ljava/lang/String;Ljava/lang/String;Ljava/util/Map;Ljava/util/Map;)V"), (13, .class_ 62), (0, u "com/example/tendril/tendril/ejbql/Schema")] 26

def k3c0 : Code := { maxStack := 2, maxLocals := 6, code := prog_60_method_1_code, exceptionTable := #[], attributes := #[] }
def k3m0 : Method := { name := "<init>", desc := "(Ljava/lang/String;Ljava/lang/String;Ljava/lang/String;Ljava/util/Map;Ljava/util/Map;)V", sig := { parameters := [(.object "java/lang/String"), (.object "java/lang/String"), (.object "java/lang/String"), (.object "java/util/Map"), (.object "java/util/Map")], returnType := none }, accessFlags := 1, code := some k3c0 }
/-- com/example/tendril/tendril/ejbql/Schema$Bean -/
def k3 : Class := { plain "com/example/tendril/tendril/ejbql/Schema$Bean" (some 2) with
  accessFlags := 49
  interfaces := #[]
  cf := some (fileOf pool3 14 #[.nestHost 61] #[{ accessFlags := 1, nameIndex := 5, descriptorIndex := 47, attributes := #[] }] 49 2 #[] #[{ accessFlags := 18, nameIndex := 17, descriptorIndex := 18, attributes := #[] }, { accessFlags := 18, nameIndex := 21, descriptorIndex := 18, attributes := #[] }, { accessFlags := 18, nameIndex := 24, descriptorIndex := 18, attributes := #[] }, { accessFlags := 18, nameIndex := 27, descriptorIndex := 28, attributes := #[] }, { accessFlags := 18, nameIndex := 31, descriptorIndex := 28, attributes := #[] }])
  fields := #[{ name := "ejbName", type := (.object "java/lang/String"), accessFlags := 18, slot := 0, constantValue := 0 }, { name := "abstractSchemaName", type := (.object "java/lang/String"), accessFlags := 18, slot := 1, constantValue := 0 }, { name := "localInterface", type := (.object "java/lang/String"), accessFlags := 18, slot := 2, constantValue := 0 }, { name := "cmpFields", type := (.object "java/util/Map"), accessFlags := 18, slot := 3, constantValue := 0 }, { name := "cmrFields", type := (.object "java/util/Map"), accessFlags := 18, slot := 4, constantValue := 0 }]
  methods := #[k3m0]
  instanceTypes := #[(.object "java/lang/String"), (.object "java/lang/String"), (.object "java/lang/String"), (.object "java/util/Map"), (.object "java/util/Map")]
  staticTypes := #[]
  resolved := Array.replicate 89 none
  statics := none }

def pool4 : Array CpInfo := pool [(1, .class_ 2), (0, u "java/io/Serializable"), (0, .class_ 4), (0, u "java/lang/Object")] 2

/-- java/io/Serializable -/
def k4 : Class := { plain "java/io/Serializable" (some 0) with
  accessFlags := 1537
  interfaces := #[]
  cf := some (fileOf pool4 1 #[] #[] 1537 3 #[] #[])
  fields := #[]
  methods := #[]
  instanceTypes := #[]
  staticTypes := #[]
  resolved := Array.replicate 7 none
  statics := none }

def pool5 : Array CpInfo := pool [(1, .class_ 2), (0, u "java/lang/Comparable"), (0, .class_ 4), (0, u "java/lang/Object")] 7

/-- java/lang/Comparable -/
def k5 : Class := { plain "java/lang/Comparable" (some 0) with
  accessFlags := 1537
  interfaces := #[]
  cf := some (fileOf pool5 1 #[] #[] 1537 3 #[] #[])
  fields := #[]
  methods := #[]
  instanceTypes := #[]
  staticTypes := #[]
  resolved := Array.replicate 12 none
  statics := none }

def pool6 : Array CpInfo := pool [(2, .class_ 4), (1, u "java/lang/CharSequence"), (42, .class_ 48), (0, u "java/lang/CharSequence$1CodePointIterator"), (10, .class_ 60), (0, u "java/lang/CharSequence$1CharIterator"), (5, .class_ 67), (0, u "java/lang/Object")] 63

/-- java/lang/CharSequence -/
def k6 : Class := { plain "java/lang/CharSequence" (some 0) with
  accessFlags := 1537
  interfaces := #[]
  cf := some (fileOf pool6 2 #[.nestMembers #[47, 59]] #[] 1537 66 #[] #[])
  fields := #[]
  methods := #[]
  instanceTypes := #[]
  staticTypes := #[]
  resolved := Array.replicate 131 none
  statics := none }

def pool7 : Array CpInfo := pool [(1, .class_ 2), (0, u "java/lang/constant/Constable"), (0, .class_ 4), (0, u "java/lang/Object")] 6

/-- java/lang/constant/Constable -/
def k7 : Class := { plain "java/lang/constant/Constable" (some 0) with
  accessFlags := 1537
  interfaces := #[]
  cf := some (fileOf pool7 1 #[] #[] 1537 3 #[] #[])
  fields := #[]
  methods := #[]
  instanceTypes := #[]
  staticTypes := #[]
  resolved := Array.replicate 11 none
  statics := none }

def pool8 : Array CpInfo := pool [(1, .class_ 2), (0, u "java/lang/constant/ConstantDesc"), (0, .class_ 4), (0, u "java/lang/Object")] 32

/-- java/lang/constant/ConstantDesc -/
def k8 : Class := { plain "java/lang/constant/ConstantDesc" (some 0) with
  accessFlags := 1537
  interfaces := #[]
  cf := some (fileOf pool8 1 #[] #[] 1537 3 #[] #[])
  fields := #[]
  methods := #[]
  instanceTypes := #[]
  staticTypes := #[]
  resolved := Array.replicate 37 none
  statics := none }

def pool9 : Array CpInfo := pool [(1, .methodref 2 3), (0, .class_ 4), (0, .nameAndType 5 6), (0, u "java/lang/Object"), (0, u "<init>"), (0, u "()V"), (2, .fieldref 10 11), (0, .class_ 12), (0, .nameAndType 13 14), (0, u "java/lang/String"), (0, u "value"), (0, u "[B"), (0, .fieldref 10 16), (0, .nameAndType 17 18), (0, u "coder"), (0, u "B"), (2, u "hash"), (0, u "I"), (2, u "hashIsZero"), (0, u "Z"), (0, .methodref 10 28), (0, .nameAndType 5 29), (0, u "([CIILjava/lang/Void;)V"), (8, .fieldref 10 39), (0, .nameAndType 40 26), (0, u "COMPACT_STRINGS"), (1, .class_ 44), (1, u "java/lang/StringUTF16"), (0, u "compress"), (1, .methodref 42 48), (0, .nameAndType 49 50), (0, u "coderFromArrayLen"), (0, u "([BI)B"), (126, .methodref 42 178), (0, .nameAndType 45 179), (0, u "([CII)[B"), (395, .class_ 576), (0, u "java/lang/CharSequence"), (22, u "CASE_INSENSITIVE_ORDER"), (0, u "Ljava/util/Comparator;"), (409, u "([C)V"), (90, u "serialPersistentFields"), (0, u "[Ljava/io/ObjectStreamField;"), (0, .class_ 1104), (0, u "java/lang/String$CaseInsensitiveComparator"), (1, .class_ 1107), (0, u "java/io/Serializable"), (0, .class_ 1109), (0, u "java/lang/Comparable"), (0, .class_ 1111), (0, u "java/lang/constant/Constable"), (0, .class_ 1113), (0, u "java/lang/constant/ConstantDesc"), (2, u "serialVersionUID"), (0, u "J"), (3, u "REPL"), (0, u "C"), (2, u "LATIN1"), (1, u "UTF16")] 323

def k9m0 : Method := { name := "<init>", desc := "()V", sig := { parameters := [], returnType := none }, accessFlags := 1, code := none }
def k9c1 : Code := { maxStack := 5, maxLocals := 2, code := jdk_42_method_3_code, exceptionTable := #[], attributes := #[] }
def k9m1 : Method := { name := "<init>", desc := "([C)V", sig := { parameters := [(.array .char)], returnType := none }, accessFlags := 1, code := some k9c1 }
def k9c2 : Code := { maxStack := 4, maxLocals := 6, code := jdk_42_method_149_code, exceptionTable := #[], attributes := #[] }
def k9m2 : Method := { name := "<init>", desc := "([CIILjava/lang/Void;)V", sig := { parameters := [(.array .char), .int, .int, (.object "java/lang/Void")], returnType := none }, accessFlags := 2, code := some k9c2 }
/-- java/lang/String -/
def k9 : Class := { plain "java/lang/String" (some 0) with
  accessFlags := 49
  interfaces := #[4, 5, 6, 7, 8]
  cf := some (fileOf pool9 10 #[.nestMembers #[1103]] #[{ accessFlags := 1, nameIndex := 5, descriptorIndex := 6, attributes := #[] }, { accessFlags := 1, nameIndex := 5, descriptorIndex := 1010, attributes := #[] }, { accessFlags := 2, nameIndex := 5, descriptorIndex := 29, attributes := #[] }] 49 2 #[1106, 1108, 575, 1110, 1112] #[{ accessFlags := 18, nameIndex := 13, descriptorIndex := 14, attributes := #[] }, { accessFlags := 18, nameIndex := 17, descriptorIndex := 18, attributes := #[] }, { accessFlags := 2, nameIndex := 21, descriptorIndex := 22, attributes := #[] }, { accessFlags := 2, nameIndex := 25, descriptorIndex := 26, attributes := #[] }, { accessFlags := 26, nameIndex := 1116, descriptorIndex := 1117, attributes := #[] }, { accessFlags := 24, nameIndex := 40, descriptorIndex := 26, attributes := #[] }, { accessFlags := 26, nameIndex := 1101, descriptorIndex := 1102, attributes := #[] }, { accessFlags := 26, nameIndex := 1121, descriptorIndex := 1122, attributes := #[] }, { accessFlags := 25, nameIndex := 599, descriptorIndex := 600, attributes := #[] }, { accessFlags := 24, nameIndex := 1125, descriptorIndex := 18, attributes := #[] }, { accessFlags := 24, nameIndex := 1127, descriptorIndex := 18, attributes := #[] }])
  fields := #[{ name := "value", type := (.array .byte), accessFlags := 18, slot := 0, constantValue := 0 }, { name := "coder", type := .byte, accessFlags := 18, slot := 1, constantValue := 0 }, { name := "hash", type := .int, accessFlags := 2, slot := 2, constantValue := 0 }, { name := "hashIsZero", type := .boolean, accessFlags := 2, slot := 3, constantValue := 0 }, { name := "serialVersionUID", type := .long, accessFlags := 26, slot := 0, constantValue := 0 }, { name := "COMPACT_STRINGS", type := .boolean, accessFlags := 24, slot := 1, constantValue := 0 }, { name := "serialPersistentFields", type := (.array (.object "java/io/ObjectStreamField")), accessFlags := 26, slot := 2, constantValue := 0 }, { name := "REPL", type := .char, accessFlags := 26, slot := 3, constantValue := 0 }, { name := "CASE_INSENSITIVE_ORDER", type := (.object "java/util/Comparator"), accessFlags := 25, slot := 4, constantValue := 0 }, { name := "LATIN1", type := .byte, accessFlags := 24, slot := 5, constantValue := 0 }, { name := "UTF16", type := .byte, accessFlags := 24, slot := 6, constantValue := 0 }]
  methods := #[k9m0, k9m1, k9m2]
  instanceTypes := #[(.array .byte), .byte, .int, .boolean]
  staticTypes := #[.long, .boolean, (.array (.object "java/io/ObjectStreamField")), .char, (.object "java/util/Comparator"), .byte, .byte]
  resolved := Array.replicate 1451 none
  statics := some 0 }

def pool10 : Array CpInfo := pool [(6, .class_ 8), (1, u "java/lang/Object"), (0, u "<init>"), (0, u "()V"), (1, .class_ 14), (1, u "java/lang/StringUTF16"), (31, u "$assertionsDisabled"), (0, u "Z"), (13, u "HI_BYTE_SHIFT"), (0, u "I"), (2, u "LO_BYTE_SHIFT"), (49, .methodref 12 116), (0, .nameAndType 117 118), (0, u "compress"), (0, u "([CI[BII)I"), (3, u "([CII)[B"), (138, u "coderFromArrayLen"), (0, u "([BI)B"), (106, .class_ 371), (1, u "java/lang/StringUTF16$LinesSpliterator"), (58, u "MAX_LENGTH"), (196, .class_ 628), (0, u "java/lang/StringUTF16$CodePointsSpliterator"), (0, .class_ 630), (0, u "java/lang/StringUTF16$CharsSpliterator")] 4

def k10m0 : Method := { name := "<init>", desc := "()V", sig := { parameters := [], returnType := none }, accessFlags := 0, code := none }
def k10c1 : Code := { maxStack := 2, maxLocals := 2, code := jdk_52_method_15_code, exceptionTable := #[], attributes := #[] }
def k10m1 : Method := { name := "coderFromArrayLen", desc := "([BI)B", sig := { parameters := [(.array .byte), .int], returnType := some .byte }, accessFlags := 8, code := some k10c1 }
def k10c2 : Code := { maxStack := 5, maxLocals := 6, code := jdk_52_method_16_code, exceptionTable := #[], attributes := #[] }
def k10m2 : Method := { name := "compress", desc := "([CII)[B", sig := { parameters := [(.array .char), .int, .int], returnType := some (.array .byte) }, accessFlags := 9, code := some k10c2 }
def k10c3 : Code := { maxStack := 3, maxLocals := 7, code := jdk_52_method_21_code, exceptionTable := #[], attributes := #[] }
def k10m3 : Method := { name := "compress", desc := "([CI[BII)I", sig := { parameters := [(.array .char), .int, (.array .byte), .int, .int], returnType := some .int }, accessFlags := 9, code := some k10c3 }
/-- java/lang/StringUTF16 -/
def k10 : Class := { plain "java/lang/StringUTF16" (some 0) with
  accessFlags := 48
  interfaces := #[]
  cf := some (fileOf pool10 12 #[.nestMembers #[627, 629, 369]] #[{ accessFlags := 0, nameIndex := 9, descriptorIndex := 10, attributes := #[] }, { accessFlags := 8, nameIndex := 261, descriptorIndex := 262, attributes := #[] }, { accessFlags := 9, nameIndex := 117, descriptorIndex := 122, attributes := #[] }, { accessFlags := 9, nameIndex := 117, descriptorIndex := 118, attributes := #[] }] 48 6 #[] #[{ accessFlags := 26, nameIndex := 61, descriptorIndex := 62, attributes := #[] }, { accessFlags := 26, nameIndex := 65, descriptorIndex := 62, attributes := #[] }, { accessFlags := 24, nameIndex := 430, descriptorIndex := 62, attributes := #[] }, { accessFlags := 4120, nameIndex := 46, descriptorIndex := 47, attributes := #[] }])
  fields := #[{ name := "HI_BYTE_SHIFT", type := .int, accessFlags := 26, slot := 0, constantValue := 0 }, { name := "LO_BYTE_SHIFT", type := .int, accessFlags := 26, slot := 1, constantValue := 0 }, { name := "MAX_LENGTH", type := .int, accessFlags := 24, slot := 2, constantValue := 0 }, { name := "$assertionsDisabled", type := .boolean, accessFlags := 4120, slot := 3, constantValue := 0 }]
  methods := #[k10m0, k10m1, k10m2, k10m3]
  instanceTypes := #[]
  staticTypes := #[.int, .int, .int, .boolean]
  resolved := Array.replicate 635 none
  statics := none }

def pool11 : Array CpInfo := pool [(2, .class_ 4), (1, u "java/util/Map"), (31, .class_ 37), (0, u "java/util/Map$Entry"), (43, .fieldref 82 83), (0, .class_ 84), (0, .nameAndType 85 86), (0, u "java/util/ImmutableCollections"), (0, u "EMPTY_MAP"), (0, u "Ljava/util/ImmutableCollections$MapN;"), (6, .class_ 94), (0, u "java/lang/Object"), (6, .class_ 102), (0, u "java/util/ImmutableCollections$AbstractImmutableMap"), (5, u "of"), (0, u "()Ljava/util/Map;"), (140, u "copyOf"), (0, u "(Ljava/util/Map;)Ljava/util/Map;")] 11

def k11c0 : Code := { maxStack := 1, maxLocals := 0, code := jdk_72_method_26_code, exceptionTable := #[], attributes := #[] }
def k11m0 : Method := { name := "of", desc := "()Ljava/util/Map;", sig := { parameters := [], returnType := some (.object "java/util/Map") }, accessFlags := 9, code := some k11c0 }
def k11c1 : Code := { maxStack := 2, maxLocals := 1, code := jdk_72_method_39_code, exceptionTable := #[], attributes := #[] }
def k11m1 : Method := { name := "copyOf", desc := "(Ljava/util/Map;)Ljava/util/Map;", sig := { parameters := [(.object "java/util/Map")], returnType := some (.object "java/util/Map") }, accessFlags := 9, code := some k11c1 }
/-- java/util/Map -/
def k11 : Class := { plain "java/util/Map" (some 0) with
  accessFlags := 1537
  interfaces := #[]
  cf := some (fileOf pool11 2 #[.nestMembers #[36]] #[{ accessFlags := 9, nameIndex := 108, descriptorIndex := 109, attributes := #[] }, { accessFlags := 9, nameIndex := 250, descriptorIndex := 251, attributes := #[] }] 1537 93 #[] #[])
  fields := #[]
  methods := #[k11m0, k11m1]
  instanceTypes := #[]
  staticTypes := #[]
  resolved := Array.replicate 263 none
  statics := none }

def pool12 : Array CpInfo := pool [(2, .class_ 4), (1, u "java/lang/Object"), (0, u "<init>"), (0, u "()V"), (3, .class_ 11), (0, u "java/util/ImmutableCollections$List12"), (0, .class_ 13), (0, u "java/util/ImmutableCollections$ListN"), (3, u "Z"), (29, .class_ 49), (1, u "java/util/ImmutableCollections"), (0, u "$assertionsDisabled"), (5, u "[Ljava/lang/Object;"), (5, u "EMPTY_LIST"), (0, u "Ljava/util/ImmutableCollections$ListN;"), (8, u "EMPTY_LIST_NULLS"), (22, u "SALT32L"), (0, u "J"), (2, u "REVERSE"), (6, u "archivedObjects"), (2, u "EMPTY"), (0, u "Ljava/lang/Object;"), (0, .class_ 112), (0, u "java/util/ImmutableCollections$SetN"), (5, u "EMPTY_SET"), (0, u "Ljava/util/ImmutableCollections$SetN;"), (0, .class_ 121), (0, u "java/util/ImmutableCollections$MapN"), (3, u "EMPTY_MAP"), (0, u "Ljava/util/ImmutableCollections$MapN;"), (4, u "EXPAND_FACTOR"), (0, u "I"), (36, .class_ 170), (0, u "java/util/ImmutableCollections$MapN$MapNIterator"), (0, .class_ 172), (0, u "java/util/ImmutableCollections$MapN$1"), (0, .class_ 174), (0, u "java/util/ImmutableCollections$Map1"), (0, .class_ 176), (0, u "java/util/ImmutableCollections$AbstractImmutableMap"), (0, .class_ 178), (0, u "java/util/ImmutableCollections$SetN$SetNIterator"), (0, .class_ 180), (0, u "java/util/ImmutableCollections$Set12"), (0, .class_ 182), (0, u "java/util/ImmutableCollections$Set12$1"), (0, .class_ 184), (0, u "java/util/ImmutableCollections$AbstractImmutableSet"), (0, .class_ 186), (0, u "java/util/ImmutableCollections$SubList"), (0, .class_ 188), (0, u "java/util/ImmutableCollections$ListItr"), (0, .class_ 190), (0, u "java/util/ImmutableCollections$AbstractImmutableList"), (0, .class_ 192), (0, u "java/util/ImmutableCollections$AbstractImmutableCollection"), (0, .class_ 194), (0, u "java/util/ImmutableCollections$Access"), (0, .class_ 196), (0, u "java/util/ImmutableCollections$Access$1")] 16

def k12m0 : Method := { name := "<init>", desc := "()V", sig := { parameters := [], returnType := none }, accessFlags := 2, code := none }
/-- java/util/ImmutableCollections -/
def k12 : Class := { plain "java/util/ImmutableCollections" (some 0) with
  accessFlags := 32
  interfaces := #[]
  cf := some (fileOf pool12 47 #[.nestMembers #[120, 169, 171, 173, 175, 111, 177, 179, 181, 183, 12, 10, 185, 187, 189, 191, 193, 195]] #[{ accessFlags := 2, nameIndex := 5, descriptorIndex := 6, attributes := #[] }] 32 2 #[] #[{ accessFlags := 26, nameIndex := 95, descriptorIndex := 96, attributes := #[] }, { accessFlags := 26, nameIndex := 99, descriptorIndex := 17, attributes := #[] }, { accessFlags := 10, nameIndex := 106, descriptorIndex := 56, attributes := #[] }, { accessFlags := 26, nameIndex := 109, descriptorIndex := 110, attributes := #[] }, { accessFlags := 24, nameIndex := 62, descriptorIndex := 63, attributes := #[] }, { accessFlags := 24, nameIndex := 72, descriptorIndex := 63, attributes := #[] }, { accessFlags := 24, nameIndex := 118, descriptorIndex := 119, attributes := #[] }, { accessFlags := 24, nameIndex := 125, descriptorIndex := 126, attributes := #[] }, { accessFlags := 24, nameIndex := 131, descriptorIndex := 132, attributes := #[] }, { accessFlags := 4120, nameIndex := 50, descriptorIndex := 17, attributes := #[] }])
  fields := #[{ name := "SALT32L", type := .long, accessFlags := 26, slot := 0, constantValue := 0 }, { name := "REVERSE", type := .boolean, accessFlags := 26, slot := 1, constantValue := 0 }, { name := "archivedObjects", type := (.array (.object "java/lang/Object")), accessFlags := 10, slot := 2, constantValue := 0 }, { name := "EMPTY", type := (.object "java/lang/Object"), accessFlags := 26, slot := 3, constantValue := 0 }, { name := "EMPTY_LIST", type := (.object "java/util/ImmutableCollections$ListN"), accessFlags := 24, slot := 4, constantValue := 0 }, { name := "EMPTY_LIST_NULLS", type := (.object "java/util/ImmutableCollections$ListN"), accessFlags := 24, slot := 5, constantValue := 0 }, { name := "EMPTY_SET", type := (.object "java/util/ImmutableCollections$SetN"), accessFlags := 24, slot := 6, constantValue := 0 }, { name := "EMPTY_MAP", type := (.object "java/util/ImmutableCollections$MapN"), accessFlags := 24, slot := 7, constantValue := 0 }, { name := "EXPAND_FACTOR", type := .int, accessFlags := 24, slot := 8, constantValue := 0 }, { name := "$assertionsDisabled", type := .boolean, accessFlags := 4120, slot := 9, constantValue := 0 }]
  methods := #[k12m0]
  instanceTypes := #[]
  staticTypes := #[.long, .boolean, (.array (.object "java/lang/Object")), (.object "java/lang/Object"), (.object "java/util/ImmutableCollections$ListN"), (.object "java/util/ImmutableCollections$ListN"), (.object "java/util/ImmutableCollections$SetN"), (.object "java/util/ImmutableCollections$MapN"), .int, .boolean]
  resolved := Array.replicate 213 none
  statics := some 1 }

def pool13 : Array CpInfo := pool [(2, .class_ 4), (1, u "java/lang/Object"), (0, u "<init>"), (0, u "()V"), (1, .class_ 10), (1, u "java/util/AbstractMap"), (42, .class_ 54), (0, u "java/util/Map"), (9, u "keySet"), (0, u "Ljava/util/Set;"), (0, .class_ 67), (0, u "java/util/AbstractMap$1"), (5, u "values"), (0, u "Ljava/util/Collection;"), (0, .class_ 76), (0, u "java/util/AbstractMap$2"), (104, .class_ 182), (0, u "java/util/AbstractMap$ViewCollection"), (0, .class_ 184), (0, u "java/util/AbstractMap$SimpleImmutableEntry"), (0, .class_ 186), (0, u "java/util/AbstractMap$SimpleEntry"), (0, .class_ 188), (0, u "java/util/AbstractMap$2$1"), (0, .class_ 190), (0, u "java/util/AbstractMap$1$1")] 5

def k13m0 : Method := { name := "<init>", desc := "()V", sig := { parameters := [], returnType := none }, accessFlags := 4, code := none }
/-- java/util/AbstractMap -/
def k13 : Class := { plain "java/util/AbstractMap" (some 0) with
  accessFlags := 1057
  interfaces := #[11]
  cf := some (fileOf pool13 8 #[.nestMembers #[181, 183, 185, 75, 187, 66, 189]] #[{ accessFlags := 4, nameIndex := 5, descriptorIndex := 6, attributes := #[] }] 1057 2 #[53] #[{ accessFlags := 128, nameIndex := 64, descriptorIndex := 65, attributes := #[] }, { accessFlags := 128, nameIndex := 73, descriptorIndex := 74, attributes := #[] }])
  fields := #[{ name := "keySet", type := (.object "java/util/Set"), accessFlags := 128, slot := 0, constantValue := 0 }, { name := "values", type := (.object "java/util/Collection"), accessFlags := 128, slot := 1, constantValue := 0 }]
  methods := #[k13m0]
  instanceTypes := #[(.object "java/util/Set"), (.object "java/util/Collection")]
  staticTypes := #[]
  resolved := Array.replicate 196 none
  statics := none }

def pool14 : Array CpInfo := pool [(2, .class_ 4), (1, u "java/util/AbstractMap"), (0, u "<init>"), (0, u "()V"), (1, .class_ 10), (1, u "java/util/ImmutableCollections"), (3, .class_ 16), (1, u "java/util/ImmutableCollections$AbstractImmutableMap"), (2, .class_ 20), (0, u "java/io/Serializable")] 66

def k14m0 : Method := { name := "<init>", desc := "()V", sig := { parameters := [], returnType := none }, accessFlags := 0, code := none }
/-- java/util/ImmutableCollections$AbstractImmutableMap -/
def k14 : Class := { plain "java/util/ImmutableCollections$AbstractImmutableMap" (some 13) with
  accessFlags := 1056
  interfaces := #[4]
  cf := some (fileOf pool14 14 #[.nestHost 8] #[{ accessFlags := 0, nameIndex := 5, descriptorIndex := 6, attributes := #[] }] 1056 2 #[19] #[])
  fields := #[]
  methods := #[k14m0]
  instanceTypes := #[(.object "java/util/Set"), (.object "java/util/Collection")]
  staticTypes := #[]
  resolved := Array.replicate 87 none
  statics := none }

def pool15 : Array CpInfo := pool [(1, .class_ 2), (0, u "java/util/ImmutableCollections"), (1, .class_ 6), (1, u "java/util/ImmutableCollections$AbstractImmutableMap"), (10, .class_ 19), (1, u "java/util/ImmutableCollections$MapN"), (0, u "size"), (0, u "I"), (4, u "table"), (0, u "[Ljava/lang/Object;")] 121

/-- java/util/ImmutableCollections$MapN -/
def k15 : Class := { plain "java/util/ImmutableCollections$MapN" (some 14) with
  accessFlags := 48
  interfaces := #[]
  cf := some (fileOf pool15 17 #[.nestHost 1] #[] 48 4 #[] #[{ accessFlags := 16, nameIndex := 26, descriptorIndex := 27, attributes := #[] }, { accessFlags := 16, nameIndex := 20, descriptorIndex := 21, attributes := #[] }])
  fields := #[{ name := "table", type := (.array (.object "java/lang/Object")), accessFlags := 16, slot := 2, constantValue := 0 }, { name := "size", type := .int, accessFlags := 16, slot := 3, constantValue := 0 }]
  methods := #[]
  instanceTypes := #[(.object "java/util/Set"), (.object "java/util/Collection"), (.array (.object "java/lang/Object")), .int]
  staticTypes := #[]
  resolved := Array.replicate 149 none
  statics := none }

def pool16 : Array CpInfo := pool [(2, .class_ 4), (1, u "java/lang/Enum"), (0, u "name"), (0, u "Ljava/lang/String;"), (2, u "ordinal"), (0, u "I"), (1, .class_ 14), (1, u "java/lang/Object"), (4, u "hash"), (86, .class_ 108), (1, u "java/lang/Enum$EnumDesc"), (2, .class_ 112), (0, u "java/lang/constant/Constable"), (0, .class_ 114), (0, u "java/lang/Comparable"), (0, .class_ 116), (0, u "java/io/Serializable")] 87

/-- java/lang/Enum -/
def k16 : Class := { plain "java/lang/Enum" (some 0) with
  accessFlags := 1057
  interfaces := #[7, 5, 4]
  cf := some (fileOf pool16 2 #[.nestMembers #[106]] #[] 1057 12 #[111, 113, 115] #[{ accessFlags := 18, nameIndex := 5, descriptorIndex := 6, attributes := #[] }, { accessFlags := 18, nameIndex := 9, descriptorIndex := 10, attributes := #[] }, { accessFlags := 2, nameIndex := 19, descriptorIndex := 10, attributes := #[] }])
  fields := #[{ name := "name", type := (.object "java/lang/String"), accessFlags := 18, slot := 0, constantValue := 0 }, { name := "ordinal", type := .int, accessFlags := 18, slot := 1, constantValue := 0 }, { name := "hash", type := .int, accessFlags := 2, slot := 2, constantValue := 0 }]
  methods := #[]
  instanceTypes := #[(.object "java/lang/String"), .int, .int]
  staticTypes := #[]
  resolved := Array.replicate 204 none
  statics := none }

def pool17 : Array CpInfo := pool [(1, .class_ 2), (0, u "com/example/tendril/tendril/ejbql/ValueType"), (2, u "NUMERIC"), (0, u "Lcom/example/tendril/tendril/ejbql/ValueType;"), (2, u "STRING"), (2, u "BOOLEAN"), (2, u "DATETIME"), (2, u "OTHER"), (2, u "UNKNOWN"), (2, u "$VALUES"), (0, u "[Lcom/example/tendril/tendril/ejbql/ValueType;"), (6, .class_ 34), (1, u "java/lang/Enum"), (8, u "description"), (0, u "Ljava/lang/String;"), (2, u "JAVA_TYPES"), (0, u "Ljava/util/Map;")] 106

/-- com/example/tendril/tendril/ejbql/ValueType -/
def k17 : Class := { plain "com/example/tendril/tendril/ejbql/ValueType" (some 16) with
  accessFlags := 16433
  interfaces := #[]
  cf := some (fileOf pool17 1 #[] #[] 16433 32 #[] #[{ accessFlags := 16409, nameIndex := 5, descriptorIndex := 6, attributes := #[] }, { accessFlags := 16409, nameIndex := 9, descriptorIndex := 6, attributes := #[] }, { accessFlags := 16409, nameIndex := 12, descriptorIndex := 6, attributes := #[] }, { accessFlags := 16409, nameIndex := 15, descriptorIndex := 6, attributes := #[] }, { accessFlags := 16409, nameIndex := 18, descriptorIndex := 6, attributes := #[] }, { accessFlags := 16409, nameIndex := 21, descriptorIndex := 6, attributes := #[] }, { accessFlags := 26, nameIndex := 47, descriptorIndex := 48, attributes := #[] }, { accessFlags := 18, nameIndex := 43, descriptorIndex := 44, attributes := #[] }, { accessFlags := 4122, nameIndex := 24, descriptorIndex := 25, attributes := #[] }])
  fields := #[{ name := "NUMERIC", type := (.object "com/example/tendril/tendril/ejbql/ValueType"), accessFlags := 16409, slot := 0, constantValue := 0 }, { name := "STRING", type := (.object "com/example/tendril/tendril/ejbql/ValueType"), accessFlags := 16409, slot := 1, constantValue := 0 }, { name := "BOOLEAN", type := (.object "com/example/tendril/tendril/ejbql/ValueType"), accessFlags := 16409, slot := 2, constantValue := 0 }, { name := "DATETIME", type := (.object "com/example/tendril/tendril/ejbql/ValueType"), accessFlags := 16409, slot := 3, constantValue := 0 }, { name := "OTHER", type := (.object "com/example/tendril/tendril/ejbql/ValueType"), accessFlags := 16409, slot := 4, constantValue := 0 }, { name := "UNKNOWN", type := (.object "com/example/tendril/tendril/ejbql/ValueType"), accessFlags := 16409, slot := 5, constantValue := 0 }, { name := "JAVA_TYPES", type := (.object "java/util/Map"), accessFlags := 26, slot := 6, constantValue := 0 }, { name := "description", type := (.object "java/lang/String"), accessFlags := 18, slot := 3, constantValue := 0 }, { name := "$VALUES", type := (.array (.object "com/example/tendril/tendril/ejbql/ValueType")), accessFlags := 4122, slot := 7, constantValue := 0 }]
  methods := #[]
  instanceTypes := #[(.object "java/lang/String"), .int, .int, (.object "java/lang/String")]
  staticTypes := #[(.object "com/example/tendril/tendril/ejbql/ValueType"), (.object "com/example/tendril/tendril/ejbql/ValueType"), (.object "com/example/tendril/tendril/ejbql/ValueType"), (.object "com/example/tendril/tendril/ejbql/ValueType"), (.object "com/example/tendril/tendril/ejbql/ValueType"), (.object "com/example/tendril/tendril/ejbql/ValueType"), (.object "java/util/Map"), (.array (.object "com/example/tendril/tendril/ejbql/ValueType"))]
  resolved := Array.replicate 155 none
  statics := some 2 }

def pool18 : Array CpInfo := pool [(1, .methodref 2 3), (0, .class_ 4), (0, .nameAndType 5 6), (0, u "java/lang/Record"), (0, u "<init>"), (0, u "()V"), (0, .fieldref 8 9), (0, .class_ 10), (0, .nameAndType 11 12), (0, u "com/example/tendril/tendril/ejbql/QueryChecker$Type"), (0, u "value"), (0, u "Lcom/example/tendril/tendril/ejbql/ValueType;"), (0, .fieldref 8 14), (0, .nameAndType 15 16), (0, u "bean"), (0, u "Lcom/example/tendril/tendril/ejbql/Schema$Bean;"), (0, .fieldref 8 18), (0, .nameAndType 19 20), (0, u "collection"), (0, u "Z"), (0, .methodref 8 22), (0, .nameAndType 5 23), (0, u "(Lcom/example/tendril/tendril/ejbql/ValueType;Lcom/example/tendril/tendril/ejbql/Schema$Bean;Z)V"), (2, u "isEntity"), (0, u "()Z"), (39, u "of"), (0, u "(Lcom/example/tendril/tendril/ejbql/ValueType;)Lcom/example/tendril/tendril/ejbql/QueryChecker$Type;"), (0, u "objects"), (0, u "(Lcom/example/tendril/tendril/ejbql/Schema$Bean;)Lcom/example/tendril/tendril/ejbql/QueryChecker$Type;"), (0, u "collectionOf"), (13, .class_ 86), (0, u "com/example/tendril/tendril/ejbql/QueryChecker")] 34

def k18c0 : Code := { maxStack := 2, maxLocals := 4, code := prog_58_method_1_code, exceptionTable := #[], attributes := #[] }
def k18m0 : Method := { name := "<init>", desc := "(Lcom/example/tendril/tendril/ejbql/ValueType;Lcom/example/tendril/tendril/ejbql/Schema$Bean;Z)V", sig := { parameters := [(.object "com/example/tendril/tendril/ejbql/ValueType"), (.object "com/example/tendril/tendril/ejbql/Schema$Bean"), .boolean], returnType := none }, accessFlags := 0, code := some k18c0 }
def k18c1 : Code := { maxStack := 5, maxLocals := 1, code := prog_58_method_2_code, exceptionTable := #[], attributes := #[] }
def k18m1 : Method := { name := "of", desc := "(Lcom/example/tendril/tendril/ejbql/ValueType;)Lcom/example/tendril/tendril/ejbql/QueryChecker$Type;", sig := { parameters := [(.object "com/example/tendril/tendril/ejbql/ValueType")], returnType := some (.object "com/example/tendril/tendril/ejbql/QueryChecker$Type") }, accessFlags := 8, code := some k18c1 }
def k18c2 : Code := { maxStack := 5, maxLocals := 1, code := prog_58_method_3_code, exceptionTable := #[], attributes := #[] }
def k18m2 : Method := { name := "objects", desc := "(Lcom/example/tendril/tendril/ejbql/Schema$Bean;)Lcom/example/tendril/tendril/ejbql/QueryChecker$Type;", sig := { parameters := [(.object "com/example/tendril/tendril/ejbql/Schema$Bean")], returnType := some (.object "com/example/tendril/tendril/ejbql/QueryChecker$Type") }, accessFlags := 8, code := some k18c2 }
def k18c3 : Code := { maxStack := 5, maxLocals := 1, code := prog_58_method_4_code, exceptionTable := #[], attributes := #[] }
def k18m3 : Method := { name := "collectionOf", desc := "(Lcom/example/tendril/tendril/ejbql/Schema$Bean;)Lcom/example/tendril/tendril/ejbql/QueryChecker$Type;", sig := { parameters := [(.object "com/example/tendril/tendril/ejbql/Schema$Bean")], returnType := some (.object "com/example/tendril/tendril/ejbql/QueryChecker$Type") }, accessFlags := 8, code := some k18c3 }
def k18c4 : Code := { maxStack := 1, maxLocals := 1, code := prog_58_method_6_code, exceptionTable := #[], attributes := #[] }
def k18m4 : Method := { name := "isEntity", desc := "()Z", sig := { parameters := [], returnType := some .boolean }, accessFlags := 0, code := some k18c4 }
/-- com/example/tendril/tendril/ejbql/QueryChecker$Type -/
def k18 : Class := { plain "com/example/tendril/tendril/ejbql/QueryChecker$Type" (some 2) with
  accessFlags := 48
  interfaces := #[]
  cf := some (fileOf pool18 8 #[.nestHost 85] #[{ accessFlags := 0, nameIndex := 5, descriptorIndex := 23, attributes := #[] }, { accessFlags := 8, nameIndex := 67, descriptorIndex := 68, attributes := #[] }, { accessFlags := 8, nameIndex := 69, descriptorIndex := 70, attributes := #[] }, { accessFlags := 8, nameIndex := 71, descriptorIndex := 70, attributes := #[] }, { accessFlags := 0, nameIndex := 26, descriptorIndex := 27, attributes := #[] }] 48 2 #[] #[{ accessFlags := 18, nameIndex := 11, descriptorIndex := 12, attributes := #[] }, { accessFlags := 18, nameIndex := 15, descriptorIndex := 16, attributes := #[] }, { accessFlags := 18, nameIndex := 19, descriptorIndex := 20, attributes := #[] }])
  fields := #[{ name := "value", type := (.object "com/example/tendril/tendril/ejbql/ValueType"), accessFlags := 18, slot := 0, constantValue := 0 }, { name := "bean", type := (.object "com/example/tendril/tendril/ejbql/Schema$Bean"), accessFlags := 18, slot := 1, constantValue := 0 }, { name := "collection", type := .boolean, accessFlags := 18, slot := 2, constantValue := 0 }]
  methods := #[k18m0, k18m1, k18m2, k18m3, k18m4]
  instanceTypes := #[(.object "com/example/tendril/tendril/ejbql/ValueType"), (.object "com/example/tendril/tendril/ejbql/Schema$Bean"), .boolean]
  staticTypes := #[]
  resolved := Array.replicate 121 none
  statics := none }

def pool19 : Array CpInfo := pool [(4, .class_ 6), (1, u "java/lang/Object"), (0, u "<init>"), (0, u "()V"), (5, .class_ 16), (1, u "java/lang/StringLatin1"), (104, u "$assertionsDisabled"), (0, u "Z"), (98, .class_ 223), (1, u "java/lang/StringLatin1$LinesSpliterator"), (166, .class_ 391), (0, u "java/lang/StringLatin1$CharsSpliterator")] 3

def k19m0 : Method := { name := "<init>", desc := "()V", sig := { parameters := [], returnType := none }, accessFlags := 0, code := none }
/-- java/lang/StringLatin1 -/
def k19 : Class := { plain "java/lang/StringLatin1" (some 0) with
  accessFlags := 48
  interfaces := #[]
  cf := some (fileOf pool19 14 #[.nestMembers #[390, 221]] #[{ accessFlags := 0, nameIndex := 7, descriptorIndex := 8, attributes := #[] }] 48 4 #[] #[{ accessFlags := 4120, nameIndex := 121, descriptorIndex := 122, attributes := #[] }])
  fields := #[{ name := "$assertionsDisabled", type := .boolean, accessFlags := 4120, slot := 0, constantValue := 0 }]
  methods := #[k19m0]
  instanceTypes := #[]
  staticTypes := #[.boolean]
  resolved := Array.replicate 395 none
  statics := none }

def pool20 : Array CpInfo := pool [(2, .class_ 4), (1, u "java/lang/Object"), (0, u "<init>"), (0, u "()V"), (17, .class_ 26), (1, u "jdk/internal/util/Preconditions"), (28, .class_ 56), (0, u "jdk/internal/util/Preconditions$4"), (57, .class_ 115), (0, u "jdk/internal/util/Preconditions$1"), (7, u "SIOOBE_FORMATTER"), (0, u "Ljava/util/function/BiFunction;"), (0, .class_ 126), (0, u "jdk/internal/util/Preconditions$2"), (3, u "AIOOBE_FORMATTER"), (0, .class_ 132), (0, u "jdk/internal/util/Preconditions$3"), (3, u "IOOBE_FORMATTER")] 57

def k20m0 : Method := { name := "<init>", desc := "()V", sig := { parameters := [], returnType := none }, accessFlags := 1, code := none }
/-- jdk/internal/util/Preconditions -/
def k20 : Class := { plain "jdk/internal/util/Preconditions" (some 0) with
  accessFlags := 33
  interfaces := #[]
  cf := some (fileOf pool20 24 #[.nestMembers #[55, 131, 125, 114]] #[{ accessFlags := 1, nameIndex := 5, descriptorIndex := 6, attributes := #[] }] 33 2 #[] #[{ accessFlags := 25, nameIndex := 123, descriptorIndex := 124, attributes := #[] }, { accessFlags := 25, nameIndex := 130, descriptorIndex := 124, attributes := #[] }, { accessFlags := 25, nameIndex := 136, descriptorIndex := 124, attributes := #[] }])
  fields := #[{ name := "SIOOBE_FORMATTER", type := (.object "java/util/function/BiFunction"), accessFlags := 25, slot := 0, constantValue := 0 }, { name := "AIOOBE_FORMATTER", type := (.object "java/util/function/BiFunction"), accessFlags := 25, slot := 1, constantValue := 0 }, { name := "IOOBE_FORMATTER", type := (.object "java/util/function/BiFunction"), accessFlags := 25, slot := 2, constantValue := 0 }]
  methods := #[k20m0]
  instanceTypes := #[]
  staticTypes := #[(.object "java/util/function/BiFunction"), (.object "java/util/function/BiFunction"), (.object "java/util/function/BiFunction")]
  resolved := Array.replicate 194 none
  statics := some 3 }

def pool21 : Array CpInfo := pool [(9, u "<init>"), (6, .class_ 18), (1, u "java/lang/Object"), (0, u "()V"), (1, .class_ 23), (1, u "jdk/internal/util/ArraysSupport"), (0, u "LOG2_ARRAY_LONG_INDEX_SCALE"), (0, u "I"), (2, u "U"), (0, u "Ljdk/internal/misc/Unsafe;"), (8, u "BIG_ENDIAN"), (0, u "Z"), (8, u "LOG2_BYTE_BIT_SIZE"), (4, u "LOG2_ARRAY_INT_INDEX_SCALE"), (54, u "JLA"), (0, u "Ljdk/internal/access/JavaLangAccess;"), (11, u "LOG2_ARRAY_BOOLEAN_INDEX_SCALE"), (9, u "LOG2_ARRAY_BYTE_INDEX_SCALE"), (5, u "LOG2_ARRAY_CHAR_INDEX_SCALE"), (5, u "LOG2_ARRAY_SHORT_INDEX_SCALE"), (18, u "LOG2_ARRAY_FLOAT_INDEX_SCALE"), (24, u "LOG2_ARRAY_DOUBLE_INDEX_SCALE"), (89, u "T_BOOLEAN"), (2, u "T_CHAR"), (1, u "T_FLOAT"), (1, u "T_DOUBLE"), (1, u "T_BYTE"), (1, u "T_SHORT"), (1, u "T_INT"), (1, u "T_LONG"), (1, u "SOFT_MAX_ARRAY_LENGTH")] 83

def k21m0 : Method := { name := "<init>", desc := "()V", sig := { parameters := [], returnType := none }, accessFlags := 2, code := none }
/-- jdk/internal/util/ArraysSupport -/
def k21 : Class := { plain "jdk/internal/util/ArraysSupport" (some 0) with
  accessFlags := 33
  interfaces := #[]
  cf := some (fileOf pool21 21 #[] #[{ accessFlags := 2, nameIndex := 9, descriptorIndex := 19, attributes := #[] }] 33 16 #[] #[{ accessFlags := 24, nameIndex := 28, descriptorIndex := 29, attributes := #[] }, { accessFlags := 26, nameIndex := 38, descriptorIndex := 39, attributes := #[] }, { accessFlags := 25, nameIndex := 121, descriptorIndex := 25, attributes := #[] }, { accessFlags := 25, nameIndex := 131, descriptorIndex := 25, attributes := #[] }, { accessFlags := 25, nameIndex := 137, descriptorIndex := 25, attributes := #[] }, { accessFlags := 25, nameIndex := 143, descriptorIndex := 25, attributes := #[] }, { accessFlags := 25, nameIndex := 53, descriptorIndex := 25, attributes := #[] }, { accessFlags := 25, nameIndex := 24, descriptorIndex := 25, attributes := #[] }, { accessFlags := 25, nameIndex := 162, descriptorIndex := 25, attributes := #[] }, { accessFlags := 25, nameIndex := 187, descriptorIndex := 25, attributes := #[] }, { accessFlags := 26, nameIndex := 48, descriptorIndex := 25, attributes := #[] }, { accessFlags := 25, nameIndex := 277, descriptorIndex := 25, attributes := #[] }, { accessFlags := 25, nameIndex := 280, descriptorIndex := 25, attributes := #[] }, { accessFlags := 25, nameIndex := 282, descriptorIndex := 25, attributes := #[] }, { accessFlags := 25, nameIndex := 284, descriptorIndex := 25, attributes := #[] }, { accessFlags := 25, nameIndex := 286, descriptorIndex := 25, attributes := #[] }, { accessFlags := 25, nameIndex := 288, descriptorIndex := 25, attributes := #[] }, { accessFlags := 25, nameIndex := 290, descriptorIndex := 25, attributes := #[] }, { accessFlags := 25, nameIndex := 292, descriptorIndex := 25, attributes := #[] }, { accessFlags := 26, nameIndex := 108, descriptorIndex := 109, attributes := #[] }, { accessFlags := 25, nameIndex := 294, descriptorIndex := 25, attributes := #[] }])
  fields := #[{ name := "U", type := (.object "jdk/internal/misc/Unsafe"), accessFlags := 24, slot := 0, constantValue := 0 }, { name := "BIG_ENDIAN", type := .boolean, accessFlags := 26, slot := 1, constantValue := 0 }, { name := "LOG2_ARRAY_BOOLEAN_INDEX_SCALE", type := .int, accessFlags := 25, slot := 2, constantValue := 0 }, { name := "LOG2_ARRAY_BYTE_INDEX_SCALE", type := .int, accessFlags := 25, slot := 3, constantValue := 0 }, { name := "LOG2_ARRAY_CHAR_INDEX_SCALE", type := .int, accessFlags := 25, slot := 4, constantValue := 0 }, { name := "LOG2_ARRAY_SHORT_INDEX_SCALE", type := .int, accessFlags := 25, slot := 5, constantValue := 0 }, { name := "LOG2_ARRAY_INT_INDEX_SCALE", type := .int, accessFlags := 25, slot := 6, constantValue := 0 }, { name := "LOG2_ARRAY_LONG_INDEX_SCALE", type := .int, accessFlags := 25, slot := 7, constantValue := 0 }, { name := "LOG2_ARRAY_FLOAT_INDEX_SCALE", type := .int, accessFlags := 25, slot := 8, constantValue := 0 }, { name := "LOG2_ARRAY_DOUBLE_INDEX_SCALE", type := .int, accessFlags := 25, slot := 9, constantValue := 0 }, { name := "LOG2_BYTE_BIT_SIZE", type := .int, accessFlags := 26, slot := 10, constantValue := 0 }, { name := "T_BOOLEAN", type := .int, accessFlags := 25, slot := 11, constantValue := 0 }, { name := "T_CHAR", type := .int, accessFlags := 25, slot := 12, constantValue := 0 }, { name := "T_FLOAT", type := .int, accessFlags := 25, slot := 13, constantValue := 0 }, { name := "T_DOUBLE", type := .int, accessFlags := 25, slot := 14, constantValue := 0 }, { name := "T_BYTE", type := .int, accessFlags := 25, slot := 15, constantValue := 0 }, { name := "T_SHORT", type := .int, accessFlags := 25, slot := 16, constantValue := 0 }, { name := "T_INT", type := .int, accessFlags := 25, slot := 17, constantValue := 0 }, { name := "T_LONG", type := .int, accessFlags := 25, slot := 18, constantValue := 0 }, { name := "JLA", type := (.object "jdk/internal/access/JavaLangAccess"), accessFlags := 26, slot := 19, constantValue := 0 }, { name := "SOFT_MAX_ARRAY_LENGTH", type := .int, accessFlags := 25, slot := 20, constantValue := 0 }]
  methods := #[k21m0]
  instanceTypes := #[]
  staticTypes := #[(.object "jdk/internal/misc/Unsafe"), .boolean, .int, .int, .int, .int, .int, .int, .int, .int, .int, .int, .int, .int, .int, .int, .int, .int, .int, (.object "jdk/internal/access/JavaLangAccess"), .int]
  resolved := Array.replicate 378 none
  statics := none }

def pool22 : Array CpInfo := pool [(1, u "java/lang/Cloneable"), (0, .class_ 1), (0, u "java/lang/Object"), (0, .class_ 3)] 3

/-- java/lang/Cloneable -/
def k22 : Class := { plain "java/lang/Cloneable" (some 0) with
  accessFlags := 1537
  interfaces := #[]
  cf := some (fileOf pool22 2 #[] #[] 1537 4 #[] #[])
  fields := #[]
  methods := #[]
  instanceTypes := #[]
  staticTypes := #[]
  resolved := Array.replicate 8 none
  statics := none }

/-- the primitive byte -/
def k23 : Class := { plain "byte" none with kind := .primitive 'B', accessFlags := 0x411 }
/-- [B -/
def k24 : Class := { plain "[B" (some 0) with kind := .array 23 .byte, interfaces := #[22, 4], accessFlags := 1041 }

/-- the primitive char -/
def k25 : Class := { plain "char" none with kind := .primitive 'C', accessFlags := 0x411 }
/-- [C -/
def k26 : Class := { plain "[C" (some 0) with kind := .array 25 .char, interfaces := #[22, 4], accessFlags := 1041 }

/-- the primitive int -/
def k27 : Class := { plain "int" none with kind := .primitive 'I', accessFlags := 0x411 }
/-- [I -/
def k28 : Class := { plain "[I" (some 0) with kind := .array 27 .int, interfaces := #[22, 4], accessFlags := 1041 }

/-- [Ljava/lang/Object; -/
def k29 : Class := { plain "[Ljava/lang/Object;" (some 0) with kind := .array 0 (.object "java/lang/Object"), interfaces := #[22, 4], accessFlags := 1041 }

def heap : Heap := #[{ cls := 9, slots := #[.long 0, .int 1, .null, .int 0, .null, .int 0, .int 0], vm := .statics 9 },
  { cls := 12, slots := #[.long 0, .int 0, .null, .null, .null, .null, .null, .ref 11, .int 0, .int 0], vm := .statics 12 },
  { cls := 17, slots := #[.ref 5, .ref 6, .ref 7, .ref 8, .ref 9, .ref 10, .null, .null], vm := .statics 17 },
  { cls := 20, slots := #[.null, .null, .null], vm := .statics 20 },
  { cls := 29, slots := #[], vm := .none },
  { cls := 17, slots := #[.null, .int 0, .int 1, .null], vm := .none },
  { cls := 17, slots := #[.null, .int 0, .int 2, .null], vm := .none },
  { cls := 17, slots := #[.null, .int 0, .int 3, .null], vm := .none },
  { cls := 17, slots := #[.null, .int 0, .int 4, .null], vm := .none },
  { cls := 17, slots := #[.null, .int 0, .int 5, .null], vm := .none },
  { cls := 17, slots := #[.null, .int 0, .int 6, .null], vm := .none },
  { cls := 15, slots := #[.null, .null, .ref 4, .int 0], vm := .none }]
def classes : Array Class := #[k0, k1, k2, k3, k4, k5, k6, k7, k8, k9, k10, k11, k12, k13, k14, k15, k16, k17, k18, k19, k20, k21, k22, k23, k24, k25, k26, k27, k28, k29]
def interned : List (Array UInt16 × Addr) := []
def slotsUsed : Nat := 56
def theMethod : MethodId := ⟨1, 2⟩
def args0 : Array Value := #[.int 5, .int 7, .int 65, .int 66]
def aboutOver (below : List Frame) : State where
  vm := { classes := classes, interned := interned.toArray }
  heap := heap
  slotsUsed := slotsUsed
  threads := #[{ frames := .invoking theMethod args0 :: below }]
def below0 : List Frame := [.native { method := ⟨0, 0⟩, args := #[] }]
def about1 : State := aboutOver below0
def p0 : Program := .bare "" "" ""
def e0 : Env := launch0.env 0 0 0
theorem w_frames : about1.frames = Frame.invoking theMethod args0 :: below0 := rfl
set_option maxRecDepth 65536 in
theorem w_args : argsFit about1.vm theMethod args0 = true := by decide +kernel
set_option maxRecDepth 65536 in
theorem w_heap : heapFits about1 = true := by decide +kernel
set_option maxRecDepth 65536 in
theorem w_runnable : about1.curStatus? = some .runnable := by decide +kernel
set_option maxRecDepth 65536 in
theorem w_alone : about1.alone = true := by decide +kernel
set_option maxRecDepth 65536 in
theorem w_named : about1.methodNamed? x = some theMethod := by decide +kernel
set_option maxRecDepth 65536 in
theorem w_hears : about1.hears theMethod below0 = true := by decide +kernel
set_option maxRecDepth 65536 in
theorem w_ripe : about1.ripe theMethod args0 below0 = true := by decide +kernel
theorem w_running : about1.status = .running := rfl
set_option maxRecDepth 65536 in
theorem w_room : about1.hasRoom e0.platform room_1 = true :=
  launch0.hasRoom_least _ room_1 (by decide +kernel) (by decide +kernel) (by decide +kernel) (by decide +kernel) (by decide +kernel) (by decide +kernel)
theorem allAtoms_all (ts : List Jvm.Cond) (a : Array Jvm.Value) (st : Jvm.State) : (allAtoms ts).before a st = ts.all (fun c => c.before a st) := by
  induction ts with
  | nil => rfl
  | cons c t ih =>
    show (Jvm.Cond.and c (allAtoms t)).before a st = _
    rw [Jvm.Cond.before_and, ih, List.all_cons]
def words1 : List Jvm.Cond := Jvm.Cond.code x code maxLocals ret :: tables_1
/-- a 'code' word, met by the world's own term for the bytes: nothing is compared byte by byte -/
theorem code_word {y : MethodName} {bytes : ByteArray} {mx : Nat} {rt : Option FieldType} {a : Array Value} {s : State} {m : MethodId} {meth : Method} {c : Code} (h1 : s.methodNamed? y = some m) (h2 : s.vm.method? m = some meth) (h3 : meth.code = some c) (h4 : c.code = bytes)
    (h5 : (c.maxLocals == mx && c.exceptionTable.isEmpty && decide (c.maxStack ≤ mostOperands) && decide (meth.sig.returnType = rt) && !meth.locks && decide (parseMethodDescriptor y.desc = some meth.sig)) = true) : (Jvm.Cond.code y bytes mx rt).before a s = true := by
  simp only [Bool.and_eq_true, beq_iff_eq, Bool.not_eq_true', decide_eq_true_eq] at h5
  obtain ⟨⟨⟨⟨⟨g1, g2⟩, g3⟩, g4⟩, g5⟩, g6⟩ := h5
  simp [Cond.before, Cond.holds, Cond.value, h1, h2, h3, h4, g1, g2, g3, g4, g5, g6]
def isCode : Jvm.Cond → Bool
  | .code _ _ _ _ => true
  | _ => false
theorem all_split {L : List Jvm.Cond} {P : Jvm.Cond → Bool} (h1 : L.all (fun c => isCode c || P c) = true) (h2 : ∀ c ∈ L.filter isCode, P c = true) : L.all P = true := by
  refine List.all_eq_true.mpr fun c hc => ?_
  have h := List.all_eq_true.mp h1 c hc
  rcases Bool.eq_false_or_eq_true (isCode c) with hi | hi
  · exact h2 c (List.mem_filter.mpr ⟨hc, hi⟩)
  · simpa [hi] using h
set_option maxRecDepth 65536 in
theorem w_c0 : (Jvm.Cond.code x code maxLocals ret).before args0 about1 = true := code_word (m := ⟨1, 2⟩) (meth := k1m2) (c := k1c2) (by decide +kernel) rfl rfl rfl (by decide +kernel)
set_option maxRecDepth 65536 in
theorem w_c1 : (Jvm.Cond.code ({ cls := "java/lang/String", name := "<init>", desc := "([C)V" } : Jvm.MethodName) jdk_42_method_3_code (2 : Nat) (Option.none : Option Jvm.ClassFile.FieldType)).before args0 about1 = true := code_word (m := ⟨9, 1⟩) (meth := k9m1) (c := k9c1) (by decide +kernel) rfl rfl rfl (by decide +kernel)
set_option maxRecDepth 65536 in
theorem w_c2 : (Jvm.Cond.code ({ cls := "java/lang/String", name := "<init>", desc := "([CIILjava/lang/Void;)V" } : Jvm.MethodName) jdk_42_method_149_code (6 : Nat) (Option.none : Option Jvm.ClassFile.FieldType)).before args0 about1 = true := code_word (m := ⟨9, 2⟩) (meth := k9m2) (c := k9c2) (by decide +kernel) rfl rfl rfl (by decide +kernel)
set_option maxRecDepth 65536 in
theorem w_c3 : (Jvm.Cond.code ({ cls := "java/lang/Object", name := "<init>", desc := "()V" } : Jvm.MethodName) object_method_1_code (1 : Nat) (Option.none : Option Jvm.ClassFile.FieldType)).before args0 about1 = true := code_word (m := ⟨0, 0⟩) (meth := k0m0) (c := k0c0) (by decide +kernel) rfl rfl rfl (by decide +kernel)
set_option maxRecDepth 65536 in
theorem w_c4 : (Jvm.Cond.code ({ cls := "java/lang/StringUTF16", name := "compress", desc := "([CII)[B" } : Jvm.MethodName) jdk_52_method_16_code (6 : Nat) (Option.some (Jvm.ClassFile.FieldType.array Jvm.ClassFile.FieldType.byte))).before args0 about1 = true := code_word (m := ⟨10, 2⟩) (meth := k10m2) (c := k10c2) (by decide +kernel) rfl rfl rfl (by decide +kernel)
set_option maxRecDepth 65536 in
theorem w_c5 : (Jvm.Cond.code ({ cls := "java/lang/StringUTF16", name := "compress", desc := "([CI[BII)I" } : Jvm.MethodName) jdk_52_method_21_code (7 : Nat) (Option.some Jvm.ClassFile.FieldType.int)).before args0 about1 = true := code_word (m := ⟨10, 3⟩) (meth := k10m3) (c := k10c3) (by decide +kernel) rfl rfl rfl (by decide +kernel)
set_option maxRecDepth 65536 in
theorem w_c6 : (Jvm.Cond.code ({ cls := "java/lang/StringUTF16", name := "coderFromArrayLen", desc := "([BI)B" } : Jvm.MethodName) jdk_52_method_15_code (2 : Nat) (Option.some Jvm.ClassFile.FieldType.byte)).before args0 about1 = true := code_word (m := ⟨10, 1⟩) (meth := k10m1) (c := k10c1) (by decide +kernel) rfl rfl rfl (by decide +kernel)
set_option maxRecDepth 65536 in
theorem w_c7 : (Jvm.Cond.code ({ cls := "java/util/Map", name := "of", desc := "()Ljava/util/Map;" } : Jvm.MethodName) jdk_72_method_26_code (0 : Nat) (Option.some (Jvm.ClassFile.FieldType.object "java/util/Map"))).before args0 about1 = true := code_word (m := ⟨11, 0⟩) (meth := k11m0) (c := k11c0) (by decide +kernel) rfl rfl rfl (by decide +kernel)
set_option maxRecDepth 65536 in
theorem w_c8 : (Jvm.Cond.code ({ cls := "com/example/tendril/tendril/ejbql/Schema$Bean", name := "<init>", desc := "(Ljava/lang/String;Ljava/lang/String;Ljava/lang/String;Ljava/util/Map;Ljava/util/Map;)V" } : Jvm.MethodName) prog_60_method_1_code (6 : Nat) (Option.none : Option Jvm.ClassFile.FieldType)).before args0 about1 = true := code_word (m := ⟨3, 0⟩) (meth := k3m0) (c := k3c0) (by decide +kernel) rfl rfl rfl (by decide +kernel)
set_option maxRecDepth 65536 in
theorem w_c9 : (Jvm.Cond.code ({ cls := "java/lang/Record", name := "<init>", desc := "()V" } : Jvm.MethodName) jdk_30_method_1_code (1 : Nat) (Option.none : Option Jvm.ClassFile.FieldType)).before args0 about1 = true := code_word (m := ⟨2, 0⟩) (meth := k2m0) (c := k2c0) (by decide +kernel) rfl rfl rfl (by decide +kernel)
set_option maxRecDepth 65536 in
theorem w_c10 : (Jvm.Cond.code ({ cls := "java/util/Map", name := "copyOf", desc := "(Ljava/util/Map;)Ljava/util/Map;" } : Jvm.MethodName) jdk_72_method_39_code (1 : Nat) (Option.some (Jvm.ClassFile.FieldType.object "java/util/Map"))).before args0 about1 = true := code_word (m := ⟨11, 1⟩) (meth := k11m1) (c := k11c1) (by decide +kernel) rfl rfl rfl (by decide +kernel)
set_option maxRecDepth 65536 in
theorem w_c11 : (Jvm.Cond.code ({ cls := "com/example/tendril/tendril/ejbql/TypeIsEntityPinLaw", name := "pick", desc := "(I)Lcom/example/tendril/tendril/ejbql/ValueType;" } : Jvm.MethodName) method_2_code (2 : Nat) (Option.some (Jvm.ClassFile.FieldType.object "com/example/tendril/tendril/ejbql/ValueType"))).before args0 about1 = true := code_word (m := ⟨1, 1⟩) (meth := k1m1) (c := k1c1) (by decide +kernel) rfl rfl rfl (by decide +kernel)
set_option maxRecDepth 65536 in
theorem w_c12 : (Jvm.Cond.code ({ cls := "com/example/tendril/tendril/ejbql/QueryChecker$Type", name := "<init>", desc := "(Lcom/example/tendril/tendril/ejbql/ValueType;Lcom/example/tendril/tendril/ejbql/Schema$Bean;Z)V" } : Jvm.MethodName) prog_58_method_1_code (4 : Nat) (Option.none : Option Jvm.ClassFile.FieldType)).before args0 about1 = true := code_word (m := ⟨18, 0⟩) (meth := k18m0) (c := k18c0) (by decide +kernel) rfl rfl rfl (by decide +kernel)
set_option maxRecDepth 65536 in
theorem w_c13 : (Jvm.Cond.code ({ cls := "com/example/tendril/tendril/ejbql/QueryChecker$Type", name := "of", desc := "(Lcom/example/tendril/tendril/ejbql/ValueType;)Lcom/example/tendril/tendril/ejbql/QueryChecker$Type;" } : Jvm.MethodName) prog_58_method_2_code (1 : Nat) (Option.some (Jvm.ClassFile.FieldType.object "com/example/tendril/tendril/ejbql/QueryChecker$Type"))).before args0 about1 = true := code_word (m := ⟨18, 1⟩) (meth := k18m1) (c := k18c1) (by decide +kernel) rfl rfl rfl (by decide +kernel)
set_option maxRecDepth 65536 in
theorem w_c14 : (Jvm.Cond.code ({ cls := "com/example/tendril/tendril/ejbql/QueryChecker$Type", name := "isEntity", desc := "()Z" } : Jvm.MethodName) prog_58_method_6_code (1 : Nat) (Option.some Jvm.ClassFile.FieldType.boolean)).before args0 about1 = true := code_word (m := ⟨18, 4⟩) (meth := k18m4) (c := k18c4) (by decide +kernel) rfl rfl rfl (by decide +kernel)
set_option maxRecDepth 65536 in
theorem w_c15 : (Jvm.Cond.code ({ cls := "com/example/tendril/tendril/ejbql/QueryChecker$Type", name := "objects", desc := "(Lcom/example/tendril/tendril/ejbql/Schema$Bean;)Lcom/example/tendril/tendril/ejbql/QueryChecker$Type;" } : Jvm.MethodName) prog_58_method_3_code (1 : Nat) (Option.some (Jvm.ClassFile.FieldType.object "com/example/tendril/tendril/ejbql/QueryChecker$Type"))).before args0 about1 = true := code_word (m := ⟨18, 2⟩) (meth := k18m2) (c := k18c2) (by decide +kernel) rfl rfl rfl (by decide +kernel)
set_option maxRecDepth 65536 in
theorem w_c16 : (Jvm.Cond.code ({ cls := "com/example/tendril/tendril/ejbql/QueryChecker$Type", name := "collectionOf", desc := "(Lcom/example/tendril/tendril/ejbql/Schema$Bean;)Lcom/example/tendril/tendril/ejbql/QueryChecker$Type;" } : Jvm.MethodName) prog_58_method_4_code (1 : Nat) (Option.some (Jvm.ClassFile.FieldType.object "com/example/tendril/tendril/ejbql/QueryChecker$Type"))).before args0 about1 = true := code_word (m := ⟨18, 3⟩) (meth := k18m3) (c := k18c3) (by decide +kernel) rfl rfl rfl (by decide +kernel)
def codes1 : List Jvm.Cond := [Jvm.Cond.code x code maxLocals ret, Jvm.Cond.code ({ cls := "java/lang/String", name := "<init>", desc := "([C)V" } : Jvm.MethodName) jdk_42_method_3_code (2 : Nat) (Option.none : Option Jvm.ClassFile.FieldType), Jvm.Cond.code ({ cls := "java/lang/String", name := "<init>", desc := "([CIILjava/lang/Void;)V" } : Jvm.MethodName) jdk_42_method_149_code (6 : Nat) (Option.none : Option Jvm.ClassFile.FieldType), Jvm.Cond.code ({ cls := "java/lang/Object", name := "<init>", desc := "()V" } : Jvm.MethodName) object_method_1_code (1 : Nat) (Option.none : Option Jvm.ClassFile.FieldType), Jvm.Cond.code ({ cls := "java/lang/StringUTF16", name := "compress", desc := "([CII)[B" } : Jvm.MethodName) jdk_52_method_16_code (6 : Nat) (Option.some (Jvm.ClassFile.FieldType.array Jvm.ClassFile.FieldType.byte)), Jvm.Cond.code ({ cls := "java/lang/StringUTF16", name := "compress", desc := "([CI[BII)I" } : Jvm.MethodName) jdk_52_method_21_code (7 : Nat) (Option.some Jvm.ClassFile.FieldType.int), Jvm.Cond.code ({ cls := "java/lang/StringUTF16", name := "coderFromArrayLen", desc := "([BI)B" } : Jvm.MethodName) jdk_52_method_15_code (2 : Nat) (Option.some Jvm.ClassFile.FieldType.byte), Jvm.Cond.code ({ cls := "java/util/Map", name := "of", desc := "()Ljava/util/Map;" } : Jvm.MethodName) jdk_72_method_26_code (0 : Nat) (Option.some (Jvm.ClassFile.FieldType.object "java/util/Map")), Jvm.Cond.code ({ cls := "com/example/tendril/tendril/ejbql/Schema$Bean", name := "<init>", desc := "(Ljava/lang/String;Ljava/lang/String;Ljava/lang/String;Ljava/util/Map;Ljava/util/Map;)V" } : Jvm.MethodName) prog_60_method_1_code (6 : Nat) (Option.none : Option Jvm.ClassFile.FieldType), Jvm.Cond.code ({ cls := "java/lang/Record", name := "<init>", desc := "()V" } : Jvm.MethodName) jdk_30_method_1_code (1 : Nat) (Option.none : Option Jvm.ClassFile.FieldType), Jvm.Cond.code ({ cls := "java/util/Map", name := "copyOf", desc := "(Ljava/util/Map;)Ljava/util/Map;" } : Jvm.MethodName) jdk_72_method_39_code (1 : Nat) (Option.some (Jvm.ClassFile.FieldType.object "java/util/Map")), Jvm.Cond.code ({ cls := "com/example/tendril/tendril/ejbql/TypeIsEntityPinLaw", name := "pick", desc := "(I)Lcom/example/tendril/tendril/ejbql/ValueType;" } : Jvm.MethodName) method_2_code (2 : Nat) (Option.some (Jvm.ClassFile.FieldType.object "com/example/tendril/tendril/ejbql/ValueType")), Jvm.Cond.code ({ cls := "com/example/tendril/tendril/ejbql/QueryChecker$Type", name := "<init>", desc := "(Lcom/example/tendril/tendril/ejbql/ValueType;Lcom/example/tendril/tendril/ejbql/Schema$Bean;Z)V" } : Jvm.MethodName) prog_58_method_1_code (4 : Nat) (Option.none : Option Jvm.ClassFile.FieldType), Jvm.Cond.code ({ cls := "com/example/tendril/tendril/ejbql/QueryChecker$Type", name := "of", desc := "(Lcom/example/tendril/tendril/ejbql/ValueType;)Lcom/example/tendril/tendril/ejbql/QueryChecker$Type;" } : Jvm.MethodName) prog_58_method_2_code (1 : Nat) (Option.some (Jvm.ClassFile.FieldType.object "com/example/tendril/tendril/ejbql/QueryChecker$Type")), Jvm.Cond.code ({ cls := "com/example/tendril/tendril/ejbql/QueryChecker$Type", name := "isEntity", desc := "()Z" } : Jvm.MethodName) prog_58_method_6_code (1 : Nat) (Option.some Jvm.ClassFile.FieldType.boolean), Jvm.Cond.code ({ cls := "com/example/tendril/tendril/ejbql/QueryChecker$Type", name := "objects", desc := "(Lcom/example/tendril/tendril/ejbql/Schema$Bean;)Lcom/example/tendril/tendril/ejbql/QueryChecker$Type;" } : Jvm.MethodName) prog_58_method_3_code (1 : Nat) (Option.some (Jvm.ClassFile.FieldType.object "com/example/tendril/tendril/ejbql/QueryChecker$Type")), Jvm.Cond.code ({ cls := "com/example/tendril/tendril/ejbql/QueryChecker$Type", name := "collectionOf", desc := "(Lcom/example/tendril/tendril/ejbql/Schema$Bean;)Lcom/example/tendril/tendril/ejbql/QueryChecker$Type;" } : Jvm.MethodName) prog_58_method_4_code (1 : Nat) (Option.some (Jvm.ClassFile.FieldType.object "com/example/tendril/tendril/ejbql/QueryChecker$Type"))]
set_option maxRecDepth 65536 in
theorem codes_eq : words1.filter isCode = codes1 := rfl
theorem w_codes : ∀ c ∈ words1.filter isCode, c.before args0 about1 = true := by
  rw [codes_eq]
  intro c hc
  simp only [codes1, List.mem_cons, List.not_mem_nil, or_false] at hc
  rcases hc with rfl | rfl | rfl | rfl | rfl | rfl | rfl | rfl | rfl | rfl | rfl | rfl | rfl | rfl | rfl | rfl | rfl
  · exact w_c0
  · exact w_c1
  · exact w_c2
  · exact w_c3
  · exact w_c4
  · exact w_c5
  · exact w_c6
  · exact w_c7
  · exact w_c8
  · exact w_c9
  · exact w_c10
  · exact w_c11
  · exact w_c12
  · exact w_c13
  · exact w_c14
  · exact w_c15
  · exact w_c16
set_option maxRecDepth 65536 in
theorem w_t1 : (words1.take 24).all (fun c => isCode c || c.before args0 about1) = true := by decide +kernel
set_option maxRecDepth 65536 in
theorem w_t2 : ((words1.drop 24).take 24).all (fun c => isCode c || c.before args0 about1) = true := by decide +kernel
set_option maxRecDepth 65536 in
theorem w_t3 : (((words1.drop 24).drop 24).take 24).all (fun c => isCode c || c.before args0 about1) = true := by decide +kernel
set_option maxRecDepth 65536 in
theorem w_t4 : ((((words1.drop 24).drop 24).drop 24).take 24).all (fun c => isCode c || c.before args0 about1) = true := by decide +kernel
set_option maxRecDepth 65536 in
theorem w_t5 : ((((words1.drop 24).drop 24).drop 24).drop 24).all (fun c => isCode c || c.before args0 about1) = true := by decide +kernel
theorem w_tables : (allAtoms (Jvm.Cond.code x code maxLocals ret :: tables_1)).before args0 about1 = true := by
  rw [allAtoms_all]
  show words1.all (fun c => c.before args0 about1) = true
  refine all_split ?_ w_codes
  rw [← List.take_append_drop 24 words1, List.all_append, w_t1, ← List.take_append_drop 24 (words1.drop 24), List.all_append, w_t2, ← List.take_append_drop 24 ((words1.drop 24).drop 24), List.all_append, w_t3, ← List.take_append_drop 24 (((words1.drop 24).drop 24).drop 24), List.all_append, w_t4, w_t5]
  rfl
set_option maxRecDepth 65536 in
theorem w_rest : rest_1_c.before args0 about1 = true := by decide +kernel
set_option maxRecDepth 65536 in
theorem w_case : (Jvm.Cond.and given_1 narrow_1).before args0 about1 = true := by decide +kernel
theorem w_applies : (headSpec (Jvm.Cond.code x code maxLocals ret :: tables_1) room_1).applies x e0.platform about1 = true :=
  (Spec.applies_iff w_frames).mpr ⟨w_running, w_runnable, w_alone, w_named, w_hears, w_ripe, w_room, w_tables⟩
theorem atStart : AtStart classFile x code maxLocals ret World_1 tables_1 room_1 Calls_1 rest_1 Pre_1 launch0 p0 e0 about1 theMethod args0 below0 :=
  ⟨lists_1, trivial, launch0.admits_env _ _ _, launch0.least_env, fairChoices_fair.cas, fairChoices_fair.clock, w_frames, w_args, w_heap, w_applies, trivial, w_rest, w_case⟩
end start1
theorem witness_1 : WitnessClaimed_1 := ⟨start1.p0, start1.e0, start1.about1, start1.theMethod, start1.args0, start1.below0, start1.atStart⟩
end Jvm.Pilot.@@N@@
